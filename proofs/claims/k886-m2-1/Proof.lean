import JvmDerived
import JvmDerived.Pilot.@@N@@Statement
import JvmDerived.Pilot.@@N@@Code
set_option linter.unusedVariables false
set_option linter.unusedSimpArgs false
namespace Jvm.OwnKit
open Sem ClassFile Op Lib Jvm.Free Jvm.Stand Jvm.LawKit Jvm.RoadKit
/-! My own layer: an abstract heap (a list of objects made since the law began) and one rule a bytecode step, each over a law of the library. -/
abbrev oz : Value := .int 0
abbrev ol : Value := .long 0
abbrev rf (n0 i : Nat) : Value := .ref (n0 + i)
abbrev Ob : Type := (Nat × List Value) ⊕ (FieldType × List Value)
abbrev KTab : Type := List (String × List (String × String × String))
def ObAt (Z : State) (K : KTab) (h : Heap) (a : Addr) : Ob → Prop
  | .inl (k, vs) => ∃ C fs, K[k]? = some (C, fs) ∧ Exa Z h a C ∧ vs.length = fs.length ∧ ∀ (j : Nat) (f : String × String × String) (v : Value), fs[j]? = some f → vs[j]? = some v → Fld Z h a f.1 f.2.1 f.2.2 v
  | .inr (ty, vs) => (Exa Z h a ("[" ++ ty.toString) ∧ ∀ v ∈ vs, fits ty v = true) ∧ ∃ c : Cell, Arr Z h a c ty ∧ c.slots = vs.toArray ∧ ∀ C, ty = .object C → Ovr Z c.cls C
def Rel (Z : State) (K : KTab) (n0 : Nat) (h : Heap) (A : List Ob) : Prop := h.size = n0 + A.length ∧ ∀ (i : Nat) (o : Ob), A[i]? = some o → ObAt Z K h (n0 + i) o
def KOk (Z : State) (a0 : Array Value) (K : KTab) : Prop := ∀ (k : Nat) (C : String) (fs : List (String × String × String)), K[k]? = some (C, fs) →
  (∃ n, (Cond.instantiable C n).before a0 Z = true) ∧ (∀ (j : Nat) (f : String × String × String), fs[j]? = some f → Laid Z a0 C f.1 f.2.1 f.2.2 ∧ ∃ t, parseFieldDescriptor f.2.2 = some t) ∧
  ∀ (i j : Nat) (f g : String × String × String), fs[i]? = some f → fs[j]? = some g → i ≠ j → f.2.1 ≠ g.2.1
section Facts
variable {Z : State} {a0 : Array Value} {K : KTab} {h h' : Heap} {a b : Addr} {o o' : Ob} {n0 : Nat} {A : List Ob} {sl : Nat} {v : Value}
theorem ObAt.ext (E : Ext h h') (F : ObAt Z K h a o) : ObAt Z K h' a o := by
  rcases o with ⟨k, vs⟩ | ⟨ty, vs⟩
  · obtain ⟨C, fs, h1, h2, h3, h4⟩ := F
    exact ⟨C, fs, h1, h2.ext E, h3, fun j f v q r => (h4 j f v q r).ext E⟩
  · obtain ⟨⟨h1, hf⟩, c, h2, h3, h4⟩ := F
    exact ⟨⟨h1.ext E, hf⟩, c, h2.ext E, h3, h4⟩
theorem ObAt.other (W : Wr h h' b sl v) (hne : a ≠ b) (F : ObAt Z K h a o) : ObAt Z K h' a o := by
  rcases o with ⟨k, vs⟩ | ⟨ty, vs⟩
  · obtain ⟨C, fs, h1, h2, h3, h4⟩ := F
    exact ⟨C, fs, h1, h2.wr W, h3, fun j f v q r => (h4 j f v q r).other W (Or.inl hne)⟩
  · obtain ⟨⟨h1, hf⟩, c, h2, h3, h4⟩ := F
    exact ⟨⟨h1.wr W, hf⟩, c, h2.other W hne, h3, h4⟩
theorem ObAt.keep {ws : List Addr} (E : Keep h h' ws) (hne : a ∉ ws) (F : ObAt Z K h a o) : ObAt Z K h' a o := by
  rcases o with ⟨k, vs⟩ | ⟨ty, vs⟩
  · obtain ⟨C, fs, h1, h2, h3, h4⟩ := F
    exact ⟨C, fs, h1, h2.keep E, h3, fun j f v q r => (h4 j f v q r).keep E hne⟩
  · obtain ⟨⟨h1, hf⟩, c, h2, h3, h4⟩ := F
    exact ⟨⟨h1.keep E, hf⟩, c, ⟨E.2.1 a c h2.1 hne, h2.2⟩, h3, h4⟩
theorem Rel.keep {i : Nat} (R : Rel Z K n0 h A) (E : Keep h h' [n0 + i]) (hs : h'.size = h.size) (hO : ObAt Z K h' (n0 + i) o') : Rel Z K n0 h' (A.set i o') := by
  refine ⟨by rw [hs, R.1]; simp, fun j o hj => ?_⟩
  by_cases e : i = j
  · subst e
    obtain ⟨hl, -⟩ := List.getElem?_eq_some_iff.mp hj
    rw [List.getElem?_set_self (by simpa using hl)] at hj
    cases hj; exact hO
  · rw [List.getElem?_set_ne e] at hj
    exact (R.2 j o hj).keep E (fun q => e (Nat.add_left_cancel (List.mem_singleton.mp q)).symm)
theorem ObAt.exa {k : Nat} {vs : List Value} {C : String} {fs : List (String × String × String)} (hk : K[k]? = some (C, fs)) (F : ObAt Z K h a (.inl (k, vs))) : Exa Z h a C := by
  obtain ⟨C', fs', h1, h2, -⟩ := F
  cases hk.symm.trans h1; exact h2
theorem Rel.push (R : Rel Z K n0 h A) (E : Ext h h') (hs : h'.size = n0 + (A.length + 1)) (hN : ObAt Z K h' (n0 + A.length) o) : Rel Z K n0 h' (A ++ [o]) := by
  refine ⟨by rw [hs]; simp, fun i o' hi => ?_⟩
  by_cases hlt : i < A.length
  · rw [List.getElem?_append_left hlt] at hi; exact (R.2 i o' hi).ext E
  · rw [List.getElem?_append_right (by omega)] at hi
    have he : i - A.length = 0 := by
      have := (List.getElem?_eq_some_iff.mp hi).1
      simp at this; omega
    rw [he] at hi
    cases hi
    have : i = A.length := by omega
    rw [this]; exact hN
theorem Rel.set {i : Nat} (R : Rel Z K n0 h A) (W : Wr h h' (n0 + i) sl v) (hO : ObAt Z K h' (n0 + i) o') : Rel Z K n0 h' (A.set i o') := by
  refine ⟨by rw [W.size, R.1]; simp, fun j o hj => ?_⟩
  by_cases e : i = j
  · subst e
    obtain ⟨hl, -⟩ := List.getElem?_eq_some_iff.mp hj
    rw [List.getElem?_set_self (by simpa using hl)] at hj
    cases hj; exact hO
  · rw [List.getElem?_set_ne e] at hj
    exact (R.2 j o hj).other W (fun q => e (Nat.add_left_cancel q).symm)
theorem ObAt.setF (KK : KOk Z a0 K) {k j : Nat} {vs : List Value} {C : String} {fs : List (String × String × String)} {f : String × String × String} (hk : K[k]? = some (C, fs)) (hj : fs[j]? = some f) (W : Wr h h' a (RoadKit.slotOf Z f.1 f.2.1 f.2.2) v) (F : ObAt Z K h a (.inl (k, vs))) : ObAt Z K h' a (.inl (k, vs.set j v)) := by
  obtain ⟨C', fs', h1, h2, h3, h4⟩ := F
  cases hk.symm.trans h1
  refine ⟨C, fs, hk, h2.wr W, by simpa using h3, fun j' f' v' q r => ?_⟩
  by_cases e : j = j'
  · subst e
    cases hj.symm.trans q
    have hl : j < vs.length := by rw [h3]; exact (List.getElem?_eq_some_iff.mp hj).1
    rw [List.getElem?_set_self hl] at r
    cases r
    exact (h4 j f vs[j] hj (List.getElem?_eq_getElem hl)).same W
  · rw [List.getElem?_set_ne e] at r
    obtain ⟨-, k2, k3⟩ := KK k C fs hk
    obtain ⟨L1, t1, p1⟩ := k2 j f hj
    obtain ⟨L2, t2, p2⟩ := k2 j' f' q
    exact (h4 j' f' v' q r).other W (Or.inr (slot_ne L2 L1 (k3 j' j f' f q hj (Ne.symm e)) p2 p1))
theorem ObAt.setA {ty : FieldType} {vs : List Value} {j : Nat} (W : Wr h h' a j v) (hv : fits ty v = true) (F : ObAt Z K h a (.inr (ty, vs))) : ObAt Z K h' a (.inr (ty, vs.set j v)) := by
  obtain ⟨⟨h1, hf⟩, c, h2, h3, h4⟩ := F
  refine ⟨⟨h1.wr W, fun w hw => ?_⟩, c.setSlot j v, h2.same W, ?_, h4⟩
  · rcases List.mem_or_eq_of_mem_set hw with q | rfl
    · exact hf w q
    · exact hv
  simp [Cell.setSlot, h3]
end Facts
/-! ## The walk -/
def Go (p : Program) (l : Launch) (e : Env) (R : Room) (s : State) (m : MethodId) (args : Array Value) (below : List Frame) (meth : Method) (c : Code) (Z : State) (K : KTab) (n0 : Nat) (Q : Option Value → List Ob → Prop)
    (pc : Nat) (ls : Array Slot) (st : List Value) (A : List Ob) (k n : Nat) : Prop :=
  ∀ (T : State) (locs : List Loc), Stand p l e R s m args below meth c T locs k n → Rel Z K n0 T.heap A → Fr n0 locs →
    ∃ s₂ o, Steps p.tables e below (T.setTop (mkF m pc ls st)) s₂ ∧ s₂.status = .running ∧ Ended s₂ below o ∧ ∃ v L, o = .returned v ∧ (∃ A', Q v A' ∧ Rel Z K n0 s₂.heap A' ∧ Fr n0 L) ∧ FrameEnd s o s₂ L R.cells R.slots
abbrev GoT : Type := Nat → Array Slot → List Value → List Ob → Nat → Nat → Prop
def IsGo (l : Launch) (Z : State) (a0 : Array Value) (K : KTab) (n0 b0 : Nat) (y : MethodName) (bytes : ByteArray) (maxL : Nat) (ret : Option FieldType) (R : Room) (Q : Option Value → List Ob → Prop) (G : GoT) : Prop :=
  ∃ (p : Program) (e : Env) (s : State) (m : MethodId) (args : Array Value) (below : List Frame) (meth : Method) (c : Code), p.tables.exec = Jvm.exec ∧ c.code = bytes ∧ c.maxLocals = maxL ∧ s.vm.findClass y.cls = some m.cls ∧ meth.name = y.name ∧ meth.sig.returnType = ret ∧ meth.locks = false ∧ Z.Warmed39 s.vm ∧ KOk Z a0 K ∧ s.heap.size = n0 + b0 ∧ G = Go p l e R s m args below meth c Z K n0 Q
/-- the contract of a method, by its arguments and the abstract heap -/
def Met (l : Launch) (Z : State) (K : KTab) (n0 : Nat) (y : MethodName) (bytes : ByteArray) (maxL : Nat) (ret : Option FieldType) (R : Room) (as : Array Value) (A : List Ob) (Q : Option Value → List Ob → Prop) : Prop :=
  ∀ (ws : List Jvm.Cond) (h0 : Heap), Rel Z K n0 h0 A → MetFree l y (head1 (Jvm.Cond.code y bytes maxL ret :: ws) R) (fun a U => a = as ∧ Z.Warmed39 U.vm ∧ U.heap = h0) (fun _ _ _ _ _ => True)
    (fun _ U o U' => ∃ v L, o = .returned v ∧ (∃ A', Q v A' ∧ Rel Z K n0 U'.heap A' ∧ Fr n0 L) ∧ FrameEnd U o U' L R.cells R.slots)
def Nx (b : ByteArray) (pc : Nat) (i : Instr) (len pc' : Nat) : Prop := decode b pc = .ok (i, len) ∧ pc' = pc + len
def Bx (b : ByteArray) (pc : Nat) (i : Int → Instr) (t f : Nat) : Prop := ∃ o : Int, decode b pc = .ok (i o, 3) ∧ 0 ≤ (pc : Int) + o ∧ ((pc : Int) + o).toNat = t ∧ f = pc + 3
theorem npOf {d : String} {ps : List FieldType} {r : Option FieldType} {n : Nat} (hd : parseMethodDescriptor d = some ⟨ps, r⟩) (hl : n = ps.length) : ∀ sig, parseMethodDescriptor d = some sig → n = sig.parameters.length := fun sig h => by cases hd.symm.trans h; exact hl
theorem leb {a b : Nat} (h : Nat.ble a b = true) : a ≤ b := Nat.le_of_ble_eq_true h
theorem ltb {a b : Nat} (h : Nat.ble (a + 1) b = true) : a < b := Nat.le_of_ble_eq_true h
theorem fa0 {α : Type} {P : α → Prop} : ∀ x ∈ ([] : List α), P x := fun _ q => nomatch q
theorem faS {α : Type} {P : α → Prop} {y : α} {L : List α} (q : P y) (r : ∀ x ∈ L, P x) : ∀ x ∈ y :: L, P x := fun x z => (List.mem_cons.mp z).elim (fun u => u ▸ q) (r x)
theorem kokOf {Z : State} {a0 : Array Value} {K : KTab} (h : ∀ p ∈ K, (∃ n, (Jvm.Cond.instantiable p.1 n).before a0 Z = true) ∧ (∀ f ∈ p.2, Laid Z a0 p.1 f.1 f.2.1 f.2.2 ∧ ∃ t, parseFieldDescriptor f.2.2 = some t) ∧ (p.2.map (·.2.1)).Nodup) : KOk Z a0 K := by
  intro k C fs hk
  obtain ⟨h1, h2, h3⟩ := h _ (List.mem_of_getElem? hk)
  refine ⟨h1, fun j f hj => h2 f (List.mem_of_getElem? hj), fun i j f g hi hj hne e => hne ?_⟩
  have q1 : (fs.map (·.2.1))[i]? = some f.2.1 := by simp [List.getElem?_map, hi]
  have q2 : (fs.map (·.2.1))[j]? = some f.2.1 := by simp [List.getElem?_map, hj, e]
  obtain ⟨l1, e1⟩ := List.getElem?_eq_some_iff.mp q1
  obtain ⟨l2, e2⟩ := List.getElem?_eq_some_iff.mp q2
  have h4 := List.pairwise_iff_getElem.mp h3
  rcases Nat.lt_trichotomy i j with q | q | q
  · exact absurd (e1.trans e2.symm) (h4 i j l1 l2 q)
  · exact q
  · exact absurd (e2.trans e1.symm) (h4 j i l2 l1 q)
def Is (v : Option Value) (A' : List Ob) : Option Value → List Ob → Prop := fun v' B => v' = v ∧ B = A'
theorem i_lt {u v : Int32} {a b : Int} (hu : u.toInt = a) (hv : v.toInt = b) : u < v ↔ a < b := by subst hu hv; exact Int32.lt_iff_toInt_lt
theorem i_ge {u v : Int32} {a b : Int} (hu : u.toInt = a) (hv : v.toInt = b) : ¬ u < v ↔ b ≤ a := by rw [i_lt hu hv]; omega
theorem i_eq {u v : Int32} {a b : Int} (hu : u.toInt = a) (hv : v.toInt = b) : u = v ↔ a = b := by subst hu hv; exact Int32.toInt_inj.symm
theorem i_ne {u v : Int32} {a b : Int} (hu : u.toInt = a) (hv : v.toInt = b) : ¬ u = v ↔ ¬ a = b := not_congr (i_eq hu hv)
theorem j_lt {u v : Int64} {a b : Int} (hu : u.toInt = a) (hv : v.toInt = b) : u < v ↔ a < b := by subst hu hv; exact Int64.lt_iff_toInt_lt
theorem j_ge {u v : Int64} {a b : Int} (hu : u.toInt = a) (hv : v.toInt = b) : ¬ u < v ↔ b ≤ a := by rw [j_lt hu hv]; omega
theorem j_eq {u v : Int64} {a b : Int} (hu : u.toInt = a) (hv : v.toInt = b) : u = v ↔ a = b := by subst hu hv; exact Int64.toInt_inj.symm
theorem x_iadd {a b : Int32} {x y : Int} (ha : a.toInt = x) (hb : b.toInt = y) (h : -2147483648 ≤ x + y ∧ x + y < 2147483648) : (a + b).toInt = x + y := by
  have q := c_iadd a b
  have r := rng32 (a + b)
  rw [ha, hb] at q
  omega
theorem x_ladd {a b : Int64} {x y : Int} (ha : a.toInt = x) (hb : b.toInt = y) (h : -9223372036854775808 ≤ x + y ∧ x + y < 9223372036854775808) : (a + b).toInt = x + y := by
  have q := c_ladd a b
  have r := rng64 (a + b)
  rw [ha, hb] at q
  omega
theorem x_lsub {a b : Int64} {x y : Int} (ha : a.toInt = x) (hb : b.toInt = y) (h : -9223372036854775808 ≤ x - y ∧ x - y < 9223372036854775808) : (a - b).toInt = x - y := by
  have q := c_lsub a b
  have r := rng64 (a - b)
  rw [ha, hb] at q
  omega
theorem x_irem {a b : Int32} {x y : Int} (ha : a.toInt = x) (hb : b.toInt = y) (h : 0 ≤ x) : (a % b).toInt = x % y := by
  rw [(c_irem a b y hb).1 (by rw [ha]; exact h), ha]
theorem x_i2l {a : Int32} {x : Int} (ha : a.toInt = x) : (a.toInt64).toInt = x := by rw [c_i2l]; exact ha
section Rules
variable {l : Launch} {Z : State} {a0 : Array Value} {K : KTab} {n0 b0 : Nat} {y : MethodName} {bytes : ByteArray} {maxL : Nat} {ret : Option FieldType} {R : Room} {Q : Option Value → List Ob → Prop} {G : GoT}
variable {pc pc' : Nat} {ls ls' : Array Slot} {st st' : List Value} {A A' : List Ob} {k k' n n' : Nat}
theorem Met.of (KK : KOk Z a0 K) (hp : plainFor y = true) {as : Array Value} (hef : ∀ m, entryFrame m as maxL = mkF m 0 ls []) (body : ∀ G, IsGo l Z a0 K n0 A.length y bytes maxL ret R Q G → G 0 ls [] A 0 0) : Met l Z K n0 y bytes maxL ret R as A Q := by
  intro ws h0 hR
  refine MetFree.of_bodySF hp hisR ?_
  intro p e s m args below meth c s₁ Bd hml0 hP hK
  obtain ⟨rfl, hZ, hh⟩ := hP
  have e0 : s₁.heap = h0 := by rw [← hh, Bd.state]; rfl
  have H := body (Go p l e R s m args below meth c Z K n0 Q) ⟨p, e, s, m, args, below, meth, c, Bd.exec, Bd.bytes, hml0, findClass_of_methodNamed Bd.named, (name_of_methodNamed Bd.named Bd.method).1, Bd.returns, Bd.notSynchronized, hZ, KK, by rw [hh]; exact hR.1, rfl⟩
  obtain ⟨s₂, o, h1, h2, h3, h4⟩ := H s₁ [] (Stand.of_body Bd) (by rw [e0]; exact hR) (Fr.nil n0)
  exact ⟨s₂, o, castTop (hef m) h1, h2, h3, h4⟩
theorem Met.mono {as : Array Value} {Q' : Option Value → List Ob → Prop} (M : Met l Z K n0 y bytes maxL ret R as A Q) (h : ∀ v A', Q v A' → Q' v A') : Met l Z K n0 y bytes maxL ret R as A Q' := by
  intro ws h0 hR p e ha hc hk s m args below hf happ hP hK
  obtain ⟨n, o, h1, h2, h3, v, L, h4, ⟨A', h5, h6⟩, h7⟩ := M ws h0 hR p e ha hc hk s m args below hf happ hP hK
  exact ⟨n, o, h1, h2, h3, v, L, h4, ⟨A', h _ _ h5, h6⟩, h7⟩
theorem IsGo.lift (H : IsGo l Z a0 K n0 b0 y bytes maxL ret R Q G) (hs : ∀ {p : Program} {e : Env} {below : List Frame} {T target : State} {m : MethodId} {c : Code}, At T m c below → p.tables.exec = Jvm.exec → c.code = bytes → Steps p.tables e below (T.setTop (mkF m pc' ls' st')) target → Steps p.tables e below (T.setTop (mkF m pc ls st)) target)
    (h : G pc' ls' st' A k n) : G pc ls st A k n := by
  obtain ⟨p, e, s, m, args, below, meth, c, hx, hby, hml, hown, hnm, hret, hlk, hZ, hK, hb0, rfl⟩ := H
  intro T locs X hR hF
  obtain ⟨s₂, o, h1, h2⟩ := h T locs X hR hF
  exact ⟨s₂, o, hs X.here hx hby h1, h2⟩
/-! ### loads, stores, constants -/
theorem IsGo.iloadN (H : IsGo l Z a0 K n0 b0 y bytes maxL ret R Q G) {i : Fin 4} (hd : Nx bytes pc (.iload_n i) 1 pc') {v : Int32} (hl : ls[i.val]? = some (.val (.int v))) (h : G pc' ls (.int v :: st) A k n) : G pc ls st A k n := by
  obtain ⟨hd, rfl⟩ := hd
  exact H.lift (fun hA hx hby hr => XS.iloadN hA hx rfl (hb hby hd) hl hr) h
theorem IsGo.iload (H : IsGo l Z a0 K n0 b0 y bytes maxL ret R Q G) {i : Nat} (hd : Nx bytes pc (.iload i) 2 pc') {v : Int32} (hl : ls[i]? = some (.val (.int v))) (h : G pc' ls (.int v :: st) A k n) : G pc ls st A k n := by
  obtain ⟨hd, rfl⟩ := hd
  exact H.lift (fun hA hx hby hr => XS.iload hA hx rfl (hb hby hd) hl hr) h
theorem IsGo.lloadN (H : IsGo l Z a0 K n0 b0 y bytes maxL ret R Q G) {i : Fin 4} (hd : Nx bytes pc (.lload_n i) 1 pc') {v : Int64} (hl : ls[i.val]? = some (.val (.long v))) (h : G pc' ls (.long v :: st) A k n) : G pc ls st A k n := by
  obtain ⟨hd, rfl⟩ := hd
  exact H.lift (fun hA hx hby hr => XS.lloadN hA hx rfl (hb hby hd) hl hr) h
theorem IsGo.lload (H : IsGo l Z a0 K n0 b0 y bytes maxL ret R Q G) {i : Nat} (hd : Nx bytes pc (.lload i) 2 pc') {v : Int64} (hl : ls[i]? = some (.val (.long v))) (h : G pc' ls (.long v :: st) A k n) : G pc ls st A k n := by
  obtain ⟨hd, rfl⟩ := hd
  exact H.lift (fun hA hx hby hr => XS.lload hA hx rfl (hb hby hd) hl hr) h
theorem IsGo.aloadN (H : IsGo l Z a0 K n0 b0 y bytes maxL ret R Q G) {i : Fin 4} (hd : Nx bytes pc (.aload_n i) 1 pc') {v : Value} (hl : ls[i.val]? = some (.val v)) (hv : v.isRef = true) (h : G pc' ls (v :: st) A k n) : G pc ls st A k n := by
  obtain ⟨hd, rfl⟩ := hd
  exact H.lift (fun hA hx hby hr => XS.aloadN hA hx rfl (hb hby hd) hl hv hr) h
theorem IsGo.aload (H : IsGo l Z a0 K n0 b0 y bytes maxL ret R Q G) {i : Nat} (hd : Nx bytes pc (.aload i) 2 pc') {v : Value} (hl : ls[i]? = some (.val v)) (hv : v.isRef = true) (h : G pc' ls (v :: st) A k n) : G pc ls st A k n := by
  obtain ⟨hd, rfl⟩ := hd
  exact H.lift (fun hA hx hby hr => XS.aload hA hx rfl (hb hby hd) hl hv hr) h
theorem IsGo.istoreN (H : IsGo l Z a0 K n0 b0 y bytes maxL ret R Q G) {i : Fin 4} (hd : Nx bytes pc (.istore_n i) 1 pc') {v : Int32} (hl : storeLocals ls i.val (.int v) = some ls') (h : G pc' ls' st A k n) : G pc ls (.int v :: st) A k n := by
  obtain ⟨hd, rfl⟩ := hd
  exact H.lift (fun hA hx hby hr => XS.istoreN hA hx rfl (hb hby hd) rfl hl hr) h
theorem IsGo.istore (H : IsGo l Z a0 K n0 b0 y bytes maxL ret R Q G) {i : Nat} (hd : Nx bytes pc (.istore i) 2 pc') {v : Int32} (hl : storeLocals ls i (.int v) = some ls') (h : G pc' ls' st A k n) : G pc ls (.int v :: st) A k n := by
  obtain ⟨hd, rfl⟩ := hd
  exact H.lift (fun hA hx hby hr => XS.istore hA hx rfl (hb hby hd) rfl hl hr) h
theorem IsGo.lstoreN (H : IsGo l Z a0 K n0 b0 y bytes maxL ret R Q G) {i : Fin 4} (hd : Nx bytes pc (.lstore_n i) 1 pc') {v : Int64} (hl : storeLocals ls i.val (.long v) = some ls') (h : G pc' ls' st A k n) : G pc ls (.long v :: st) A k n := by
  obtain ⟨hd, rfl⟩ := hd
  exact H.lift (fun hA hx hby hr => XS.lstoreN hA hx rfl (hb hby hd) rfl hl hr) h
theorem IsGo.lstore (H : IsGo l Z a0 K n0 b0 y bytes maxL ret R Q G) {i : Nat} (hd : Nx bytes pc (.lstore i) 2 pc') {v : Int64} (hl : storeLocals ls i (.long v) = some ls') (h : G pc' ls' st A k n) : G pc ls (.long v :: st) A k n := by
  obtain ⟨hd, rfl⟩ := hd
  exact H.lift (fun hA hx hby hr => XS.lstore hA hx rfl (hb hby hd) rfl hl hr) h
theorem IsGo.astoreN (H : IsGo l Z a0 K n0 b0 y bytes maxL ret R Q G) {i : Fin 4} (hd : Nx bytes pc (.astore_n i) 1 pc') {v : Value} (hv : v.isRef = true) (hl : storeLocals ls i.val v = some ls') (h : G pc' ls' st A k n) : G pc ls (v :: st) A k n := by
  obtain ⟨hd, rfl⟩ := hd
  exact H.lift (fun hA hx hby hr => XS.astoreN hA hx rfl (hb hby hd) rfl hv hl hr) h
theorem IsGo.astore (H : IsGo l Z a0 K n0 b0 y bytes maxL ret R Q G) {i : Nat} (hd : Nx bytes pc (.astore i) 2 pc') {v : Value} (hv : v.isRef = true) (hl : storeLocals ls i v = some ls') (h : G pc' ls' st A k n) : G pc ls (v :: st) A k n := by
  obtain ⟨hd, rfl⟩ := hd
  exact H.lift (fun hA hx hby hr => XS.astore hA hx rfl (hb hby hd) rfl hv hl hr) h
theorem IsGo.iconst (H : IsGo l Z a0 K n0 b0 y bytes maxL ret R Q G) {i : Int} (hd : Nx bytes pc (.iconst i) 1 pc') {v : Int32} (hv : Int32.ofInt i = v) (h : G pc' ls (.int v :: st) A k n) : G pc ls st A k n := by
  obtain ⟨hd, rfl⟩ := hd
  subst hv
  exact H.lift (fun hA hx hby hr => XS.iconst hA hx rfl (hb hby hd) hr) h
theorem IsGo.bipush (H : IsGo l Z a0 K n0 b0 y bytes maxL ret R Q G) {i : Int} (hd : Nx bytes pc (.bipush i) 2 pc') {v : Int32} (hv : (Int8.ofInt i).toInt32 = v) (h : G pc' ls (.int v :: st) A k n) : G pc ls st A k n := by
  obtain ⟨hd, rfl⟩ := hd
  subst hv
  exact H.lift (fun hA hx hby hr => XS.bipush hA hx rfl (hb hby hd) hr) h
theorem IsGo.sipush (H : IsGo l Z a0 K n0 b0 y bytes maxL ret R Q G) {i : Int} (hd : Nx bytes pc (.sipush i) 3 pc') {v : Int32} (hv : (Int16.ofInt i).toInt32 = v) (h : G pc' ls (.int v :: st) A k n) : G pc ls st A k n := by
  obtain ⟨hd, rfl⟩ := hd
  subst hv
  exact H.lift (fun hA hx hby hr => XS.sipush hA hx rfl (hb hby hd) hr) h
theorem IsGo.lconst (H : IsGo l Z a0 K n0 b0 y bytes maxL ret R Q G) {i : Fin 2} (hd : Nx bytes pc (.lconst i) 1 pc') {v : Int64} (hv : Int64.ofNat i = v) (h : G pc' ls (.long v :: st) A k n) : G pc ls st A k n := by
  obtain ⟨hd, rfl⟩ := hd
  subst hv
  exact H.lift (fun hA hx hby hr => XS.lconst hA hx rfl (hb hby hd) hr) h
theorem IsGo.ldc2 (H : IsGo l Z a0 K n0 b0 y bytes maxL ret R Q G) {i : Nat} (hd : Nx bytes pc (.ldc2_w i) 3 pc') {v : Int64} (w : (Jvm.Cond.constantLong y.cls i v).before a0 Z = true) (h : G pc' ls (.long v :: st) A k n) : G pc ls st A k n := by
  obtain ⟨hd, rfl⟩ := hd
  obtain ⟨p, e, s, m, args, below, meth, c, hx, hby, hml, hown, hnm, hret, hlk, hZ, hK, hb0, rfl⟩ := H
  intro T locs X hR hF
  obtain ⟨s₂, o, h1, h2⟩ := h T locs X hR hF
  exact ⟨s₂, o, X.ldc2Long hx hown (mvT hZ w) (g := mkF m pc ls st) rfl (hb hby hd) _ h1, h2⟩
/-! ### sums -/
theorem IsGo.iadd (H : IsGo l Z a0 K n0 b0 y bytes maxL ret R Q G) (hd : Nx bytes pc .iadd 1 pc') {u v w : Int32} (hw : u + v = w) (h : G pc' ls (.int w :: st) A k n) : G pc ls (.int v :: .int u :: st) A k n := by
  obtain ⟨hd, rfl⟩ := hd
  subst hw
  exact H.lift (fun hA hx hby hr => XS.iadd hA hx rfl (hb hby hd) rfl hr) h
theorem IsGo.ladd (H : IsGo l Z a0 K n0 b0 y bytes maxL ret R Q G) (hd : Nx bytes pc .ladd 1 pc') {u v w : Int64} (hw : u + v = w) (h : G pc' ls (.long w :: st) A k n) : G pc ls (.long v :: .long u :: st) A k n := by
  obtain ⟨hd, rfl⟩ := hd
  subst hw
  exact H.lift (fun hA hx hby hr => XS.ladd hA hx rfl (hb hby hd) rfl hr) h
theorem IsGo.isub (H : IsGo l Z a0 K n0 b0 y bytes maxL ret R Q G) (hd : Nx bytes pc .isub 1 pc') {u v w : Int32} (hw : u - v = w) (h : G pc' ls (.int w :: st) A k n) : G pc ls (.int v :: .int u :: st) A k n := by
  obtain ⟨hd, rfl⟩ := hd
  subst hw
  exact H.lift (fun hA hx hby hr => XS.isub hA hx rfl (hb hby hd) rfl hr) h
theorem IsGo.lsub (H : IsGo l Z a0 K n0 b0 y bytes maxL ret R Q G) (hd : Nx bytes pc .lsub 1 pc') {u v w : Int64} (hw : u - v = w) (h : G pc' ls (.long w :: st) A k n) : G pc ls (.long v :: .long u :: st) A k n := by
  obtain ⟨hd, rfl⟩ := hd
  subst hw
  exact H.lift (fun hA hx hby hr => XS.lsub hA hx rfl (hb hby hd) rfl hr) h
theorem IsGo.imul (H : IsGo l Z a0 K n0 b0 y bytes maxL ret R Q G) (hd : Nx bytes pc .imul 1 pc') {u v w : Int32} (hw : u * v = w) (h : G pc' ls (.int w :: st) A k n) : G pc ls (.int v :: .int u :: st) A k n := by
  obtain ⟨hd, rfl⟩ := hd
  subst hw
  exact H.lift (fun hA hx hby hr => XS.imul hA hx rfl (hb hby hd) rfl hr) h
theorem IsGo.lmul (H : IsGo l Z a0 K n0 b0 y bytes maxL ret R Q G) (hd : Nx bytes pc .lmul 1 pc') {u v w : Int64} (hw : u * v = w) (h : G pc' ls (.long w :: st) A k n) : G pc ls (.long v :: .long u :: st) A k n := by
  obtain ⟨hd, rfl⟩ := hd
  subst hw
  exact H.lift (fun hA hx hby hr => XS.lmul hA hx rfl (hb hby hd) rfl hr) h
theorem IsGo.iand (H : IsGo l Z a0 K n0 b0 y bytes maxL ret R Q G) (hd : Nx bytes pc .iand 1 pc') {u v w : Int32} (hw : u &&& v = w) (h : G pc' ls (.int w :: st) A k n) : G pc ls (.int v :: .int u :: st) A k n := by
  obtain ⟨hd, rfl⟩ := hd
  subst hw
  exact H.lift (fun hA hx hby hr => XS.iand hA hx rfl (hb hby hd) rfl hr) h
theorem IsGo.land (H : IsGo l Z a0 K n0 b0 y bytes maxL ret R Q G) (hd : Nx bytes pc .land 1 pc') {u v w : Int64} (hw : u &&& v = w) (h : G pc' ls (.long w :: st) A k n) : G pc ls (.long v :: .long u :: st) A k n := by
  obtain ⟨hd, rfl⟩ := hd
  subst hw
  exact H.lift (fun hA hx hby hr => XS.land hA hx rfl (hb hby hd) rfl hr) h
theorem IsGo.lor (H : IsGo l Z a0 K n0 b0 y bytes maxL ret R Q G) (hd : Nx bytes pc .lor 1 pc') {u v w : Int64} (hw : u ||| v = w) (h : G pc' ls (.long w :: st) A k n) : G pc ls (.long v :: .long u :: st) A k n := by
  obtain ⟨hd, rfl⟩ := hd
  subst hw
  exact H.lift (fun hA hx hby hr => XS.lor hA hx rfl (hb hby hd) rfl hr) h
theorem IsGo.lxor (H : IsGo l Z a0 K n0 b0 y bytes maxL ret R Q G) (hd : Nx bytes pc .lxor 1 pc') {u v w : Int64} (hw : u ^^^ v = w) (h : G pc' ls (.long w :: st) A k n) : G pc ls (.long v :: .long u :: st) A k n := by
  obtain ⟨hd, rfl⟩ := hd
  subst hw
  exact H.lift (fun hA hx hby hr => XS.lxor hA hx rfl (hb hby hd) rfl hr) h
theorem IsGo.iushr (H : IsGo l Z a0 K n0 b0 y bytes maxL ret R Q G) (hd : Nx bytes pc .iushr 1 pc') {u v w : Int32} (hw : (u.toUInt32 >>> (v &&& 31).toUInt32).toInt32 = w) (h : G pc' ls (.int w :: st) A k n) : G pc ls (.int v :: .int u :: st) A k n := by
  obtain ⟨hd, rfl⟩ := hd
  subst hw
  exact H.lift (fun hA hx hby hr => XS.iushr hA hx rfl (hb hby hd) rfl hr) h
theorem IsGo.lushr (H : IsGo l Z a0 K n0 b0 y bytes maxL ret R Q G) (hd : Nx bytes pc .lushr 1 pc') {u w : Int64} {v : Int32} (hw : (u.toUInt64 >>> (v &&& 0x3f).toInt64.toUInt64).toInt64 = w) (h : G pc' ls (.long w :: st) A k n) : G pc ls (.int v :: .long u :: st) A k n := by
  obtain ⟨hd, rfl⟩ := hd
  subst hw
  exact H.lift (fun hA hx hby hr => XS.lushr hA hx rfl (hb hby hd) rfl hr) h
theorem IsGo.ineg (H : IsGo l Z a0 K n0 b0 y bytes maxL ret R Q G) (hd : Nx bytes pc .ineg 1 pc') {u : Int32} {w : Int32} (hw : -u = w) (h : G pc' ls (.int w :: st) A k n) : G pc ls (.int u :: st) A k n := by
  obtain ⟨hd, rfl⟩ := hd
  subst hw
  exact H.lift (fun hA hx hby hr => XS.ineg hA hx rfl (hb hby hd) rfl hr) h
theorem IsGo.lneg (H : IsGo l Z a0 K n0 b0 y bytes maxL ret R Q G) (hd : Nx bytes pc .lneg 1 pc') {u : Int64} {w : Int64} (hw : -u = w) (h : G pc' ls (.long w :: st) A k n) : G pc ls (.long u :: st) A k n := by
  obtain ⟨hd, rfl⟩ := hd
  subst hw
  exact H.lift (fun hA hx hby hr => XS.lneg hA hx rfl (hb hby hd) rfl hr) h
theorem IsGo.i2l (H : IsGo l Z a0 K n0 b0 y bytes maxL ret R Q G) (hd : Nx bytes pc .i2l 1 pc') {u : Int32} {w : Int64} (hw : u.toInt64 = w) (h : G pc' ls (.long w :: st) A k n) : G pc ls (.int u :: st) A k n := by
  obtain ⟨hd, rfl⟩ := hd
  subst hw
  exact H.lift (fun hA hx hby hr => XS.i2l hA hx rfl (hb hby hd) rfl hr) h
theorem IsGo.l2i (H : IsGo l Z a0 K n0 b0 y bytes maxL ret R Q G) (hd : Nx bytes pc .l2i 1 pc') {u : Int64} {w : Int32} (hw : u.toInt32 = w) (h : G pc' ls (.int w :: st) A k n) : G pc ls (.long u :: st) A k n := by
  obtain ⟨hd, rfl⟩ := hd
  subst hw
  exact H.lift (fun hA hx hby hr => XS.l2i hA hx rfl (hb hby hd) rfl hr) h
theorem IsGo.irem (H : IsGo l Z a0 K n0 b0 y bytes maxL ret R Q G) (hd : Nx bytes pc .irem 1 pc') {u v w : Int32} (hv : v ≠ 0) (hw : u % v = w) (h : G pc' ls (.int w :: st) A k n) : G pc ls (.int v :: .int u :: st) A k n := by
  obtain ⟨hd, rfl⟩ := hd
  subst hw
  have q : u - u / v * v = u % v := irem_eq_mod u v
  rw [← q] at h
  exact H.lift (fun hA hx hby hr => XS.irem hA hx rfl (hb hby hd) rfl hv hr) h
theorem IsGo.ldiv (H : IsGo l Z a0 K n0 b0 y bytes maxL ret R Q G) (hd : Nx bytes pc .ldiv 1 pc') {u v w : Int64} (hv : v ≠ 0) (hw : u / v = w) (h : G pc' ls (.long w :: st) A k n) : G pc ls (.long v :: .long u :: st) A k n := by
  obtain ⟨hd, rfl⟩ := hd
  subst hw
  exact H.lift (fun hA hx hby hr => XS.ldiv hA hx rfl (hb hby hd) rfl hv hr) h
theorem IsGo.iinc (H : IsGo l Z a0 K n0 b0 y bytes maxL ret R Q G) {i : Nat} {cst : Int} (hd : Nx bytes pc (.iinc i cst) 3 pc') {u w : Int32} (hl : ls[i]? = some (.val (.int u))) (hw : u + Int32.ofInt cst = w) (hl' : storeLocals ls i (.int w) = some ls') (h : G pc' ls' st A k n) : G pc ls st A k n := by
  obtain ⟨hd, rfl⟩ := hd
  subst hw
  exact H.lift (fun hA hx hby hr => XS.iinc hA hx rfl (hb hby hd) hl hl' hr) h
/-! ### the stack -/
theorem IsGo.dup (H : IsGo l Z a0 K n0 b0 y bytes maxL ret R Q G) (hd : Nx bytes pc .dup 1 pc') {u : Value} (hc : u.category = 1) (h : G pc' ls (u :: u :: st) A k n) : G pc ls (u :: st) A k n := by
  obtain ⟨hd, rfl⟩ := hd
  exact H.lift (fun hA hx hby hr => XS.dup hA hx rfl (hb hby hd) rfl hc hr) h
theorem IsGo.dupX1 (H : IsGo l Z a0 K n0 b0 y bytes maxL ret R Q G) (hd : Nx bytes pc .dup_x1 1 pc') {u v : Value} (hc : u.category = 1) (hc' : v.category = 1) (h : G pc' ls (u :: v :: u :: st) A k n) : G pc ls (u :: v :: st) A k n := by
  obtain ⟨hd, rfl⟩ := hd
  exact H.lift (fun hA hx hby hr => XS.dupX1 hA hx rfl (hb hby hd) rfl hc hc' hr) h
theorem IsGo.dup2 (H : IsGo l Z a0 K n0 b0 y bytes maxL ret R Q G) (hd : Nx bytes pc .dup2 1 pc') {u v : Value} (hc : u.category = 1) (hc' : v.category = 1) (h : G pc' ls (u :: v :: u :: v :: st) A k n) : G pc ls (u :: v :: st) A k n := by
  obtain ⟨hd, rfl⟩ := hd
  exact H.lift (fun hA hx hby hr => XT.dup2 hA hx rfl (hb hby hd) rfl hc hc' hr) h
theorem IsGo.pop (H : IsGo l Z a0 K n0 b0 y bytes maxL ret R Q G) (hd : Nx bytes pc .pop 1 pc') {u : Value} (hc : u.category = 1) (h : G pc' ls st A k n) : G pc ls (u :: st) A k n := by
  obtain ⟨hd, rfl⟩ := hd
  exact H.lift (fun hA hx hby hr => XS.pop hA hx rfl (hb hby hd) rfl hc hr) h
theorem dupX2_step {tb : Tables} [Ours tb] {e : Env} {below : List Frame} {T target : State} {m : MethodId} {c : Code} {g : JFrame} (h : At T m c below) (hx : tb.exec = Jvm.exec) (hg : g.method = m) {u v w : Value} {rest : List Value} (hd : decode c.code g.pc = .ok (.dup_x2, 1)) (hs : g.stack = u :: v :: w :: rest) (hc : u.category = 1) (hc2 : v.category = 1) (hc3 : w.category = 1)
    (hr : Steps tb e below (T.setTop { g with pc := g.pc + 1, stack := u :: v :: w :: u :: rest }) target) : Steps tb e below (T.setTop g) target := by
  subst hg
  jvm_step h [h.top, hx, hd, hs, hc, hc2, hc3, dup_x2.wp_sem]
  exact hr
theorem pop2L_step {tb : Tables} [Ours tb] {e : Env} {below : List Frame} {T target : State} {m : MethodId} {c : Code} {g : JFrame} (h : At T m c below) (hx : tb.exec = Jvm.exec) (hg : g.method = m) {u : Int64} {rest : List Value} (hd : decode c.code g.pc = .ok (.pop2, 1)) (hs : g.stack = .long u :: rest)
    (hr : Steps tb e below (T.setTop { g with pc := g.pc + 1, stack := rest }) target) : Steps tb e below (T.setTop g) target := by
  subst hg
  jvm_step h [h.top, hx, hd, hs, pop2.wp_sem, Value.category]
  exact hr
theorem IsGo.dupX2 (H : IsGo l Z a0 K n0 b0 y bytes maxL ret R Q G) (hd : Nx bytes pc .dup_x2 1 pc') {u v w : Value} (hc : u.category = 1) (hc' : v.category = 1) (hc3 : w.category = 1) (h : G pc' ls (u :: v :: w :: u :: st) A k n) : G pc ls (u :: v :: w :: st) A k n := by
  obtain ⟨hd, rfl⟩ := hd
  exact H.lift (fun hA hx hby hr => dupX2_step hA hx rfl (hb hby hd) rfl hc hc' hc3 hr) h
theorem IsGo.pop2L (H : IsGo l Z a0 K n0 b0 y bytes maxL ret R Q G) (hd : Nx bytes pc .pop2 1 pc') {u : Int64} (h : G pc' ls st A k n) : G pc ls (.long u :: st) A k n := by
  obtain ⟨hd, rfl⟩ := hd
  exact H.lift (fun hA hx hby hr => pop2L_step hA hx rfl (hb hby hd) rfl hr) h
/-! ### branches -/
theorem IsGo.goto (H : IsGo l Z a0 K n0 b0 y bytes maxL ret R Q G) {f : Nat} (hd : Bx bytes pc .goto pc' f) (h : G pc' ls st A k n) : G pc ls st A k n := by
  obtain ⟨o, hd, ho, hp, -⟩ := hd
  exact H.lift (fun hA hx hby hr => XS.goto hA hx rfl (pc0 := pc) (pc' := pc') rfl (hb hby hd) ho hp hr) h
/-- what a comparison of two ints says -/
def CP : ClassFile.Cond → Int32 → Int32 → Prop
  | .eq, u, v => u = v
  | .ne, u, v => ¬ u = v
  | .lt, u, v => u < v
  | .ge, u, v => ¬ u < v
  | .gt, u, v => v < u
  | .le, u, v => ¬ v < u
def CPL : ClassFile.Cond → Int64 → Int64 → Prop
  | .eq, u, v => u = v
  | .ne, u, v => ¬ u = v
  | .lt, u, v => u < v
  | .ge, u, v => ¬ u < v
  | .gt, u, v => v < u
  | .le, u, v => ¬ v < u
def ng : ClassFile.Cond → ClassFile.Cond
  | .eq => .ne | .ne => .eq | .lt => .ge | .ge => .lt | .gt => .le | .le => .gt
theorem cp_or (cd : ClassFile.Cond) (u v : Int32) : CP cd u v ∨ CP (ng cd) u v := by
  cases cd <;> simp only [CP, ng] <;> first | exact Classical.em _ | exact (Classical.em _).symm
theorem cpl_or (cd : ClassFile.Cond) (u v : Int64) : CPL cd u v ∨ CPL (ng cd) u v := by
  cases cd <;> simp only [CPL, ng] <;> first | exact Classical.em _ | exact (Classical.em _).symm
theorem cp_t {cd : ClassFile.Cond} {u v : Int32} (h : CP cd u v) : if_icmp.holds cd u v = true := by
  cases cd <;> simp only [CP] at h
  · exact XT.ii_eq_t h
  · exact XT.ii_ne_t h
  · exact XT.ii_lt_t h
  · exact XT.ii_ge_t h
  · exact XT.ii_gt_t h
  · exact XT.ii_le_t h
theorem cp_f {cd : ClassFile.Cond} {u v : Int32} (h : CP (ng cd) u v) : if_icmp.holds cd u v = false := by
  cases cd <;> simp only [CP, ng] at h
  · exact XT.ii_eq_f h
  · exact XT.ii_ne_f h
  · exact XT.ii_lt_f h
  · exact XT.ii_ge_f h
  · exact XT.ii_gt_f h
  · exact XT.ii_le_f h
theorem IsGo.icmpT (H : IsGo l Z a0 K n0 b0 y bytes maxL ret R Q G) {cd : ClassFile.Cond} {t f : Nat} (hd : Bx bytes pc (.if_icmp cd) t f) {u v : Int32} (hc : CP cd u v) (h : G t ls st A k n) : G pc ls (.int v :: .int u :: st) A k n := by
  obtain ⟨o, hd, ho, hp, rfl⟩ := hd
  exact H.lift (fun hA hx hby hr => XS.icmpYes hA hx rfl (pc0 := pc) (pc' := t) rfl (hb hby hd) rfl (cp_t hc) ho hp hr) h
theorem IsGo.icmpF (H : IsGo l Z a0 K n0 b0 y bytes maxL ret R Q G) {cd : ClassFile.Cond} {t f : Nat} (hd : Bx bytes pc (.if_icmp cd) t f) {u v : Int32} (hc : CP (ng cd) u v) (h : G f ls st A k n) : G pc ls (.int v :: .int u :: st) A k n := by
  obtain ⟨o, hd, ho, hp, rfl⟩ := hd
  exact H.lift (fun hA hx hby hr => XS.icmpNo hA hx rfl (hb hby hd) rfl (cp_f hc) hr) h
theorem IsGo.icmpS (H : IsGo l Z a0 K n0 b0 y bytes maxL ret R Q G) {cd : ClassFile.Cond} {t f : Nat} (hd : Bx bytes pc (.if_icmp cd) t f) {u v : Int32} (h1 : CP cd u v → G t ls st A k n) (h2 : CP (ng cd) u v → G f ls st A k n) : G pc ls (.int v :: .int u :: st) A k n :=
  (cp_or cd u v).elim (fun q => H.icmpT hd q (h1 q)) (fun q => H.icmpF hd q (h2 q))
theorem IsGo.ifT (H : IsGo l Z a0 K n0 b0 y bytes maxL ret R Q G) {cd : ClassFile.Cond} {t f : Nat} (hd : Bx bytes pc (.ifCond cd) t f) {u : Int32} (hc : CP cd u 0) (h : G t ls st A k n) : G pc ls (.int u :: st) A k n := by
  obtain ⟨o, hd, ho, hp, rfl⟩ := hd
  exact H.lift (fun hA hx hby hr => XS.ifYes hA hx rfl (pc0 := pc) (pc' := t) rfl (hb hby hd) rfl (by rw [if0]; exact cp_t hc) ho hp hr) h
theorem IsGo.ifF (H : IsGo l Z a0 K n0 b0 y bytes maxL ret R Q G) {cd : ClassFile.Cond} {t f : Nat} (hd : Bx bytes pc (.ifCond cd) t f) {u : Int32} (hc : CP (ng cd) u 0) (h : G f ls st A k n) : G pc ls (.int u :: st) A k n := by
  obtain ⟨o, hd, ho, hp, rfl⟩ := hd
  exact H.lift (fun hA hx hby hr => XS.ifNo hA hx rfl (hb hby hd) rfl (by rw [if0]; exact cp_f hc) hr) h
theorem cpl_cp {cd : ClassFile.Cond} {u v : Int64} (h : CPL cd u v) : CP cd (lcmpW u v) 0 := by
  cases cd <;> simp only [CPL] at h <;> simp only [CP]
  · exact (lw_eq u v).mpr h
  · exact fun q => h ((lw_eq u v).mp q)
  · exact (lw_lt u v).mpr h
  · exact fun q => h ((lw_lt u v).mp q)
  · exact (lw_gt u v).mpr h
  · exact fun q => h ((lw_gt u v).mp q)
theorem IsGo.lcmp (H : IsGo l Z a0 K n0 b0 y bytes maxL ret R Q G) (hd : Nx bytes pc .lcmp 1 pc') {u v : Int64} (h : G pc' ls (.int (lcmpW u v) :: st) A k n) : G pc ls (.long v :: .long u :: st) A k n := by
  obtain ⟨hd, rfl⟩ := hd
  exact H.lift (fun hA hx hby hr => XS.lcmp hA hx rfl (hb hby hd) rfl hr) h
theorem IsGo.lifT (H : IsGo l Z a0 K n0 b0 y bytes maxL ret R Q G) (hd0 : Nx bytes pc .lcmp 1 pc') {cd : ClassFile.Cond} {t f : Nat} (hd : Bx bytes pc' (.ifCond cd) t f) {u v : Int64} (hc : CPL cd u v) (h : G t ls st A k n) : G pc ls (.long v :: .long u :: st) A k n :=
  H.lcmp hd0 (H.ifT hd (cpl_cp hc) h)
theorem cpl_ng {cd : ClassFile.Cond} {u v : Int64} (h : CPL (ng cd) u v) : CP (ng cd) (lcmpW u v) 0 := cpl_cp h
theorem IsGo.lifF (H : IsGo l Z a0 K n0 b0 y bytes maxL ret R Q G) (hd0 : Nx bytes pc .lcmp 1 pc') {cd : ClassFile.Cond} {t f : Nat} (hd : Bx bytes pc' (.ifCond cd) t f) {u v : Int64} (hc : CPL (ng cd) u v) (h : G f ls st A k n) : G pc ls (.long v :: .long u :: st) A k n :=
  H.lcmp hd0 (H.ifF hd (cpl_ng hc) h)
theorem IsGo.lifS (H : IsGo l Z a0 K n0 b0 y bytes maxL ret R Q G) (hd0 : Nx bytes pc .lcmp 1 pc') {cd : ClassFile.Cond} {t f : Nat} (hd : Bx bytes pc' (.ifCond cd) t f) {u v : Int64} (h1 : CPL cd u v → G t ls st A k n) (h2 : CPL (ng cd) u v → G f ls st A k n) : G pc ls (.long v :: .long u :: st) A k n :=
  (cpl_or cd u v).elim (fun q => H.lifT hd0 hd q (h1 q)) (fun q => H.lifF hd0 hd q (h2 q))
theorem IsGo.acmp (H : IsGo l Z a0 K n0 b0 y bytes maxL ret R Q G) {cd : ClassFile.ACond} {t f : Nat} (hd : Bx bytes pc (.if_acmp cd) t f) {u v : Value} (h1 : u.isRef = true) (h2 : v.isRef = true) {same : Bool} (hq : decide (u = v) = same) (h : G (if acV cd same = true then t else f) ls st A k n) : G pc ls (v :: u :: st) A k n := by
  obtain ⟨o, hd, ho, hp, rfl⟩ := hd
  obtain ⟨p, e, s, m, args, below, meth, c, hx, hby, hml, hown, hnm, hret, hlk, hZ, hK, hb0, rfl⟩ := H
  intro T locs X hR hF
  obtain ⟨s₂, oo, q1, q2⟩ := h T locs X hR hF
  exact ⟨s₂, oo, RoadKit.acmp X hx (g := mkF m pc ls (v :: u :: st)) rfl h1 h2 (pc0 := pc) rfl (hb hby hd) rfl hq ho (by rw [hp]) q1, q2⟩
/-! ### the heap -/
def FL (Z : State) (a0 : Array Value) (K : KTab) (own : String) (idx k j : Nat) : Prop := ∃ C fs O nm d host, K[k]? = some (C, fs) ∧ fs[j]? = some (O, nm, d) ∧ ((Jvm.Cond.fieldLink own idx O nm d).before a0 Z = true ∨ (Jvm.Cond.fieldLinkNest own idx O nm d host).before a0 Z = true)
def PL (Z : State) (a0 : Array Value) (K : KTab) (own mname : String) (idx k j : Nat) (ty : FieldType) : Prop := ∃ C fs O nm d host, K[k]? = some (C, fs) ∧ fs[j]? = some (O, nm, d) ∧ ((Jvm.Cond.fieldLink own idx O nm d).before a0 Z = true ∨ (Jvm.Cond.fieldLinkNest own idx O nm d host).before a0 Z = true) ∧
  ((Jvm.Cond.lays C O nm d).before a0 Z = true ∨ ((Jvm.Cond.laysFinal C O nm d).before a0 Z = true ∧ own = O ∧ mname = "<init>")) ∧ parseFieldDescriptor d = some ty
theorem IsGo.getfield (H : IsGo l Z a0 K n0 b0 y bytes maxL ret R Q G) {idx kk j i : Nat} (hd : Nx bytes pc (.getfield idx) 3 pc') (L : FL Z a0 K y.cls idx kk j) {vs : List Value} {v : Value} (hA : A[i]? = some (.inl (kk, vs))) (hv : vs[j]? = some v) (h : G pc' ls (v :: st) A k n) : G pc ls (.ref (n0 + i) :: st) A k n := by
  obtain ⟨hd, rfl⟩ := hd
  obtain ⟨p, e, s, m, args, below, meth, c, hx, hby, hml, hown, hnm, hret, hlk, hZ, hK, hb0, rfl⟩ := H
  obtain ⟨C, fs, O, nm, d, host, hk, hj, w⟩ := L
  intro T locs X hR hF
  obtain ⟨C', fs', hk', hE, hlen, hf⟩ := hR.2 i _ hA
  cases hk.symm.trans hk'
  obtain ⟨T', X', eT, sp⟩ := getF X hx hZ hown w Via.refl rfl (hf j _ v hj hv) (g := mkF m pc ls (.ref (n0 + i) :: st)) rfl rfl (hb hby hd)
  obtain ⟨s₂, o, h1, h2⟩ := h T' locs X' (by rw [eT]; exact hR) hF
  exact ⟨s₂, o, sp _ h1, h2⟩
theorem IsGo.putfield (H : IsGo l Z a0 K n0 b0 y bytes maxL ret R Q G) {idx kk j i : Nat} {ty : FieldType} (hd : Nx bytes pc (.putfield idx) 3 pc') (L : PL Z a0 K y.cls y.name idx kk j ty) {vs : List Value} {v : Value} (hA : A[i]? = some (.inl (kk, vs))) (hn : narrow ty v = v) (hf : fits ty v = true) (hA' : A.set i (.inl (kk, vs.set j v)) = A') (h : G pc' ls st A' k n) : G pc ls (v :: .ref (n0 + i) :: st) A k n := by
  obtain ⟨hd, rfl⟩ := hd
  obtain ⟨p, e, s, m, args, below, meth, c, hx, hby, hml, hown, hnm, hret, hlk, hZ, hK, hb0, rfl⟩ := H
  obtain ⟨C, fs, O, nm, d, host, hk, hj, w, wl, hty⟩ := L
  subst hA'
  intro T locs X hR hF
  have hO := hR.2 i _ hA
  obtain ⟨C', fs', hk', hE, hlen, hfl⟩ := hR.2 i _ hA
  cases hk.symm.trans hk'
  obtain ⟨⟨ki, wi⟩, -, -⟩ := hK kk C fs hk
  have hlt : j < vs.length := by rw [hlen]; exact (List.getElem?_eq_some_iff.mp hj).1
  obtain ⟨T', h', X', eT, W, sp⟩ := putF X hx hZ hown w Via.refl rfl (hfl j _ vs[j] hj (List.getElem?_eq_getElem hlt)) hE (by rw [hnm]; exact wl) wi hty hn hf (g := mkF m pc ls (v :: .ref (n0 + i) :: st)) rfl rfl (hb hby hd)
  obtain ⟨s₂, o, h1, h2⟩ := h T' _ X' (by rw [eT]; exact hR.set W (hO.setF hK hk hj W)) (Fr.snoc X' hF (Nat.le_add_right _ _))
  exact ⟨s₂, o, sp _ h1, h2⟩
def NL (Z : State) (a0 : Array Value) (K : KTab) (own : String) (idx kk sz : Nat) (dv : List Value) : Prop := ∃ C fs, K[kk]? = some (C, fs) ∧ (Jvm.Cond.classLink own idx C).before a0 Z = true ∧ (Jvm.Cond.instantiable C sz).before a0 Z = true ∧ (Jvm.Cond.initialized C).before a0 Z = true ∧ fs.map (fun f => (parseFieldDescriptor f.2.2).map defaultValue) = dv.map some
theorem size_up {p : Program} {e : Env} {s T' : State} {m : MethodId} {args : Array Value} {below : List Frame} {meth : Method} {c : Code} {locs : List Loc} {h : Heap} (X : Stand p l e R s m args below meth c T' locs (k + 1) n) (hb : s.heap.size = n0 + b0) (hh : h.size = n0 + A.length) (hk : A.length = b0 + k) (hlt : h.size < T'.heap.size) : T'.heap.size = n0 + (A.length + 1) := by
  have := X.heapSize
  omega
theorem IsGo.new (H : IsGo l Z a0 K n0 b0 y bytes maxL ret R Q G) {idx kk sz i : Nat} {dv : List Value} (hd : Nx bytes pc (.new idx) 3 pc') (L : NL Z a0 K y.cls idx kk sz dv) (hk : A.length = b0 + k) (hc : k + 1 ≤ R.cells) (hs : n + sz ≤ R.slots) (hi : A.length = i) (hA' : A ++ [.inl (kk, dv)] = A') (hk' : k + 1 = k') (hn' : n + sz = n') (h : G pc' ls (.ref (n0 + i) :: st) A' k' n') : G pc ls st A k n := by
  obtain ⟨hd, rfl⟩ := hd
  obtain ⟨p, e, s, m, args, below, meth, c, hx, hby, hml, hown, hnm, hret, hlk, hZ, hK, hb0, rfl⟩ := H
  obtain ⟨C, fs, hkk, w1, w2, w3, hdv⟩ := L
  subst hA' hk' hn' hi
  intro T locs X hR hF
  obtain ⟨T', h', X', eT, E, EA, D, -, sp⟩ := newO X hx hZ hown w1 w2 w3 rfl (g := mkF m pc ls st) rfl (hb hby hd) hc hs
  have hsz : h'.size = n0 + (A.length + 1) := by rw [← eT]; exact size_up X' hb0 hR.1 hk (by rw [eT]; exact EA.lt)
  rw [hR.1] at EA D
  have hlen : dv.length = fs.length := by simpa using (congrArg List.length hdv).symm
  obtain ⟨-, kl, -⟩ := hK kk C fs hkk
  have hN : ObAt Z K h' (n0 + A.length) (.inl (kk, dv)) := ⟨C, fs, hkk, EA, hlen, fun j f v q r => by
    obtain ⟨L1, t, ht⟩ := kl j f q
    have e1 : (fs.map (fun f => (parseFieldDescriptor f.2.2).map defaultValue))[j]? = some (some (defaultValue t)) := by simp [List.getElem?_map, q, ht]
    rw [hdv, List.getElem?_map, r] at e1
    simp only [Option.map_some, Option.some.injEq] at e1
    rw [e1]; exact D L1 ht⟩
  obtain ⟨s₂, o, h1, h2⟩ := h T' locs X' (by rw [eT]; exact hR.push E hsz hN) hF
  rw [← hR.1] at h1
  exact ⟨s₂, o, sp _ h1, h2⟩
def AL (Z : State) (a0 : Array Value) (t : FieldType) : Prop := (Jvm.Cond.arrayClass t).before a0 Z = true
theorem tn_of {z : Int32} {N : Nat} (h : z.toInt = (N : Int)) : ¬ z < 0 ∧ z.toNatClampNeg = N := by
  constructor
  · intro q
    have := Int32.lt_iff_toInt_lt.mp q
    simp at this; omega
  · simp [Int32.toNatClampNeg, h]
theorem IsGo.newarray (H : IsGo l Z a0 K n0 b0 y bytes maxL ret R Q G) {aty : ArrayType} {i N cap : Nat} {z : Int32} {vs : List Value} {ty : FieldType} (hd : Nx bytes pc (.newarray aty) 2 pc') (hty : newarray.typeOf aty = ty) (w : AL Z a0 ty) (hz : z.toInt = (N : Int)) (hvs : List.replicate N (defaultValue ty) = vs) (hcap : N ≤ cap) (hbig : cap * 8 ≤ 536870912) (hk : A.length = b0 + k) (hc : k + 1 ≤ R.cells) (hs : n + cap ≤ R.slots) (hi : A.length = i) (hA' : A ++ [.inr (ty, vs)] = A') (hk' : k + 1 = k') (hn' : n + cap = n') (h : G pc' ls (.ref (n0 + i) :: st) A' k' n') : G pc ls (.int z :: st) A k n := by
  obtain ⟨hd, rfl⟩ := hd
  obtain ⟨p, e, s, m, args, below, meth, c, hx, hby, hml, hown, hnm, hret, hlk, hZ, hK, hb0, rfl⟩ := H
  subst hA' hk' hn' hi hty
  obtain ⟨z1, z2⟩ := tn_of hz
  intro T locs X hR hF
  obtain ⟨T', h', cA, X', eT, E, Ar, EA, sp⟩ := newPE X hx hZ w rfl (g := mkF m pc ls (.int z :: st)) rfl (hb hby hd) rfl z1 (by rw [z2]; exact hcap) hbig hc hs rfl
  have hsz : h'.size = n0 + (A.length + 1) := by rw [← eT]; exact size_up X' hb0 hR.1 hk (by rw [eT]; exact EA.lt)
  rw [hR.1] at EA Ar
  have hN : ObAt Z K h' (n0 + A.length) (.inr (newarray.typeOf aty, vs)) := ⟨⟨EA, fun w hw => by rw [← hvs] at hw; rw [(List.mem_replicate.mp hw).2]; cases aty <;> rfl⟩, _, Ar, by simp [newA, z2, ← hvs], fun C q => by cases aty <;> simp [newarray.typeOf] at q⟩
  obtain ⟨s₂, o, h1, h2⟩ := h T' locs X' (by rw [eT]; exact hR.push E hsz hN) hF
  rw [← hR.1] at h1
  exact ⟨s₂, o, sp _ h1, h2⟩
theorem arr_in {c : Cell} {vs : List Value} {z : Int32} {j : Nat} (hz : z.toInt = (j : Int)) (hs : c.slots = vs.toArray) (hj : j < vs.length) : ¬ (z < 0 ∨ c.slots.size ≤ z.toNatClampNeg) := by
  obtain ⟨z1, z2⟩ := tn_of hz
  rw [z2, hs]; simp [z1]; omega
theorem IsGo.arraylength (H : IsGo l Z a0 K n0 b0 y bytes maxL ret R Q G) (hd : Nx bytes pc .arraylength 1 pc') {i : Nat} {ty : FieldType} {vs : List Value} {z : Int32} (hA : A[i]? = some (.inr (ty, vs))) (hz : vs.length.toInt32 = z) (h : G pc' ls (.int z :: st) A k n) : G pc ls (.ref (n0 + i) :: st) A k n := by
  obtain ⟨hd, rfl⟩ := hd
  obtain ⟨p, e, s, m, args, below, meth, c, hx, hby, hml, hown, hnm, hret, hlk, hZ, hK, hb0, rfl⟩ := H
  subst hz
  intro T locs X hR hF
  obtain ⟨EA, cl, Ar, hcs, -⟩ := hR.2 i _ hA
  obtain ⟨s₂, o, h1, h2⟩ := h T locs X hR hF
  have q : vs.length = cl.slots.size := by rw [hcs]; simp
  rw [q] at h1
  exact ⟨s₂, o, X.arraylength hx Ar.1 (State.isArrayOf_alike hZ.alike Ar.2.1) (g := mkF m pc ls (.ref (n0 + i) :: st)) rfl rfl (hb hby hd) _ h1, h2⟩
theorem IsGo.iaload (H : IsGo l Z a0 K n0 b0 y bytes maxL ret R Q G) (hd : Nx bytes pc .iaload 1 pc') {i j : Nat} {vs : List Value} {z : Int32} {v : Value} (hA : A[i]? = some (.inr (.int, vs))) (hz : z.toInt = (j : Int)) (hv : vs[j]? = some v) (h : G pc' ls (v :: st) A k n) : G pc ls (.int z :: .ref (n0 + i) :: st) A k n := by
  obtain ⟨hd, rfl⟩ := hd
  obtain ⟨p, e, s, m, args, below, meth, c, hx, hby, hml, hown, hnm, hret, hlk, hZ, hK, hb0, rfl⟩ := H
  intro T locs X hR hF
  obtain ⟨EA, cl, Ar, hcs, -⟩ := hR.2 i _ hA
  obtain ⟨s₂, o, h1, h2⟩ := h T locs X hR hF
  exact ⟨s₂, o, X.iaload hx Ar.1 (State.isArrayOf_alike hZ.alike Ar.2.1) Ar.2.2 (arr_in hz hcs (List.getElem?_eq_some_iff.mp hv).1) (v := v) (by rw [(tn_of hz).2, hcs]; simpa using hv) (g := mkF m pc ls (.int z :: .ref (n0 + i) :: st)) rfl rfl (hb hby hd) _ h1, h2⟩
theorem IsGo.laload (H : IsGo l Z a0 K n0 b0 y bytes maxL ret R Q G) (hd : Nx bytes pc .laload 1 pc') {i j : Nat} {vs : List Value} {z : Int32} {v : Value} (hA : A[i]? = some (.inr (.long, vs))) (hz : z.toInt = (j : Int)) (hv : vs[j]? = some v) (h : G pc' ls (v :: st) A k n) : G pc ls (.int z :: .ref (n0 + i) :: st) A k n := by
  obtain ⟨hd, rfl⟩ := hd
  obtain ⟨p, e, s, m, args, below, meth, c, hx, hby, hml, hown, hnm, hret, hlk, hZ, hK, hb0, rfl⟩ := H
  intro T locs X hR hF
  obtain ⟨EA, cl, Ar, hcs, -⟩ := hR.2 i _ hA
  obtain ⟨s₂, o, h1, h2⟩ := h T locs X hR hF
  exact ⟨s₂, o, X.laload hx Ar.1 (State.isArrayOf_alike hZ.alike Ar.2.1) Ar.2.2 (arr_in hz hcs (List.getElem?_eq_some_iff.mp hv).1) (v := v) (by rw [(tn_of hz).2, hcs]; simpa using hv) (g := mkF m pc ls (.int z :: .ref (n0 + i) :: st)) rfl rfl (hb hby hd) _ h1, h2⟩
theorem IsGo.iastore (H : IsGo l Z a0 K n0 b0 y bytes maxL ret R Q G) (hd : Nx bytes pc .iastore 1 pc') {i j : Nat} {vs : List Value} {z v : Int32} (hA : A[i]? = some (.inr (.int, vs))) (hz : z.toInt = (j : Int)) (hj : j < vs.length) (hA' : A.set i (.inr (.int, vs.set j (.int v))) = A') (h : G pc' ls st A' k n) : G pc ls (.int v :: .int z :: .ref (n0 + i) :: st) A k n := by
  obtain ⟨hd, rfl⟩ := hd
  obtain ⟨p, e, s, m, args, below, meth, c, hx, hby, hml, hown, hnm, hret, hlk, hZ, hK, hb0, rfl⟩ := H
  subst hA'
  intro T locs X hR hF
  have hO := hR.2 i _ hA
  obtain ⟨EA, cl, Ar, hcs, -⟩ := hR.2 i _ hA
  obtain ⟨T', h', X', eT, W, sp⟩ := stI X hx hZ rfl Ar (arr_in hz hcs hj) (g := mkF m pc ls (.int v :: .int z :: .ref (n0 + i) :: st)) rfl rfl (hb hby hd)
  rw [(tn_of hz).2] at W
  obtain ⟨s₂, o, h1, h2⟩ := h T' _ X' (by rw [eT]; exact hR.set W (hO.setA W rfl)) (Fr.snoc X' hF (Nat.le_add_right _ _))
  exact ⟨s₂, o, sp _ h1, h2⟩
theorem IsGo.lastore (H : IsGo l Z a0 K n0 b0 y bytes maxL ret R Q G) (hd : Nx bytes pc .lastore 1 pc') {i j : Nat} {vs : List Value} {z : Int32} {v : Int64} (hA : A[i]? = some (.inr (.long, vs))) (hz : z.toInt = (j : Int)) (hj : j < vs.length) (hA' : A.set i (.inr (.long, vs.set j (.long v))) = A') (h : G pc' ls st A' k n) : G pc ls (.long v :: .int z :: .ref (n0 + i) :: st) A k n := by
  obtain ⟨hd, rfl⟩ := hd
  obtain ⟨p, e, s, m, args, below, meth, c, hx, hby, hml, hown, hnm, hret, hlk, hZ, hK, hb0, rfl⟩ := H
  subst hA'
  intro T locs X hR hF
  have hO := hR.2 i _ hA
  obtain ⟨EA, cl, Ar, hcs, -⟩ := hR.2 i _ hA
  obtain ⟨T', h', X', eT, W, sp⟩ := stJ X hx hZ rfl Ar (arr_in hz hcs hj) (g := mkF m pc ls (.long v :: .int z :: .ref (n0 + i) :: st)) rfl rfl (hb hby hd)
  rw [(tn_of hz).2] at W
  obtain ⟨s₂, o, h1, h2⟩ := h T' _ X' (by rw [eT]; exact hR.set W (hO.setA W rfl)) (Fr.snoc X' hF (Nat.le_add_right _ _))
  exact ⟨s₂, o, sp _ h1, h2⟩
/-- the value can stand in an array of that class -/
def StoO (K : KTab) (C : String) (n0 : Nat) (A : List Ob) (v : Value) : Prop := v = .null ∨ ∃ i kk vs fs, v = .ref (n0 + i) ∧ A[i]? = some (.inl (kk, vs)) ∧ K[kk]? = some (C, fs)
/-! ### arraycopy, clone, checkcast -/
def XL (Z : State) (a0 : Array Value) (own : String) (idx : Nat) : Prop := (Jvm.Cond.methodLink own idx Jvm.Stand.acN).before a0 Z = true ∧ (Jvm.Cond.native Jvm.Stand.acN).before a0 Z = true ∧ (Jvm.Cond.static Jvm.Stand.acN).before a0 Z = true ∧ (Jvm.Cond.initialized "java/lang/System").before a0 Z = true
theorem arv_of {h : Heap} {a : Addr} {ty : FieldType} {vs : List Value} (hl : vs.length < 2147483648) (F : ObAt Z K h a (.inr (ty, vs))) : ∃ kc : ClassId, Arv Z h a kc ty vs.length.toInt32 vs .null ∧ ∀ C, ty = .object C → Ovr Z kc C := by
  obtain ⟨⟨h1, hf⟩, c, h2, h3, h4⟩ := F
  have e := len_toInt (n := vs.length) (by omega)
  obtain ⟨z1, z2⟩ := tn_of e
  refine ⟨c.cls, ⟨c, h2, rfl, by rw [z2, h3]; simp, z1, fun k hk => ?_, fun i hi => ?_⟩, h4⟩
  · rw [h3] at hk ⊢
    have hk' : k < vs.length := by simpa using hk
    simp [List.getD, hk']
  · rw [h3] at hi
    have hi' : i < vs.length := by simpa using hi
    have : vs.getD i .null = vs[i] := by simp [List.getD, hi']
    rw [this]; exact hf _ (List.getElem_mem hi')
theorem slots_of {c : Cell} {vs : List Value} {d : Value} (hs : c.slots.size = vs.length) (hh : ∀ k, k < c.slots.size → c.slots[k]? = some (vs.getD k d)) : c.slots = vs.toArray := by
  apply Array.ext
  · simpa using hs
  · intro i h1 h2
    have q := hh i h1
    have h3 : i < vs.length := by simpa using h2
    rw [Array.getElem?_eq_getElem h1] at q
    have e : vs.getD i d = vs[i] := by simp [List.getD, h3]
    rw [e] at q
    simpa using q
theorem IsGo.arraycopy (H : IsGo l Z a0 K n0 b0 y bytes maxL ret R Q G) {idx : Nat} (hd : Nx bytes pc (.invokestatic idx) 3 pc') (L : XL Z a0 y.cls idx) {i j : Nat} {ty : FieldType} {vs vd us : List Value} {sp dp nn : Int32} {p q r : Nat} (hA : A[i]? = some (.inr (ty, vs))) (hB : A[j]? = some (.inr (ty, vd))) (hty : refKind ty = false) (h1 : sp.toInt = (p : Int)) (h2 : dp.toInt = (q : Int)) (h3 : nn.toInt = (r : Int)) (h4 : p + r ≤ vs.length) (h5 : q + r ≤ vd.length) (l1 : vs.length < 2147483648) (l2 : vd.length < 2147483648)
    (hus : (List.range r).map (fun i => vs.getD (p + i) .null) = us) (hls : ls.size = maxL) (hf : 1 ≤ R.frames) (hl : (st.map fun v => v.category).sum + (nativeFrameWords "java/lang/System" "arraycopy" 5 + 11) ≤ R.locals) (hk : A.length = b0 + k) (hA' : A.set j (.inr (ty, vd.take q ++ us ++ vd.drop (q + r))) = A') (h : G pc' ls st A' k n) : G pc ls (.int nn :: .int dp :: .ref (n0 + j) :: .int sp :: .ref (n0 + i) :: st) A k n := by
  obtain ⟨hd, rfl⟩ := hd
  obtain ⟨pp, e, s, m, args, below, meth, c, hx, hby, hml, hown, hnm, hret, hlk, hZ, hK, hb0, rfl⟩ := H
  obtain ⟨w1, w2, w3, w4⟩ := L
  subst hA'
  intro T locs X hR hF
  obtain ⟨k1, V1, -⟩ := arv_of l1 (hR.2 i _ hA)
  obtain ⟨k2, V2, O2⟩ := arv_of l2 (hR.2 j _ hB)
  obtain ⟨⟨EB, fB⟩, -⟩ := hR.2 j _ hB
  obtain ⟨⟨-, fA⟩, -⟩ := hR.2 i _ hA
  obtain ⟨s1, s2⟩ := tn_of h1
  obtain ⟨t1, t2⟩ := tn_of h2
  obtain ⟨u1, u2⟩ := tn_of h3
  have n1 := (tn_of (len_toInt (n := vs.length) (by omega))).2
  have n2 := (tn_of (len_toInt (n := vd.length) (by omega))).2
  obtain ⟨T', h', L', X', eT, F', Kp, V', sp'⟩ := cpA X hx hZ hown w1 w2 w3 w4 rfl V1 V2 (us := us) (Or.inl ⟨rfl, hty⟩) s1 t1 u1 (by rw [s2, u2, n1]; exact h4) (by rw [t2, u2, n2]; exact h5) (by rw [s2, u2]; exact hus.symm) (by rw [t2, u2]; exact h5) (n0 := n0) hF (Nat.le_add_right _ _) (g := mkF m pc ls (.int nn :: .int dp :: .ref (n0 + j) :: .int sp :: .ref (n0 + i) :: st)) rfl (by rw [hml]; exact hls) rfl (hb hby hd) hf (W := (st.map fun v => v.category).sum) (by show 2 * 0 + _ ≤ _; omega) hl
  have hsz : h'.size = T.heap.size := by
    have q1 := X'.heapSize
    have q2 := Kp.1
    have q3 := hR.1
    rw [eT] at q1
    omega
  rw [t2, u2] at V'
  have hlen : (vd.take q ++ us ++ vd.drop (q + r)).length = vd.length := by
    have : us.length = r := by rw [← hus]; simp
    simp [this]; omega
  have hO : ObAt Z K h' (n0 + j) (.inr (ty, vd.take q ++ us ++ vd.drop (q + r))) := by
    obtain ⟨cc, a1, a2, a3, a4, a5, a6⟩ := V'
    have e1 : cc.slots.size = (vd.take q ++ us ++ vd.drop (q + r)).length := by rw [hlen, a3, n2]
    refine ⟨⟨EB.keep Kp, fun w hw => ?_⟩, cc, a1, slots_of e1 a5, fun C q => by rw [a2]; exact O2 C q⟩
    obtain ⟨z, hz, rfl⟩ := List.mem_iff_getElem.mp hw
    have := a6 z (by rw [e1]; exact hz)
    rwa [show (vd.take q ++ us ++ vd.drop (q + r)).getD z .null = (vd.take q ++ us ++ vd.drop (q + r))[z] from by simp only [List.getD, List.getElem?_eq_getElem hz, Option.getD_some]] at this
  obtain ⟨s₂, o, g1, g2⟩ := h T' _ X' (by rw [eT]; exact hR.keep Kp hsz hO) F'
  exact ⟨s₂, o, sp' _ g1, g2⟩
def KL (Z : State) (a0 : Array Value) (own : String) (idx : Nat) (ad : String) : Prop := (Jvm.Cond.methodLink own idx ⟨ad, "clone", "()Ljava/lang/Object;"⟩).before a0 Z = true ∧ (Jvm.Cond.sameMethod ad "java/lang/Object" "clone" "()Ljava/lang/Object;").before a0 Z = true ∧ (Jvm.Cond.native ⟨"java/lang/Object", "clone", "()Ljava/lang/Object;"⟩).before a0 Z = true ∧
  (Jvm.Cond.instanceMethod ⟨"java/lang/Object", "clone", "()Ljava/lang/Object;"⟩).before a0 Z = true ∧ (Jvm.Cond.selects ad ⟨ad, "clone", "()Ljava/lang/Object;"⟩ ⟨"java/lang/Object", "clone", "()Ljava/lang/Object;"⟩).before a0 Z = true ∧ (Jvm.Cond.castable ad "java/lang/Cloneable").before a0 Z = true
theorem IsGo.clone (H : IsGo l Z a0 K n0 b0 y bytes maxL ret R Q G) {idx : Nat} {ad : String} (hd : Nx bytes pc (.invokevirtual idx) 3 pc') (L : KL Z a0 y.cls idx ad) {i ii cap : Nat} {ty : FieldType} {vs : List Value} (hA : A[i]? = some (.inr (ty, vs))) (had : "[" ++ ty.toString = ad) (l1 : vs.length < 2147483648) (hcap : vs.length ≤ cap)
    (hls : ls.size = maxL) (hf : 1 ≤ R.frames) (hl : (st.map fun v => v.category).sum + 14 ≤ R.locals) (hk : A.length = b0 + k) (hc : k + 1 ≤ R.cells) (hs : n + cap ≤ R.slots) (hi : A.length = ii) (hA' : A ++ [.inr (ty, vs)] = A') (hk' : k + 1 = k') (hn' : n + cap = n') (h : G pc' ls (.ref (n0 + ii) :: st) A' k' n') : G pc ls (.ref (n0 + i) :: st) A k n := by
  obtain ⟨hd, rfl⟩ := hd
  obtain ⟨pp, e, s, m, args, below, meth, c, hx, hby, hml, hown, hnm, hret, hlk, hZ, hK, hb0, rfl⟩ := H
  obtain ⟨w1, w2, w3, w4, w5, w6⟩ := L
  subst hA' hk' hn' hi had
  intro T locs X hR hF
  obtain ⟨k1, V1, O1⟩ := arv_of l1 (hR.2 i _ hA)
  obtain ⟨⟨EB, fB⟩, -⟩ := hR.2 i _ hA
  have n1 := (tn_of (len_toInt (n := vs.length) (by omega))).2
  obtain ⟨T', h', X', eT, E, V', EA, sp⟩ := cloneH X hx hZ hown w1 w2 w3 w4 w5 w6 rfl V1.arh EB (g := mkF m pc ls (.ref (n0 + i) :: st)) rfl (by rw [hml]; exact hls) rfl (hb hby hd) hf (W := (st.map fun v => v.category).sum) (cap := cap) (by show 2 * 0 + _ ≤ _; omega) hl (by rw [n1]; exact hcap) hc hs
  have hsz : h'.size = n0 + (A.length + 1) := by rw [← eT]; exact size_up X' hb0 hR.1 hk (by rw [eT]; exact EA.lt)
  rw [hR.1] at EA V'
  have hN : ObAt Z K h' (n0 + A.length) (.inr (ty, vs)) := by
    obtain ⟨cc, a1, a2, a3, a4, a5, a6⟩ := V'
    refine ⟨⟨EA, fB⟩, cc, a1, slots_of (by rw [a3, n1]) a5, fun C q => by rw [a2]; exact O1 C q⟩
  obtain ⟨s₂, o, h1, h2⟩ := h T' locs X' (by rw [eT]; exact hR.push E hsz hN) hF
  rw [← hR.1] at h1
  exact ⟨s₂, o, sp _ h1, h2⟩
theorem IsGo.castA (H : IsGo l Z a0 K n0 b0 y bytes maxL ret R Q G) {idx : Nat} {ad : String} (hd : Nx bytes pc (.checkcast idx) 3 pc') (w : (Jvm.Cond.classLink y.cls idx ad).before a0 Z = true) {i : Nat} {ty : FieldType} {vs : List Value} (hA : A[i]? = some (.inr (ty, vs))) (had : "[" ++ ty.toString = ad) (h : G pc' ls (.ref (n0 + i) :: st) A k n) : G pc ls (.ref (n0 + i) :: st) A k n := by
  obtain ⟨hd, rfl⟩ := hd
  obtain ⟨pp, e, s, m, args, below, meth, c, hx, hby, hml, hown, hnm, hret, hlk, hZ, hK, hb0, rfl⟩ := H
  subst had
  intro T locs X hR hF
  obtain ⟨⟨EB, -⟩, -⟩ := hR.2 i _ hA
  obtain ⟨T', X', eT, sp⟩ := castY X hx hZ hown w rfl (Ins.self EB) (g := mkF m pc ls (.ref (n0 + i) :: st)) rfl rfl (hb hby hd)
  obtain ⟨s₂, o, h1, h2⟩ := h T' locs X' (by rw [eT]; exact hR) hF
  exact ⟨s₂, o, sp _ h1, h2⟩
/-! ### calls -/
def IL (Z : State) (a0 : Array Value) (own : String) (idx : Nat) : Prop := (Jvm.Cond.methodLink own idx Lib.objectInit).before a0 Z = true ∧ (Jvm.Cond.instanceMethod Lib.objectInit).before a0 Z = true ∧ (Jvm.Cond.code Lib.objectInit ⟨#[0xb1]⟩ 1 none).before a0 Z = true
theorem IsGo.initO (H : IsGo l Z a0 K n0 b0 y bytes maxL ret R Q G) {idx : Nat} (hd : Nx bytes pc (.invokespecial idx) 3 pc') (L : IL Z a0 y.cls idx) {a : Addr} (hls : ls.size = maxL) (hf : 1 ≤ R.frames) (hl : (st.map fun v => v.category).sum + 12 ≤ R.locals) (h : G pc' ls st A k n) : G pc ls (.ref a :: st) A k n := by
  obtain ⟨hd, rfl⟩ := hd
  obtain ⟨p, e, s, m, args, below, meth, c, hx, hby, hml, hown, hnm, hret, hlk, hZ, hK, hb0, rfl⟩ := H
  obtain ⟨w1, w2, w3⟩ := L
  intro T locs X hR hF
  obtain ⟨T', X', eT, sp⟩ := RoadKit.initO X hx hZ hown w1 w2 w3 rfl (g := mkF m pc ls (.ref a :: st)) rfl (by rw [hml]; exact hls) rfl (hb hby hd) hf (W := (st.map fun v => v.category).sum) (by show 2 * 0 + _ ≤ _; omega) hl
  obtain ⟨s₂, o, h1, h2⟩ := h T' locs X' (by rw [eT]; exact hR) hF
  exact ⟨s₂, o, sp _ h1, h2⟩
def SL (Z : State) (a0 : Array Value) (own : String) (idx : Nat) (z : MethodName) (zb : ByteArray) (zm : Nat) (zr : Option FieldType) (np : Nat) : Prop :=
  (Jvm.Cond.methodLink own idx z).before a0 Z = true ∧ (Jvm.Cond.static z).before a0 Z = true ∧ (Jvm.Cond.initialized z.cls).before a0 Z = true ∧ (Jvm.Cond.code z zb zm zr).before a0 Z = true ∧ (z.cls ≠ "java/lang/invoke/MethodHandle" ∧ z.cls ≠ "java/lang/invoke/VarHandle") ∧ ∀ sig, parseMethodDescriptor z.desc = some sig → np = sig.parameters.length
theorem IsGo.callS (H : IsGo l Z a0 K n0 b0 y bytes maxL ret R Q G) {idx : Nat} (hd : Nx bytes pc (.invokestatic idx) 3 pc') {z : MethodName} {zb : ByteArray} {zm : Nat} {zr : Option FieldType} {np : Nat} (L : SL Z a0 y.cls idx z zb zm zr np) {rm : Room} {as : Array Value} {QQ : Option Value → List Ob → Prop} (M : Met l Z K n0 z zb zm zr rm as A QQ)
    {argsL rest : List Value} (ha : argsL.toArray = as) (hnp : argsL.length = np) (hst : st = argsL.reverse ++ rest) (hls : ls.size = maxL) (hf : rm.frames + 1 ≤ R.frames) (hl : (rest.map fun v => v.category).sum + (zm + 11) + rm.locals ≤ R.locals) (hc : k + rm.cells ≤ R.cells) (hs : n + rm.slots ≤ R.slots) (h : ∀ v A', QQ v A' → G pc' ls (v.toList ++ rest) A' (k + rm.cells) (n + rm.slots)) : G pc ls st A k n := by
  obtain ⟨hd, rfl⟩ := hd
  obtain ⟨p, e, s, m, args, below, meth, c, hx, hby, hml, hown, hnm, hret, hlk, hZ, hK, hb0, rfl⟩ := H
  obtain ⟨w1, w2, w3, w4, w5, w6⟩ := L
  subst ha hst hnp
  intro T locs X hR hF
  obtain ⟨v, vm₁, ⟨T', L', k', n'⟩, -, X', ⟨Lc, ⟨A', hQ, hR', hF'⟩, e1, e2, e3⟩, sp⟩ := Jvm.LawKit.callS X hx (y := z) hown (mvT hZ w1) (mvT hZ w2) (mvT hZ w3) (mvT hZ w4) w5 (backOf (W := (rest.map fun v => v.category).sum) (Q := fun v h L => ∃ A', QQ v A' ∧ Rel Z K n0 h A' ∧ Fr n0 L) (M [] T.heap hR) hZ w4 w3 hf hl) (g := mkF m pc ls (argsL.reverse ++ rest)) rfl (by rw [hml]; exact hls) (argsL := argsL) (rest := rest) w6 rfl (by show 2 * 0 + _ ≤ _; omega) (hb hby hd) (fun _ _ => ⟨rfl, rfl, hc, hs⟩)
  dsimp only [Pt.U, Pt.locs, Pt.cells, Pt.slots] at X' e1 e2 e3 sp hQ hR'
  subst e1 e2 e3
  obtain ⟨s₂, o, h1, h2⟩ := h v A' hQ T' _ X' hR' (Fr.app hF hF')
  exact ⟨s₂, o, sp _ h1, h2⟩
/-- a constructor by its contract -/
def CL (Z : State) (a0 : Array Value) (own : String) (idx : Nat) (z : MethodName) (zb : ByteArray) (zm : Nat) (np : Nat) : Prop :=
  (Jvm.Cond.methodLink own idx z).before a0 Z = true ∧ (Jvm.Cond.instanceMethod z).before a0 Z = true ∧ (Jvm.Cond.initialized z.cls).before a0 Z = true ∧ (Jvm.Cond.code z zb zm none).before a0 Z = true ∧ (z.cls ≠ "java/lang/invoke/MethodHandle" ∧ z.cls ≠ "java/lang/invoke/VarHandle") ∧ (∀ sig, parseMethodDescriptor z.desc = some sig → np = sig.parameters.length) ∧ z.name = "<init>"
theorem IsGo.callC (H : IsGo l Z a0 K n0 b0 y bytes maxL ret R Q G) {idx : Nat} (hd : Nx bytes pc (.invokespecial idx) 3 pc') {z : MethodName} {zb : ByteArray} {zm : Nat} {np : Nat} (L : CL Z a0 y.cls idx z zb zm np) {rm : Room} {as : Array Value} {QQ : Option Value → List Ob → Prop} (M : Met l Z K n0 z zb zm none rm as A QQ)
    {a : Addr} {argsL rest : List Value} (ha : (Value.ref a :: argsL).toArray = as) (hnp : argsL.length = np) (hst : st = argsL.reverse ++ .ref a :: rest) (hls : ls.size = maxL) (hf : rm.frames + 1 ≤ R.frames) (hl : (rest.map fun v => v.category).sum + (zm + 11) + rm.locals ≤ R.locals) (hc : k + rm.cells ≤ R.cells) (hs : n + rm.slots ≤ R.slots) (h : ∀ v A', QQ v A' → G pc' ls (v.toList ++ rest) A' (k + rm.cells) (n + rm.slots)) : G pc ls st A k n := by
  obtain ⟨hd, rfl⟩ := hd
  obtain ⟨p, e, s, m, args, below, meth, c, hx, hby, hml, hown, hnm, hret, hlk, hZ, hK, hb0, rfl⟩ := H
  obtain ⟨w1, w2, w3, w4, w5, w6, w7⟩ := L
  subst ha hst hnp
  intro T locs X hR hF
  obtain ⟨v, vm₁, ⟨T', L', k', n'⟩, -, X', ⟨Lc, ⟨A', hQ, hR', hF'⟩, e1, e2, e3⟩, sp⟩ := X.specialBack hx (y := z) w7 hown (mvT hZ w1) (mvT hZ w2) (mvT hZ w4) w5 (backOf (W := (rest.map fun v => v.category).sum) (Q := fun v h L => ∃ A', QQ v A' ∧ Rel Z K n0 h A' ∧ Fr n0 L) (M [] T.heap hR) hZ w4 w3 hf hl) (g := mkF m pc ls (argsL.reverse ++ .ref a :: rest)) rfl (by rw [hml]; exact hls) (Steps.refl _) (a := a) (argsL := argsL) (rest := rest) w6 rfl (by show 2 * 0 + _ ≤ _; omega) (hb hby hd) (fun _ _ => ⟨rfl, rfl, hc, hs⟩)
  dsimp only [Pt.U, Pt.locs, Pt.cells, Pt.slots] at X' e1 e2 e3 sp hQ hR'
  subst e1 e2 e3
  obtain ⟨s₂, o, h1, h2⟩ := h v A' hQ T' _ X' hR' (Fr.app hF hF')
  exact ⟨s₂, o, sp.trans h1, h2⟩
/-- a method of an object of class number kk, by its contract -/
def VL (Z : State) (a0 : Array Value) (K : KTab) (own : String) (idx kk : Nat) (z : MethodName) (zb : ByteArray) (zm : Nat) (zr : Option FieldType) (np : Nat) : Prop :=
  ∃ C fs, K[kk]? = some (C, fs) ∧ (Jvm.Cond.methodLink own idx z).before a0 Z = true ∧ (Jvm.Cond.declares z).before a0 Z = true ∧ (Jvm.Cond.selects C z z).before a0 Z = true ∧ (Jvm.Cond.instanceMethod z).before a0 Z = true ∧ (Jvm.Cond.initialized z.cls).before a0 Z = true ∧ (Jvm.Cond.code z zb zm zr).before a0 Z = true ∧ (z.cls ≠ "java/lang/invoke/MethodHandle" ∧ z.cls ≠ "java/lang/invoke/VarHandle") ∧ (∀ sig, parseMethodDescriptor z.desc = some sig → np = sig.parameters.length)
theorem IsGo.callV (H : IsGo l Z a0 K n0 b0 y bytes maxL ret R Q G) {idx kk : Nat} (hd : Nx bytes pc (.invokevirtual idx) 3 pc') {z : MethodName} {zb : ByteArray} {zm : Nat} {zr : Option FieldType} {np : Nat} (L : VL Z a0 K y.cls idx kk z zb zm zr np) {rm : Room} {as : Array Value} {QQ : Option Value → List Ob → Prop} (M : Met l Z K n0 z zb zm zr rm as A QQ)
    {i : Nat} {vs : List Value} (hA : A[i]? = some (.inl (kk, vs))) {argsL rest : List Value} (ha : (Value.ref (n0 + i) :: argsL).toArray = as) (hnp : argsL.length = np) (hst : st = argsL.reverse ++ .ref (n0 + i) :: rest) (hls : ls.size = maxL) (hf : rm.frames + 1 ≤ R.frames) (hl : (rest.map fun v => v.category).sum + (zm + 11) + rm.locals ≤ R.locals) (hc : k + rm.cells ≤ R.cells) (hs : n + rm.slots ≤ R.slots) (h : ∀ v A', QQ v A' → G pc' ls (v.toList ++ rest) A' (k + rm.cells) (n + rm.slots)) : G pc ls st A k n := by
  obtain ⟨hd, rfl⟩ := hd
  obtain ⟨p, e, s, m, args, below, meth, c, hx, hby, hml, hown, hnm, hret, hlk, hZ, hK, hb0, rfl⟩ := H
  obtain ⟨C, fs, hk, w1, w2, w3, w4, w5, w6, w7, w8⟩ := L
  subst ha hst hnp
  intro T locs X hR hF
  obtain ⟨cB, kB, qa, qb, qc⟩ := isOf hZ rfl ((hR.2 i _ hA).exa hk)
  obtain ⟨v, vm₁, ⟨T', L', k', n'⟩, -, X', ⟨Lc, ⟨A', hQ, hR', hF'⟩, e1, e2, e3⟩, sp⟩ := X.virtualBack hx (y := z) (z := z) hown (mvT hZ w1) (mvT hZ w2) (notFace_of_selects (args := #[]) (mvT hZ w3)) (mvT hZ w3) (mvT hZ w4) w7 (backOf (W := (rest.map fun v => v.category).sum) (Q := fun v h L => ∃ A', QQ v A' ∧ Rel Z K n0 h A' ∧ Fr n0 L) (M [] T.heap hR) hZ w6 w5 hf hl) qa qc (g := mkF m pc ls (argsL.reverse ++ .ref (n0 + i) :: rest)) rfl (by rw [hml]; exact hls) (Steps.refl _) (argsL := argsL) (rest := rest) w8 rfl (by show 2 * 0 + _ ≤ _; omega) (hb hby hd) (fun _ _ => ⟨rfl, rfl, hc, hs⟩)
  dsimp only [Pt.U, Pt.locs, Pt.cells, Pt.slots] at X' e1 e2 e3 sp hQ hR'
  subst e1 e2 e3
  obtain ⟨s₂, o, h1, h2⟩ := h v A' hQ T' _ X' hR' (Fr.app hF hF')
  exact ⟨s₂, o, sp.trans h1, h2⟩
/-- a private method -/
def ML (Z : State) (a0 : Array Value) (K : KTab) (own : String) (idx kk : Nat) (z : MethodName) (zb : ByteArray) (zm : Nat) (zr : Option FieldType) (np : Nat) : Prop :=
  ∃ C fs, K[kk]? = some (C, fs) ∧ (Jvm.Cond.methodLink own idx z).before a0 Z = true ∧ (Jvm.Cond.privateMethod z).before a0 Z = true ∧ z.cls = C ∧ (Jvm.Cond.instanceMethod z).before a0 Z = true ∧ (Jvm.Cond.initialized z.cls).before a0 Z = true ∧ (Jvm.Cond.code z zb zm zr).before a0 Z = true ∧ (z.cls ≠ "java/lang/invoke/MethodHandle" ∧ z.cls ≠ "java/lang/invoke/VarHandle") ∧ (∀ sig, parseMethodDescriptor z.desc = some sig → np = sig.parameters.length)
theorem IsGo.callM (H : IsGo l Z a0 K n0 b0 y bytes maxL ret R Q G) {idx kk : Nat} (hd : Nx bytes pc (.invokevirtual idx) 3 pc') {z : MethodName} {zb : ByteArray} {zm : Nat} {zr : Option FieldType} {np : Nat} (L : ML Z a0 K y.cls idx kk z zb zm zr np) {rm : Room} {as : Array Value} {QQ : Option Value → List Ob → Prop} (M : Met l Z K n0 z zb zm zr rm as A QQ)
    {i : Nat} {vs : List Value} (hA : A[i]? = some (.inl (kk, vs))) {argsL rest : List Value} (ha : (Value.ref (n0 + i) :: argsL).toArray = as) (hnp : argsL.length = np) (hst : st = argsL.reverse ++ .ref (n0 + i) :: rest) (hls : ls.size = maxL) (hf : rm.frames + 1 ≤ R.frames) (hl : (rest.map fun v => v.category).sum + (zm + 11) + rm.locals ≤ R.locals) (hc : k + rm.cells ≤ R.cells) (hs : n + rm.slots ≤ R.slots) (h : ∀ v A', QQ v A' → G pc' ls (v.toList ++ rest) A' (k + rm.cells) (n + rm.slots)) : G pc ls st A k n := by
  obtain ⟨hd, rfl⟩ := hd
  obtain ⟨p, e, s, m, args, below, meth, c, hx, hby, hml, hown, hnm, hret, hlk, hZ, hK, hb0, rfl⟩ := H
  obtain ⟨C, fs, hk, w1, w2, w3, w4, w5, w6, w7, w8⟩ := L
  subst ha hst hnp
  intro T locs X hR hF
  obtain ⟨cq, q1, q2⟩ := ((hR.2 i _ hA).exa hk).cell
  obtain ⟨⟨ki, wi⟩, -, -⟩ := hK kk C fs hk
  obtain ⟨c2, k2, i1, i2, -, i4, -⟩ := Cond.instantiable_spec (show (Jvm.Cond.instantiable z.cls ki).before args s = true from mvT hZ (by rw [w3]; exact wi))
  have hni : k2.isInterface = false := by
    simp only [Bool.or_eq_false_iff] at i4
    exact i4.1
  have hpr := Cond.privateMethod_at (mvP hZ w2 (args := #[]))
  have w3' := selects_self_of_private (args := args) i1 i2 hni hpr (mvT hZ w4) w7
  obtain ⟨v, vm₁, ⟨T', L', k', n'⟩, -, X', ⟨Lc, ⟨A', hQ, hR', hF'⟩, e1, e2, e3⟩, sp⟩ := X.privateBack hx (y := z) hown (mvT hZ w1) (mvT hZ w4) w3' hpr (mvT hZ w6) w7 (backOf (W := (rest.map fun v => v.category).sum) (Q := fun v h L => ∃ A', QQ v A' ∧ Rel Z K n0 h A' ∧ Fr n0 L) (M [] T.heap hR) hZ w6 w5 hf hl) (g := mkF m pc ls (argsL.reverse ++ .ref (n0 + i) :: rest)) rfl (by rw [hml]; exact hls) (Steps.refl _) (a := n0 + i) q1 q2 (argsL := argsL) (rest := rest) w8 rfl (by show 2 * 0 + _ ≤ _; omega) (hb hby hd) (fun _ _ => ⟨rfl, rfl, hc, hs⟩)
  dsimp only [Pt.U, Pt.locs, Pt.cells, Pt.slots] at X' e1 e2 e3 sp hQ hR'
  subst e1 e2 e3
  obtain ⟨s₂, o, h1, h2⟩ := h v A' hQ T' _ X' hR' (Fr.app hF hF')
  exact ⟨s₂, o, sp.trans h1, h2⟩
theorem IsGo.callSD (H : IsGo l Z a0 K n0 b0 y bytes maxL ret R Q G) {idx : Nat} (hd : Nx bytes pc (.invokestatic idx) 3 pc') {z : MethodName} {zb : ByteArray} {zm : Nat} {zr : Option FieldType} {np : Nat} (L : SL Z a0 y.cls idx z zb zm zr np) {rm : Room} {as : Array Value} {vo : Option Value} (M : Met l Z K n0 z zb zm zr rm as A (Is vo A'))
    {argsL rest : List Value} (ha : argsL.toArray = as) (hnp : argsL.length = np) (hst : st = argsL.reverse ++ rest) (hls : ls.size = maxL) (hf : rm.frames + 1 ≤ R.frames) (hl : (rest.map fun v => v.category).sum + (zm + 11) + rm.locals ≤ R.locals) (hc : k + rm.cells ≤ R.cells) (hs : n + rm.slots ≤ R.slots) (hst' : vo.toList ++ rest = st') (hk' : k + rm.cells = k') (hn' : n + rm.slots = n') (h : G pc' ls st' A' k' n') : G pc ls st A k n :=
  H.callS hd L M ha hnp hst hls hf hl hc hs (fun v B q => by obtain ⟨rfl, rfl⟩ := q; subst hst' hk' hn'; exact h)
theorem IsGo.callCD (H : IsGo l Z a0 K n0 b0 y bytes maxL ret R Q G) {idx : Nat} (hd : Nx bytes pc (.invokespecial idx) 3 pc') {z : MethodName} {zb : ByteArray} {zm : Nat} {np : Nat} (L : CL Z a0 y.cls idx z zb zm np) {rm : Room} {as : Array Value} {vo : Option Value} (M : Met l Z K n0 z zb zm none rm as A (Is vo A'))
    {a : Addr} {argsL rest : List Value} (ha : (Value.ref a :: argsL).toArray = as) (hnp : argsL.length = np) (hst : st = argsL.reverse ++ .ref a :: rest) (hls : ls.size = maxL) (hf : rm.frames + 1 ≤ R.frames) (hl : (rest.map fun v => v.category).sum + (zm + 11) + rm.locals ≤ R.locals) (hc : k + rm.cells ≤ R.cells) (hs : n + rm.slots ≤ R.slots) (hst' : vo.toList ++ rest = st') (hk' : k + rm.cells = k') (hn' : n + rm.slots = n') (h : G pc' ls st' A' k' n') : G pc ls st A k n :=
  H.callC hd L M ha hnp hst hls hf hl hc hs (fun v B q => by obtain ⟨rfl, rfl⟩ := q; subst hst' hk' hn'; exact h)
theorem IsGo.callVD (H : IsGo l Z a0 K n0 b0 y bytes maxL ret R Q G) {idx kk : Nat} (hd : Nx bytes pc (.invokevirtual idx) 3 pc') {z : MethodName} {zb : ByteArray} {zm : Nat} {zr : Option FieldType} {np : Nat} (L : VL Z a0 K y.cls idx kk z zb zm zr np) {rm : Room} {as : Array Value} {vo : Option Value} (M : Met l Z K n0 z zb zm zr rm as A (Is vo A'))
    {i : Nat} {vs : List Value} (hA : A[i]? = some (.inl (kk, vs))) {argsL rest : List Value} (ha : (Value.ref (n0 + i) :: argsL).toArray = as) (hnp : argsL.length = np) (hst : st = argsL.reverse ++ .ref (n0 + i) :: rest) (hls : ls.size = maxL) (hf : rm.frames + 1 ≤ R.frames) (hl : (rest.map fun v => v.category).sum + (zm + 11) + rm.locals ≤ R.locals) (hc : k + rm.cells ≤ R.cells) (hs : n + rm.slots ≤ R.slots) (hst' : vo.toList ++ rest = st') (hk' : k + rm.cells = k') (hn' : n + rm.slots = n') (h : G pc' ls st' A' k' n') : G pc ls st A k n :=
  H.callV hd L M hA ha hnp hst hls hf hl hc hs (fun v B q => by obtain ⟨rfl, rfl⟩ := q; subst hst' hk' hn'; exact h)
theorem IsGo.callMD (H : IsGo l Z a0 K n0 b0 y bytes maxL ret R Q G) {idx kk : Nat} (hd : Nx bytes pc (.invokevirtual idx) 3 pc') {z : MethodName} {zb : ByteArray} {zm : Nat} {zr : Option FieldType} {np : Nat} (L : ML Z a0 K y.cls idx kk z zb zm zr np) {rm : Room} {as : Array Value} {vo : Option Value} (M : Met l Z K n0 z zb zm zr rm as A (Is vo A'))
    {i : Nat} {vs : List Value} (hA : A[i]? = some (.inl (kk, vs))) {argsL rest : List Value} (ha : (Value.ref (n0 + i) :: argsL).toArray = as) (hnp : argsL.length = np) (hst : st = argsL.reverse ++ .ref (n0 + i) :: rest) (hls : ls.size = maxL) (hf : rm.frames + 1 ≤ R.frames) (hl : (rest.map fun v => v.category).sum + (zm + 11) + rm.locals ≤ R.locals) (hc : k + rm.cells ≤ R.cells) (hs : n + rm.slots ≤ R.slots) (hst' : vo.toList ++ rest = st') (hk' : k + rm.cells = k') (hn' : n + rm.slots = n') (h : G pc' ls st' A' k' n') : G pc ls st A k n :=
  H.callM hd L M hA ha hnp hst hls hf hl hc hs (fun v B q => by obtain ⟨rfl, rfl⟩ := q; subst hst' hk' hn'; exact h)
/-! ### the end -/
theorem IsGo.retW (H : IsGo l Z a0 K n0 b0 y bytes maxL ret R Q G) {i : Instr} (hd : Nx bytes pc i 1 pc') {t : FieldType} {w : Value} (hret : ret = some t) (hn : narrow t w = w)
    (hi : (i = .ireturn ∧ (t = .int ∨ t = .boolean ∨ t = .byte ∨ t = .char ∨ t = .short) ∧ ∃ z, w = .int z) ∨ (i = .lreturn ∧ t = .long ∧ ∃ z, w = .long z) ∨ (i = .dreturn ∧ t = .double ∧ ∃ z, w = .double z) ∨ (i = .freturn ∧ t = .float ∧ ∃ z, w = .float z) ∨ (i = .areturn ∧ t.isReference = true ∧ w.isRef = true))
    (hQ : Q (some w) A) (hc : k ≤ R.cells) (hs : n ≤ R.slots) : G pc ls (w :: st) A k n := by
  obtain ⟨hd, rfl⟩ := hd
  obtain ⟨p, e, s, m, args, below, meth, c, hx, hby, hml, hown, hnm, hret', hlk, hZ, hK, hb0, rfl⟩ := H
  intro T locs X hR hF
  obtain ⟨fs, hr, hrun, hended, hW, hsame⟩ := X.leave (v := some w) (fun h => by rw [hret', hret] at h; cases h) hlk
  exact ⟨_, _, retOut X hx (hret'.trans hret) hn hi (hb hby hd) hr, hrun, hended, _, _, rfl, ⟨A, hQ, hR, hF⟩, ⟨_, rfl⟩, hW, hsame.mono hc hs⟩
theorem IsGo.ireturn (H : IsGo l Z a0 K n0 b0 y bytes maxL ret R Q G) (hd : Nx bytes pc .ireturn 1 pc') {t : FieldType} {z : Int32} (hret : ret = some t) (ht : t = .int ∨ t = .boolean ∨ t = .byte ∨ t = .char ∨ t = .short) (hn : narrow t (.int z) = .int z) (hQ : Q (some (.int z)) A) (hc : k ≤ R.cells) (hs : n ≤ R.slots) : G pc ls (.int z :: st) A k n :=
  H.retW hd hret hn (Or.inl ⟨rfl, ht, z, rfl⟩) hQ hc hs
theorem IsGo.lreturn (H : IsGo l Z a0 K n0 b0 y bytes maxL ret R Q G) (hd : Nx bytes pc .lreturn 1 pc') {z : Int64} (hret : ret = some .long) (hQ : Q (some (.long z)) A) (hc : k ≤ R.cells) (hs : n ≤ R.slots) : G pc ls (.long z :: st) A k n :=
  H.retW hd hret rfl (Or.inr (Or.inl ⟨rfl, rfl, z, rfl⟩)) hQ hc hs
theorem IsGo.areturn (H : IsGo l Z a0 K n0 b0 y bytes maxL ret R Q G) (hd : Nx bytes pc .areturn 1 pc') {t : FieldType} {w : Value} (hret : ret = some t) (ht : t.isReference = true) (hn : narrow t w = w) (hw : w.isRef = true) (hQ : Q (some w) A) (hc : k ≤ R.cells) (hs : n ≤ R.slots) : G pc ls (w :: st) A k n :=
  H.retW hd hret hn (Or.inr (Or.inr (Or.inr (Or.inr ⟨rfl, ht, hw⟩)))) hQ hc hs
theorem IsGo.vreturn (H : IsGo l Z a0 K n0 b0 y bytes maxL ret R Q G) (hd : Nx bytes pc .return_ 1 pc') (hret : ret = none) (hQ : Q none A) (hc : k ≤ R.cells) (hs : n ≤ R.slots) : G pc ls [] A k n := by
  obtain ⟨hd, rfl⟩ := hd
  obtain ⟨p, e, s, m, args, below, meth, c, hx, hby, hml, hown, hnm, hret', hlk, hZ, hK, hb0, rfl⟩ := H
  intro T locs X hR hF
  obtain ⟨fs, hr, hrun, hended, hW, hsame⟩ := X.leave (v := none) (fun _ => rfl) hlk
  exact ⟨_, _, X.returnOut hx (hret'.trans hret) (hb hby hd) hr, hrun, hended, _, _, rfl, ⟨A, hQ, hR, hF⟩, ⟨_, rfl⟩, hW, hsame.mono hc hs⟩
end Rules
end Jvm.OwnKit

namespace Jvm.OwnL
open Sem ClassFile Op Lib Jvm.Free Jvm.Stand Jvm.LawKit Jvm.RoadKit Jvm.OwnKit
abbrev MV : Type := Int ⊕ Nat ⊕ (Int × Int × Int × Int × Int)
abbrev MZ : Type := Option (Option MV)
abbrev MO : Type := (Nat × List MV) ⊕ (Bool × List MV)
abbrev MS : Type := Nat × List MZ × List MV × List MO × Nat × Nat
abbrev ME : Type := (MS → Option MS) ⊕ (Nat × Nat × Nat × Nat × List MZ) ⊕ Nat
/-- a row of the signs: a form, which question (0: is it 0, 1: is it below 0, 2: is it above 0), the answer -/
abbrev SR : Type := (Int × Int × Int × Int × Int) × Nat × Bool
def nul : MV := .inr (.inl 0)
def okI : Int → Bool
  | .ofNat m => Nat.ble m 2147483647
  | .negSucc m => Nat.ble m 2147483647
def ltI : Int → Int → Bool
  | .ofNat a, .ofNat b => Nat.ble (a + 1) b
  | .negSucc _, .ofNat _ => true
  | .ofNat _, .negSucc _ => false
  | .negSucc a, .negSucc b => Nat.ble (b + 1) a
def eqI : Int → Int → Bool
  | .ofNat a, .ofNat b => Nat.beq a b
  | .negSucc a, .negSucc b => Nat.beq a b
  | _, _ => false
def cmI : ClassFile.Cond → Int → Int → Bool
  | .eq, u, v => eqI u v
  | .ne, u, v => !eqI u v
  | .lt, u, v => ltI u v
  | .ge, u, v => !ltI u v
  | .gt, u, v => ltI v u
  | .le, u, v => !ltI v u
def nthR {α : Type} : List α → Nat → Option α
  | [], _ => none
  | x :: _, 0 => some x
  | _ :: xs, n + 1 => nthR xs n
def nt1 {α : Type} (r : List α → Nat → Option α) (l : List α) (n : Nat) : Option α := match l with
  | [] => none
  | x :: xs => match n with
    | 0 => some x
    | n + 1 => r xs n
def nth {α : Type} (l : List α) (n : Nat) : Option α := nt1 (nt1 (nt1 (nt1 (nt1 (nt1 (nt1 (nt1 (nt1 (nt1 (nt1 (nt1 (nt1 (nt1 (nt1 (nt1 (nt1 (nt1 (nt1 (nt1 nthR))))))))))))))))))) l n
def nrm {α ρ : Type} : List α → (List α → ρ) → ρ
  | [], c => c []
  | x :: xs, c => nrm xs (fun ys => c (x :: ys))
def stR {α ρ : Type} : List α → Nat → α → (List α → ρ) → ρ
  | [], _, _, c => c []
  | _ :: xs, 0, v, c => c (v :: xs)
  | x :: xs, n + 1, v, c => stR xs n v (fun ys => c (x :: ys))
def st1 {α ρ : Type} (r : List α → Nat → α → (List α → ρ) → ρ) (l : List α) (n : Nat) (v : α) (c : List α → ρ) : ρ := match l with
  | [] => c []
  | x :: xs => match n with
    | 0 => c (v :: xs)
    | n + 1 => r xs n v (fun ys => c (x :: ys))
def stK {α ρ : Type} (l : List α) (n : Nat) (v : α) (c : List α → ρ) : ρ := st1 (st1 (st1 (st1 (st1 (st1 (st1 (st1 (st1 (st1 (st1 (st1 (st1 (st1 (st1 (st1 (st1 (st1 (st1 (st1 stR))))))))))))))))))) l n v c
def fN {ρ : Type} (n : Nat) (c : Nat → ρ) : ρ := match n with
  | 0 => c 0
  | m + 1 => c (Nat.add m 1)
def fI {ρ : Type} (z : Int) (c : Int → ρ) : ρ := match z with
  | .ofNat m => fN m (fun m => c (.ofNat m))
  | .negSucc m => fN m (fun m => c (.negSucc m))
theorem nthR_eq {α : Type} : ∀ (l : List α) (j : Nat), nthR l j = l[j]?
  | [], _ => by simp [nthR]
  | x :: xs, 0 => by simp [nthR]
  | x :: xs, n + 1 => by simp [nthR, nthR_eq xs n]
theorem nt1_eq {α : Type} {r : List α → Nat → Option α} (h : ∀ l j, r l j = l[j]?) (l : List α) (j : Nat) : nt1 r l j = l[j]? := by
  cases l with
  | nil => simp [nt1]
  | cons x xs => cases j <;> simp [nt1, h]
theorem nth_eq {α : Type} (l : List α) (j : Nat) : nth l j = l[j]? := nt1_eq (nt1_eq (nt1_eq (nt1_eq (nt1_eq (nt1_eq (nt1_eq (nt1_eq (nt1_eq (nt1_eq (nt1_eq (nt1_eq (nt1_eq (nt1_eq (nt1_eq (nt1_eq (nt1_eq (nt1_eq (nt1_eq (nt1_eq nthR_eq))))))))))))))))))) l j
theorem nrm_eq {α ρ : Type} : ∀ (l : List α) (c : List α → ρ), nrm l c = c l
  | [], _ => rfl
  | x :: xs, c => nrm_eq xs _
theorem stR_eq {α ρ : Type} : ∀ (l : List α) (j : Nat) (v : α) (c : List α → ρ), stR l j v c = c (l.set j v)
  | [], _, _, _ => rfl
  | _ :: _, 0, _, _ => rfl
  | x :: xs, n + 1, v, c => stR_eq xs n v _
theorem st1_eq {α ρ : Type} {r : List α → Nat → α → (List α → ρ) → ρ} (h : ∀ l j v c, r l j v c = c (l.set j v)) (l : List α) (j : Nat) (v : α) (c : List α → ρ) : st1 r l j v c = c (l.set j v) := by
  cases l with
  | nil => rfl
  | cons x xs => cases j with
    | zero => rfl
    | succ n => exact h xs n v _
theorem stK_eq {α ρ : Type} (l : List α) (j : Nat) (v : α) (c : List α → ρ) : stK l j v c = c (l.set j v) := st1_eq (st1_eq (st1_eq (st1_eq (st1_eq (st1_eq (st1_eq (st1_eq (st1_eq (st1_eq (st1_eq (st1_eq (st1_eq (st1_eq (st1_eq (st1_eq (st1_eq (st1_eq (st1_eq (st1_eq stR_eq))))))))))))))))))) l j v c
theorem fN_eq {ρ : Type} (n : Nat) (c : Nat → ρ) : fN n c = c n := by cases n <;> rfl
theorem fI_eq {ρ : Type} (z : Int) (c : Int → ρ) : fI z c = c z := by
  cases z with
  | ofNat m => exact fN_eq m (fun m => c (.ofNat m))
  | negSucc m => exact fN_eq m (fun m => c (.negSucc m))

def okJ : Int → Bool
  | .ofNat m => Nat.ble m 9223372036854775807
  | .negSucc m => Nat.ble m 9223372036854775807
def zI : Int → Bool
  | .ofNat 0 => true
  | _ => false
def zF (a b c p : Int) : Bool := zI a && zI b && zI c && zI p
def pP : Int → Nat
  | .ofNat m => m
  | .negSucc _ => 0
def nP : Int → Nat
  | .ofNat _ => 0
  | .negSucc m => m + 1
def okF (k a b c p : Int) : Bool := bif zF a b c p then okJ k else okJ (Int.add k (.ofNat (15 * (pP a + pP b + pP c + pP p)))) && okJ (Int.sub k (.ofNat (15 * (nP a + nP b + nP c + nP p))))
def isL : MV → Bool
  | .inr (.inr (_, _, _, _, _)) => true
  | _ => false
def kOf : MV → Nat
  | .inr (.inl _) => 0
  | .inl _ => 1
  | .inr (.inr (_, _, _, _, _)) => 2
def pl1 : MZ → Bool
  | none => true
  | some (some (.inl _)) => true
  | some (some (.inr (.inl _))) => true
  | _ => false
def qOf : ClassFile.Cond → Nat
  | .eq => 0 | .ne => 0 | .lt => 1 | .ge => 1 | .gt => 2 | .le => 2
def neg1 : ClassFile.Cond → Bool
  | .eq => false | .ne => true | .lt => false | .ge => true | .gt => false | .le => true
def lk (k a b c p : Int) (q : Nat) : List SR → Option Bool
  | [] => none
  | ((k', a', b', c', p'), q', t) :: T => bif Nat.beq q q' && eqI k k' && eqI a a' && eqI b b' && eqI c c' && eqI p p' then some t else lk k a b c p q T
/-- the answer of a comparison of two longs, by their difference -/
def ans (T : List SR) (cd : ClassFile.Cond) (k a b c p : Int) : Option Bool := bif zF a b c p then some (cmI cd k (.ofNat 0)) else match lk k a b c p (qOf cd) T with
  | some t => some (xor t (neg1 cd))
  | none => none
def xLoad (kd j nx : Nat) : MS → Option MS := fun (_, ls, st, A, k, n) => match nth ls j with | some (some (some x)) => bif Nat.beq (kOf x) kd then some (nx, ls, x :: st, A, k, n) else none | _ => none
def xStore (kd j nx : Nat) : MS → Option MS := fun (_, ls, st, A, k, n) => match st with
  | x :: r => bif Nat.beq (kOf x) kd then match nth ls j with | some o => bif pl1 o then stK ls j (some (some x)) fun ls' => some (nx, ls', r, A, k, n) else none | none => none else none
  | _ => none
def two : MZ → MZ → Bool
  | some (some (.inr (.inr (_, _, _, _, _)))), some none => true
  | x, y => pl1 x && pl1 y
def xLstore (j j1 nx : Nat) : MS → Option MS := fun (_, ls, st, A, k, n) => match st with
  | .inr (.inr (q, a, b, c, p)) :: r => match nth ls j, nth ls j1 with
    | some x, some y => bif two x y then stK ls j (some (some (.inr (.inr (q, a, b, c, p))))) fun ls1 => stK ls1 j1 (some none) fun ls' => some (nx, ls', r, A, k, n) else none
    | _, _ => none
  | _ => none
def xPush (z : Int) (nx : Nat) : MS → Option MS := fun (_, ls, st, A, k, n) => fI z fun z => some (nx, ls, .inl z :: st, A, k, n)
def xLpush (z : Int) (nx : Nat) : MS → Option MS := fun (_, ls, st, A, k, n) => fI z fun z => some (nx, ls, .inr (.inr (z, 0, 0, 0, 0)) :: st, A, k, n)
def xBin (f : Int → Int → Int) (nx : Nat) : MS → Option MS := fun (_, ls, st, A, k, n) => match st with
  | .inl v :: .inl u :: r => fI (f u v) fun z => bif okI u && okI v && okI z then some (nx, ls, .inl z :: r, A, k, n) else none
  | _ => none
def xRem (nx : Nat) : MS → Option MS := fun (_, ls, st, A, k, n) => match st with
  | .inl (.ofNat v) :: .inl (.ofNat u) :: r => bif okI (.ofNat u) && okI (.ofNat v) && Nat.ble 1 v then fN (Nat.mod u v) fun z => some (nx, ls, .inl (.ofNat z) :: r, A, k, n) else none
  | _ => none
def xLbin (f : Int → Int → Int) (nx : Nat) : MS → Option MS := fun (_, ls, st, A, k, n) => match st with
  | .inr (.inr (q, a, b, c, p)) :: .inr (.inr (q', a', b', c', p')) :: r => fI (f q' q) fun q => fI (f a' a) fun a => fI (f b' b) fun b => fI (f c' c) fun c => fI (f p' p) fun p => some (nx, ls, .inr (.inr (q, a, b, c, p)) :: r, A, k, n)
  | _ => none
def xLneg (nx : Nat) : MS → Option MS := fun (_, ls, st, A, k, n) => match st with
  | .inr (.inr (q, a, b, c, p)) :: r => fI (Int.neg q) fun q => fI (Int.neg a) fun a => fI (Int.neg b) fun b => fI (Int.neg c) fun c => fI (Int.neg p) fun p => some (nx, ls, .inr (.inr (q, a, b, c, p)) :: r, A, k, n)
  | _ => none
def xLop (nz : Bool) (f : Int64 → Int64 → Int64) (nx : Nat) : MS → Option MS := fun (_, ls, st, A, k, n) => match st with
  | .inr (.inr (q, a, b, c, p)) :: .inr (.inr (q', a', b', c', p')) :: r => bif zF a b c p && zF a' b' c' p' && (!nz || !zI (Int64.ofInt q).toInt) then fI (f (Int64.ofInt q') (Int64.ofInt q)).toInt fun z => some (nx, ls, .inr (.inr (z, 0, 0, 0, 0)) :: r, A, k, n) else none
  | _ => none
def xLushr (nx : Nat) : MS → Option MS := fun (_, ls, st, A, k, n) => match st with
  | .inl v :: .inr (.inr (q, a, b, c, p)) :: r => bif zF a b c p then fI ((Int64.ofInt q).toUInt64 >>> ((Int32.ofInt v) &&& 0x3f).toInt64.toUInt64).toInt64.toInt fun z => some (nx, ls, .inr (.inr (z, 0, 0, 0, 0)) :: r, A, k, n) else none
  | _ => none
def xI2l (nx : Nat) : MS → Option MS := fun (_, ls, st, A, k, n) => match st with
  | .inl v :: r => bif okI v then some (nx, ls, .inr (.inr (v, 0, 0, 0, 0)) :: r, A, k, n) else none
  | _ => none
def xInc (j : Nat) (z : Int) (nx : Nat) : MS → Option MS := fun (_, ls, st, A, k, n) => match nth ls j with
  | some (some (some (.inl v))) => fI (Int.add v z) fun y => bif okI v && okI y then stK ls j (some (some (.inl y))) fun ls' => some (nx, ls', st, A, k, n) else none
  | _ => none
def xDup (nx : Nat) : MS → Option MS := fun (_, ls, st, A, k, n) => match st with | v :: r => bif isL v then none else some (nx, ls, v :: v :: r, A, k, n) | _ => none
def xDup2 (nx : Nat) : MS → Option MS := fun (_, ls, st, A, k, n) => match st with | v :: u :: r => bif isL v || isL u then none else some (nx, ls, v :: u :: v :: u :: r, A, k, n) | _ => none
def xDupX1 (nx : Nat) : MS → Option MS := fun (_, ls, st, A, k, n) => match st with | v :: u :: r => bif isL v || isL u then none else some (nx, ls, v :: u :: v :: r, A, k, n) | _ => none
def xDupX2 (nx : Nat) : MS → Option MS := fun (_, ls, st, A, k, n) => match st with | v :: u :: w :: r => bif isL v || isL u || isL w then none else some (nx, ls, v :: u :: w :: v :: r, A, k, n) | _ => none
def xPop2 (nx : Nat) : MS → Option MS := fun (_, ls, st, A, k, n) => match st with | .inr (.inr (_, _, _, _, _)) :: r => some (nx, ls, r, A, k, n) | _ => none
def xGoto (t : Nat) : MS → Option MS := fun (_, ls, st, A, k, n) => some (t, ls, st, A, k, n)
def xIcmp (cd : ClassFile.Cond) (t nx : Nat) : MS → Option MS := fun (_, ls, st, A, k, n) => match st with
  | .inl v :: .inl u :: r => bif okI u && okI v then some (bif cmI cd u v then t else nx, ls, r, A, k, n) else none
  | _ => none
def xIf (cd : ClassFile.Cond) (t nx : Nat) : MS → Option MS := fun (_, ls, st, A, k, n) => match st with
  | .inl u :: r => bif okI u then some (bif cmI cd u (.ofNat 0) then t else nx, ls, r, A, k, n) else none
  | _ => none
def xLif (T : List SR) (cd : ClassFile.Cond) (t nx : Nat) : MS → Option MS := fun (_, ls, st, A, k, n) => match st with
  | .inr (.inr (q, a, b, c, p)) :: .inr (.inr (q', a', b', c', p')) :: r => bif okF q a b c p && okF q' a' b' c' p' then fI (Int.sub q' q) fun q => fI (Int.sub a' a) fun a => fI (Int.sub b' b) fun b => fI (Int.sub c' c) fun c => fI (Int.sub p' p) fun p => match ans T cd q a b c p with
      | some y => some (bif y then t else nx, ls, r, A, k, n)
      | none => none
    else none
  | _ => none
def xGet (kk j nx : Nat) : MS → Option MS := fun (_, ls, st, A, k, n) => match st with
  | .inr (.inl (a + 1)) :: r => match nth A a with
    | some (.inl (k', vs)) => bif Nat.beq kk k' then match nth vs j with | some v => some (nx, ls, v :: r, A, k, n) | none => none else none
    | _ => none
  | _ => none
def xPut (kd kk j nx : Nat) : MS → Option MS := fun (_, ls, st, A, k, n) => match st with
  | v :: .inr (.inl (a + 1)) :: r => bif Nat.beq (kOf v) kd then match nth A a with
    | some (.inl (k', vs)) => bif Nat.beq kk k' then stK vs j v fun vs' => stK A a (.inl (k', vs')) fun A' => some (nx, ls, r, A', k, n) else none
    | _ => none else none
  | _ => none
def xIaload (nx : Nat) : MS → Option MS := fun (_, ls, st, A, k, n) => match st with
  | .inl (.ofNat z) :: .inr (.inl (a + 1)) :: r => match nth A a with
    | some (.inr (false, vs)) => bif Nat.ble z 1000 then match nth vs z with | some v => some (nx, ls, v :: r, A, k, n) | none => none else none
    | _ => none
  | _ => none
def xLaload (nx : Nat) : MS → Option MS := fun (_, ls, st, A, k, n) => match st with
  | .inl (.ofNat z) :: .inr (.inl (a + 1)) :: r => match nth A a with
    | some (.inr (true, vs)) => bif Nat.ble z 1000 then match nth vs z with | some v => some (nx, ls, v :: r, A, k, n) | none => none else none
    | _ => none
  | _ => none
def xIastore (nx : Nat) : MS → Option MS := fun (_, ls, st, A, k, n) => match st with
  | .inl v :: .inl (.ofNat z) :: .inr (.inl (a + 1)) :: r => match nth A a with
    | some (.inr (false, vs)) => bif Nat.ble z 1000 then match nth vs z with | some _ => stK vs z (.inl v) fun vs' => stK A a (.inr (false, vs')) fun A' => some (nx, ls, r, A', k, n) | none => none else none
    | _ => none
  | _ => none
def xLastore (nx : Nat) : MS → Option MS := fun (_, ls, st, A, k, n) => match st with
  | .inr (.inr (q, e, f, g, h)) :: .inl (.ofNat z) :: .inr (.inl (a + 1)) :: r => match nth A a with
    | some (.inr (true, vs)) => bif Nat.ble z 1000 then match nth vs z with | some _ => stK vs z (.inr (.inr (q, e, f, g, h))) fun vs' => stK A a (.inr (true, vs')) fun A' => some (nx, ls, r, A', k, n) | none => none else none
    | _ => none
  | _ => none
def xLen (nx : Nat) : MS → Option MS := fun (_, ls, st, A, k, n) => match st with
  | .inr (.inl (a + 1)) :: r => match nth A a with | some (.inr (_, vs)) => bif Nat.ble vs.length 1000 then fN vs.length fun m => some (nx, ls, .inl (.ofNat m) :: r, A, k, n) else none | _ => none
  | _ => none
def dfl : Bool → MV
  | true => .inr (.inr (0, 0, 0, 0, 0))
  | false => .inl 0
def xNewA (lg : Bool) (nx : Nat) : MS → Option MS := fun (_, ls, st, A, k, n) => match st with
  | .inl (.ofNat z) :: r => bif Nat.ble z 1000 then fN (A.length + 1) fun m => nrm (List.replicate z (dfl lg)) fun vs => nrm (A ++ [.inr (lg, vs)]) fun A' => fN (k + 1) fun k' => fN (n + z) fun n' => some (nx, ls, .inr (.inl m) :: r, A', k', n') else none
  | _ => none
def xInit (nx : Nat) : MS → Option MS := fun (_, ls, st, A, k, n) => match st with
  | .inr (.inl (a + 1)) :: r => bif Nat.ble r.length 4 then some (nx, ls, r, A, k, n) else none
  | _ => none
def xCopy (nx : Nat) : MS → Option MS := fun (_, ls, st, A, k, n) => match st with
  | .inl (.ofNat c) :: .inl (.ofNat d) :: .inr (.inl (b + 1)) :: .inl (.ofNat s) :: .inr (.inl (a + 1)) :: r => match nth A a, nth A b with
    | some (.inr (false, vs)), some (.inr (false, vd)) => bif Nat.ble r.length 4 && Nat.ble vs.length 1000 && Nat.ble vd.length 1000 && Nat.ble (s + c) vs.length && Nat.ble (d + c) vd.length then nrm (vd.take d ++ (List.range c).map (fun i => vs.getD (s + i) nul) ++ vd.drop (d + c)) fun vs' => stK A b (.inr (false, vs')) fun A' => some (nx, ls, r, A', k, n) else none
    | _, _ => none
  | _ => none
def xSeq (m : Nat) (f g : MS → Option MS) : MS → Option MS := fun s => match f s with
  | some s' => bif Nat.beq s'.1 m then g s' else none
  | none => none
def lay1 : MV → List MZ → List MZ
  | .inr (.inr (k, a, b, c, p)), acc => some (some (.inr (.inr (k, a, b, c, p)))) :: some none :: acc
  | x, acc => some (some x) :: acc
def lay : List MV → List MZ
  | [] => []
  | x :: xs => lay1 x (lay xs)
/-- the arguments of a call: the top np values, the last argument on top -/
def tkR {ρ : Type} : Nat → List MV → List MZ → (List MZ → List MV → ρ) → ρ → ρ
  | 0, st, acc, c, _ => c acc st
  | _ + 1, [], _, _, e => e
  | n + 1, v :: st, acc, c, e => tkR n st (lay1 v acc) c e
def tkS (ρ : Type) (n : Nat) (st : List MV) (acc : List MZ) (c : List MZ → List MV → ρ) (e : ρ) : ρ := bif Nat.ble n st.length then c (lay (st.take n).reverse ++ acc) (st.drop n) else e
theorem lay1_app (x : MV) (a b : List MZ) : lay1 x (a ++ b) = lay1 x a ++ b := by rcases x with z | m | ⟨k, a, b, c, p⟩ <;> rfl
theorem lay_app : ∀ (a b : List MV), lay (a ++ b) = lay a ++ lay b
  | [], b => rfl
  | x :: xs, b => by rw [List.cons_append, lay, lay, lay_app xs b, lay1_app]
theorem tkR_eq {ρ : Type} : ∀ (n : Nat) (st : List MV) (acc : List MZ) (c : List MZ → List MV → ρ) (e : ρ), tkR n st acc c e = tkS ρ n st acc c e
  | 0, st, acc, c, e => by simp [tkR, tkS, lay, show Nat.ble 0 st.length = true from Nat.ble_eq.mpr (Nat.zero_le _)]
  | n + 1, [], acc, c, e => by simp [tkR, tkS, show Nat.ble (n + 1) 0 = false from rfl]
  | n + 1, v :: st, acc, c, e => by
    rw [tkR, tkR_eq n st]
    have e1 : lay1 v acc = lay1 v [] ++ acc := lay1_app v [] acc
    simp [tkS, show Nat.ble (n + 1) (st.length + 1) = Nat.ble n st.length from rfl, lay_app, lay, e1]
abbrev Va : Type := Int × Int × Int × Int
def Va.a (ν : Va) : Int := ν.1
def Va.b (ν : Va) : Int := ν.2.1
def Va.c (ν : Va) : Int := ν.2.2.1
def Va.p (ν : Va) : Int := ν.2.2.2
def Va.Ok (ν : Va) : Prop := (0 ≤ ν.a ∧ ν.a ≤ 15) ∧ (0 ≤ ν.b ∧ ν.b ≤ 15) ∧ (0 ≤ ν.c ∧ ν.c ≤ 15) ∧ (0 ≤ ν.p ∧ ν.p ≤ 15)
section Up
variable (n0 : Nat) (ν : Va)
def ev (k a b c p : Int) : Int := bif zF a b c p then k else k + a * ν.a + b * ν.b + c * ν.c + p * ν.p
def upV : MV → Value
  | .inl z => .int (Int32.ofInt z)
  | .inr (.inl 0) => .null
  | .inr (.inl (i + 1)) => .ref (n0 + i)
  | .inr (.inr (k, a, b, c, p)) => .long (Int64.ofInt (ev ν k a b c p))
def upL : MZ → Slot
  | none => .unset
  | some (some x) => .val (upV n0 ν x)
  | some none => .second
def upO : MO → Ob
  | .inl (k, vs) => .inl (k, vs.map (upV n0 ν))
  | .inr (false, vs) => .inr (.int, vs.map (upV n0 ν))
  | .inr (true, vs) => .inr (.long, vs.map (upV n0 ν))
def Gu (G : GoT) (s : MS) : Prop := G s.1 (s.2.1.map (upL n0 ν)).toArray (s.2.2.1.map (upV n0 ν)) (s.2.2.2.1.map (upO n0 ν)) s.2.2.2.2.1 s.2.2.2.2.2
/-- the rows of the signs hold -/
def SgR : SR → Prop
  | ((k, a, b, c, p), 0, t) => if t then ev ν k a b c p = 0 else ¬ ev ν k a b c p = 0
  | ((k, a, b, c, p), 1, t) => if t then ev ν k a b c p < 0 else 0 ≤ ev ν k a b c p
  | ((k, a, b, c, p), _, t) => if t then 0 < ev ν k a b c p else ev ν k a b c p ≤ 0
def Sg : List SR → Prop
  | [] => True
  | r :: T => SgR ν r ∧ Sg T
end Up
theorem okI_b {z : Int} (h : okI z = true) : -2147483648 ≤ z ∧ z < 2147483648 := by
  cases z with
  | ofNat m => have := Nat.le_of_ble_eq_true h; simp only [Int.ofNat_eq_natCast]; omega
  | negSucc m => have := Nat.le_of_ble_eq_true h; omega
theorem okJ_b {z : Int} (h : okJ z = true) : -9223372036854775808 ≤ z ∧ z < 9223372036854775808 := by
  cases z with
  | ofNat m => have := Nat.le_of_ble_eq_true h; simp only [Int.ofNat_eq_natCast]; omega
  | negSucc m => have := Nat.le_of_ble_eq_true h; omega
theorem zI_eq {z : Int} (h : zI z = true) : z = 0 := by
  unfold zI at h
  split at h
  · rfl
  · cases h
theorem zF_eq {a b c p : Int} (h : zF a b c p = true) : a = 0 ∧ b = 0 ∧ c = 0 ∧ p = 0 := by
  simp only [zF, Bool.and_eq_true] at h
  exact ⟨zI_eq h.1.1.1, zI_eq h.1.1.2, zI_eq h.1.2, zI_eq h.2⟩
theorem ev_eq (ν : Va) (k a b c p : Int) : ev ν k a b c p = k + a * ν.a + b * ν.b + c * ν.c + p * ν.p := by
  unfold ev
  cases h : zF a b c p <;> simp only [cond_true, cond_false]
  obtain ⟨rfl, rfl, rfl, rfl⟩ := zF_eq h
  simp
theorem ev0 (ν : Va) (k : Int) : ev ν k 0 0 0 0 = k := rfl
theorem upI_int {z : Int} (h : okI z = true) : (Int32.ofInt z).toInt = z := by
  have q := okI_b h
  exact Int32.toInt_ofInt_of_le (by omega) (by omega)
theorem mul_b {x v : Int} (v1 : 0 ≤ v) (v2 : v ≤ 15) : - (15 * (nP x : Int)) ≤ x * v ∧ x * v ≤ 15 * (pP x : Int) := by
  cases x with
  | ofNat m =>
    simp only [pP, nP, Int.ofNat_eq_natCast]
    have a := Int.mul_le_mul_of_nonneg_left v2 (Int.natCast_nonneg m)
    have b := Int.mul_nonneg (Int.natCast_nonneg m) v1
    omega
  | negSucc m =>
    simp only [pP, nP]
    have e : Int.negSucc m * v = - (((m + 1 : Nat) : Int) * v) := by rw [Int.negSucc_eq, ← Int.neg_mul]; rfl
    have a := Int.mul_le_mul_of_nonneg_left v2 (Int.natCast_nonneg (m + 1))
    have b := Int.mul_nonneg (Int.natCast_nonneg (m + 1)) v1
    omega
theorem evI {ν : Va} (hν : ν.Ok) {k a b c p : Int} (h : okF k a b c p = true) : (Int64.ofInt (ev ν k a b c p)).toInt = ev ν k a b c p := by
  unfold okF at h
  cases hz : zF a b c p <;> simp only [hz, cond_true, cond_false] at h
  · simp only [Bool.and_eq_true] at h
    obtain ⟨n1, n2, n3, n4⟩ := hν
    have q0 := okJ_b h.1
    have q1 := okJ_b h.2
    change _ ≤ k + _ ∧ k + _ < _ at q0
    change _ ≤ k - _ ∧ k - _ < _ at q1
    simp only [Int.ofNat_eq_natCast] at q0 q1
    have m1 := mul_b (x := a) n1.1 n1.2
    have m2 := mul_b (x := b) n2.1 n2.2
    have m3 := mul_b (x := c) n3.1 n3.2
    have m4 := mul_b (x := p) n4.1 n4.2
    rw [ev_eq]
    exact Int64.toInt_ofInt_of_le (by omega) (by omega)
  · obtain ⟨rfl, rfl, rfl, rfl⟩ := zF_eq hz
    have q := okJ_b h
    rw [ev0]
    exact Int64.toInt_ofInt_of_le (by omega) (by omega)
theorem ev_add (ν : Va) (k a b c p k' a' b' c' p' : Int) : ev ν (Int.add k' k) (Int.add a' a) (Int.add b' b) (Int.add c' c) (Int.add p' p) = ev ν k' a' b' c' p' + ev ν k a b c p := by
  rw [ev_eq, ev_eq, ev_eq]
  show (k' + k) + (a' + a) * ν.a + (b' + b) * ν.b + (c' + c) * ν.c + (p' + p) * ν.p = (k' + a' * ν.a + b' * ν.b + c' * ν.c + p' * ν.p) + (k + a * ν.a + b * ν.b + c * ν.c + p * ν.p)
  simp only [Int.add_mul]
  omega
theorem ev_sub (ν : Va) (k a b c p k' a' b' c' p' : Int) : ev ν (Int.sub k' k) (Int.sub a' a) (Int.sub b' b) (Int.sub c' c) (Int.sub p' p) = ev ν k' a' b' c' p' - ev ν k a b c p := by
  rw [ev_eq, ev_eq, ev_eq]
  show (k' - k) + (a' - a) * ν.a + (b' - b) * ν.b + (c' - c) * ν.c + (p' - p) * ν.p = (k' + a' * ν.a + b' * ν.b + c' * ν.c + p' * ν.p) - (k + a * ν.a + b * ν.b + c * ν.c + p * ν.p)
  simp only [Int.sub_mul]
  omega
theorem ev_neg (ν : Va) (k a b c p : Int) : ev ν (Int.neg k) (Int.neg a) (Int.neg b) (Int.neg c) (Int.neg p) = - ev ν k a b c p := by
  rw [ev_eq, ev_eq]
  show (-k) + (-a) * ν.a + (-b) * ν.b + (-c) * ν.c + (-p) * ν.p = - (k + a * ν.a + b * ν.b + c * ν.c + p * ν.p)
  simp only [Int.neg_mul]
  omega
theorem okN {m : Nat} (h : m ≤ 1000) : okI (.ofNat m) = true := by
  show Nat.ble m 2147483647 = true
  exact Nat.ble_eq.mpr (by omega)
theorem upV_cat {n0 : Nat} {ν : Va} {v : MV} (h : isL v = false) : (upV n0 ν v).category = 1 := by
  rcases v with z | (_ | i) | _ <;> first | rfl | cases h
theorem upV_ref {n0 : Nat} {ν : Va} (v : Nat) : (upV n0 ν (.inr (.inl v))).isRef = true := by cases v <;> rfl
theorem pl1_ok {n0 : Nat} {ν : Va} {o : MZ} (h : pl1 o = true) : upL n0 ν o = .unset ∨ ∃ w, upL n0 ν o = .val w ∧ w.category = 1 := by
  rcases o with _ | _ | (z | (_ | i) | _) <;> first | exact Or.inl rfl | exact Or.inr ⟨_, rfl, rfl⟩ | cases h
theorem pl1_pl {n0 : Nat} {ν : Va} {o : MZ} (h : pl1 o = true) : Jvm.Free.Fl.Plain1 (upL n0 ν o) := by
  rcases o with _ | _ | (z | (_ | i) | _) <;> first | exact trivial | exact rfl | cases h
theorem upSt {n0 : Nat} {ν : Va} {ls : List MZ} {j : Nat} {v : MV} {o : MZ} (h : ls[j]? = some o) (ho : pl1 o = true) (hv : (upV n0 ν v).category = 1) : storeLocals (ls.map (upL n0 ν)).toArray j (upV n0 ν v) = some ((ls.set j (some (some v))).map (upL n0 ν)).toArray := by
  have hg : (ls.map (upL n0 ν)).toArray[j]? = some (upL n0 ν o) := by simp [h]
  rw [XS.store1 hg (pl1_ok ho) hv]
  simp [List.map_set, upL]
theorem upSt2 {n0 : Nat} {ν : Va} {ls : List MZ} {j : Nat} {k a b c p : Int} {x y : MZ} (hx : ls[j]? = some x) (hy : ls[j + 1]? = some y) (ho : two x y = true) : storeLocals (ls.map (upL n0 ν)).toArray j (upV n0 ν (.inr (.inr (k, a, b, c, p)))) = some (((ls.set j (some (some (.inr (.inr (k, a, b, c, p)))))).set (j + 1) (some none)).map (upL n0 ν)).toArray := by
  have gx : (ls.map (upL n0 ν)).toArray[j]? = some (upL n0 ν x) := by simp [hx]
  have gy : (ls.map (upL n0 ν)).toArray[j + 1]? = some (upL n0 ν y) := by simp [hy]
  rw [Jvm.Free.Fl.storeLocals_cat2 gx gy rfl ?_]
  · simp [List.map_set, upL]
  · unfold two at ho
    split at ho
    · exact Or.inr ⟨⟨_, rfl, rfl⟩, rfl⟩
    · simp only [Bool.and_eq_true] at ho
      exact Or.inl ⟨pl1_pl ho.1, pl1_pl ho.2⟩
theorem ltI_iff (u v : Int) : ltI u v = true ↔ u < v := by
  cases u <;> cases v <;> simp only [ltI, Nat.ble_eq, Int.ofNat_eq_natCast, Bool.false_eq_true, true_iff, false_iff] <;> omega
theorem eqI_iff (u v : Int) : eqI u v = true ↔ u = v := by
  cases u <;> cases v <;> simp only [eqI, Nat.beq_eq, Int.ofNat_eq_natCast, Bool.false_eq_true, true_iff, false_iff] <;> omega
theorem ltI_no {u v : Int} (h : ltI u v = false) : v ≤ u := by
  have q : ¬ u < v := fun q => by rw [(ltI_iff _ _).mpr q] at h; cases h
  omega
theorem eqI_no {u v : Int} (h : eqI u v = false) : ¬ u = v := fun q => by rw [(eqI_iff _ _).mpr q] at h; cases h
theorem cm_t {cd : ClassFile.Cond} {u v : Int} (hu : okI u = true) (hv : okI v = true) (h : cmI cd u v = true) : CP cd (Int32.ofInt u) (Int32.ofInt v) := by
  have a := upI_int hu
  have b := upI_int hv
  cases cd <;> simp only [cmI, CP] at h ⊢
  · exact (i_eq a b).mpr ((eqI_iff _ _).mp h)
  · exact (i_ne a b).mpr (eqI_no (by simpa using h))
  · exact (i_lt a b).mpr ((ltI_iff _ _).mp h)
  · exact (i_ge a b).mpr (ltI_no (by simpa using h))
  · exact (i_lt b a).mpr ((ltI_iff _ _).mp h)
  · exact (i_ge b a).mpr (ltI_no (by simpa using h))
theorem cm_f {cd : ClassFile.Cond} {u v : Int} (hu : okI u = true) (hv : okI v = true) (h : cmI cd u v = false) : CP (ng cd) (Int32.ofInt u) (Int32.ofInt v) := by
  have a := upI_int hu
  have b := upI_int hv
  cases cd <;> simp only [cmI, CP, ng] at h ⊢
  · exact (i_ne a b).mpr (eqI_no h)
  · exact (i_eq a b).mpr ((eqI_iff _ _).mp (by simpa using h))
  · exact (i_ge a b).mpr (ltI_no h)
  · exact (i_lt a b).mpr ((ltI_iff _ _).mp (by simpa using h))
  · exact (i_ge b a).mpr (ltI_no h)
  · exact (i_lt b a).mpr ((ltI_iff _ _).mp (by simpa using h))
theorem up0 : Int32.ofInt (.ofNat 0) = 0 := by decide
/-- a question to the signs -/
def QP (q : Nat) (x : Int) : Prop := match q with
  | 0 => x = 0
  | 1 => x < 0
  | _ => 0 < x
theorem lk_ok {ν : Va} {k a b c p : Int} {q : Nat} : ∀ {T : List SR} {t : Bool}, Sg ν T → lk k a b c p q T = some t → (t = true ↔ QP q (ev ν k a b c p))
  | [], _, _, h => by cases h
  | ((k', a', b', c', p'), q', t') :: T, t, hS, h => by
    obtain ⟨h1, h2⟩ := hS
    simp only [lk] at h
    cases hj : (Nat.beq q q' && eqI k k' && eqI a a' && eqI b b' && eqI c c' && eqI p p') <;> simp only [hj, cond_true, cond_false] at h
    · exact lk_ok h2 h
    · cases h
      simp only [Bool.and_eq_true] at hj
      obtain ⟨⟨⟨⟨⟨e0, e1⟩, e2⟩, e3⟩, e4⟩, e5⟩ := hj
      have e0 := Nat.eq_of_beq_eq_true e0
      have e1 := (eqI_iff _ _).mp e1
      have e2 := (eqI_iff _ _).mp e2
      have e3 := (eqI_iff _ _).mp e3
      have e4 := (eqI_iff _ _).mp e4
      have e5 := (eqI_iff _ _).mp e5
      subst e0 e1 e2 e3 e4 e5
      match q, h1 with
      | 0, h1 => cases t' <;> simp_all [SgR, QP]
      | 1, h1 => cases t' <;> simp_all [SgR, QP]
      | _ + 2, h1 => cases t' <;> simp_all [SgR, QP]
theorem ans_ok {ν : Va} {T : List SR} (hT : Sg ν T) {cd : ClassFile.Cond} {k a b c p : Int} {y : Bool} (h : ans T cd k a b c p = some y) {u v : Int64} {x z : Int} (hu : u.toInt = x) (hv : v.toInt = z) (hd : ev ν k a b c p = x - z) : if y then CPL cd u v else CPL (ng cd) u v := by
  unfold ans at h
  cases hz : zF a b c p <;> simp only [hz, cond_true, cond_false] at h
  · split at h
    · next t ht =>
      have q := lk_ok hT ht
      rw [hd] at q
      cases h
      cases cd <;> cases t <;> simp only [qOf, neg1, QP, true_iff, Bool.false_eq_true, false_iff, Bool.xor_false, Bool.xor_true, Bool.not_true, Bool.not_false, ite_true, ite_false, if_true, if_false, CPL, ng, j_eq hu hv, j_lt hu hv, j_lt hv hu] at q ⊢ <;> omega
    · cases h
  · obtain ⟨rfl, rfl, rfl, rfl⟩ := zF_eq hz
    rw [ev0] at hd
    cases h
    have e1 := eqI_iff k (.ofNat 0)
    have e2 := ltI_iff k (.ofNat 0)
    have e3 := ltI_iff (.ofNat 0) k
    have e1' := @eqI_no k (.ofNat 0)
    have e2' := @ltI_no k (.ofNat 0)
    have e3' := @ltI_no (.ofNat 0) k
    simp only [Int.ofNat_eq_natCast] at e1 e2 e3 e1' e2' e3'
    cases cd <;> simp only [cmI, CPL, ng, j_eq hu hv, j_lt hu hv, j_lt hv hu]
    · cases hc : eqI k (.ofNat 0)
      · have := e1' hc; simp only [Bool.false_eq_true, if_false]; omega
      · have := e1.mp hc; simp only [if_true]; omega
    · cases hc : eqI k (.ofNat 0)
      · have := e1' hc; simp only [Bool.not_false, if_true]; omega
      · have := e1.mp hc; simp only [Bool.not_true, Bool.false_eq_true, if_false]; omega
    · cases hc : ltI k (.ofNat 0)
      · have := e2' hc; simp only [Bool.false_eq_true, if_false]; omega
      · have := e2.mp hc; simp only [if_true]; omega
    · cases hc : ltI k (.ofNat 0)
      · have := e2' hc; simp only [Bool.not_false, if_true]; omega
      · have := e2.mp hc; simp only [Bool.not_true, Bool.false_eq_true, if_false]; omega
    · cases hc : ltI (.ofNat 0) k
      · have := e3' hc; simp only [Bool.false_eq_true, if_false]; omega
      · have := e3.mp hc; simp only [if_true]; omega
    · cases hc : ltI (.ofNat 0) k
      · have := e3' hc; simp only [Bool.not_false, if_true]; omega
      · have := e3.mp hc; simp only [Bool.not_true, Bool.false_eq_true, if_false]; omega
theorem upA {n0 : Nat} {ν : Va} {A : List MO} {a : Nat} {o : MO} (h : A[a]? = some o) : (A.map (upO n0 ν))[a]? = some (upO n0 ν o) := by simp [h]
/-- one plain step is sound -/
def Ok1 (l : Launch) (Z : State) (a0 : Array Value) (K : KTab) (n0 : Nat) (ν : Va) (y : MethodName) (bytes : ByteArray) (maxL : Nat) (ret : Option FieldType) (fr lo : Nat) (pc : Nat) (x : MS → Option MS) : Prop :=
  ∀ (b0 : Nat) (s s' : MS), s.1 = pc → x s = some s' → s.2.1.length = maxL → s.2.2.2.1.length = b0 + s.2.2.2.2.1 →
    (s'.2.1.length = maxL ∧ s'.2.2.2.1.length = b0 + s'.2.2.2.2.1 ∧ s.2.2.2.2.1 ≤ s'.2.2.2.2.1 ∧ s.2.2.2.2.2 ≤ s'.2.2.2.2.2) ∧
    ∀ (R : Room) (Q : Option Value → List Ob → Prop) (G : GoT), R.frames = fr → R.locals = lo → s'.2.2.2.2.1 ≤ R.cells → s'.2.2.2.2.2 ≤ R.slots → IsGo l Z a0 K n0 b0 y bytes maxL ret R Q G → Gu n0 ν G s' → Gu n0 ν G s
section Steps
variable {l : Launch} {Z : State} {a0 : Array Value} {K : KTab} {n0 : Nat} {ν : Va} {y : MethodName} {bytes : ByteArray} {maxL : Nat} {ret : Option FieldType} {fr lo pc nx : Nat}
theorem ok_iload {j : Nat} (hd : Nx bytes pc (.iload j) 2 nx ∨ ∃ i : Fin 4, i.1 = j ∧ Nx bytes pc (.iload_n i) 1 nx) : Ok1 l Z a0 K n0 ν y bytes maxL ret fr lo pc (xLoad 1 j nx) := by
  rintro b0 ⟨pc', ls, st, A, k, n⟩ s' rfl h hl hA
  simp only [xLoad, nth_eq] at h
  split at h
  · next x hv =>
    rcases x with z | m | _ <;> simp only [kOf] at h <;> cases h
    refine ⟨⟨hl, hA, Nat.le_refl _, Nat.le_refl _⟩, fun R Q G _ _ _ _ H g => ?_⟩
    have e : (ls.map (upL n0 ν)).toArray[j]? = some (.val (.int (Int32.ofInt z))) := by simp [hv, upL, upV]
    rcases hd with hd | ⟨i, rfl, hd⟩
    · exact H.iload hd e g
    · exact H.iloadN hd e g
  · cases h
theorem ok_lload {j : Nat} (hd : Nx bytes pc (.lload j) 2 nx ∨ ∃ i : Fin 4, i.1 = j ∧ Nx bytes pc (.lload_n i) 1 nx) : Ok1 l Z a0 K n0 ν y bytes maxL ret fr lo pc (xLoad 2 j nx) := by
  rintro b0 ⟨pc', ls, st, A, k, n⟩ s' rfl h hl hA
  simp only [xLoad, nth_eq] at h
  split at h
  · next x hv =>
    rcases x with z | m | ⟨q, a, b, c, p⟩ <;> simp only [kOf] at h <;> cases h
    refine ⟨⟨hl, hA, Nat.le_refl _, Nat.le_refl _⟩, fun R Q G _ _ _ _ H g => ?_⟩
    have e : (ls.map (upL n0 ν)).toArray[j]? = some (.val (.long (Int64.ofInt (ev ν q a b c p)))) := by simp [hv, upL, upV]
    rcases hd with hd | ⟨i, rfl, hd⟩
    · exact H.lload hd e g
    · exact H.lloadN hd e g
  · cases h
theorem ok_aload {j : Nat} (hd : Nx bytes pc (.aload j) 2 nx ∨ ∃ i : Fin 4, i.1 = j ∧ Nx bytes pc (.aload_n i) 1 nx) : Ok1 l Z a0 K n0 ν y bytes maxL ret fr lo pc (xLoad 0 j nx) := by
  rintro b0 ⟨pc', ls, st, A, k, n⟩ s' rfl h hl hA
  simp only [xLoad, nth_eq] at h
  split at h
  · next x hv =>
    rcases x with z | m | _ <;> simp only [kOf] at h <;> cases h
    refine ⟨⟨hl, hA, Nat.le_refl _, Nat.le_refl _⟩, fun R Q G _ _ _ _ H g => ?_⟩
    have e : (ls.map (upL n0 ν)).toArray[j]? = some (.val (upV n0 ν (.inr (.inl m)))) := by simp [hv, upL]
    rcases hd with hd | ⟨i, rfl, hd⟩
    · exact H.aload hd e (upV_ref m) g
    · exact H.aloadN hd e (upV_ref m) g
  · cases h
theorem ok_istore {j : Nat} (hd : Nx bytes pc (.istore j) 2 nx ∨ ∃ i : Fin 4, i.1 = j ∧ Nx bytes pc (.istore_n i) 1 nx) : Ok1 l Z a0 K n0 ν y bytes maxL ret fr lo pc (xStore 1 j nx) := by
  rintro b0 ⟨pc', ls, st, A, k, n⟩ s' rfl h hl hA
  simp only [xStore, nth_eq, stK_eq] at h
  split at h
  · next x r =>
    rcases x with z | m | _ <;> simp only [kOf] at h <;> first | cases h | skip
    simp only [Nat.beq_refl, cond_true] at h
    split at h
    · next o ho =>
      cases hp : pl1 o <;> simp only [hp, cond_true, cond_false] at h
      · cases h
      · cases h
        refine ⟨⟨by simpa using hl, hA, Nat.le_refl _, Nat.le_refl _⟩, fun R Q G _ _ _ _ H g => ?_⟩
        rcases hd with hd | ⟨i, rfl, hd⟩
        · exact H.istore hd (upSt (v := .inl z) ho hp rfl) g
        · exact H.istoreN hd (upSt (v := .inl z) ho hp rfl) g
    · cases h
  · cases h
theorem ok_astore {j : Nat} (hd : Nx bytes pc (.astore j) 2 nx ∨ ∃ i : Fin 4, i.1 = j ∧ Nx bytes pc (.astore_n i) 1 nx) : Ok1 l Z a0 K n0 ν y bytes maxL ret fr lo pc (xStore 0 j nx) := by
  rintro b0 ⟨pc', ls, st, A, k, n⟩ s' rfl h hl hA
  simp only [xStore, nth_eq, stK_eq] at h
  split at h
  · next x r =>
    rcases x with z | m | _ <;> simp only [kOf] at h <;> first | cases h | skip
    simp only [Nat.beq_refl, cond_true] at h
    split at h
    · next o ho =>
      cases hp : pl1 o <;> simp only [hp, cond_true, cond_false] at h
      · cases h
      · cases h
        refine ⟨⟨by simpa using hl, hA, Nat.le_refl _, Nat.le_refl _⟩, fun R Q G _ _ _ _ H g => ?_⟩
        have hc : (upV n0 ν (.inr (.inl m))).category = 1 := by cases m <;> rfl
        rcases hd with hd | ⟨i, rfl, hd⟩
        · exact H.astore hd (upV_ref m) (upSt (v := .inr (.inl m)) ho hp hc) g
        · exact H.astoreN hd (upV_ref m) (upSt (v := .inr (.inl m)) ho hp hc) g
    · cases h
  · cases h
theorem ok_lstore {j : Nat} (hd : Nx bytes pc (.lstore j) 2 nx ∨ ∃ i : Fin 4, i.1 = j ∧ Nx bytes pc (.lstore_n i) 1 nx) : Ok1 l Z a0 K n0 ν y bytes maxL ret fr lo pc (xLstore j (j + 1) nx) := by
  rintro b0 ⟨pc', ls, st, A, k, n⟩ s' rfl h hl hA
  simp only [xLstore, nth_eq, stK_eq] at h
  split at h
  · next q a b c p r =>
    split at h
    · next x z hx hz =>
      cases hp : two x z <;> simp only [hp, cond_true, cond_false] at h
      · cases h
      · cases h
        refine ⟨⟨by simpa using hl, hA, Nat.le_refl _, Nat.le_refl _⟩, fun R Q G _ _ _ _ H g => ?_⟩
        rcases hd with hd | ⟨i, rfl, hd⟩
        · exact H.lstore hd (upSt2 hx hz hp) g
        · exact H.lstoreN hd (upSt2 hx hz hp) g
    · cases h
  · cases h
theorem ok_push {z : Int} (hd : Nx bytes pc (.iconst z) 1 nx ∨ (Nx bytes pc (.bipush z) 2 nx ∧ (Int8.ofInt z).toInt32 = Int32.ofInt z) ∨ (Nx bytes pc (.sipush z) 3 nx ∧ (Int16.ofInt z).toInt32 = Int32.ofInt z)) : Ok1 l Z a0 K n0 ν y bytes maxL ret fr lo pc (xPush z nx) := by
  rintro b0 ⟨pc', ls, st, A, k, n⟩ s' rfl h hl hA
  simp only [xPush, fI_eq] at h
  cases h
  refine ⟨⟨hl, hA, Nat.le_refl _, Nat.le_refl _⟩, fun R Q G _ _ _ _ H g => ?_⟩
  rcases hd with hd | ⟨hd, q⟩ | ⟨hd, q⟩
  · exact H.iconst hd rfl g
  · exact H.bipush hd q g
  · exact H.sipush hd q g
theorem ok_lconst {i : Fin 2} {z : Int} (hd : Nx bytes pc (.lconst i) 1 nx) (hz : Int64.ofNat i = Int64.ofInt z) : Ok1 l Z a0 K n0 ν y bytes maxL ret fr lo pc (xLpush z nx) := by
  rintro b0 ⟨pc', ls, st, A, k, n⟩ s' rfl h hl hA
  simp only [xLpush, fI_eq] at h
  cases h
  refine ⟨⟨hl, hA, Nat.le_refl _, Nat.le_refl _⟩, fun R Q G _ _ _ _ H g => ?_⟩
  refine H.lconst hd ?_ g
  rw [ev0, hz]
theorem ok_ldc2 {i : Nat} {z : Int} {w : Int64} (hd : Nx bytes pc (.ldc2_w i) 3 nx) (hw : (Jvm.Cond.constantLong y.cls i w).before a0 Z = true) (hz : w = Int64.ofInt z) : Ok1 l Z a0 K n0 ν y bytes maxL ret fr lo pc (xLpush z nx) := by
  rintro b0 ⟨pc', ls, st, A, k, n⟩ s' rfl h hl hA
  simp only [xLpush, fI_eq] at h
  cases h
  refine ⟨⟨hl, hA, Nat.le_refl _, Nat.le_refl _⟩, fun R Q G _ _ _ _ H g => ?_⟩
  have g' : G nx (ls.map (upL n0 ν)).toArray (.long w :: st.map (upV n0 ν)) (A.map (upO n0 ν)) k n := by
    rw [hz, ← ev0 ν z]; exact g
  exact H.ldc2 hd hw g'
theorem ok_add (hd : Nx bytes pc .iadd 1 nx) : Ok1 l Z a0 K n0 ν y bytes maxL ret fr lo pc (xBin Int.add nx) := by
  rintro b0 ⟨pc', ls, st, A, k, n⟩ s' rfl h hl hA
  simp only [xBin, fI_eq] at h
  split at h
  · next v u r =>
    cases hj : (okI u && okI v && okI (Int.add u v)) <;> simp only [hj, cond_true, cond_false] at h
    · cases h
    · cases h
      exact ⟨⟨hl, hA, Nat.le_refl _, Nat.le_refl _⟩, fun R Q G _ _ _ _ H g => H.iadd hd (Int32.ofInt_add u v).symm g⟩
  · cases h
theorem ok_sub (hd : Nx bytes pc .isub 1 nx) : Ok1 l Z a0 K n0 ν y bytes maxL ret fr lo pc (xBin Int.sub nx) := by
  rintro b0 ⟨pc', ls, st, A, k, n⟩ s' rfl h hl hA
  simp only [xBin, fI_eq] at h
  split at h
  · next v u r =>
    cases hj : (okI u && okI v && okI (Int.sub u v)) <;> simp only [hj, cond_true, cond_false] at h
    · cases h
    · cases h
      exact ⟨⟨hl, hA, Nat.le_refl _, Nat.le_refl _⟩, fun R Q G _ _ _ _ H g => H.isub hd (Int32.ofInt_sub u v).symm g⟩
  · cases h
theorem ok_mul (hd : Nx bytes pc .imul 1 nx) : Ok1 l Z a0 K n0 ν y bytes maxL ret fr lo pc (xBin Int.mul nx) := by
  rintro b0 ⟨pc', ls, st, A, k, n⟩ s' rfl h hl hA
  simp only [xBin, fI_eq] at h
  split at h
  · next v u r =>
    cases hj : (okI u && okI v && okI (Int.mul u v)) <;> simp only [hj, cond_true, cond_false] at h
    · cases h
    · cases h
      exact ⟨⟨hl, hA, Nat.le_refl _, Nat.le_refl _⟩, fun R Q G _ _ _ _ H g => H.imul hd (Int32.ofInt_mul u v).symm g⟩
  · cases h
theorem ok_rem (hd : Nx bytes pc .irem 1 nx) : Ok1 l Z a0 K n0 ν y bytes maxL ret fr lo pc (xRem nx) := by
  rintro b0 ⟨pc', ls, st, A, k, n⟩ s' rfl h hl hA
  simp only [xRem, fN_eq] at h
  split at h
  · next v u r =>
    cases hj : (okI (.ofNat u) && okI (.ofNat v) && Nat.ble 1 v) <;> simp only [hj, cond_true, cond_false] at h
    · cases h
    · cases h
      simp only [Bool.and_eq_true] at hj
      have a := upI_int hj.1.1
      have b := upI_int hj.1.2
      have hv : 1 ≤ v := Nat.le_of_ble_eq_true hj.2
      have ob := okI_b hj.1.2
      have oc : okI (.ofNat (Nat.mod u v)) = true := by
        have q : u % v < v := Nat.mod_lt u hv
        simp only [Int.ofNat_eq_natCast] at ob
        exact Nat.ble_eq.mpr (by show u % v ≤ _; omega)
      refine ⟨⟨hl, hA, Nat.le_refl _, Nat.le_refl _⟩, fun R Q G _ _ _ _ H g => ?_⟩
      refine H.irem hd ?_ ?_ g
      · intro e
        rw [e] at b
        simp only [Int.ofNat_eq_natCast] at b
        have z : (0 : Int32).toInt = 0 := by decide
        omega
      · apply Int32.toInt_inj.mp
        rw [x_irem a b (by simp only [Int.ofNat_eq_natCast]; omega), upI_int oc]
        rfl
  · cases h
theorem ok_ladd (hd : Nx bytes pc .ladd 1 nx) : Ok1 l Z a0 K n0 ν y bytes maxL ret fr lo pc (xLbin Int.add nx) := by
  rintro b0 ⟨pc', ls, st, A, k, n⟩ s' rfl h hl hA
  simp only [xLbin, fI_eq] at h
  split at h
  · cases h
    refine ⟨⟨hl, hA, Nat.le_refl _, Nat.le_refl _⟩, fun R Q G _ _ _ _ H g => H.ladd hd ?_ g⟩
    rw [ev_add, Int64.ofInt_add]
  · cases h
theorem ok_lsub (hd : Nx bytes pc .lsub 1 nx) : Ok1 l Z a0 K n0 ν y bytes maxL ret fr lo pc (xLbin Int.sub nx) := by
  rintro b0 ⟨pc', ls, st, A, k, n⟩ s' rfl h hl hA
  simp only [xLbin, fI_eq] at h
  split at h
  · cases h
    refine ⟨⟨hl, hA, Nat.le_refl _, Nat.le_refl _⟩, fun R Q G _ _ _ _ H g => H.lsub hd ?_ g⟩
    rw [ev_sub, Int64.ofInt_sub]
  · cases h
theorem ok_lneg (hd : Nx bytes pc .lneg 1 nx) : Ok1 l Z a0 K n0 ν y bytes maxL ret fr lo pc (xLneg nx) := by
  rintro b0 ⟨pc', ls, st, A, k, n⟩ s' rfl h hl hA
  simp only [xLneg, fI_eq] at h
  split at h
  · cases h
    refine ⟨⟨hl, hA, Nat.le_refl _, Nat.le_refl _⟩, fun R Q G _ _ _ _ H g => H.lneg hd ?_ g⟩
    rw [ev_neg, Int64.ofInt_neg]
  · cases h
theorem xLop_x {nz : Bool} {f : Int64 → Int64 → Int64} {nx : Nat} {s s' : MS} (h : xLop nz f nx s = some s') : ∃ q q' r, s.2.2.1 = .inr (.inr (q, 0, 0, 0, 0)) :: .inr (.inr (q', 0, 0, 0, 0)) :: r ∧ s' = (nx, s.2.1, .inr (.inr ((f (Int64.ofInt q') (Int64.ofInt q)).toInt, 0, 0, 0, 0)) :: r, s.2.2.2) ∧ (nz = true → Int64.ofInt q ≠ 0) := by
  obtain ⟨pc', ls, st, A, k, n⟩ := s
  simp only [xLop, fI_eq] at h
  split at h
  · next q a b c p q' a' b' c' p' r =>
    cases hj : (zF a b c p && zF a' b' c' p' && (!nz || !zI (Int64.ofInt q).toInt)) <;> simp only [hj, cond_true, cond_false] at h
    · cases h
    · cases h
      simp only [Bool.and_eq_true] at hj
      obtain ⟨rfl, rfl, rfl, rfl⟩ := zF_eq hj.1.1
      obtain ⟨rfl, rfl, rfl, rfl⟩ := zF_eq hj.1.2
      refine ⟨q, q', r, rfl, rfl, fun e e2 => ?_⟩
      subst e
      rw [e2] at hj
      have : zI (0 : Int64).toInt = true := by decide
      rw [this] at hj
      exact absurd hj.2 (by decide)
  · cases h
theorem ok_lop {f : Int64 → Int64 → Int64} {i : Instr} (hd : Nx bytes pc i 1 nx) (hr : ∀ {b0 : Nat} {R : Room} {Q : Option Value → List Ob → Prop} {G : GoT}, IsGo l Z a0 K n0 b0 y bytes maxL ret R Q G → ∀ {u v w : Int64} {ls : Array Slot} {st : List Value} {A : List Ob} {k n : Nat}, f u v = w → G nx ls (.long w :: st) A k n → G pc ls (.long v :: .long u :: st) A k n) : Ok1 l Z a0 K n0 ν y bytes maxL ret fr lo pc (xLop false f nx) := by
  rintro b0 s s' rfl h hl hA
  obtain ⟨q, q', r, e1, rfl, -⟩ := xLop_x h
  obtain ⟨pc', ls, st, A, k, n⟩ := s
  simp only at e1
  subst e1
  refine ⟨⟨hl, hA, Nat.le_refl _, Nat.le_refl _⟩, fun R Q G _ _ _ _ H g => hr H ?_ g⟩
  rw [ev0, ev0, ev0, Int64.ofInt_toInt]
theorem ok_lmul (hd : Nx bytes pc .lmul 1 nx) : Ok1 l Z a0 K n0 ν y bytes maxL ret fr lo pc (xLop false (· * ·) nx) := ok_lop hd (fun H => fun e g => H.lmul hd e g)
theorem ok_lor (hd : Nx bytes pc .lor 1 nx) : Ok1 l Z a0 K n0 ν y bytes maxL ret fr lo pc (xLop false (· ||| ·) nx) := ok_lop hd (fun H => fun e g => H.lor hd e g)
theorem ok_land (hd : Nx bytes pc .land 1 nx) : Ok1 l Z a0 K n0 ν y bytes maxL ret fr lo pc (xLop false (· &&& ·) nx) := ok_lop hd (fun H => fun e g => H.land hd e g)
theorem ok_lxor (hd : Nx bytes pc .lxor 1 nx) : Ok1 l Z a0 K n0 ν y bytes maxL ret fr lo pc (xLop false (· ^^^ ·) nx) := ok_lop hd (fun H => fun e g => H.lxor hd e g)
theorem ok_ldiv (hd : Nx bytes pc .ldiv 1 nx) : Ok1 l Z a0 K n0 ν y bytes maxL ret fr lo pc (xLop true (· / ·) nx) := by
  rintro b0 s s' rfl h hl hA
  obtain ⟨q, q', r, e1, rfl, e2⟩ := xLop_x h
  obtain ⟨pc', ls, st, A, k, n⟩ := s
  simp only at e1
  subst e1
  refine ⟨⟨hl, hA, Nat.le_refl _, Nat.le_refl _⟩, fun R Q G _ _ _ _ H g => H.ldiv hd ?_ ?_ g⟩
  · rw [ev0]; exact e2 rfl
  · rw [ev0, ev0, ev0, Int64.ofInt_toInt]
theorem ok_lushr (hd : Nx bytes pc .lushr 1 nx) : Ok1 l Z a0 K n0 ν y bytes maxL ret fr lo pc (xLushr nx) := by
  rintro b0 ⟨pc', ls, st, A, k, n⟩ s' rfl h hl hA
  simp only [xLushr, fI_eq] at h
  split at h
  · next v q a b c p r =>
    cases hj : zF a b c p <;> simp only [hj, cond_true, cond_false] at h
    · cases h
    · cases h
      obtain ⟨rfl, rfl, rfl, rfl⟩ := zF_eq hj
      refine ⟨⟨hl, hA, Nat.le_refl _, Nat.le_refl _⟩, fun R Q G _ _ _ _ H g => H.lushr hd ?_ g⟩
      rw [ev0, ev0, Int64.ofInt_toInt]
  · cases h
theorem ok_i2l (hd : Nx bytes pc .i2l 1 nx) : Ok1 l Z a0 K n0 ν y bytes maxL ret fr lo pc (xI2l nx) := by
  rintro b0 ⟨pc', ls, st, A, k, n⟩ s' rfl h hl hA
  simp only [xI2l] at h
  split at h
  · next v r =>
    cases hj : okI v <;> simp only [hj, cond_true, cond_false] at h
    · cases h
    · cases h
      refine ⟨⟨hl, hA, Nat.le_refl _, Nat.le_refl _⟩, fun R Q G _ _ _ _ H g => H.i2l hd ?_ g⟩
      have q := okI_b hj
      apply Int64.toInt_inj.mp
      rw [ev0, x_i2l (upI_int hj)]
      exact (Int64.toInt_ofInt_of_le (by omega) (by omega)).symm
  · cases h
theorem ok_inc {j : Nat} {z : Int} (hd : Nx bytes pc (.iinc j z) 3 nx) : Ok1 l Z a0 K n0 ν y bytes maxL ret fr lo pc (xInc j z nx) := by
  rintro b0 ⟨pc', ls, st, A, k, n⟩ s' rfl h hl hA
  simp only [xInc, nth_eq, stK_eq, fI_eq] at h
  split at h
  · next v hv =>
    cases hj : (okI v && okI (Int.add v z)) <;> simp only [hj, cond_true, cond_false] at h
    · cases h
    · cases h
      refine ⟨⟨by simpa using hl, hA, Nat.le_refl _, Nat.le_refl _⟩, fun R Q G _ _ _ _ H g => ?_⟩
      have e : (ls.map (upL n0 ν)).toArray[j]? = some (.val (.int (Int32.ofInt v))) := by simp [hv, upL, upV]
      exact H.iinc hd e (Int32.ofInt_add v z).symm (upSt (v := .inl (Int.add v z)) hv rfl rfl) g
  · cases h
theorem ok_dup (hd : Nx bytes pc .dup 1 nx) : Ok1 l Z a0 K n0 ν y bytes maxL ret fr lo pc (xDup nx) := by
  rintro b0 ⟨pc', ls, st, A, k, n⟩ s' rfl h hl hA
  simp only [xDup] at h
  split at h
  · next v r =>
    cases hj : isL v <;> simp only [hj, cond_true, cond_false] at h <;> cases h
    exact ⟨⟨hl, hA, Nat.le_refl _, Nat.le_refl _⟩, fun R Q G _ _ _ _ H g => H.dup hd (upV_cat hj) g⟩
  · cases h
theorem ok_dup2 (hd : Nx bytes pc .dup2 1 nx) : Ok1 l Z a0 K n0 ν y bytes maxL ret fr lo pc (xDup2 nx) := by
  rintro b0 ⟨pc', ls, st, A, k, n⟩ s' rfl h hl hA
  simp only [xDup2] at h
  split at h
  · next v u r =>
    cases hj : (isL v || isL u) <;> simp only [hj, cond_true, cond_false] at h <;> cases h
    simp only [Bool.or_eq_false_iff] at hj
    exact ⟨⟨hl, hA, Nat.le_refl _, Nat.le_refl _⟩, fun R Q G _ _ _ _ H g => H.dup2 hd (upV_cat hj.1) (upV_cat hj.2) g⟩
  · cases h
theorem ok_dupX1 (hd : Nx bytes pc .dup_x1 1 nx) : Ok1 l Z a0 K n0 ν y bytes maxL ret fr lo pc (xDupX1 nx) := by
  rintro b0 ⟨pc', ls, st, A, k, n⟩ s' rfl h hl hA
  simp only [xDupX1] at h
  split at h
  · next v u r =>
    cases hj : (isL v || isL u) <;> simp only [hj, cond_true, cond_false] at h <;> cases h
    simp only [Bool.or_eq_false_iff] at hj
    exact ⟨⟨hl, hA, Nat.le_refl _, Nat.le_refl _⟩, fun R Q G _ _ _ _ H g => H.dupX1 hd (upV_cat hj.1) (upV_cat hj.2) g⟩
  · cases h
theorem ok_dupX2 (hd : Nx bytes pc .dup_x2 1 nx) : Ok1 l Z a0 K n0 ν y bytes maxL ret fr lo pc (xDupX2 nx) := by
  rintro b0 ⟨pc', ls, st, A, k, n⟩ s' rfl h hl hA
  simp only [xDupX2] at h
  split at h
  · next v u w r =>
    cases hj : (isL v || isL u || isL w) <;> simp only [hj, cond_true, cond_false] at h <;> cases h
    simp only [Bool.or_eq_false_iff] at hj
    exact ⟨⟨hl, hA, Nat.le_refl _, Nat.le_refl _⟩, fun R Q G _ _ _ _ H g => H.dupX2 hd (upV_cat hj.1.1) (upV_cat hj.1.2) (upV_cat hj.2) g⟩
  · cases h
theorem ok_pop2 (hd : Nx bytes pc .pop2 1 nx) : Ok1 l Z a0 K n0 ν y bytes maxL ret fr lo pc (xPop2 nx) := by
  rintro b0 ⟨pc', ls, st, A, k, n⟩ s' rfl h hl hA
  simp only [xPop2] at h
  split at h <;> cases h
  exact ⟨⟨hl, hA, Nat.le_refl _, Nat.le_refl _⟩, fun R Q G _ _ _ _ H g => H.pop2L hd g⟩
theorem ok_goto {t f : Nat} (hd : Bx bytes pc .goto t f) : Ok1 l Z a0 K n0 ν y bytes maxL ret fr lo pc (xGoto t) := by
  rintro b0 ⟨pc', ls, st, A, k, n⟩ s' rfl h hl hA
  cases h
  exact ⟨⟨hl, hA, Nat.le_refl _, Nat.le_refl _⟩, fun R Q G _ _ _ _ H g => H.goto hd g⟩
theorem ok_icmp {cd : ClassFile.Cond} {t : Nat} (hd : Bx bytes pc (.if_icmp cd) t nx) : Ok1 l Z a0 K n0 ν y bytes maxL ret fr lo pc (xIcmp cd t nx) := by
  rintro b0 ⟨pc', ls, st, A, k, n⟩ s' rfl h hl hA
  simp only [xIcmp] at h
  split at h
  · next v u r =>
    cases hj : (okI u && okI v) <;> simp only [hj, cond_true, cond_false] at h
    · cases h
    · cases h
      simp only [Bool.and_eq_true] at hj
      refine ⟨⟨hl, hA, Nat.le_refl _, Nat.le_refl _⟩, fun R Q G _ _ _ _ H g => ?_⟩
      cases hc : cmI cd u v <;> simp only [hc, cond_true, cond_false] at g
      · exact H.icmpF hd (cm_f hj.1 hj.2 hc) g
      · exact H.icmpT hd (cm_t hj.1 hj.2 hc) g
  · cases h
theorem ok_if {cd : ClassFile.Cond} {t : Nat} (hd : Bx bytes pc (.ifCond cd) t nx) : Ok1 l Z a0 K n0 ν y bytes maxL ret fr lo pc (xIf cd t nx) := by
  rintro b0 ⟨pc', ls, st, A, k, n⟩ s' rfl h hl hA
  simp only [xIf] at h
  split at h
  · next u r =>
    cases hj : okI u <;> simp only [hj, cond_true, cond_false] at h
    · cases h
    · cases h
      refine ⟨⟨hl, hA, Nat.le_refl _, Nat.le_refl _⟩, fun R Q G _ _ _ _ H g => ?_⟩
      cases hc : cmI cd u (.ofNat 0) <;> simp only [hc, cond_true, cond_false] at g
      · exact H.ifF hd (up0 ▸ cm_f hj rfl hc) g
      · exact H.ifT hd (up0 ▸ cm_t hj rfl hc) g
  · cases h
theorem ok_lif {T : List SR} (hν : ν.Ok) (hT : Sg ν T) {cd : ClassFile.Cond} {t p1 : Nat} (hd0 : Nx bytes pc .lcmp 1 p1) (hd : Bx bytes p1 (.ifCond cd) t nx) : Ok1 l Z a0 K n0 ν y bytes maxL ret fr lo pc (xLif T cd t nx) := by
  rintro b0 ⟨pc', ls, st, A, k, n⟩ s' rfl h hl hA
  simp only [xLif, fI_eq] at h
  split at h
  · next q a b c p q' a' b' c' p' r =>
    cases hj : (okF q a b c p && okF q' a' b' c' p') <;> simp only [hj, cond_true, cond_false] at h
    · cases h
    · simp only [Bool.and_eq_true] at hj
      split at h
      · next y hy =>
        cases h
        have w := ans_ok hT hy (evI hν hj.2) (evI hν hj.1) (ev_sub ν _ _ _ _ _ _ _ _ _ _)
        refine ⟨⟨hl, hA, Nat.le_refl _, Nat.le_refl _⟩, fun R Q G _ _ _ _ H g => ?_⟩
        cases y <;> simp only [cond_true, cond_false] at g
        · exact H.lifF hd0 hd (by simpa using w) g
        · exact H.lifT hd0 hd (by simpa using w) g
      · cases h
  · cases h
theorem ok_get {idx kk j : Nat} (hd : Nx bytes pc (.getfield idx) 3 nx) (L : FL Z a0 K y.cls idx kk j) : Ok1 l Z a0 K n0 ν y bytes maxL ret fr lo pc (xGet kk j nx) := by
  rintro b0 ⟨pc', ls, st, A, k, n⟩ s' rfl h hl hA
  simp only [xGet, nth_eq] at h
  split at h
  · next a r =>
    split at h
    · next k' vs ha =>
      cases hj : Nat.beq kk k' <;> simp only [hj, cond_true, cond_false] at h
      · cases h
      · have e := Nat.eq_of_beq_eq_true hj
        subst e
        split at h
        · next v hv =>
          cases h
          refine ⟨⟨hl, hA, Nat.le_refl _, Nat.le_refl _⟩, fun R Q G _ _ _ _ H g => ?_⟩
          exact H.getfield hd L (i := a) (upA ha) (vs := vs.map (upV n0 ν)) (v := upV n0 ν v) (by simp [hv]) g
        · cases h
    · cases h
  · cases h
theorem ok_put {kd idx kk j : Nat} {ty : FieldType} (hd : Nx bytes pc (.putfield idx) 3 nx) (L : PL Z a0 K y.cls y.name idx kk j ty) (hn : ∀ v, kOf v = kd → narrow ty (upV n0 ν v) = upV n0 ν v ∧ fits ty (upV n0 ν v) = true) : Ok1 l Z a0 K n0 ν y bytes maxL ret fr lo pc (xPut kd kk j nx) := by
  rintro b0 ⟨pc', ls, st, A, k, n⟩ s' rfl h hl hA
  simp only [xPut, nth_eq, stK_eq] at h
  split at h
  · next v a r =>
    cases hq : Nat.beq (kOf v) kd <;> simp only [hq, cond_true, cond_false] at h
    · cases h
    · have hk := Nat.eq_of_beq_eq_true hq
      split at h
      · next k' vs ha =>
        cases hj : Nat.beq kk k' <;> simp only [hj, cond_true, cond_false] at h
        · cases h
        · have e := Nat.eq_of_beq_eq_true hj
          subst e
          cases h
          refine ⟨⟨hl, by simpa using hA, Nat.le_refl _, Nat.le_refl _⟩, fun R Q G _ _ _ _ H g => ?_⟩
          refine H.putfield hd L (i := a) (upA ha) (hn v hk).1 (hn v hk).2 ?_ g
          simp [List.map_set, upO]
      · cases h
  · cases h
theorem ok_iaload (hd : Nx bytes pc .iaload 1 nx) : Ok1 l Z a0 K n0 ν y bytes maxL ret fr lo pc (xIaload nx) := by
  rintro b0 ⟨pc', ls, st, A, k, n⟩ s' rfl h hl hA
  simp only [xIaload, nth_eq] at h
  split at h
  · next z a r =>
    split at h
    · next vs ha =>
      cases hj : Nat.ble z 1000 <;> simp only [hj, cond_true, cond_false] at h
      · cases h
      · split at h
        · next v hv =>
          cases h
          refine ⟨⟨hl, hA, Nat.le_refl _, Nat.le_refl _⟩, fun R Q G _ _ _ _ H g => ?_⟩
          exact H.iaload hd (i := a) (j := z) (vs := vs.map (upV n0 ν)) (upA ha) (upI_int (okN (Nat.le_of_ble_eq_true hj))) (v := upV n0 ν v) (by simp [hv]) g
        · cases h
    · cases h
  · cases h
theorem ok_laload (hd : Nx bytes pc .laload 1 nx) : Ok1 l Z a0 K n0 ν y bytes maxL ret fr lo pc (xLaload nx) := by
  rintro b0 ⟨pc', ls, st, A, k, n⟩ s' rfl h hl hA
  simp only [xLaload, nth_eq] at h
  split at h
  · next z a r =>
    split at h
    · next vs ha =>
      cases hj : Nat.ble z 1000 <;> simp only [hj, cond_true, cond_false] at h
      · cases h
      · split at h
        · next v hv =>
          cases h
          refine ⟨⟨hl, hA, Nat.le_refl _, Nat.le_refl _⟩, fun R Q G _ _ _ _ H g => ?_⟩
          exact H.laload hd (i := a) (j := z) (vs := vs.map (upV n0 ν)) (upA ha) (upI_int (okN (Nat.le_of_ble_eq_true hj))) (v := upV n0 ν v) (by simp [hv]) g
        · cases h
    · cases h
  · cases h
theorem ok_iastore (hd : Nx bytes pc .iastore 1 nx) : Ok1 l Z a0 K n0 ν y bytes maxL ret fr lo pc (xIastore nx) := by
  rintro b0 ⟨pc', ls, st, A, k, n⟩ s' rfl h hl hA
  simp only [xIastore, nth_eq, stK_eq] at h
  split at h
  · next v z a r =>
    split at h
    · next vs ha =>
      cases hj : Nat.ble z 1000 <;> simp only [hj, cond_true, cond_false] at h
      · cases h
      · split at h
        · next v0 hv =>
          cases h
          have hz := (List.getElem?_eq_some_iff.mp hv).1
          refine ⟨⟨hl, by simpa using hA, Nat.le_refl _, Nat.le_refl _⟩, fun R Q G _ _ _ _ H g => ?_⟩
          refine H.iastore hd (i := a) (j := z) (vs := vs.map (upV n0 ν)) (upA ha) (upI_int (okN (Nat.le_of_ble_eq_true hj))) (by simpa using hz) ?_ g
          simp [List.map_set, upO, upV]
        · cases h
    · cases h
  · cases h
theorem ok_lastore (hd : Nx bytes pc .lastore 1 nx) : Ok1 l Z a0 K n0 ν y bytes maxL ret fr lo pc (xLastore nx) := by
  rintro b0 ⟨pc', ls, st, A, k, n⟩ s' rfl h hl hA
  simp only [xLastore, nth_eq, stK_eq] at h
  split at h
  · next q e f g' hh z a r =>
    split at h
    · next vs ha =>
      cases hj : Nat.ble z 1000 <;> simp only [hj, cond_true, cond_false] at h
      · cases h
      · split at h
        · next v0 hv =>
          cases h
          have hz := (List.getElem?_eq_some_iff.mp hv).1
          refine ⟨⟨hl, by simpa using hA, Nat.le_refl _, Nat.le_refl _⟩, fun R Q G _ _ _ _ H g => ?_⟩
          refine H.lastore hd (i := a) (j := z) (vs := vs.map (upV n0 ν)) (upA ha) (upI_int (okN (Nat.le_of_ble_eq_true hj))) (by simpa using hz) ?_ g
          simp [List.map_set, upO, upV]
        · cases h
    · cases h
  · cases h
theorem ok_len (hd : Nx bytes pc .arraylength 1 nx) : Ok1 l Z a0 K n0 ν y bytes maxL ret fr lo pc (xLen nx) := by
  rintro b0 ⟨pc', ls, st, A, k, n⟩ s' rfl h hl hA
  simp only [xLen, nth_eq, fN_eq] at h
  split at h
  · next a r =>
    split at h
    · next lg vs ha =>
      cases hj : Nat.ble vs.length 1000 <;> simp only [hj, cond_true, cond_false] at h
      · cases h
      · cases h
        have hn := Nat.le_of_ble_eq_true hj
        refine ⟨⟨hl, hA, Nat.le_refl _, Nat.le_refl _⟩, fun R Q G _ _ _ _ H g => ?_⟩
        have e : ∃ ty, upO n0 ν (.inr (lg, vs)) = .inr (ty, vs.map (upV n0 ν)) := by cases lg <;> exact ⟨_, rfl⟩
        obtain ⟨ty, e⟩ := e
        refine H.arraylength hd (i := a) (vs := vs.map (upV n0 ν)) ((upA ha).trans (congrArg some e)) ?_ g
        apply Int32.toInt_inj.mp
        rw [upI_int (okN hn), List.length_map, len_toInt (by omega)]
        rfl
    · cases h
  · cases h
theorem ok_newI (hd : Nx bytes pc (.newarray .int) 2 nx) (w : AL Z a0 .int) : Ok1 l Z a0 K n0 ν y bytes maxL ret fr lo pc (xNewA false nx) := by
  rintro b0 ⟨pc', ls, st, A, k, n⟩ s' rfl h hl hA
  simp only [xNewA, nrm_eq, fN_eq] at h
  split at h
  · next z r =>
    cases hj : Nat.ble z 1000 <;> simp only [hj, cond_true, cond_false] at h
    · cases h
    · cases h
      have hn := Nat.le_of_ble_eq_true hj
      refine ⟨⟨hl, by simp only [List.length_append, List.length_singleton]; simp only at hA; omega, Nat.le_add_right _ _, Nat.le_add_right _ _⟩, fun R Q G _ _ h1 h2 H g => ?_⟩
      refine H.newarray hd (ty := .int) rfl w (N := z) (cap := z) (upI_int (okN hn)) rfl (Nat.le_refl _) (by omega) (by simpa using hA) h1 h2 (i := A.length) (by simp) ?_ rfl rfl g
      simp [upO, upV, dfl, defaultValue]
  · cases h
theorem ok_newL (hd : Nx bytes pc (.newarray .long) 2 nx) (w : AL Z a0 .long) : Ok1 l Z a0 K n0 ν y bytes maxL ret fr lo pc (xNewA true nx) := by
  rintro b0 ⟨pc', ls, st, A, k, n⟩ s' rfl h hl hA
  simp only [xNewA, nrm_eq, fN_eq] at h
  split at h
  · next z r =>
    cases hj : Nat.ble z 1000 <;> simp only [hj, cond_true, cond_false] at h
    · cases h
    · cases h
      have hn := Nat.le_of_ble_eq_true hj
      refine ⟨⟨hl, by simp only [List.length_append, List.length_singleton]; simp only at hA; omega, Nat.le_add_right _ _, Nat.le_add_right _ _⟩, fun R Q G _ _ h1 h2 H g => ?_⟩
      refine H.newarray hd (ty := .long) rfl w (N := z) (cap := z) (upI_int (okN hn)) rfl (Nat.le_refl _) (by omega) (by simpa using hA) h1 h2 (i := A.length) (by simp) ?_ rfl rfl g
      simp [upO, upV, dfl, ev0, defaultValue]
  · cases h
theorem wt : ∀ r : List MV, ((r.map (upV n0 ν)).map fun v => v.category).sum ≤ 2 * r.length
  | [] => Nat.le_refl _
  | v :: r => by
    have q : (upV n0 ν v).category ≤ 2 := by rcases v with z | (_ | i) | _ <;> simp [upV, Value.category]
    have := wt r
    simp only [List.map_cons, List.sum_cons, List.length_cons]
    omega
theorem ok_init {idx : Nat} (hd : Nx bytes pc (.invokespecial idx) 3 nx) (L : IL Z a0 y.cls idx) (hf : 1 ≤ fr) (hlo : 26 ≤ lo) : Ok1 l Z a0 K n0 ν y bytes maxL ret fr lo pc (xInit nx) := by
  rintro b0 ⟨pc', ls, st, A, k, n⟩ s' rfl h hl hA
  simp only [xInit] at h
  split at h
  · next a r =>
    cases hj : Nat.ble r.length 4 <;> simp only [hj, cond_true, cond_false] at h
    · cases h
    · cases h
      have hn := Nat.le_of_ble_eq_true hj
      refine ⟨⟨hl, hA, Nat.le_refl _, Nat.le_refl _⟩, fun R Q G e1 e2 _ _ H g => ?_⟩
      have q := wt (n0 := n0) (ν := ν) r
      exact H.initO hd L (a := n0 + a) (by simpa using hl) (by omega) (by omega) g
  · cases h
theorem ok_copy {idx : Nat} (hd : Nx bytes pc (.invokestatic idx) 3 nx) (L : XL Z a0 y.cls idx) (hf : 1 ≤ fr) (hlo : 26 ≤ lo) : Ok1 l Z a0 K n0 ν y bytes maxL ret fr lo pc (xCopy nx) := by
  rintro b0 ⟨pc', ls, st, A, k, n⟩ s' rfl h hl hA
  simp only [xCopy, nth_eq, nrm_eq, stK_eq] at h
  split at h
  · next c d b s a r =>
    split at h
    · next vs vd ha hb =>
      cases hj : (Nat.ble r.length 4 && Nat.ble vs.length 1000 && Nat.ble vd.length 1000 && Nat.ble (s + c) vs.length && Nat.ble (d + c) vd.length) <;> simp only [hj, cond_true, cond_false] at h
      · cases h
      · cases h
        simp only [Bool.and_eq_true] at hj
        have h8 := Nat.le_of_ble_eq_true hj.1.1.1.1
        have hv := Nat.le_of_ble_eq_true hj.1.1.1.2
        have hw := Nat.le_of_ble_eq_true hj.1.1.2
        have q1 := Nat.le_of_ble_eq_true hj.1.2
        have q2 := Nat.le_of_ble_eq_true hj.2
        refine ⟨⟨hl, by simpa using hA, Nat.le_refl _, Nat.le_refl _⟩, fun R Q G e1 e2 _ _ H g => ?_⟩
        have qw := wt (n0 := n0) (ν := ν) r
        refine H.arraycopy hd L (i := a) (j := b) (vs := vs.map (upV n0 ν)) (vd := vd.map (upV n0 ν)) (upA ha) (upA hb) rfl (p := s) (q := d) (r := c) (upI_int (okN (by omega))) (upI_int (okN (by omega))) (upI_int (okN (by omega))) (by simpa using q1) (by simpa using q2) (by simp; omega) (by simp; omega) (us := ((List.range c).map (fun i => vs.getD (s + i) nul)).map (upV n0 ν)) ?_ (by simpa using hl) (by omega) (by show _ + (7 + 11) ≤ _; omega) (by simpa using hA) ?_ g
        · rw [List.map_map]
          apply List.map_congr_left
          intro i hi
          have hi' := List.mem_range.mp hi
          have : s + i < vs.length := by omega
          simp [List.getD, this]
        · simp [List.map_set, upO, List.map_take, List.map_drop]
    · cases h
  · cases h
theorem ok_seq {m : Nat} {f g : MS → Option MS} (hf : Ok1 l Z a0 K n0 ν y bytes maxL ret fr lo pc f) (hg : Ok1 l Z a0 K n0 ν y bytes maxL ret fr lo m g) : Ok1 l Z a0 K n0 ν y bytes maxL ret fr lo pc (xSeq m f g) := by
  intro b0 s s' hp h hl hA
  simp only [xSeq] at h
  split at h
  · next s1 h1 =>
    cases hj : Nat.beq s1.1 m <;> simp only [hj, cond_true, cond_false] at h
    · cases h
    · obtain ⟨⟨a1, a2, a3, a4⟩, a5⟩ := hf b0 s s1 hp h1 hl hA
      obtain ⟨⟨c1, c2, c3, c4⟩, c5⟩ := hg b0 s1 s' (Nat.eq_of_beq_eq_true hj) h a1 a2
      exact ⟨⟨c1, c2, Nat.le_trans a3 c3, Nat.le_trans a4 c4⟩, fun R Q G e1 e2 e3 e4 H w => a5 R Q G e1 e2 (Nat.le_trans c3 e3) (Nat.le_trans c4 e4) H (c5 R Q G e1 e2 e3 e4 H w)⟩
  · cases h
end Steps
def rcv (kd np : Nat) (st : List MV) (A : List MO) : Bool := match kd with
  | 0 => true
  | 1 => match st[np - 1]? with | some (.inr (.inl (_ + 1))) => true | _ => false
  | kk + 2 => match st[np - 1]? with
    | some (.inr (.inl (i + 1))) => match A[i]? with | some (.inl (k', _)) => Nat.beq k' kk | _ => false
    | _ => false
abbrev MR : Type := Option MV × List MO × Nat × Nat
def run (tab : Nat → Nat → Option ME) (ml fr lo : Nat → Nat) : Nat → Nat → MS → Option MR
  | 0, _, _ => none
  | f + 1, q, s => match tab q s.1 with
    | none => none
    | some (.inl x) => match x s with
      | some s' => run tab ml fr lo f q s'
      | none => none
    | some (.inr (.inr b)) => match b with
      | 0 => (match s.2.2.1 with | [] => some (none, s.2.2.2.1, s.2.2.2.2.1, s.2.2.2.2.2) | _ => none)
      | kd + 1 => (match s.2.2.1 with | x :: _ => bif Nat.beq (kOf x) kd then some (some x, s.2.2.2.1, s.2.2.2.2.1, s.2.2.2.2.2) else none | _ => none)
    | some (.inr (.inl (z, np, kd, mx, non))) => bif rcv kd np s.2.2.1 s.2.2.2.1 then
        tkR np s.2.2.1 non (fun ls' rest => bif Nat.ble (2 * rest.length) mx && Nat.beq ls'.length (ml z) then
          (match run tab ml fr lo f z (0, ls', [], s.2.2.2.1, 0, 0) with
          | some (v, A', k', n') => fN (s.1 + 3) fun pc' => fN (s.2.2.2.2.1 + k') fun k2 => fN (s.2.2.2.2.2 + n') fun n2 => (match v with
            | none => run tab ml fr lo f q (pc', s.2.1, rest, A', k2, n2)
            | some w => run tab ml fr lo f q (pc', s.2.1, w :: rest, A', k2, n2))
          | none => none) else none) none
      else none
section Run
variable {l : Launch} {Z : State} {a0 : Array Value} {K : KTab} {n0 : Nat} {ν : Va}
theorem laid_up : ∀ L : List MV, Jvm.Sym.laidSlots (L.map (upV n0 ν)) = (lay L).map (upL n0 ν)
  | [] => rfl
  | v :: L => by
    have ih := laid_up L
    rcases v with z | (_ | i) | _ <;> simp [Jvm.Sym.laidSlots, lay, lay1, upV, upL, Value.category, ih]
theorem entry_up (m : MethodId) (L : List MV) (maxL j : Nat) (h : (lay L).length + j = maxL) : entryFrame m (L.map (upV n0 ν)).toArray maxL = mkF m 0 ((lay L ++ List.replicate j none).map (upL n0 ν)).toArray [] := by
  have e : argsToLocals (L.map (upV n0 ν)).toArray maxL = ((lay L ++ List.replicate j none).map (upL n0 ν)).toArray := by
    apply Array.toList_inj.mp
    rw [Jvm.Sym.argsToLocals_toList]
    simp only [laid_up, List.length_map, List.map_append, List.map_replicate]
    rw [show maxL - (lay L).length = j by omega]
    rfl
  simp only [entryFrame, mkF, e]
def OkC (l : Launch) (Z : State) (a0 : Array Value) (K : KTab) (n0 : Nat) (ν : Va) (y : MethodName) (bytes : ByteArray) (maxL : Nat) (ret : Option FieldType) (pc : Nat) (zy : MethodName) (zb : ByteArray) (zm : Nat) (zr : Option FieldType) (np kd : Nat) : Prop :=
  ∀ (b0 : Nat) (ls : List MZ) (st : List MV) (A : List MO) (k n : Nat) (rm : Room) (vo : Option Value) (A' : List Ob) (R : Room) (Q : Option Value → List Ob → Prop) (G : GoT), np ≤ st.length → ls.length = maxL → rcv kd np st A = true → Met l Z K n0 zy zb zm zr rm (((st.take np).reverse).map (upV n0 ν)).toArray (A.map (upO n0 ν)) (Is vo A') →
    rm.frames + 1 ≤ R.frames → 2 * (st.drop np).length + (zm + 11) + rm.locals ≤ R.locals → k + rm.cells ≤ R.cells → n + rm.slots ≤ R.slots → IsGo l Z a0 K n0 b0 y bytes maxL ret R Q G →
    G (pc + 3) (ls.map (upL n0 ν)).toArray (vo.toList ++ (st.drop np).map (upV n0 ν)) A' (k + rm.cells) (n + rm.slots) → G pc (ls.map (upL n0 ν)).toArray (st.map (upV n0 ν)) (A.map (upO n0 ν)) k n
section Calls
variable {y zy : MethodName} {bytes zb : ByteArray} {maxL zm pc idx np kk : Nat} {ret zr : Option FieldType}
theorem take_at {st : List MV} {m : Nat} {v : MV} (h : st[m]? = some v) : (st.take (m + 1)).reverse = v :: (st.take m).reverse ∧ st = st.take m ++ v :: st.drop (m + 1) := by
  obtain ⟨hl, e⟩ := List.getElem?_eq_some_iff.mp h
  constructor
  · rw [List.take_add_one, h]; simp
  · rw [← e, ← List.drop_eq_getElem_cons hl, List.take_append_drop]
theorem okc_s (hd : Nx bytes pc (.invokestatic idx) 3 (pc + 3)) (L : SL Z a0 y.cls idx zy zb zm zr np) : OkC l Z a0 K n0 ν y bytes maxL ret pc zy zb zm zr np 0 := by
  intro b0 ls st A k n rm vo A' R Q G h1 h2 h3 M h4 h5 h6 h7 H g
  refine H.callSD hd L M (argsL := ((st.take np).reverse).map (upV n0 ν)) (rest := (st.drop np).map (upV n0 ν)) rfl (by simp; omega) ?_ (by simpa using h2) h4 (by have q := wt (n0 := n0) (ν := ν) (st.drop np); omega) h6 h7 rfl rfl rfl g
  rw [← List.map_reverse, List.reverse_reverse, ← List.map_append, List.take_append_drop]
theorem okc_m (hd : Nx bytes pc (.invokevirtual idx) 3 (pc + 3)) (L : ML Z a0 K y.cls idx kk zy zb zm zr np) : OkC l Z a0 K n0 ν y bytes maxL ret pc zy zb zm zr (np + 1) (kk + 2) := by
  intro b0 ls st A k n rm vo A' R Q G h1 h2 h3 M h4 h5 h6 h7 H g
  simp only [rcv, Nat.add_sub_cancel] at h3
  split at h3
  · next i e =>
    split at h3
    · next k' vs ha =>
      have ek := Nat.eq_of_beq_eq_true h3
      subst ek
      obtain ⟨t1, t2⟩ := take_at e
      refine H.callMD hd L M (i := i) (vs := vs.map (upV n0 ν)) (upA ha) (argsL := ((st.take np).reverse).map (upV n0 ν)) (rest := (st.drop (np + 1)).map (upV n0 ν)) ?_ (by simp; omega) ?_ (by simpa using h2) h4 (by have q := wt (n0 := n0) (ν := ν) (st.drop (np + 1)); omega) h6 h7 rfl rfl rfl g
      · rw [t1]; rfl
      · conv => lhs; rw [t2]
        rw [← List.map_reverse, List.reverse_reverse, List.map_append]; rfl
    · cases h3
  · cases h3
end Calls
/-- every row of the tables is sound -/
def RowOk (l : Launch) (Z : State) (a0 : Array Value) (K : KTab) (n0 : Nat) (ν : Va) (ml fr lo : Nat → Nat) (yy : Nat → MethodName) (bb : Nat → ByteArray) (rr : Nat → Option FieldType) (q pc : Nat) (e : ME) : Prop := match e with
    | .inl x => Ok1 l Z a0 K n0 ν (yy q) (bb q) (ml q) (rr q) (fr q) (lo q) pc x
    | .inr (.inr 0) => Nx (bb q) pc .return_ 1 (pc + 1) ∧ rr q = none
    | .inr (.inr 1) => Nx (bb q) pc .areturn 1 (pc + 1) ∧ ∃ t, rr q = some t ∧ t.isReference = true ∧ ∀ m, narrow t (upV n0 ν (.inr (.inl m))) = upV n0 ν (.inr (.inl m))
    | .inr (.inr 2) => Nx (bb q) pc .ireturn 1 (pc + 1) ∧ rr q = some .int
    | .inr (.inr (_ + 3)) => Nx (bb q) pc .lreturn 1 (pc + 1) ∧ rr q = some .long
    | .inr (.inl (z, np, kd, mx, non)) => (fr z + 1 ≤ fr q ∧ mx + (ml z + 11) + lo z ≤ lo q ∧ ∃ m, non = List.replicate m none) ∧ plainFor (yy z) = true ∧ OkC l Z a0 K n0 ν (yy q) (bb q) (ml q) (rr q) pc (yy z) (bb z) (ml z) (rr z) np kd
def TabOk (l : Launch) (Z : State) (a0 : Array Value) (K : KTab) (n0 : Nat) (ν : Va) (tab : Nat → Nat → Option ME) (ml fr lo : Nat → Nat) (yy : Nat → MethodName) (bb : Nat → ByteArray) (rr : Nat → Option FieldType) : Prop :=
  (∀ q pc e, tab q pc = some e → RowOk l Z a0 K n0 ν ml fr lo yy bb rr q pc e) ∧ KOk Z a0 K
theorem run_ok {tab : Nat → Nat → Option ME} {ml fr lo : Nat → Nat} {yy : Nat → MethodName} {bb : Nat → ByteArray} {rr : Nat → Option FieldType} (T : TabOk l Z a0 K n0 ν tab ml fr lo yy bb rr) :
    ∀ (f q : Nat) (s : MS) (r : MR), run tab ml fr lo f q s = some r → s.2.1.length = ml q → ∀ b0 : Nat, s.2.2.2.1.length = b0 + s.2.2.2.2.1 →
      (s.2.2.2.2.1 ≤ r.2.2.1 ∧ s.2.2.2.2.2 ≤ r.2.2.2 ∧ r.2.1.length = b0 + r.2.2.1) ∧
      ∀ (R : Room) (G : GoT), R.frames = fr q → R.locals = lo q → r.2.2.1 ≤ R.cells → r.2.2.2 ≤ R.slots → IsGo l Z a0 K n0 b0 (yy q) (bb q) (ml q) (rr q) R (Is (r.1.map (upV n0 ν)) (r.2.1.map (upO n0 ν))) G → Gu n0 ν G s := by
  intro f
  induction f with
  | zero => intro q s r h; cases h
  | succ f ih =>
    intro q s r h hl b0 hA
    obtain ⟨pc, ls, st, A, k, n⟩ := s
    simp only [run, fN_eq] at h
    split at h
    · cases h
    · next x ht =>
      have t : Ok1 l Z a0 K n0 ν (yy q) (bb q) (ml q) (rr q) (fr q) (lo q) pc x := T.1 _ _ _ ht
      split at h
      · next s' hs =>
        obtain ⟨⟨a1, a2, a3, a4⟩, a5⟩ := t b0 _ s' rfl hs hl hA
        obtain ⟨⟨c1, c2, c3⟩, c4⟩ := ih q s' r h a1 b0 a2
        refine ⟨⟨Nat.le_trans a3 c1, Nat.le_trans a4 c2, c3⟩, fun R G e1 e2 e3 e4 H => ?_⟩
        exact a5 R _ G e1 e2 (Nat.le_trans c1 e3) (Nat.le_trans c2 e4) H (c4 R G e1 e2 e3 e4 H)
      · cases h
    · next b ht =>
      have t := T.1 _ _ _ ht
      match b, t with
      | 0, t =>
        simp only at h
        split at h
        · cases h
          refine ⟨⟨Nat.le_refl _, Nat.le_refl _, hA⟩, fun R G e1 e2 e3 e4 H => ?_⟩
          exact H.vreturn t.1 t.2 ⟨rfl, rfl⟩ e3 e4
        · cases h
      | 1, t =>
        simp only at h
        split at h
        · next x rest =>
          rcases x with z | m | _ <;> simp only [kOf] at h <;> cases h
          refine ⟨⟨Nat.le_refl _, Nat.le_refl _, hA⟩, fun R G e1 e2 e3 e4 H => ?_⟩
          obtain ⟨t1, ty, t2, t3, t4⟩ := t
          exact H.areturn t1 t2 t3 (t4 m) (upV_ref m) ⟨rfl, rfl⟩ e3 e4
        · cases h
      | 2, t =>
        simp only at h
        split at h
        · next x rest =>
          rcases x with z | m | _ <;> simp only [kOf] at h <;> cases h
          refine ⟨⟨Nat.le_refl _, Nat.le_refl _, hA⟩, fun R G e1 e2 e3 e4 H => ?_⟩
          exact H.ireturn t.1 t.2 (by simp) rfl ⟨rfl, rfl⟩ e3 e4
        · cases h
      | b' + 3, t =>
        simp only at h
        split at h
        · next x rest =>
          cases hk : Nat.beq (kOf x) (b' + 2) <;> simp only [hk, cond_true, cond_false] at h
          · cases h
          · cases h
            have hk := Nat.eq_of_beq_eq_true hk
            rcases x with z | m | _ <;> simp only [kOf] at hk <;> first | omega | skip
            refine ⟨⟨Nat.le_refl _, Nat.le_refl _, hA⟩, fun R G e1 e2 e3 e4 H => ?_⟩
            exact H.lreturn t.1 t.2 ⟨rfl, rfl⟩ e3 e4
        · cases h
    · next z np kd mx non ht =>
      obtain ⟨⟨j3, j4, jm, rfl⟩, tp, tc⟩ := T.1 _ _ _ ht
      cases j5 : rcv kd np st A <;> simp only [j5, cond_true, cond_false] at h
      · cases h
      · rw [tkR_eq] at h
        cases j1 : Nat.ble np st.length <;> simp only [tkS, j1, cond_true, cond_false] at h
        · cases h
        · cases j6 : (Nat.ble (2 * (st.drop np).length) mx && Nat.beq (lay (st.take np).reverse ++ List.replicate jm none).length (ml z)) <;> simp only [j6, cond_true, cond_false] at h
          · cases h
          · simp only [Bool.and_eq_true] at j6
            have j1 := Nat.le_of_ble_eq_true j1
            have j7 := Nat.eq_of_beq_eq_true j6.2
            have j6 := Nat.le_of_ble_eq_true j6.1
            split at h
            · next v A' k' n' hr =>
              have h : run tab ml fr lo f q (pc + 3, ls, v.toList ++ st.drop np, A', k + k', n + n') = some r := by
                cases v with
                | none => exact h
                | some w => exact h
              obtain ⟨⟨c1, c2, c3⟩, c4⟩ := ih z _ _ hr j7 A.length (by simp)
              have M : Met l Z K n0 (yy z) (bb z) (ml z) (rr z) ({ frames := fr z, cells := k', slots := n', locals := lo z } : Room) (((st.take np).reverse).map (upV n0 ν)).toArray (A.map (upO n0 ν)) (Is (v.map (upV n0 ν)) (A'.map (upO n0 ν))) := by
                refine Met.of (a0 := a0) (ls := ((lay (st.take np).reverse ++ List.replicate jm none).map (upL n0 ν)).toArray) T.2 tp (fun m => ?_) (fun G H => ?_)
                · exact entry_up (n0 := n0) (ν := ν) m (st.take np).reverse (ml z) jm (by rw [← j7]; simp)
                · rw [List.length_map] at H
                  exact c4 _ G rfl rfl (Nat.le_refl _) (Nat.le_refl _) H
              obtain ⟨⟨d1, d2, d3⟩, d4⟩ := ih q _ r h hl b0 (by simp only at hA c3 ⊢; omega)
              simp only at d1 d2
              refine ⟨⟨by simp only; omega, by simp only; omega, d3⟩, fun R G e1 e2 e3 e4 H => ?_⟩
              have g := d4 R G e1 e2 e3 e4 H
              refine tc b0 ls st A k n _ _ _ R _ G j1 hl j5 M (by simp only; omega) (by simp only; omega) (by simp only; omega) (by simp only; omega) H ?_
              simp only [Gu, List.map_append] at g
              cases v with
              | none => exact g
              | some w => exact g
            · cases h
end Run
section Tab
/-- the tables: trees by pc -/
def lf (p : Nat) (e : ME) : Nat → Option ME := fun pc => bif Nat.beq pc p then some e else none
def nd (m : Nat) (a b : Nat → Option ME) : Nat → Option ME := fun pc => bif Nat.ble pc m then a pc else b pc
def no : Nat → Option ME := fun _ => none
def qn (p : Nat) (a : Nat → Option ME) (b : Nat → Nat → Option ME) : Nat → Nat → Option ME := fun q pc => bif Nat.beq q p then a pc else b q pc
def qo : Nat → Nat → Option ME := fun _ _ => none
def AllT (P : Nat → ME → Prop) (f : Nat → Option ME) : Prop := ∀ pc e, f pc = some e → P pc e
theorem LF {P : Nat → ME → Prop} {p : Nat} {e : ME} (h : P p e) : AllT P (lf p e) := by
  intro pc e' h'
  simp only [lf] at h'
  cases hq : Nat.beq pc p <;> simp only [hq, cond_true, cond_false] at h'
  · cases h'
  · cases h'; rw [Nat.eq_of_beq_eq_true hq]; exact h
theorem ND {P : Nat → ME → Prop} {m : Nat} {a b : Nat → Option ME} (h1 : AllT P a) (h2 : AllT P b) : AllT P (nd m a b) := by
  intro pc e' h'
  simp only [nd] at h'
  cases hq : Nat.ble pc m <;> simp only [hq, cond_true, cond_false] at h'
  · exact h2 _ _ h'
  · exact h1 _ _ h'
def AllQ (P : Nat → Nat → ME → Prop) (f : Nat → Nat → Option ME) : Prop := ∀ q pc e, f q pc = some e → P q pc e
theorem QN {P : Nat → Nat → ME → Prop} {p : Nat} {a : Nat → Option ME} {b : Nat → Nat → Option ME} (h1 : AllT (P p) a) (h2 : AllQ P b) : AllQ P (qn p a b) := by
  intro q pc e' h'
  simp only [qn] at h'
  cases hq : Nat.beq q p <;> simp only [hq, cond_true, cond_false] at h'
  · exact h2 _ _ _ h'
  · rw [Nat.eq_of_beq_eq_true hq]; exact h1 _ _ h'
theorem QO {P : Nat → Nat → ME → Prop} : AllQ P qo := by
  intro q pc e' h'; cases h'
end Tab
theorem met_run {l : Launch} {Z : State} {a0 : Array Value} {K : KTab} {n0 : Nat} {ν : Va} {tab : Nat → Nat → Option ME} {ml fr lo : Nat → Nat} {yy : Nat → MethodName} {bb : Nat → ByteArray} {rr : Nat → Option FieldType} (T : TabOk l Z a0 K n0 ν tab ml fr lo yy bb rr) {f q : Nat} {args : List MV} {A A' : List MO} {v : Option MV} {j k n : Nat} (hp : plainFor (yy q) = true) (hn : (lay args).length + j = ml q)
    (h : run tab ml fr lo f q (0, lay args ++ List.replicate j none, [], A, 0, 0) = some (v, A', k, n)) : Met l Z K n0 (yy q) (bb q) (ml q) (rr q) ({ frames := fr q, cells := k, slots := n, locals := lo q } : Room) (args.map (upV n0 ν)).toArray (A.map (upO n0 ν)) (Is (v.map (upV n0 ν)) (A'.map (upO n0 ν))) := by
  obtain ⟨⟨c1, c2, c3⟩, c4⟩ := run_ok T f q _ _ h (by simpa using hn) A.length (by simp)
  refine Met.of (a0 := a0) (ls := ((lay args ++ List.replicate j none).map (upL n0 ν)).toArray) T.2 hp (fun m => entry_up m args (ml q) j hn) (fun G H => ?_)
  rw [List.length_map] at H
  exact c4 _ G rfl rfl (Nat.le_refl _) (Nat.le_refl _) H
end Jvm.OwnL


namespace Jvm.OwnKit
open Sem ClassFile Op Lib Jvm.Free Jvm.Stand Jvm.LawKit Jvm.RoadKit
/-- the contract of a method with handlers whose walk throws nothing -/
def MetW (l : Launch) (Z : State) (K : KTab) (n0 : Nat) (y : MethodName) (bytes : ByteArray) (maxL : Nat) (ret : Option FieldType) (hs : List (Nat × Nat × Nat × Nat)) (R : Room) (as : Array Value) (A : List Ob) (Q : Option Value → List Ob → Prop) : Prop :=
  ∀ (ws : List Jvm.Cond) (h0 : Heap), Rel Z K n0 h0 A → MetFree l y (head1 (Jvm.Cond.codeWith y bytes maxL ret hs :: ws) R) (fun a U => a = as ∧ Z.Warmed39 U.vm ∧ U.heap = h0) (fun _ _ _ _ _ => True)
    (fun _ U o U' => ∃ v L, o = .returned v ∧ (∃ A', Q v A' ∧ Rel Z K n0 U'.heap A' ∧ Fr n0 L) ∧ FrameEnd U o U' L R.cells R.slots)
section W
variable {l : Launch} {Z : State} {a0 : Array Value} {K : KTab} {n0 b0 : Nat} {y : MethodName} {bytes : ByteArray} {maxL : Nat} {ret : Option FieldType} {R : Room} {Q : Option Value → List Ob → Prop} {G : GoT}
variable {pc pc' : Nat} {ls ls' : Array Slot} {st st' : List Value} {A A' : List Ob} {k k' n n' : Nat} {hs : List (Nat × Nat × Nat × Nat)}
theorem MetW.of (KK : KOk Z a0 K) (hp : plainFor y = true) {as : Array Value} (hef : ∀ m, entryFrame m as maxL = mkF m 0 ls []) (body : ∀ G, IsGo l Z a0 K n0 A.length y bytes maxL ret R Q G → G 0 ls [] A 0 0) : MetW l Z K n0 y bytes maxL ret hs R as A Q := by
  intro ws h0 hR
  refine MetFree.of_bodySF hp hisWith ?_
  intro p e s m args below meth c s₁ Bd hml0 hP hK
  obtain ⟨rfl, hZ, hh⟩ := hP
  have e0 : s₁.heap = h0 := by rw [← hh, Bd.state]; rfl
  have H := body (Go p l e R s m args below meth c Z K n0 Q) ⟨p, e, s, m, args, below, meth, c, Bd.exec, Bd.bytes, hml0, findClass_of_methodNamed Bd.named, (name_of_methodNamed Bd.named Bd.method).1, Bd.returns, Bd.notSynchronized, hZ, KK, by rw [hh]; exact hR.1, rfl⟩
  obtain ⟨s₂, o, h1, h2, h3, h4⟩ := H s₁ [] (Stand.of_body Bd) (by rw [e0]; exact hR) (Fr.nil n0)
  exact ⟨s₂, o, castTop (hef m) h1, h2, h3, h4⟩
def VLW (Z : State) (a0 : Array Value) (K : KTab) (own : String) (idx kk : Nat) (z : MethodName) (zb : ByteArray) (zm : Nat) (zr : Option FieldType) (hs : List (Nat × Nat × Nat × Nat)) (np : Nat) : Prop :=
  ∃ C fs, K[kk]? = some (C, fs) ∧ (Jvm.Cond.methodLink own idx z).before a0 Z = true ∧ (Jvm.Cond.declares z).before a0 Z = true ∧ (Jvm.Cond.selects C z z).before a0 Z = true ∧ (Jvm.Cond.instanceMethod z).before a0 Z = true ∧ (Jvm.Cond.initialized z.cls).before a0 Z = true ∧ (Jvm.Cond.codeWith z zb zm zr hs).before a0 Z = true ∧ (z.cls ≠ "java/lang/invoke/MethodHandle" ∧ z.cls ≠ "java/lang/invoke/VarHandle") ∧ (∀ sig, parseMethodDescriptor z.desc = some sig → np = sig.parameters.length)
theorem IsGo.callVW (H : IsGo l Z a0 K n0 b0 y bytes maxL ret R Q G) {idx kk : Nat} (hd : Nx bytes pc (.invokevirtual idx) 3 pc') {z : MethodName} {zb : ByteArray} {zm : Nat} {zr : Option FieldType} {np : Nat} (L : VLW Z a0 K y.cls idx kk z zb zm zr hs np) {rm : Room} {as : Array Value} {QQ : Option Value → List Ob → Prop} (M : MetW l Z K n0 z zb zm zr hs rm as A QQ)
    {i : Nat} {vs : List Value} (hA : A[i]? = some (.inl (kk, vs))) {argsL rest : List Value} (ha : (Value.ref (n0 + i) :: argsL).toArray = as) (hnp : argsL.length = np) (hst : st = argsL.reverse ++ .ref (n0 + i) :: rest) (hls : ls.size = maxL) (hf : rm.frames + 1 ≤ R.frames) (hl : (rest.map fun v => v.category).sum + (zm + 11) + rm.locals ≤ R.locals) (hc : k + rm.cells ≤ R.cells) (hs' : n + rm.slots ≤ R.slots) (h : ∀ v A', QQ v A' → G pc' ls (v.toList ++ rest) A' (k + rm.cells) (n + rm.slots)) : G pc ls st A k n := by
  obtain ⟨hd, rfl⟩ := hd
  obtain ⟨p, e, s, m, args, below, meth, c, hx, hby, hml, hown, hnm, hret, hlk, hZ, hK, hb0, rfl⟩ := H
  obtain ⟨C, fs, hk, w1, w2, w3, w4, w5, w6, w7, w8⟩ := L
  subst ha hst hnp
  intro T locs X hR hF
  obtain ⟨cB, kB, qa, qb, qc⟩ := isOf hZ rfl ((hR.2 i _ hA).exa hk)
  obtain ⟨v, vm₁, ⟨T', L', k', n'⟩, -, X', ⟨Lc, ⟨A', hQ, hR', hF'⟩, e1, e2, e3⟩, sp⟩ := X.virtualBack hx (y := z) (z := z) hown (mvT hZ w1) (mvT hZ w2) (notFace_of_selects (args := #[]) (mvT hZ w3)) (mvT hZ w3) (mvT hZ w4) w7 (backOfWith (W := (rest.map fun v => v.category).sum) (Q := fun v h L => ∃ A', QQ v A' ∧ Rel Z K n0 h A' ∧ Fr n0 L) (M [] T.heap hR) hZ w6 w5 hf hl) qa qc (g := mkF m pc ls (argsL.reverse ++ .ref (n0 + i) :: rest)) rfl (by rw [hml]; exact hls) (Steps.refl _) (argsL := argsL) (rest := rest) w8 rfl (by show 2 * 0 + _ ≤ _; omega) (hb hby hd) (fun _ _ => ⟨rfl, rfl, hc, hs'⟩)
  dsimp only [Pt.U, Pt.locs, Pt.cells, Pt.slots] at X' e1 e2 e3 sp hQ hR'
  subst e1 e2 e3
  obtain ⟨s₂, o, h1, h2⟩ := h v A' hQ T' _ X' hR' (Fr.app hF hF')
  exact ⟨s₂, o, sp.trans h1, h2⟩
end W
end Jvm.OwnKit

namespace Jvm.Pilot.@@N@@
open Jvm Jvm.ClassFile Sem Op Lib Jvm.Free Jvm.Stand Jvm.LawKit Jvm.RoadKit Jvm.OwnKit Jvm.OwnL Bundle Jvm.Pilot.@@N@@.Jvm.D
abbrev HW1 (Z : State) (a0 : Array Value) : Prop := ∀ d ∈ tables_1, d.before a0 Z = true
def KT : KTab := [("com/example/primalcap/primalcap/MinCostFlow", [("com/example/primalcap/primalcap/MinCostFlow", "tail", "[I"), ("com/example/primalcap/primalcap/MinCostFlow", "head", "[I"), ("com/example/primalcap/primalcap/MinCostFlow", "capacity", "[J"), ("com/example/primalcap/primalcap/MinCostFlow", "cost", "[J"), ("com/example/primalcap/primalcap/MinCostFlow", "flow", "[J"), ("com/example/primalcap/primalcap/MinCostFlow", "nodes", "I"), ("com/example/primalcap/primalcap/MinCostFlow", "totalCapacity", "J"), ("com/example/primalcap/primalcap/MinCostFlow", "edges", "I")]), ("com/example/primalcap/primalcap/MinCostFlow$Refinements", [("com/example/primalcap/primalcap/MinCostFlow$Refinements", "this$0", "Lcom/example/primalcap/primalcap/MinCostFlow;"), ("com/example/primalcap/primalcap/MinCostFlow$Refinements", "first", "[I"), ("com/example/primalcap/primalcap/MinCostFlow$Refinements", "arcOf", "[I"), ("com/example/primalcap/primalcap/MinCostFlow$Refinements", "multiplier", "J"), ("com/example/primalcap/primalcap/MinCostFlow$Refinements", "price", "[J"), ("com/example/primalcap/primalcap/MinCostFlow$Refinements", "excess", "[J"), ("com/example/primalcap/primalcap/MinCostFlow$Refinements", "current", "[I"), ("com/example/primalcap/primalcap/MinCostFlow$Refinements", "queue", "[I"), ("com/example/primalcap/primalcap/MinCostFlow$Refinements", "to", "[I"), ("com/example/primalcap/primalcap/MinCostFlow$Refinements", "reverse", "[I"), ("com/example/primalcap/primalcap/MinCostFlow$Refinements", "residual", "[J"), ("com/example/primalcap/primalcap/MinCostFlow$Refinements", "arcCost", "[J"), ("com/example/primalcap/primalcap/MinCostFlow$Refinements", "largest", "J"), ("com/example/primalcap/primalcap/MinCostFlow$Refinements", "queueStart", "I"), ("com/example/primalcap/primalcap/MinCostFlow$Refinements", "queued", "I")]), ("com/example/primalcap/primalcap/Optimum$Network", [("com/example/primalcap/primalcap/Optimum$Network", "flows", "Lcom/example/primalcap/primalcap/MinCostFlow;"), ("com/example/primalcap/primalcap/Optimum$Network", "soldOutright", "[J")])]
abbrev y1 : MethodName := ⟨"com/example/primalcap/primalcap/MinCostFlow", "<init>", "(I)V"⟩
abbrev y2 : MethodName := ⟨"java/lang/Object", "<init>", "()V"⟩
abbrev y3 : MethodName := ⟨"com/example/primalcap/primalcap/MinCostFlow", "addEdge", "(IIJJ)I"⟩
abbrev y4 : MethodName := ⟨"com/example/primalcap/primalcap/MinCostFlow$Refinements", "<init>", "(Lcom/example/primalcap/primalcap/MinCostFlow;)V"⟩
abbrev y5 : MethodName := ⟨"java/util/Arrays", "copyOf", "([II)[I"⟩
abbrev y6 : MethodName := ⟨"java/lang/Math", "min", "(II)I"⟩
abbrev y7 : MethodName := ⟨"java/lang/Math", "multiplyExact", "(JJ)J"⟩
abbrev y8 : MethodName := ⟨"java/lang/Math", "abs", "(J)J"⟩
abbrev y9 : MethodName := ⟨"java/lang/Math", "max", "(JJ)J"⟩
abbrev y10 : MethodName := ⟨"java/lang/Math", "addExact", "(JJ)J"⟩
abbrev y11 : MethodName := ⟨"com/example/primalcap/primalcap/MinCostFlow$Refinements", "run", "()V"⟩
abbrev y12 : MethodName := ⟨"com/example/primalcap/primalcap/MinCostFlow$Refinements", "refine", "(J)V"⟩
abbrev y13 : MethodName := ⟨"com/example/primalcap/primalcap/Optimum$Network", "<init>", "(Lcom/example/primalcap/primalcap/MinCostFlow;[J)V"⟩
abbrev y14 : MethodName := ⟨"java/lang/Record", "<init>", "()V"⟩
abbrev y15 : MethodName := ⟨"com/example/primalcap/primalcap/Optimum$Network", "boughtAt", "()[J"⟩
abbrev y16 : MethodName := ⟨"com/example/primalcap/primalcap/MinCostFlow", "edges", "()I"⟩
abbrev y17 : MethodName := ⟨"com/example/primalcap/primalcap/MinCostFlow", "head", "(I)I"⟩
abbrev y18 : MethodName := ⟨"com/example/primalcap/primalcap/MinCostFlow", "cost", "(I)J"⟩
abbrev y19 : MethodName := ⟨"com/example/primalcap/primalcap/MinCostFlow", "flow", "(I)J"⟩
abbrev y20 : MethodName := ⟨"java/lang/Math", "min", "(JJ)J"⟩
abbrev y21 : MethodName := ⟨"com/example/primalcap/primalcap/MinCostFlow$Refinements", "reducedCost", "(II)J"⟩
abbrev y22 : MethodName := ⟨"com/example/primalcap/primalcap/MinCostFlow$Refinements", "push", "(IIJ)V"⟩
abbrev y23 : MethodName := ⟨"com/example/primalcap/primalcap/MinCostFlow$Refinements", "enqueue", "(I)V"⟩
abbrev y24 : MethodName := ⟨"com/example/primalcap/primalcap/MinCostFlow$Refinements", "discharge", "(IJ)V"⟩
abbrev y25 : MethodName := ⟨"com/example/primalcap/primalcap/MinCostFlow$Refinements", "relabel", "(IJ)V"⟩
abbrev y26 : MethodName := ⟨"com/example/primalcap/primalcap/MinCostFlow", "solve", "()V"⟩
theorem kok {Z : State} {a0 : Array Value} (hw : HW1 Z a0) : KOk Z a0 KT := kokOf (faS ⟨⟨_, (hw _ (List.mem_of_getElem? (i := 1) rfl))⟩, (faS ⟨Or.inl (hw _ (List.mem_of_getElem? (i := 11) rfl)), (.array .int), by decide +kernel⟩ (faS ⟨Or.inl (hw _ (List.mem_of_getElem? (i := 13) rfl)), (.array .int), by decide +kernel⟩ (faS ⟨Or.inl (hw _ (List.mem_of_getElem? (i := 16) rfl)), (.array .long), by decide +kernel⟩ (faS ⟨Or.inl (hw _ (List.mem_of_getElem? (i := 18) rfl)), (.array .long), by decide +kernel⟩ (faS ⟨Or.inl (hw _ (List.mem_of_getElem? (i := 20) rfl)), (.array .long), by decide +kernel⟩ (faS ⟨Or.inl (hw _ (List.mem_of_getElem? (i := 22) rfl)), .int, by decide +kernel⟩ (faS ⟨Or.inl (hw _ (List.mem_of_getElem? (i := 30) rfl)), .long, by decide +kernel⟩ (faS ⟨Or.inl (hw _ (List.mem_of_getElem? (i := 32) rfl)), .int, by decide +kernel⟩ fa0)))))))), by decide⟩ (faS ⟨⟨_, (hw _ (List.mem_of_getElem? (i := 39) rfl))⟩, (faS ⟨Or.inr (hw _ (List.mem_of_getElem? (i := 45) rfl)), (.object "com/example/primalcap/primalcap/MinCostFlow"), by decide +kernel⟩ (faS ⟨Or.inr (hw _ (List.mem_of_getElem? (i := 49) rfl)), (.array .int), by decide +kernel⟩ (faS ⟨Or.inr (hw _ (List.mem_of_getElem? (i := 52) rfl)), (.array .int), by decide +kernel⟩ (faS ⟨Or.inr (hw _ (List.mem_of_getElem? (i := 54) rfl)), .long, by decide +kernel⟩ (faS ⟨Or.inr (hw _ (List.mem_of_getElem? (i := 56) rfl)), (.array .long), by decide +kernel⟩ (faS ⟨Or.inr (hw _ (List.mem_of_getElem? (i := 58) rfl)), (.array .long), by decide +kernel⟩ (faS ⟨Or.inr (hw _ (List.mem_of_getElem? (i := 60) rfl)), (.array .int), by decide +kernel⟩ (faS ⟨Or.inr (hw _ (List.mem_of_getElem? (i := 62) rfl)), (.array .int), by decide +kernel⟩ (faS ⟨Or.inr (hw _ (List.mem_of_getElem? (i := 64) rfl)), (.array .int), by decide +kernel⟩ (faS ⟨Or.inr (hw _ (List.mem_of_getElem? (i := 66) rfl)), (.array .int), by decide +kernel⟩ (faS ⟨Or.inr (hw _ (List.mem_of_getElem? (i := 68) rfl)), (.array .long), by decide +kernel⟩ (faS ⟨Or.inr (hw _ (List.mem_of_getElem? (i := 70) rfl)), (.array .long), by decide +kernel⟩ (faS ⟨Or.inl (hw _ (List.mem_of_getElem? (i := 93) rfl)), .long, by decide +kernel⟩ (faS ⟨Or.inl (hw _ (List.mem_of_getElem? (i := 116) rfl)), .int, by decide +kernel⟩ (faS ⟨Or.inl (hw _ (List.mem_of_getElem? (i := 118) rfl)), .int, by decide +kernel⟩ fa0))))))))))))))), by decide⟩ (faS ⟨⟨_, (hw _ (List.mem_of_getElem? (i := 120) rfl))⟩, (faS ⟨Or.inr (hw _ (List.mem_of_getElem? (i := 132) rfl)), (.object "com/example/primalcap/primalcap/MinCostFlow"), by decide +kernel⟩ (faS ⟨Or.inr (hw _ (List.mem_of_getElem? (i := 134) rfl)), (.array .long), by decide +kernel⟩ fa0)), by decide⟩ fa0)))
set_option maxRecDepth 65536
set_option maxHeartbeats 40000000
abbrev b1 : ByteArray := prog_20_method_1_code
abbrev b2 : ByteArray := object_method_1_code
abbrev b3 : ByteArray := prog_20_method_3_code
abbrev b4 : ByteArray := prog_21_method_1_code
abbrev b5 : ByteArray := jdk_65_method_123_code
abbrev b6 : ByteArray := jdk_29_method_69_code
abbrev b7 : ByteArray := jdk_29_method_30_code
abbrev b8 : ByteArray := jdk_29_method_61_code
abbrev b9 : ByteArray := jdk_29_method_66_code
abbrev b10 : ByteArray := jdk_29_method_25_code
abbrev b11 : ByteArray := prog_21_method_2_code
abbrev b12 : ByteArray := prog_21_method_4_code
abbrev b13 : ByteArray := prog_27_method_1_code
abbrev b14 : ByteArray := jdk_30_method_1_code
abbrev b15 : ByteArray := prog_27_method_2_code
abbrev b16 : ByteArray := prog_20_method_5_code
abbrev b17 : ByteArray := prog_20_method_7_code
abbrev b18 : ByteArray := prog_20_method_9_code
abbrev b19 : ByteArray := prog_20_method_10_code
abbrev b20 : ByteArray := jdk_29_method_70_code
abbrev b21 : ByteArray := prog_21_method_3_code
abbrev b22 : ByteArray := prog_21_method_7_code
abbrev b23 : ByteArray := prog_21_method_8_code
abbrev b24 : ByteArray := prog_21_method_5_code
abbrev b25 : ByteArray := prog_21_method_6_code
abbrev b26 : ByteArray := prog_20_method_11_code
theorem s3_0 : Nx b3 0 (.lload_n 3) 1 1 := ⟨by decide +kernel, rfl⟩
theorem s3_1 : Nx b3 1 (.lconst 0) 1 2 := ⟨by decide +kernel, rfl⟩
theorem s3_2 : Nx b3 2 (.lcmp) 1 3 := ⟨by decide +kernel, rfl⟩
theorem s3_3 : Bx b3 3 (.ifCond .ge) 20 6 := ⟨(17), by decide +kernel, by decide, by decide, rfl⟩
theorem s3_9 : Nx b3 9 (.dup) 1 10 := ⟨by decide +kernel, rfl⟩
theorem s3_10 : Nx b3 10 (.lload_n 3) 1 11 := ⟨by decide +kernel, rfl⟩
theorem s3_20 : Nx b3 20 (.lload_n 3) 1 21 := ⟨by decide +kernel, rfl⟩
theorem k_0 {Z : State} {a0 : Array Value} (hw : HW1 Z a0) : (Jvm.Cond.constantLong "com/example/primalcap/primalcap/MinCostFlow" 41 (9223372036854775807)).before a0 Z = true := (hw _ (List.mem_of_getElem? (i := 28) rfl))
theorem s3_21 : Nx b3 21 (.ldc2_w 41) 3 24 := ⟨by decide +kernel, rfl⟩
theorem s3_24 : Nx b3 24 (.aload_n 0) 1 25 := ⟨by decide +kernel, rfl⟩
theorem k_1 {Z : State} {a0 : Array Value} (hw : HW1 Z a0) : FL Z a0 KT "com/example/primalcap/primalcap/MinCostFlow" 43 0 6 := ⟨_, _, "com/example/primalcap/primalcap/MinCostFlow", "totalCapacity", "J", "", rfl, rfl, (Or.inl (hw _ (List.mem_of_getElem? (i := 29) rfl)))⟩
theorem s3_25 : Nx b3 25 (.getfield 43) 3 28 := ⟨by decide +kernel, rfl⟩
theorem s3_28 : Nx b3 28 (.lsub) 1 29 := ⟨by decide +kernel, rfl⟩
theorem s3_29 : Nx b3 29 (.lcmp) 1 30 := ⟨by decide +kernel, rfl⟩
theorem s3_30 : Bx b3 30 (.ifCond .le) 43 33 := ⟨(13), by decide +kernel, by decide, by decide, rfl⟩
theorem s3_36 : Nx b3 36 (.dup) 1 37 := ⟨by decide +kernel, rfl⟩
theorem s3_43 : Nx b3 43 (.aload_n 0) 1 44 := ⟨by decide +kernel, rfl⟩
theorem s3_44 : Nx b3 44 (.dup) 1 45 := ⟨by decide +kernel, rfl⟩
theorem s3_45 : Nx b3 45 (.getfield 43) 3 48 := ⟨by decide +kernel, rfl⟩
theorem s3_48 : Nx b3 48 (.lload_n 3) 1 49 := ⟨by decide +kernel, rfl⟩
theorem s3_49 : Nx b3 49 (.ladd) 1 50 := ⟨by decide +kernel, rfl⟩
theorem k_2 {Z : State} {a0 : Array Value} (hw : HW1 Z a0) : PL Z a0 KT "com/example/primalcap/primalcap/MinCostFlow" "addEdge" 43 0 6 .long := ⟨_, _, "com/example/primalcap/primalcap/MinCostFlow", "totalCapacity", "J", "", rfl, rfl, (Or.inl (hw _ (List.mem_of_getElem? (i := 29) rfl))), (Or.inl (hw _ (List.mem_of_getElem? (i := 30) rfl))), by decide +kernel⟩
theorem s3_50 : Nx b3 50 (.putfield 43) 3 53 := ⟨by decide +kernel, rfl⟩
theorem s3_53 : Nx b3 53 (.aload_n 0) 1 54 := ⟨by decide +kernel, rfl⟩
theorem k_3 {Z : State} {a0 : Array Value} (hw : HW1 Z a0) : FL Z a0 KT "com/example/primalcap/primalcap/MinCostFlow" 49 0 7 := ⟨_, _, "com/example/primalcap/primalcap/MinCostFlow", "edges", "I", "", rfl, rfl, (Or.inl (hw _ (List.mem_of_getElem? (i := 31) rfl)))⟩
theorem s3_54 : Nx b3 54 (.getfield 49) 3 57 := ⟨by decide +kernel, rfl⟩
theorem s3_57 : Nx b3 57 (.aload_n 0) 1 58 := ⟨by decide +kernel, rfl⟩
theorem k_4 {Z : State} {a0 : Array Value} (hw : HW1 Z a0) : FL Z a0 KT "com/example/primalcap/primalcap/MinCostFlow" 13 0 1 := ⟨_, _, "com/example/primalcap/primalcap/MinCostFlow", "head", "[I", "", rfl, rfl, (Or.inl (hw _ (List.mem_of_getElem? (i := 12) rfl)))⟩
theorem s3_58 : Nx b3 58 (.getfield 13) 3 61 := ⟨by decide +kernel, rfl⟩
theorem s3_61 : Nx b3 61 (.arraylength) 1 62 := ⟨by decide +kernel, rfl⟩
theorem s3_62 : Bx b3 62 (.if_icmp .ne) 138 65 := ⟨(76), by decide +kernel, by decide, by decide, rfl⟩
theorem s3_65 : Nx b3 65 (.iconst 2) 1 66 := ⟨by decide +kernel, rfl⟩
theorem s3_66 : Nx b3 66 (.aload_n 0) 1 67 := ⟨by decide +kernel, rfl⟩
theorem s3_67 : Nx b3 67 (.getfield 49) 3 70 := ⟨by decide +kernel, rfl⟩
theorem s3_70 : Nx b3 70 (.imul) 1 71 := ⟨by decide +kernel, rfl⟩
theorem s3_71 : Nx b3 71 (.istore 7) 2 73 := ⟨by decide +kernel, rfl⟩
theorem s3_73 : Nx b3 73 (.aload_n 0) 1 74 := ⟨by decide +kernel, rfl⟩
theorem s3_74 : Nx b3 74 (.aload_n 0) 1 75 := ⟨by decide +kernel, rfl⟩
theorem k_5 {Z : State} {a0 : Array Value} (hw : HW1 Z a0) : FL Z a0 KT "com/example/primalcap/primalcap/MinCostFlow" 7 0 0 := ⟨_, _, "com/example/primalcap/primalcap/MinCostFlow", "tail", "[I", "", rfl, rfl, (Or.inl (hw _ (List.mem_of_getElem? (i := 10) rfl)))⟩
theorem s3_75 : Nx b3 75 (.getfield 7) 3 78 := ⟨by decide +kernel, rfl⟩
theorem s3_78 : Nx b3 78 (.iload 7) 2 80 := ⟨by decide +kernel, rfl⟩
theorem pn_6 : plainName "java/util/Arrays" = true := by first | (simp [plainName, overriddenIn]; done) | decide +kernel
theorem pd_0 : ∀ sig, parseMethodDescriptor "([II)[I" = some sig → 2 = sig.parameters.length := npOf (r := some (.array .int)) (ps := [(.array .int), .int]) (by decide +kernel) rfl
theorem k_7 {Z : State} {a0 : Array Value} (hw : HW1 Z a0) : SL Z a0 "com/example/primalcap/primalcap/MinCostFlow" 52 y5 b5 3 (some (.array .int)) 2 := ⟨(hw _ (List.mem_of_getElem? (i := 194) rfl)), (hw _ (List.mem_of_getElem? (i := 74) rfl)), (hw _ (List.mem_of_getElem? (i := 75) rfl)), (hw _ (List.mem_of_getElem? (i := 76) rfl)), ⟨by decide, by decide⟩, pd_0⟩
theorem s3_80 : Nx b3 80 (.invokestatic 52) 3 83 := ⟨by decide +kernel, rfl⟩
theorem k_8 {Z : State} {a0 : Array Value} (hw : HW1 Z a0) : PL Z a0 KT "com/example/primalcap/primalcap/MinCostFlow" "addEdge" 7 0 0 (.array .int) := ⟨_, _, "com/example/primalcap/primalcap/MinCostFlow", "tail", "[I", "", rfl, rfl, (Or.inl (hw _ (List.mem_of_getElem? (i := 10) rfl))), (Or.inl (hw _ (List.mem_of_getElem? (i := 11) rfl))), by decide +kernel⟩
theorem s3_83 : Nx b3 83 (.putfield 7) 3 86 := ⟨by decide +kernel, rfl⟩
theorem s3_86 : Nx b3 86 (.aload_n 0) 1 87 := ⟨by decide +kernel, rfl⟩
theorem s3_87 : Nx b3 87 (.aload_n 0) 1 88 := ⟨by decide +kernel, rfl⟩
theorem s3_88 : Nx b3 88 (.getfield 13) 3 91 := ⟨by decide +kernel, rfl⟩
theorem s3_91 : Nx b3 91 (.iload 7) 2 93 := ⟨by decide +kernel, rfl⟩
theorem s3_93 : Nx b3 93 (.invokestatic 52) 3 96 := ⟨by decide +kernel, rfl⟩
theorem k_9 {Z : State} {a0 : Array Value} (hw : HW1 Z a0) : PL Z a0 KT "com/example/primalcap/primalcap/MinCostFlow" "addEdge" 13 0 1 (.array .int) := ⟨_, _, "com/example/primalcap/primalcap/MinCostFlow", "head", "[I", "", rfl, rfl, (Or.inl (hw _ (List.mem_of_getElem? (i := 12) rfl))), (Or.inl (hw _ (List.mem_of_getElem? (i := 13) rfl))), by decide +kernel⟩
theorem s3_96 : Nx b3 96 (.putfield 13) 3 99 := ⟨by decide +kernel, rfl⟩
theorem s3_99 : Nx b3 99 (.aload_n 0) 1 100 := ⟨by decide +kernel, rfl⟩
theorem s3_100 : Nx b3 100 (.aload_n 0) 1 101 := ⟨by decide +kernel, rfl⟩
theorem k_10 {Z : State} {a0 : Array Value} (hw : HW1 Z a0) : FL Z a0 KT "com/example/primalcap/primalcap/MinCostFlow" 16 0 2 := ⟨_, _, "com/example/primalcap/primalcap/MinCostFlow", "capacity", "[J", "", rfl, rfl, (Or.inl (hw _ (List.mem_of_getElem? (i := 15) rfl)))⟩
theorem s3_101 : Nx b3 101 (.getfield 16) 3 104 := ⟨by decide +kernel, rfl⟩
theorem s3_104 : Nx b3 104 (.iload 7) 2 106 := ⟨by decide +kernel, rfl⟩
theorem k_11 {Z : State} {a0 : Array Value} (hw : HW1 Z a0) : PL Z a0 KT "com/example/primalcap/primalcap/MinCostFlow" "addEdge" 16 0 2 (.array .long) := ⟨_, _, "com/example/primalcap/primalcap/MinCostFlow", "capacity", "[J", "", rfl, rfl, (Or.inl (hw _ (List.mem_of_getElem? (i := 15) rfl))), (Or.inl (hw _ (List.mem_of_getElem? (i := 16) rfl))), by decide +kernel⟩
theorem s3_109 : Nx b3 109 (.putfield 16) 3 112 := ⟨by decide +kernel, rfl⟩
theorem s3_112 : Nx b3 112 (.aload_n 0) 1 113 := ⟨by decide +kernel, rfl⟩
theorem s3_113 : Nx b3 113 (.aload_n 0) 1 114 := ⟨by decide +kernel, rfl⟩
theorem k_12 {Z : State} {a0 : Array Value} (hw : HW1 Z a0) : FL Z a0 KT "com/example/primalcap/primalcap/MinCostFlow" 20 0 3 := ⟨_, _, "com/example/primalcap/primalcap/MinCostFlow", "cost", "[J", "", rfl, rfl, (Or.inl (hw _ (List.mem_of_getElem? (i := 17) rfl)))⟩
theorem s3_114 : Nx b3 114 (.getfield 20) 3 117 := ⟨by decide +kernel, rfl⟩
theorem s3_117 : Nx b3 117 (.iload 7) 2 119 := ⟨by decide +kernel, rfl⟩
theorem k_13 {Z : State} {a0 : Array Value} (hw : HW1 Z a0) : PL Z a0 KT "com/example/primalcap/primalcap/MinCostFlow" "addEdge" 20 0 3 (.array .long) := ⟨_, _, "com/example/primalcap/primalcap/MinCostFlow", "cost", "[J", "", rfl, rfl, (Or.inl (hw _ (List.mem_of_getElem? (i := 17) rfl))), (Or.inl (hw _ (List.mem_of_getElem? (i := 18) rfl))), by decide +kernel⟩
theorem s3_122 : Nx b3 122 (.putfield 20) 3 125 := ⟨by decide +kernel, rfl⟩
theorem s3_125 : Nx b3 125 (.aload_n 0) 1 126 := ⟨by decide +kernel, rfl⟩
theorem s3_126 : Nx b3 126 (.aload_n 0) 1 127 := ⟨by decide +kernel, rfl⟩
theorem k_14 {Z : State} {a0 : Array Value} (hw : HW1 Z a0) : FL Z a0 KT "com/example/primalcap/primalcap/MinCostFlow" 23 0 4 := ⟨_, _, "com/example/primalcap/primalcap/MinCostFlow", "flow", "[J", "", rfl, rfl, (Or.inl (hw _ (List.mem_of_getElem? (i := 19) rfl)))⟩
theorem s3_127 : Nx b3 127 (.getfield 23) 3 130 := ⟨by decide +kernel, rfl⟩
theorem s3_130 : Nx b3 130 (.iload 7) 2 132 := ⟨by decide +kernel, rfl⟩
theorem k_15 {Z : State} {a0 : Array Value} (hw : HW1 Z a0) : PL Z a0 KT "com/example/primalcap/primalcap/MinCostFlow" "addEdge" 23 0 4 (.array .long) := ⟨_, _, "com/example/primalcap/primalcap/MinCostFlow", "flow", "[J", "", rfl, rfl, (Or.inl (hw _ (List.mem_of_getElem? (i := 19) rfl))), (Or.inl (hw _ (List.mem_of_getElem? (i := 20) rfl))), by decide +kernel⟩
theorem s3_135 : Nx b3 135 (.putfield 23) 3 138 := ⟨by decide +kernel, rfl⟩
theorem s3_138 : Nx b3 138 (.aload_n 0) 1 139 := ⟨by decide +kernel, rfl⟩
theorem s3_139 : Nx b3 139 (.getfield 7) 3 142 := ⟨by decide +kernel, rfl⟩
theorem s3_142 : Nx b3 142 (.aload_n 0) 1 143 := ⟨by decide +kernel, rfl⟩
theorem s3_143 : Nx b3 143 (.getfield 49) 3 146 := ⟨by decide +kernel, rfl⟩
theorem s3_146 : Nx b3 146 (.iload_n 1) 1 147 := ⟨by decide +kernel, rfl⟩
theorem s3_147 : Nx b3 147 (.iastore) 1 148 := ⟨by decide +kernel, rfl⟩
theorem s3_148 : Nx b3 148 (.aload_n 0) 1 149 := ⟨by decide +kernel, rfl⟩
theorem s3_149 : Nx b3 149 (.getfield 13) 3 152 := ⟨by decide +kernel, rfl⟩
theorem s3_152 : Nx b3 152 (.aload_n 0) 1 153 := ⟨by decide +kernel, rfl⟩
theorem s3_153 : Nx b3 153 (.getfield 49) 3 156 := ⟨by decide +kernel, rfl⟩
theorem s3_156 : Nx b3 156 (.iload_n 2) 1 157 := ⟨by decide +kernel, rfl⟩
theorem s3_157 : Nx b3 157 (.iastore) 1 158 := ⟨by decide +kernel, rfl⟩
theorem s3_158 : Nx b3 158 (.aload_n 0) 1 159 := ⟨by decide +kernel, rfl⟩
theorem s3_159 : Nx b3 159 (.getfield 16) 3 162 := ⟨by decide +kernel, rfl⟩
theorem s3_162 : Nx b3 162 (.aload_n 0) 1 163 := ⟨by decide +kernel, rfl⟩
theorem s3_163 : Nx b3 163 (.getfield 49) 3 166 := ⟨by decide +kernel, rfl⟩
theorem s3_166 : Nx b3 166 (.lload_n 3) 1 167 := ⟨by decide +kernel, rfl⟩
theorem s3_167 : Nx b3 167 (.lastore) 1 168 := ⟨by decide +kernel, rfl⟩
theorem s3_168 : Nx b3 168 (.aload_n 0) 1 169 := ⟨by decide +kernel, rfl⟩
theorem s3_169 : Nx b3 169 (.getfield 20) 3 172 := ⟨by decide +kernel, rfl⟩
theorem s3_172 : Nx b3 172 (.aload_n 0) 1 173 := ⟨by decide +kernel, rfl⟩
theorem s3_173 : Nx b3 173 (.getfield 49) 3 176 := ⟨by decide +kernel, rfl⟩
theorem s3_176 : Nx b3 176 (.lload 5) 2 178 := ⟨by decide +kernel, rfl⟩
theorem s3_178 : Nx b3 178 (.lastore) 1 179 := ⟨by decide +kernel, rfl⟩
theorem s3_179 : Nx b3 179 (.aload_n 0) 1 180 := ⟨by decide +kernel, rfl⟩
theorem s3_180 : Nx b3 180 (.dup) 1 181 := ⟨by decide +kernel, rfl⟩
theorem s3_181 : Nx b3 181 (.getfield 49) 3 184 := ⟨by decide +kernel, rfl⟩
theorem s3_184 : Nx b3 184 (.dup_x1) 1 185 := ⟨by decide +kernel, rfl⟩
theorem s3_185 : Nx b3 185 (.iconst 1) 1 186 := ⟨by decide +kernel, rfl⟩
theorem s3_186 : Nx b3 186 (.iadd) 1 187 := ⟨by decide +kernel, rfl⟩
theorem k_16 {Z : State} {a0 : Array Value} (hw : HW1 Z a0) : PL Z a0 KT "com/example/primalcap/primalcap/MinCostFlow" "addEdge" 49 0 7 .int := ⟨_, _, "com/example/primalcap/primalcap/MinCostFlow", "edges", "I", "", rfl, rfl, (Or.inl (hw _ (List.mem_of_getElem? (i := 31) rfl))), (Or.inl (hw _ (List.mem_of_getElem? (i := 32) rfl))), by decide +kernel⟩
theorem s3_187 : Nx b3 187 (.putfield 49) 3 190 := ⟨by decide +kernel, rfl⟩
theorem s3_190 : Nx b3 190 (.ireturn) 1 191 := ⟨by decide +kernel, rfl⟩
theorem s4_0 : Nx b4 0 (.aload_n 0) 1 1 := ⟨by decide +kernel, rfl⟩
theorem s4_1 : Nx b4 1 (.aload_n 1) 1 2 := ⟨by decide +kernel, rfl⟩
theorem k_17 {Z : State} {a0 : Array Value} (hw : HW1 Z a0) : PL Z a0 KT "com/example/primalcap/primalcap/MinCostFlow$Refinements" "<init>" 3 1 0 (.object "com/example/primalcap/primalcap/MinCostFlow") := ⟨_, _, "com/example/primalcap/primalcap/MinCostFlow$Refinements", "this$0", "Lcom/example/primalcap/primalcap/MinCostFlow;", "", rfl, rfl, (Or.inl (hw _ (List.mem_of_getElem? (i := 44) rfl))), (Or.inr ⟨(hw _ (List.mem_of_getElem? (i := 45) rfl)), rfl, rfl⟩), by decide +kernel⟩
theorem s4_2 : Nx b4 2 (.putfield 3) 3 5 := ⟨by decide +kernel, rfl⟩
theorem s4_5 : Nx b4 5 (.aload_n 0) 1 6 := ⟨by decide +kernel, rfl⟩
theorem s4_6 : Nx b4 6 (.invokespecial 9) 3 9 := ⟨by decide +kernel, rfl⟩
theorem k_18 {Z : State} {a0 : Array Value} (hw : HW1 Z a0) : IL Z a0 "com/example/primalcap/primalcap/MinCostFlow$Refinements" 9 := ⟨(hw _ (List.mem_of_getElem? (i := 46) rfl)), (hw _ (List.mem_of_getElem? (i := 7) rfl)), (hw _ (List.mem_of_getElem? (i := 8) rfl))⟩
theorem s4_9 : Nx b4 9 (.aload_n 0) 1 10 := ⟨by decide +kernel, rfl⟩
theorem s4_10 : Nx b4 10 (.aload_n 0) 1 11 := ⟨by decide +kernel, rfl⟩
theorem k_19 {Z : State} {a0 : Array Value} (hw : HW1 Z a0) : FL Z a0 KT "com/example/primalcap/primalcap/MinCostFlow$Refinements" 3 1 0 := ⟨_, _, "com/example/primalcap/primalcap/MinCostFlow$Refinements", "this$0", "Lcom/example/primalcap/primalcap/MinCostFlow;", "", rfl, rfl, (Or.inl (hw _ (List.mem_of_getElem? (i := 44) rfl)))⟩
theorem s4_11 : Nx b4 11 (.getfield 3) 3 14 := ⟨by decide +kernel, rfl⟩
theorem k_20 {Z : State} {a0 : Array Value} (hw : HW1 Z a0) : FL Z a0 KT "com/example/primalcap/primalcap/MinCostFlow$Refinements" 15 0 5 := ⟨_, _, "com/example/primalcap/primalcap/MinCostFlow", "nodes", "I", "com/example/primalcap/primalcap/MinCostFlow", rfl, rfl, (Or.inr (hw _ (List.mem_of_getElem? (i := 47) rfl)))⟩
theorem s4_14 : Nx b4 14 (.getfield 15) 3 17 := ⟨by decide +kernel, rfl⟩
theorem s4_17 : Nx b4 17 (.iconst 1) 1 18 := ⟨by decide +kernel, rfl⟩
theorem s4_18 : Nx b4 18 (.iadd) 1 19 := ⟨by decide +kernel, rfl⟩
theorem s4_19 : Nx b4 19 (.newarray .int) 2 21 := ⟨by decide +kernel, rfl⟩
theorem k_21 {Z : State} {a0 : Array Value} (hw : HW1 Z a0) : AL Z a0 .int := (hw _ (List.mem_of_getElem? (i := 9) rfl))
theorem k_22 {Z : State} {a0 : Array Value} (hw : HW1 Z a0) : PL Z a0 KT "com/example/primalcap/primalcap/MinCostFlow$Refinements" "<init>" 19 1 1 (.array .int) := ⟨_, _, "com/example/primalcap/primalcap/MinCostFlow$Refinements", "first", "[I", "", rfl, rfl, (Or.inl (hw _ (List.mem_of_getElem? (i := 48) rfl))), (Or.inr ⟨(hw _ (List.mem_of_getElem? (i := 49) rfl)), rfl, rfl⟩), by decide +kernel⟩
theorem s4_21 : Nx b4 21 (.putfield 19) 3 24 := ⟨by decide +kernel, rfl⟩
theorem s4_24 : Nx b4 24 (.aload_n 0) 1 25 := ⟨by decide +kernel, rfl⟩
theorem s4_25 : Nx b4 25 (.aload_n 0) 1 26 := ⟨by decide +kernel, rfl⟩
theorem s4_26 : Nx b4 26 (.getfield 3) 3 29 := ⟨by decide +kernel, rfl⟩
theorem k_23 {Z : State} {a0 : Array Value} (hw : HW1 Z a0) : FL Z a0 KT "com/example/primalcap/primalcap/MinCostFlow$Refinements" 23 0 7 := ⟨_, _, "com/example/primalcap/primalcap/MinCostFlow", "edges", "I", "com/example/primalcap/primalcap/MinCostFlow", rfl, rfl, (Or.inr (hw _ (List.mem_of_getElem? (i := 50) rfl)))⟩
theorem s4_29 : Nx b4 29 (.getfield 23) 3 32 := ⟨by decide +kernel, rfl⟩
theorem s4_32 : Nx b4 32 (.newarray .int) 2 34 := ⟨by decide +kernel, rfl⟩
theorem k_24 {Z : State} {a0 : Array Value} (hw : HW1 Z a0) : PL Z a0 KT "com/example/primalcap/primalcap/MinCostFlow$Refinements" "<init>" 26 1 2 (.array .int) := ⟨_, _, "com/example/primalcap/primalcap/MinCostFlow$Refinements", "arcOf", "[I", "", rfl, rfl, (Or.inl (hw _ (List.mem_of_getElem? (i := 51) rfl))), (Or.inr ⟨(hw _ (List.mem_of_getElem? (i := 52) rfl)), rfl, rfl⟩), by decide +kernel⟩
theorem s4_34 : Nx b4 34 (.putfield 26) 3 37 := ⟨by decide +kernel, rfl⟩
theorem s4_37 : Nx b4 37 (.aload_n 0) 1 38 := ⟨by decide +kernel, rfl⟩
theorem s4_38 : Nx b4 38 (.aload_n 0) 1 39 := ⟨by decide +kernel, rfl⟩
theorem s4_39 : Nx b4 39 (.getfield 3) 3 42 := ⟨by decide +kernel, rfl⟩
theorem s4_42 : Nx b4 42 (.getfield 15) 3 45 := ⟨by decide +kernel, rfl⟩
theorem s4_45 : Nx b4 45 (.i2l) 1 46 := ⟨by decide +kernel, rfl⟩
theorem s4_46 : Nx b4 46 (.lconst 1) 1 47 := ⟨by decide +kernel, rfl⟩
theorem s4_47 : Nx b4 47 (.ladd) 1 48 := ⟨by decide +kernel, rfl⟩
theorem k_25 {Z : State} {a0 : Array Value} (hw : HW1 Z a0) : PL Z a0 KT "com/example/primalcap/primalcap/MinCostFlow$Refinements" "<init>" 29 1 3 .long := ⟨_, _, "com/example/primalcap/primalcap/MinCostFlow$Refinements", "multiplier", "J", "", rfl, rfl, (Or.inl (hw _ (List.mem_of_getElem? (i := 53) rfl))), (Or.inr ⟨(hw _ (List.mem_of_getElem? (i := 54) rfl)), rfl, rfl⟩), by decide +kernel⟩
theorem s4_48 : Nx b4 48 (.putfield 29) 3 51 := ⟨by decide +kernel, rfl⟩
theorem s4_51 : Nx b4 51 (.aload_n 0) 1 52 := ⟨by decide +kernel, rfl⟩
theorem s4_52 : Nx b4 52 (.aload_n 0) 1 53 := ⟨by decide +kernel, rfl⟩
theorem s4_53 : Nx b4 53 (.getfield 3) 3 56 := ⟨by decide +kernel, rfl⟩
theorem s4_56 : Nx b4 56 (.getfield 15) 3 59 := ⟨by decide +kernel, rfl⟩
theorem s4_59 : Nx b4 59 (.newarray .long) 2 61 := ⟨by decide +kernel, rfl⟩
theorem k_26 {Z : State} {a0 : Array Value} (hw : HW1 Z a0) : AL Z a0 .long := (hw _ (List.mem_of_getElem? (i := 14) rfl))
theorem k_27 {Z : State} {a0 : Array Value} (hw : HW1 Z a0) : PL Z a0 KT "com/example/primalcap/primalcap/MinCostFlow$Refinements" "<init>" 33 1 4 (.array .long) := ⟨_, _, "com/example/primalcap/primalcap/MinCostFlow$Refinements", "price", "[J", "", rfl, rfl, (Or.inl (hw _ (List.mem_of_getElem? (i := 55) rfl))), (Or.inr ⟨(hw _ (List.mem_of_getElem? (i := 56) rfl)), rfl, rfl⟩), by decide +kernel⟩
theorem s4_61 : Nx b4 61 (.putfield 33) 3 64 := ⟨by decide +kernel, rfl⟩
theorem s4_64 : Nx b4 64 (.aload_n 0) 1 65 := ⟨by decide +kernel, rfl⟩
theorem s4_65 : Nx b4 65 (.aload_n 0) 1 66 := ⟨by decide +kernel, rfl⟩
theorem s4_66 : Nx b4 66 (.getfield 3) 3 69 := ⟨by decide +kernel, rfl⟩
theorem s4_69 : Nx b4 69 (.getfield 15) 3 72 := ⟨by decide +kernel, rfl⟩
theorem s4_72 : Nx b4 72 (.newarray .long) 2 74 := ⟨by decide +kernel, rfl⟩
theorem k_28 {Z : State} {a0 : Array Value} (hw : HW1 Z a0) : PL Z a0 KT "com/example/primalcap/primalcap/MinCostFlow$Refinements" "<init>" 37 1 5 (.array .long) := ⟨_, _, "com/example/primalcap/primalcap/MinCostFlow$Refinements", "excess", "[J", "", rfl, rfl, (Or.inl (hw _ (List.mem_of_getElem? (i := 57) rfl))), (Or.inr ⟨(hw _ (List.mem_of_getElem? (i := 58) rfl)), rfl, rfl⟩), by decide +kernel⟩
theorem s4_74 : Nx b4 74 (.putfield 37) 3 77 := ⟨by decide +kernel, rfl⟩
theorem s4_77 : Nx b4 77 (.aload_n 0) 1 78 := ⟨by decide +kernel, rfl⟩
theorem s4_78 : Nx b4 78 (.aload_n 0) 1 79 := ⟨by decide +kernel, rfl⟩
theorem s4_79 : Nx b4 79 (.getfield 3) 3 82 := ⟨by decide +kernel, rfl⟩
theorem s4_82 : Nx b4 82 (.getfield 15) 3 85 := ⟨by decide +kernel, rfl⟩
theorem s4_85 : Nx b4 85 (.newarray .int) 2 87 := ⟨by decide +kernel, rfl⟩
theorem k_29 {Z : State} {a0 : Array Value} (hw : HW1 Z a0) : PL Z a0 KT "com/example/primalcap/primalcap/MinCostFlow$Refinements" "<init>" 40 1 6 (.array .int) := ⟨_, _, "com/example/primalcap/primalcap/MinCostFlow$Refinements", "current", "[I", "", rfl, rfl, (Or.inl (hw _ (List.mem_of_getElem? (i := 59) rfl))), (Or.inr ⟨(hw _ (List.mem_of_getElem? (i := 60) rfl)), rfl, rfl⟩), by decide +kernel⟩
theorem s4_87 : Nx b4 87 (.putfield 40) 3 90 := ⟨by decide +kernel, rfl⟩
theorem s4_90 : Nx b4 90 (.aload_n 0) 1 91 := ⟨by decide +kernel, rfl⟩
theorem s4_91 : Nx b4 91 (.aload_n 0) 1 92 := ⟨by decide +kernel, rfl⟩
theorem s4_92 : Nx b4 92 (.getfield 3) 3 95 := ⟨by decide +kernel, rfl⟩
theorem s4_95 : Nx b4 95 (.getfield 15) 3 98 := ⟨by decide +kernel, rfl⟩
theorem s4_98 : Nx b4 98 (.newarray .int) 2 100 := ⟨by decide +kernel, rfl⟩
theorem k_30 {Z : State} {a0 : Array Value} (hw : HW1 Z a0) : PL Z a0 KT "com/example/primalcap/primalcap/MinCostFlow$Refinements" "<init>" 43 1 7 (.array .int) := ⟨_, _, "com/example/primalcap/primalcap/MinCostFlow$Refinements", "queue", "[I", "", rfl, rfl, (Or.inl (hw _ (List.mem_of_getElem? (i := 61) rfl))), (Or.inr ⟨(hw _ (List.mem_of_getElem? (i := 62) rfl)), rfl, rfl⟩), by decide +kernel⟩
theorem s4_100 : Nx b4 100 (.putfield 43) 3 103 := ⟨by decide +kernel, rfl⟩
theorem s4_103 : Nx b4 103 (.iconst 2) 1 104 := ⟨by decide +kernel, rfl⟩
theorem s4_104 : Nx b4 104 (.aload_n 1) 1 105 := ⟨by decide +kernel, rfl⟩
theorem s4_105 : Nx b4 105 (.getfield 23) 3 108 := ⟨by decide +kernel, rfl⟩
theorem s4_108 : Nx b4 108 (.imul) 1 109 := ⟨by decide +kernel, rfl⟩
theorem s4_109 : Nx b4 109 (.istore_n 2) 1 110 := ⟨by decide +kernel, rfl⟩
theorem s4_110 : Nx b4 110 (.aload_n 0) 1 111 := ⟨by decide +kernel, rfl⟩
theorem s4_111 : Nx b4 111 (.iload_n 2) 1 112 := ⟨by decide +kernel, rfl⟩
theorem s4_112 : Nx b4 112 (.newarray .int) 2 114 := ⟨by decide +kernel, rfl⟩
theorem k_31 {Z : State} {a0 : Array Value} (hw : HW1 Z a0) : PL Z a0 KT "com/example/primalcap/primalcap/MinCostFlow$Refinements" "<init>" 46 1 8 (.array .int) := ⟨_, _, "com/example/primalcap/primalcap/MinCostFlow$Refinements", "to", "[I", "", rfl, rfl, (Or.inl (hw _ (List.mem_of_getElem? (i := 63) rfl))), (Or.inr ⟨(hw _ (List.mem_of_getElem? (i := 64) rfl)), rfl, rfl⟩), by decide +kernel⟩
theorem s4_114 : Nx b4 114 (.putfield 46) 3 117 := ⟨by decide +kernel, rfl⟩
theorem s4_117 : Nx b4 117 (.aload_n 0) 1 118 := ⟨by decide +kernel, rfl⟩
theorem s4_118 : Nx b4 118 (.iload_n 2) 1 119 := ⟨by decide +kernel, rfl⟩
theorem s4_119 : Nx b4 119 (.newarray .int) 2 121 := ⟨by decide +kernel, rfl⟩
theorem k_32 {Z : State} {a0 : Array Value} (hw : HW1 Z a0) : PL Z a0 KT "com/example/primalcap/primalcap/MinCostFlow$Refinements" "<init>" 49 1 9 (.array .int) := ⟨_, _, "com/example/primalcap/primalcap/MinCostFlow$Refinements", "reverse", "[I", "", rfl, rfl, (Or.inl (hw _ (List.mem_of_getElem? (i := 65) rfl))), (Or.inr ⟨(hw _ (List.mem_of_getElem? (i := 66) rfl)), rfl, rfl⟩), by decide +kernel⟩
theorem s4_121 : Nx b4 121 (.putfield 49) 3 124 := ⟨by decide +kernel, rfl⟩
theorem s4_124 : Nx b4 124 (.aload_n 0) 1 125 := ⟨by decide +kernel, rfl⟩
theorem s4_125 : Nx b4 125 (.iload_n 2) 1 126 := ⟨by decide +kernel, rfl⟩
theorem s4_126 : Nx b4 126 (.newarray .long) 2 128 := ⟨by decide +kernel, rfl⟩
theorem k_33 {Z : State} {a0 : Array Value} (hw : HW1 Z a0) : PL Z a0 KT "com/example/primalcap/primalcap/MinCostFlow$Refinements" "<init>" 52 1 10 (.array .long) := ⟨_, _, "com/example/primalcap/primalcap/MinCostFlow$Refinements", "residual", "[J", "", rfl, rfl, (Or.inl (hw _ (List.mem_of_getElem? (i := 67) rfl))), (Or.inr ⟨(hw _ (List.mem_of_getElem? (i := 68) rfl)), rfl, rfl⟩), by decide +kernel⟩
theorem s4_128 : Nx b4 128 (.putfield 52) 3 131 := ⟨by decide +kernel, rfl⟩
theorem s4_131 : Nx b4 131 (.aload_n 0) 1 132 := ⟨by decide +kernel, rfl⟩
theorem s4_132 : Nx b4 132 (.iload_n 2) 1 133 := ⟨by decide +kernel, rfl⟩
theorem s4_133 : Nx b4 133 (.newarray .long) 2 135 := ⟨by decide +kernel, rfl⟩
theorem k_34 {Z : State} {a0 : Array Value} (hw : HW1 Z a0) : PL Z a0 KT "com/example/primalcap/primalcap/MinCostFlow$Refinements" "<init>" 55 1 11 (.array .long) := ⟨_, _, "com/example/primalcap/primalcap/MinCostFlow$Refinements", "arcCost", "[J", "", rfl, rfl, (Or.inl (hw _ (List.mem_of_getElem? (i := 69) rfl))), (Or.inr ⟨(hw _ (List.mem_of_getElem? (i := 70) rfl)), rfl, rfl⟩), by decide +kernel⟩
theorem s4_135 : Nx b4 135 (.putfield 55) 3 138 := ⟨by decide +kernel, rfl⟩
theorem s4_138 : Nx b4 138 (.iconst 0) 1 139 := ⟨by decide +kernel, rfl⟩
theorem s4_139 : Nx b4 139 (.istore_n 3) 1 140 := ⟨by decide +kernel, rfl⟩
theorem s4_140 : Nx b4 140 (.iload_n 3) 1 141 := ⟨by decide +kernel, rfl⟩
theorem s4_141 : Nx b4 141 (.aload_n 1) 1 142 := ⟨by decide +kernel, rfl⟩
theorem s4_142 : Nx b4 142 (.getfield 23) 3 145 := ⟨by decide +kernel, rfl⟩
theorem s4_145 : Bx b4 145 (.if_icmp .ge) 188 148 := ⟨(43), by decide +kernel, by decide, by decide, rfl⟩
theorem s4_148 : Nx b4 148 (.aload_n 0) 1 149 := ⟨by decide +kernel, rfl⟩
theorem k_35 {Z : State} {a0 : Array Value} (hw : HW1 Z a0) : FL Z a0 KT "com/example/primalcap/primalcap/MinCostFlow$Refinements" 19 1 1 := ⟨_, _, "com/example/primalcap/primalcap/MinCostFlow$Refinements", "first", "[I", "", rfl, rfl, (Or.inl (hw _ (List.mem_of_getElem? (i := 48) rfl)))⟩
theorem s4_149 : Nx b4 149 (.getfield 19) 3 152 := ⟨by decide +kernel, rfl⟩
theorem s4_152 : Nx b4 152 (.aload_n 1) 1 153 := ⟨by decide +kernel, rfl⟩
theorem k_36 {Z : State} {a0 : Array Value} (hw : HW1 Z a0) : FL Z a0 KT "com/example/primalcap/primalcap/MinCostFlow$Refinements" 58 0 0 := ⟨_, _, "com/example/primalcap/primalcap/MinCostFlow", "tail", "[I", "com/example/primalcap/primalcap/MinCostFlow", rfl, rfl, (Or.inr (hw _ (List.mem_of_getElem? (i := 71) rfl)))⟩
theorem s4_153 : Nx b4 153 (.getfield 58) 3 156 := ⟨by decide +kernel, rfl⟩
theorem s4_156 : Nx b4 156 (.iload_n 3) 1 157 := ⟨by decide +kernel, rfl⟩
theorem s4_157 : Nx b4 157 (.iaload) 1 158 := ⟨by decide +kernel, rfl⟩
theorem s4_158 : Nx b4 158 (.iconst 1) 1 159 := ⟨by decide +kernel, rfl⟩
theorem s4_159 : Nx b4 159 (.iadd) 1 160 := ⟨by decide +kernel, rfl⟩
theorem s4_160 : Nx b4 160 (.dup2) 1 161 := ⟨by decide +kernel, rfl⟩
theorem s4_161 : Nx b4 161 (.iaload) 1 162 := ⟨by decide +kernel, rfl⟩
theorem s4_162 : Nx b4 162 (.iconst 1) 1 163 := ⟨by decide +kernel, rfl⟩
theorem s4_163 : Nx b4 163 (.iadd) 1 164 := ⟨by decide +kernel, rfl⟩
theorem s4_164 : Nx b4 164 (.iastore) 1 165 := ⟨by decide +kernel, rfl⟩
theorem s4_165 : Nx b4 165 (.aload_n 0) 1 166 := ⟨by decide +kernel, rfl⟩
theorem s4_166 : Nx b4 166 (.getfield 19) 3 169 := ⟨by decide +kernel, rfl⟩
theorem s4_169 : Nx b4 169 (.aload_n 1) 1 170 := ⟨by decide +kernel, rfl⟩
theorem k_37 {Z : State} {a0 : Array Value} (hw : HW1 Z a0) : FL Z a0 KT "com/example/primalcap/primalcap/MinCostFlow$Refinements" 61 0 1 := ⟨_, _, "com/example/primalcap/primalcap/MinCostFlow", "head", "[I", "com/example/primalcap/primalcap/MinCostFlow", rfl, rfl, (Or.inr (hw _ (List.mem_of_getElem? (i := 72) rfl)))⟩
theorem s4_170 : Nx b4 170 (.getfield 61) 3 173 := ⟨by decide +kernel, rfl⟩
theorem s4_173 : Nx b4 173 (.iload_n 3) 1 174 := ⟨by decide +kernel, rfl⟩
theorem s4_174 : Nx b4 174 (.iaload) 1 175 := ⟨by decide +kernel, rfl⟩
theorem s4_175 : Nx b4 175 (.iconst 1) 1 176 := ⟨by decide +kernel, rfl⟩
theorem s4_176 : Nx b4 176 (.iadd) 1 177 := ⟨by decide +kernel, rfl⟩
theorem s4_177 : Nx b4 177 (.dup2) 1 178 := ⟨by decide +kernel, rfl⟩
theorem s4_178 : Nx b4 178 (.iaload) 1 179 := ⟨by decide +kernel, rfl⟩
theorem s4_179 : Nx b4 179 (.iconst 1) 1 180 := ⟨by decide +kernel, rfl⟩
theorem s4_180 : Nx b4 180 (.iadd) 1 181 := ⟨by decide +kernel, rfl⟩
theorem s4_181 : Nx b4 181 (.iastore) 1 182 := ⟨by decide +kernel, rfl⟩
theorem s4_182 : Nx b4 182 (.iinc 3 1) 3 185 := ⟨by decide +kernel, rfl⟩
theorem s4_185 : Bx b4 185 (.goto) 140 188 := ⟨(-45), by decide +kernel, by decide, by decide, rfl⟩
theorem s4_188 : Nx b4 188 (.iconst 0) 1 189 := ⟨by decide +kernel, rfl⟩
theorem s4_189 : Nx b4 189 (.istore_n 3) 1 190 := ⟨by decide +kernel, rfl⟩
theorem s4_190 : Nx b4 190 (.iload_n 3) 1 191 := ⟨by decide +kernel, rfl⟩
theorem s4_191 : Nx b4 191 (.aload_n 1) 1 192 := ⟨by decide +kernel, rfl⟩
theorem s4_192 : Nx b4 192 (.getfield 15) 3 195 := ⟨by decide +kernel, rfl⟩
theorem s4_195 : Bx b4 195 (.if_icmp .ge) 221 198 := ⟨(26), by decide +kernel, by decide, by decide, rfl⟩
theorem s4_198 : Nx b4 198 (.aload_n 0) 1 199 := ⟨by decide +kernel, rfl⟩
theorem s4_199 : Nx b4 199 (.getfield 19) 3 202 := ⟨by decide +kernel, rfl⟩
theorem s4_202 : Nx b4 202 (.iload_n 3) 1 203 := ⟨by decide +kernel, rfl⟩
theorem s4_203 : Nx b4 203 (.iconst 1) 1 204 := ⟨by decide +kernel, rfl⟩
theorem s4_204 : Nx b4 204 (.iadd) 1 205 := ⟨by decide +kernel, rfl⟩
theorem s4_205 : Nx b4 205 (.dup2) 1 206 := ⟨by decide +kernel, rfl⟩
theorem s4_206 : Nx b4 206 (.iaload) 1 207 := ⟨by decide +kernel, rfl⟩
theorem s4_207 : Nx b4 207 (.aload_n 0) 1 208 := ⟨by decide +kernel, rfl⟩
theorem s4_208 : Nx b4 208 (.getfield 19) 3 211 := ⟨by decide +kernel, rfl⟩
theorem s4_211 : Nx b4 211 (.iload_n 3) 1 212 := ⟨by decide +kernel, rfl⟩
theorem s4_212 : Nx b4 212 (.iaload) 1 213 := ⟨by decide +kernel, rfl⟩
theorem s4_213 : Nx b4 213 (.iadd) 1 214 := ⟨by decide +kernel, rfl⟩
theorem s4_214 : Nx b4 214 (.iastore) 1 215 := ⟨by decide +kernel, rfl⟩
theorem s4_215 : Nx b4 215 (.iinc 3 1) 3 218 := ⟨by decide +kernel, rfl⟩
theorem s4_218 : Bx b4 218 (.goto) 190 221 := ⟨(-28), by decide +kernel, by decide, by decide, rfl⟩
theorem s4_221 : Nx b4 221 (.aload_n 0) 1 222 := ⟨by decide +kernel, rfl⟩
theorem s4_222 : Nx b4 222 (.getfield 19) 3 225 := ⟨by decide +kernel, rfl⟩
theorem s4_225 : Nx b4 225 (.aload_n 1) 1 226 := ⟨by decide +kernel, rfl⟩
theorem s4_226 : Nx b4 226 (.getfield 15) 3 229 := ⟨by decide +kernel, rfl⟩
theorem k_38 {Z : State} {a0 : Array Value} (hw : HW1 Z a0) : SL Z a0 "com/example/primalcap/primalcap/MinCostFlow$Refinements" 64 y5 b5 3 (some (.array .int)) 2 := ⟨(hw _ (List.mem_of_getElem? (i := 73) rfl)), (hw _ (List.mem_of_getElem? (i := 74) rfl)), (hw _ (List.mem_of_getElem? (i := 75) rfl)), (hw _ (List.mem_of_getElem? (i := 76) rfl)), ⟨by decide, by decide⟩, pd_0⟩
theorem s4_229 : Nx b4 229 (.invokestatic 64) 3 232 := ⟨by decide +kernel, rfl⟩
theorem s4_232 : Nx b4 232 (.astore_n 3) 1 233 := ⟨by decide +kernel, rfl⟩
theorem s4_233 : Nx b4 233 (.iconst 0) 1 234 := ⟨by decide +kernel, rfl⟩
theorem s4_234 : Nx b4 234 (.istore 4) 2 236 := ⟨by decide +kernel, rfl⟩
theorem s4_236 : Nx b4 236 (.iload 4) 2 238 := ⟨by decide +kernel, rfl⟩
theorem s4_238 : Nx b4 238 (.aload_n 1) 1 239 := ⟨by decide +kernel, rfl⟩
theorem s4_239 : Nx b4 239 (.getfield 23) 3 242 := ⟨by decide +kernel, rfl⟩
theorem s4_242 : Bx b4 242 (.if_icmp .ge) 425 245 := ⟨(183), by decide +kernel, by decide, by decide, rfl⟩
theorem s4_245 : Nx b4 245 (.aload_n 3) 1 246 := ⟨by decide +kernel, rfl⟩
theorem s4_246 : Nx b4 246 (.aload_n 1) 1 247 := ⟨by decide +kernel, rfl⟩
theorem s4_247 : Nx b4 247 (.getfield 58) 3 250 := ⟨by decide +kernel, rfl⟩
theorem s4_250 : Nx b4 250 (.iload 4) 2 252 := ⟨by decide +kernel, rfl⟩
theorem s4_252 : Nx b4 252 (.iaload) 1 253 := ⟨by decide +kernel, rfl⟩
theorem s4_253 : Nx b4 253 (.dup2) 1 254 := ⟨by decide +kernel, rfl⟩
theorem s4_254 : Nx b4 254 (.iaload) 1 255 := ⟨by decide +kernel, rfl⟩
theorem s4_255 : Nx b4 255 (.dup_x2) 1 256 := ⟨by decide +kernel, rfl⟩
theorem s4_256 : Nx b4 256 (.iconst 1) 1 257 := ⟨by decide +kernel, rfl⟩
theorem s4_257 : Nx b4 257 (.iadd) 1 258 := ⟨by decide +kernel, rfl⟩
theorem s4_258 : Nx b4 258 (.iastore) 1 259 := ⟨by decide +kernel, rfl⟩
theorem s4_259 : Nx b4 259 (.istore 5) 2 261 := ⟨by decide +kernel, rfl⟩
theorem s4_261 : Nx b4 261 (.aload_n 3) 1 262 := ⟨by decide +kernel, rfl⟩
theorem s4_262 : Nx b4 262 (.aload_n 1) 1 263 := ⟨by decide +kernel, rfl⟩
theorem s4_263 : Nx b4 263 (.getfield 61) 3 266 := ⟨by decide +kernel, rfl⟩
theorem s4_266 : Nx b4 266 (.iload 4) 2 268 := ⟨by decide +kernel, rfl⟩
theorem s4_268 : Nx b4 268 (.iaload) 1 269 := ⟨by decide +kernel, rfl⟩
theorem s4_269 : Nx b4 269 (.dup2) 1 270 := ⟨by decide +kernel, rfl⟩
theorem s4_270 : Nx b4 270 (.iaload) 1 271 := ⟨by decide +kernel, rfl⟩
theorem s4_271 : Nx b4 271 (.dup_x2) 1 272 := ⟨by decide +kernel, rfl⟩
theorem s4_272 : Nx b4 272 (.iconst 1) 1 273 := ⟨by decide +kernel, rfl⟩
theorem s4_273 : Nx b4 273 (.iadd) 1 274 := ⟨by decide +kernel, rfl⟩
theorem s4_274 : Nx b4 274 (.iastore) 1 275 := ⟨by decide +kernel, rfl⟩
theorem s4_275 : Nx b4 275 (.istore 6) 2 277 := ⟨by decide +kernel, rfl⟩
theorem s4_277 : Nx b4 277 (.aload_n 1) 1 278 := ⟨by decide +kernel, rfl⟩
theorem k_39 {Z : State} {a0 : Array Value} (hw : HW1 Z a0) : FL Z a0 KT "com/example/primalcap/primalcap/MinCostFlow$Refinements" 70 0 3 := ⟨_, _, "com/example/primalcap/primalcap/MinCostFlow", "cost", "[J", "com/example/primalcap/primalcap/MinCostFlow", rfl, rfl, (Or.inr (hw _ (List.mem_of_getElem? (i := 85) rfl)))⟩
theorem s4_278 : Nx b4 278 (.getfield 70) 3 281 := ⟨by decide +kernel, rfl⟩
theorem s4_281 : Nx b4 281 (.iload 4) 2 283 := ⟨by decide +kernel, rfl⟩
theorem s4_283 : Nx b4 283 (.laload) 1 284 := ⟨by decide +kernel, rfl⟩
theorem s4_284 : Nx b4 284 (.aload_n 0) 1 285 := ⟨by decide +kernel, rfl⟩
theorem k_40 {Z : State} {a0 : Array Value} (hw : HW1 Z a0) : FL Z a0 KT "com/example/primalcap/primalcap/MinCostFlow$Refinements" 29 1 3 := ⟨_, _, "com/example/primalcap/primalcap/MinCostFlow$Refinements", "multiplier", "J", "", rfl, rfl, (Or.inl (hw _ (List.mem_of_getElem? (i := 53) rfl)))⟩
theorem s4_285 : Nx b4 285 (.getfield 29) 3 288 := ⟨by decide +kernel, rfl⟩
theorem pd_1 : ∀ sig, parseMethodDescriptor "(JJ)J" = some sig → 2 = sig.parameters.length := npOf (r := some .long) (ps := [.long, .long]) (by decide +kernel) rfl
theorem k_41 {Z : State} {a0 : Array Value} (hw : HW1 Z a0) : SL Z a0 "com/example/primalcap/primalcap/MinCostFlow$Refinements" 73 y7 b7 10 (some .long) 2 := ⟨(hw _ (List.mem_of_getElem? (i := 86) rfl)), (hw _ (List.mem_of_getElem? (i := 87) rfl)), (hw _ (List.mem_of_getElem? (i := 79) rfl)), (hw _ (List.mem_of_getElem? (i := 88) rfl)), ⟨by decide, by decide⟩, pd_1⟩
theorem s4_288 : Nx b4 288 (.invokestatic 73) 3 291 := ⟨by decide +kernel, rfl⟩
theorem s4_291 : Nx b4 291 (.lstore 7) 2 293 := ⟨by decide +kernel, rfl⟩
theorem s4_293 : Nx b4 293 (.aload_n 0) 1 294 := ⟨by decide +kernel, rfl⟩
theorem s4_294 : Nx b4 294 (.aload_n 0) 1 295 := ⟨by decide +kernel, rfl⟩
theorem k_42 {Z : State} {a0 : Array Value} (hw : HW1 Z a0) : FL Z a0 KT "com/example/primalcap/primalcap/MinCostFlow$Refinements" 79 1 12 := ⟨_, _, "com/example/primalcap/primalcap/MinCostFlow$Refinements", "largest", "J", "", rfl, rfl, (Or.inl (hw _ (List.mem_of_getElem? (i := 92) rfl)))⟩
theorem s4_295 : Nx b4 295 (.getfield 79) 3 298 := ⟨by decide +kernel, rfl⟩
theorem s4_298 : Nx b4 298 (.lload 7) 2 300 := ⟨by decide +kernel, rfl⟩
theorem pd_2 : ∀ sig, parseMethodDescriptor "(J)J" = some sig → 1 = sig.parameters.length := npOf (r := some .long) (ps := [.long]) (by decide +kernel) rfl
theorem k_43 {Z : State} {a0 : Array Value} (hw : HW1 Z a0) : SL Z a0 "com/example/primalcap/primalcap/MinCostFlow$Refinements" 82 y8 b8 2 (some .long) 1 := ⟨(hw _ (List.mem_of_getElem? (i := 94) rfl)), (hw _ (List.mem_of_getElem? (i := 90) rfl)), (hw _ (List.mem_of_getElem? (i := 79) rfl)), (hw _ (List.mem_of_getElem? (i := 91) rfl)), ⟨by decide, by decide⟩, pd_2⟩
theorem s4_300 : Nx b4 300 (.invokestatic 82) 3 303 := ⟨by decide +kernel, rfl⟩
theorem k_44 {Z : State} {a0 : Array Value} (hw : HW1 Z a0) : SL Z a0 "com/example/primalcap/primalcap/MinCostFlow$Refinements" 86 y9 b9 4 (some .long) 2 := ⟨(hw _ (List.mem_of_getElem? (i := 95) rfl)), (hw _ (List.mem_of_getElem? (i := 96) rfl)), (hw _ (List.mem_of_getElem? (i := 79) rfl)), (hw _ (List.mem_of_getElem? (i := 97) rfl)), ⟨by decide, by decide⟩, pd_1⟩
theorem s4_303 : Nx b4 303 (.invokestatic 86) 3 306 := ⟨by decide +kernel, rfl⟩
theorem k_45 {Z : State} {a0 : Array Value} (hw : HW1 Z a0) : PL Z a0 KT "com/example/primalcap/primalcap/MinCostFlow$Refinements" "<init>" 79 1 12 .long := ⟨_, _, "com/example/primalcap/primalcap/MinCostFlow$Refinements", "largest", "J", "", rfl, rfl, (Or.inl (hw _ (List.mem_of_getElem? (i := 92) rfl))), (Or.inl (hw _ (List.mem_of_getElem? (i := 93) rfl))), by decide +kernel⟩
theorem s4_306 : Nx b4 306 (.putfield 79) 3 309 := ⟨by decide +kernel, rfl⟩
theorem s4_309 : Nx b4 309 (.aload_n 0) 1 310 := ⟨by decide +kernel, rfl⟩
theorem k_46 {Z : State} {a0 : Array Value} (hw : HW1 Z a0) : FL Z a0 KT "com/example/primalcap/primalcap/MinCostFlow$Refinements" 46 1 8 := ⟨_, _, "com/example/primalcap/primalcap/MinCostFlow$Refinements", "to", "[I", "", rfl, rfl, (Or.inl (hw _ (List.mem_of_getElem? (i := 63) rfl)))⟩
theorem s4_310 : Nx b4 310 (.getfield 46) 3 313 := ⟨by decide +kernel, rfl⟩
theorem s4_313 : Nx b4 313 (.iload 5) 2 315 := ⟨by decide +kernel, rfl⟩
theorem s4_315 : Nx b4 315 (.aload_n 1) 1 316 := ⟨by decide +kernel, rfl⟩
theorem s4_316 : Nx b4 316 (.getfield 61) 3 319 := ⟨by decide +kernel, rfl⟩
theorem s4_319 : Nx b4 319 (.iload 4) 2 321 := ⟨by decide +kernel, rfl⟩
theorem s4_321 : Nx b4 321 (.iaload) 1 322 := ⟨by decide +kernel, rfl⟩
theorem s4_322 : Nx b4 322 (.iastore) 1 323 := ⟨by decide +kernel, rfl⟩
theorem s4_323 : Nx b4 323 (.aload_n 0) 1 324 := ⟨by decide +kernel, rfl⟩
theorem s4_324 : Nx b4 324 (.getfield 46) 3 327 := ⟨by decide +kernel, rfl⟩
theorem s4_327 : Nx b4 327 (.iload 6) 2 329 := ⟨by decide +kernel, rfl⟩
theorem s4_329 : Nx b4 329 (.aload_n 1) 1 330 := ⟨by decide +kernel, rfl⟩
theorem s4_330 : Nx b4 330 (.getfield 58) 3 333 := ⟨by decide +kernel, rfl⟩
theorem s4_333 : Nx b4 333 (.iload 4) 2 335 := ⟨by decide +kernel, rfl⟩
theorem s4_335 : Nx b4 335 (.iaload) 1 336 := ⟨by decide +kernel, rfl⟩
theorem s4_336 : Nx b4 336 (.iastore) 1 337 := ⟨by decide +kernel, rfl⟩
theorem s4_337 : Nx b4 337 (.aload_n 0) 1 338 := ⟨by decide +kernel, rfl⟩
theorem k_47 {Z : State} {a0 : Array Value} (hw : HW1 Z a0) : FL Z a0 KT "com/example/primalcap/primalcap/MinCostFlow$Refinements" 49 1 9 := ⟨_, _, "com/example/primalcap/primalcap/MinCostFlow$Refinements", "reverse", "[I", "", rfl, rfl, (Or.inl (hw _ (List.mem_of_getElem? (i := 65) rfl)))⟩
theorem s4_338 : Nx b4 338 (.getfield 49) 3 341 := ⟨by decide +kernel, rfl⟩
theorem s4_341 : Nx b4 341 (.iload 5) 2 343 := ⟨by decide +kernel, rfl⟩
theorem s4_343 : Nx b4 343 (.iload 6) 2 345 := ⟨by decide +kernel, rfl⟩
theorem s4_345 : Nx b4 345 (.iastore) 1 346 := ⟨by decide +kernel, rfl⟩
theorem s4_346 : Nx b4 346 (.aload_n 0) 1 347 := ⟨by decide +kernel, rfl⟩
theorem s4_347 : Nx b4 347 (.getfield 49) 3 350 := ⟨by decide +kernel, rfl⟩
theorem s4_350 : Nx b4 350 (.iload 6) 2 352 := ⟨by decide +kernel, rfl⟩
theorem s4_352 : Nx b4 352 (.iload 5) 2 354 := ⟨by decide +kernel, rfl⟩
theorem s4_354 : Nx b4 354 (.iastore) 1 355 := ⟨by decide +kernel, rfl⟩
theorem s4_355 : Nx b4 355 (.aload_n 0) 1 356 := ⟨by decide +kernel, rfl⟩
theorem k_48 {Z : State} {a0 : Array Value} (hw : HW1 Z a0) : FL Z a0 KT "com/example/primalcap/primalcap/MinCostFlow$Refinements" 52 1 10 := ⟨_, _, "com/example/primalcap/primalcap/MinCostFlow$Refinements", "residual", "[J", "", rfl, rfl, (Or.inl (hw _ (List.mem_of_getElem? (i := 67) rfl)))⟩
theorem s4_356 : Nx b4 356 (.getfield 52) 3 359 := ⟨by decide +kernel, rfl⟩
theorem s4_359 : Nx b4 359 (.iload 5) 2 361 := ⟨by decide +kernel, rfl⟩
theorem s4_361 : Nx b4 361 (.aload_n 1) 1 362 := ⟨by decide +kernel, rfl⟩
theorem k_49 {Z : State} {a0 : Array Value} (hw : HW1 Z a0) : FL Z a0 KT "com/example/primalcap/primalcap/MinCostFlow$Refinements" 89 0 2 := ⟨_, _, "com/example/primalcap/primalcap/MinCostFlow", "capacity", "[J", "com/example/primalcap/primalcap/MinCostFlow", rfl, rfl, (Or.inr (hw _ (List.mem_of_getElem? (i := 98) rfl)))⟩
theorem s4_362 : Nx b4 362 (.getfield 89) 3 365 := ⟨by decide +kernel, rfl⟩
theorem s4_365 : Nx b4 365 (.iload 4) 2 367 := ⟨by decide +kernel, rfl⟩
theorem s4_367 : Nx b4 367 (.laload) 1 368 := ⟨by decide +kernel, rfl⟩
theorem s4_368 : Nx b4 368 (.aload_n 1) 1 369 := ⟨by decide +kernel, rfl⟩
theorem k_50 {Z : State} {a0 : Array Value} (hw : HW1 Z a0) : FL Z a0 KT "com/example/primalcap/primalcap/MinCostFlow$Refinements" 92 0 4 := ⟨_, _, "com/example/primalcap/primalcap/MinCostFlow", "flow", "[J", "com/example/primalcap/primalcap/MinCostFlow", rfl, rfl, (Or.inr (hw _ (List.mem_of_getElem? (i := 99) rfl)))⟩
theorem s4_369 : Nx b4 369 (.getfield 92) 3 372 := ⟨by decide +kernel, rfl⟩
theorem s4_372 : Nx b4 372 (.iload 4) 2 374 := ⟨by decide +kernel, rfl⟩
theorem s4_374 : Nx b4 374 (.laload) 1 375 := ⟨by decide +kernel, rfl⟩
theorem s4_375 : Nx b4 375 (.lsub) 1 376 := ⟨by decide +kernel, rfl⟩
theorem s4_376 : Nx b4 376 (.lastore) 1 377 := ⟨by decide +kernel, rfl⟩
theorem s4_377 : Nx b4 377 (.aload_n 0) 1 378 := ⟨by decide +kernel, rfl⟩
theorem s4_378 : Nx b4 378 (.getfield 52) 3 381 := ⟨by decide +kernel, rfl⟩
theorem s4_381 : Nx b4 381 (.iload 6) 2 383 := ⟨by decide +kernel, rfl⟩
theorem s4_383 : Nx b4 383 (.aload_n 1) 1 384 := ⟨by decide +kernel, rfl⟩
theorem s4_384 : Nx b4 384 (.getfield 92) 3 387 := ⟨by decide +kernel, rfl⟩
theorem s4_387 : Nx b4 387 (.iload 4) 2 389 := ⟨by decide +kernel, rfl⟩
theorem s4_389 : Nx b4 389 (.laload) 1 390 := ⟨by decide +kernel, rfl⟩
theorem s4_390 : Nx b4 390 (.lastore) 1 391 := ⟨by decide +kernel, rfl⟩
theorem s4_391 : Nx b4 391 (.aload_n 0) 1 392 := ⟨by decide +kernel, rfl⟩
theorem k_51 {Z : State} {a0 : Array Value} (hw : HW1 Z a0) : FL Z a0 KT "com/example/primalcap/primalcap/MinCostFlow$Refinements" 55 1 11 := ⟨_, _, "com/example/primalcap/primalcap/MinCostFlow$Refinements", "arcCost", "[J", "", rfl, rfl, (Or.inl (hw _ (List.mem_of_getElem? (i := 69) rfl)))⟩
theorem s4_392 : Nx b4 392 (.getfield 55) 3 395 := ⟨by decide +kernel, rfl⟩
theorem s4_395 : Nx b4 395 (.iload 5) 2 397 := ⟨by decide +kernel, rfl⟩
theorem s4_397 : Nx b4 397 (.lload 7) 2 399 := ⟨by decide +kernel, rfl⟩
theorem s4_399 : Nx b4 399 (.lastore) 1 400 := ⟨by decide +kernel, rfl⟩
theorem s4_400 : Nx b4 400 (.aload_n 0) 1 401 := ⟨by decide +kernel, rfl⟩
theorem s4_401 : Nx b4 401 (.getfield 55) 3 404 := ⟨by decide +kernel, rfl⟩
theorem s4_404 : Nx b4 404 (.iload 6) 2 406 := ⟨by decide +kernel, rfl⟩
theorem s4_406 : Nx b4 406 (.lload 7) 2 408 := ⟨by decide +kernel, rfl⟩
theorem s4_408 : Nx b4 408 (.lneg) 1 409 := ⟨by decide +kernel, rfl⟩
theorem s4_409 : Nx b4 409 (.lastore) 1 410 := ⟨by decide +kernel, rfl⟩
theorem s4_410 : Nx b4 410 (.aload_n 0) 1 411 := ⟨by decide +kernel, rfl⟩
theorem k_52 {Z : State} {a0 : Array Value} (hw : HW1 Z a0) : FL Z a0 KT "com/example/primalcap/primalcap/MinCostFlow$Refinements" 26 1 2 := ⟨_, _, "com/example/primalcap/primalcap/MinCostFlow$Refinements", "arcOf", "[I", "", rfl, rfl, (Or.inl (hw _ (List.mem_of_getElem? (i := 51) rfl)))⟩
theorem s4_411 : Nx b4 411 (.getfield 26) 3 414 := ⟨by decide +kernel, rfl⟩
theorem s4_414 : Nx b4 414 (.iload 4) 2 416 := ⟨by decide +kernel, rfl⟩
theorem s4_416 : Nx b4 416 (.iload 5) 2 418 := ⟨by decide +kernel, rfl⟩
theorem s4_418 : Nx b4 418 (.iastore) 1 419 := ⟨by decide +kernel, rfl⟩
theorem s4_419 : Nx b4 419 (.iinc 4 1) 3 422 := ⟨by decide +kernel, rfl⟩
theorem s4_422 : Bx b4 422 (.goto) 236 425 := ⟨(-186), by decide +kernel, by decide, by decide, rfl⟩
theorem s4_425 : Nx b4 425 (.aload_n 0) 1 426 := ⟨by decide +kernel, rfl⟩
theorem s4_426 : Nx b4 426 (.getfield 79) 3 429 := ⟨by decide +kernel, rfl⟩
theorem k_53 {Z : State} {a0 : Array Value} (hw : HW1 Z a0) : (Jvm.Cond.constantLong "com/example/primalcap/primalcap/MinCostFlow$Refinements" 95 (3)).before a0 Z = true := (hw _ (List.mem_of_getElem? (i := 100) rfl))
theorem s4_429 : Nx b4 429 (.ldc2_w 95) 3 432 := ⟨by decide +kernel, rfl⟩
theorem s4_432 : Nx b4 432 (.aload_n 0) 1 433 := ⟨by decide +kernel, rfl⟩
theorem s4_433 : Nx b4 433 (.getfield 29) 3 436 := ⟨by decide +kernel, rfl⟩
theorem s4_436 : Nx b4 436 (.lmul) 1 437 := ⟨by decide +kernel, rfl⟩
theorem s4_437 : Nx b4 437 (.invokestatic 73) 3 440 := ⟨by decide +kernel, rfl⟩
theorem s4_440 : Nx b4 440 (.aload_n 0) 1 441 := ⟨by decide +kernel, rfl⟩
theorem s4_441 : Nx b4 441 (.getfield 79) 3 444 := ⟨by decide +kernel, rfl⟩
theorem s4_444 : Nx b4 444 (.aload_n 0) 1 445 := ⟨by decide +kernel, rfl⟩
theorem s4_445 : Nx b4 445 (.getfield 29) 3 448 := ⟨by decide +kernel, rfl⟩
theorem s4_448 : Nx b4 448 (.ldiv) 1 449 := ⟨by decide +kernel, rfl⟩
theorem k_54 {Z : State} {a0 : Array Value} (hw : HW1 Z a0) : (Jvm.Cond.constantLong "com/example/primalcap/primalcap/MinCostFlow$Refinements" 97 (2)).before a0 Z = true := (hw _ (List.mem_of_getElem? (i := 101) rfl))
theorem s4_449 : Nx b4 449 (.ldc2_w 97) 3 452 := ⟨by decide +kernel, rfl⟩
theorem s4_452 : Nx b4 452 (.iload_n 2) 1 453 := ⟨by decide +kernel, rfl⟩
theorem s4_453 : Nx b4 453 (.i2l) 1 454 := ⟨by decide +kernel, rfl⟩
theorem s4_454 : Nx b4 454 (.lmul) 1 455 := ⟨by decide +kernel, rfl⟩
theorem s4_455 : Nx b4 455 (.invokestatic 73) 3 458 := ⟨by decide +kernel, rfl⟩
theorem k_55 {Z : State} {a0 : Array Value} (hw : HW1 Z a0) : SL Z a0 "com/example/primalcap/primalcap/MinCostFlow$Refinements" 99 y10 b10 6 (some .long) 2 := ⟨(hw _ (List.mem_of_getElem? (i := 102) rfl)), (hw _ (List.mem_of_getElem? (i := 103) rfl)), (hw _ (List.mem_of_getElem? (i := 79) rfl)), (hw _ (List.mem_of_getElem? (i := 104) rfl)), ⟨by decide, by decide⟩, pd_1⟩
theorem s4_458 : Nx b4 458 (.invokestatic 99) 3 461 := ⟨by decide +kernel, rfl⟩
theorem s4_461 : Nx b4 461 (.pop2) 1 462 := ⟨by decide +kernel, rfl⟩
theorem s4_462 : Nx b4 462 (.return_) 1 463 := ⟨by decide +kernel, rfl⟩
theorem s5_0 : Nx b5 0 (.iload_n 1) 1 1 := ⟨by decide +kernel, rfl⟩
theorem s5_1 : Nx b5 1 (.aload_n 0) 1 2 := ⟨by decide +kernel, rfl⟩
theorem s5_2 : Nx b5 2 (.arraylength) 1 3 := ⟨by decide +kernel, rfl⟩
theorem s5_3 : Bx b5 3 (.if_icmp .ne) 14 6 := ⟨(11), by decide +kernel, by decide, by decide, rfl⟩
theorem s5_6 : Nx b5 6 (.aload_n 0) 1 7 := ⟨by decide +kernel, rfl⟩
theorem s5_13 : Nx b5 13 (.areturn) 1 14 := ⟨by decide +kernel, rfl⟩
theorem s5_14 : Nx b5 14 (.iload_n 1) 1 15 := ⟨by decide +kernel, rfl⟩
theorem s5_15 : Nx b5 15 (.newarray .int) 2 17 := ⟨by decide +kernel, rfl⟩
theorem s5_17 : Nx b5 17 (.astore_n 2) 1 18 := ⟨by decide +kernel, rfl⟩
theorem s5_18 : Nx b5 18 (.aload_n 0) 1 19 := ⟨by decide +kernel, rfl⟩
theorem s5_19 : Nx b5 19 (.iconst 0) 1 20 := ⟨by decide +kernel, rfl⟩
theorem s5_20 : Nx b5 20 (.aload_n 2) 1 21 := ⟨by decide +kernel, rfl⟩
theorem s5_21 : Nx b5 21 (.iconst 0) 1 22 := ⟨by decide +kernel, rfl⟩
theorem s5_22 : Nx b5 22 (.aload_n 0) 1 23 := ⟨by decide +kernel, rfl⟩
theorem s5_23 : Nx b5 23 (.arraylength) 1 24 := ⟨by decide +kernel, rfl⟩
theorem s5_24 : Nx b5 24 (.iload_n 1) 1 25 := ⟨by decide +kernel, rfl⟩
theorem pd_3 : ∀ sig, parseMethodDescriptor "(II)I" = some sig → 2 = sig.parameters.length := npOf (r := some .int) (ps := [.int, .int]) (by decide +kernel) rfl
theorem k_56 {Z : State} {a0 : Array Value} (hw : HW1 Z a0) : SL Z a0 "java/util/Arrays" 304 y6 b6 2 (some .int) 2 := ⟨(hw _ (List.mem_of_getElem? (i := 77) rfl)), (hw _ (List.mem_of_getElem? (i := 78) rfl)), (hw _ (List.mem_of_getElem? (i := 79) rfl)), (hw _ (List.mem_of_getElem? (i := 80) rfl)), ⟨by decide, by decide⟩, pd_3⟩
theorem s5_25 : Nx b5 25 (.invokestatic 304) 3 28 := ⟨by decide +kernel, rfl⟩
theorem k_57 {Z : State} {a0 : Array Value} (hw : HW1 Z a0) : XL Z a0 "java/util/Arrays" 150 := ⟨(hw _ (List.mem_of_getElem? (i := 81) rfl)), (hw _ (List.mem_of_getElem? (i := 84) rfl)), (hw _ (List.mem_of_getElem? (i := 82) rfl)), (hw _ (List.mem_of_getElem? (i := 83) rfl))⟩
theorem s5_28 : Nx b5 28 (.invokestatic 150) 3 31 := ⟨by decide +kernel, rfl⟩
theorem s5_31 : Nx b5 31 (.aload_n 2) 1 32 := ⟨by decide +kernel, rfl⟩
theorem s5_32 : Nx b5 32 (.areturn) 1 33 := ⟨by decide +kernel, rfl⟩
theorem s6_0 : Nx b6 0 (.iload_n 0) 1 1 := ⟨by decide +kernel, rfl⟩
theorem s6_1 : Nx b6 1 (.iload_n 1) 1 2 := ⟨by decide +kernel, rfl⟩
theorem s6_2 : Bx b6 2 (.if_icmp .gt) 9 5 := ⟨(7), by decide +kernel, by decide, by decide, rfl⟩
theorem s6_5 : Nx b6 5 (.iload_n 0) 1 6 := ⟨by decide +kernel, rfl⟩
theorem s6_6 : Bx b6 6 (.goto) 10 9 := ⟨(4), by decide +kernel, by decide, by decide, rfl⟩
theorem s6_9 : Nx b6 9 (.iload_n 1) 1 10 := ⟨by decide +kernel, rfl⟩
theorem s6_10 : Nx b6 10 (.ireturn) 1 11 := ⟨by decide +kernel, rfl⟩
theorem s7_0 : Nx b7 0 (.lload_n 0) 1 1 := ⟨by decide +kernel, rfl⟩
theorem s7_1 : Nx b7 1 (.lload_n 2) 1 2 := ⟨by decide +kernel, rfl⟩
theorem s7_2 : Nx b7 2 (.lmul) 1 3 := ⟨by decide +kernel, rfl⟩
theorem s7_3 : Nx b7 3 (.lstore 4) 2 5 := ⟨by decide +kernel, rfl⟩
theorem s7_5 : Nx b7 5 (.lload_n 0) 1 6 := ⟨by decide +kernel, rfl⟩
theorem k_58 {Z : State} {a0 : Array Value} (hw : HW1 Z a0) : SL Z a0 "java/lang/Math" 122 y8 b8 2 (some .long) 1 := ⟨(hw _ (List.mem_of_getElem? (i := 89) rfl)), (hw _ (List.mem_of_getElem? (i := 90) rfl)), (hw _ (List.mem_of_getElem? (i := 79) rfl)), (hw _ (List.mem_of_getElem? (i := 91) rfl)), ⟨by decide, by decide⟩, pd_2⟩
theorem s7_6 : Nx b7 6 (.invokestatic 122) 3 9 := ⟨by decide +kernel, rfl⟩
theorem s7_9 : Nx b7 9 (.lstore 6) 2 11 := ⟨by decide +kernel, rfl⟩
theorem s7_11 : Nx b7 11 (.lload_n 2) 1 12 := ⟨by decide +kernel, rfl⟩
theorem s7_12 : Nx b7 12 (.invokestatic 122) 3 15 := ⟨by decide +kernel, rfl⟩
theorem s7_15 : Nx b7 15 (.lstore 8) 2 17 := ⟨by decide +kernel, rfl⟩
theorem s7_17 : Nx b7 17 (.lload 6) 2 19 := ⟨by decide +kernel, rfl⟩
theorem s7_19 : Nx b7 19 (.lload 8) 2 21 := ⟨by decide +kernel, rfl⟩
theorem s7_21 : Nx b7 21 (.lor) 1 22 := ⟨by decide +kernel, rfl⟩
theorem s7_22 : Nx b7 22 (.bipush 31) 2 24 := ⟨by decide +kernel, rfl⟩
theorem s7_24 : Nx b7 24 (.lushr) 1 25 := ⟨by decide +kernel, rfl⟩
theorem s7_25 : Nx b7 25 (.lconst 0) 1 26 := ⟨by decide +kernel, rfl⟩
theorem s7_26 : Nx b7 26 (.lcmp) 1 27 := ⟨by decide +kernel, rfl⟩
theorem s7_27 : Bx b7 27 (.ifCond .eq) 71 30 := ⟨(44), by decide +kernel, by decide, by decide, rfl⟩
theorem s7_30 : Nx b7 30 (.lload_n 2) 1 31 := ⟨by decide +kernel, rfl⟩
theorem s7_31 : Nx b7 31 (.lconst 0) 1 32 := ⟨by decide +kernel, rfl⟩
theorem s7_32 : Nx b7 32 (.lcmp) 1 33 := ⟨by decide +kernel, rfl⟩
theorem s7_33 : Bx b7 33 (.ifCond .eq) 45 36 := ⟨(12), by decide +kernel, by decide, by decide, rfl⟩
theorem s7_36 : Nx b7 36 (.lload 4) 2 38 := ⟨by decide +kernel, rfl⟩
theorem s7_38 : Nx b7 38 (.lload_n 2) 1 39 := ⟨by decide +kernel, rfl⟩
theorem s7_39 : Nx b7 39 (.ldiv) 1 40 := ⟨by decide +kernel, rfl⟩
theorem s7_40 : Nx b7 40 (.lload_n 0) 1 41 := ⟨by decide +kernel, rfl⟩
theorem s7_41 : Nx b7 41 (.lcmp) 1 42 := ⟨by decide +kernel, rfl⟩
theorem s7_42 : Bx b7 42 (.ifCond .ne) 61 45 := ⟨(19), by decide +kernel, by decide, by decide, rfl⟩
theorem s7_45 : Nx b7 45 (.lload_n 0) 1 46 := ⟨by decide +kernel, rfl⟩
theorem s7_49 : Nx b7 49 (.lcmp) 1 50 := ⟨by decide +kernel, rfl⟩
theorem s7_50 : Bx b7 50 (.ifCond .ne) 71 53 := ⟨(21), by decide +kernel, by decide, by decide, rfl⟩
theorem s7_53 : Nx b7 53 (.lload_n 2) 1 54 := ⟨by decide +kernel, rfl⟩
theorem s7_57 : Nx b7 57 (.lcmp) 1 58 := ⟨by decide +kernel, rfl⟩
theorem s7_58 : Bx b7 58 (.ifCond .ne) 71 61 := ⟨(13), by decide +kernel, by decide, by decide, rfl⟩
theorem s7_64 : Nx b7 64 (.dup) 1 65 := ⟨by decide +kernel, rfl⟩
theorem s7_71 : Nx b7 71 (.lload 4) 2 73 := ⟨by decide +kernel, rfl⟩
theorem s7_73 : Nx b7 73 (.lreturn) 1 74 := ⟨by decide +kernel, rfl⟩
theorem s8_0 : Nx b8 0 (.lload_n 0) 1 1 := ⟨by decide +kernel, rfl⟩
theorem s8_1 : Nx b8 1 (.lconst 0) 1 2 := ⟨by decide +kernel, rfl⟩
theorem s8_2 : Nx b8 2 (.lcmp) 1 3 := ⟨by decide +kernel, rfl⟩
theorem s8_3 : Bx b8 3 (.ifCond .ge) 11 6 := ⟨(8), by decide +kernel, by decide, by decide, rfl⟩
theorem s8_6 : Nx b8 6 (.lload_n 0) 1 7 := ⟨by decide +kernel, rfl⟩
theorem s8_7 : Nx b8 7 (.lneg) 1 8 := ⟨by decide +kernel, rfl⟩
theorem s8_8 : Bx b8 8 (.goto) 12 11 := ⟨(4), by decide +kernel, by decide, by decide, rfl⟩
theorem s8_11 : Nx b8 11 (.lload_n 0) 1 12 := ⟨by decide +kernel, rfl⟩
theorem s8_12 : Nx b8 12 (.lreturn) 1 13 := ⟨by decide +kernel, rfl⟩
theorem s9_0 : Nx b9 0 (.lload_n 0) 1 1 := ⟨by decide +kernel, rfl⟩
theorem s9_1 : Nx b9 1 (.lload_n 2) 1 2 := ⟨by decide +kernel, rfl⟩
theorem s9_2 : Nx b9 2 (.lcmp) 1 3 := ⟨by decide +kernel, rfl⟩
theorem s9_3 : Bx b9 3 (.ifCond .lt) 10 6 := ⟨(7), by decide +kernel, by decide, by decide, rfl⟩
theorem s9_6 : Nx b9 6 (.lload_n 0) 1 7 := ⟨by decide +kernel, rfl⟩
theorem s9_7 : Bx b9 7 (.goto) 11 10 := ⟨(4), by decide +kernel, by decide, by decide, rfl⟩
theorem s9_10 : Nx b9 10 (.lload_n 2) 1 11 := ⟨by decide +kernel, rfl⟩
theorem s9_11 : Nx b9 11 (.lreturn) 1 12 := ⟨by decide +kernel, rfl⟩
theorem s10_0 : Nx b10 0 (.lload_n 0) 1 1 := ⟨by decide +kernel, rfl⟩
theorem s10_1 : Nx b10 1 (.lload_n 2) 1 2 := ⟨by decide +kernel, rfl⟩
theorem s10_2 : Nx b10 2 (.ladd) 1 3 := ⟨by decide +kernel, rfl⟩
theorem s10_3 : Nx b10 3 (.lstore 4) 2 5 := ⟨by decide +kernel, rfl⟩
theorem s10_5 : Nx b10 5 (.lload_n 0) 1 6 := ⟨by decide +kernel, rfl⟩
theorem s10_6 : Nx b10 6 (.lload 4) 2 8 := ⟨by decide +kernel, rfl⟩
theorem s10_8 : Nx b10 8 (.lxor) 1 9 := ⟨by decide +kernel, rfl⟩
theorem s10_9 : Nx b10 9 (.lload_n 2) 1 10 := ⟨by decide +kernel, rfl⟩
theorem s10_10 : Nx b10 10 (.lload 4) 2 12 := ⟨by decide +kernel, rfl⟩
theorem s10_12 : Nx b10 12 (.lxor) 1 13 := ⟨by decide +kernel, rfl⟩
theorem s10_13 : Nx b10 13 (.land) 1 14 := ⟨by decide +kernel, rfl⟩
theorem s10_14 : Nx b10 14 (.lconst 0) 1 15 := ⟨by decide +kernel, rfl⟩
theorem s10_15 : Nx b10 15 (.lcmp) 1 16 := ⟨by decide +kernel, rfl⟩
theorem s10_16 : Bx b10 16 (.ifCond .ge) 29 19 := ⟨(13), by decide +kernel, by decide, by decide, rfl⟩
theorem s10_22 : Nx b10 22 (.dup) 1 23 := ⟨by decide +kernel, rfl⟩
theorem s10_29 : Nx b10 29 (.lload 4) 2 31 := ⟨by decide +kernel, rfl⟩
theorem s10_31 : Nx b10 31 (.lreturn) 1 32 := ⟨by decide +kernel, rfl⟩
theorem s11_0 : Nx b11 0 (.aload_n 0) 1 1 := ⟨by decide +kernel, rfl⟩
theorem s11_1 : Nx b11 1 (.getfield 79) 3 4 := ⟨by decide +kernel, rfl⟩
theorem s11_4 : Nx b11 4 (.lstore_n 1) 1 5 := ⟨by decide +kernel, rfl⟩
theorem s11_5 : Nx b11 5 (.lload_n 1) 1 6 := ⟨by decide +kernel, rfl⟩
theorem s11_6 : Nx b11 6 (.lconst 1) 1 7 := ⟨by decide +kernel, rfl⟩
theorem s11_7 : Nx b11 7 (.lcmp) 1 8 := ⟨by decide +kernel, rfl⟩
theorem s11_8 : Bx b11 8 (.ifCond .le) 42 11 := ⟨(34), by decide +kernel, by decide, by decide, rfl⟩
theorem s11_11 : Nx b11 11 (.lconst 1) 1 12 := ⟨by decide +kernel, rfl⟩
theorem s11_12 : Nx b11 12 (.lload_n 1) 1 13 := ⟨by decide +kernel, rfl⟩
theorem k_59 {Z : State} {a0 : Array Value} (hw : HW1 Z a0) : (Jvm.Cond.constantLong "com/example/primalcap/primalcap/MinCostFlow$Refinements" 102 (16)).before a0 Z = true := (hw _ (List.mem_of_getElem? (i := 110) rfl))
theorem s11_13 : Nx b11 13 (.ldc2_w 102) 3 16 := ⟨by decide +kernel, rfl⟩
theorem s11_16 : Nx b11 16 (.ldiv) 1 17 := ⟨by decide +kernel, rfl⟩
theorem s11_17 : Nx b11 17 (.invokestatic 86) 3 20 := ⟨by decide +kernel, rfl⟩
theorem s11_20 : Nx b11 20 (.lstore_n 1) 1 21 := ⟨by decide +kernel, rfl⟩
theorem s11_21 : Nx b11 21 (.aload_n 0) 1 22 := ⟨by decide +kernel, rfl⟩
theorem s11_22 : Nx b11 22 (.lload_n 1) 1 23 := ⟨by decide +kernel, rfl⟩
theorem pn_60 : plainName "com/example/primalcap/primalcap/MinCostFlow$Refinements" = true := by first | (simp [plainName, overriddenIn]; done) | decide +kernel
theorem pd_4 : ∀ sig, parseMethodDescriptor "(J)V" = some sig → 1 = sig.parameters.length := npOf (r := none) (ps := [.long]) (by decide +kernel) rfl
theorem k_61 {Z : State} {a0 : Array Value} (hw : HW1 Z a0) : ML Z a0 KT "com/example/primalcap/primalcap/MinCostFlow$Refinements" 104 1 y12 b12 5 none 1 := ⟨_, _, rfl, (hw _ (List.mem_of_getElem? (i := 111) rfl)), (hw _ (List.mem_of_getElem? (i := 113) rfl)), rfl, (hw _ (List.mem_of_getElem? (i := 112) rfl)), (hw _ (List.mem_of_getElem? (i := 40) rfl)), (hw _ (List.mem_of_getElem? (i := 114) rfl)), ⟨by decide, by decide⟩, pd_4⟩
theorem s11_23 : Nx b11 23 (.invokevirtual 104) 3 26 := ⟨by decide +kernel, rfl⟩
theorem s11_26 : Nx b11 26 (.lload_n 1) 1 27 := ⟨by decide +kernel, rfl⟩
theorem s11_27 : Nx b11 27 (.lconst 1) 1 28 := ⟨by decide +kernel, rfl⟩
theorem s11_28 : Nx b11 28 (.lcmp) 1 29 := ⟨by decide +kernel, rfl⟩
theorem s11_29 : Bx b11 29 (.ifCond .le) 5 32 := ⟨(-24), by decide +kernel, by decide, by decide, rfl⟩
theorem s11_32 : Nx b11 32 (.aload_n 0) 1 33 := ⟨by decide +kernel, rfl⟩
theorem s11_36 : Bx b11 36 (.ifCond .eq) 5 39 := ⟨(-31), by decide +kernel, by decide, by decide, rfl⟩
theorem s11_39 : Bx b11 39 (.goto) 42 42 := ⟨(3), by decide +kernel, by decide, by decide, rfl⟩
theorem s11_42 : Nx b11 42 (.iconst 0) 1 43 := ⟨by decide +kernel, rfl⟩
theorem s11_43 : Nx b11 43 (.istore_n 3) 1 44 := ⟨by decide +kernel, rfl⟩
theorem s11_44 : Nx b11 44 (.iload_n 3) 1 45 := ⟨by decide +kernel, rfl⟩
theorem s11_45 : Nx b11 45 (.aload_n 0) 1 46 := ⟨by decide +kernel, rfl⟩
theorem s11_46 : Nx b11 46 (.getfield 3) 3 49 := ⟨by decide +kernel, rfl⟩
theorem s11_49 : Nx b11 49 (.getfield 23) 3 52 := ⟨by decide +kernel, rfl⟩
theorem s11_52 : Bx b11 52 (.if_icmp .ge) 86 55 := ⟨(34), by decide +kernel, by decide, by decide, rfl⟩
theorem s11_55 : Nx b11 55 (.aload_n 0) 1 56 := ⟨by decide +kernel, rfl⟩
theorem s11_56 : Nx b11 56 (.getfield 3) 3 59 := ⟨by decide +kernel, rfl⟩
theorem s11_59 : Nx b11 59 (.getfield 92) 3 62 := ⟨by decide +kernel, rfl⟩
theorem s11_62 : Nx b11 62 (.iload_n 3) 1 63 := ⟨by decide +kernel, rfl⟩
theorem s11_63 : Nx b11 63 (.aload_n 0) 1 64 := ⟨by decide +kernel, rfl⟩
theorem s11_64 : Nx b11 64 (.getfield 52) 3 67 := ⟨by decide +kernel, rfl⟩
theorem s11_67 : Nx b11 67 (.aload_n 0) 1 68 := ⟨by decide +kernel, rfl⟩
theorem s11_68 : Nx b11 68 (.getfield 49) 3 71 := ⟨by decide +kernel, rfl⟩
theorem s11_71 : Nx b11 71 (.aload_n 0) 1 72 := ⟨by decide +kernel, rfl⟩
theorem s11_72 : Nx b11 72 (.getfield 26) 3 75 := ⟨by decide +kernel, rfl⟩
theorem s11_75 : Nx b11 75 (.iload_n 3) 1 76 := ⟨by decide +kernel, rfl⟩
theorem s11_76 : Nx b11 76 (.iaload) 1 77 := ⟨by decide +kernel, rfl⟩
theorem s11_77 : Nx b11 77 (.iaload) 1 78 := ⟨by decide +kernel, rfl⟩
theorem s11_78 : Nx b11 78 (.laload) 1 79 := ⟨by decide +kernel, rfl⟩
theorem s11_79 : Nx b11 79 (.lastore) 1 80 := ⟨by decide +kernel, rfl⟩
theorem s11_80 : Nx b11 80 (.iinc 3 1) 3 83 := ⟨by decide +kernel, rfl⟩
theorem s11_83 : Bx b11 83 (.goto) 44 86 := ⟨(-39), by decide +kernel, by decide, by decide, rfl⟩
theorem s11_86 : Nx b11 86 (.return_) 1 87 := ⟨by decide +kernel, rfl⟩
theorem s12_0 : Nx b12 0 (.iconst 0) 1 1 := ⟨by decide +kernel, rfl⟩
theorem s12_1 : Nx b12 1 (.istore_n 3) 1 2 := ⟨by decide +kernel, rfl⟩
theorem s12_2 : Nx b12 2 (.iload_n 3) 1 3 := ⟨by decide +kernel, rfl⟩
theorem s12_3 : Nx b12 3 (.aload_n 0) 1 4 := ⟨by decide +kernel, rfl⟩
theorem s12_4 : Nx b12 4 (.getfield 3) 3 7 := ⟨by decide +kernel, rfl⟩
theorem s12_7 : Nx b12 7 (.getfield 15) 3 10 := ⟨by decide +kernel, rfl⟩
theorem s12_10 : Bx b12 10 (.if_icmp .ge) 84 13 := ⟨(74), by decide +kernel, by decide, by decide, rfl⟩
theorem s12_13 : Nx b12 13 (.aload_n 0) 1 14 := ⟨by decide +kernel, rfl⟩
theorem s12_14 : Nx b12 14 (.getfield 19) 3 17 := ⟨by decide +kernel, rfl⟩
theorem s12_17 : Nx b12 17 (.iload_n 3) 1 18 := ⟨by decide +kernel, rfl⟩
theorem s12_18 : Nx b12 18 (.iaload) 1 19 := ⟨by decide +kernel, rfl⟩
theorem s12_19 : Nx b12 19 (.istore 4) 2 21 := ⟨by decide +kernel, rfl⟩
theorem s12_21 : Nx b12 21 (.iload 4) 2 23 := ⟨by decide +kernel, rfl⟩
theorem s12_23 : Nx b12 23 (.aload_n 0) 1 24 := ⟨by decide +kernel, rfl⟩
theorem s12_24 : Nx b12 24 (.getfield 19) 3 27 := ⟨by decide +kernel, rfl⟩
theorem s12_27 : Nx b12 27 (.iload_n 3) 1 28 := ⟨by decide +kernel, rfl⟩
theorem s12_28 : Nx b12 28 (.iconst 1) 1 29 := ⟨by decide +kernel, rfl⟩
theorem s12_29 : Nx b12 29 (.iadd) 1 30 := ⟨by decide +kernel, rfl⟩
theorem s12_30 : Nx b12 30 (.iaload) 1 31 := ⟨by decide +kernel, rfl⟩
theorem s12_31 : Bx b12 31 (.if_icmp .ge) 78 34 := ⟨(47), by decide +kernel, by decide, by decide, rfl⟩
theorem s12_34 : Nx b12 34 (.aload_n 0) 1 35 := ⟨by decide +kernel, rfl⟩
theorem s12_35 : Nx b12 35 (.getfield 52) 3 38 := ⟨by decide +kernel, rfl⟩
theorem s12_38 : Nx b12 38 (.iload 4) 2 40 := ⟨by decide +kernel, rfl⟩
theorem s12_40 : Nx b12 40 (.laload) 1 41 := ⟨by decide +kernel, rfl⟩
theorem s12_41 : Nx b12 41 (.lconst 0) 1 42 := ⟨by decide +kernel, rfl⟩
theorem s12_42 : Nx b12 42 (.lcmp) 1 43 := ⟨by decide +kernel, rfl⟩
theorem s12_43 : Bx b12 43 (.ifCond .le) 72 46 := ⟨(29), by decide +kernel, by decide, by decide, rfl⟩
theorem s12_46 : Nx b12 46 (.aload_n 0) 1 47 := ⟨by decide +kernel, rfl⟩
theorem s12_47 : Nx b12 47 (.iload_n 3) 1 48 := ⟨by decide +kernel, rfl⟩
theorem s12_48 : Nx b12 48 (.iload 4) 2 50 := ⟨by decide +kernel, rfl⟩
theorem pd_5 : ∀ sig, parseMethodDescriptor "(II)J" = some sig → 2 = sig.parameters.length := npOf (r := some .long) (ps := [.int, .int]) (by decide +kernel) rfl
theorem k_62 {Z : State} {a0 : Array Value} (hw : HW1 Z a0) : ML Z a0 KT "com/example/primalcap/primalcap/MinCostFlow$Refinements" 112 1 y21 b21 3 (some .long) 2 := ⟨_, _, rfl, (hw _ (List.mem_of_getElem? (i := 172) rfl)), (hw _ (List.mem_of_getElem? (i := 174) rfl)), rfl, (hw _ (List.mem_of_getElem? (i := 173) rfl)), (hw _ (List.mem_of_getElem? (i := 40) rfl)), (hw _ (List.mem_of_getElem? (i := 175) rfl)), ⟨by decide, by decide⟩, pd_5⟩
theorem s12_50 : Nx b12 50 (.invokevirtual 112) 3 53 := ⟨by decide +kernel, rfl⟩
theorem s12_53 : Nx b12 53 (.lconst 0) 1 54 := ⟨by decide +kernel, rfl⟩
theorem s12_54 : Nx b12 54 (.lcmp) 1 55 := ⟨by decide +kernel, rfl⟩
theorem s12_55 : Bx b12 55 (.ifCond .ge) 72 58 := ⟨(17), by decide +kernel, by decide, by decide, rfl⟩
theorem s12_58 : Nx b12 58 (.aload_n 0) 1 59 := ⟨by decide +kernel, rfl⟩
theorem s12_59 : Nx b12 59 (.iload_n 3) 1 60 := ⟨by decide +kernel, rfl⟩
theorem s12_60 : Nx b12 60 (.iload 4) 2 62 := ⟨by decide +kernel, rfl⟩
theorem s12_62 : Nx b12 62 (.aload_n 0) 1 63 := ⟨by decide +kernel, rfl⟩
theorem s12_63 : Nx b12 63 (.getfield 52) 3 66 := ⟨by decide +kernel, rfl⟩
theorem s12_66 : Nx b12 66 (.iload 4) 2 68 := ⟨by decide +kernel, rfl⟩
theorem s12_68 : Nx b12 68 (.laload) 1 69 := ⟨by decide +kernel, rfl⟩
theorem pd_6 : ∀ sig, parseMethodDescriptor "(IIJ)V" = some sig → 3 = sig.parameters.length := npOf (r := none) (ps := [.int, .int, .long]) (by decide +kernel) rfl
theorem k_63 {Z : State} {a0 : Array Value} (hw : HW1 Z a0) : ML Z a0 KT "com/example/primalcap/primalcap/MinCostFlow$Refinements" 116 1 y22 b22 5 none 3 := ⟨_, _, rfl, (hw _ (List.mem_of_getElem? (i := 176) rfl)), (hw _ (List.mem_of_getElem? (i := 178) rfl)), rfl, (hw _ (List.mem_of_getElem? (i := 177) rfl)), (hw _ (List.mem_of_getElem? (i := 40) rfl)), (hw _ (List.mem_of_getElem? (i := 179) rfl)), ⟨by decide, by decide⟩, pd_6⟩
theorem s12_69 : Nx b12 69 (.invokevirtual 116) 3 72 := ⟨by decide +kernel, rfl⟩
theorem s12_72 : Nx b12 72 (.iinc 4 1) 3 75 := ⟨by decide +kernel, rfl⟩
theorem s12_75 : Bx b12 75 (.goto) 21 78 := ⟨(-54), by decide +kernel, by decide, by decide, rfl⟩
theorem s12_78 : Nx b12 78 (.iinc 3 1) 3 81 := ⟨by decide +kernel, rfl⟩
theorem s12_81 : Bx b12 81 (.goto) 2 84 := ⟨(-79), by decide +kernel, by decide, by decide, rfl⟩
theorem s12_84 : Nx b12 84 (.aload_n 0) 1 85 := ⟨by decide +kernel, rfl⟩
theorem s12_85 : Nx b12 85 (.iconst 0) 1 86 := ⟨by decide +kernel, rfl⟩
theorem k_64 {Z : State} {a0 : Array Value} (hw : HW1 Z a0) : PL Z a0 KT "com/example/primalcap/primalcap/MinCostFlow$Refinements" "refine" 120 1 13 .int := ⟨_, _, "com/example/primalcap/primalcap/MinCostFlow$Refinements", "queueStart", "I", "", rfl, rfl, (Or.inl (hw _ (List.mem_of_getElem? (i := 115) rfl))), (Or.inl (hw _ (List.mem_of_getElem? (i := 116) rfl))), by decide +kernel⟩
theorem s12_86 : Nx b12 86 (.putfield 120) 3 89 := ⟨by decide +kernel, rfl⟩
theorem s12_89 : Nx b12 89 (.aload_n 0) 1 90 := ⟨by decide +kernel, rfl⟩
theorem s12_90 : Nx b12 90 (.iconst 0) 1 91 := ⟨by decide +kernel, rfl⟩
theorem k_65 {Z : State} {a0 : Array Value} (hw : HW1 Z a0) : PL Z a0 KT "com/example/primalcap/primalcap/MinCostFlow$Refinements" "refine" 123 1 14 .int := ⟨_, _, "com/example/primalcap/primalcap/MinCostFlow$Refinements", "queued", "I", "", rfl, rfl, (Or.inl (hw _ (List.mem_of_getElem? (i := 117) rfl))), (Or.inl (hw _ (List.mem_of_getElem? (i := 118) rfl))), by decide +kernel⟩
theorem s12_91 : Nx b12 91 (.putfield 123) 3 94 := ⟨by decide +kernel, rfl⟩
theorem s12_94 : Nx b12 94 (.iconst 0) 1 95 := ⟨by decide +kernel, rfl⟩
theorem s12_95 : Nx b12 95 (.istore_n 3) 1 96 := ⟨by decide +kernel, rfl⟩
theorem s12_96 : Nx b12 96 (.iload_n 3) 1 97 := ⟨by decide +kernel, rfl⟩
theorem s12_97 : Nx b12 97 (.aload_n 0) 1 98 := ⟨by decide +kernel, rfl⟩
theorem s12_98 : Nx b12 98 (.getfield 3) 3 101 := ⟨by decide +kernel, rfl⟩
theorem s12_101 : Nx b12 101 (.getfield 15) 3 104 := ⟨by decide +kernel, rfl⟩
theorem s12_104 : Bx b12 104 (.if_icmp .ge) 141 107 := ⟨(37), by decide +kernel, by decide, by decide, rfl⟩
theorem s12_107 : Nx b12 107 (.aload_n 0) 1 108 := ⟨by decide +kernel, rfl⟩
theorem k_66 {Z : State} {a0 : Array Value} (hw : HW1 Z a0) : FL Z a0 KT "com/example/primalcap/primalcap/MinCostFlow$Refinements" 40 1 6 := ⟨_, _, "com/example/primalcap/primalcap/MinCostFlow$Refinements", "current", "[I", "", rfl, rfl, (Or.inl (hw _ (List.mem_of_getElem? (i := 59) rfl)))⟩
theorem s12_108 : Nx b12 108 (.getfield 40) 3 111 := ⟨by decide +kernel, rfl⟩
theorem s12_111 : Nx b12 111 (.iload_n 3) 1 112 := ⟨by decide +kernel, rfl⟩
theorem s12_112 : Nx b12 112 (.aload_n 0) 1 113 := ⟨by decide +kernel, rfl⟩
theorem s12_113 : Nx b12 113 (.getfield 19) 3 116 := ⟨by decide +kernel, rfl⟩
theorem s12_116 : Nx b12 116 (.iload_n 3) 1 117 := ⟨by decide +kernel, rfl⟩
theorem s12_117 : Nx b12 117 (.iaload) 1 118 := ⟨by decide +kernel, rfl⟩
theorem s12_118 : Nx b12 118 (.iastore) 1 119 := ⟨by decide +kernel, rfl⟩
theorem s12_119 : Nx b12 119 (.aload_n 0) 1 120 := ⟨by decide +kernel, rfl⟩
theorem k_67 {Z : State} {a0 : Array Value} (hw : HW1 Z a0) : FL Z a0 KT "com/example/primalcap/primalcap/MinCostFlow$Refinements" 37 1 5 := ⟨_, _, "com/example/primalcap/primalcap/MinCostFlow$Refinements", "excess", "[J", "", rfl, rfl, (Or.inl (hw _ (List.mem_of_getElem? (i := 57) rfl)))⟩
theorem s12_120 : Nx b12 120 (.getfield 37) 3 123 := ⟨by decide +kernel, rfl⟩
theorem s12_123 : Nx b12 123 (.iload_n 3) 1 124 := ⟨by decide +kernel, rfl⟩
theorem s12_124 : Nx b12 124 (.laload) 1 125 := ⟨by decide +kernel, rfl⟩
theorem s12_125 : Nx b12 125 (.lconst 0) 1 126 := ⟨by decide +kernel, rfl⟩
theorem s12_126 : Nx b12 126 (.lcmp) 1 127 := ⟨by decide +kernel, rfl⟩
theorem s12_127 : Bx b12 127 (.ifCond .le) 135 130 := ⟨(8), by decide +kernel, by decide, by decide, rfl⟩
theorem s12_130 : Nx b12 130 (.aload_n 0) 1 131 := ⟨by decide +kernel, rfl⟩
theorem s12_131 : Nx b12 131 (.iload_n 3) 1 132 := ⟨by decide +kernel, rfl⟩
theorem pd_7 : ∀ sig, parseMethodDescriptor "(I)V" = some sig → 1 = sig.parameters.length := npOf (r := none) (ps := [.int]) (by decide +kernel) rfl
theorem k_68 {Z : State} {a0 : Array Value} (hw : HW1 Z a0) : ML Z a0 KT "com/example/primalcap/primalcap/MinCostFlow$Refinements" 126 1 y23 b23 2 none 1 := ⟨_, _, rfl, (hw _ (List.mem_of_getElem? (i := 180) rfl)), (hw _ (List.mem_of_getElem? (i := 182) rfl)), rfl, (hw _ (List.mem_of_getElem? (i := 181) rfl)), (hw _ (List.mem_of_getElem? (i := 40) rfl)), (hw _ (List.mem_of_getElem? (i := 183) rfl)), ⟨by decide, by decide⟩, pd_7⟩
theorem s12_132 : Nx b12 132 (.invokevirtual 126) 3 135 := ⟨by decide +kernel, rfl⟩
theorem s12_135 : Nx b12 135 (.iinc 3 1) 3 138 := ⟨by decide +kernel, rfl⟩
theorem s12_138 : Bx b12 138 (.goto) 96 141 := ⟨(-42), by decide +kernel, by decide, by decide, rfl⟩
theorem s12_141 : Nx b12 141 (.aload_n 0) 1 142 := ⟨by decide +kernel, rfl⟩
theorem k_69 {Z : State} {a0 : Array Value} (hw : HW1 Z a0) : FL Z a0 KT "com/example/primalcap/primalcap/MinCostFlow$Refinements" 123 1 14 := ⟨_, _, "com/example/primalcap/primalcap/MinCostFlow$Refinements", "queued", "I", "", rfl, rfl, (Or.inl (hw _ (List.mem_of_getElem? (i := 117) rfl)))⟩
theorem s12_142 : Nx b12 142 (.getfield 123) 3 145 := ⟨by decide +kernel, rfl⟩
theorem s12_145 : Bx b12 145 (.ifCond .le) 195 148 := ⟨(50), by decide +kernel, by decide, by decide, rfl⟩
theorem s12_148 : Nx b12 148 (.aload_n 0) 1 149 := ⟨by decide +kernel, rfl⟩
theorem k_70 {Z : State} {a0 : Array Value} (hw : HW1 Z a0) : FL Z a0 KT "com/example/primalcap/primalcap/MinCostFlow$Refinements" 43 1 7 := ⟨_, _, "com/example/primalcap/primalcap/MinCostFlow$Refinements", "queue", "[I", "", rfl, rfl, (Or.inl (hw _ (List.mem_of_getElem? (i := 61) rfl)))⟩
theorem s12_149 : Nx b12 149 (.getfield 43) 3 152 := ⟨by decide +kernel, rfl⟩
theorem s12_152 : Nx b12 152 (.aload_n 0) 1 153 := ⟨by decide +kernel, rfl⟩
theorem k_71 {Z : State} {a0 : Array Value} (hw : HW1 Z a0) : FL Z a0 KT "com/example/primalcap/primalcap/MinCostFlow$Refinements" 120 1 13 := ⟨_, _, "com/example/primalcap/primalcap/MinCostFlow$Refinements", "queueStart", "I", "", rfl, rfl, (Or.inl (hw _ (List.mem_of_getElem? (i := 115) rfl)))⟩
theorem s12_153 : Nx b12 153 (.getfield 120) 3 156 := ⟨by decide +kernel, rfl⟩
theorem s12_156 : Nx b12 156 (.iaload) 1 157 := ⟨by decide +kernel, rfl⟩
theorem s12_157 : Nx b12 157 (.istore_n 3) 1 158 := ⟨by decide +kernel, rfl⟩
theorem s12_158 : Nx b12 158 (.aload_n 0) 1 159 := ⟨by decide +kernel, rfl⟩
theorem s12_159 : Nx b12 159 (.aload_n 0) 1 160 := ⟨by decide +kernel, rfl⟩
theorem s12_160 : Nx b12 160 (.getfield 120) 3 163 := ⟨by decide +kernel, rfl⟩
theorem s12_163 : Nx b12 163 (.iconst 1) 1 164 := ⟨by decide +kernel, rfl⟩
theorem s12_164 : Nx b12 164 (.iadd) 1 165 := ⟨by decide +kernel, rfl⟩
theorem s12_165 : Nx b12 165 (.aload_n 0) 1 166 := ⟨by decide +kernel, rfl⟩
theorem s12_166 : Nx b12 166 (.getfield 3) 3 169 := ⟨by decide +kernel, rfl⟩
theorem s12_169 : Nx b12 169 (.getfield 15) 3 172 := ⟨by decide +kernel, rfl⟩
theorem s12_172 : Nx b12 172 (.irem) 1 173 := ⟨by decide +kernel, rfl⟩
theorem s12_173 : Nx b12 173 (.putfield 120) 3 176 := ⟨by decide +kernel, rfl⟩
theorem s12_176 : Nx b12 176 (.aload_n 0) 1 177 := ⟨by decide +kernel, rfl⟩
theorem s12_177 : Nx b12 177 (.dup) 1 178 := ⟨by decide +kernel, rfl⟩
theorem s12_178 : Nx b12 178 (.getfield 123) 3 181 := ⟨by decide +kernel, rfl⟩
theorem s12_181 : Nx b12 181 (.iconst 1) 1 182 := ⟨by decide +kernel, rfl⟩
theorem s12_182 : Nx b12 182 (.isub) 1 183 := ⟨by decide +kernel, rfl⟩
theorem s12_183 : Nx b12 183 (.putfield 123) 3 186 := ⟨by decide +kernel, rfl⟩
theorem s12_186 : Nx b12 186 (.aload_n 0) 1 187 := ⟨by decide +kernel, rfl⟩
theorem s12_187 : Nx b12 187 (.iload_n 3) 1 188 := ⟨by decide +kernel, rfl⟩
theorem s12_188 : Nx b12 188 (.lload_n 1) 1 189 := ⟨by decide +kernel, rfl⟩
theorem pd_8 : ∀ sig, parseMethodDescriptor "(IJ)V" = some sig → 2 = sig.parameters.length := npOf (r := none) (ps := [.int, .long]) (by decide +kernel) rfl
theorem k_72 {Z : State} {a0 : Array Value} (hw : HW1 Z a0) : ML Z a0 KT "com/example/primalcap/primalcap/MinCostFlow$Refinements" 130 1 y24 b24 8 none 2 := ⟨_, _, rfl, (hw _ (List.mem_of_getElem? (i := 184) rfl)), (hw _ (List.mem_of_getElem? (i := 186) rfl)), rfl, (hw _ (List.mem_of_getElem? (i := 185) rfl)), (hw _ (List.mem_of_getElem? (i := 40) rfl)), (hw _ (List.mem_of_getElem? (i := 187) rfl)), ⟨by decide, by decide⟩, pd_8⟩
theorem s12_189 : Nx b12 189 (.invokevirtual 130) 3 192 := ⟨by decide +kernel, rfl⟩
theorem s12_192 : Bx b12 192 (.goto) 141 195 := ⟨(-51), by decide +kernel, by decide, by decide, rfl⟩
theorem s12_195 : Nx b12 195 (.return_) 1 196 := ⟨by decide +kernel, rfl⟩
theorem s20_0 : Nx b20 0 (.lload_n 0) 1 1 := ⟨by decide +kernel, rfl⟩
theorem s20_1 : Nx b20 1 (.lload_n 2) 1 2 := ⟨by decide +kernel, rfl⟩
theorem s20_2 : Nx b20 2 (.lcmp) 1 3 := ⟨by decide +kernel, rfl⟩
theorem s20_3 : Bx b20 3 (.ifCond .gt) 10 6 := ⟨(7), by decide +kernel, by decide, by decide, rfl⟩
theorem s20_6 : Nx b20 6 (.lload_n 0) 1 7 := ⟨by decide +kernel, rfl⟩
theorem s20_7 : Bx b20 7 (.goto) 11 10 := ⟨(4), by decide +kernel, by decide, by decide, rfl⟩
theorem s20_10 : Nx b20 10 (.lload_n 2) 1 11 := ⟨by decide +kernel, rfl⟩
theorem s20_11 : Nx b20 11 (.lreturn) 1 12 := ⟨by decide +kernel, rfl⟩
theorem s21_0 : Nx b21 0 (.aload_n 0) 1 1 := ⟨by decide +kernel, rfl⟩
theorem s21_1 : Nx b21 1 (.getfield 55) 3 4 := ⟨by decide +kernel, rfl⟩
theorem s21_4 : Nx b21 4 (.iload_n 2) 1 5 := ⟨by decide +kernel, rfl⟩
theorem s21_5 : Nx b21 5 (.laload) 1 6 := ⟨by decide +kernel, rfl⟩
theorem s21_6 : Nx b21 6 (.aload_n 0) 1 7 := ⟨by decide +kernel, rfl⟩
theorem k_73 {Z : State} {a0 : Array Value} (hw : HW1 Z a0) : FL Z a0 KT "com/example/primalcap/primalcap/MinCostFlow$Refinements" 33 1 4 := ⟨_, _, "com/example/primalcap/primalcap/MinCostFlow$Refinements", "price", "[J", "", rfl, rfl, (Or.inl (hw _ (List.mem_of_getElem? (i := 55) rfl)))⟩
theorem s21_7 : Nx b21 7 (.getfield 33) 3 10 := ⟨by decide +kernel, rfl⟩
theorem s21_10 : Nx b21 10 (.iload_n 1) 1 11 := ⟨by decide +kernel, rfl⟩
theorem s21_11 : Nx b21 11 (.laload) 1 12 := ⟨by decide +kernel, rfl⟩
theorem s21_12 : Nx b21 12 (.ladd) 1 13 := ⟨by decide +kernel, rfl⟩
theorem s21_13 : Nx b21 13 (.aload_n 0) 1 14 := ⟨by decide +kernel, rfl⟩
theorem s21_14 : Nx b21 14 (.getfield 33) 3 17 := ⟨by decide +kernel, rfl⟩
theorem s21_17 : Nx b21 17 (.aload_n 0) 1 18 := ⟨by decide +kernel, rfl⟩
theorem s21_18 : Nx b21 18 (.getfield 46) 3 21 := ⟨by decide +kernel, rfl⟩
theorem s21_21 : Nx b21 21 (.iload_n 2) 1 22 := ⟨by decide +kernel, rfl⟩
theorem s21_22 : Nx b21 22 (.iaload) 1 23 := ⟨by decide +kernel, rfl⟩
theorem s21_23 : Nx b21 23 (.laload) 1 24 := ⟨by decide +kernel, rfl⟩
theorem s21_24 : Nx b21 24 (.lsub) 1 25 := ⟨by decide +kernel, rfl⟩
theorem s21_25 : Nx b21 25 (.lreturn) 1 26 := ⟨by decide +kernel, rfl⟩
theorem s22_0 : Nx b22 0 (.aload_n 0) 1 1 := ⟨by decide +kernel, rfl⟩
theorem s22_1 : Nx b22 1 (.getfield 52) 3 4 := ⟨by decide +kernel, rfl⟩
theorem s22_4 : Nx b22 4 (.iload_n 2) 1 5 := ⟨by decide +kernel, rfl⟩
theorem s22_5 : Nx b22 5 (.dup2) 1 6 := ⟨by decide +kernel, rfl⟩
theorem s22_6 : Nx b22 6 (.laload) 1 7 := ⟨by decide +kernel, rfl⟩
theorem s22_7 : Nx b22 7 (.lload_n 3) 1 8 := ⟨by decide +kernel, rfl⟩
theorem s22_8 : Nx b22 8 (.lsub) 1 9 := ⟨by decide +kernel, rfl⟩
theorem s22_9 : Nx b22 9 (.lastore) 1 10 := ⟨by decide +kernel, rfl⟩
theorem s22_10 : Nx b22 10 (.aload_n 0) 1 11 := ⟨by decide +kernel, rfl⟩
theorem s22_11 : Nx b22 11 (.getfield 52) 3 14 := ⟨by decide +kernel, rfl⟩
theorem s22_14 : Nx b22 14 (.aload_n 0) 1 15 := ⟨by decide +kernel, rfl⟩
theorem s22_15 : Nx b22 15 (.getfield 49) 3 18 := ⟨by decide +kernel, rfl⟩
theorem s22_18 : Nx b22 18 (.iload_n 2) 1 19 := ⟨by decide +kernel, rfl⟩
theorem s22_19 : Nx b22 19 (.iaload) 1 20 := ⟨by decide +kernel, rfl⟩
theorem s22_20 : Nx b22 20 (.dup2) 1 21 := ⟨by decide +kernel, rfl⟩
theorem s22_21 : Nx b22 21 (.laload) 1 22 := ⟨by decide +kernel, rfl⟩
theorem s22_22 : Nx b22 22 (.lload_n 3) 1 23 := ⟨by decide +kernel, rfl⟩
theorem s22_23 : Nx b22 23 (.ladd) 1 24 := ⟨by decide +kernel, rfl⟩
theorem s22_24 : Nx b22 24 (.lastore) 1 25 := ⟨by decide +kernel, rfl⟩
theorem s22_25 : Nx b22 25 (.aload_n 0) 1 26 := ⟨by decide +kernel, rfl⟩
theorem s22_26 : Nx b22 26 (.getfield 37) 3 29 := ⟨by decide +kernel, rfl⟩
theorem s22_29 : Nx b22 29 (.iload_n 1) 1 30 := ⟨by decide +kernel, rfl⟩
theorem s22_30 : Nx b22 30 (.dup2) 1 31 := ⟨by decide +kernel, rfl⟩
theorem s22_31 : Nx b22 31 (.laload) 1 32 := ⟨by decide +kernel, rfl⟩
theorem s22_32 : Nx b22 32 (.lload_n 3) 1 33 := ⟨by decide +kernel, rfl⟩
theorem s22_33 : Nx b22 33 (.lsub) 1 34 := ⟨by decide +kernel, rfl⟩
theorem s22_34 : Nx b22 34 (.lastore) 1 35 := ⟨by decide +kernel, rfl⟩
theorem s22_35 : Nx b22 35 (.aload_n 0) 1 36 := ⟨by decide +kernel, rfl⟩
theorem s22_36 : Nx b22 36 (.getfield 37) 3 39 := ⟨by decide +kernel, rfl⟩
theorem s22_39 : Nx b22 39 (.aload_n 0) 1 40 := ⟨by decide +kernel, rfl⟩
theorem s22_40 : Nx b22 40 (.getfield 46) 3 43 := ⟨by decide +kernel, rfl⟩
theorem s22_43 : Nx b22 43 (.iload_n 2) 1 44 := ⟨by decide +kernel, rfl⟩
theorem s22_44 : Nx b22 44 (.iaload) 1 45 := ⟨by decide +kernel, rfl⟩
theorem s22_45 : Nx b22 45 (.dup2) 1 46 := ⟨by decide +kernel, rfl⟩
theorem s22_46 : Nx b22 46 (.laload) 1 47 := ⟨by decide +kernel, rfl⟩
theorem s22_47 : Nx b22 47 (.lload_n 3) 1 48 := ⟨by decide +kernel, rfl⟩
theorem s22_48 : Nx b22 48 (.ladd) 1 49 := ⟨by decide +kernel, rfl⟩
theorem s22_49 : Nx b22 49 (.lastore) 1 50 := ⟨by decide +kernel, rfl⟩
theorem s22_50 : Nx b22 50 (.return_) 1 51 := ⟨by decide +kernel, rfl⟩
theorem s23_0 : Nx b23 0 (.aload_n 0) 1 1 := ⟨by decide +kernel, rfl⟩
theorem s23_1 : Nx b23 1 (.getfield 43) 3 4 := ⟨by decide +kernel, rfl⟩
theorem s23_4 : Nx b23 4 (.aload_n 0) 1 5 := ⟨by decide +kernel, rfl⟩
theorem s23_5 : Nx b23 5 (.getfield 120) 3 8 := ⟨by decide +kernel, rfl⟩
theorem s23_8 : Nx b23 8 (.aload_n 0) 1 9 := ⟨by decide +kernel, rfl⟩
theorem s23_9 : Nx b23 9 (.getfield 123) 3 12 := ⟨by decide +kernel, rfl⟩
theorem s23_12 : Nx b23 12 (.iadd) 1 13 := ⟨by decide +kernel, rfl⟩
theorem s23_13 : Nx b23 13 (.aload_n 0) 1 14 := ⟨by decide +kernel, rfl⟩
theorem s23_14 : Nx b23 14 (.getfield 3) 3 17 := ⟨by decide +kernel, rfl⟩
theorem s23_17 : Nx b23 17 (.getfield 15) 3 20 := ⟨by decide +kernel, rfl⟩
theorem s23_20 : Nx b23 20 (.irem) 1 21 := ⟨by decide +kernel, rfl⟩
theorem s23_21 : Nx b23 21 (.iload_n 1) 1 22 := ⟨by decide +kernel, rfl⟩
theorem s23_22 : Nx b23 22 (.iastore) 1 23 := ⟨by decide +kernel, rfl⟩
theorem s23_23 : Nx b23 23 (.aload_n 0) 1 24 := ⟨by decide +kernel, rfl⟩
theorem s23_24 : Nx b23 24 (.dup) 1 25 := ⟨by decide +kernel, rfl⟩
theorem s23_25 : Nx b23 25 (.getfield 123) 3 28 := ⟨by decide +kernel, rfl⟩
theorem s23_28 : Nx b23 28 (.iconst 1) 1 29 := ⟨by decide +kernel, rfl⟩
theorem s23_29 : Nx b23 29 (.iadd) 1 30 := ⟨by decide +kernel, rfl⟩
theorem k_74 {Z : State} {a0 : Array Value} (hw : HW1 Z a0) : PL Z a0 KT "com/example/primalcap/primalcap/MinCostFlow$Refinements" "enqueue" 123 1 14 .int := ⟨_, _, "com/example/primalcap/primalcap/MinCostFlow$Refinements", "queued", "I", "", rfl, rfl, (Or.inl (hw _ (List.mem_of_getElem? (i := 117) rfl))), (Or.inl (hw _ (List.mem_of_getElem? (i := 118) rfl))), by decide +kernel⟩
theorem s23_30 : Nx b23 30 (.putfield 123) 3 33 := ⟨by decide +kernel, rfl⟩
theorem s23_33 : Nx b23 33 (.return_) 1 34 := ⟨by decide +kernel, rfl⟩
theorem s24_0 : Nx b24 0 (.aload_n 0) 1 1 := ⟨by decide +kernel, rfl⟩
theorem s24_1 : Nx b24 1 (.getfield 37) 3 4 := ⟨by decide +kernel, rfl⟩
theorem s24_4 : Nx b24 4 (.iload_n 1) 1 5 := ⟨by decide +kernel, rfl⟩
theorem s24_5 : Nx b24 5 (.laload) 1 6 := ⟨by decide +kernel, rfl⟩
theorem s24_6 : Nx b24 6 (.lconst 0) 1 7 := ⟨by decide +kernel, rfl⟩
theorem s24_7 : Nx b24 7 (.lcmp) 1 8 := ⟨by decide +kernel, rfl⟩
theorem s24_8 : Bx b24 8 (.ifCond .le) 167 11 := ⟨(159), by decide +kernel, by decide, by decide, rfl⟩
theorem s24_11 : Nx b24 11 (.aload_n 0) 1 12 := ⟨by decide +kernel, rfl⟩
theorem s24_12 : Nx b24 12 (.getfield 40) 3 15 := ⟨by decide +kernel, rfl⟩
theorem s24_15 : Nx b24 15 (.iload_n 1) 1 16 := ⟨by decide +kernel, rfl⟩
theorem s24_16 : Nx b24 16 (.iaload) 1 17 := ⟨by decide +kernel, rfl⟩
theorem s24_17 : Nx b24 17 (.istore 4) 2 19 := ⟨by decide +kernel, rfl⟩
theorem s24_19 : Nx b24 19 (.aload_n 0) 1 20 := ⟨by decide +kernel, rfl⟩
theorem s24_20 : Nx b24 20 (.getfield 19) 3 23 := ⟨by decide +kernel, rfl⟩
theorem s24_23 : Nx b24 23 (.iload_n 1) 1 24 := ⟨by decide +kernel, rfl⟩
theorem s24_24 : Nx b24 24 (.iconst 1) 1 25 := ⟨by decide +kernel, rfl⟩
theorem s24_25 : Nx b24 25 (.iadd) 1 26 := ⟨by decide +kernel, rfl⟩
theorem s24_26 : Nx b24 26 (.iaload) 1 27 := ⟨by decide +kernel, rfl⟩
theorem s24_27 : Nx b24 27 (.istore 5) 2 29 := ⟨by decide +kernel, rfl⟩
theorem s24_29 : Nx b24 29 (.iload 4) 2 31 := ⟨by decide +kernel, rfl⟩
theorem s24_31 : Nx b24 31 (.iload 5) 2 33 := ⟨by decide +kernel, rfl⟩
theorem s24_33 : Bx b24 33 (.if_icmp .ge) 66 36 := ⟨(33), by decide +kernel, by decide, by decide, rfl⟩
theorem s24_36 : Nx b24 36 (.aload_n 0) 1 37 := ⟨by decide +kernel, rfl⟩
theorem s24_37 : Nx b24 37 (.getfield 52) 3 40 := ⟨by decide +kernel, rfl⟩
theorem s24_40 : Nx b24 40 (.iload 4) 2 42 := ⟨by decide +kernel, rfl⟩
theorem s24_42 : Nx b24 42 (.laload) 1 43 := ⟨by decide +kernel, rfl⟩
theorem s24_43 : Nx b24 43 (.lconst 0) 1 44 := ⟨by decide +kernel, rfl⟩
theorem s24_44 : Nx b24 44 (.lcmp) 1 45 := ⟨by decide +kernel, rfl⟩
theorem s24_45 : Bx b24 45 (.ifCond .eq) 60 48 := ⟨(15), by decide +kernel, by decide, by decide, rfl⟩
theorem s24_48 : Nx b24 48 (.aload_n 0) 1 49 := ⟨by decide +kernel, rfl⟩
theorem s24_49 : Nx b24 49 (.iload_n 1) 1 50 := ⟨by decide +kernel, rfl⟩
theorem s24_50 : Nx b24 50 (.iload 4) 2 52 := ⟨by decide +kernel, rfl⟩
theorem s24_52 : Nx b24 52 (.invokevirtual 112) 3 55 := ⟨by decide +kernel, rfl⟩
theorem s24_55 : Nx b24 55 (.lconst 0) 1 56 := ⟨by decide +kernel, rfl⟩
theorem s24_56 : Nx b24 56 (.lcmp) 1 57 := ⟨by decide +kernel, rfl⟩
theorem s24_57 : Bx b24 57 (.ifCond .lt) 66 60 := ⟨(9), by decide +kernel, by decide, by decide, rfl⟩
theorem s24_60 : Nx b24 60 (.iinc 4 1) 3 63 := ⟨by decide +kernel, rfl⟩
theorem s24_63 : Bx b24 63 (.goto) 29 66 := ⟨(-34), by decide +kernel, by decide, by decide, rfl⟩
theorem s24_66 : Nx b24 66 (.iload 4) 2 68 := ⟨by decide +kernel, rfl⟩
theorem s24_68 : Nx b24 68 (.iload 5) 2 70 := ⟨by decide +kernel, rfl⟩
theorem s24_70 : Bx b24 70 (.if_icmp .ne) 82 73 := ⟨(12), by decide +kernel, by decide, by decide, rfl⟩
theorem s24_73 : Nx b24 73 (.aload_n 0) 1 74 := ⟨by decide +kernel, rfl⟩
theorem s24_74 : Nx b24 74 (.iload_n 1) 1 75 := ⟨by decide +kernel, rfl⟩
theorem s24_75 : Nx b24 75 (.lload_n 2) 1 76 := ⟨by decide +kernel, rfl⟩
theorem k_75 {Z : State} {a0 : Array Value} (hw : HW1 Z a0) : ML Z a0 KT "com/example/primalcap/primalcap/MinCostFlow$Refinements" 134 1 y25 b25 7 none 2 := ⟨_, _, rfl, (hw _ (List.mem_of_getElem? (i := 188) rfl)), (hw _ (List.mem_of_getElem? (i := 190) rfl)), rfl, (hw _ (List.mem_of_getElem? (i := 189) rfl)), (hw _ (List.mem_of_getElem? (i := 40) rfl)), (hw _ (List.mem_of_getElem? (i := 191) rfl)), ⟨by decide, by decide⟩, pd_8⟩
theorem s24_76 : Nx b24 76 (.invokevirtual 134) 3 79 := ⟨by decide +kernel, rfl⟩
theorem s24_79 : Bx b24 79 (.goto) 0 82 := ⟨(-79), by decide +kernel, by decide, by decide, rfl⟩
theorem s24_82 : Nx b24 82 (.aload_n 0) 1 83 := ⟨by decide +kernel, rfl⟩
theorem s24_83 : Nx b24 83 (.getfield 40) 3 86 := ⟨by decide +kernel, rfl⟩
theorem s24_86 : Nx b24 86 (.iload_n 1) 1 87 := ⟨by decide +kernel, rfl⟩
theorem s24_87 : Nx b24 87 (.iload 4) 2 89 := ⟨by decide +kernel, rfl⟩
theorem s24_89 : Nx b24 89 (.iastore) 1 90 := ⟨by decide +kernel, rfl⟩
theorem s24_90 : Nx b24 90 (.aload_n 0) 1 91 := ⟨by decide +kernel, rfl⟩
theorem s24_91 : Nx b24 91 (.getfield 46) 3 94 := ⟨by decide +kernel, rfl⟩
theorem s24_94 : Nx b24 94 (.iload 4) 2 96 := ⟨by decide +kernel, rfl⟩
theorem s24_96 : Nx b24 96 (.iaload) 1 97 := ⟨by decide +kernel, rfl⟩
theorem s24_97 : Nx b24 97 (.istore 6) 2 99 := ⟨by decide +kernel, rfl⟩
theorem s24_99 : Nx b24 99 (.aload_n 0) 1 100 := ⟨by decide +kernel, rfl⟩
theorem s24_100 : Nx b24 100 (.getfield 37) 3 103 := ⟨by decide +kernel, rfl⟩
theorem s24_103 : Nx b24 103 (.iload 6) 2 105 := ⟨by decide +kernel, rfl⟩
theorem s24_105 : Nx b24 105 (.laload) 1 106 := ⟨by decide +kernel, rfl⟩
theorem s24_106 : Nx b24 106 (.lconst 0) 1 107 := ⟨by decide +kernel, rfl⟩
theorem s24_107 : Nx b24 107 (.lcmp) 1 108 := ⟨by decide +kernel, rfl⟩
theorem s24_108 : Bx b24 108 (.ifCond .le) 115 111 := ⟨(7), by decide +kernel, by decide, by decide, rfl⟩
theorem s24_111 : Nx b24 111 (.iconst 1) 1 112 := ⟨by decide +kernel, rfl⟩
theorem s24_112 : Bx b24 112 (.goto) 116 115 := ⟨(4), by decide +kernel, by decide, by decide, rfl⟩
theorem s24_115 : Nx b24 115 (.iconst 0) 1 116 := ⟨by decide +kernel, rfl⟩
theorem s24_116 : Nx b24 116 (.istore 7) 2 118 := ⟨by decide +kernel, rfl⟩
theorem s24_118 : Nx b24 118 (.aload_n 0) 1 119 := ⟨by decide +kernel, rfl⟩
theorem s24_119 : Nx b24 119 (.iload_n 1) 1 120 := ⟨by decide +kernel, rfl⟩
theorem s24_120 : Nx b24 120 (.iload 4) 2 122 := ⟨by decide +kernel, rfl⟩
theorem s24_122 : Nx b24 122 (.aload_n 0) 1 123 := ⟨by decide +kernel, rfl⟩
theorem s24_123 : Nx b24 123 (.getfield 37) 3 126 := ⟨by decide +kernel, rfl⟩
theorem s24_126 : Nx b24 126 (.iload_n 1) 1 127 := ⟨by decide +kernel, rfl⟩
theorem s24_127 : Nx b24 127 (.laload) 1 128 := ⟨by decide +kernel, rfl⟩
theorem s24_128 : Nx b24 128 (.aload_n 0) 1 129 := ⟨by decide +kernel, rfl⟩
theorem s24_129 : Nx b24 129 (.getfield 52) 3 132 := ⟨by decide +kernel, rfl⟩
theorem s24_132 : Nx b24 132 (.iload 4) 2 134 := ⟨by decide +kernel, rfl⟩
theorem s24_134 : Nx b24 134 (.laload) 1 135 := ⟨by decide +kernel, rfl⟩
theorem k_76 {Z : State} {a0 : Array Value} (hw : HW1 Z a0) : SL Z a0 "com/example/primalcap/primalcap/MinCostFlow$Refinements" 137 y20 b20 4 (some .long) 2 := ⟨(hw _ (List.mem_of_getElem? (i := 193) rfl)), (hw _ (List.mem_of_getElem? (i := 170) rfl)), (hw _ (List.mem_of_getElem? (i := 79) rfl)), (hw _ (List.mem_of_getElem? (i := 171) rfl)), ⟨by decide, by decide⟩, pd_1⟩
theorem s24_135 : Nx b24 135 (.invokestatic 137) 3 138 := ⟨by decide +kernel, rfl⟩
theorem s24_138 : Nx b24 138 (.invokevirtual 116) 3 141 := ⟨by decide +kernel, rfl⟩
theorem s24_141 : Nx b24 141 (.iload 7) 2 143 := ⟨by decide +kernel, rfl⟩
theorem s24_143 : Bx b24 143 (.ifCond .ne) 164 146 := ⟨(21), by decide +kernel, by decide, by decide, rfl⟩
theorem s24_146 : Nx b24 146 (.aload_n 0) 1 147 := ⟨by decide +kernel, rfl⟩
theorem s24_147 : Nx b24 147 (.getfield 37) 3 150 := ⟨by decide +kernel, rfl⟩
theorem s24_150 : Nx b24 150 (.iload 6) 2 152 := ⟨by decide +kernel, rfl⟩
theorem s24_152 : Nx b24 152 (.laload) 1 153 := ⟨by decide +kernel, rfl⟩
theorem s24_153 : Nx b24 153 (.lconst 0) 1 154 := ⟨by decide +kernel, rfl⟩
theorem s24_154 : Nx b24 154 (.lcmp) 1 155 := ⟨by decide +kernel, rfl⟩
theorem s24_155 : Bx b24 155 (.ifCond .le) 164 158 := ⟨(9), by decide +kernel, by decide, by decide, rfl⟩
theorem s24_158 : Nx b24 158 (.aload_n 0) 1 159 := ⟨by decide +kernel, rfl⟩
theorem s24_159 : Nx b24 159 (.iload 6) 2 161 := ⟨by decide +kernel, rfl⟩
theorem s24_161 : Nx b24 161 (.invokevirtual 126) 3 164 := ⟨by decide +kernel, rfl⟩
theorem s24_164 : Bx b24 164 (.goto) 0 167 := ⟨(-164), by decide +kernel, by decide, by decide, rfl⟩
theorem s24_167 : Nx b24 167 (.return_) 1 168 := ⟨by decide +kernel, rfl⟩
theorem k_77 {Z : State} {a0 : Array Value} (hw : HW1 Z a0) : (Jvm.Cond.constantLong "com/example/primalcap/primalcap/MinCostFlow$Refinements" 142 (-9223372036854775808)).before a0 Z = true := (hw _ (List.mem_of_getElem? (i := 192) rfl))
theorem s25_0 : Nx b25 0 (.ldc2_w 142) 3 3 := ⟨by decide +kernel, rfl⟩
theorem s25_3 : Nx b25 3 (.lstore 4) 2 5 := ⟨by decide +kernel, rfl⟩
theorem s25_5 : Nx b25 5 (.aload_n 0) 1 6 := ⟨by decide +kernel, rfl⟩
theorem s25_6 : Nx b25 6 (.getfield 19) 3 9 := ⟨by decide +kernel, rfl⟩
theorem s25_9 : Nx b25 9 (.iload_n 1) 1 10 := ⟨by decide +kernel, rfl⟩
theorem s25_10 : Nx b25 10 (.iaload) 1 11 := ⟨by decide +kernel, rfl⟩
theorem s25_11 : Nx b25 11 (.istore 6) 2 13 := ⟨by decide +kernel, rfl⟩
theorem s25_13 : Nx b25 13 (.iload 6) 2 15 := ⟨by decide +kernel, rfl⟩
theorem s25_15 : Nx b25 15 (.aload_n 0) 1 16 := ⟨by decide +kernel, rfl⟩
theorem s25_16 : Nx b25 16 (.getfield 19) 3 19 := ⟨by decide +kernel, rfl⟩
theorem s25_19 : Nx b25 19 (.iload_n 1) 1 20 := ⟨by decide +kernel, rfl⟩
theorem s25_20 : Nx b25 20 (.iconst 1) 1 21 := ⟨by decide +kernel, rfl⟩
theorem s25_21 : Nx b25 21 (.iadd) 1 22 := ⟨by decide +kernel, rfl⟩
theorem s25_22 : Nx b25 22 (.iaload) 1 23 := ⟨by decide +kernel, rfl⟩
theorem s25_23 : Bx b25 23 (.if_icmp .ge) 71 26 := ⟨(48), by decide +kernel, by decide, by decide, rfl⟩
theorem s25_26 : Nx b25 26 (.aload_n 0) 1 27 := ⟨by decide +kernel, rfl⟩
theorem s25_27 : Nx b25 27 (.getfield 52) 3 30 := ⟨by decide +kernel, rfl⟩
theorem s25_30 : Nx b25 30 (.iload 6) 2 32 := ⟨by decide +kernel, rfl⟩
theorem s25_32 : Nx b25 32 (.laload) 1 33 := ⟨by decide +kernel, rfl⟩
theorem s25_33 : Nx b25 33 (.lconst 0) 1 34 := ⟨by decide +kernel, rfl⟩
theorem s25_34 : Nx b25 34 (.lcmp) 1 35 := ⟨by decide +kernel, rfl⟩
theorem s25_35 : Bx b25 35 (.ifCond .le) 65 38 := ⟨(30), by decide +kernel, by decide, by decide, rfl⟩
theorem s25_38 : Nx b25 38 (.lload 4) 2 40 := ⟨by decide +kernel, rfl⟩
theorem s25_40 : Nx b25 40 (.aload_n 0) 1 41 := ⟨by decide +kernel, rfl⟩
theorem s25_41 : Nx b25 41 (.getfield 33) 3 44 := ⟨by decide +kernel, rfl⟩
theorem s25_44 : Nx b25 44 (.aload_n 0) 1 45 := ⟨by decide +kernel, rfl⟩
theorem s25_45 : Nx b25 45 (.getfield 46) 3 48 := ⟨by decide +kernel, rfl⟩
theorem s25_48 : Nx b25 48 (.iload 6) 2 50 := ⟨by decide +kernel, rfl⟩
theorem s25_50 : Nx b25 50 (.iaload) 1 51 := ⟨by decide +kernel, rfl⟩
theorem s25_51 : Nx b25 51 (.laload) 1 52 := ⟨by decide +kernel, rfl⟩
theorem s25_52 : Nx b25 52 (.aload_n 0) 1 53 := ⟨by decide +kernel, rfl⟩
theorem s25_53 : Nx b25 53 (.getfield 55) 3 56 := ⟨by decide +kernel, rfl⟩
theorem s25_56 : Nx b25 56 (.iload 6) 2 58 := ⟨by decide +kernel, rfl⟩
theorem s25_58 : Nx b25 58 (.laload) 1 59 := ⟨by decide +kernel, rfl⟩
theorem s25_59 : Nx b25 59 (.lsub) 1 60 := ⟨by decide +kernel, rfl⟩
theorem s25_60 : Nx b25 60 (.invokestatic 86) 3 63 := ⟨by decide +kernel, rfl⟩
theorem s25_63 : Nx b25 63 (.lstore 4) 2 65 := ⟨by decide +kernel, rfl⟩
theorem s25_65 : Nx b25 65 (.iinc 6 1) 3 68 := ⟨by decide +kernel, rfl⟩
theorem s25_68 : Bx b25 68 (.goto) 13 71 := ⟨(-55), by decide +kernel, by decide, by decide, rfl⟩
theorem s25_71 : Nx b25 71 (.aload_n 0) 1 72 := ⟨by decide +kernel, rfl⟩
theorem s25_72 : Nx b25 72 (.getfield 33) 3 75 := ⟨by decide +kernel, rfl⟩
theorem s25_75 : Nx b25 75 (.iload_n 1) 1 76 := ⟨by decide +kernel, rfl⟩
theorem s25_76 : Nx b25 76 (.lload 4) 2 78 := ⟨by decide +kernel, rfl⟩
theorem s25_78 : Nx b25 78 (.lload_n 2) 1 79 := ⟨by decide +kernel, rfl⟩
theorem s25_79 : Nx b25 79 (.lsub) 1 80 := ⟨by decide +kernel, rfl⟩
theorem s25_80 : Nx b25 80 (.lastore) 1 81 := ⟨by decide +kernel, rfl⟩
theorem s25_81 : Nx b25 81 (.aload_n 0) 1 82 := ⟨by decide +kernel, rfl⟩
theorem s25_82 : Nx b25 82 (.getfield 40) 3 85 := ⟨by decide +kernel, rfl⟩
theorem s25_85 : Nx b25 85 (.iload_n 1) 1 86 := ⟨by decide +kernel, rfl⟩
theorem s25_86 : Nx b25 86 (.aload_n 0) 1 87 := ⟨by decide +kernel, rfl⟩
theorem s25_87 : Nx b25 87 (.getfield 19) 3 90 := ⟨by decide +kernel, rfl⟩
theorem s25_90 : Nx b25 90 (.iload_n 1) 1 91 := ⟨by decide +kernel, rfl⟩
theorem s25_91 : Nx b25 91 (.iaload) 1 92 := ⟨by decide +kernel, rfl⟩
theorem s25_92 : Nx b25 92 (.iastore) 1 93 := ⟨by decide +kernel, rfl⟩
theorem s25_93 : Nx b25 93 (.return_) 1 94 := ⟨by decide +kernel, rfl⟩
def tq0 (T : List OwnL.SR) : Nat → Option OwnL.ME := (nd 80 (nd 20 (nd 0 (lf 0 (.inl (xSeq 1 (xLoad 2 3 1) (xSeq 2 (xLpush 0 2) (xLif T .ge 20 6)))))
  (nd 9 (lf 9 (.inl (xSeq 10 (xDup 10) (xLoad 2 3 11))))
  (lf 20 (.inl (xSeq 21 (xLoad 2 3 21) (xSeq 24 (xLpush (9223372036854775807) 24) (xSeq 25 (xLoad 0 0 25) (xSeq 28 (xGet 0 6 28) (xSeq 29 (xLbin Int.sub 29) (xLif T .le 43 33))))))))))
  (nd 43 (nd 36 (lf 36 (.inl (xDup 37)))
  (lf 43 (.inl (xSeq 44 (xLoad 0 0 44) (xSeq 45 (xDup 45) (xSeq 48 (xGet 0 6 48) (xSeq 49 (xLoad 2 3 49) (xSeq 50 (xLbin Int.add 50) (xSeq 53 (xPut 2 0 6 53) (xSeq 54 (xLoad 0 0 54) (xSeq 57 (xGet 0 7 57) (xSeq 58 (xLoad 0 0 58) (xSeq 61 (xGet 0 1 61) (xSeq 62 (xLen 62) (xIcmp .ne 138 65)))))))))))))))
  (nd 65 (lf 65 (.inl (xSeq 66 (xPush (2) 66) (xSeq 67 (xLoad 0 0 67) (xSeq 70 (xGet 0 7 70) (xSeq 71 (xBin Int.mul 71) (xSeq 73 (xStore 1 7 73) (xSeq 74 (xLoad 0 0 74) (xSeq 75 (xLoad 0 0 75) (xSeq 78 (xGet 0 0 78) (xLoad 1 7 80)))))))))))
  (lf 80 (.inr (.inl (2, 2, 0, 8, [none])))))))
  (nd 109 (nd 93 (nd 83 (lf 83 (.inl (xSeq 86 (xPut 0 0 0 86) (xSeq 87 (xLoad 0 0 87) (xSeq 88 (xLoad 0 0 88) (xSeq 91 (xGet 0 1 91) (xLoad 1 7 93)))))))
  (lf 93 (.inr (.inl (2, 2, 0, 8, [none])))))
  (nd 96 (lf 96 (.inl (xSeq 99 (xPut 0 0 1 99) (xSeq 100 (xLoad 0 0 100) (xSeq 101 (xLoad 0 0 101) (xSeq 104 (xGet 0 2 104) (xLoad 1 7 106)))))))
  (lf 109 (.inl (xSeq 112 (xPut 0 0 2 112) (xSeq 113 (xLoad 0 0 113) (xSeq 114 (xLoad 0 0 114) (xSeq 117 (xGet 0 3 117) (xLoad 1 7 119)))))))))
  (nd 135 (nd 122 (lf 122 (.inl (xSeq 125 (xPut 0 0 3 125) (xSeq 126 (xLoad 0 0 126) (xSeq 127 (xLoad 0 0 127) (xSeq 130 (xGet 0 4 130) (xLoad 1 7 132)))))))
  (lf 135 (.inl (xPut 0 0 4 138))))
  (nd 138 (lf 138 (.inl (xSeq 139 (xLoad 0 0 139) (xSeq 142 (xGet 0 0 142) (xSeq 143 (xLoad 0 0 143) (xSeq 146 (xGet 0 7 146) (xSeq 147 (xLoad 1 1 147) (xSeq 148 (xIastore 148) (xSeq 149 (xLoad 0 0 149) (xSeq 152 (xGet 0 1 152) (xSeq 153 (xLoad 0 0 153) (xSeq 156 (xGet 0 7 156) (xSeq 157 (xLoad 1 2 157) (xSeq 158 (xIastore 158) (xSeq 159 (xLoad 0 0 159) (xSeq 162 (xGet 0 2 162) (xSeq 163 (xLoad 0 0 163) (xSeq 166 (xGet 0 7 166) (xSeq 167 (xLoad 2 3 167) (xSeq 168 (xLastore 168) (xSeq 169 (xLoad 0 0 169) (xSeq 172 (xGet 0 3 172) (xSeq 173 (xLoad 0 0 173) (xSeq 176 (xGet 0 7 176) (xSeq 178 (xLoad 2 5 178) (xSeq 179 (xLastore 179) (xSeq 180 (xLoad 0 0 180) (xSeq 181 (xDup 181) (xSeq 184 (xGet 0 7 184) (xSeq 185 (xDupX1 185) (xSeq 186 (xPush (1) 186) (xSeq 187 (xBin Int.add 187) (xPut 1 0 7 190)))))))))))))))))))))))))))))))))
  (lf 190 (.inr (.inr 2)))))))
def tq1 (T : List OwnL.SR) : Nat → Option OwnL.ME := (nd 245 (nd 190 (nd 140 (nd 0 (lf 0 (.inl (xSeq 1 (xLoad 0 0 1) (xSeq 2 (xLoad 0 1 2) (xSeq 5 (xPut 0 1 0 5) (xSeq 6 (xLoad 0 0 6) (xSeq 9 (xInit 9) (xSeq 10 (xLoad 0 0 10) (xSeq 11 (xLoad 0 0 11) (xSeq 14 (xGet 1 0 14) (xSeq 17 (xGet 0 5 17) (xSeq 18 (xPush (1) 18) (xSeq 19 (xBin Int.add 19) (xSeq 21 (xNewA false 21) (xSeq 24 (xPut 0 1 1 24) (xSeq 25 (xLoad 0 0 25) (xSeq 26 (xLoad 0 0 26) (xSeq 29 (xGet 1 0 29) (xSeq 32 (xGet 0 7 32) (xSeq 34 (xNewA false 34) (xSeq 37 (xPut 0 1 2 37) (xSeq 38 (xLoad 0 0 38) (xSeq 39 (xLoad 0 0 39) (xSeq 42 (xGet 1 0 42) (xSeq 45 (xGet 0 5 45) (xSeq 46 (xI2l 46) (xSeq 47 (xLpush 1 47) (xSeq 48 (xLbin Int.add 48) (xSeq 51 (xPut 2 1 3 51) (xSeq 52 (xLoad 0 0 52) (xSeq 53 (xLoad 0 0 53) (xSeq 56 (xGet 1 0 56) (xSeq 59 (xGet 0 5 59) (xSeq 61 (xNewA true 61) (xSeq 64 (xPut 0 1 4 64) (xSeq 65 (xLoad 0 0 65) (xSeq 66 (xLoad 0 0 66) (xSeq 69 (xGet 1 0 69) (xSeq 72 (xGet 0 5 72) (xSeq 74 (xNewA true 74) (xSeq 77 (xPut 0 1 5 77) (xSeq 78 (xLoad 0 0 78) (xSeq 79 (xLoad 0 0 79) (xSeq 82 (xGet 1 0 82) (xSeq 85 (xGet 0 5 85) (xSeq 87 (xNewA false 87) (xSeq 90 (xPut 0 1 6 90) (xSeq 91 (xLoad 0 0 91) (xSeq 92 (xLoad 0 0 92) (xSeq 95 (xGet 1 0 95) (xSeq 98 (xGet 0 5 98) (xSeq 100 (xNewA false 100) (xSeq 103 (xPut 0 1 7 103) (xSeq 104 (xPush (2) 104) (xSeq 105 (xLoad 0 1 105) (xSeq 108 (xGet 0 7 108) (xSeq 109 (xBin Int.mul 109) (xSeq 110 (xStore 1 2 110) (xSeq 111 (xLoad 0 0 111) (xSeq 112 (xLoad 1 2 112) (xSeq 114 (xNewA false 114) (xSeq 117 (xPut 0 1 8 117) (xSeq 118 (xLoad 0 0 118) (xSeq 119 (xLoad 1 2 119) (xSeq 121 (xNewA false 121) (xSeq 124 (xPut 0 1 9 124) (xSeq 125 (xLoad 0 0 125) (xSeq 126 (xLoad 1 2 126) (xSeq 128 (xNewA true 128) (xSeq 131 (xPut 0 1 10 131) (xSeq 132 (xLoad 0 0 132) (xSeq 133 (xLoad 1 2 133) (xSeq 135 (xNewA true 135) (xSeq 138 (xPut 0 1 11 138) (xSeq 139 (xPush (0) 139) (xStore 1 3 140))))))))))))))))))))))))))))))))))))))))))))))))))))))))))))))))))))))))))))
  (lf 140 (.inl (xSeq 141 (xLoad 1 3 141) (xSeq 142 (xLoad 0 1 142) (xSeq 145 (xGet 0 7 145) (xIcmp .ge 188 148)))))))
  (nd 148 (lf 148 (.inl (xSeq 149 (xLoad 0 0 149) (xSeq 152 (xGet 1 1 152) (xSeq 153 (xLoad 0 1 153) (xSeq 156 (xGet 0 0 156) (xSeq 157 (xLoad 1 3 157) (xSeq 158 (xIaload 158) (xSeq 159 (xPush (1) 159) (xSeq 160 (xBin Int.add 160) (xSeq 161 (xDup2 161) (xSeq 162 (xIaload 162) (xSeq 163 (xPush (1) 163) (xSeq 164 (xBin Int.add 164) (xSeq 165 (xIastore 165) (xSeq 166 (xLoad 0 0 166) (xSeq 169 (xGet 1 1 169) (xSeq 170 (xLoad 0 1 170) (xSeq 173 (xGet 0 1 173) (xSeq 174 (xLoad 1 3 174) (xSeq 175 (xIaload 175) (xSeq 176 (xPush (1) 176) (xSeq 177 (xBin Int.add 177) (xSeq 178 (xDup2 178) (xSeq 179 (xIaload 179) (xSeq 180 (xPush (1) 180) (xSeq 181 (xBin Int.add 181) (xSeq 182 (xIastore 182) (xSeq 185 (xInc 3 (1) 185) (xGoto 140))))))))))))))))))))))))))))))
  (nd 188 (lf 188 (.inl (xSeq 189 (xPush (0) 189) (xStore 1 3 190))))
  (lf 190 (.inl (xSeq 191 (xLoad 1 3 191) (xSeq 192 (xLoad 0 1 192) (xSeq 195 (xGet 0 5 195) (xIcmp .ge 221 198)))))))))
  (nd 229 (nd 198 (lf 198 (.inl (xSeq 199 (xLoad 0 0 199) (xSeq 202 (xGet 1 1 202) (xSeq 203 (xLoad 1 3 203) (xSeq 204 (xPush (1) 204) (xSeq 205 (xBin Int.add 205) (xSeq 206 (xDup2 206) (xSeq 207 (xIaload 207) (xSeq 208 (xLoad 0 0 208) (xSeq 211 (xGet 1 1 211) (xSeq 212 (xLoad 1 3 212) (xSeq 213 (xIaload 213) (xSeq 214 (xBin Int.add 214) (xSeq 215 (xIastore 215) (xSeq 218 (xInc 3 (1) 218) (xGoto 190)))))))))))))))))
  (nd 221 (lf 221 (.inl (xSeq 222 (xLoad 0 0 222) (xSeq 225 (xGet 1 1 225) (xSeq 226 (xLoad 0 1 226) (xGet 0 5 229))))))
  (lf 229 (.inr (.inl (2, 2, 0, 10, [none]))))))
  (nd 232 (lf 232 (.inl (xSeq 233 (xStore 0 3 233) (xSeq 234 (xPush (0) 234) (xStore 1 4 236)))))
  (nd 236 (lf 236 (.inl (xSeq 238 (xLoad 1 4 238) (xSeq 239 (xLoad 0 1 239) (xSeq 242 (xGet 0 7 242) (xIcmp .ge 425 245))))))
  (lf 245 (.inl (xSeq 246 (xLoad 0 3 246) (xSeq 247 (xLoad 0 1 247) (xSeq 250 (xGet 0 0 250) (xSeq 252 (xLoad 1 4 252) (xSeq 253 (xIaload 253) (xSeq 254 (xDup2 254) (xSeq 255 (xIaload 255) (xSeq 256 (xDupX2 256) (xSeq 257 (xPush (1) 257) (xSeq 258 (xBin Int.add 258) (xSeq 259 (xIastore 259) (xSeq 261 (xStore 1 5 261) (xSeq 262 (xLoad 0 3 262) (xSeq 263 (xLoad 0 1 263) (xSeq 266 (xGet 0 1 266) (xSeq 268 (xLoad 1 4 268) (xSeq 269 (xIaload 269) (xSeq 270 (xDup2 270) (xSeq 271 (xIaload 271) (xSeq 272 (xDupX2 272) (xSeq 273 (xPush (1) 273) (xSeq 274 (xBin Int.add 274) (xSeq 275 (xIastore 275) (xSeq 277 (xStore 1 6 277) (xSeq 278 (xLoad 0 1 278) (xSeq 281 (xGet 0 3 281) (xSeq 283 (xLoad 1 4 283) (xSeq 284 (xLaload 284) (xSeq 285 (xLoad 0 0 285) (xGet 1 3 288))))))))))))))))))))))))))))))))))))
  (nd 425 (nd 300 (nd 288 (lf 288 (.inr (.inl (4, 2, 0, 8, [none, none, none, none, none, none]))))
  (nd 291 (lf 291 (.inl (xSeq 293 (xLstore 7 8 293) (xSeq 294 (xLoad 0 0 294) (xSeq 295 (xLoad 0 0 295) (xSeq 298 (xGet 1 12 298) (xLoad 2 7 300)))))))
  (lf 300 (.inr (.inl (5, 1, 0, 37, []))))))
  (nd 303 (lf 303 (.inr (.inl (6, 2, 0, 35, []))))
  (nd 306 (lf 306 (.inl (xSeq 309 (xPut 2 1 12 309) (xSeq 310 (xLoad 0 0 310) (xSeq 313 (xGet 1 8 313) (xSeq 315 (xLoad 1 5 315) (xSeq 316 (xLoad 0 1 316) (xSeq 319 (xGet 0 1 319) (xSeq 321 (xLoad 1 4 321) (xSeq 322 (xIaload 322) (xSeq 323 (xIastore 323) (xSeq 324 (xLoad 0 0 324) (xSeq 327 (xGet 1 8 327) (xSeq 329 (xLoad 1 6 329) (xSeq 330 (xLoad 0 1 330) (xSeq 333 (xGet 0 0 333) (xSeq 335 (xLoad 1 4 335) (xSeq 336 (xIaload 336) (xSeq 337 (xIastore 337) (xSeq 338 (xLoad 0 0 338) (xSeq 341 (xGet 1 9 341) (xSeq 343 (xLoad 1 5 343) (xSeq 345 (xLoad 1 6 345) (xSeq 346 (xIastore 346) (xSeq 347 (xLoad 0 0 347) (xSeq 350 (xGet 1 9 350) (xSeq 352 (xLoad 1 6 352) (xSeq 354 (xLoad 1 5 354) (xSeq 355 (xIastore 355) (xSeq 356 (xLoad 0 0 356) (xSeq 359 (xGet 1 10 359) (xSeq 361 (xLoad 1 5 361) (xSeq 362 (xLoad 0 1 362) (xSeq 365 (xGet 0 2 365) (xSeq 367 (xLoad 1 4 367) (xSeq 368 (xLaload 368) (xSeq 369 (xLoad 0 1 369) (xSeq 372 (xGet 0 4 372) (xSeq 374 (xLoad 1 4 374) (xSeq 375 (xLaload 375) (xSeq 376 (xLbin Int.sub 376) (xSeq 377 (xLastore 377) (xSeq 378 (xLoad 0 0 378) (xSeq 381 (xGet 1 10 381) (xSeq 383 (xLoad 1 6 383) (xSeq 384 (xLoad 0 1 384) (xSeq 387 (xGet 0 4 387) (xSeq 389 (xLoad 1 4 389) (xSeq 390 (xLaload 390) (xSeq 391 (xLastore 391) (xSeq 392 (xLoad 0 0 392) (xSeq 395 (xGet 1 11 395) (xSeq 397 (xLoad 1 5 397) (xSeq 399 (xLoad 2 7 399) (xSeq 400 (xLastore 400) (xSeq 401 (xLoad 0 0 401) (xSeq 404 (xGet 1 11 404) (xSeq 406 (xLoad 1 6 406) (xSeq 408 (xLoad 2 7 408) (xSeq 409 (xLneg 409) (xSeq 410 (xLastore 410) (xSeq 411 (xLoad 0 0 411) (xSeq 414 (xGet 1 2 414) (xSeq 416 (xLoad 1 4 416) (xSeq 418 (xLoad 1 5 418) (xSeq 419 (xIastore 419) (xSeq 422 (xInc 4 (1) 422) (xGoto 236))))))))))))))))))))))))))))))))))))))))))))))))))))))))))))))))))))
  (lf 425 (.inl (xSeq 426 (xLoad 0 0 426) (xSeq 429 (xGet 1 12 429) (xSeq 432 (xLpush (3) 432) (xSeq 433 (xLoad 0 0 433) (xSeq 436 (xGet 1 3 436) (xLop false (· * ·) 437)))))))))))
  (nd 455 (nd 437 (lf 437 (.inr (.inl (4, 2, 0, 8, [none, none, none, none, none, none]))))
  (nd 440 (lf 440 (.inl (xSeq 441 (xLoad 0 0 441) (xSeq 444 (xGet 1 12 444) (xSeq 445 (xLoad 0 0 445) (xSeq 448 (xGet 1 3 448) (xSeq 449 (xLop true (· / ·) 449) (xSeq 452 (xLpush (2) 452) (xSeq 453 (xLoad 1 2 453) (xSeq 454 (xI2l 454) (xLop false (· * ·) 455)))))))))))
  (lf 455 (.inr (.inl (4, 2, 0, 8, [none, none, none, none, none, none]))))))
  (nd 458 (lf 458 (.inr (.inl (7, 2, 0, 33, [none, none]))))
  (nd 461 (lf 461 (.inl (xPop2 462)))
  (lf 462 (.inr (.inr 0))))))))
def tq2 (T : List OwnL.SR) : Nat → Option OwnL.ME := (nd 13 (nd 0 (lf 0 (.inl (xSeq 1 (xLoad 1 1 1) (xSeq 2 (xLoad 0 0 2) (xSeq 3 (xLen 3) (xIcmp .ne 14 6))))))
  (nd 6 (lf 6 (.inl (xLoad 0 0 7)))
  (lf 13 (.inr (.inr 1)))))
  (nd 25 (nd 14 (lf 14 (.inl (xSeq 15 (xLoad 1 1 15) (xSeq 17 (xNewA false 17) (xSeq 18 (xStore 0 2 18) (xSeq 19 (xLoad 0 0 19) (xSeq 20 (xPush (0) 20) (xSeq 21 (xLoad 0 2 21) (xSeq 22 (xPush (0) 22) (xSeq 23 (xLoad 0 0 23) (xSeq 24 (xLen 24) (xLoad 1 1 25))))))))))))
  (lf 25 (.inr (.inl (3, 2, 0, 13, [])))))
  (nd 28 (lf 28 (.inl (xSeq 31 (xCopy 31) (xLoad 0 2 32))))
  (lf 32 (.inr (.inr 1))))))
def tq3 (T : List OwnL.SR) : Nat → Option OwnL.ME := (nd 5 (nd 0 (lf 0 (.inl (xSeq 1 (xLoad 1 0 1) (xSeq 2 (xLoad 1 1 2) (xIcmp .gt 9 5)))))
  (lf 5 (.inl (xSeq 6 (xLoad 1 0 6) (xGoto 10)))))
  (nd 9 (lf 9 (.inl (xLoad 1 1 10)))
  (lf 10 (.inr (.inr 2)))))
def tq4 (T : List OwnL.SR) : Nat → Option OwnL.ME := (nd 36 (nd 9 (nd 0 (lf 0 (.inl (xSeq 1 (xLoad 2 0 1) (xSeq 2 (xLoad 2 2 2) (xSeq 3 (xLop false (· * ·) 3) (xSeq 5 (xLstore 4 5 5) (xLoad 2 0 6)))))))
  (nd 6 (lf 6 (.inr (.inl (5, 1, 0, 8, []))))
  (lf 9 (.inl (xSeq 11 (xLstore 6 7 11) (xLoad 2 2 12))))))
  (nd 15 (nd 12 (lf 12 (.inr (.inl (5, 1, 0, 8, []))))
  (lf 15 (.inl (xSeq 17 (xLstore 8 9 17) (xSeq 19 (xLoad 2 6 19) (xSeq 21 (xLoad 2 8 21) (xSeq 22 (xLop false (· ||| ·) 22) (xSeq 24 (xPush (31) 24) (xSeq 25 (xLushr 25) (xSeq 26 (xLpush 0 26) (xLif T .eq 71 30)))))))))))
  (nd 30 (lf 30 (.inl (xSeq 31 (xLoad 2 2 31) (xSeq 32 (xLpush 0 32) (xLif T .eq 45 36)))))
  (lf 36 (.inl (xSeq 38 (xLoad 2 4 38) (xSeq 39 (xLoad 2 2 39) (xSeq 40 (xLop true (· / ·) 40) (xSeq 41 (xLoad 2 0 41) (xLif T .ne 61 45))))))))))
  (nd 53 (nd 45 (lf 45 (.inl (xLoad 2 0 46)))
  (nd 49 (lf 49 (.inl (xLif T .ne 71 53)))
  (lf 53 (.inl (xLoad 2 2 54)))))
  (nd 64 (nd 57 (lf 57 (.inl (xLif T .ne 71 61)))
  (lf 64 (.inl (xDup 65))))
  (nd 71 (lf 71 (.inl (xLoad 2 4 73)))
  (lf 73 (.inr (.inr 3)))))))
def tq5 (T : List OwnL.SR) : Nat → Option OwnL.ME := (nd 6 (nd 0 (lf 0 (.inl (xSeq 1 (xLoad 2 0 1) (xSeq 2 (xLpush 0 2) (xLif T .ge 11 6)))))
  (lf 6 (.inl (xSeq 7 (xLoad 2 0 7) (xSeq 8 (xLneg 8) (xGoto 12))))))
  (nd 11 (lf 11 (.inl (xLoad 2 0 12)))
  (lf 12 (.inr (.inr 3)))))
def tq6 (T : List OwnL.SR) : Nat → Option OwnL.ME := (nd 6 (nd 0 (lf 0 (.inl (xSeq 1 (xLoad 2 0 1) (xSeq 2 (xLoad 2 2 2) (xLif T .lt 10 6)))))
  (lf 6 (.inl (xSeq 7 (xLoad 2 0 7) (xGoto 11)))))
  (nd 10 (lf 10 (.inl (xLoad 2 2 11)))
  (lf 11 (.inr (.inr 3)))))
def tq7 (T : List OwnL.SR) : Nat → Option OwnL.ME := (nd 22 (nd 0 (lf 0 (.inl (xSeq 1 (xLoad 2 0 1) (xSeq 2 (xLoad 2 2 2) (xSeq 3 (xLbin Int.add 3) (xSeq 5 (xLstore 4 5 5) (xSeq 6 (xLoad 2 0 6) (xSeq 8 (xLoad 2 4 8) (xSeq 9 (xLop false (· ^^^ ·) 9) (xSeq 10 (xLoad 2 2 10) (xSeq 12 (xLoad 2 4 12) (xSeq 13 (xLop false (· ^^^ ·) 13) (xSeq 14 (xLop false (· &&& ·) 14) (xSeq 15 (xLpush 0 15) (xLif T .ge 29 19)))))))))))))))
  (lf 22 (.inl (xDup 23))))
  (nd 29 (lf 29 (.inl (xLoad 2 4 31)))
  (lf 31 (.inr (.inr 3)))))
def tq8 (T : List OwnL.SR) : Nat → Option OwnL.ME := (nd 26 (nd 11 (nd 0 (lf 0 (.inl (xSeq 1 (xLoad 0 0 1) (xSeq 4 (xGet 1 12 4) (xLstore 1 2 5)))))
  (nd 5 (lf 5 (.inl (xSeq 6 (xLoad 2 1 6) (xSeq 7 (xLpush 1 7) (xLif T .le 42 11)))))
  (lf 11 (.inl (xSeq 12 (xLpush 1 12) (xSeq 13 (xLoad 2 1 13) (xSeq 16 (xLpush (16) 16) (xLop true (· / ·) 17))))))))
  (nd 20 (nd 17 (lf 17 (.inr (.inl (6, 2, 0, 85, []))))
  (lf 20 (.inl (xSeq 21 (xLstore 1 2 21) (xSeq 22 (xLoad 0 0 22) (xLoad 2 1 23))))))
  (nd 23 (lf 23 (.inr (.inl (9, 2, 3, 8, [none, none]))))
  (lf 26 (.inl (xSeq 27 (xLoad 2 1 27) (xSeq 28 (xLpush 1 28) (xLif T .le 5 32))))))))
  (nd 39 (nd 32 (lf 32 (.inl (xLoad 0 0 33)))
  (nd 36 (lf 36 (.inl (xIf .eq 5 39)))
  (lf 39 (.inl (xGoto 42)))))
  (nd 44 (nd 42 (lf 42 (.inl (xSeq 43 (xPush (0) 43) (xStore 1 3 44))))
  (lf 44 (.inl (xSeq 45 (xLoad 1 3 45) (xSeq 46 (xLoad 0 0 46) (xSeq 49 (xGet 1 0 49) (xSeq 52 (xGet 0 7 52) (xIcmp .ge 86 55))))))))
  (nd 55 (lf 55 (.inl (xSeq 56 (xLoad 0 0 56) (xSeq 59 (xGet 1 0 59) (xSeq 62 (xGet 0 4 62) (xSeq 63 (xLoad 1 3 63) (xSeq 64 (xLoad 0 0 64) (xSeq 67 (xGet 1 10 67) (xSeq 68 (xLoad 0 0 68) (xSeq 71 (xGet 1 9 71) (xSeq 72 (xLoad 0 0 72) (xSeq 75 (xGet 1 2 75) (xSeq 76 (xLoad 1 3 76) (xSeq 77 (xIaload 77) (xSeq 78 (xIaload 78) (xSeq 79 (xLaload 79) (xSeq 80 (xLastore 80) (xSeq 83 (xInc 3 (1) 83) (xGoto 44)))))))))))))))))))
  (lf 86 (.inr (.inr 0)))))))
def tq9 (T : List OwnL.SR) : Nat → Option OwnL.ME := (nd 72 (nd 34 (nd 2 (nd 0 (lf 0 (.inl (xSeq 1 (xPush (0) 1) (xStore 1 3 2))))
  (lf 2 (.inl (xSeq 3 (xLoad 1 3 3) (xSeq 4 (xLoad 0 0 4) (xSeq 7 (xGet 1 0 7) (xSeq 10 (xGet 0 5 10) (xIcmp .ge 84 13))))))))
  (nd 13 (lf 13 (.inl (xSeq 14 (xLoad 0 0 14) (xSeq 17 (xGet 1 1 17) (xSeq 18 (xLoad 1 3 18) (xSeq 19 (xIaload 19) (xStore 1 4 21)))))))
  (nd 21 (lf 21 (.inl (xSeq 23 (xLoad 1 4 23) (xSeq 24 (xLoad 0 0 24) (xSeq 27 (xGet 1 1 27) (xSeq 28 (xLoad 1 3 28) (xSeq 29 (xPush (1) 29) (xSeq 30 (xBin Int.add 30) (xSeq 31 (xIaload 31) (xIcmp .ge 78 34))))))))))
  (lf 34 (.inl (xSeq 35 (xLoad 0 0 35) (xSeq 38 (xGet 1 10 38) (xSeq 40 (xLoad 1 4 40) (xSeq 41 (xLaload 41) (xSeq 42 (xLpush 0 42) (xLif T .le 72 46)))))))))))
  (nd 53 (nd 46 (lf 46 (.inl (xSeq 47 (xLoad 0 0 47) (xSeq 48 (xLoad 1 3 48) (xLoad 1 4 50)))))
  (nd 50 (lf 50 (.inr (.inl (11, 3, 3, 62, []))))
  (lf 53 (.inl (xSeq 54 (xLpush 0 54) (xLif T .ge 72 58))))))
  (nd 58 (lf 58 (.inl (xSeq 59 (xLoad 0 0 59) (xSeq 60 (xLoad 1 3 60) (xSeq 62 (xLoad 1 4 62) (xSeq 63 (xLoad 0 0 63) (xSeq 66 (xGet 1 10 66) (xSeq 68 (xLoad 1 4 68) (xLaload 69)))))))))
  (nd 69 (lf 69 (.inr (.inl (12, 4, 3, 60, []))))
  (lf 72 (.inl (xSeq 75 (xInc 4 (1) 75) (xGoto 21))))))))
  (nd 132 (nd 96 (nd 78 (lf 78 (.inl (xSeq 81 (xInc 3 (1) 81) (xGoto 2))))
  (nd 84 (lf 84 (.inl (xSeq 85 (xLoad 0 0 85) (xSeq 86 (xPush (0) 86) (xSeq 89 (xPut 1 1 13 89) (xSeq 90 (xLoad 0 0 90) (xSeq 91 (xPush (0) 91) (xSeq 94 (xPut 1 1 14 94) (xSeq 95 (xPush (0) 95) (xStore 1 3 96))))))))))
  (lf 96 (.inl (xSeq 97 (xLoad 1 3 97) (xSeq 98 (xLoad 0 0 98) (xSeq 101 (xGet 1 0 101) (xSeq 104 (xGet 0 5 104) (xIcmp .ge 141 107)))))))))
  (nd 107 (lf 107 (.inl (xSeq 108 (xLoad 0 0 108) (xSeq 111 (xGet 1 6 111) (xSeq 112 (xLoad 1 3 112) (xSeq 113 (xLoad 0 0 113) (xSeq 116 (xGet 1 1 116) (xSeq 117 (xLoad 1 3 117) (xSeq 118 (xIaload 118) (xSeq 119 (xIastore 119) (xSeq 120 (xLoad 0 0 120) (xSeq 123 (xGet 1 5 123) (xSeq 124 (xLoad 1 3 124) (xSeq 125 (xLaload 125) (xSeq 126 (xLpush 0 126) (xLif T .le 135 130))))))))))))))))
  (nd 130 (lf 130 (.inl (xSeq 131 (xLoad 0 0 131) (xLoad 1 3 132))))
  (lf 132 (.inr (.inl (13, 2, 3, 63, [])))))))
  (nd 148 (nd 135 (lf 135 (.inl (xSeq 138 (xInc 3 (1) 138) (xGoto 96))))
  (nd 141 (lf 141 (.inl (xSeq 142 (xLoad 0 0 142) (xSeq 145 (xGet 1 14 145) (xIf .le 195 148)))))
  (lf 148 (.inl (xSeq 149 (xLoad 0 0 149) (xSeq 152 (xGet 1 7 152) (xSeq 153 (xLoad 0 0 153) (xSeq 156 (xGet 1 13 156) (xSeq 157 (xIaload 157) (xSeq 158 (xStore 1 3 158) (xSeq 159 (xLoad 0 0 159) (xSeq 160 (xLoad 0 0 160) (xSeq 163 (xGet 1 13 163) (xSeq 164 (xPush (1) 164) (xSeq 165 (xBin Int.add 165) (xSeq 166 (xLoad 0 0 166) (xSeq 169 (xGet 1 0 169) (xSeq 172 (xGet 0 5 172) (xSeq 173 (xRem 173) (xSeq 176 (xPut 1 1 13 176) (xSeq 177 (xLoad 0 0 177) (xSeq 178 (xDup 178) (xSeq 181 (xGet 1 14 181) (xSeq 182 (xPush (1) 182) (xSeq 183 (xBin Int.sub 183) (xSeq 186 (xPut 1 1 14 186) (xSeq 187 (xLoad 0 0 187) (xSeq 188 (xLoad 1 3 188) (xLoad 2 1 189)))))))))))))))))))))))))))))
  (nd 189 (lf 189 (.inr (.inl (14, 3, 3, 8, [none, none, none, none]))))
  (nd 192 (lf 192 (.inl (xGoto 141)))
  (lf 195 (.inr (.inr 0))))))))
def tq10 (T : List OwnL.SR) : Nat → Option OwnL.ME := (nd 6 (nd 0 (lf 0 (.inl (xSeq 1 (xLoad 2 0 1) (xSeq 2 (xLoad 2 2 2) (xLif T .gt 10 6)))))
  (lf 6 (.inl (xSeq 7 (xLoad 2 0 7) (xGoto 11)))))
  (nd 10 (lf 10 (.inl (xLoad 2 2 11)))
  (lf 11 (.inr (.inr 3)))))
def tq11 (T : List OwnL.SR) : Nat → Option OwnL.ME := (nd 0 (lf 0 (.inl (xSeq 1 (xLoad 0 0 1) (xSeq 4 (xGet 1 11 4) (xSeq 5 (xLoad 1 2 5) (xSeq 6 (xLaload 6) (xSeq 7 (xLoad 0 0 7) (xSeq 10 (xGet 1 4 10) (xSeq 11 (xLoad 1 1 11) (xSeq 12 (xLaload 12) (xSeq 13 (xLbin Int.add 13) (xSeq 14 (xLoad 0 0 14) (xSeq 17 (xGet 1 4 17) (xSeq 18 (xLoad 0 0 18) (xSeq 21 (xGet 1 8 21) (xSeq 22 (xLoad 1 2 22) (xSeq 23 (xIaload 23) (xSeq 24 (xLaload 24) (xLbin Int.sub 25)))))))))))))))))))
  (lf 25 (.inr (.inr 3))))
def tq12 (T : List OwnL.SR) : Nat → Option OwnL.ME := (nd 0 (lf 0 (.inl (xSeq 1 (xLoad 0 0 1) (xSeq 4 (xGet 1 10 4) (xSeq 5 (xLoad 1 2 5) (xSeq 6 (xDup2 6) (xSeq 7 (xLaload 7) (xSeq 8 (xLoad 2 3 8) (xSeq 9 (xLbin Int.sub 9) (xSeq 10 (xLastore 10) (xSeq 11 (xLoad 0 0 11) (xSeq 14 (xGet 1 10 14) (xSeq 15 (xLoad 0 0 15) (xSeq 18 (xGet 1 9 18) (xSeq 19 (xLoad 1 2 19) (xSeq 20 (xIaload 20) (xSeq 21 (xDup2 21) (xSeq 22 (xLaload 22) (xSeq 23 (xLoad 2 3 23) (xSeq 24 (xLbin Int.add 24) (xSeq 25 (xLastore 25) (xSeq 26 (xLoad 0 0 26) (xSeq 29 (xGet 1 5 29) (xSeq 30 (xLoad 1 1 30) (xSeq 31 (xDup2 31) (xSeq 32 (xLaload 32) (xSeq 33 (xLoad 2 3 33) (xSeq 34 (xLbin Int.sub 34) (xSeq 35 (xLastore 35) (xSeq 36 (xLoad 0 0 36) (xSeq 39 (xGet 1 5 39) (xSeq 40 (xLoad 0 0 40) (xSeq 43 (xGet 1 8 43) (xSeq 44 (xLoad 1 2 44) (xSeq 45 (xIaload 45) (xSeq 46 (xDup2 46) (xSeq 47 (xLaload 47) (xSeq 48 (xLoad 2 3 48) (xSeq 49 (xLbin Int.add 49) (xLastore 50))))))))))))))))))))))))))))))))))))))))
  (lf 50 (.inr (.inr 0))))
def tq13 (T : List OwnL.SR) : Nat → Option OwnL.ME := (nd 0 (lf 0 (.inl (xSeq 1 (xLoad 0 0 1) (xSeq 4 (xGet 1 7 4) (xSeq 5 (xLoad 0 0 5) (xSeq 8 (xGet 1 13 8) (xSeq 9 (xLoad 0 0 9) (xSeq 12 (xGet 1 14 12) (xSeq 13 (xBin Int.add 13) (xSeq 14 (xLoad 0 0 14) (xSeq 17 (xGet 1 0 17) (xSeq 20 (xGet 0 5 20) (xSeq 21 (xRem 21) (xSeq 22 (xLoad 1 1 22) (xSeq 23 (xIastore 23) (xSeq 24 (xLoad 0 0 24) (xSeq 25 (xDup 25) (xSeq 28 (xGet 1 14 28) (xSeq 29 (xPush (1) 29) (xSeq 30 (xBin Int.add 30) (xPut 1 1 14 33)))))))))))))))))))))
  (lf 33 (.inr (.inr 0))))
def tq14 (T : List OwnL.SR) : Nat → Option OwnL.ME := (nd 79 (nd 52 (nd 29 (nd 0 (lf 0 (.inl (xSeq 1 (xLoad 0 0 1) (xSeq 4 (xGet 1 5 4) (xSeq 5 (xLoad 1 1 5) (xSeq 6 (xLaload 6) (xSeq 7 (xLpush 0 7) (xLif T .le 167 11))))))))
  (nd 11 (lf 11 (.inl (xSeq 12 (xLoad 0 0 12) (xSeq 15 (xGet 1 6 15) (xSeq 16 (xLoad 1 1 16) (xSeq 17 (xIaload 17) (xSeq 19 (xStore 1 4 19) (xSeq 20 (xLoad 0 0 20) (xSeq 23 (xGet 1 1 23) (xSeq 24 (xLoad 1 1 24) (xSeq 25 (xPush (1) 25) (xSeq 26 (xBin Int.add 26) (xSeq 27 (xIaload 27) (xStore 1 5 29))))))))))))))
  (lf 29 (.inl (xSeq 31 (xLoad 1 4 31) (xSeq 33 (xLoad 1 5 33) (xIcmp .ge 66 36)))))))
  (nd 36 (lf 36 (.inl (xSeq 37 (xLoad 0 0 37) (xSeq 40 (xGet 1 10 40) (xSeq 42 (xLoad 1 4 42) (xSeq 43 (xLaload 43) (xSeq 44 (xLpush 0 44) (xLif T .eq 60 48))))))))
  (nd 48 (lf 48 (.inl (xSeq 49 (xLoad 0 0 49) (xSeq 50 (xLoad 1 1 50) (xLoad 1 4 52)))))
  (lf 52 (.inr (.inl (11, 3, 3, 35, [])))))))
  (nd 66 (nd 55 (lf 55 (.inl (xSeq 56 (xLpush 0 56) (xLif T .lt 66 60))))
  (nd 60 (lf 60 (.inl (xSeq 63 (xInc 4 (1) 63) (xGoto 29))))
  (lf 66 (.inl (xSeq 68 (xLoad 1 4 68) (xSeq 70 (xLoad 1 5 70) (xIcmp .ne 82 73)))))))
  (nd 73 (lf 73 (.inl (xSeq 74 (xLoad 0 0 74) (xSeq 75 (xLoad 1 1 75) (xLoad 2 2 76)))))
  (nd 76 (lf 76 (.inr (.inl (15, 3, 3, 8, [none, none, none]))))
  (lf 79 (.inl (xGoto 0)))))))
  (nd 138 (nd 115 (nd 82 (lf 82 (.inl (xSeq 83 (xLoad 0 0 83) (xSeq 86 (xGet 1 6 86) (xSeq 87 (xLoad 1 1 87) (xSeq 89 (xLoad 1 4 89) (xSeq 90 (xIastore 90) (xSeq 91 (xLoad 0 0 91) (xSeq 94 (xGet 1 8 94) (xSeq 96 (xLoad 1 4 96) (xSeq 97 (xIaload 97) (xSeq 99 (xStore 1 6 99) (xSeq 100 (xLoad 0 0 100) (xSeq 103 (xGet 1 5 103) (xSeq 105 (xLoad 1 6 105) (xSeq 106 (xLaload 106) (xSeq 107 (xLpush 0 107) (xLif T .le 115 111))))))))))))))))))
  (nd 111 (lf 111 (.inl (xSeq 112 (xPush (1) 112) (xGoto 116))))
  (lf 115 (.inl (xPush (0) 116)))))
  (nd 116 (lf 116 (.inl (xSeq 118 (xStore 1 7 118) (xSeq 119 (xLoad 0 0 119) (xSeq 120 (xLoad 1 1 120) (xSeq 122 (xLoad 1 4 122) (xSeq 123 (xLoad 0 0 123) (xSeq 126 (xGet 1 5 126) (xSeq 127 (xLoad 1 1 127) (xSeq 128 (xLaload 128) (xSeq 129 (xLoad 0 0 129) (xSeq 132 (xGet 1 10 132) (xSeq 134 (xLoad 1 4 134) (xLaload 135))))))))))))))
  (nd 135 (lf 135 (.inr (.inl (10, 2, 0, 34, []))))
  (lf 138 (.inr (.inl (12, 4, 3, 33, [])))))))
  (nd 158 (nd 141 (lf 141 (.inl (xSeq 143 (xLoad 1 7 143) (xIf .ne 164 146))))
  (nd 146 (lf 146 (.inl (xSeq 147 (xLoad 0 0 147) (xSeq 150 (xGet 1 5 150) (xSeq 152 (xLoad 1 6 152) (xSeq 153 (xLaload 153) (xSeq 154 (xLpush 0 154) (xLif T .le 164 158))))))))
  (lf 158 (.inl (xSeq 159 (xLoad 0 0 159) (xLoad 1 6 161))))))
  (nd 161 (lf 161 (.inr (.inl (13, 2, 3, 36, []))))
  (nd 164 (lf 164 (.inl (xGoto 0)))
  (lf 167 (.inr (.inr 0))))))))
def tq15 (T : List OwnL.SR) : Nat → Option OwnL.ME := (nd 38 (nd 13 (nd 0 (lf 0 (.inl (xSeq 3 (xLpush (-9223372036854775808) 3) (xSeq 5 (xLstore 4 5 5) (xSeq 6 (xLoad 0 0 6) (xSeq 9 (xGet 1 1 9) (xSeq 10 (xLoad 1 1 10) (xSeq 11 (xIaload 11) (xStore 1 6 13)))))))))
  (lf 13 (.inl (xSeq 15 (xLoad 1 6 15) (xSeq 16 (xLoad 0 0 16) (xSeq 19 (xGet 1 1 19) (xSeq 20 (xLoad 1 1 20) (xSeq 21 (xPush (1) 21) (xSeq 22 (xBin Int.add 22) (xSeq 23 (xIaload 23) (xIcmp .ge 71 26)))))))))))
  (nd 26 (lf 26 (.inl (xSeq 27 (xLoad 0 0 27) (xSeq 30 (xGet 1 10 30) (xSeq 32 (xLoad 1 6 32) (xSeq 33 (xLaload 33) (xSeq 34 (xLpush 0 34) (xLif T .le 65 38))))))))
  (lf 38 (.inl (xSeq 40 (xLoad 2 4 40) (xSeq 41 (xLoad 0 0 41) (xSeq 44 (xGet 1 4 44) (xSeq 45 (xLoad 0 0 45) (xSeq 48 (xGet 1 8 48) (xSeq 50 (xLoad 1 6 50) (xSeq 51 (xIaload 51) (xSeq 52 (xLaload 52) (xSeq 53 (xLoad 0 0 53) (xSeq 56 (xGet 1 11 56) (xSeq 58 (xLoad 1 6 58) (xSeq 59 (xLaload 59) (xLbin Int.sub 60)))))))))))))))))
  (nd 63 (nd 60 (lf 60 (.inr (.inl (6, 2, 0, 8, []))))
  (lf 63 (.inl (xLstore 4 5 65))))
  (nd 65 (lf 65 (.inl (xSeq 68 (xInc 6 (1) 68) (xGoto 13))))
  (nd 71 (lf 71 (.inl (xSeq 72 (xLoad 0 0 72) (xSeq 75 (xGet 1 4 75) (xSeq 76 (xLoad 1 1 76) (xSeq 78 (xLoad 2 4 78) (xSeq 79 (xLoad 2 2 79) (xSeq 80 (xLbin Int.sub 80) (xSeq 81 (xLastore 81) (xSeq 82 (xLoad 0 0 82) (xSeq 85 (xGet 1 6 85) (xSeq 86 (xLoad 1 1 86) (xSeq 87 (xLoad 0 0 87) (xSeq 90 (xGet 1 1 90) (xSeq 91 (xLoad 1 1 91) (xSeq 92 (xIaload 92) (xIastore 93)))))))))))))))))
  (lf 93 (.inr (.inr 0)))))))
def TQ (T : List OwnL.SR) : Nat → Nat → Option OwnL.ME := (qn 0 (tq0 T) (qn 1 (tq1 T) (qn 2 (tq2 T) (qn 3 (tq3 T) (qn 4 (tq4 T) (qn 5 (tq5 T) (qn 6 (tq6 T) (qn 7 (tq7 T) (qn 8 (tq8 T) (qn 9 (tq9 T) (qn 10 (tq10 T) (qn 11 (tq11 T) (qn 12 (tq12 T) (qn 13 (tq13 T) (qn 14 (tq14 T) (qn 15 (tq15 T) qo))))))))))))))))
def mlQ (q : Nat) : Nat := [8, 9, 3, 2, 10, 2, 4, 6, 4, 5, 4, 3, 5, 2, 8, 7].getD q 0
def frQ (q : Nat) : Nat := [2, 2, 1, 0, 1, 0, 0, 0, 4, 3, 0, 0, 0, 0, 2, 1].getD q 0
def loQ (q : Nat) : Nat := [48, 50, 26, 0, 21, 0, 0, 0, 100, 76, 0, 0, 0, 0, 49, 23].getD q 0
def yyQ (q : Nat) : MethodName := [y3, y4, y5, y6, y7, y8, y9, y10, y11, y12, y20, y21, y22, y23, y24, y25].getD q y3
def bbQ (q : Nat) : ByteArray := [b3, b4, b5, b6, b7, b8, b9, b10, b11, b12, b20, b21, b22, b23, b24, b25].getD q b3
def rrQ (q : Nat) : Option FieldType := [(some .int), none, (some (.array .int)), (some .int), (some .long), (some .long), (some .long), (some .long), none, none, (some .long), (some .long), none, none, none, none].getD q none
set_option maxRecDepth 65536 in
set_option maxHeartbeats 40000000 in
theorem okq0 (l : Launch) {Z : State} {a0 : Array Value} (hw : HW1 Z a0) (n0 : Nat) {ν : OwnL.Va} (hν : ν.Ok) {T : List OwnL.SR} (hT : Sg ν T) : AllT (RowOk l Z a0 KT n0 ν mlQ frQ loQ yyQ bbQ rrQ 0) (tq0 T) := (ND (ND (ND (LF (ok_seq (ok_lload (Or.inr ⟨3, rfl, s3_0⟩))
   (ok_seq (ok_lconst s3_1 (by decide))
   (ok_lif hν hT s3_2 s3_3))))
  (ND (LF (ok_seq (ok_dup s3_9)
   (ok_lload (Or.inr ⟨3, rfl, s3_10⟩))))
  (LF (ok_seq (ok_lload (Or.inr ⟨3, rfl, s3_20⟩))
   (ok_seq (ok_ldc2 s3_21 (k_0 hw) (by decide))
   (ok_seq (ok_aload (Or.inr ⟨0, rfl, s3_24⟩))
   (ok_seq (ok_get s3_25 (k_1 hw))
   (ok_seq (ok_lsub s3_28)
   (ok_lif hν hT s3_29 s3_30)))))))))
  (ND (ND (LF (ok_dup s3_36))
  (LF (ok_seq (ok_aload (Or.inr ⟨0, rfl, s3_43⟩))
   (ok_seq (ok_dup s3_44)
   (ok_seq (ok_get s3_45 (k_1 hw))
   (ok_seq (ok_lload (Or.inr ⟨3, rfl, s3_48⟩))
   (ok_seq (ok_ladd s3_49)
   (ok_seq (ok_put s3_50 (k_2 hw) (fun v hv => by rcases v with z | (_ | i) | _ <;> first | exact ⟨rfl, rfl⟩ | cases hv))
   (ok_seq (ok_aload (Or.inr ⟨0, rfl, s3_53⟩))
   (ok_seq (ok_get s3_54 (k_3 hw))
   (ok_seq (ok_aload (Or.inr ⟨0, rfl, s3_57⟩))
   (ok_seq (ok_get s3_58 (k_4 hw))
   (ok_seq (ok_len s3_61)
   (ok_icmp s3_62))))))))))))))
  (ND (LF (ok_seq (ok_push (Or.inl s3_65))
   (ok_seq (ok_aload (Or.inr ⟨0, rfl, s3_66⟩))
   (ok_seq (ok_get s3_67 (k_3 hw))
   (ok_seq (ok_mul s3_70)
   (ok_seq (ok_istore (Or.inl s3_71))
   (ok_seq (ok_aload (Or.inr ⟨0, rfl, s3_73⟩))
   (ok_seq (ok_aload (Or.inr ⟨0, rfl, s3_74⟩))
   (ok_seq (ok_get s3_75 (k_5 hw))
   (ok_iload (Or.inl s3_78)))))))))))
  (LF (⟨⟨leb rfl, leb rfl, 1, rfl⟩, (plainFor_of_name pn_6), okc_s s3_80 (k_7 hw)⟩)))))
  (ND (ND (ND (LF (ok_seq (ok_put s3_83 (k_8 hw) (fun v hv => by rcases v with z | (_ | i) | _ <;> first | exact ⟨rfl, rfl⟩ | cases hv))
   (ok_seq (ok_aload (Or.inr ⟨0, rfl, s3_86⟩))
   (ok_seq (ok_aload (Or.inr ⟨0, rfl, s3_87⟩))
   (ok_seq (ok_get s3_88 (k_4 hw))
   (ok_iload (Or.inl s3_91)))))))
  (LF (⟨⟨leb rfl, leb rfl, 1, rfl⟩, (plainFor_of_name pn_6), okc_s s3_93 (k_7 hw)⟩)))
  (ND (LF (ok_seq (ok_put s3_96 (k_9 hw) (fun v hv => by rcases v with z | (_ | i) | _ <;> first | exact ⟨rfl, rfl⟩ | cases hv))
   (ok_seq (ok_aload (Or.inr ⟨0, rfl, s3_99⟩))
   (ok_seq (ok_aload (Or.inr ⟨0, rfl, s3_100⟩))
   (ok_seq (ok_get s3_101 (k_10 hw))
   (ok_iload (Or.inl s3_104)))))))
  (LF (ok_seq (ok_put s3_109 (k_11 hw) (fun v hv => by rcases v with z | (_ | i) | _ <;> first | exact ⟨rfl, rfl⟩ | cases hv))
   (ok_seq (ok_aload (Or.inr ⟨0, rfl, s3_112⟩))
   (ok_seq (ok_aload (Or.inr ⟨0, rfl, s3_113⟩))
   (ok_seq (ok_get s3_114 (k_12 hw))
   (ok_iload (Or.inl s3_117)))))))))
  (ND (ND (LF (ok_seq (ok_put s3_122 (k_13 hw) (fun v hv => by rcases v with z | (_ | i) | _ <;> first | exact ⟨rfl, rfl⟩ | cases hv))
   (ok_seq (ok_aload (Or.inr ⟨0, rfl, s3_125⟩))
   (ok_seq (ok_aload (Or.inr ⟨0, rfl, s3_126⟩))
   (ok_seq (ok_get s3_127 (k_14 hw))
   (ok_iload (Or.inl s3_130)))))))
  (LF (ok_put s3_135 (k_15 hw) (fun v hv => by rcases v with z | (_ | i) | _ <;> first | exact ⟨rfl, rfl⟩ | cases hv))))
  (ND (LF (ok_seq (ok_aload (Or.inr ⟨0, rfl, s3_138⟩))
   (ok_seq (ok_get s3_139 (k_5 hw))
   (ok_seq (ok_aload (Or.inr ⟨0, rfl, s3_142⟩))
   (ok_seq (ok_get s3_143 (k_3 hw))
   (ok_seq (ok_iload (Or.inr ⟨1, rfl, s3_146⟩))
   (ok_seq (ok_iastore s3_147)
   (ok_seq (ok_aload (Or.inr ⟨0, rfl, s3_148⟩))
   (ok_seq (ok_get s3_149 (k_4 hw))
   (ok_seq (ok_aload (Or.inr ⟨0, rfl, s3_152⟩))
   (ok_seq (ok_get s3_153 (k_3 hw))
   (ok_seq (ok_iload (Or.inr ⟨2, rfl, s3_156⟩))
   (ok_seq (ok_iastore s3_157)
   (ok_seq (ok_aload (Or.inr ⟨0, rfl, s3_158⟩))
   (ok_seq (ok_get s3_159 (k_10 hw))
   (ok_seq (ok_aload (Or.inr ⟨0, rfl, s3_162⟩))
   (ok_seq (ok_get s3_163 (k_3 hw))
   (ok_seq (ok_lload (Or.inr ⟨3, rfl, s3_166⟩))
   (ok_seq (ok_lastore s3_167)
   (ok_seq (ok_aload (Or.inr ⟨0, rfl, s3_168⟩))
   (ok_seq (ok_get s3_169 (k_12 hw))
   (ok_seq (ok_aload (Or.inr ⟨0, rfl, s3_172⟩))
   (ok_seq (ok_get s3_173 (k_3 hw))
   (ok_seq (ok_lload (Or.inl s3_176))
   (ok_seq (ok_lastore s3_178)
   (ok_seq (ok_aload (Or.inr ⟨0, rfl, s3_179⟩))
   (ok_seq (ok_dup s3_180)
   (ok_seq (ok_get s3_181 (k_3 hw))
   (ok_seq (ok_dupX1 s3_184)
   (ok_seq (ok_push (Or.inl s3_185))
   (ok_seq (ok_add s3_186)
   (ok_put s3_187 (k_16 hw) (fun v hv => by rcases v with z | (_ | i) | _ <;> first | exact ⟨rfl, rfl⟩ | cases hv)))))))))))))))))))))))))))))))))
  (LF (⟨s3_190, rfl⟩))))))
set_option maxRecDepth 65536 in
set_option maxHeartbeats 40000000 in
theorem okq1 (l : Launch) {Z : State} {a0 : Array Value} (hw : HW1 Z a0) (n0 : Nat) {ν : OwnL.Va} (hν : ν.Ok) {T : List OwnL.SR} (hT : Sg ν T) : AllT (RowOk l Z a0 KT n0 ν mlQ frQ loQ yyQ bbQ rrQ 1) (tq1 T) := (ND (ND (ND (ND (LF (ok_seq (ok_aload (Or.inr ⟨0, rfl, s4_0⟩))
   (ok_seq (ok_aload (Or.inr ⟨1, rfl, s4_1⟩))
   (ok_seq (ok_put s4_2 (k_17 hw) (fun v hv => by rcases v with z | (_ | i) | _ <;> first | exact ⟨rfl, rfl⟩ | cases hv))
   (ok_seq (ok_aload (Or.inr ⟨0, rfl, s4_5⟩))
   (ok_seq (ok_init s4_6 (k_18 hw) (by decide) (by decide))
   (ok_seq (ok_aload (Or.inr ⟨0, rfl, s4_9⟩))
   (ok_seq (ok_aload (Or.inr ⟨0, rfl, s4_10⟩))
   (ok_seq (ok_get s4_11 (k_19 hw))
   (ok_seq (ok_get s4_14 (k_20 hw))
   (ok_seq (ok_push (Or.inl s4_17))
   (ok_seq (ok_add s4_18)
   (ok_seq (ok_newI s4_19 (k_21 hw))
   (ok_seq (ok_put s4_21 (k_22 hw) (fun v hv => by rcases v with z | (_ | i) | _ <;> first | exact ⟨rfl, rfl⟩ | cases hv))
   (ok_seq (ok_aload (Or.inr ⟨0, rfl, s4_24⟩))
   (ok_seq (ok_aload (Or.inr ⟨0, rfl, s4_25⟩))
   (ok_seq (ok_get s4_26 (k_19 hw))
   (ok_seq (ok_get s4_29 (k_23 hw))
   (ok_seq (ok_newI s4_32 (k_21 hw))
   (ok_seq (ok_put s4_34 (k_24 hw) (fun v hv => by rcases v with z | (_ | i) | _ <;> first | exact ⟨rfl, rfl⟩ | cases hv))
   (ok_seq (ok_aload (Or.inr ⟨0, rfl, s4_37⟩))
   (ok_seq (ok_aload (Or.inr ⟨0, rfl, s4_38⟩))
   (ok_seq (ok_get s4_39 (k_19 hw))
   (ok_seq (ok_get s4_42 (k_20 hw))
   (ok_seq (ok_i2l s4_45)
   (ok_seq (ok_lconst s4_46 (by decide))
   (ok_seq (ok_ladd s4_47)
   (ok_seq (ok_put s4_48 (k_25 hw) (fun v hv => by rcases v with z | (_ | i) | _ <;> first | exact ⟨rfl, rfl⟩ | cases hv))
   (ok_seq (ok_aload (Or.inr ⟨0, rfl, s4_51⟩))
   (ok_seq (ok_aload (Or.inr ⟨0, rfl, s4_52⟩))
   (ok_seq (ok_get s4_53 (k_19 hw))
   (ok_seq (ok_get s4_56 (k_20 hw))
   (ok_seq (ok_newL s4_59 (k_26 hw))
   (ok_seq (ok_put s4_61 (k_27 hw) (fun v hv => by rcases v with z | (_ | i) | _ <;> first | exact ⟨rfl, rfl⟩ | cases hv))
   (ok_seq (ok_aload (Or.inr ⟨0, rfl, s4_64⟩))
   (ok_seq (ok_aload (Or.inr ⟨0, rfl, s4_65⟩))
   (ok_seq (ok_get s4_66 (k_19 hw))
   (ok_seq (ok_get s4_69 (k_20 hw))
   (ok_seq (ok_newL s4_72 (k_26 hw))
   (ok_seq (ok_put s4_74 (k_28 hw) (fun v hv => by rcases v with z | (_ | i) | _ <;> first | exact ⟨rfl, rfl⟩ | cases hv))
   (ok_seq (ok_aload (Or.inr ⟨0, rfl, s4_77⟩))
   (ok_seq (ok_aload (Or.inr ⟨0, rfl, s4_78⟩))
   (ok_seq (ok_get s4_79 (k_19 hw))
   (ok_seq (ok_get s4_82 (k_20 hw))
   (ok_seq (ok_newI s4_85 (k_21 hw))
   (ok_seq (ok_put s4_87 (k_29 hw) (fun v hv => by rcases v with z | (_ | i) | _ <;> first | exact ⟨rfl, rfl⟩ | cases hv))
   (ok_seq (ok_aload (Or.inr ⟨0, rfl, s4_90⟩))
   (ok_seq (ok_aload (Or.inr ⟨0, rfl, s4_91⟩))
   (ok_seq (ok_get s4_92 (k_19 hw))
   (ok_seq (ok_get s4_95 (k_20 hw))
   (ok_seq (ok_newI s4_98 (k_21 hw))
   (ok_seq (ok_put s4_100 (k_30 hw) (fun v hv => by rcases v with z | (_ | i) | _ <;> first | exact ⟨rfl, rfl⟩ | cases hv))
   (ok_seq (ok_push (Or.inl s4_103))
   (ok_seq (ok_aload (Or.inr ⟨1, rfl, s4_104⟩))
   (ok_seq (ok_get s4_105 (k_23 hw))
   (ok_seq (ok_mul s4_108)
   (ok_seq (ok_istore (Or.inr ⟨2, rfl, s4_109⟩))
   (ok_seq (ok_aload (Or.inr ⟨0, rfl, s4_110⟩))
   (ok_seq (ok_iload (Or.inr ⟨2, rfl, s4_111⟩))
   (ok_seq (ok_newI s4_112 (k_21 hw))
   (ok_seq (ok_put s4_114 (k_31 hw) (fun v hv => by rcases v with z | (_ | i) | _ <;> first | exact ⟨rfl, rfl⟩ | cases hv))
   (ok_seq (ok_aload (Or.inr ⟨0, rfl, s4_117⟩))
   (ok_seq (ok_iload (Or.inr ⟨2, rfl, s4_118⟩))
   (ok_seq (ok_newI s4_119 (k_21 hw))
   (ok_seq (ok_put s4_121 (k_32 hw) (fun v hv => by rcases v with z | (_ | i) | _ <;> first | exact ⟨rfl, rfl⟩ | cases hv))
   (ok_seq (ok_aload (Or.inr ⟨0, rfl, s4_124⟩))
   (ok_seq (ok_iload (Or.inr ⟨2, rfl, s4_125⟩))
   (ok_seq (ok_newL s4_126 (k_26 hw))
   (ok_seq (ok_put s4_128 (k_33 hw) (fun v hv => by rcases v with z | (_ | i) | _ <;> first | exact ⟨rfl, rfl⟩ | cases hv))
   (ok_seq (ok_aload (Or.inr ⟨0, rfl, s4_131⟩))
   (ok_seq (ok_iload (Or.inr ⟨2, rfl, s4_132⟩))
   (ok_seq (ok_newL s4_133 (k_26 hw))
   (ok_seq (ok_put s4_135 (k_34 hw) (fun v hv => by rcases v with z | (_ | i) | _ <;> first | exact ⟨rfl, rfl⟩ | cases hv))
   (ok_seq (ok_push (Or.inl s4_138))
   (ok_istore (Or.inr ⟨3, rfl, s4_139⟩))))))))))))))))))))))))))))))))))))))))))))))))))))))))))))))))))))))))))))
  (LF (ok_seq (ok_iload (Or.inr ⟨3, rfl, s4_140⟩))
   (ok_seq (ok_aload (Or.inr ⟨1, rfl, s4_141⟩))
   (ok_seq (ok_get s4_142 (k_23 hw))
   (ok_icmp s4_145))))))
  (ND (LF (ok_seq (ok_aload (Or.inr ⟨0, rfl, s4_148⟩))
   (ok_seq (ok_get s4_149 (k_35 hw))
   (ok_seq (ok_aload (Or.inr ⟨1, rfl, s4_152⟩))
   (ok_seq (ok_get s4_153 (k_36 hw))
   (ok_seq (ok_iload (Or.inr ⟨3, rfl, s4_156⟩))
   (ok_seq (ok_iaload s4_157)
   (ok_seq (ok_push (Or.inl s4_158))
   (ok_seq (ok_add s4_159)
   (ok_seq (ok_dup2 s4_160)
   (ok_seq (ok_iaload s4_161)
   (ok_seq (ok_push (Or.inl s4_162))
   (ok_seq (ok_add s4_163)
   (ok_seq (ok_iastore s4_164)
   (ok_seq (ok_aload (Or.inr ⟨0, rfl, s4_165⟩))
   (ok_seq (ok_get s4_166 (k_35 hw))
   (ok_seq (ok_aload (Or.inr ⟨1, rfl, s4_169⟩))
   (ok_seq (ok_get s4_170 (k_37 hw))
   (ok_seq (ok_iload (Or.inr ⟨3, rfl, s4_173⟩))
   (ok_seq (ok_iaload s4_174)
   (ok_seq (ok_push (Or.inl s4_175))
   (ok_seq (ok_add s4_176)
   (ok_seq (ok_dup2 s4_177)
   (ok_seq (ok_iaload s4_178)
   (ok_seq (ok_push (Or.inl s4_179))
   (ok_seq (ok_add s4_180)
   (ok_seq (ok_iastore s4_181)
   (ok_seq (ok_inc s4_182)
   (ok_goto s4_185)))))))))))))))))))))))))))))
  (ND (LF (ok_seq (ok_push (Or.inl s4_188))
   (ok_istore (Or.inr ⟨3, rfl, s4_189⟩))))
  (LF (ok_seq (ok_iload (Or.inr ⟨3, rfl, s4_190⟩))
   (ok_seq (ok_aload (Or.inr ⟨1, rfl, s4_191⟩))
   (ok_seq (ok_get s4_192 (k_20 hw))
   (ok_icmp s4_195))))))))
  (ND (ND (LF (ok_seq (ok_aload (Or.inr ⟨0, rfl, s4_198⟩))
   (ok_seq (ok_get s4_199 (k_35 hw))
   (ok_seq (ok_iload (Or.inr ⟨3, rfl, s4_202⟩))
   (ok_seq (ok_push (Or.inl s4_203))
   (ok_seq (ok_add s4_204)
   (ok_seq (ok_dup2 s4_205)
   (ok_seq (ok_iaload s4_206)
   (ok_seq (ok_aload (Or.inr ⟨0, rfl, s4_207⟩))
   (ok_seq (ok_get s4_208 (k_35 hw))
   (ok_seq (ok_iload (Or.inr ⟨3, rfl, s4_211⟩))
   (ok_seq (ok_iaload s4_212)
   (ok_seq (ok_add s4_213)
   (ok_seq (ok_iastore s4_214)
   (ok_seq (ok_inc s4_215)
   (ok_goto s4_218))))))))))))))))
  (ND (LF (ok_seq (ok_aload (Or.inr ⟨0, rfl, s4_221⟩))
   (ok_seq (ok_get s4_222 (k_35 hw))
   (ok_seq (ok_aload (Or.inr ⟨1, rfl, s4_225⟩))
   (ok_get s4_226 (k_20 hw))))))
  (LF (⟨⟨leb rfl, leb rfl, 1, rfl⟩, (plainFor_of_name pn_6), okc_s s4_229 (k_38 hw)⟩))))
  (ND (LF (ok_seq (ok_astore (Or.inr ⟨3, rfl, s4_232⟩))
   (ok_seq (ok_push (Or.inl s4_233))
   (ok_istore (Or.inl s4_234)))))
  (ND (LF (ok_seq (ok_iload (Or.inl s4_236))
   (ok_seq (ok_aload (Or.inr ⟨1, rfl, s4_238⟩))
   (ok_seq (ok_get s4_239 (k_23 hw))
   (ok_icmp s4_242)))))
  (LF (ok_seq (ok_aload (Or.inr ⟨3, rfl, s4_245⟩))
   (ok_seq (ok_aload (Or.inr ⟨1, rfl, s4_246⟩))
   (ok_seq (ok_get s4_247 (k_36 hw))
   (ok_seq (ok_iload (Or.inl s4_250))
   (ok_seq (ok_iaload s4_252)
   (ok_seq (ok_dup2 s4_253)
   (ok_seq (ok_iaload s4_254)
   (ok_seq (ok_dupX2 s4_255)
   (ok_seq (ok_push (Or.inl s4_256))
   (ok_seq (ok_add s4_257)
   (ok_seq (ok_iastore s4_258)
   (ok_seq (ok_istore (Or.inl s4_259))
   (ok_seq (ok_aload (Or.inr ⟨3, rfl, s4_261⟩))
   (ok_seq (ok_aload (Or.inr ⟨1, rfl, s4_262⟩))
   (ok_seq (ok_get s4_263 (k_37 hw))
   (ok_seq (ok_iload (Or.inl s4_266))
   (ok_seq (ok_iaload s4_268)
   (ok_seq (ok_dup2 s4_269)
   (ok_seq (ok_iaload s4_270)
   (ok_seq (ok_dupX2 s4_271)
   (ok_seq (ok_push (Or.inl s4_272))
   (ok_seq (ok_add s4_273)
   (ok_seq (ok_iastore s4_274)
   (ok_seq (ok_istore (Or.inl s4_275))
   (ok_seq (ok_aload (Or.inr ⟨1, rfl, s4_277⟩))
   (ok_seq (ok_get s4_278 (k_39 hw))
   (ok_seq (ok_iload (Or.inl s4_281))
   (ok_seq (ok_laload s4_283)
   (ok_seq (ok_aload (Or.inr ⟨0, rfl, s4_284⟩))
   (ok_get s4_285 (k_40 hw))))))))))))))))))))))))))))))))))))
  (ND (ND (ND (LF (⟨⟨leb rfl, leb rfl, 6, rfl⟩, (Jvm.Free.JP.mathPlain rfl (by decide +kernel)), okc_s s4_288 (k_41 hw)⟩))
  (ND (LF (ok_seq (ok_lstore (Or.inl s4_291))
   (ok_seq (ok_aload (Or.inr ⟨0, rfl, s4_293⟩))
   (ok_seq (ok_aload (Or.inr ⟨0, rfl, s4_294⟩))
   (ok_seq (ok_get s4_295 (k_42 hw))
   (ok_lload (Or.inl s4_298)))))))
  (LF (⟨⟨leb rfl, leb rfl, 0, rfl⟩, (Jvm.Free.JP.mathPlain rfl (by decide +kernel)), okc_s s4_300 (k_43 hw)⟩))))
  (ND (LF (⟨⟨leb rfl, leb rfl, 0, rfl⟩, (Jvm.Free.JP.mathPlain rfl (by decide +kernel)), okc_s s4_303 (k_44 hw)⟩))
  (ND (LF (ok_seq (ok_put s4_306 (k_45 hw) (fun v hv => by rcases v with z | (_ | i) | _ <;> first | exact ⟨rfl, rfl⟩ | cases hv))
   (ok_seq (ok_aload (Or.inr ⟨0, rfl, s4_309⟩))
   (ok_seq (ok_get s4_310 (k_46 hw))
   (ok_seq (ok_iload (Or.inl s4_313))
   (ok_seq (ok_aload (Or.inr ⟨1, rfl, s4_315⟩))
   (ok_seq (ok_get s4_316 (k_37 hw))
   (ok_seq (ok_iload (Or.inl s4_319))
   (ok_seq (ok_iaload s4_321)
   (ok_seq (ok_iastore s4_322)
   (ok_seq (ok_aload (Or.inr ⟨0, rfl, s4_323⟩))
   (ok_seq (ok_get s4_324 (k_46 hw))
   (ok_seq (ok_iload (Or.inl s4_327))
   (ok_seq (ok_aload (Or.inr ⟨1, rfl, s4_329⟩))
   (ok_seq (ok_get s4_330 (k_36 hw))
   (ok_seq (ok_iload (Or.inl s4_333))
   (ok_seq (ok_iaload s4_335)
   (ok_seq (ok_iastore s4_336)
   (ok_seq (ok_aload (Or.inr ⟨0, rfl, s4_337⟩))
   (ok_seq (ok_get s4_338 (k_47 hw))
   (ok_seq (ok_iload (Or.inl s4_341))
   (ok_seq (ok_iload (Or.inl s4_343))
   (ok_seq (ok_iastore s4_345)
   (ok_seq (ok_aload (Or.inr ⟨0, rfl, s4_346⟩))
   (ok_seq (ok_get s4_347 (k_47 hw))
   (ok_seq (ok_iload (Or.inl s4_350))
   (ok_seq (ok_iload (Or.inl s4_352))
   (ok_seq (ok_iastore s4_354)
   (ok_seq (ok_aload (Or.inr ⟨0, rfl, s4_355⟩))
   (ok_seq (ok_get s4_356 (k_48 hw))
   (ok_seq (ok_iload (Or.inl s4_359))
   (ok_seq (ok_aload (Or.inr ⟨1, rfl, s4_361⟩))
   (ok_seq (ok_get s4_362 (k_49 hw))
   (ok_seq (ok_iload (Or.inl s4_365))
   (ok_seq (ok_laload s4_367)
   (ok_seq (ok_aload (Or.inr ⟨1, rfl, s4_368⟩))
   (ok_seq (ok_get s4_369 (k_50 hw))
   (ok_seq (ok_iload (Or.inl s4_372))
   (ok_seq (ok_laload s4_374)
   (ok_seq (ok_lsub s4_375)
   (ok_seq (ok_lastore s4_376)
   (ok_seq (ok_aload (Or.inr ⟨0, rfl, s4_377⟩))
   (ok_seq (ok_get s4_378 (k_48 hw))
   (ok_seq (ok_iload (Or.inl s4_381))
   (ok_seq (ok_aload (Or.inr ⟨1, rfl, s4_383⟩))
   (ok_seq (ok_get s4_384 (k_50 hw))
   (ok_seq (ok_iload (Or.inl s4_387))
   (ok_seq (ok_laload s4_389)
   (ok_seq (ok_lastore s4_390)
   (ok_seq (ok_aload (Or.inr ⟨0, rfl, s4_391⟩))
   (ok_seq (ok_get s4_392 (k_51 hw))
   (ok_seq (ok_iload (Or.inl s4_395))
   (ok_seq (ok_lload (Or.inl s4_397))
   (ok_seq (ok_lastore s4_399)
   (ok_seq (ok_aload (Or.inr ⟨0, rfl, s4_400⟩))
   (ok_seq (ok_get s4_401 (k_51 hw))
   (ok_seq (ok_iload (Or.inl s4_404))
   (ok_seq (ok_lload (Or.inl s4_406))
   (ok_seq (ok_lneg s4_408)
   (ok_seq (ok_lastore s4_409)
   (ok_seq (ok_aload (Or.inr ⟨0, rfl, s4_410⟩))
   (ok_seq (ok_get s4_411 (k_52 hw))
   (ok_seq (ok_iload (Or.inl s4_414))
   (ok_seq (ok_iload (Or.inl s4_416))
   (ok_seq (ok_iastore s4_418)
   (ok_seq (ok_inc s4_419)
   (ok_goto s4_422)))))))))))))))))))))))))))))))))))))))))))))))))))))))))))))))))))
  (LF (ok_seq (ok_aload (Or.inr ⟨0, rfl, s4_425⟩))
   (ok_seq (ok_get s4_426 (k_42 hw))
   (ok_seq (ok_ldc2 s4_429 (k_53 hw) (by decide))
   (ok_seq (ok_aload (Or.inr ⟨0, rfl, s4_432⟩))
   (ok_seq (ok_get s4_433 (k_40 hw))
   (ok_lmul s4_436))))))))))
  (ND (ND (LF (⟨⟨leb rfl, leb rfl, 6, rfl⟩, (Jvm.Free.JP.mathPlain rfl (by decide +kernel)), okc_s s4_437 (k_41 hw)⟩))
  (ND (LF (ok_seq (ok_aload (Or.inr ⟨0, rfl, s4_440⟩))
   (ok_seq (ok_get s4_441 (k_42 hw))
   (ok_seq (ok_aload (Or.inr ⟨0, rfl, s4_444⟩))
   (ok_seq (ok_get s4_445 (k_40 hw))
   (ok_seq (ok_ldiv s4_448)
   (ok_seq (ok_ldc2 s4_449 (k_54 hw) (by decide))
   (ok_seq (ok_iload (Or.inr ⟨2, rfl, s4_452⟩))
   (ok_seq (ok_i2l s4_453)
   (ok_lmul s4_454))))))))))
  (LF (⟨⟨leb rfl, leb rfl, 6, rfl⟩, (Jvm.Free.JP.mathPlain rfl (by decide +kernel)), okc_s s4_455 (k_41 hw)⟩))))
  (ND (LF (⟨⟨leb rfl, leb rfl, 2, rfl⟩, (Jvm.Free.JP.mathPlain rfl (by decide +kernel)), okc_s s4_458 (k_55 hw)⟩))
  (ND (LF (ok_pop2 s4_461))
  (LF (⟨s4_462, rfl⟩)))))))
set_option maxRecDepth 65536 in
set_option maxHeartbeats 40000000 in
theorem okq2 (l : Launch) {Z : State} {a0 : Array Value} (hw : HW1 Z a0) (n0 : Nat) {ν : OwnL.Va} (hν : ν.Ok) {T : List OwnL.SR} (hT : Sg ν T) : AllT (RowOk l Z a0 KT n0 ν mlQ frQ loQ yyQ bbQ rrQ 2) (tq2 T) := (ND (ND (LF (ok_seq (ok_iload (Or.inr ⟨1, rfl, s5_0⟩))
   (ok_seq (ok_aload (Or.inr ⟨0, rfl, s5_1⟩))
   (ok_seq (ok_len s5_2)
   (ok_icmp s5_3)))))
  (ND (LF (ok_aload (Or.inr ⟨0, rfl, s5_6⟩)))
  (LF (⟨s5_13, _, rfl, rfl, fun m => by cases m <;> rfl⟩))))
  (ND (ND (LF (ok_seq (ok_iload (Or.inr ⟨1, rfl, s5_14⟩))
   (ok_seq (ok_newI s5_15 (k_21 hw))
   (ok_seq (ok_astore (Or.inr ⟨2, rfl, s5_17⟩))
   (ok_seq (ok_aload (Or.inr ⟨0, rfl, s5_18⟩))
   (ok_seq (ok_push (Or.inl s5_19))
   (ok_seq (ok_aload (Or.inr ⟨2, rfl, s5_20⟩))
   (ok_seq (ok_push (Or.inl s5_21))
   (ok_seq (ok_aload (Or.inr ⟨0, rfl, s5_22⟩))
   (ok_seq (ok_len s5_23)
   (ok_iload (Or.inr ⟨1, rfl, s5_24⟩))))))))))))
  (LF (⟨⟨leb rfl, leb rfl, 0, rfl⟩, (Jvm.Free.JP.mathPlain rfl (by decide +kernel)), okc_s s5_25 (k_56 hw)⟩)))
  (ND (LF (ok_seq (ok_copy s5_28 (k_57 hw) (by decide) (by decide))
   (ok_aload (Or.inr ⟨2, rfl, s5_31⟩))))
  (LF (⟨s5_32, _, rfl, rfl, fun m => by cases m <;> rfl⟩)))))
set_option maxRecDepth 65536 in
set_option maxHeartbeats 40000000 in
theorem okq3 (l : Launch) {Z : State} {a0 : Array Value} (hw : HW1 Z a0) (n0 : Nat) {ν : OwnL.Va} (hν : ν.Ok) {T : List OwnL.SR} (hT : Sg ν T) : AllT (RowOk l Z a0 KT n0 ν mlQ frQ loQ yyQ bbQ rrQ 3) (tq3 T) := (ND (ND (LF (ok_seq (ok_iload (Or.inr ⟨0, rfl, s6_0⟩))
   (ok_seq (ok_iload (Or.inr ⟨1, rfl, s6_1⟩))
   (ok_icmp s6_2))))
  (LF (ok_seq (ok_iload (Or.inr ⟨0, rfl, s6_5⟩))
   (ok_goto s6_6))))
  (ND (LF (ok_iload (Or.inr ⟨1, rfl, s6_9⟩)))
  (LF (⟨s6_10, rfl⟩))))
set_option maxRecDepth 65536 in
set_option maxHeartbeats 40000000 in
theorem okq4 (l : Launch) {Z : State} {a0 : Array Value} (hw : HW1 Z a0) (n0 : Nat) {ν : OwnL.Va} (hν : ν.Ok) {T : List OwnL.SR} (hT : Sg ν T) : AllT (RowOk l Z a0 KT n0 ν mlQ frQ loQ yyQ bbQ rrQ 4) (tq4 T) := (ND (ND (ND (LF (ok_seq (ok_lload (Or.inr ⟨0, rfl, s7_0⟩))
   (ok_seq (ok_lload (Or.inr ⟨2, rfl, s7_1⟩))
   (ok_seq (ok_lmul s7_2)
   (ok_seq (ok_lstore (Or.inl s7_3))
   (ok_lload (Or.inr ⟨0, rfl, s7_5⟩)))))))
  (ND (LF (⟨⟨leb rfl, leb rfl, 0, rfl⟩, (Jvm.Free.JP.mathPlain rfl (by decide +kernel)), okc_s s7_6 (k_58 hw)⟩))
  (LF (ok_seq (ok_lstore (Or.inl s7_9))
   (ok_lload (Or.inr ⟨2, rfl, s7_11⟩))))))
  (ND (ND (LF (⟨⟨leb rfl, leb rfl, 0, rfl⟩, (Jvm.Free.JP.mathPlain rfl (by decide +kernel)), okc_s s7_12 (k_58 hw)⟩))
  (LF (ok_seq (ok_lstore (Or.inl s7_15))
   (ok_seq (ok_lload (Or.inl s7_17))
   (ok_seq (ok_lload (Or.inl s7_19))
   (ok_seq (ok_lor s7_21)
   (ok_seq (ok_push (Or.inr (Or.inl ⟨s7_22, by decide⟩)))
   (ok_seq (ok_lushr s7_24)
   (ok_seq (ok_lconst s7_25 (by decide))
   (ok_lif hν hT s7_26 s7_27))))))))))
  (ND (LF (ok_seq (ok_lload (Or.inr ⟨2, rfl, s7_30⟩))
   (ok_seq (ok_lconst s7_31 (by decide))
   (ok_lif hν hT s7_32 s7_33))))
  (LF (ok_seq (ok_lload (Or.inl s7_36))
   (ok_seq (ok_lload (Or.inr ⟨2, rfl, s7_38⟩))
   (ok_seq (ok_ldiv s7_39)
   (ok_seq (ok_lload (Or.inr ⟨0, rfl, s7_40⟩))
   (ok_lif hν hT s7_41 s7_42)))))))))
  (ND (ND (LF (ok_lload (Or.inr ⟨0, rfl, s7_45⟩)))
  (ND (LF (ok_lif hν hT s7_49 s7_50))
  (LF (ok_lload (Or.inr ⟨2, rfl, s7_53⟩)))))
  (ND (ND (LF (ok_lif hν hT s7_57 s7_58))
  (LF (ok_dup s7_64)))
  (ND (LF (ok_lload (Or.inl s7_71)))
  (LF (⟨s7_73, rfl⟩))))))
set_option maxRecDepth 65536 in
set_option maxHeartbeats 40000000 in
theorem okq5 (l : Launch) {Z : State} {a0 : Array Value} (hw : HW1 Z a0) (n0 : Nat) {ν : OwnL.Va} (hν : ν.Ok) {T : List OwnL.SR} (hT : Sg ν T) : AllT (RowOk l Z a0 KT n0 ν mlQ frQ loQ yyQ bbQ rrQ 5) (tq5 T) := (ND (ND (LF (ok_seq (ok_lload (Or.inr ⟨0, rfl, s8_0⟩))
   (ok_seq (ok_lconst s8_1 (by decide))
   (ok_lif hν hT s8_2 s8_3))))
  (LF (ok_seq (ok_lload (Or.inr ⟨0, rfl, s8_6⟩))
   (ok_seq (ok_lneg s8_7)
   (ok_goto s8_8)))))
  (ND (LF (ok_lload (Or.inr ⟨0, rfl, s8_11⟩)))
  (LF (⟨s8_12, rfl⟩))))
set_option maxRecDepth 65536 in
set_option maxHeartbeats 40000000 in
theorem okq6 (l : Launch) {Z : State} {a0 : Array Value} (hw : HW1 Z a0) (n0 : Nat) {ν : OwnL.Va} (hν : ν.Ok) {T : List OwnL.SR} (hT : Sg ν T) : AllT (RowOk l Z a0 KT n0 ν mlQ frQ loQ yyQ bbQ rrQ 6) (tq6 T) := (ND (ND (LF (ok_seq (ok_lload (Or.inr ⟨0, rfl, s9_0⟩))
   (ok_seq (ok_lload (Or.inr ⟨2, rfl, s9_1⟩))
   (ok_lif hν hT s9_2 s9_3))))
  (LF (ok_seq (ok_lload (Or.inr ⟨0, rfl, s9_6⟩))
   (ok_goto s9_7))))
  (ND (LF (ok_lload (Or.inr ⟨2, rfl, s9_10⟩)))
  (LF (⟨s9_11, rfl⟩))))
set_option maxRecDepth 65536 in
set_option maxHeartbeats 40000000 in
theorem okq7 (l : Launch) {Z : State} {a0 : Array Value} (hw : HW1 Z a0) (n0 : Nat) {ν : OwnL.Va} (hν : ν.Ok) {T : List OwnL.SR} (hT : Sg ν T) : AllT (RowOk l Z a0 KT n0 ν mlQ frQ loQ yyQ bbQ rrQ 7) (tq7 T) := (ND (ND (LF (ok_seq (ok_lload (Or.inr ⟨0, rfl, s10_0⟩))
   (ok_seq (ok_lload (Or.inr ⟨2, rfl, s10_1⟩))
   (ok_seq (ok_ladd s10_2)
   (ok_seq (ok_lstore (Or.inl s10_3))
   (ok_seq (ok_lload (Or.inr ⟨0, rfl, s10_5⟩))
   (ok_seq (ok_lload (Or.inl s10_6))
   (ok_seq (ok_lxor s10_8)
   (ok_seq (ok_lload (Or.inr ⟨2, rfl, s10_9⟩))
   (ok_seq (ok_lload (Or.inl s10_10))
   (ok_seq (ok_lxor s10_12)
   (ok_seq (ok_land s10_13)
   (ok_seq (ok_lconst s10_14 (by decide))
   (ok_lif hν hT s10_15 s10_16))))))))))))))
  (LF (ok_dup s10_22)))
  (ND (LF (ok_lload (Or.inl s10_29)))
  (LF (⟨s10_31, rfl⟩))))
set_option maxRecDepth 65536 in
set_option maxHeartbeats 40000000 in
theorem okq8 (l : Launch) {Z : State} {a0 : Array Value} (hw : HW1 Z a0) (n0 : Nat) {ν : OwnL.Va} (hν : ν.Ok) {T : List OwnL.SR} (hT : Sg ν T) : AllT (RowOk l Z a0 KT n0 ν mlQ frQ loQ yyQ bbQ rrQ 8) (tq8 T) := (ND (ND (ND (LF (ok_seq (ok_aload (Or.inr ⟨0, rfl, s11_0⟩))
   (ok_seq (ok_get s11_1 (k_42 hw))
   (ok_lstore (Or.inr ⟨1, rfl, s11_4⟩)))))
  (ND (LF (ok_seq (ok_lload (Or.inr ⟨1, rfl, s11_5⟩))
   (ok_seq (ok_lconst s11_6 (by decide))
   (ok_lif hν hT s11_7 s11_8))))
  (LF (ok_seq (ok_lconst s11_11 (by decide))
   (ok_seq (ok_lload (Or.inr ⟨1, rfl, s11_12⟩))
   (ok_seq (ok_ldc2 s11_13 (k_59 hw) (by decide))
   (ok_ldiv s11_16)))))))
  (ND (ND (LF (⟨⟨leb rfl, leb rfl, 0, rfl⟩, (Jvm.Free.JP.mathPlain rfl (by decide +kernel)), okc_s s11_17 (k_44 hw)⟩))
  (LF (ok_seq (ok_lstore (Or.inr ⟨1, rfl, s11_20⟩))
   (ok_seq (ok_aload (Or.inr ⟨0, rfl, s11_21⟩))
   (ok_lload (Or.inr ⟨1, rfl, s11_22⟩))))))
  (ND (LF (⟨⟨leb rfl, leb rfl, 2, rfl⟩, (plainFor_of_name pn_60), okc_m s11_23 (k_61 hw)⟩))
  (LF (ok_seq (ok_lload (Or.inr ⟨1, rfl, s11_26⟩))
   (ok_seq (ok_lconst s11_27 (by decide))
   (ok_lif hν hT s11_28 s11_29)))))))
  (ND (ND (LF (ok_aload (Or.inr ⟨0, rfl, s11_32⟩)))
  (ND (LF (ok_if s11_36))
  (LF (ok_goto s11_39))))
  (ND (ND (LF (ok_seq (ok_push (Or.inl s11_42))
   (ok_istore (Or.inr ⟨3, rfl, s11_43⟩))))
  (LF (ok_seq (ok_iload (Or.inr ⟨3, rfl, s11_44⟩))
   (ok_seq (ok_aload (Or.inr ⟨0, rfl, s11_45⟩))
   (ok_seq (ok_get s11_46 (k_19 hw))
   (ok_seq (ok_get s11_49 (k_23 hw))
   (ok_icmp s11_52)))))))
  (ND (LF (ok_seq (ok_aload (Or.inr ⟨0, rfl, s11_55⟩))
   (ok_seq (ok_get s11_56 (k_19 hw))
   (ok_seq (ok_get s11_59 (k_50 hw))
   (ok_seq (ok_iload (Or.inr ⟨3, rfl, s11_62⟩))
   (ok_seq (ok_aload (Or.inr ⟨0, rfl, s11_63⟩))
   (ok_seq (ok_get s11_64 (k_48 hw))
   (ok_seq (ok_aload (Or.inr ⟨0, rfl, s11_67⟩))
   (ok_seq (ok_get s11_68 (k_47 hw))
   (ok_seq (ok_aload (Or.inr ⟨0, rfl, s11_71⟩))
   (ok_seq (ok_get s11_72 (k_52 hw))
   (ok_seq (ok_iload (Or.inr ⟨3, rfl, s11_75⟩))
   (ok_seq (ok_iaload s11_76)
   (ok_seq (ok_iaload s11_77)
   (ok_seq (ok_laload s11_78)
   (ok_seq (ok_lastore s11_79)
   (ok_seq (ok_inc s11_80)
   (ok_goto s11_83))))))))))))))))))
  (LF (⟨s11_86, rfl⟩))))))
set_option maxRecDepth 65536 in
set_option maxHeartbeats 40000000 in
theorem okq9 (l : Launch) {Z : State} {a0 : Array Value} (hw : HW1 Z a0) (n0 : Nat) {ν : OwnL.Va} (hν : ν.Ok) {T : List OwnL.SR} (hT : Sg ν T) : AllT (RowOk l Z a0 KT n0 ν mlQ frQ loQ yyQ bbQ rrQ 9) (tq9 T) := (ND (ND (ND (ND (LF (ok_seq (ok_push (Or.inl s12_0))
   (ok_istore (Or.inr ⟨3, rfl, s12_1⟩))))
  (LF (ok_seq (ok_iload (Or.inr ⟨3, rfl, s12_2⟩))
   (ok_seq (ok_aload (Or.inr ⟨0, rfl, s12_3⟩))
   (ok_seq (ok_get s12_4 (k_19 hw))
   (ok_seq (ok_get s12_7 (k_20 hw))
   (ok_icmp s12_10)))))))
  (ND (LF (ok_seq (ok_aload (Or.inr ⟨0, rfl, s12_13⟩))
   (ok_seq (ok_get s12_14 (k_35 hw))
   (ok_seq (ok_iload (Or.inr ⟨3, rfl, s12_17⟩))
   (ok_seq (ok_iaload s12_18)
   (ok_istore (Or.inl s12_19)))))))
  (ND (LF (ok_seq (ok_iload (Or.inl s12_21))
   (ok_seq (ok_aload (Or.inr ⟨0, rfl, s12_23⟩))
   (ok_seq (ok_get s12_24 (k_35 hw))
   (ok_seq (ok_iload (Or.inr ⟨3, rfl, s12_27⟩))
   (ok_seq (ok_push (Or.inl s12_28))
   (ok_seq (ok_add s12_29)
   (ok_seq (ok_iaload s12_30)
   (ok_icmp s12_31)))))))))
  (LF (ok_seq (ok_aload (Or.inr ⟨0, rfl, s12_34⟩))
   (ok_seq (ok_get s12_35 (k_48 hw))
   (ok_seq (ok_iload (Or.inl s12_38))
   (ok_seq (ok_laload s12_40)
   (ok_seq (ok_lconst s12_41 (by decide))
   (ok_lif hν hT s12_42 s12_43))))))))))
  (ND (ND (LF (ok_seq (ok_aload (Or.inr ⟨0, rfl, s12_46⟩))
   (ok_seq (ok_iload (Or.inr ⟨3, rfl, s12_47⟩))
   (ok_iload (Or.inl s12_48)))))
  (ND (LF (⟨⟨leb rfl, leb rfl, 0, rfl⟩, (plainFor_of_name pn_60), okc_m s12_50 (k_62 hw)⟩))
  (LF (ok_seq (ok_lconst s12_53 (by decide))
   (ok_lif hν hT s12_54 s12_55)))))
  (ND (LF (ok_seq (ok_aload (Or.inr ⟨0, rfl, s12_58⟩))
   (ok_seq (ok_iload (Or.inr ⟨3, rfl, s12_59⟩))
   (ok_seq (ok_iload (Or.inl s12_60))
   (ok_seq (ok_aload (Or.inr ⟨0, rfl, s12_62⟩))
   (ok_seq (ok_get s12_63 (k_48 hw))
   (ok_seq (ok_iload (Or.inl s12_66))
   (ok_laload s12_68))))))))
  (ND (LF (⟨⟨leb rfl, leb rfl, 0, rfl⟩, (plainFor_of_name pn_60), okc_m s12_69 (k_63 hw)⟩))
  (LF (ok_seq (ok_inc s12_72)
   (ok_goto s12_75)))))))
  (ND (ND (ND (LF (ok_seq (ok_inc s12_78)
   (ok_goto s12_81)))
  (ND (LF (ok_seq (ok_aload (Or.inr ⟨0, rfl, s12_84⟩))
   (ok_seq (ok_push (Or.inl s12_85))
   (ok_seq (ok_put s12_86 (k_64 hw) (fun v hv => by rcases v with z | (_ | i) | _ <;> first | exact ⟨rfl, rfl⟩ | cases hv))
   (ok_seq (ok_aload (Or.inr ⟨0, rfl, s12_89⟩))
   (ok_seq (ok_push (Or.inl s12_90))
   (ok_seq (ok_put s12_91 (k_65 hw) (fun v hv => by rcases v with z | (_ | i) | _ <;> first | exact ⟨rfl, rfl⟩ | cases hv))
   (ok_seq (ok_push (Or.inl s12_94))
   (ok_istore (Or.inr ⟨3, rfl, s12_95⟩))))))))))
  (LF (ok_seq (ok_iload (Or.inr ⟨3, rfl, s12_96⟩))
   (ok_seq (ok_aload (Or.inr ⟨0, rfl, s12_97⟩))
   (ok_seq (ok_get s12_98 (k_19 hw))
   (ok_seq (ok_get s12_101 (k_20 hw))
   (ok_icmp s12_104))))))))
  (ND (LF (ok_seq (ok_aload (Or.inr ⟨0, rfl, s12_107⟩))
   (ok_seq (ok_get s12_108 (k_66 hw))
   (ok_seq (ok_iload (Or.inr ⟨3, rfl, s12_111⟩))
   (ok_seq (ok_aload (Or.inr ⟨0, rfl, s12_112⟩))
   (ok_seq (ok_get s12_113 (k_35 hw))
   (ok_seq (ok_iload (Or.inr ⟨3, rfl, s12_116⟩))
   (ok_seq (ok_iaload s12_117)
   (ok_seq (ok_iastore s12_118)
   (ok_seq (ok_aload (Or.inr ⟨0, rfl, s12_119⟩))
   (ok_seq (ok_get s12_120 (k_67 hw))
   (ok_seq (ok_iload (Or.inr ⟨3, rfl, s12_123⟩))
   (ok_seq (ok_laload s12_124)
   (ok_seq (ok_lconst s12_125 (by decide))
   (ok_lif hν hT s12_126 s12_127)))))))))))))))
  (ND (LF (ok_seq (ok_aload (Or.inr ⟨0, rfl, s12_130⟩))
   (ok_iload (Or.inr ⟨3, rfl, s12_131⟩))))
  (LF (⟨⟨leb rfl, leb rfl, 0, rfl⟩, (plainFor_of_name pn_60), okc_m s12_132 (k_68 hw)⟩)))))
  (ND (ND (LF (ok_seq (ok_inc s12_135)
   (ok_goto s12_138)))
  (ND (LF (ok_seq (ok_aload (Or.inr ⟨0, rfl, s12_141⟩))
   (ok_seq (ok_get s12_142 (k_69 hw))
   (ok_if s12_145))))
  (LF (ok_seq (ok_aload (Or.inr ⟨0, rfl, s12_148⟩))
   (ok_seq (ok_get s12_149 (k_70 hw))
   (ok_seq (ok_aload (Or.inr ⟨0, rfl, s12_152⟩))
   (ok_seq (ok_get s12_153 (k_71 hw))
   (ok_seq (ok_iaload s12_156)
   (ok_seq (ok_istore (Or.inr ⟨3, rfl, s12_157⟩))
   (ok_seq (ok_aload (Or.inr ⟨0, rfl, s12_158⟩))
   (ok_seq (ok_aload (Or.inr ⟨0, rfl, s12_159⟩))
   (ok_seq (ok_get s12_160 (k_71 hw))
   (ok_seq (ok_push (Or.inl s12_163))
   (ok_seq (ok_add s12_164)
   (ok_seq (ok_aload (Or.inr ⟨0, rfl, s12_165⟩))
   (ok_seq (ok_get s12_166 (k_19 hw))
   (ok_seq (ok_get s12_169 (k_20 hw))
   (ok_seq (ok_rem s12_172)
   (ok_seq (ok_put s12_173 (k_64 hw) (fun v hv => by rcases v with z | (_ | i) | _ <;> first | exact ⟨rfl, rfl⟩ | cases hv))
   (ok_seq (ok_aload (Or.inr ⟨0, rfl, s12_176⟩))
   (ok_seq (ok_dup s12_177)
   (ok_seq (ok_get s12_178 (k_69 hw))
   (ok_seq (ok_push (Or.inl s12_181))
   (ok_seq (ok_sub s12_182)
   (ok_seq (ok_put s12_183 (k_65 hw) (fun v hv => by rcases v with z | (_ | i) | _ <;> first | exact ⟨rfl, rfl⟩ | cases hv))
   (ok_seq (ok_aload (Or.inr ⟨0, rfl, s12_186⟩))
   (ok_seq (ok_iload (Or.inr ⟨3, rfl, s12_187⟩))
   (ok_lload (Or.inr ⟨1, rfl, s12_188⟩)))))))))))))))))))))))))))))
  (ND (LF (⟨⟨leb rfl, leb rfl, 4, rfl⟩, (plainFor_of_name pn_60), okc_m s12_189 (k_72 hw)⟩))
  (ND (LF (ok_goto s12_192))
  (LF (⟨s12_195, rfl⟩)))))))
set_option maxRecDepth 65536 in
set_option maxHeartbeats 40000000 in
theorem okq10 (l : Launch) {Z : State} {a0 : Array Value} (hw : HW1 Z a0) (n0 : Nat) {ν : OwnL.Va} (hν : ν.Ok) {T : List OwnL.SR} (hT : Sg ν T) : AllT (RowOk l Z a0 KT n0 ν mlQ frQ loQ yyQ bbQ rrQ 10) (tq10 T) := (ND (ND (LF (ok_seq (ok_lload (Or.inr ⟨0, rfl, s20_0⟩))
   (ok_seq (ok_lload (Or.inr ⟨2, rfl, s20_1⟩))
   (ok_lif hν hT s20_2 s20_3))))
  (LF (ok_seq (ok_lload (Or.inr ⟨0, rfl, s20_6⟩))
   (ok_goto s20_7))))
  (ND (LF (ok_lload (Or.inr ⟨2, rfl, s20_10⟩)))
  (LF (⟨s20_11, rfl⟩))))
set_option maxRecDepth 65536 in
set_option maxHeartbeats 40000000 in
theorem okq11 (l : Launch) {Z : State} {a0 : Array Value} (hw : HW1 Z a0) (n0 : Nat) {ν : OwnL.Va} (hν : ν.Ok) {T : List OwnL.SR} (hT : Sg ν T) : AllT (RowOk l Z a0 KT n0 ν mlQ frQ loQ yyQ bbQ rrQ 11) (tq11 T) := (ND (LF (ok_seq (ok_aload (Or.inr ⟨0, rfl, s21_0⟩))
   (ok_seq (ok_get s21_1 (k_51 hw))
   (ok_seq (ok_iload (Or.inr ⟨2, rfl, s21_4⟩))
   (ok_seq (ok_laload s21_5)
   (ok_seq (ok_aload (Or.inr ⟨0, rfl, s21_6⟩))
   (ok_seq (ok_get s21_7 (k_73 hw))
   (ok_seq (ok_iload (Or.inr ⟨1, rfl, s21_10⟩))
   (ok_seq (ok_laload s21_11)
   (ok_seq (ok_ladd s21_12)
   (ok_seq (ok_aload (Or.inr ⟨0, rfl, s21_13⟩))
   (ok_seq (ok_get s21_14 (k_73 hw))
   (ok_seq (ok_aload (Or.inr ⟨0, rfl, s21_17⟩))
   (ok_seq (ok_get s21_18 (k_46 hw))
   (ok_seq (ok_iload (Or.inr ⟨2, rfl, s21_21⟩))
   (ok_seq (ok_iaload s21_22)
   (ok_seq (ok_laload s21_23)
   (ok_lsub s21_24))))))))))))))))))
  (LF (⟨s21_25, rfl⟩)))
set_option maxRecDepth 65536 in
set_option maxHeartbeats 40000000 in
theorem okq12 (l : Launch) {Z : State} {a0 : Array Value} (hw : HW1 Z a0) (n0 : Nat) {ν : OwnL.Va} (hν : ν.Ok) {T : List OwnL.SR} (hT : Sg ν T) : AllT (RowOk l Z a0 KT n0 ν mlQ frQ loQ yyQ bbQ rrQ 12) (tq12 T) := (ND (LF (ok_seq (ok_aload (Or.inr ⟨0, rfl, s22_0⟩))
   (ok_seq (ok_get s22_1 (k_48 hw))
   (ok_seq (ok_iload (Or.inr ⟨2, rfl, s22_4⟩))
   (ok_seq (ok_dup2 s22_5)
   (ok_seq (ok_laload s22_6)
   (ok_seq (ok_lload (Or.inr ⟨3, rfl, s22_7⟩))
   (ok_seq (ok_lsub s22_8)
   (ok_seq (ok_lastore s22_9)
   (ok_seq (ok_aload (Or.inr ⟨0, rfl, s22_10⟩))
   (ok_seq (ok_get s22_11 (k_48 hw))
   (ok_seq (ok_aload (Or.inr ⟨0, rfl, s22_14⟩))
   (ok_seq (ok_get s22_15 (k_47 hw))
   (ok_seq (ok_iload (Or.inr ⟨2, rfl, s22_18⟩))
   (ok_seq (ok_iaload s22_19)
   (ok_seq (ok_dup2 s22_20)
   (ok_seq (ok_laload s22_21)
   (ok_seq (ok_lload (Or.inr ⟨3, rfl, s22_22⟩))
   (ok_seq (ok_ladd s22_23)
   (ok_seq (ok_lastore s22_24)
   (ok_seq (ok_aload (Or.inr ⟨0, rfl, s22_25⟩))
   (ok_seq (ok_get s22_26 (k_67 hw))
   (ok_seq (ok_iload (Or.inr ⟨1, rfl, s22_29⟩))
   (ok_seq (ok_dup2 s22_30)
   (ok_seq (ok_laload s22_31)
   (ok_seq (ok_lload (Or.inr ⟨3, rfl, s22_32⟩))
   (ok_seq (ok_lsub s22_33)
   (ok_seq (ok_lastore s22_34)
   (ok_seq (ok_aload (Or.inr ⟨0, rfl, s22_35⟩))
   (ok_seq (ok_get s22_36 (k_67 hw))
   (ok_seq (ok_aload (Or.inr ⟨0, rfl, s22_39⟩))
   (ok_seq (ok_get s22_40 (k_46 hw))
   (ok_seq (ok_iload (Or.inr ⟨2, rfl, s22_43⟩))
   (ok_seq (ok_iaload s22_44)
   (ok_seq (ok_dup2 s22_45)
   (ok_seq (ok_laload s22_46)
   (ok_seq (ok_lload (Or.inr ⟨3, rfl, s22_47⟩))
   (ok_seq (ok_ladd s22_48)
   (ok_lastore s22_49)))))))))))))))))))))))))))))))))))))))
  (LF (⟨s22_50, rfl⟩)))
set_option maxRecDepth 65536 in
set_option maxHeartbeats 40000000 in
theorem okq13 (l : Launch) {Z : State} {a0 : Array Value} (hw : HW1 Z a0) (n0 : Nat) {ν : OwnL.Va} (hν : ν.Ok) {T : List OwnL.SR} (hT : Sg ν T) : AllT (RowOk l Z a0 KT n0 ν mlQ frQ loQ yyQ bbQ rrQ 13) (tq13 T) := (ND (LF (ok_seq (ok_aload (Or.inr ⟨0, rfl, s23_0⟩))
   (ok_seq (ok_get s23_1 (k_70 hw))
   (ok_seq (ok_aload (Or.inr ⟨0, rfl, s23_4⟩))
   (ok_seq (ok_get s23_5 (k_71 hw))
   (ok_seq (ok_aload (Or.inr ⟨0, rfl, s23_8⟩))
   (ok_seq (ok_get s23_9 (k_69 hw))
   (ok_seq (ok_add s23_12)
   (ok_seq (ok_aload (Or.inr ⟨0, rfl, s23_13⟩))
   (ok_seq (ok_get s23_14 (k_19 hw))
   (ok_seq (ok_get s23_17 (k_20 hw))
   (ok_seq (ok_rem s23_20)
   (ok_seq (ok_iload (Or.inr ⟨1, rfl, s23_21⟩))
   (ok_seq (ok_iastore s23_22)
   (ok_seq (ok_aload (Or.inr ⟨0, rfl, s23_23⟩))
   (ok_seq (ok_dup s23_24)
   (ok_seq (ok_get s23_25 (k_69 hw))
   (ok_seq (ok_push (Or.inl s23_28))
   (ok_seq (ok_add s23_29)
   (ok_put s23_30 (k_74 hw) (fun v hv => by rcases v with z | (_ | i) | _ <;> first | exact ⟨rfl, rfl⟩ | cases hv)))))))))))))))))))))
  (LF (⟨s23_33, rfl⟩)))
set_option maxRecDepth 65536 in
set_option maxHeartbeats 40000000 in
theorem okq14 (l : Launch) {Z : State} {a0 : Array Value} (hw : HW1 Z a0) (n0 : Nat) {ν : OwnL.Va} (hν : ν.Ok) {T : List OwnL.SR} (hT : Sg ν T) : AllT (RowOk l Z a0 KT n0 ν mlQ frQ loQ yyQ bbQ rrQ 14) (tq14 T) := (ND (ND (ND (ND (LF (ok_seq (ok_aload (Or.inr ⟨0, rfl, s24_0⟩))
   (ok_seq (ok_get s24_1 (k_67 hw))
   (ok_seq (ok_iload (Or.inr ⟨1, rfl, s24_4⟩))
   (ok_seq (ok_laload s24_5)
   (ok_seq (ok_lconst s24_6 (by decide))
   (ok_lif hν hT s24_7 s24_8)))))))
  (ND (LF (ok_seq (ok_aload (Or.inr ⟨0, rfl, s24_11⟩))
   (ok_seq (ok_get s24_12 (k_66 hw))
   (ok_seq (ok_iload (Or.inr ⟨1, rfl, s24_15⟩))
   (ok_seq (ok_iaload s24_16)
   (ok_seq (ok_istore (Or.inl s24_17))
   (ok_seq (ok_aload (Or.inr ⟨0, rfl, s24_19⟩))
   (ok_seq (ok_get s24_20 (k_35 hw))
   (ok_seq (ok_iload (Or.inr ⟨1, rfl, s24_23⟩))
   (ok_seq (ok_push (Or.inl s24_24))
   (ok_seq (ok_add s24_25)
   (ok_seq (ok_iaload s24_26)
   (ok_istore (Or.inl s24_27))))))))))))))
  (LF (ok_seq (ok_iload (Or.inl s24_29))
   (ok_seq (ok_iload (Or.inl s24_31))
   (ok_icmp s24_33))))))
  (ND (LF (ok_seq (ok_aload (Or.inr ⟨0, rfl, s24_36⟩))
   (ok_seq (ok_get s24_37 (k_48 hw))
   (ok_seq (ok_iload (Or.inl s24_40))
   (ok_seq (ok_laload s24_42)
   (ok_seq (ok_lconst s24_43 (by decide))
   (ok_lif hν hT s24_44 s24_45)))))))
  (ND (LF (ok_seq (ok_aload (Or.inr ⟨0, rfl, s24_48⟩))
   (ok_seq (ok_iload (Or.inr ⟨1, rfl, s24_49⟩))
   (ok_iload (Or.inl s24_50)))))
  (LF (⟨⟨leb rfl, leb rfl, 0, rfl⟩, (plainFor_of_name pn_60), okc_m s24_52 (k_62 hw)⟩)))))
  (ND (ND (LF (ok_seq (ok_lconst s24_55 (by decide))
   (ok_lif hν hT s24_56 s24_57)))
  (ND (LF (ok_seq (ok_inc s24_60)
   (ok_goto s24_63)))
  (LF (ok_seq (ok_iload (Or.inl s24_66))
   (ok_seq (ok_iload (Or.inl s24_68))
   (ok_icmp s24_70))))))
  (ND (LF (ok_seq (ok_aload (Or.inr ⟨0, rfl, s24_73⟩))
   (ok_seq (ok_iload (Or.inr ⟨1, rfl, s24_74⟩))
   (ok_lload (Or.inr ⟨2, rfl, s24_75⟩)))))
  (ND (LF (⟨⟨leb rfl, leb rfl, 3, rfl⟩, (plainFor_of_name pn_60), okc_m s24_76 (k_75 hw)⟩))
  (LF (ok_goto s24_79))))))
  (ND (ND (ND (LF (ok_seq (ok_aload (Or.inr ⟨0, rfl, s24_82⟩))
   (ok_seq (ok_get s24_83 (k_66 hw))
   (ok_seq (ok_iload (Or.inr ⟨1, rfl, s24_86⟩))
   (ok_seq (ok_iload (Or.inl s24_87))
   (ok_seq (ok_iastore s24_89)
   (ok_seq (ok_aload (Or.inr ⟨0, rfl, s24_90⟩))
   (ok_seq (ok_get s24_91 (k_46 hw))
   (ok_seq (ok_iload (Or.inl s24_94))
   (ok_seq (ok_iaload s24_96)
   (ok_seq (ok_istore (Or.inl s24_97))
   (ok_seq (ok_aload (Or.inr ⟨0, rfl, s24_99⟩))
   (ok_seq (ok_get s24_100 (k_67 hw))
   (ok_seq (ok_iload (Or.inl s24_103))
   (ok_seq (ok_laload s24_105)
   (ok_seq (ok_lconst s24_106 (by decide))
   (ok_lif hν hT s24_107 s24_108)))))))))))))))))
  (ND (LF (ok_seq (ok_push (Or.inl s24_111))
   (ok_goto s24_112)))
  (LF (ok_push (Or.inl s24_115)))))
  (ND (LF (ok_seq (ok_istore (Or.inl s24_116))
   (ok_seq (ok_aload (Or.inr ⟨0, rfl, s24_118⟩))
   (ok_seq (ok_iload (Or.inr ⟨1, rfl, s24_119⟩))
   (ok_seq (ok_iload (Or.inl s24_120))
   (ok_seq (ok_aload (Or.inr ⟨0, rfl, s24_122⟩))
   (ok_seq (ok_get s24_123 (k_67 hw))
   (ok_seq (ok_iload (Or.inr ⟨1, rfl, s24_126⟩))
   (ok_seq (ok_laload s24_127)
   (ok_seq (ok_aload (Or.inr ⟨0, rfl, s24_128⟩))
   (ok_seq (ok_get s24_129 (k_48 hw))
   (ok_seq (ok_iload (Or.inl s24_132))
   (ok_laload s24_134)))))))))))))
  (ND (LF (⟨⟨leb rfl, leb rfl, 0, rfl⟩, (Jvm.Free.JP.mathPlain rfl (by decide +kernel)), okc_s s24_135 (k_76 hw)⟩))
  (LF (⟨⟨leb rfl, leb rfl, 0, rfl⟩, (plainFor_of_name pn_60), okc_m s24_138 (k_63 hw)⟩)))))
  (ND (ND (LF (ok_seq (ok_iload (Or.inl s24_141))
   (ok_if s24_143)))
  (ND (LF (ok_seq (ok_aload (Or.inr ⟨0, rfl, s24_146⟩))
   (ok_seq (ok_get s24_147 (k_67 hw))
   (ok_seq (ok_iload (Or.inl s24_150))
   (ok_seq (ok_laload s24_152)
   (ok_seq (ok_lconst s24_153 (by decide))
   (ok_lif hν hT s24_154 s24_155)))))))
  (LF (ok_seq (ok_aload (Or.inr ⟨0, rfl, s24_158⟩))
   (ok_iload (Or.inl s24_159))))))
  (ND (LF (⟨⟨leb rfl, leb rfl, 0, rfl⟩, (plainFor_of_name pn_60), okc_m s24_161 (k_68 hw)⟩))
  (ND (LF (ok_goto s24_164))
  (LF (⟨s24_167, rfl⟩)))))))
set_option maxRecDepth 65536 in
set_option maxHeartbeats 40000000 in
theorem okq15 (l : Launch) {Z : State} {a0 : Array Value} (hw : HW1 Z a0) (n0 : Nat) {ν : OwnL.Va} (hν : ν.Ok) {T : List OwnL.SR} (hT : Sg ν T) : AllT (RowOk l Z a0 KT n0 ν mlQ frQ loQ yyQ bbQ rrQ 15) (tq15 T) := (ND (ND (ND (LF (ok_seq (ok_ldc2 s25_0 (k_77 hw) (by decide))
   (ok_seq (ok_lstore (Or.inl s25_3))
   (ok_seq (ok_aload (Or.inr ⟨0, rfl, s25_5⟩))
   (ok_seq (ok_get s25_6 (k_35 hw))
   (ok_seq (ok_iload (Or.inr ⟨1, rfl, s25_9⟩))
   (ok_seq (ok_iaload s25_10)
   (ok_istore (Or.inl s25_11)))))))))
  (LF (ok_seq (ok_iload (Or.inl s25_13))
   (ok_seq (ok_aload (Or.inr ⟨0, rfl, s25_15⟩))
   (ok_seq (ok_get s25_16 (k_35 hw))
   (ok_seq (ok_iload (Or.inr ⟨1, rfl, s25_19⟩))
   (ok_seq (ok_push (Or.inl s25_20))
   (ok_seq (ok_add s25_21)
   (ok_seq (ok_iaload s25_22)
   (ok_icmp s25_23))))))))))
  (ND (LF (ok_seq (ok_aload (Or.inr ⟨0, rfl, s25_26⟩))
   (ok_seq (ok_get s25_27 (k_48 hw))
   (ok_seq (ok_iload (Or.inl s25_30))
   (ok_seq (ok_laload s25_32)
   (ok_seq (ok_lconst s25_33 (by decide))
   (ok_lif hν hT s25_34 s25_35)))))))
  (LF (ok_seq (ok_lload (Or.inl s25_38))
   (ok_seq (ok_aload (Or.inr ⟨0, rfl, s25_40⟩))
   (ok_seq (ok_get s25_41 (k_73 hw))
   (ok_seq (ok_aload (Or.inr ⟨0, rfl, s25_44⟩))
   (ok_seq (ok_get s25_45 (k_46 hw))
   (ok_seq (ok_iload (Or.inl s25_48))
   (ok_seq (ok_iaload s25_50)
   (ok_seq (ok_laload s25_51)
   (ok_seq (ok_aload (Or.inr ⟨0, rfl, s25_52⟩))
   (ok_seq (ok_get s25_53 (k_51 hw))
   (ok_seq (ok_iload (Or.inl s25_56))
   (ok_seq (ok_laload s25_58)
   (ok_lsub s25_59))))))))))))))))
  (ND (ND (LF (⟨⟨leb rfl, leb rfl, 0, rfl⟩, (Jvm.Free.JP.mathPlain rfl (by decide +kernel)), okc_s s25_60 (k_44 hw)⟩))
  (LF (ok_lstore (Or.inl s25_63))))
  (ND (LF (ok_seq (ok_inc s25_65)
   (ok_goto s25_68)))
  (ND (LF (ok_seq (ok_aload (Or.inr ⟨0, rfl, s25_71⟩))
   (ok_seq (ok_get s25_72 (k_73 hw))
   (ok_seq (ok_iload (Or.inr ⟨1, rfl, s25_75⟩))
   (ok_seq (ok_lload (Or.inl s25_76))
   (ok_seq (ok_lload (Or.inr ⟨2, rfl, s25_78⟩))
   (ok_seq (ok_lsub s25_79)
   (ok_seq (ok_lastore s25_80)
   (ok_seq (ok_aload (Or.inr ⟨0, rfl, s25_81⟩))
   (ok_seq (ok_get s25_82 (k_66 hw))
   (ok_seq (ok_iload (Or.inr ⟨1, rfl, s25_85⟩))
   (ok_seq (ok_aload (Or.inr ⟨0, rfl, s25_86⟩))
   (ok_seq (ok_get s25_87 (k_35 hw))
   (ok_seq (ok_iload (Or.inr ⟨1, rfl, s25_90⟩))
   (ok_seq (ok_iaload s25_91)
   (ok_iastore s25_92))))))))))))))))
  (LF (⟨s25_93, rfl⟩))))))
theorem tabok (l : Launch) {Z : State} {a0 : Array Value} (hw : HW1 Z a0) (n0 : Nat) {ν : OwnL.Va} (hν : ν.Ok) {T : List OwnL.SR} (hT : Sg ν T) : TabOk l Z a0 KT n0 ν (TQ T) mlQ frQ loQ yyQ bbQ rrQ := ⟨fun q pc e h => (show AllQ (RowOk l Z a0 KT n0 ν mlQ frQ loQ yyQ bbQ rrQ) (TQ T) from (QN (okq0 l hw n0 hν hT) (QN (okq1 l hw n0 hν hT) (QN (okq2 l hw n0 hν hT) (QN (okq3 l hw n0 hν hT) (QN (okq4 l hw n0 hν hT) (QN (okq5 l hw n0 hν hT) (QN (okq6 l hw n0 hν hT) (QN (okq7 l hw n0 hν hT) (QN (okq8 l hw n0 hν hT) (QN (okq9 l hw n0 hν hT) (QN (okq10 l hw n0 hν hT) (QN (okq11 l hw n0 hν hT) (QN (okq12 l hw n0 hν hT) (QN (okq13 l hw n0 hν hT) (QN (okq14 l hw n0 hν hT) (QN (okq15 l hw n0 hν hT) QO))))))))))))))))) q pc e h, kok hw⟩
theorem pn_78 : plainName "com/example/primalcap/primalcap/MinCostFlow" = true := by first | (simp [plainName, overriddenIn]; done) | decide +kernel

def oz : OwnL.MV := .inr (.inr (0, 0, 0, 0, 0))
def ol (z : Int) : OwnL.MV := .inr (.inr (z, 0, 0, 0, 0))
def own_eqV : OwnL.MV → OwnL.MV → Bool
  | .inl a, .inl b => eqI a b
  | .inr (.inl a), .inr (.inl b) => Nat.beq a b
  | .inr (.inr (k, a, b, c, p)), .inr (.inr (k', a', b', c', p')) => eqI k k' && eqI a a' && eqI b b' && eqI c c' && eqI p p'
  | _, _ => false
def own_eqL {α : Type} (f : α → α → Bool) : List α → List α → Bool
  | [], [] => true
  | a :: A, b :: B => f a b && own_eqL f A B
  | _, _ => false
def own_eqO : OwnL.MO → OwnL.MO → Bool
  | .inl (k, a), .inl (k', b) => Nat.beq k k' && own_eqL own_eqV a b
  | .inr (g, a), .inr (g', b) => (g == g') && own_eqL own_eqV a b
  | _, _ => false
def own_eqR : Option OwnL.MV → Option OwnL.MV → Bool
  | some a, some b => own_eqV a b
  | none, none => true
  | _, _ => false
theorem own_eqV_ok : ∀ {a b : OwnL.MV}, own_eqV a b = true → a = b
  | .inl a, .inl b, h => congrArg Sum.inl ((eqI_iff a b).mp h)
  | .inr (.inl a), .inr (.inl b), h => congrArg (fun z => Sum.inr (Sum.inl z)) (Nat.eq_of_beq_eq_true h)
  | .inr (.inr (k, a, b, c, p)), .inr (.inr (k', a', b', c', p')), h => by
    simp only [own_eqV, Bool.and_eq_true] at h
    rw [(eqI_iff _ _).mp h.1.1.1.1, (eqI_iff _ _).mp h.1.1.1.2, (eqI_iff _ _).mp h.1.1.2, (eqI_iff _ _).mp h.1.2, (eqI_iff _ _).mp h.2]
theorem own_eqL_ok {α : Type} {f : α → α → Bool} (hf : ∀ {a b}, f a b = true → a = b) : ∀ {A B : List α}, own_eqL f A B = true → A = B
  | [], [], _ => rfl
  | a :: A, b :: B, h => by
    simp only [own_eqL, Bool.and_eq_true] at h
    rw [hf h.1, own_eqL_ok hf h.2]
theorem own_eqO_ok : ∀ {a b : OwnL.MO}, own_eqO a b = true → a = b
  | .inl (k, a), .inl (k', b), h => by
    simp only [own_eqO, Bool.and_eq_true] at h
    rw [Nat.eq_of_beq_eq_true h.1, own_eqL_ok own_eqV_ok h.2]
  | .inr (g, a), .inr (g', b), h => by
    simp only [own_eqO, Bool.and_eq_true] at h
    rw [beq_iff_eq.mp h.1, own_eqL_ok own_eqV_ok h.2]
theorem own_eqR_ok : ∀ {a b : Option OwnL.MV}, own_eqR a b = true → a = b
  | some a, some b, h => congrArg some (own_eqV_ok h)
  | none, none, _ => rfl
def own_is (r : Option OwnL.MR) (v : Option OwnL.MV) (A : List OwnL.MO) (k n : Nat) : Bool := match r with
  | some (v', A', k', n') => own_eqR v' v && own_eqL own_eqO A' A && Nat.beq k' k && Nat.beq n' n
  | none => false
theorem own_is_ok {r : Option OwnL.MR} {v : Option OwnL.MV} {A : List OwnL.MO} {k n : Nat} (h : own_is r v A k n = true) : r = some (v, A, k, n) := by
  unfold own_is at h
  split at h
  · simp only [Bool.and_eq_true] at h
    rw [own_eqR_ok h.1.1.1, own_eqL_ok own_eqO_ok h.1.1.2, Nat.eq_of_beq_eq_true h.1.2, Nat.eq_of_beq_eq_true h.2]
  · cases h
/-- the run's end: the first five objects as they were, the flow, twelve more objects -/
def own_chk (r : Option OwnL.MR) (P : List OwnL.MO) (F1 F2 : OwnL.MV) : Bool := match r with
  | some (none, o0 :: o1 :: o2 :: o3 :: o4 :: .inr (true, .inr (.inr _) :: x1 :: x2 :: .inr (.inr _) :: zs) :: T, k', n') => Nat.beq k' 0 && Nat.beq n' 0 && own_eqL own_eqO [o0, o1, o2, o3, o4] P && own_eqV x1 F1 && own_eqV x2 F2 && own_eqL own_eqV zs [oz, oz, oz, oz, oz, oz, oz, oz, oz, oz, oz, oz] && Nat.beq T.length 12
  | _ => false
theorem own_chk_ok {r : Option OwnL.MR} {P : List OwnL.MO} {F1 F2 : OwnL.MV} (h : own_chk r P F1 F2 = true) : ∃ (T : List OwnL.MO) (F0 F3 : Int × Int × Int × Int × Int), T.length = 12 ∧ r = some (none, P ++ .inr (true, [.inr (.inr F0), F1, F2, .inr (.inr F3), oz, oz, oz, oz, oz, oz, oz, oz, oz, oz, oz, oz]) :: T, 0, 0) := by
  unfold own_chk at h
  split at h
  · next o0 o1 o2 o3 o4 F0 x1 x2 F3 zs T k' n' =>
    simp only [Bool.and_eq_true] at h
    obtain ⟨⟨⟨⟨⟨⟨h1, h2⟩, h3⟩, h4⟩, h6⟩, h7⟩, h5⟩ := h
    refine ⟨T, F0, F3, Nat.eq_of_beq_eq_true h5, ?_⟩
    rw [← own_eqL_ok own_eqO_ok h3, own_eqV_ok h4, own_eqV_ok h6, own_eqL_ok own_eqV_ok h7, Nat.eq_of_beq_eq_true h1, Nat.eq_of_beq_eq_true h2]
    rfl
  · cases h
def wa (ν : OwnL.Va) : Int64 := Int64.ofInt (ev ν 0 1 0 0 0)
def wb (ν : OwnL.Va) : Int64 := Int64.ofInt (ev ν 0 0 1 0 0)
def wc (ν : OwnL.Va) : Int64 := Int64.ofInt (ev ν 0 0 0 1 0)
def wp (ν : OwnL.Va) : Int64 := Int64.ofInt (ev ν 0 0 0 0 1)
def own_sp (r1 r2 : Nat) (ν : OwnL.Va) (f g : Int) : Prop := (0 ≤ f ∧ f ≤ 15) ∧ (0 ≤ g ∧ g ≤ 15) ∧
  (if r1 = r2 then f + g = min (min ν.a ν.b + ν.c) ν.p else if r2 < r1 then f = min (min ν.a ν.b) ν.p ∧ g = min ν.c (ν.p - f) else g = min ν.c ν.p ∧ f = min (min ν.a ν.b) (ν.p - g))
def own_bx (ν : OwnL.Va) : Prop := (0 ≤ ν.a ∧ ν.a ≤ 7) ∧ (0 ≤ ν.b ∧ ν.b ≤ 7) ∧ (0 ≤ ν.c ∧ ν.c ≤ 7) ∧ (0 ≤ ν.p ∧ ν.p ≤ 15)
theorem own_bxok {ν : OwnL.Va} (h : own_bx ν) : ν.Ok := by
  obtain ⟨h1, h2, h3, h4⟩ := h
  exact ⟨⟨h1.1, by omega⟩, ⟨h2.1, by omega⟩, ⟨h3.1, by omega⟩, h4⟩
/-- what solve leaves: the first five objects, the flow, twelve more objects -/
def own_Q (n0 : Nat) (ν : OwnL.Va) (P : List OwnL.MO) (r1 r2 : Nat) : Option Value → List Ob → Prop := fun v A' => v = none ∧ ∃ (f0 f1 f2 f3 : Int64) (TT : List Ob), TT.length = 12 ∧ A' = P.map (upO n0 ν) ++ .inr (.long, [.long f0, .long f1, .long f2, .long f3, .long 0, .long 0, .long 0, .long 0, .long 0, .long 0, .long 0, .long 0, .long 0, .long 0, .long 0, .long 0]) :: TT ∧ own_sp r1 r2 ν f1.toInt f2.toInt
def e1 (a b c p : Int) : OwnL.SR := ((0, a, b, c, p), 0, true)
def e0 (a b c p : Int) : OwnL.SR := ((0, a, b, c, p), 0, false)
def n1 (a b c p : Int) : OwnL.SR := ((0, a, b, c, p), 1, true)
def n0_ (a b c p : Int) : OwnL.SR := ((0, a, b, c, p), 1, false)
def p1_ (a b c p : Int) : OwnL.SR := ((0, a, b, c, p), 2, true)
def p0_ (a b c p : Int) : OwnL.SR := ((0, a, b, c, p), 2, false)

theorem own_se {r : Nat} {ν : OwnL.Va} {f g : Int} (h : (0 ≤ f ∧ f ≤ 15) ∧ (0 ≤ g ∧ g ≤ 15) ∧ f + g = min (min ν.a ν.b + ν.c) ν.p) : own_sp r r ν f g := ⟨h.1, h.2.1, by rw [if_pos rfl]; exact h.2.2⟩
theorem own_sg {r1 r2 : Nat} {ν : OwnL.Va} {f g : Int} (h : (0 ≤ f ∧ f ≤ 15) ∧ (0 ≤ g ∧ g ≤ 15) ∧ f = min (min ν.a ν.b) ν.p ∧ g = min ν.c (ν.p - f)) (hr : r2 < r1 := by decide) : own_sp r1 r2 ν f g := ⟨h.1, h.2.1, by rw [if_neg (by omega), if_pos hr]; exact h.2.2⟩
theorem own_sl {r1 r2 : Nat} {ν : OwnL.Va} {f g : Int} (h : (0 ≤ f ∧ f ≤ 15) ∧ (0 ≤ g ∧ g ≤ 15) ∧ g = min ν.c ν.p ∧ f = min (min ν.a ν.b) (ν.p - g)) (hr : r1 < r2 := by decide) : own_sp r1 r2 ν f g := ⟨h.1, h.2.1, by rw [if_neg (by omega), if_neg (by omega)]; exact h.2.2⟩
def own_P (c1 c2 : Int) : List OwnL.MO := [.inl (0, [.inr (.inl 2), .inr (.inl 3), .inr (.inl 4), .inr (.inl 5), .inr (.inl 6), .inl 3, .inr (.inr (0, 1, 1, 1, 1)), .inl 4]),
  .inr (false, [.inl 0, .inl 2, .inl 0, .inl 1, .inl 0, .inl 0, .inl 0, .inl 0, .inl 0, .inl 0, .inl 0, .inl 0, .inl 0, .inl 0, .inl 0, .inl 0]),
  .inr (false, [.inl 2, .inl 1, .inl 1, .inl 0, .inl 0, .inl 0, .inl 0, .inl 0, .inl 0, .inl 0, .inl 0, .inl 0, .inl 0, .inl 0, .inl 0, .inl 0]),
  .inr (true, [.inr (.inr (0, 1, 0, 0, 0)), .inr (.inr (0, 0, 1, 0, 0)), .inr (.inr (0, 0, 0, 1, 0)), .inr (.inr (0, 0, 0, 0, 1)), oz, oz, oz, oz, oz, oz, oz, oz, oz, oz, oz, oz]),
  .inr (true, [oz, ol c1, ol c2, oz, oz, oz, oz, oz, oz, oz, oz, oz, oz, oz, oz, oz])]
def own_ck (T : List OwnL.SR) (S : OwnL.MS) (r1 r2 : Nat) (a1 b1 c1 p1 a2 b2 c2 p2 : Int) : Bool := own_chk (OwnL.run (TQ T) mlQ frQ loQ 20000 8 S) (own_P (-r1) (-r2)) (.inr (.inr (0, a1, b1, c1, p1))) (.inr (.inr (0, a2, b2, c2, p2))) && okF 0 a1 b1 c1 p1 && okF 0 a2 b2 c2 p2
theorem own_leaf (l : Launch) {Z : State} {a0 : Array Value} (hw : HW1 Z a0) (n0 : Nat) {ν : OwnL.Va} (hν : ν.Ok) {T : List OwnL.SR} (hT : Sg ν T) {H : List OwnL.MO} {a1 b1 c1 p1 a2 b2 c2 p2 : Int} {r1 r2 : Nat}
    (hc : own_ck T (0, [some (some (.inr (.inl 7))), none, none, none], [], H, 0, 0) r1 r2 a1 b1 c1 p1 a2 b2 c2 p2 = true) (hs : own_sp r1 r2 ν (ev ν 0 a1 b1 c1 p1) (ev ν 0 a2 b2 c2 p2)) :
    Met l Z KT n0 y11 b11 4 none ({ frames := 4, cells := 0, slots := 0, locals := 100 } : Room) #[.ref (n0 + 6)] (H.map (upO n0 ν)) (own_Q n0 ν (own_P (-r1) (-r2)) r1 r2) := by
  simp only [own_ck, Bool.and_eq_true] at hc
  obtain ⟨⟨hc, o1⟩, o2⟩ := hc
  obtain ⟨TT, F0, F3, hl, hr⟩ := own_chk_ok hc
  have M := met_run (tabok l hw n0 hν hT) (f := 20000) (q := 8) (args := [.inr (.inl 7)]) (j := 3) (A := H) (plainFor_of_name pn_60) rfl hr
  refine Met.mono (show Met l Z KT n0 y11 b11 4 none ({ frames := 4, cells := 0, slots := 0, locals := 100 } : Room) #[.ref (n0 + 6)] (H.map (upO n0 ν)) _ from M) (fun v A' q => ?_)
  obtain ⟨rfl, rfl⟩ := q
  obtain ⟨k0, a0', b0, c0, p0⟩ := F0
  obtain ⟨k3, a3, b3, c3, p3⟩ := F3
  refine ⟨rfl, Int64.ofInt (ev ν k0 a0' b0 c0 p0), Int64.ofInt (ev ν 0 a1 b1 c1 p1), Int64.ofInt (ev ν 0 a2 b2 c2 p2), Int64.ofInt (ev ν k3 a3 b3 c3 p3), TT.map (upO n0 ν), by simpa using hl, ?_, ?_⟩
  · rw [List.map_append, List.map_cons]
    simp only [upO, List.map_cons, List.map_nil]
    rfl
  · rw [evI hν o1, evI hν o2]
    exact hs

def own_h0 : List OwnL.MO := [.inl (0, [.inr (.inl 2), .inr (.inl 3), .inr (.inl 4), .inr (.inl 5), .inr (.inl 6), .inl 3, oz, .inl 0]),
  .inr (false, [.inl 0, .inl 0, .inl 0, .inl 0, .inl 0, .inl 0, .inl 0, .inl 0, .inl 0, .inl 0, .inl 0, .inl 0, .inl 0, .inl 0, .inl 0, .inl 0]),
  .inr (false, [.inl 0, .inl 0, .inl 0, .inl 0, .inl 0, .inl 0, .inl 0, .inl 0, .inl 0, .inl 0, .inl 0, .inl 0, .inl 0, .inl 0, .inl 0, .inl 0]),
  .inr (true, [oz, oz, oz, oz, oz, oz, oz, oz, oz, oz, oz, oz, oz, oz, oz, oz]),
  .inr (true, [oz, oz, oz, oz, oz, oz, oz, oz, oz, oz, oz, oz, oz, oz, oz, oz]),
  .inr (true, [oz, oz, oz, oz, oz, oz, oz, oz, oz, oz, oz, oz, oz, oz, oz, oz])]
def own_h1 : List OwnL.MO := [.inl (0, [.inr (.inl 2), .inr (.inl 3), .inr (.inl 4), .inr (.inl 5), .inr (.inl 6), .inl 3, .inr (.inr (0, 1, 0, 0, 0)), .inl 1]),
  .inr (false, [.inl 0, .inl 0, .inl 0, .inl 0, .inl 0, .inl 0, .inl 0, .inl 0, .inl 0, .inl 0, .inl 0, .inl 0, .inl 0, .inl 0, .inl 0, .inl 0]),
  .inr (false, [.inl 2, .inl 0, .inl 0, .inl 0, .inl 0, .inl 0, .inl 0, .inl 0, .inl 0, .inl 0, .inl 0, .inl 0, .inl 0, .inl 0, .inl 0, .inl 0]),
  .inr (true, [.inr (.inr (0, 1, 0, 0, 0)), oz, oz, oz, oz, oz, oz, oz, oz, oz, oz, oz, oz, oz, oz, oz]),
  .inr (true, [oz, oz, oz, oz, oz, oz, oz, oz, oz, oz, oz, oz, oz, oz, oz, oz]),
  .inr (true, [oz, oz, oz, oz, oz, oz, oz, oz, oz, oz, oz, oz, oz, oz, oz, oz])]
theorem c_add0 (l : Launch) {Z : State} {a0 : Array Value} (hw : HW1 Z a0) (n0 : Nat) {ν : OwnL.Va} (hB : own_bx ν) : Met l Z KT n0 y3 b3 8 (some .int) ({ frames := 2, cells := 0, slots := 0, locals := 48 } : Room) #[(.ref (n0 + 0)), (.int (0 : Int32)), (.int (2 : Int32)), (.long (wa ν)), (.long (0 : Int64))] (own_h0.map (upO n0 ν)) (Is (some (.int 0)) (own_h1.map (upO n0 ν))) := by
  obtain ⟨⟨_, _⟩, ⟨_, _⟩, ⟨_, _⟩, ⟨_, _⟩⟩ := id hB
  exact met_run (tabok l hw n0 (own_bxok hB) (T := [((0, 1, 0, 0, 0), 1, false), ((-9223372036854775807, 1, 0, 0, 0), 2, false)]) ⟨by simp only [SgR, ev_eq, if_true, Bool.false_eq_true, if_false]; omega, by simp only [SgR, ev_eq, if_true, Bool.false_eq_true, if_false]; omega, trivial⟩) (f := 400) (q := 0) (args := [.inr (.inl 1), .inl 0, .inl 2, .inr (.inr (0, 1, 0, 0, 0)), oz]) (j := 1) (A := own_h0) (A' := own_h1) (v := some (.inl 0)) (k := 0) (n := 0) (plainFor_of_name pn_78) rfl (own_is_ok (by decide +kernel))
def own_h2 (c1 : Int) : List OwnL.MO := [.inl (0, [.inr (.inl 2), .inr (.inl 3), .inr (.inl 4), .inr (.inl 5), .inr (.inl 6), .inl 3, .inr (.inr (0, 1, 1, 0, 0)), .inl 2]),
  .inr (false, [.inl 0, .inl 2, .inl 0, .inl 0, .inl 0, .inl 0, .inl 0, .inl 0, .inl 0, .inl 0, .inl 0, .inl 0, .inl 0, .inl 0, .inl 0, .inl 0]),
  .inr (false, [.inl 2, .inl 1, .inl 0, .inl 0, .inl 0, .inl 0, .inl 0, .inl 0, .inl 0, .inl 0, .inl 0, .inl 0, .inl 0, .inl 0, .inl 0, .inl 0]),
  .inr (true, [.inr (.inr (0, 1, 0, 0, 0)), .inr (.inr (0, 0, 1, 0, 0)), oz, oz, oz, oz, oz, oz, oz, oz, oz, oz, oz, oz, oz, oz]),
  .inr (true, [oz, ol c1, oz, oz, oz, oz, oz, oz, oz, oz, oz, oz, oz, oz, oz, oz]),
  .inr (true, [oz, oz, oz, oz, oz, oz, oz, oz, oz, oz, oz, oz, oz, oz, oz, oz])]
theorem c_add1 (l : Launch) {Z : State} {a0 : Array Value} (hw : HW1 Z a0) (n0 : Nat) {ν : OwnL.Va} (hB : own_bx ν) : Met l Z KT n0 y3 b3 8 (some .int) ({ frames := 2, cells := 0, slots := 0, locals := 48 } : Room) #[(.ref (n0 + 0)), (.int (2 : Int32)), (.int (1 : Int32)), (.long (wb ν)), (.long (-1 : Int64))] (own_h1.map (upO n0 ν)) (Is (some (.int 1)) ((own_h2 (-1)).map (upO n0 ν))) := by
  obtain ⟨⟨_, _⟩, ⟨_, _⟩, ⟨_, _⟩, ⟨_, _⟩⟩ := id hB
  exact met_run (tabok l hw n0 (own_bxok hB) (T := [((0, 0, 1, 0, 0), 1, false), ((-9223372036854775807, 1, 1, 0, 0), 2, false)]) ⟨by simp only [SgR, ev_eq, if_true, Bool.false_eq_true, if_false]; omega, by simp only [SgR, ev_eq, if_true, Bool.false_eq_true, if_false]; omega, trivial⟩) (f := 400) (q := 0) (args := [.inr (.inl 1), .inl 2, .inl 1, .inr (.inr (0, 0, 1, 0, 0)), ol (-1)]) (j := 1) (A := own_h1) (A' := (own_h2 (-1))) (v := some (.inl 1)) (k := 0) (n := 0) (plainFor_of_name pn_78) rfl (own_is_ok (by decide +kernel))
def own_h4 (c1 : Int) (c2 : Int) : List OwnL.MO := [.inl (0, [.inr (.inl 2), .inr (.inl 3), .inr (.inl 4), .inr (.inl 5), .inr (.inl 6), .inl 3, .inr (.inr (0, 1, 1, 1, 0)), .inl 3]),
  .inr (false, [.inl 0, .inl 2, .inl 0, .inl 0, .inl 0, .inl 0, .inl 0, .inl 0, .inl 0, .inl 0, .inl 0, .inl 0, .inl 0, .inl 0, .inl 0, .inl 0]),
  .inr (false, [.inl 2, .inl 1, .inl 1, .inl 0, .inl 0, .inl 0, .inl 0, .inl 0, .inl 0, .inl 0, .inl 0, .inl 0, .inl 0, .inl 0, .inl 0, .inl 0]),
  .inr (true, [.inr (.inr (0, 1, 0, 0, 0)), .inr (.inr (0, 0, 1, 0, 0)), .inr (.inr (0, 0, 0, 1, 0)), oz, oz, oz, oz, oz, oz, oz, oz, oz, oz, oz, oz, oz]),
  .inr (true, [oz, ol c1, ol c2, oz, oz, oz, oz, oz, oz, oz, oz, oz, oz, oz, oz, oz]),
  .inr (true, [oz, oz, oz, oz, oz, oz, oz, oz, oz, oz, oz, oz, oz, oz, oz, oz])]
theorem c_add2 (l : Launch) {Z : State} {a0 : Array Value} (hw : HW1 Z a0) (n0 : Nat) {ν : OwnL.Va} (hB : own_bx ν) : Met l Z KT n0 y3 b3 8 (some .int) ({ frames := 2, cells := 0, slots := 0, locals := 48 } : Room) #[(.ref (n0 + 0)), (.int (0 : Int32)), (.int (1 : Int32)), (.long (wc ν)), (.long (-1 : Int64))] ((own_h2 (-1)).map (upO n0 ν)) (Is (some (.int 2)) ((own_h4 (-1) (-1)).map (upO n0 ν))) := by
  obtain ⟨⟨_, _⟩, ⟨_, _⟩, ⟨_, _⟩, ⟨_, _⟩⟩ := id hB
  exact met_run (tabok l hw n0 (own_bxok hB) (T := [((0, 0, 0, 1, 0), 1, false), ((-9223372036854775807, 1, 1, 1, 0), 2, false)]) ⟨by simp only [SgR, ev_eq, if_true, Bool.false_eq_true, if_false]; omega, by simp only [SgR, ev_eq, if_true, Bool.false_eq_true, if_false]; omega, trivial⟩) (f := 400) (q := 0) (args := [.inr (.inl 1), .inl 0, .inl 1, .inr (.inr (0, 0, 0, 1, 0)), ol (-1)]) (j := 1) (A := (own_h2 (-1))) (A' := (own_h4 (-1) (-1))) (v := some (.inl 2)) (k := 0) (n := 0) (plainFor_of_name pn_78) rfl (own_is_ok (by decide +kernel))
def own_h6 (c1 : Int) (c2 : Int) : List OwnL.MO := [.inl (0, [.inr (.inl 2), .inr (.inl 3), .inr (.inl 4), .inr (.inl 5), .inr (.inl 6), .inl 3, .inr (.inr (0, 1, 1, 1, 1)), .inl 4]),
  .inr (false, [.inl 0, .inl 2, .inl 0, .inl 1, .inl 0, .inl 0, .inl 0, .inl 0, .inl 0, .inl 0, .inl 0, .inl 0, .inl 0, .inl 0, .inl 0, .inl 0]),
  .inr (false, [.inl 2, .inl 1, .inl 1, .inl 0, .inl 0, .inl 0, .inl 0, .inl 0, .inl 0, .inl 0, .inl 0, .inl 0, .inl 0, .inl 0, .inl 0, .inl 0]),
  .inr (true, [.inr (.inr (0, 1, 0, 0, 0)), .inr (.inr (0, 0, 1, 0, 0)), .inr (.inr (0, 0, 0, 1, 0)), .inr (.inr (0, 0, 0, 0, 1)), oz, oz, oz, oz, oz, oz, oz, oz, oz, oz, oz, oz]),
  .inr (true, [oz, ol c1, ol c2, oz, oz, oz, oz, oz, oz, oz, oz, oz, oz, oz, oz, oz]),
  .inr (true, [oz, oz, oz, oz, oz, oz, oz, oz, oz, oz, oz, oz, oz, oz, oz, oz])]
theorem c_add3 (l : Launch) {Z : State} {a0 : Array Value} (hw : HW1 Z a0) (n0 : Nat) {ν : OwnL.Va} (hB : own_bx ν) : Met l Z KT n0 y3 b3 8 (some .int) ({ frames := 2, cells := 0, slots := 0, locals := 48 } : Room) #[(.ref (n0 + 0)), (.int (1 : Int32)), (.int (0 : Int32)), (.long (wp ν)), (.long (0 : Int64))] ((own_h4 (-1) (-1)).map (upO n0 ν)) (Is (some (.int 3)) ((own_h6 (-1) (-1)).map (upO n0 ν))) := by
  obtain ⟨⟨_, _⟩, ⟨_, _⟩, ⟨_, _⟩, ⟨_, _⟩⟩ := id hB
  exact met_run (tabok l hw n0 (own_bxok hB) (T := [((0, 0, 0, 0, 1), 1, false), ((-9223372036854775807, 1, 1, 1, 1), 2, false)]) ⟨by simp only [SgR, ev_eq, if_true, Bool.false_eq_true, if_false]; omega, by simp only [SgR, ev_eq, if_true, Bool.false_eq_true, if_false]; omega, trivial⟩) (f := 400) (q := 0) (args := [.inr (.inl 1), .inl 1, .inl 0, .inr (.inr (0, 0, 0, 0, 1)), oz]) (j := 1) (A := (own_h4 (-1) (-1))) (A' := (own_h6 (-1) (-1))) (v := some (.inl 3)) (k := 0) (n := 0) (plainFor_of_name pn_78) rfl (own_is_ok (by decide +kernel))
def own_h8 (c1 : Int) (c2 : Int) : List OwnL.MO := [.inl (0, [.inr (.inl 2), .inr (.inl 3), .inr (.inl 4), .inr (.inl 5), .inr (.inl 6), .inl 3, .inr (.inr (0, 1, 1, 1, 1)), .inl 4]),
  .inr (false, [.inl 0, .inl 2, .inl 0, .inl 1, .inl 0, .inl 0, .inl 0, .inl 0, .inl 0, .inl 0, .inl 0, .inl 0, .inl 0, .inl 0, .inl 0, .inl 0]),
  .inr (false, [.inl 2, .inl 1, .inl 1, .inl 0, .inl 0, .inl 0, .inl 0, .inl 0, .inl 0, .inl 0, .inl 0, .inl 0, .inl 0, .inl 0, .inl 0, .inl 0]),
  .inr (true, [.inr (.inr (0, 1, 0, 0, 0)), .inr (.inr (0, 0, 1, 0, 0)), .inr (.inr (0, 0, 0, 1, 0)), .inr (.inr (0, 0, 0, 0, 1)), oz, oz, oz, oz, oz, oz, oz, oz, oz, oz, oz, oz]),
  .inr (true, [oz, ol c1, ol c2, oz, oz, oz, oz, oz, oz, oz, oz, oz, oz, oz, oz, oz]),
  .inr (true, [oz, oz, oz, oz, oz, oz, oz, oz, oz, oz, oz, oz, oz, oz, oz, oz]),
  .inl (1, [.inr (.inl 0), .inr (.inl 0), .inr (.inl 0), oz, .inr (.inl 0), .inr (.inl 0), .inr (.inl 0), .inr (.inl 0), .inr (.inl 0), .inr (.inl 0), .inr (.inl 0), .inr (.inl 0), oz, .inl 0, .inl 0])]
def own_h10 : List OwnL.MO := [.inl (0, [.inr (.inl 2), .inr (.inl 3), .inr (.inl 4), .inr (.inl 5), .inr (.inl 6), .inl 3, .inr (.inr (0, 1, 1, 1, 1)), .inl 4]),
  .inr (false, [.inl 0, .inl 2, .inl 0, .inl 1, .inl 0, .inl 0, .inl 0, .inl 0, .inl 0, .inl 0, .inl 0, .inl 0, .inl 0, .inl 0, .inl 0, .inl 0]),
  .inr (false, [.inl 2, .inl 1, .inl 1, .inl 0, .inl 0, .inl 0, .inl 0, .inl 0, .inl 0, .inl 0, .inl 0, .inl 0, .inl 0, .inl 0, .inl 0, .inl 0]),
  .inr (true, [.inr (.inr (0, 1, 0, 0, 0)), .inr (.inr (0, 0, 1, 0, 0)), .inr (.inr (0, 0, 0, 1, 0)), .inr (.inr (0, 0, 0, 0, 1)), oz, oz, oz, oz, oz, oz, oz, oz, oz, oz, oz, oz]),
  .inr (true, [oz, ol (-1), ol (-1), oz, oz, oz, oz, oz, oz, oz, oz, oz, oz, oz, oz, oz]),
  .inr (true, [oz, oz, oz, oz, oz, oz, oz, oz, oz, oz, oz, oz, oz, oz, oz, oz]),
  .inl (1, [.inr (.inl 1), .inr (.inl 8), .inr (.inl 9), ol (4), .inr (.inl 10), .inr (.inl 11), .inr (.inl 12), .inr (.inl 13), .inr (.inl 14), .inr (.inl 15), .inr (.inl 16), .inr (.inl 17), ol (4), .inl 0, .inl 0]),
  .inr (false, [.inl 0, .inl 3, .inl 6, .inl 8]),
  .inr (false, [.inl 0, .inl 7, .inl 1, .inl 5]),
  .inr (true, [oz, oz, oz]),
  .inr (true, [oz, oz, oz]),
  .inr (false, [.inl 0, .inl 0, .inl 0]),
  .inr (false, [.inl 0, .inl 0, .inl 0]),
  .inr (false, [.inl 2, .inl 1, .inl 1, .inl 2, .inl 0, .inl 0, .inl 0, .inl 1]),
  .inr (false, [.inl 6, .inl 4, .inl 5, .inl 7, .inl 1, .inl 2, .inl 0, .inl 3]),
  .inr (true, [.inr (.inr (0, 1, 0, 0, 0)), .inr (.inr (0, 0, 0, 1, 0)), oz, oz, oz, .inr (.inr (0, 0, 0, 0, 1)), oz, .inr (.inr (0, 0, 1, 0, 0))]),
  .inr (true, [oz, ol (-4), oz, ol (4), ol (4), oz, oz, ol (-4)]),
  .inr (false, [.inl 3, .inl 6, .inl 8])]
def S11 : OwnL.MS := (0, [some (some (.inr (.inl 7))), none, none, none], [], own_h10, 0, 0)
theorem c_ctor11 (l : Launch) {Z : State} {a0 : Array Value} (hw : HW1 Z a0) (n0 : Nat) {ν : OwnL.Va} (hB : own_bx ν) : Met l Z KT n0 y4 b4 9 none ({ frames := 2, cells := 11, slots := 55, locals := 50 } : Room) #[.ref (n0 + 6), .ref (n0 + 0)] ((own_h8 (-1) (-1)).map (upO n0 ν)) (Is none (own_h10.map (upO n0 ν))) :=
  met_run (tabok l hw n0 (own_bxok hB) (T := []) trivial) (f := 4000) (q := 1) (args := [.inr (.inl 7), .inr (.inl 1)]) (j := 7) (A := (own_h8 (-1) (-1))) (A' := own_h10) (v := none) (k := 11) (n := 55) (plainFor_of_name pn_60) rfl (own_is_ok (by decide +kernel))
theorem c_add4 (l : Launch) {Z : State} {a0 : Array Value} (hw : HW1 Z a0) (n0 : Nat) {ν : OwnL.Va} (hB : own_bx ν) : Met l Z KT n0 y3 b3 8 (some .int) ({ frames := 2, cells := 0, slots := 0, locals := 48 } : Room) #[(.ref (n0 + 0)), (.int (0 : Int32)), (.int (1 : Int32)), (.long (wc ν)), (.long (-2 : Int64))] ((own_h2 (-1)).map (upO n0 ν)) (Is (some (.int 2)) ((own_h4 (-1) (-2)).map (upO n0 ν))) := by
  obtain ⟨⟨_, _⟩, ⟨_, _⟩, ⟨_, _⟩, ⟨_, _⟩⟩ := id hB
  exact met_run (tabok l hw n0 (own_bxok hB) (T := [((0, 0, 0, 1, 0), 1, false), ((-9223372036854775807, 1, 1, 1, 0), 2, false)]) ⟨by simp only [SgR, ev_eq, if_true, Bool.false_eq_true, if_false]; omega, by simp only [SgR, ev_eq, if_true, Bool.false_eq_true, if_false]; omega, trivial⟩) (f := 400) (q := 0) (args := [.inr (.inl 1), .inl 0, .inl 1, .inr (.inr (0, 0, 0, 1, 0)), ol (-2)]) (j := 1) (A := (own_h2 (-1))) (A' := (own_h4 (-1) (-2))) (v := some (.inl 2)) (k := 0) (n := 0) (plainFor_of_name pn_78) rfl (own_is_ok (by decide +kernel))
theorem c_add5 (l : Launch) {Z : State} {a0 : Array Value} (hw : HW1 Z a0) (n0 : Nat) {ν : OwnL.Va} (hB : own_bx ν) : Met l Z KT n0 y3 b3 8 (some .int) ({ frames := 2, cells := 0, slots := 0, locals := 48 } : Room) #[(.ref (n0 + 0)), (.int (1 : Int32)), (.int (0 : Int32)), (.long (wp ν)), (.long (0 : Int64))] ((own_h4 (-1) (-2)).map (upO n0 ν)) (Is (some (.int 3)) ((own_h6 (-1) (-2)).map (upO n0 ν))) := by
  obtain ⟨⟨_, _⟩, ⟨_, _⟩, ⟨_, _⟩, ⟨_, _⟩⟩ := id hB
  exact met_run (tabok l hw n0 (own_bxok hB) (T := [((0, 0, 0, 0, 1), 1, false), ((-9223372036854775807, 1, 1, 1, 1), 2, false)]) ⟨by simp only [SgR, ev_eq, if_true, Bool.false_eq_true, if_false]; omega, by simp only [SgR, ev_eq, if_true, Bool.false_eq_true, if_false]; omega, trivial⟩) (f := 400) (q := 0) (args := [.inr (.inl 1), .inl 1, .inl 0, .inr (.inr (0, 0, 0, 0, 1)), oz]) (j := 1) (A := (own_h4 (-1) (-2))) (A' := (own_h6 (-1) (-2))) (v := some (.inl 3)) (k := 0) (n := 0) (plainFor_of_name pn_78) rfl (own_is_ok (by decide +kernel))
def own_h14 : List OwnL.MO := [.inl (0, [.inr (.inl 2), .inr (.inl 3), .inr (.inl 4), .inr (.inl 5), .inr (.inl 6), .inl 3, .inr (.inr (0, 1, 1, 1, 1)), .inl 4]),
  .inr (false, [.inl 0, .inl 2, .inl 0, .inl 1, .inl 0, .inl 0, .inl 0, .inl 0, .inl 0, .inl 0, .inl 0, .inl 0, .inl 0, .inl 0, .inl 0, .inl 0]),
  .inr (false, [.inl 2, .inl 1, .inl 1, .inl 0, .inl 0, .inl 0, .inl 0, .inl 0, .inl 0, .inl 0, .inl 0, .inl 0, .inl 0, .inl 0, .inl 0, .inl 0]),
  .inr (true, [.inr (.inr (0, 1, 0, 0, 0)), .inr (.inr (0, 0, 1, 0, 0)), .inr (.inr (0, 0, 0, 1, 0)), .inr (.inr (0, 0, 0, 0, 1)), oz, oz, oz, oz, oz, oz, oz, oz, oz, oz, oz, oz]),
  .inr (true, [oz, ol (-1), ol (-2), oz, oz, oz, oz, oz, oz, oz, oz, oz, oz, oz, oz, oz]),
  .inr (true, [oz, oz, oz, oz, oz, oz, oz, oz, oz, oz, oz, oz, oz, oz, oz, oz]),
  .inl (1, [.inr (.inl 1), .inr (.inl 8), .inr (.inl 9), ol (4), .inr (.inl 10), .inr (.inl 11), .inr (.inl 12), .inr (.inl 13), .inr (.inl 14), .inr (.inl 15), .inr (.inl 16), .inr (.inl 17), ol (8), .inl 0, .inl 0]),
  .inr (false, [.inl 0, .inl 3, .inl 6, .inl 8]),
  .inr (false, [.inl 0, .inl 7, .inl 1, .inl 5]),
  .inr (true, [oz, oz, oz]),
  .inr (true, [oz, oz, oz]),
  .inr (false, [.inl 0, .inl 0, .inl 0]),
  .inr (false, [.inl 0, .inl 0, .inl 0]),
  .inr (false, [.inl 2, .inl 1, .inl 1, .inl 2, .inl 0, .inl 0, .inl 0, .inl 1]),
  .inr (false, [.inl 6, .inl 4, .inl 5, .inl 7, .inl 1, .inl 2, .inl 0, .inl 3]),
  .inr (true, [.inr (.inr (0, 1, 0, 0, 0)), .inr (.inr (0, 0, 0, 1, 0)), oz, oz, oz, .inr (.inr (0, 0, 0, 0, 1)), oz, .inr (.inr (0, 0, 1, 0, 0))]),
  .inr (true, [oz, ol (-8), oz, ol (4), ol (8), oz, oz, ol (-4)]),
  .inr (false, [.inl 3, .inl 6, .inl 8])]
def S12 : OwnL.MS := (0, [some (some (.inr (.inl 7))), none, none, none], [], own_h14, 0, 0)
theorem c_ctor12 (l : Launch) {Z : State} {a0 : Array Value} (hw : HW1 Z a0) (n0 : Nat) {ν : OwnL.Va} (hB : own_bx ν) : Met l Z KT n0 y4 b4 9 none ({ frames := 2, cells := 11, slots := 55, locals := 50 } : Room) #[.ref (n0 + 6), .ref (n0 + 0)] ((own_h8 (-1) (-2)).map (upO n0 ν)) (Is none (own_h14.map (upO n0 ν))) :=
  met_run (tabok l hw n0 (own_bxok hB) (T := []) trivial) (f := 4000) (q := 1) (args := [.inr (.inl 7), .inr (.inl 1)]) (j := 7) (A := (own_h8 (-1) (-2))) (A' := own_h14) (v := none) (k := 11) (n := 55) (plainFor_of_name pn_60) rfl (own_is_ok (by decide +kernel))
theorem c_add6 (l : Launch) {Z : State} {a0 : Array Value} (hw : HW1 Z a0) (n0 : Nat) {ν : OwnL.Va} (hB : own_bx ν) : Met l Z KT n0 y3 b3 8 (some .int) ({ frames := 2, cells := 0, slots := 0, locals := 48 } : Room) #[(.ref (n0 + 0)), (.int (0 : Int32)), (.int (1 : Int32)), (.long (wc ν)), (.long (-3 : Int64))] ((own_h2 (-1)).map (upO n0 ν)) (Is (some (.int 2)) ((own_h4 (-1) (-3)).map (upO n0 ν))) := by
  obtain ⟨⟨_, _⟩, ⟨_, _⟩, ⟨_, _⟩, ⟨_, _⟩⟩ := id hB
  exact met_run (tabok l hw n0 (own_bxok hB) (T := [((0, 0, 0, 1, 0), 1, false), ((-9223372036854775807, 1, 1, 1, 0), 2, false)]) ⟨by simp only [SgR, ev_eq, if_true, Bool.false_eq_true, if_false]; omega, by simp only [SgR, ev_eq, if_true, Bool.false_eq_true, if_false]; omega, trivial⟩) (f := 400) (q := 0) (args := [.inr (.inl 1), .inl 0, .inl 1, .inr (.inr (0, 0, 0, 1, 0)), ol (-3)]) (j := 1) (A := (own_h2 (-1))) (A' := (own_h4 (-1) (-3))) (v := some (.inl 2)) (k := 0) (n := 0) (plainFor_of_name pn_78) rfl (own_is_ok (by decide +kernel))
theorem c_add7 (l : Launch) {Z : State} {a0 : Array Value} (hw : HW1 Z a0) (n0 : Nat) {ν : OwnL.Va} (hB : own_bx ν) : Met l Z KT n0 y3 b3 8 (some .int) ({ frames := 2, cells := 0, slots := 0, locals := 48 } : Room) #[(.ref (n0 + 0)), (.int (1 : Int32)), (.int (0 : Int32)), (.long (wp ν)), (.long (0 : Int64))] ((own_h4 (-1) (-3)).map (upO n0 ν)) (Is (some (.int 3)) ((own_h6 (-1) (-3)).map (upO n0 ν))) := by
  obtain ⟨⟨_, _⟩, ⟨_, _⟩, ⟨_, _⟩, ⟨_, _⟩⟩ := id hB
  exact met_run (tabok l hw n0 (own_bxok hB) (T := [((0, 0, 0, 0, 1), 1, false), ((-9223372036854775807, 1, 1, 1, 1), 2, false)]) ⟨by simp only [SgR, ev_eq, if_true, Bool.false_eq_true, if_false]; omega, by simp only [SgR, ev_eq, if_true, Bool.false_eq_true, if_false]; omega, trivial⟩) (f := 400) (q := 0) (args := [.inr (.inl 1), .inl 1, .inl 0, .inr (.inr (0, 0, 0, 0, 1)), oz]) (j := 1) (A := (own_h4 (-1) (-3))) (A' := (own_h6 (-1) (-3))) (v := some (.inl 3)) (k := 0) (n := 0) (plainFor_of_name pn_78) rfl (own_is_ok (by decide +kernel))
def own_h18 : List OwnL.MO := [.inl (0, [.inr (.inl 2), .inr (.inl 3), .inr (.inl 4), .inr (.inl 5), .inr (.inl 6), .inl 3, .inr (.inr (0, 1, 1, 1, 1)), .inl 4]),
  .inr (false, [.inl 0, .inl 2, .inl 0, .inl 1, .inl 0, .inl 0, .inl 0, .inl 0, .inl 0, .inl 0, .inl 0, .inl 0, .inl 0, .inl 0, .inl 0, .inl 0]),
  .inr (false, [.inl 2, .inl 1, .inl 1, .inl 0, .inl 0, .inl 0, .inl 0, .inl 0, .inl 0, .inl 0, .inl 0, .inl 0, .inl 0, .inl 0, .inl 0, .inl 0]),
  .inr (true, [.inr (.inr (0, 1, 0, 0, 0)), .inr (.inr (0, 0, 1, 0, 0)), .inr (.inr (0, 0, 0, 1, 0)), .inr (.inr (0, 0, 0, 0, 1)), oz, oz, oz, oz, oz, oz, oz, oz, oz, oz, oz, oz]),
  .inr (true, [oz, ol (-1), ol (-3), oz, oz, oz, oz, oz, oz, oz, oz, oz, oz, oz, oz, oz]),
  .inr (true, [oz, oz, oz, oz, oz, oz, oz, oz, oz, oz, oz, oz, oz, oz, oz, oz]),
  .inl (1, [.inr (.inl 1), .inr (.inl 8), .inr (.inl 9), ol (4), .inr (.inl 10), .inr (.inl 11), .inr (.inl 12), .inr (.inl 13), .inr (.inl 14), .inr (.inl 15), .inr (.inl 16), .inr (.inl 17), ol (12), .inl 0, .inl 0]),
  .inr (false, [.inl 0, .inl 3, .inl 6, .inl 8]),
  .inr (false, [.inl 0, .inl 7, .inl 1, .inl 5]),
  .inr (true, [oz, oz, oz]),
  .inr (true, [oz, oz, oz]),
  .inr (false, [.inl 0, .inl 0, .inl 0]),
  .inr (false, [.inl 0, .inl 0, .inl 0]),
  .inr (false, [.inl 2, .inl 1, .inl 1, .inl 2, .inl 0, .inl 0, .inl 0, .inl 1]),
  .inr (false, [.inl 6, .inl 4, .inl 5, .inl 7, .inl 1, .inl 2, .inl 0, .inl 3]),
  .inr (true, [.inr (.inr (0, 1, 0, 0, 0)), .inr (.inr (0, 0, 0, 1, 0)), oz, oz, oz, .inr (.inr (0, 0, 0, 0, 1)), oz, .inr (.inr (0, 0, 1, 0, 0))]),
  .inr (true, [oz, ol (-12), oz, ol (4), ol (12), oz, oz, ol (-4)]),
  .inr (false, [.inl 3, .inl 6, .inl 8])]
def S13 : OwnL.MS := (0, [some (some (.inr (.inl 7))), none, none, none], [], own_h18, 0, 0)
theorem c_ctor13 (l : Launch) {Z : State} {a0 : Array Value} (hw : HW1 Z a0) (n0 : Nat) {ν : OwnL.Va} (hB : own_bx ν) : Met l Z KT n0 y4 b4 9 none ({ frames := 2, cells := 11, slots := 55, locals := 50 } : Room) #[.ref (n0 + 6), .ref (n0 + 0)] ((own_h8 (-1) (-3)).map (upO n0 ν)) (Is none (own_h18.map (upO n0 ν))) :=
  met_run (tabok l hw n0 (own_bxok hB) (T := []) trivial) (f := 4000) (q := 1) (args := [.inr (.inl 7), .inr (.inl 1)]) (j := 7) (A := (own_h8 (-1) (-3))) (A' := own_h18) (v := none) (k := 11) (n := 55) (plainFor_of_name pn_60) rfl (own_is_ok (by decide +kernel))
theorem c_add8 (l : Launch) {Z : State} {a0 : Array Value} (hw : HW1 Z a0) (n0 : Nat) {ν : OwnL.Va} (hB : own_bx ν) : Met l Z KT n0 y3 b3 8 (some .int) ({ frames := 2, cells := 0, slots := 0, locals := 48 } : Room) #[(.ref (n0 + 0)), (.int (2 : Int32)), (.int (1 : Int32)), (.long (wb ν)), (.long (-2 : Int64))] (own_h1.map (upO n0 ν)) (Is (some (.int 1)) ((own_h2 (-2)).map (upO n0 ν))) := by
  obtain ⟨⟨_, _⟩, ⟨_, _⟩, ⟨_, _⟩, ⟨_, _⟩⟩ := id hB
  exact met_run (tabok l hw n0 (own_bxok hB) (T := [((0, 0, 1, 0, 0), 1, false), ((-9223372036854775807, 1, 1, 0, 0), 2, false)]) ⟨by simp only [SgR, ev_eq, if_true, Bool.false_eq_true, if_false]; omega, by simp only [SgR, ev_eq, if_true, Bool.false_eq_true, if_false]; omega, trivial⟩) (f := 400) (q := 0) (args := [.inr (.inl 1), .inl 2, .inl 1, .inr (.inr (0, 0, 1, 0, 0)), ol (-2)]) (j := 1) (A := own_h1) (A' := (own_h2 (-2))) (v := some (.inl 1)) (k := 0) (n := 0) (plainFor_of_name pn_78) rfl (own_is_ok (by decide +kernel))
theorem c_add9 (l : Launch) {Z : State} {a0 : Array Value} (hw : HW1 Z a0) (n0 : Nat) {ν : OwnL.Va} (hB : own_bx ν) : Met l Z KT n0 y3 b3 8 (some .int) ({ frames := 2, cells := 0, slots := 0, locals := 48 } : Room) #[(.ref (n0 + 0)), (.int (0 : Int32)), (.int (1 : Int32)), (.long (wc ν)), (.long (-1 : Int64))] ((own_h2 (-2)).map (upO n0 ν)) (Is (some (.int 2)) ((own_h4 (-2) (-1)).map (upO n0 ν))) := by
  obtain ⟨⟨_, _⟩, ⟨_, _⟩, ⟨_, _⟩, ⟨_, _⟩⟩ := id hB
  exact met_run (tabok l hw n0 (own_bxok hB) (T := [((0, 0, 0, 1, 0), 1, false), ((-9223372036854775807, 1, 1, 1, 0), 2, false)]) ⟨by simp only [SgR, ev_eq, if_true, Bool.false_eq_true, if_false]; omega, by simp only [SgR, ev_eq, if_true, Bool.false_eq_true, if_false]; omega, trivial⟩) (f := 400) (q := 0) (args := [.inr (.inl 1), .inl 0, .inl 1, .inr (.inr (0, 0, 0, 1, 0)), ol (-1)]) (j := 1) (A := (own_h2 (-2))) (A' := (own_h4 (-2) (-1))) (v := some (.inl 2)) (k := 0) (n := 0) (plainFor_of_name pn_78) rfl (own_is_ok (by decide +kernel))
theorem c_add10 (l : Launch) {Z : State} {a0 : Array Value} (hw : HW1 Z a0) (n0 : Nat) {ν : OwnL.Va} (hB : own_bx ν) : Met l Z KT n0 y3 b3 8 (some .int) ({ frames := 2, cells := 0, slots := 0, locals := 48 } : Room) #[(.ref (n0 + 0)), (.int (1 : Int32)), (.int (0 : Int32)), (.long (wp ν)), (.long (0 : Int64))] ((own_h4 (-2) (-1)).map (upO n0 ν)) (Is (some (.int 3)) ((own_h6 (-2) (-1)).map (upO n0 ν))) := by
  obtain ⟨⟨_, _⟩, ⟨_, _⟩, ⟨_, _⟩, ⟨_, _⟩⟩ := id hB
  exact met_run (tabok l hw n0 (own_bxok hB) (T := [((0, 0, 0, 0, 1), 1, false), ((-9223372036854775807, 1, 1, 1, 1), 2, false)]) ⟨by simp only [SgR, ev_eq, if_true, Bool.false_eq_true, if_false]; omega, by simp only [SgR, ev_eq, if_true, Bool.false_eq_true, if_false]; omega, trivial⟩) (f := 400) (q := 0) (args := [.inr (.inl 1), .inl 1, .inl 0, .inr (.inr (0, 0, 0, 0, 1)), oz]) (j := 1) (A := (own_h4 (-2) (-1))) (A' := (own_h6 (-2) (-1))) (v := some (.inl 3)) (k := 0) (n := 0) (plainFor_of_name pn_78) rfl (own_is_ok (by decide +kernel))
def own_h23 : List OwnL.MO := [.inl (0, [.inr (.inl 2), .inr (.inl 3), .inr (.inl 4), .inr (.inl 5), .inr (.inl 6), .inl 3, .inr (.inr (0, 1, 1, 1, 1)), .inl 4]),
  .inr (false, [.inl 0, .inl 2, .inl 0, .inl 1, .inl 0, .inl 0, .inl 0, .inl 0, .inl 0, .inl 0, .inl 0, .inl 0, .inl 0, .inl 0, .inl 0, .inl 0]),
  .inr (false, [.inl 2, .inl 1, .inl 1, .inl 0, .inl 0, .inl 0, .inl 0, .inl 0, .inl 0, .inl 0, .inl 0, .inl 0, .inl 0, .inl 0, .inl 0, .inl 0]),
  .inr (true, [.inr (.inr (0, 1, 0, 0, 0)), .inr (.inr (0, 0, 1, 0, 0)), .inr (.inr (0, 0, 0, 1, 0)), .inr (.inr (0, 0, 0, 0, 1)), oz, oz, oz, oz, oz, oz, oz, oz, oz, oz, oz, oz]),
  .inr (true, [oz, ol (-2), ol (-1), oz, oz, oz, oz, oz, oz, oz, oz, oz, oz, oz, oz, oz]),
  .inr (true, [oz, oz, oz, oz, oz, oz, oz, oz, oz, oz, oz, oz, oz, oz, oz, oz]),
  .inl (1, [.inr (.inl 1), .inr (.inl 8), .inr (.inl 9), ol (4), .inr (.inl 10), .inr (.inl 11), .inr (.inl 12), .inr (.inl 13), .inr (.inl 14), .inr (.inl 15), .inr (.inl 16), .inr (.inl 17), ol (8), .inl 0, .inl 0]),
  .inr (false, [.inl 0, .inl 3, .inl 6, .inl 8]),
  .inr (false, [.inl 0, .inl 7, .inl 1, .inl 5]),
  .inr (true, [oz, oz, oz]),
  .inr (true, [oz, oz, oz]),
  .inr (false, [.inl 0, .inl 0, .inl 0]),
  .inr (false, [.inl 0, .inl 0, .inl 0]),
  .inr (false, [.inl 2, .inl 1, .inl 1, .inl 2, .inl 0, .inl 0, .inl 0, .inl 1]),
  .inr (false, [.inl 6, .inl 4, .inl 5, .inl 7, .inl 1, .inl 2, .inl 0, .inl 3]),
  .inr (true, [.inr (.inr (0, 1, 0, 0, 0)), .inr (.inr (0, 0, 0, 1, 0)), oz, oz, oz, .inr (.inr (0, 0, 0, 0, 1)), oz, .inr (.inr (0, 0, 1, 0, 0))]),
  .inr (true, [oz, ol (-4), oz, ol (8), ol (4), oz, oz, ol (-8)]),
  .inr (false, [.inl 3, .inl 6, .inl 8])]
def S21 : OwnL.MS := (0, [some (some (.inr (.inl 7))), none, none, none], [], own_h23, 0, 0)
theorem c_ctor21 (l : Launch) {Z : State} {a0 : Array Value} (hw : HW1 Z a0) (n0 : Nat) {ν : OwnL.Va} (hB : own_bx ν) : Met l Z KT n0 y4 b4 9 none ({ frames := 2, cells := 11, slots := 55, locals := 50 } : Room) #[.ref (n0 + 6), .ref (n0 + 0)] ((own_h8 (-2) (-1)).map (upO n0 ν)) (Is none (own_h23.map (upO n0 ν))) :=
  met_run (tabok l hw n0 (own_bxok hB) (T := []) trivial) (f := 4000) (q := 1) (args := [.inr (.inl 7), .inr (.inl 1)]) (j := 7) (A := (own_h8 (-2) (-1))) (A' := own_h23) (v := none) (k := 11) (n := 55) (plainFor_of_name pn_60) rfl (own_is_ok (by decide +kernel))
theorem c_add11 (l : Launch) {Z : State} {a0 : Array Value} (hw : HW1 Z a0) (n0 : Nat) {ν : OwnL.Va} (hB : own_bx ν) : Met l Z KT n0 y3 b3 8 (some .int) ({ frames := 2, cells := 0, slots := 0, locals := 48 } : Room) #[(.ref (n0 + 0)), (.int (0 : Int32)), (.int (1 : Int32)), (.long (wc ν)), (.long (-2 : Int64))] ((own_h2 (-2)).map (upO n0 ν)) (Is (some (.int 2)) ((own_h4 (-2) (-2)).map (upO n0 ν))) := by
  obtain ⟨⟨_, _⟩, ⟨_, _⟩, ⟨_, _⟩, ⟨_, _⟩⟩ := id hB
  exact met_run (tabok l hw n0 (own_bxok hB) (T := [((0, 0, 0, 1, 0), 1, false), ((-9223372036854775807, 1, 1, 1, 0), 2, false)]) ⟨by simp only [SgR, ev_eq, if_true, Bool.false_eq_true, if_false]; omega, by simp only [SgR, ev_eq, if_true, Bool.false_eq_true, if_false]; omega, trivial⟩) (f := 400) (q := 0) (args := [.inr (.inl 1), .inl 0, .inl 1, .inr (.inr (0, 0, 0, 1, 0)), ol (-2)]) (j := 1) (A := (own_h2 (-2))) (A' := (own_h4 (-2) (-2))) (v := some (.inl 2)) (k := 0) (n := 0) (plainFor_of_name pn_78) rfl (own_is_ok (by decide +kernel))
theorem c_add12 (l : Launch) {Z : State} {a0 : Array Value} (hw : HW1 Z a0) (n0 : Nat) {ν : OwnL.Va} (hB : own_bx ν) : Met l Z KT n0 y3 b3 8 (some .int) ({ frames := 2, cells := 0, slots := 0, locals := 48 } : Room) #[(.ref (n0 + 0)), (.int (1 : Int32)), (.int (0 : Int32)), (.long (wp ν)), (.long (0 : Int64))] ((own_h4 (-2) (-2)).map (upO n0 ν)) (Is (some (.int 3)) ((own_h6 (-2) (-2)).map (upO n0 ν))) := by
  obtain ⟨⟨_, _⟩, ⟨_, _⟩, ⟨_, _⟩, ⟨_, _⟩⟩ := id hB
  exact met_run (tabok l hw n0 (own_bxok hB) (T := [((0, 0, 0, 0, 1), 1, false), ((-9223372036854775807, 1, 1, 1, 1), 2, false)]) ⟨by simp only [SgR, ev_eq, if_true, Bool.false_eq_true, if_false]; omega, by simp only [SgR, ev_eq, if_true, Bool.false_eq_true, if_false]; omega, trivial⟩) (f := 400) (q := 0) (args := [.inr (.inl 1), .inl 1, .inl 0, .inr (.inr (0, 0, 0, 0, 1)), oz]) (j := 1) (A := (own_h4 (-2) (-2))) (A' := (own_h6 (-2) (-2))) (v := some (.inl 3)) (k := 0) (n := 0) (plainFor_of_name pn_78) rfl (own_is_ok (by decide +kernel))
def own_h27 : List OwnL.MO := [.inl (0, [.inr (.inl 2), .inr (.inl 3), .inr (.inl 4), .inr (.inl 5), .inr (.inl 6), .inl 3, .inr (.inr (0, 1, 1, 1, 1)), .inl 4]),
  .inr (false, [.inl 0, .inl 2, .inl 0, .inl 1, .inl 0, .inl 0, .inl 0, .inl 0, .inl 0, .inl 0, .inl 0, .inl 0, .inl 0, .inl 0, .inl 0, .inl 0]),
  .inr (false, [.inl 2, .inl 1, .inl 1, .inl 0, .inl 0, .inl 0, .inl 0, .inl 0, .inl 0, .inl 0, .inl 0, .inl 0, .inl 0, .inl 0, .inl 0, .inl 0]),
  .inr (true, [.inr (.inr (0, 1, 0, 0, 0)), .inr (.inr (0, 0, 1, 0, 0)), .inr (.inr (0, 0, 0, 1, 0)), .inr (.inr (0, 0, 0, 0, 1)), oz, oz, oz, oz, oz, oz, oz, oz, oz, oz, oz, oz]),
  .inr (true, [oz, ol (-2), ol (-2), oz, oz, oz, oz, oz, oz, oz, oz, oz, oz, oz, oz, oz]),
  .inr (true, [oz, oz, oz, oz, oz, oz, oz, oz, oz, oz, oz, oz, oz, oz, oz, oz]),
  .inl (1, [.inr (.inl 1), .inr (.inl 8), .inr (.inl 9), ol (4), .inr (.inl 10), .inr (.inl 11), .inr (.inl 12), .inr (.inl 13), .inr (.inl 14), .inr (.inl 15), .inr (.inl 16), .inr (.inl 17), ol (8), .inl 0, .inl 0]),
  .inr (false, [.inl 0, .inl 3, .inl 6, .inl 8]),
  .inr (false, [.inl 0, .inl 7, .inl 1, .inl 5]),
  .inr (true, [oz, oz, oz]),
  .inr (true, [oz, oz, oz]),
  .inr (false, [.inl 0, .inl 0, .inl 0]),
  .inr (false, [.inl 0, .inl 0, .inl 0]),
  .inr (false, [.inl 2, .inl 1, .inl 1, .inl 2, .inl 0, .inl 0, .inl 0, .inl 1]),
  .inr (false, [.inl 6, .inl 4, .inl 5, .inl 7, .inl 1, .inl 2, .inl 0, .inl 3]),
  .inr (true, [.inr (.inr (0, 1, 0, 0, 0)), .inr (.inr (0, 0, 0, 1, 0)), oz, oz, oz, .inr (.inr (0, 0, 0, 0, 1)), oz, .inr (.inr (0, 0, 1, 0, 0))]),
  .inr (true, [oz, ol (-8), oz, ol (8), ol (8), oz, oz, ol (-8)]),
  .inr (false, [.inl 3, .inl 6, .inl 8])]
def S22 : OwnL.MS := (0, [some (some (.inr (.inl 7))), none, none, none], [], own_h27, 0, 0)
theorem c_ctor22 (l : Launch) {Z : State} {a0 : Array Value} (hw : HW1 Z a0) (n0 : Nat) {ν : OwnL.Va} (hB : own_bx ν) : Met l Z KT n0 y4 b4 9 none ({ frames := 2, cells := 11, slots := 55, locals := 50 } : Room) #[.ref (n0 + 6), .ref (n0 + 0)] ((own_h8 (-2) (-2)).map (upO n0 ν)) (Is none (own_h27.map (upO n0 ν))) :=
  met_run (tabok l hw n0 (own_bxok hB) (T := []) trivial) (f := 4000) (q := 1) (args := [.inr (.inl 7), .inr (.inl 1)]) (j := 7) (A := (own_h8 (-2) (-2))) (A' := own_h27) (v := none) (k := 11) (n := 55) (plainFor_of_name pn_60) rfl (own_is_ok (by decide +kernel))
theorem c_add13 (l : Launch) {Z : State} {a0 : Array Value} (hw : HW1 Z a0) (n0 : Nat) {ν : OwnL.Va} (hB : own_bx ν) : Met l Z KT n0 y3 b3 8 (some .int) ({ frames := 2, cells := 0, slots := 0, locals := 48 } : Room) #[(.ref (n0 + 0)), (.int (0 : Int32)), (.int (1 : Int32)), (.long (wc ν)), (.long (-3 : Int64))] ((own_h2 (-2)).map (upO n0 ν)) (Is (some (.int 2)) ((own_h4 (-2) (-3)).map (upO n0 ν))) := by
  obtain ⟨⟨_, _⟩, ⟨_, _⟩, ⟨_, _⟩, ⟨_, _⟩⟩ := id hB
  exact met_run (tabok l hw n0 (own_bxok hB) (T := [((0, 0, 0, 1, 0), 1, false), ((-9223372036854775807, 1, 1, 1, 0), 2, false)]) ⟨by simp only [SgR, ev_eq, if_true, Bool.false_eq_true, if_false]; omega, by simp only [SgR, ev_eq, if_true, Bool.false_eq_true, if_false]; omega, trivial⟩) (f := 400) (q := 0) (args := [.inr (.inl 1), .inl 0, .inl 1, .inr (.inr (0, 0, 0, 1, 0)), ol (-3)]) (j := 1) (A := (own_h2 (-2))) (A' := (own_h4 (-2) (-3))) (v := some (.inl 2)) (k := 0) (n := 0) (plainFor_of_name pn_78) rfl (own_is_ok (by decide +kernel))
theorem c_add14 (l : Launch) {Z : State} {a0 : Array Value} (hw : HW1 Z a0) (n0 : Nat) {ν : OwnL.Va} (hB : own_bx ν) : Met l Z KT n0 y3 b3 8 (some .int) ({ frames := 2, cells := 0, slots := 0, locals := 48 } : Room) #[(.ref (n0 + 0)), (.int (1 : Int32)), (.int (0 : Int32)), (.long (wp ν)), (.long (0 : Int64))] ((own_h4 (-2) (-3)).map (upO n0 ν)) (Is (some (.int 3)) ((own_h6 (-2) (-3)).map (upO n0 ν))) := by
  obtain ⟨⟨_, _⟩, ⟨_, _⟩, ⟨_, _⟩, ⟨_, _⟩⟩ := id hB
  exact met_run (tabok l hw n0 (own_bxok hB) (T := [((0, 0, 0, 0, 1), 1, false), ((-9223372036854775807, 1, 1, 1, 1), 2, false)]) ⟨by simp only [SgR, ev_eq, if_true, Bool.false_eq_true, if_false]; omega, by simp only [SgR, ev_eq, if_true, Bool.false_eq_true, if_false]; omega, trivial⟩) (f := 400) (q := 0) (args := [.inr (.inl 1), .inl 1, .inl 0, .inr (.inr (0, 0, 0, 0, 1)), oz]) (j := 1) (A := (own_h4 (-2) (-3))) (A' := (own_h6 (-2) (-3))) (v := some (.inl 3)) (k := 0) (n := 0) (plainFor_of_name pn_78) rfl (own_is_ok (by decide +kernel))
def own_h31 : List OwnL.MO := [.inl (0, [.inr (.inl 2), .inr (.inl 3), .inr (.inl 4), .inr (.inl 5), .inr (.inl 6), .inl 3, .inr (.inr (0, 1, 1, 1, 1)), .inl 4]),
  .inr (false, [.inl 0, .inl 2, .inl 0, .inl 1, .inl 0, .inl 0, .inl 0, .inl 0, .inl 0, .inl 0, .inl 0, .inl 0, .inl 0, .inl 0, .inl 0, .inl 0]),
  .inr (false, [.inl 2, .inl 1, .inl 1, .inl 0, .inl 0, .inl 0, .inl 0, .inl 0, .inl 0, .inl 0, .inl 0, .inl 0, .inl 0, .inl 0, .inl 0, .inl 0]),
  .inr (true, [.inr (.inr (0, 1, 0, 0, 0)), .inr (.inr (0, 0, 1, 0, 0)), .inr (.inr (0, 0, 0, 1, 0)), .inr (.inr (0, 0, 0, 0, 1)), oz, oz, oz, oz, oz, oz, oz, oz, oz, oz, oz, oz]),
  .inr (true, [oz, ol (-2), ol (-3), oz, oz, oz, oz, oz, oz, oz, oz, oz, oz, oz, oz, oz]),
  .inr (true, [oz, oz, oz, oz, oz, oz, oz, oz, oz, oz, oz, oz, oz, oz, oz, oz]),
  .inl (1, [.inr (.inl 1), .inr (.inl 8), .inr (.inl 9), ol (4), .inr (.inl 10), .inr (.inl 11), .inr (.inl 12), .inr (.inl 13), .inr (.inl 14), .inr (.inl 15), .inr (.inl 16), .inr (.inl 17), ol (12), .inl 0, .inl 0]),
  .inr (false, [.inl 0, .inl 3, .inl 6, .inl 8]),
  .inr (false, [.inl 0, .inl 7, .inl 1, .inl 5]),
  .inr (true, [oz, oz, oz]),
  .inr (true, [oz, oz, oz]),
  .inr (false, [.inl 0, .inl 0, .inl 0]),
  .inr (false, [.inl 0, .inl 0, .inl 0]),
  .inr (false, [.inl 2, .inl 1, .inl 1, .inl 2, .inl 0, .inl 0, .inl 0, .inl 1]),
  .inr (false, [.inl 6, .inl 4, .inl 5, .inl 7, .inl 1, .inl 2, .inl 0, .inl 3]),
  .inr (true, [.inr (.inr (0, 1, 0, 0, 0)), .inr (.inr (0, 0, 0, 1, 0)), oz, oz, oz, .inr (.inr (0, 0, 0, 0, 1)), oz, .inr (.inr (0, 0, 1, 0, 0))]),
  .inr (true, [oz, ol (-12), oz, ol (8), ol (12), oz, oz, ol (-8)]),
  .inr (false, [.inl 3, .inl 6, .inl 8])]
def S23 : OwnL.MS := (0, [some (some (.inr (.inl 7))), none, none, none], [], own_h31, 0, 0)
theorem c_ctor23 (l : Launch) {Z : State} {a0 : Array Value} (hw : HW1 Z a0) (n0 : Nat) {ν : OwnL.Va} (hB : own_bx ν) : Met l Z KT n0 y4 b4 9 none ({ frames := 2, cells := 11, slots := 55, locals := 50 } : Room) #[.ref (n0 + 6), .ref (n0 + 0)] ((own_h8 (-2) (-3)).map (upO n0 ν)) (Is none (own_h31.map (upO n0 ν))) :=
  met_run (tabok l hw n0 (own_bxok hB) (T := []) trivial) (f := 4000) (q := 1) (args := [.inr (.inl 7), .inr (.inl 1)]) (j := 7) (A := (own_h8 (-2) (-3))) (A' := own_h31) (v := none) (k := 11) (n := 55) (plainFor_of_name pn_60) rfl (own_is_ok (by decide +kernel))
theorem c_add15 (l : Launch) {Z : State} {a0 : Array Value} (hw : HW1 Z a0) (n0 : Nat) {ν : OwnL.Va} (hB : own_bx ν) : Met l Z KT n0 y3 b3 8 (some .int) ({ frames := 2, cells := 0, slots := 0, locals := 48 } : Room) #[(.ref (n0 + 0)), (.int (2 : Int32)), (.int (1 : Int32)), (.long (wb ν)), (.long (-3 : Int64))] (own_h1.map (upO n0 ν)) (Is (some (.int 1)) ((own_h2 (-3)).map (upO n0 ν))) := by
  obtain ⟨⟨_, _⟩, ⟨_, _⟩, ⟨_, _⟩, ⟨_, _⟩⟩ := id hB
  exact met_run (tabok l hw n0 (own_bxok hB) (T := [((0, 0, 1, 0, 0), 1, false), ((-9223372036854775807, 1, 1, 0, 0), 2, false)]) ⟨by simp only [SgR, ev_eq, if_true, Bool.false_eq_true, if_false]; omega, by simp only [SgR, ev_eq, if_true, Bool.false_eq_true, if_false]; omega, trivial⟩) (f := 400) (q := 0) (args := [.inr (.inl 1), .inl 2, .inl 1, .inr (.inr (0, 0, 1, 0, 0)), ol (-3)]) (j := 1) (A := own_h1) (A' := (own_h2 (-3))) (v := some (.inl 1)) (k := 0) (n := 0) (plainFor_of_name pn_78) rfl (own_is_ok (by decide +kernel))
theorem c_add16 (l : Launch) {Z : State} {a0 : Array Value} (hw : HW1 Z a0) (n0 : Nat) {ν : OwnL.Va} (hB : own_bx ν) : Met l Z KT n0 y3 b3 8 (some .int) ({ frames := 2, cells := 0, slots := 0, locals := 48 } : Room) #[(.ref (n0 + 0)), (.int (0 : Int32)), (.int (1 : Int32)), (.long (wc ν)), (.long (-1 : Int64))] ((own_h2 (-3)).map (upO n0 ν)) (Is (some (.int 2)) ((own_h4 (-3) (-1)).map (upO n0 ν))) := by
  obtain ⟨⟨_, _⟩, ⟨_, _⟩, ⟨_, _⟩, ⟨_, _⟩⟩ := id hB
  exact met_run (tabok l hw n0 (own_bxok hB) (T := [((0, 0, 0, 1, 0), 1, false), ((-9223372036854775807, 1, 1, 1, 0), 2, false)]) ⟨by simp only [SgR, ev_eq, if_true, Bool.false_eq_true, if_false]; omega, by simp only [SgR, ev_eq, if_true, Bool.false_eq_true, if_false]; omega, trivial⟩) (f := 400) (q := 0) (args := [.inr (.inl 1), .inl 0, .inl 1, .inr (.inr (0, 0, 0, 1, 0)), ol (-1)]) (j := 1) (A := (own_h2 (-3))) (A' := (own_h4 (-3) (-1))) (v := some (.inl 2)) (k := 0) (n := 0) (plainFor_of_name pn_78) rfl (own_is_ok (by decide +kernel))
theorem c_add17 (l : Launch) {Z : State} {a0 : Array Value} (hw : HW1 Z a0) (n0 : Nat) {ν : OwnL.Va} (hB : own_bx ν) : Met l Z KT n0 y3 b3 8 (some .int) ({ frames := 2, cells := 0, slots := 0, locals := 48 } : Room) #[(.ref (n0 + 0)), (.int (1 : Int32)), (.int (0 : Int32)), (.long (wp ν)), (.long (0 : Int64))] ((own_h4 (-3) (-1)).map (upO n0 ν)) (Is (some (.int 3)) ((own_h6 (-3) (-1)).map (upO n0 ν))) := by
  obtain ⟨⟨_, _⟩, ⟨_, _⟩, ⟨_, _⟩, ⟨_, _⟩⟩ := id hB
  exact met_run (tabok l hw n0 (own_bxok hB) (T := [((0, 0, 0, 0, 1), 1, false), ((-9223372036854775807, 1, 1, 1, 1), 2, false)]) ⟨by simp only [SgR, ev_eq, if_true, Bool.false_eq_true, if_false]; omega, by simp only [SgR, ev_eq, if_true, Bool.false_eq_true, if_false]; omega, trivial⟩) (f := 400) (q := 0) (args := [.inr (.inl 1), .inl 1, .inl 0, .inr (.inr (0, 0, 0, 0, 1)), oz]) (j := 1) (A := (own_h4 (-3) (-1))) (A' := (own_h6 (-3) (-1))) (v := some (.inl 3)) (k := 0) (n := 0) (plainFor_of_name pn_78) rfl (own_is_ok (by decide +kernel))
def own_h36 : List OwnL.MO := [.inl (0, [.inr (.inl 2), .inr (.inl 3), .inr (.inl 4), .inr (.inl 5), .inr (.inl 6), .inl 3, .inr (.inr (0, 1, 1, 1, 1)), .inl 4]),
  .inr (false, [.inl 0, .inl 2, .inl 0, .inl 1, .inl 0, .inl 0, .inl 0, .inl 0, .inl 0, .inl 0, .inl 0, .inl 0, .inl 0, .inl 0, .inl 0, .inl 0]),
  .inr (false, [.inl 2, .inl 1, .inl 1, .inl 0, .inl 0, .inl 0, .inl 0, .inl 0, .inl 0, .inl 0, .inl 0, .inl 0, .inl 0, .inl 0, .inl 0, .inl 0]),
  .inr (true, [.inr (.inr (0, 1, 0, 0, 0)), .inr (.inr (0, 0, 1, 0, 0)), .inr (.inr (0, 0, 0, 1, 0)), .inr (.inr (0, 0, 0, 0, 1)), oz, oz, oz, oz, oz, oz, oz, oz, oz, oz, oz, oz]),
  .inr (true, [oz, ol (-3), ol (-1), oz, oz, oz, oz, oz, oz, oz, oz, oz, oz, oz, oz, oz]),
  .inr (true, [oz, oz, oz, oz, oz, oz, oz, oz, oz, oz, oz, oz, oz, oz, oz, oz]),
  .inl (1, [.inr (.inl 1), .inr (.inl 8), .inr (.inl 9), ol (4), .inr (.inl 10), .inr (.inl 11), .inr (.inl 12), .inr (.inl 13), .inr (.inl 14), .inr (.inl 15), .inr (.inl 16), .inr (.inl 17), ol (12), .inl 0, .inl 0]),
  .inr (false, [.inl 0, .inl 3, .inl 6, .inl 8]),
  .inr (false, [.inl 0, .inl 7, .inl 1, .inl 5]),
  .inr (true, [oz, oz, oz]),
  .inr (true, [oz, oz, oz]),
  .inr (false, [.inl 0, .inl 0, .inl 0]),
  .inr (false, [.inl 0, .inl 0, .inl 0]),
  .inr (false, [.inl 2, .inl 1, .inl 1, .inl 2, .inl 0, .inl 0, .inl 0, .inl 1]),
  .inr (false, [.inl 6, .inl 4, .inl 5, .inl 7, .inl 1, .inl 2, .inl 0, .inl 3]),
  .inr (true, [.inr (.inr (0, 1, 0, 0, 0)), .inr (.inr (0, 0, 0, 1, 0)), oz, oz, oz, .inr (.inr (0, 0, 0, 0, 1)), oz, .inr (.inr (0, 0, 1, 0, 0))]),
  .inr (true, [oz, ol (-4), oz, ol (12), ol (4), oz, oz, ol (-12)]),
  .inr (false, [.inl 3, .inl 6, .inl 8])]
def S31 : OwnL.MS := (0, [some (some (.inr (.inl 7))), none, none, none], [], own_h36, 0, 0)
theorem c_ctor31 (l : Launch) {Z : State} {a0 : Array Value} (hw : HW1 Z a0) (n0 : Nat) {ν : OwnL.Va} (hB : own_bx ν) : Met l Z KT n0 y4 b4 9 none ({ frames := 2, cells := 11, slots := 55, locals := 50 } : Room) #[.ref (n0 + 6), .ref (n0 + 0)] ((own_h8 (-3) (-1)).map (upO n0 ν)) (Is none (own_h36.map (upO n0 ν))) :=
  met_run (tabok l hw n0 (own_bxok hB) (T := []) trivial) (f := 4000) (q := 1) (args := [.inr (.inl 7), .inr (.inl 1)]) (j := 7) (A := (own_h8 (-3) (-1))) (A' := own_h36) (v := none) (k := 11) (n := 55) (plainFor_of_name pn_60) rfl (own_is_ok (by decide +kernel))
theorem c_add18 (l : Launch) {Z : State} {a0 : Array Value} (hw : HW1 Z a0) (n0 : Nat) {ν : OwnL.Va} (hB : own_bx ν) : Met l Z KT n0 y3 b3 8 (some .int) ({ frames := 2, cells := 0, slots := 0, locals := 48 } : Room) #[(.ref (n0 + 0)), (.int (0 : Int32)), (.int (1 : Int32)), (.long (wc ν)), (.long (-2 : Int64))] ((own_h2 (-3)).map (upO n0 ν)) (Is (some (.int 2)) ((own_h4 (-3) (-2)).map (upO n0 ν))) := by
  obtain ⟨⟨_, _⟩, ⟨_, _⟩, ⟨_, _⟩, ⟨_, _⟩⟩ := id hB
  exact met_run (tabok l hw n0 (own_bxok hB) (T := [((0, 0, 0, 1, 0), 1, false), ((-9223372036854775807, 1, 1, 1, 0), 2, false)]) ⟨by simp only [SgR, ev_eq, if_true, Bool.false_eq_true, if_false]; omega, by simp only [SgR, ev_eq, if_true, Bool.false_eq_true, if_false]; omega, trivial⟩) (f := 400) (q := 0) (args := [.inr (.inl 1), .inl 0, .inl 1, .inr (.inr (0, 0, 0, 1, 0)), ol (-2)]) (j := 1) (A := (own_h2 (-3))) (A' := (own_h4 (-3) (-2))) (v := some (.inl 2)) (k := 0) (n := 0) (plainFor_of_name pn_78) rfl (own_is_ok (by decide +kernel))
theorem c_add19 (l : Launch) {Z : State} {a0 : Array Value} (hw : HW1 Z a0) (n0 : Nat) {ν : OwnL.Va} (hB : own_bx ν) : Met l Z KT n0 y3 b3 8 (some .int) ({ frames := 2, cells := 0, slots := 0, locals := 48 } : Room) #[(.ref (n0 + 0)), (.int (1 : Int32)), (.int (0 : Int32)), (.long (wp ν)), (.long (0 : Int64))] ((own_h4 (-3) (-2)).map (upO n0 ν)) (Is (some (.int 3)) ((own_h6 (-3) (-2)).map (upO n0 ν))) := by
  obtain ⟨⟨_, _⟩, ⟨_, _⟩, ⟨_, _⟩, ⟨_, _⟩⟩ := id hB
  exact met_run (tabok l hw n0 (own_bxok hB) (T := [((0, 0, 0, 0, 1), 1, false), ((-9223372036854775807, 1, 1, 1, 1), 2, false)]) ⟨by simp only [SgR, ev_eq, if_true, Bool.false_eq_true, if_false]; omega, by simp only [SgR, ev_eq, if_true, Bool.false_eq_true, if_false]; omega, trivial⟩) (f := 400) (q := 0) (args := [.inr (.inl 1), .inl 1, .inl 0, .inr (.inr (0, 0, 0, 0, 1)), oz]) (j := 1) (A := (own_h4 (-3) (-2))) (A' := (own_h6 (-3) (-2))) (v := some (.inl 3)) (k := 0) (n := 0) (plainFor_of_name pn_78) rfl (own_is_ok (by decide +kernel))
def own_h40 : List OwnL.MO := [.inl (0, [.inr (.inl 2), .inr (.inl 3), .inr (.inl 4), .inr (.inl 5), .inr (.inl 6), .inl 3, .inr (.inr (0, 1, 1, 1, 1)), .inl 4]),
  .inr (false, [.inl 0, .inl 2, .inl 0, .inl 1, .inl 0, .inl 0, .inl 0, .inl 0, .inl 0, .inl 0, .inl 0, .inl 0, .inl 0, .inl 0, .inl 0, .inl 0]),
  .inr (false, [.inl 2, .inl 1, .inl 1, .inl 0, .inl 0, .inl 0, .inl 0, .inl 0, .inl 0, .inl 0, .inl 0, .inl 0, .inl 0, .inl 0, .inl 0, .inl 0]),
  .inr (true, [.inr (.inr (0, 1, 0, 0, 0)), .inr (.inr (0, 0, 1, 0, 0)), .inr (.inr (0, 0, 0, 1, 0)), .inr (.inr (0, 0, 0, 0, 1)), oz, oz, oz, oz, oz, oz, oz, oz, oz, oz, oz, oz]),
  .inr (true, [oz, ol (-3), ol (-2), oz, oz, oz, oz, oz, oz, oz, oz, oz, oz, oz, oz, oz]),
  .inr (true, [oz, oz, oz, oz, oz, oz, oz, oz, oz, oz, oz, oz, oz, oz, oz, oz]),
  .inl (1, [.inr (.inl 1), .inr (.inl 8), .inr (.inl 9), ol (4), .inr (.inl 10), .inr (.inl 11), .inr (.inl 12), .inr (.inl 13), .inr (.inl 14), .inr (.inl 15), .inr (.inl 16), .inr (.inl 17), ol (12), .inl 0, .inl 0]),
  .inr (false, [.inl 0, .inl 3, .inl 6, .inl 8]),
  .inr (false, [.inl 0, .inl 7, .inl 1, .inl 5]),
  .inr (true, [oz, oz, oz]),
  .inr (true, [oz, oz, oz]),
  .inr (false, [.inl 0, .inl 0, .inl 0]),
  .inr (false, [.inl 0, .inl 0, .inl 0]),
  .inr (false, [.inl 2, .inl 1, .inl 1, .inl 2, .inl 0, .inl 0, .inl 0, .inl 1]),
  .inr (false, [.inl 6, .inl 4, .inl 5, .inl 7, .inl 1, .inl 2, .inl 0, .inl 3]),
  .inr (true, [.inr (.inr (0, 1, 0, 0, 0)), .inr (.inr (0, 0, 0, 1, 0)), oz, oz, oz, .inr (.inr (0, 0, 0, 0, 1)), oz, .inr (.inr (0, 0, 1, 0, 0))]),
  .inr (true, [oz, ol (-8), oz, ol (12), ol (8), oz, oz, ol (-12)]),
  .inr (false, [.inl 3, .inl 6, .inl 8])]
def S32 : OwnL.MS := (0, [some (some (.inr (.inl 7))), none, none, none], [], own_h40, 0, 0)
theorem c_ctor32 (l : Launch) {Z : State} {a0 : Array Value} (hw : HW1 Z a0) (n0 : Nat) {ν : OwnL.Va} (hB : own_bx ν) : Met l Z KT n0 y4 b4 9 none ({ frames := 2, cells := 11, slots := 55, locals := 50 } : Room) #[.ref (n0 + 6), .ref (n0 + 0)] ((own_h8 (-3) (-2)).map (upO n0 ν)) (Is none (own_h40.map (upO n0 ν))) :=
  met_run (tabok l hw n0 (own_bxok hB) (T := []) trivial) (f := 4000) (q := 1) (args := [.inr (.inl 7), .inr (.inl 1)]) (j := 7) (A := (own_h8 (-3) (-2))) (A' := own_h40) (v := none) (k := 11) (n := 55) (plainFor_of_name pn_60) rfl (own_is_ok (by decide +kernel))
theorem c_add20 (l : Launch) {Z : State} {a0 : Array Value} (hw : HW1 Z a0) (n0 : Nat) {ν : OwnL.Va} (hB : own_bx ν) : Met l Z KT n0 y3 b3 8 (some .int) ({ frames := 2, cells := 0, slots := 0, locals := 48 } : Room) #[(.ref (n0 + 0)), (.int (0 : Int32)), (.int (1 : Int32)), (.long (wc ν)), (.long (-3 : Int64))] ((own_h2 (-3)).map (upO n0 ν)) (Is (some (.int 2)) ((own_h4 (-3) (-3)).map (upO n0 ν))) := by
  obtain ⟨⟨_, _⟩, ⟨_, _⟩, ⟨_, _⟩, ⟨_, _⟩⟩ := id hB
  exact met_run (tabok l hw n0 (own_bxok hB) (T := [((0, 0, 0, 1, 0), 1, false), ((-9223372036854775807, 1, 1, 1, 0), 2, false)]) ⟨by simp only [SgR, ev_eq, if_true, Bool.false_eq_true, if_false]; omega, by simp only [SgR, ev_eq, if_true, Bool.false_eq_true, if_false]; omega, trivial⟩) (f := 400) (q := 0) (args := [.inr (.inl 1), .inl 0, .inl 1, .inr (.inr (0, 0, 0, 1, 0)), ol (-3)]) (j := 1) (A := (own_h2 (-3))) (A' := (own_h4 (-3) (-3))) (v := some (.inl 2)) (k := 0) (n := 0) (plainFor_of_name pn_78) rfl (own_is_ok (by decide +kernel))
theorem c_add21 (l : Launch) {Z : State} {a0 : Array Value} (hw : HW1 Z a0) (n0 : Nat) {ν : OwnL.Va} (hB : own_bx ν) : Met l Z KT n0 y3 b3 8 (some .int) ({ frames := 2, cells := 0, slots := 0, locals := 48 } : Room) #[(.ref (n0 + 0)), (.int (1 : Int32)), (.int (0 : Int32)), (.long (wp ν)), (.long (0 : Int64))] ((own_h4 (-3) (-3)).map (upO n0 ν)) (Is (some (.int 3)) ((own_h6 (-3) (-3)).map (upO n0 ν))) := by
  obtain ⟨⟨_, _⟩, ⟨_, _⟩, ⟨_, _⟩, ⟨_, _⟩⟩ := id hB
  exact met_run (tabok l hw n0 (own_bxok hB) (T := [((0, 0, 0, 0, 1), 1, false), ((-9223372036854775807, 1, 1, 1, 1), 2, false)]) ⟨by simp only [SgR, ev_eq, if_true, Bool.false_eq_true, if_false]; omega, by simp only [SgR, ev_eq, if_true, Bool.false_eq_true, if_false]; omega, trivial⟩) (f := 400) (q := 0) (args := [.inr (.inl 1), .inl 1, .inl 0, .inr (.inr (0, 0, 0, 0, 1)), oz]) (j := 1) (A := (own_h4 (-3) (-3))) (A' := (own_h6 (-3) (-3))) (v := some (.inl 3)) (k := 0) (n := 0) (plainFor_of_name pn_78) rfl (own_is_ok (by decide +kernel))
def own_h44 : List OwnL.MO := [.inl (0, [.inr (.inl 2), .inr (.inl 3), .inr (.inl 4), .inr (.inl 5), .inr (.inl 6), .inl 3, .inr (.inr (0, 1, 1, 1, 1)), .inl 4]),
  .inr (false, [.inl 0, .inl 2, .inl 0, .inl 1, .inl 0, .inl 0, .inl 0, .inl 0, .inl 0, .inl 0, .inl 0, .inl 0, .inl 0, .inl 0, .inl 0, .inl 0]),
  .inr (false, [.inl 2, .inl 1, .inl 1, .inl 0, .inl 0, .inl 0, .inl 0, .inl 0, .inl 0, .inl 0, .inl 0, .inl 0, .inl 0, .inl 0, .inl 0, .inl 0]),
  .inr (true, [.inr (.inr (0, 1, 0, 0, 0)), .inr (.inr (0, 0, 1, 0, 0)), .inr (.inr (0, 0, 0, 1, 0)), .inr (.inr (0, 0, 0, 0, 1)), oz, oz, oz, oz, oz, oz, oz, oz, oz, oz, oz, oz]),
  .inr (true, [oz, ol (-3), ol (-3), oz, oz, oz, oz, oz, oz, oz, oz, oz, oz, oz, oz, oz]),
  .inr (true, [oz, oz, oz, oz, oz, oz, oz, oz, oz, oz, oz, oz, oz, oz, oz, oz]),
  .inl (1, [.inr (.inl 1), .inr (.inl 8), .inr (.inl 9), ol (4), .inr (.inl 10), .inr (.inl 11), .inr (.inl 12), .inr (.inl 13), .inr (.inl 14), .inr (.inl 15), .inr (.inl 16), .inr (.inl 17), ol (12), .inl 0, .inl 0]),
  .inr (false, [.inl 0, .inl 3, .inl 6, .inl 8]),
  .inr (false, [.inl 0, .inl 7, .inl 1, .inl 5]),
  .inr (true, [oz, oz, oz]),
  .inr (true, [oz, oz, oz]),
  .inr (false, [.inl 0, .inl 0, .inl 0]),
  .inr (false, [.inl 0, .inl 0, .inl 0]),
  .inr (false, [.inl 2, .inl 1, .inl 1, .inl 2, .inl 0, .inl 0, .inl 0, .inl 1]),
  .inr (false, [.inl 6, .inl 4, .inl 5, .inl 7, .inl 1, .inl 2, .inl 0, .inl 3]),
  .inr (true, [.inr (.inr (0, 1, 0, 0, 0)), .inr (.inr (0, 0, 0, 1, 0)), oz, oz, oz, .inr (.inr (0, 0, 0, 0, 1)), oz, .inr (.inr (0, 0, 1, 0, 0))]),
  .inr (true, [oz, ol (-12), oz, ol (12), ol (12), oz, oz, ol (-12)]),
  .inr (false, [.inl 3, .inl 6, .inl 8])]
def S33 : OwnL.MS := (0, [some (some (.inr (.inl 7))), none, none, none], [], own_h44, 0, 0)
theorem c_ctor33 (l : Launch) {Z : State} {a0 : Array Value} (hw : HW1 Z a0) (n0 : Nat) {ν : OwnL.Va} (hB : own_bx ν) : Met l Z KT n0 y4 b4 9 none ({ frames := 2, cells := 11, slots := 55, locals := 50 } : Room) #[.ref (n0 + 6), .ref (n0 + 0)] ((own_h8 (-3) (-3)).map (upO n0 ν)) (Is none (own_h44.map (upO n0 ν))) :=
  met_run (tabok l hw n0 (own_bxok hB) (T := []) trivial) (f := 4000) (q := 1) (args := [.inr (.inl 7), .inr (.inl 1)]) (j := 7) (A := (own_h8 (-3) (-3))) (A' := own_h44) (v := none) (k := 11) (n := 55) (plainFor_of_name pn_60) rfl (own_is_ok (by decide +kernel))
def T11_0 : List OwnL.SR := [p0_ 1 0 0 0, p0_ 0 0 1 0, p0_ 0 0 0 1, p0_ 0 1 0 0]
theorem K11_0 : own_ck T11_0 S11 1 1 0 0 0 0 0 0 0 0 = true := by decide +kernel
def T11_1 : List OwnL.SR := [p0_ 1 0 0 0, p0_ 0 0 1 0, p1_ 0 0 0 1, p0_ 0 1 0 0]
theorem K11_1 : own_ck T11_1 S11 1 1 0 0 0 0 0 0 0 0 = true := by decide +kernel
def T11_2 : List OwnL.SR := [p0_ 1 0 0 0, p1_ 0 0 1 0, p0_ 0 0 0 1, p0_ 0 1 0 0, p0_ 0 0 (-1) 0, e0 0 0 1 0, e1 0 0 0 1]
theorem K11_2 : own_ck T11_2 S11 1 1 0 0 0 0 0 0 0 0 = true := by decide +kernel
def T11_3 : List OwnL.SR := [p0_ 1 0 0 0, p1_ 0 0 1 0, p1_ 0 0 0 1, p0_ 0 1 0 0, p0_ 0 0 (-1) 0, e0 0 0 1 0, e0 0 0 0 1, p0_ 0 0 1 (-1)]
theorem K11_3 : own_ck T11_3 S11 1 1 0 0 0 0 0 0 1 0 = true := by decide +kernel
def T11_4 : List OwnL.SR := [p0_ 1 0 0 0, p1_ 0 0 1 0, p1_ 0 0 0 1, p0_ 0 1 0 0, p0_ 0 0 (-1) 0, e0 0 0 1 0, e0 0 0 0 1, p1_ 0 0 1 (-1), p0_ 0 0 (-1) 1, p0_ 0 0 0 (-1)]
theorem K11_4 : own_ck T11_4 S11 1 1 0 0 0 0 0 0 0 1 = true := by decide +kernel
def T11_5 : List OwnL.SR := [p0_ 1 0 0 0, p0_ 0 0 1 0, p0_ 0 0 0 1, p1_ 0 1 0 0, p0_ 0 (-1) 0 0, e0 0 1 0 0, e1 0 0 0 1]
theorem K11_5 : own_ck T11_5 S11 1 1 0 0 0 0 0 0 0 0 = true := by decide +kernel
def T11_6 : List OwnL.SR := [p0_ 1 0 0 0, p0_ 0 0 1 0, p1_ 0 0 0 1, p1_ 0 1 0 0, p0_ 0 (-1) 0 0, e0 0 1 0 0, e0 0 0 0 1, p0_ 0 1 0 (-1), e1 1 0 0 0, e1 0 0 1 0]
theorem K11_6 : own_ck T11_6 S11 1 1 0 0 0 0 0 0 0 0 = true := by decide +kernel
def T11_7 : List OwnL.SR := [p0_ 1 0 0 0, p1_ 0 0 1 0, p0_ 0 0 0 1, p1_ 0 1 0 0, p0_ 0 0 (-1) 0, p1_ 0 1 1 0, p0_ 0 (-1) 0 0, e0 0 1 0 0, e0 0 0 1 0, e1 0 0 0 1]
theorem K11_7 : own_ck T11_7 S11 1 1 0 0 0 0 0 0 0 0 = true := by decide +kernel
def T11_8 : List OwnL.SR := [p0_ 1 0 0 0, p1_ 0 0 1 0, p1_ 0 0 0 1, p1_ 0 1 0 0, p0_ 0 0 (-1) 0, p1_ 0 1 1 0, p0_ 0 (-1) 0 0, e0 0 1 0 0, e0 0 0 1 0, e0 0 0 0 1, p1_ 0 1 1 (-1), p0_ 0 0 (-1) 1, p0_ 0 0 1 (-1)]
theorem K11_8 : own_ck T11_8 S11 1 1 0 0 (-1) 1 0 0 1 0 = true := by decide +kernel
def T11_9 : List OwnL.SR := [p0_ 1 0 0 0, p1_ 0 0 1 0, p1_ 0 0 0 1, p1_ 0 1 0 0, p0_ 0 0 (-1) 0, p1_ 0 1 1 0, p0_ 0 (-1) 0 0, e0 0 1 0 0, e0 0 0 1 0, e0 0 0 0 1, p0_ 0 1 1 (-1), e1 1 0 0 0, e0 0 1 1 0, e0 0 0 (-1) 1, p1_ 0 0 (-1) 1]
theorem K11_9 : own_ck T11_9 S11 1 1 0 0 0 0 0 0 1 0 = true := by decide +kernel
def T11_10 : List OwnL.SR := [p0_ 1 0 0 0, p1_ 0 0 1 0, p1_ 0 0 0 1, p1_ 0 1 0 0, p0_ 0 0 (-1) 0, p1_ 0 1 1 0, p0_ 0 (-1) 0 0, e0 0 1 0 0, e0 0 0 1 0, e0 0 0 0 1, p1_ 0 1 1 (-1), p0_ 0 0 (-1) 1, p1_ 0 0 1 (-1), p0_ 0 0 0 (-1)]
theorem K11_10 : own_ck T11_10 S11 1 1 0 0 0 0 0 0 0 1 = true := by decide +kernel
def T11_11 : List OwnL.SR := [p0_ 1 0 0 0, p0_ 0 0 1 0, p1_ 0 0 0 1, p1_ 0 1 0 0, p0_ 0 (-1) 0 0, e0 0 1 0 0, e0 0 0 0 1, p1_ 0 1 0 (-1), p0_ 0 0 0 (-1), e1 1 0 0 0, e1 0 0 1 0]
theorem K11_11 : own_ck T11_11 S11 1 1 0 0 0 0 0 0 0 0 = true := by decide +kernel
def T11_12 : List OwnL.SR := [p0_ 1 0 0 0, p1_ 0 0 1 0, p1_ 0 0 0 1, p1_ 0 1 0 0, p0_ 0 0 (-1) 0, p1_ 0 1 1 0, p0_ 0 (-1) 0 0, e0 0 1 0 0, e0 0 0 1 0, e0 0 0 0 1, p1_ 0 1 1 (-1), p1_ 0 0 (-1) 1, p0_ 0 0 1 (-1), e1 1 0 0 0, e0 0 0 (-1) 1]
theorem K11_12 : own_ck T11_12 S11 1 1 0 0 0 0 0 0 1 0 = true := by decide +kernel
def T11_13 : List OwnL.SR := [p1_ 1 0 0 0, p0_ 0 0 1 0, p0_ 0 0 0 1, p0_ 0 1 0 0]
theorem K11_13 : own_ck T11_13 S11 1 1 0 0 0 0 0 0 0 0 = true := by decide +kernel
def T11_14 : List OwnL.SR := [p1_ 1 0 0 0, p0_ 0 0 1 0, p1_ 0 0 0 1, p0_ 0 1 0 0]
theorem K11_14 : own_ck T11_14 S11 1 1 0 0 0 0 0 0 0 0 = true := by decide +kernel
def T11_15 : List OwnL.SR := [p1_ 1 0 0 0, p1_ 0 0 1 0, p0_ 0 0 0 1, p0_ 0 1 0 0, p0_ 0 0 (-1) 0, e0 0 0 1 0, e1 0 0 0 1]
theorem K11_15 : own_ck T11_15 S11 1 1 0 0 0 0 0 0 0 0 = true := by decide +kernel
def T11_16 : List OwnL.SR := [p1_ 1 0 0 0, p1_ 0 0 1 0, p1_ 0 0 0 1, p0_ 0 1 0 0, p0_ 0 0 (-1) 0, e0 0 0 1 0, e0 0 0 0 1, p0_ 0 0 1 (-1)]
theorem K11_16 : own_ck T11_16 S11 1 1 0 0 0 0 0 0 1 0 = true := by decide +kernel
def T11_17 : List OwnL.SR := [p1_ 1 0 0 0, p1_ 0 0 1 0, p1_ 0 0 0 1, p0_ 0 1 0 0, p0_ 0 0 (-1) 0, e0 0 0 1 0, e0 0 0 0 1, p1_ 0 0 1 (-1), p0_ 0 0 (-1) 1, p0_ 0 0 0 (-1)]
theorem K11_17 : own_ck T11_17 S11 1 1 0 0 0 0 0 0 0 1 = true := by decide +kernel
def T11_18 : List OwnL.SR := [p1_ 1 0 0 0, p0_ 0 0 1 0, p0_ 0 0 0 1, p1_ 0 1 0 0, p0_ 0 (-1) 0 0, e0 0 1 0 0, e1 0 0 0 1]
theorem K11_18 : own_ck T11_18 S11 1 1 0 0 0 0 0 0 0 0 = true := by decide +kernel
def T11_19 : List OwnL.SR := [p1_ 1 0 0 0, p0_ 0 0 1 0, p1_ 0 0 0 1, p1_ 0 1 0 0, p0_ 0 (-1) 0 0, e0 0 1 0 0, e0 0 0 0 1, p0_ 0 1 0 (-1), e0 1 0 0 0, e1 0 0 1 0, p0_ (-1) 1 0 0]
theorem K11_19 : own_ck T11_19 S11 1 1 0 1 0 0 0 0 0 0 = true := by decide +kernel
def T11_20 : List OwnL.SR := [p1_ 1 0 0 0, p1_ 0 0 1 0, p0_ 0 0 0 1, p1_ 0 1 0 0, p0_ 0 0 (-1) 0, p1_ 0 1 1 0, p0_ 0 (-1) 0 0, e0 0 1 0 0, e0 0 0 1 0, e1 0 0 0 1]
theorem K11_20 : own_ck T11_20 S11 1 1 0 0 0 0 0 0 0 0 = true := by decide +kernel
def T11_21 : List OwnL.SR := [p1_ 1 0 0 0, p1_ 0 0 1 0, p1_ 0 0 0 1, p1_ 0 1 0 0, p0_ 0 0 (-1) 0, p1_ 0 1 1 0, p0_ 0 (-1) 0 0, e0 0 1 0 0, e0 0 0 1 0, e0 0 0 0 1, p1_ 0 1 1 (-1), p0_ 0 0 (-1) 1, p0_ 0 0 1 (-1)]
theorem K11_21 : own_ck T11_21 S11 1 1 0 0 (-1) 1 0 0 1 0 = true := by decide +kernel
def T11_22 : List OwnL.SR := [p1_ 1 0 0 0, p1_ 0 0 1 0, p1_ 0 0 0 1, p1_ 0 1 0 0, p0_ 0 0 (-1) 0, p1_ 0 1 1 0, p0_ 0 (-1) 0 0, e0 0 1 0 0, e0 0 0 1 0, e0 0 0 0 1, p0_ 0 1 1 (-1), e0 1 0 0 0, e0 0 1 1 0, p0_ (-1) 1 0 0]
theorem K11_22 : own_ck T11_22 S11 1 1 0 1 0 0 0 0 1 0 = true := by decide +kernel
def T11_23 : List OwnL.SR := [p1_ 1 0 0 0, p1_ 0 0 1 0, p1_ 0 0 0 1, p1_ 0 1 0 0, p0_ 0 0 (-1) 0, p1_ 0 1 1 0, p0_ 0 (-1) 0 0, e0 0 1 0 0, e0 0 0 1 0, e0 0 0 0 1, p1_ 0 1 1 (-1), p0_ 0 0 (-1) 1, p1_ 0 0 1 (-1), p0_ 0 0 0 (-1)]
theorem K11_23 : own_ck T11_23 S11 1 1 0 0 0 0 0 0 0 1 = true := by decide +kernel
def T11_24 : List OwnL.SR := [p1_ 1 0 0 0, p0_ 0 0 1 0, p1_ 0 0 0 1, p1_ 0 1 0 0, p0_ 0 (-1) 0 0, e0 0 1 0 0, e0 0 0 0 1, p1_ 0 1 0 (-1), p0_ 0 0 0 (-1), e0 1 0 0 0, e1 0 0 1 0, p0_ (-1) 0 0 1]
theorem K11_24 : own_ck T11_24 S11 1 1 0 0 0 1 0 0 0 0 = true := by decide +kernel
def T11_25 : List OwnL.SR := [p1_ 1 0 0 0, p0_ 0 0 1 0, p1_ 0 0 0 1, p1_ 0 1 0 0, p0_ 0 (-1) 0 0, e0 0 1 0 0, e0 0 0 0 1, p0_ 0 1 0 (-1), e0 1 0 0 0, e1 0 0 1 0, p1_ (-1) 1 0 0, p0_ 1 (-1) 0 0, p0_ (-1) 0 0 0, e0 (-1) 0 0 1, p1_ (-1) 0 0 1]
theorem K11_25 : own_ck T11_25 S11 1 1 1 0 0 0 0 0 0 0 = true := by decide +kernel
def T11_26 : List OwnL.SR := [p1_ 1 0 0 0, p1_ 0 0 1 0, p1_ 0 0 0 1, p1_ 0 1 0 0, p0_ 0 0 (-1) 0, p1_ 0 1 1 0, p0_ 0 (-1) 0 0, e0 0 1 0 0, e0 0 0 1 0, e0 0 0 0 1, p1_ 0 1 1 (-1), p1_ 0 0 (-1) 1, p0_ 0 0 1 (-1), e0 1 0 0 0, p0_ (-1) 0 (-1) 1]
theorem K11_26 : own_ck T11_26 S11 1 1 0 0 (-1) 1 0 0 1 0 = true := by decide +kernel
def T11_27 : List OwnL.SR := [p1_ 1 0 0 0, p1_ 0 0 1 0, p1_ 0 0 0 1, p1_ 0 1 0 0, p0_ 0 0 (-1) 0, p1_ 0 1 1 0, p0_ 0 (-1) 0 0, e0 0 1 0 0, e0 0 0 1 0, e0 0 0 0 1, p0_ 0 1 1 (-1), e0 1 0 0 0, e0 0 1 1 0, p1_ (-1) 1 0 0, p0_ 1 (-1) 0 0, p0_ (-1) 0 (-1) 0, e0 (-1) 0 (-1) 1, p1_ (-1) 0 (-1) 1, p0_ (-1) 0 0 0]
theorem K11_27 : own_ck T11_27 S11 1 1 1 0 0 0 0 0 1 0 = true := by decide +kernel
def T11_28 : List OwnL.SR := [p1_ 1 0 0 0, p0_ 0 0 1 0, p1_ 0 0 0 1, p1_ 0 1 0 0, p0_ 0 (-1) 0 0, e0 0 1 0 0, e0 0 0 0 1, p1_ 0 1 0 (-1), p0_ 0 0 0 (-1), e0 1 0 0 0, e1 0 0 1 0, p1_ (-1) 0 0 1, p0_ 1 0 0 (-1), p0_ (-1) 0 0 0]
theorem K11_28 : own_ck T11_28 S11 1 1 1 0 0 0 0 0 0 0 = true := by decide +kernel
def T11_29 : List OwnL.SR := [p1_ 1 0 0 0, p1_ 0 0 1 0, p1_ 0 0 0 1, p1_ 0 1 0 0, p0_ 0 0 (-1) 0, p1_ 0 1 1 0, p0_ 0 (-1) 0 0, e0 0 1 0 0, e0 0 0 1 0, e0 0 0 0 1, p1_ 0 1 1 (-1), p1_ 0 0 (-1) 1, p0_ 0 0 1 (-1), e0 1 0 0 0, p1_ (-1) 0 (-1) 1, p0_ 1 0 1 (-1), p0_ (-1) 0 (-1) 0, e0 0 0 (-1) 1, p0_ (-1) 0 0 0]
theorem K11_29 : own_ck T11_29 S11 1 1 1 0 0 0 0 0 1 0 = true := by decide +kernel
theorem c_run11 (l : Launch) {Z : State} {a0 : Array Value} (hw : HW1 Z a0) (n0 : Nat) {ν : OwnL.Va} (hB : own_bx ν) : Met l Z KT n0 y11 b11 4 none ({ frames := 4, cells := 0, slots := 0, locals := 100 } : Room) #[.ref (n0 + 6)] (own_h10.map (upO n0 ν)) (own_Q n0 ν (own_P (-(1 : Nat)) (-(1 : Nat))) 1 1) := by
  have hN := own_bxok hB
  obtain ⟨⟨_, _⟩, ⟨_, _⟩, ⟨_, _⟩, ⟨_, _⟩⟩ := id hB
  by_cases t0 : 0 < (0 : Int) + (1) * ν.a
  · by_cases t1 : 0 < (0 : Int) + (1) * ν.c
    · by_cases t2 : 0 < (0 : Int) + (1) * ν.p
      · by_cases t3 : 0 < (0 : Int) + (1) * ν.b
        · by_cases t10 : 0 < (0 : Int) + (1) * ν.b + (1) * ν.c + (-1) * ν.p
          · by_cases t11 : 0 < (0 : Int) + (-1) * ν.c + (1) * ν.p
            · by_cases t14 : 0 < (0 : Int) + (-1) * ν.a + (-1) * ν.c + (1) * ν.p
              · exact own_leaf (T := T11_29) l hw n0 hN (by simp only [T11_29, Sg, e1, e0, p1_, p0_, SgR, ev_eq, if_true, Bool.false_eq_true, if_false, and_true]; omega) K11_29 (own_se (by simp only [ev_eq]; omega))
              · exact own_leaf (T := T11_26) l hw n0 hN (by simp only [T11_26, Sg, e1, e0, p1_, p0_, SgR, ev_eq, if_true, Bool.false_eq_true, if_false, and_true]; omega) K11_26 (own_se (by simp only [ev_eq]; omega))
            · by_cases t12 : 0 < (0 : Int) + (1) * ν.c + (-1) * ν.p
              · exact own_leaf (T := T11_23) l hw n0 hN (by simp only [T11_23, Sg, e1, e0, p1_, p0_, SgR, ev_eq, if_true, Bool.false_eq_true, if_false, and_true]; omega) K11_23 (own_se (by simp only [ev_eq]; omega))
              · exact own_leaf (T := T11_21) l hw n0 hN (by simp only [T11_21, Sg, e1, e0, p1_, p0_, SgR, ev_eq, if_true, Bool.false_eq_true, if_false, and_true]; omega) K11_21 (own_se (by simp only [ev_eq]; omega))
          · by_cases t13 : 0 < (0 : Int) + (-1) * ν.a + (1) * ν.b
            · exact own_leaf (T := T11_27) l hw n0 hN (by simp only [T11_27, Sg, e1, e0, p1_, p0_, SgR, ev_eq, if_true, Bool.false_eq_true, if_false, and_true]; omega) K11_27 (own_se (by simp only [ev_eq]; omega))
            · exact own_leaf (T := T11_22) l hw n0 hN (by simp only [T11_22, Sg, e1, e0, p1_, p0_, SgR, ev_eq, if_true, Bool.false_eq_true, if_false, and_true]; omega) K11_22 (own_se (by simp only [ev_eq]; omega))
        · by_cases t7 : 0 < (0 : Int) + (1) * ν.c + (-1) * ν.p
          · exact own_leaf (T := T11_17) l hw n0 hN (by simp only [T11_17, Sg, e1, e0, p1_, p0_, SgR, ev_eq, if_true, Bool.false_eq_true, if_false, and_true]; omega) K11_17 (own_se (by simp only [ev_eq]; omega))
          · exact own_leaf (T := T11_16) l hw n0 hN (by simp only [T11_16, Sg, e1, e0, p1_, p0_, SgR, ev_eq, if_true, Bool.false_eq_true, if_false, and_true]; omega) K11_16 (own_se (by simp only [ev_eq]; omega))
      · by_cases t3 : 0 < (0 : Int) + (1) * ν.b
        · exact own_leaf (T := T11_20) l hw n0 hN (by simp only [T11_20, Sg, e1, e0, p1_, p0_, SgR, ev_eq, if_true, Bool.false_eq_true, if_false, and_true]; omega) K11_20 (own_se (by simp only [ev_eq]; omega))
        · exact own_leaf (T := T11_15) l hw n0 hN (by simp only [T11_15, Sg, e1, e0, p1_, p0_, SgR, ev_eq, if_true, Bool.false_eq_true, if_false, and_true]; omega) K11_15 (own_se (by simp only [ev_eq]; omega))
    · by_cases t2 : 0 < (0 : Int) + (1) * ν.p
      · by_cases t3 : 0 < (0 : Int) + (1) * ν.b
        · by_cases t7 : 0 < (0 : Int) + (1) * ν.b + (-1) * ν.p
          · by_cases t11 : 0 < (0 : Int) + (-1) * ν.a + (1) * ν.p
            · exact own_leaf (T := T11_28) l hw n0 hN (by simp only [T11_28, Sg, e1, e0, p1_, p0_, SgR, ev_eq, if_true, Bool.false_eq_true, if_false, and_true]; omega) K11_28 (own_se (by simp only [ev_eq]; omega))
            · exact own_leaf (T := T11_24) l hw n0 hN (by simp only [T11_24, Sg, e1, e0, p1_, p0_, SgR, ev_eq, if_true, Bool.false_eq_true, if_false, and_true]; omega) K11_24 (own_se (by simp only [ev_eq]; omega))
          · by_cases t10 : 0 < (0 : Int) + (-1) * ν.a + (1) * ν.b
            · exact own_leaf (T := T11_25) l hw n0 hN (by simp only [T11_25, Sg, e1, e0, p1_, p0_, SgR, ev_eq, if_true, Bool.false_eq_true, if_false, and_true]; omega) K11_25 (own_se (by simp only [ev_eq]; omega))
            · exact own_leaf (T := T11_19) l hw n0 hN (by simp only [T11_19, Sg, e1, e0, p1_, p0_, SgR, ev_eq, if_true, Bool.false_eq_true, if_false, and_true]; omega) K11_19 (own_se (by simp only [ev_eq]; omega))
        · exact own_leaf (T := T11_14) l hw n0 hN (by simp only [T11_14, Sg, e1, e0, p1_, p0_, SgR, ev_eq, if_true, Bool.false_eq_true, if_false, and_true]; omega) K11_14 (own_se (by simp only [ev_eq]; omega))
      · by_cases t3 : 0 < (0 : Int) + (1) * ν.b
        · exact own_leaf (T := T11_18) l hw n0 hN (by simp only [T11_18, Sg, e1, e0, p1_, p0_, SgR, ev_eq, if_true, Bool.false_eq_true, if_false, and_true]; omega) K11_18 (own_se (by simp only [ev_eq]; omega))
        · exact own_leaf (T := T11_13) l hw n0 hN (by simp only [T11_13, Sg, e1, e0, p1_, p0_, SgR, ev_eq, if_true, Bool.false_eq_true, if_false, and_true]; omega) K11_13 (own_se (by simp only [ev_eq]; omega))
  · by_cases t1 : 0 < (0 : Int) + (1) * ν.c
    · by_cases t2 : 0 < (0 : Int) + (1) * ν.p
      · by_cases t3 : 0 < (0 : Int) + (1) * ν.b
        · by_cases t10 : 0 < (0 : Int) + (1) * ν.b + (1) * ν.c + (-1) * ν.p
          · by_cases t11 : 0 < (0 : Int) + (-1) * ν.c + (1) * ν.p
            · exact own_leaf (T := T11_12) l hw n0 hN (by simp only [T11_12, Sg, e1, e0, p1_, p0_, SgR, ev_eq, if_true, Bool.false_eq_true, if_false, and_true]; omega) K11_12 (own_se (by simp only [ev_eq]; omega))
            · by_cases t12 : 0 < (0 : Int) + (1) * ν.c + (-1) * ν.p
              · exact own_leaf (T := T11_10) l hw n0 hN (by simp only [T11_10, Sg, e1, e0, p1_, p0_, SgR, ev_eq, if_true, Bool.false_eq_true, if_false, and_true]; omega) K11_10 (own_se (by simp only [ev_eq]; omega))
              · exact own_leaf (T := T11_8) l hw n0 hN (by simp only [T11_8, Sg, e1, e0, p1_, p0_, SgR, ev_eq, if_true, Bool.false_eq_true, if_false, and_true]; omega) K11_8 (own_se (by simp only [ev_eq]; omega))
          · exact own_leaf (T := T11_9) l hw n0 hN (by simp only [T11_9, Sg, e1, e0, p1_, p0_, SgR, ev_eq, if_true, Bool.false_eq_true, if_false, and_true]; omega) K11_9 (own_se (by simp only [ev_eq]; omega))
        · by_cases t7 : 0 < (0 : Int) + (1) * ν.c + (-1) * ν.p
          · exact own_leaf (T := T11_4) l hw n0 hN (by simp only [T11_4, Sg, e1, e0, p1_, p0_, SgR, ev_eq, if_true, Bool.false_eq_true, if_false, and_true]; omega) K11_4 (own_se (by simp only [ev_eq]; omega))
          · exact own_leaf (T := T11_3) l hw n0 hN (by simp only [T11_3, Sg, e1, e0, p1_, p0_, SgR, ev_eq, if_true, Bool.false_eq_true, if_false, and_true]; omega) K11_3 (own_se (by simp only [ev_eq]; omega))
      · by_cases t3 : 0 < (0 : Int) + (1) * ν.b
        · exact own_leaf (T := T11_7) l hw n0 hN (by simp only [T11_7, Sg, e1, e0, p1_, p0_, SgR, ev_eq, if_true, Bool.false_eq_true, if_false, and_true]; omega) K11_7 (own_se (by simp only [ev_eq]; omega))
        · exact own_leaf (T := T11_2) l hw n0 hN (by simp only [T11_2, Sg, e1, e0, p1_, p0_, SgR, ev_eq, if_true, Bool.false_eq_true, if_false, and_true]; omega) K11_2 (own_se (by simp only [ev_eq]; omega))
    · by_cases t2 : 0 < (0 : Int) + (1) * ν.p
      · by_cases t3 : 0 < (0 : Int) + (1) * ν.b
        · by_cases t7 : 0 < (0 : Int) + (1) * ν.b + (-1) * ν.p
          · exact own_leaf (T := T11_11) l hw n0 hN (by simp only [T11_11, Sg, e1, e0, p1_, p0_, SgR, ev_eq, if_true, Bool.false_eq_true, if_false, and_true]; omega) K11_11 (own_se (by simp only [ev_eq]; omega))
          · exact own_leaf (T := T11_6) l hw n0 hN (by simp only [T11_6, Sg, e1, e0, p1_, p0_, SgR, ev_eq, if_true, Bool.false_eq_true, if_false, and_true]; omega) K11_6 (own_se (by simp only [ev_eq]; omega))
        · exact own_leaf (T := T11_1) l hw n0 hN (by simp only [T11_1, Sg, e1, e0, p1_, p0_, SgR, ev_eq, if_true, Bool.false_eq_true, if_false, and_true]; omega) K11_1 (own_se (by simp only [ev_eq]; omega))
      · by_cases t3 : 0 < (0 : Int) + (1) * ν.b
        · exact own_leaf (T := T11_5) l hw n0 hN (by simp only [T11_5, Sg, e1, e0, p1_, p0_, SgR, ev_eq, if_true, Bool.false_eq_true, if_false, and_true]; omega) K11_5 (own_se (by simp only [ev_eq]; omega))
        · exact own_leaf (T := T11_0) l hw n0 hN (by simp only [T11_0, Sg, e1, e0, p1_, p0_, SgR, ev_eq, if_true, Bool.false_eq_true, if_false, and_true]; omega) K11_0 (own_se (by simp only [ev_eq]; omega))
def T12_0 : List OwnL.SR := [p0_ 1 0 0 0, p0_ 0 0 1 0, p0_ 0 0 0 1, p0_ 0 1 0 0]
theorem K12_0 : own_ck T12_0 S12 1 2 0 0 0 0 0 0 0 0 = true := by decide +kernel
def T12_1 : List OwnL.SR := [p0_ 1 0 0 0, p0_ 0 0 1 0, p1_ 0 0 0 1, p0_ 0 1 0 0]
theorem K12_1 : own_ck T12_1 S12 1 2 0 0 0 0 0 0 0 0 = true := by decide +kernel
def T12_2 : List OwnL.SR := [p0_ 1 0 0 0, p1_ 0 0 1 0, p0_ 0 0 0 1, p0_ 0 1 0 0, p0_ 0 0 (-1) 0, e0 0 0 1 0, e1 0 0 0 1]
theorem K12_2 : own_ck T12_2 S12 1 2 0 0 0 0 0 0 0 0 = true := by decide +kernel
def T12_3 : List OwnL.SR := [p0_ 1 0 0 0, p1_ 0 0 1 0, p1_ 0 0 0 1, p0_ 0 1 0 0, p0_ 0 0 (-1) 0, e0 0 0 1 0, e0 0 0 0 1, p0_ 0 0 1 (-1)]
theorem K12_3 : own_ck T12_3 S12 1 2 0 0 0 0 0 0 1 0 = true := by decide +kernel
def T12_4 : List OwnL.SR := [p0_ 1 0 0 0, p1_ 0 0 1 0, p1_ 0 0 0 1, p0_ 0 1 0 0, p0_ 0 0 (-1) 0, e0 0 0 1 0, e0 0 0 0 1, p1_ 0 0 1 (-1), p0_ 0 0 (-1) 1, p0_ 0 0 0 (-1)]
theorem K12_4 : own_ck T12_4 S12 1 2 0 0 0 0 0 0 0 1 = true := by decide +kernel
def T12_5 : List OwnL.SR := [p0_ 1 0 0 0, p0_ 0 0 1 0, p0_ 0 0 0 1, p1_ 0 1 0 0, p0_ 0 (-1) 0 0, e0 0 1 0 0, e1 0 0 0 1]
theorem K12_5 : own_ck T12_5 S12 1 2 0 0 0 0 0 0 0 0 = true := by decide +kernel
def T12_6 : List OwnL.SR := [p0_ 1 0 0 0, p0_ 0 0 1 0, p1_ 0 0 0 1, p1_ 0 1 0 0, p0_ 0 (-1) 0 0, e0 0 1 0 0, e0 0 0 0 1, p0_ 0 1 0 (-1), e1 1 0 0 0, e1 0 0 1 0]
theorem K12_6 : own_ck T12_6 S12 1 2 0 0 0 0 0 0 0 0 = true := by decide +kernel
def T12_7 : List OwnL.SR := [p0_ 1 0 0 0, p1_ 0 0 1 0, p0_ 0 0 0 1, p1_ 0 1 0 0, p0_ 0 0 (-1) 0, p1_ 0 1 1 0, p0_ 0 (-1) 0 0, e0 0 1 0 0, e0 0 0 1 0, e1 0 0 0 1]
theorem K12_7 : own_ck T12_7 S12 1 2 0 0 0 0 0 0 0 0 = true := by decide +kernel
def T12_8 : List OwnL.SR := [p0_ 1 0 0 0, p1_ 0 0 1 0, p1_ 0 0 0 1, p1_ 0 1 0 0, p0_ 0 0 (-1) 0, p1_ 0 1 1 0, p0_ 0 (-1) 0 0, e0 0 1 0 0, e0 0 0 1 0, e0 0 0 0 1, p1_ 0 1 1 (-1), p0_ 0 0 (-1) 1, p0_ 0 0 1 (-1)]
theorem K12_8 : own_ck T12_8 S12 1 2 0 0 (-1) 1 0 0 1 0 = true := by decide +kernel
def T12_9 : List OwnL.SR := [p0_ 1 0 0 0, p1_ 0 0 1 0, p1_ 0 0 0 1, p1_ 0 1 0 0, p0_ 0 0 (-1) 0, p1_ 0 1 1 0, p0_ 0 (-1) 0 0, e0 0 1 0 0, e0 0 0 1 0, e0 0 0 0 1, p0_ 0 1 1 (-1), e1 1 0 0 0, e0 0 1 1 0, e0 0 0 (-1) 1, p1_ 0 0 (-1) 1]
theorem K12_9 : own_ck T12_9 S12 1 2 0 0 0 0 0 0 1 0 = true := by decide +kernel
def T12_10 : List OwnL.SR := [p0_ 1 0 0 0, p1_ 0 0 1 0, p1_ 0 0 0 1, p1_ 0 1 0 0, p0_ 0 0 (-1) 0, p1_ 0 1 1 0, p0_ 0 (-1) 0 0, e0 0 1 0 0, e0 0 0 1 0, e0 0 0 0 1, p1_ 0 1 1 (-1), p0_ 0 0 (-1) 1, p1_ 0 0 1 (-1), p0_ 0 0 0 (-1)]
theorem K12_10 : own_ck T12_10 S12 1 2 0 0 0 0 0 0 0 1 = true := by decide +kernel
def T12_11 : List OwnL.SR := [p0_ 1 0 0 0, p0_ 0 0 1 0, p1_ 0 0 0 1, p1_ 0 1 0 0, p0_ 0 (-1) 0 0, e0 0 1 0 0, e0 0 0 0 1, p1_ 0 1 0 (-1), p0_ 0 0 0 (-1), e1 1 0 0 0, e1 0 0 1 0]
theorem K12_11 : own_ck T12_11 S12 1 2 0 0 0 0 0 0 0 0 = true := by decide +kernel
def T12_12 : List OwnL.SR := [p0_ 1 0 0 0, p1_ 0 0 1 0, p1_ 0 0 0 1, p1_ 0 1 0 0, p0_ 0 0 (-1) 0, p1_ 0 1 1 0, p0_ 0 (-1) 0 0, e0 0 1 0 0, e0 0 0 1 0, e0 0 0 0 1, p1_ 0 1 1 (-1), p1_ 0 0 (-1) 1, p0_ 0 0 1 (-1), e1 1 0 0 0, e0 0 0 (-1) 1]
theorem K12_12 : own_ck T12_12 S12 1 2 0 0 0 0 0 0 1 0 = true := by decide +kernel
def T12_13 : List OwnL.SR := [p1_ 1 0 0 0, p0_ 0 0 1 0, p0_ 0 0 0 1, p0_ 0 1 0 0]
theorem K12_13 : own_ck T12_13 S12 1 2 0 0 0 0 0 0 0 0 = true := by decide +kernel
def T12_14 : List OwnL.SR := [p1_ 1 0 0 0, p0_ 0 0 1 0, p1_ 0 0 0 1, p0_ 0 1 0 0]
theorem K12_14 : own_ck T12_14 S12 1 2 0 0 0 0 0 0 0 0 = true := by decide +kernel
def T12_15 : List OwnL.SR := [p1_ 1 0 0 0, p1_ 0 0 1 0, p0_ 0 0 0 1, p0_ 0 1 0 0, p0_ 0 0 (-1) 0, e0 0 0 1 0, e1 0 0 0 1]
theorem K12_15 : own_ck T12_15 S12 1 2 0 0 0 0 0 0 0 0 = true := by decide +kernel
def T12_16 : List OwnL.SR := [p1_ 1 0 0 0, p1_ 0 0 1 0, p1_ 0 0 0 1, p0_ 0 1 0 0, p0_ 0 0 (-1) 0, e0 0 0 1 0, e0 0 0 0 1, p0_ 0 0 1 (-1)]
theorem K12_16 : own_ck T12_16 S12 1 2 0 0 0 0 0 0 1 0 = true := by decide +kernel
def T12_17 : List OwnL.SR := [p1_ 1 0 0 0, p1_ 0 0 1 0, p1_ 0 0 0 1, p0_ 0 1 0 0, p0_ 0 0 (-1) 0, e0 0 0 1 0, e0 0 0 0 1, p1_ 0 0 1 (-1), p0_ 0 0 (-1) 1, p0_ 0 0 0 (-1)]
theorem K12_17 : own_ck T12_17 S12 1 2 0 0 0 0 0 0 0 1 = true := by decide +kernel
def T12_18 : List OwnL.SR := [p1_ 1 0 0 0, p0_ 0 0 1 0, p0_ 0 0 0 1, p1_ 0 1 0 0, p0_ 0 (-1) 0 0, e0 0 1 0 0, e1 0 0 0 1]
theorem K12_18 : own_ck T12_18 S12 1 2 0 0 0 0 0 0 0 0 = true := by decide +kernel
def T12_19 : List OwnL.SR := [p1_ 1 0 0 0, p0_ 0 0 1 0, p1_ 0 0 0 1, p1_ 0 1 0 0, p0_ 0 (-1) 0 0, e0 0 1 0 0, e0 0 0 0 1, p0_ 0 1 0 (-1), e0 1 0 0 0, e1 0 0 1 0, p0_ (-1) 1 0 0]
theorem K12_19 : own_ck T12_19 S12 1 2 0 1 0 0 0 0 0 0 = true := by decide +kernel
def T12_20 : List OwnL.SR := [p1_ 1 0 0 0, p1_ 0 0 1 0, p0_ 0 0 0 1, p1_ 0 1 0 0, p0_ 0 0 (-1) 0, p1_ 0 1 1 0, p0_ 0 (-1) 0 0, e0 0 1 0 0, e0 0 0 1 0, e1 0 0 0 1]
theorem K12_20 : own_ck T12_20 S12 1 2 0 0 0 0 0 0 0 0 = true := by decide +kernel
def T12_21 : List OwnL.SR := [p1_ 1 0 0 0, p1_ 0 0 1 0, p1_ 0 0 0 1, p1_ 0 1 0 0, p0_ 0 0 (-1) 0, p1_ 0 1 1 0, p0_ 0 (-1) 0 0, e0 0 1 0 0, e0 0 0 1 0, e0 0 0 0 1, p1_ 0 1 1 (-1), p0_ 0 0 (-1) 1, p0_ 0 0 1 (-1)]
theorem K12_21 : own_ck T12_21 S12 1 2 0 0 (-1) 1 0 0 1 0 = true := by decide +kernel
def T12_22 : List OwnL.SR := [p1_ 1 0 0 0, p1_ 0 0 1 0, p1_ 0 0 0 1, p1_ 0 1 0 0, p0_ 0 0 (-1) 0, p1_ 0 1 1 0, p0_ 0 (-1) 0 0, e0 0 1 0 0, e0 0 0 1 0, e0 0 0 0 1, p0_ 0 1 1 (-1), e0 1 0 0 0, e0 0 1 1 0, p0_ (-1) 1 0 0]
theorem K12_22 : own_ck T12_22 S12 1 2 0 1 0 0 0 0 1 0 = true := by decide +kernel
def T12_23 : List OwnL.SR := [p1_ 1 0 0 0, p1_ 0 0 1 0, p1_ 0 0 0 1, p1_ 0 1 0 0, p0_ 0 0 (-1) 0, p1_ 0 1 1 0, p0_ 0 (-1) 0 0, e0 0 1 0 0, e0 0 0 1 0, e0 0 0 0 1, p1_ 0 1 1 (-1), p0_ 0 0 (-1) 1, p1_ 0 0 1 (-1), p0_ 0 0 0 (-1)]
theorem K12_23 : own_ck T12_23 S12 1 2 0 0 0 0 0 0 0 1 = true := by decide +kernel
def T12_24 : List OwnL.SR := [p1_ 1 0 0 0, p0_ 0 0 1 0, p1_ 0 0 0 1, p1_ 0 1 0 0, p0_ 0 (-1) 0 0, e0 0 1 0 0, e0 0 0 0 1, p1_ 0 1 0 (-1), p0_ 0 0 0 (-1), e0 1 0 0 0, e1 0 0 1 0, p0_ (-1) 0 0 1]
theorem K12_24 : own_ck T12_24 S12 1 2 0 0 0 1 0 0 0 0 = true := by decide +kernel
def T12_25 : List OwnL.SR := [p1_ 1 0 0 0, p0_ 0 0 1 0, p1_ 0 0 0 1, p1_ 0 1 0 0, p0_ 0 (-1) 0 0, e0 0 1 0 0, e0 0 0 0 1, p0_ 0 1 0 (-1), e0 1 0 0 0, e1 0 0 1 0, p1_ (-1) 1 0 0, p0_ 1 (-1) 0 0, p0_ (-1) 0 0 0, e0 (-1) 0 0 1, p1_ (-1) 0 0 1]
theorem K12_25 : own_ck T12_25 S12 1 2 1 0 0 0 0 0 0 0 = true := by decide +kernel
def T12_26 : List OwnL.SR := [p1_ 1 0 0 0, p1_ 0 0 1 0, p1_ 0 0 0 1, p1_ 0 1 0 0, p0_ 0 0 (-1) 0, p1_ 0 1 1 0, p0_ 0 (-1) 0 0, e0 0 1 0 0, e0 0 0 1 0, e0 0 0 0 1, p1_ 0 1 1 (-1), p1_ 0 0 (-1) 1, p0_ 0 0 1 (-1), e0 1 0 0 0, p0_ (-1) 0 (-1) 1]
theorem K12_26 : own_ck T12_26 S12 1 2 0 0 (-1) 1 0 0 1 0 = true := by decide +kernel
def T12_27 : List OwnL.SR := [p1_ 1 0 0 0, p1_ 0 0 1 0, p1_ 0 0 0 1, p1_ 0 1 0 0, p0_ 0 0 (-1) 0, p1_ 0 1 1 0, p0_ 0 (-1) 0 0, e0 0 1 0 0, e0 0 0 1 0, e0 0 0 0 1, p0_ 0 1 1 (-1), e0 1 0 0 0, e0 0 1 1 0, p1_ (-1) 1 0 0, p0_ 1 (-1) 0 0, p0_ (-1) 0 (-1) 0, e0 (-1) 0 (-1) 1, p1_ (-1) 0 (-1) 1, p0_ (-1) 0 0 0]
theorem K12_27 : own_ck T12_27 S12 1 2 1 0 0 0 0 0 1 0 = true := by decide +kernel
def T12_28 : List OwnL.SR := [p1_ 1 0 0 0, p0_ 0 0 1 0, p1_ 0 0 0 1, p1_ 0 1 0 0, p0_ 0 (-1) 0 0, e0 0 1 0 0, e0 0 0 0 1, p1_ 0 1 0 (-1), p0_ 0 0 0 (-1), e0 1 0 0 0, e1 0 0 1 0, p1_ (-1) 0 0 1, p0_ 1 0 0 (-1), p0_ (-1) 0 0 0]
theorem K12_28 : own_ck T12_28 S12 1 2 1 0 0 0 0 0 0 0 = true := by decide +kernel
def T12_29 : List OwnL.SR := [p1_ 1 0 0 0, p1_ 0 0 1 0, p1_ 0 0 0 1, p1_ 0 1 0 0, p0_ 0 0 (-1) 0, p1_ 0 1 1 0, p0_ 0 (-1) 0 0, e0 0 1 0 0, e0 0 0 1 0, e0 0 0 0 1, p1_ 0 1 1 (-1), p1_ 0 0 (-1) 1, p0_ 0 0 1 (-1), e0 1 0 0 0, p1_ (-1) 0 (-1) 1, p0_ 1 0 1 (-1), p0_ (-1) 0 (-1) 0, e0 0 0 (-1) 1, p0_ (-1) 0 0 0]
theorem K12_29 : own_ck T12_29 S12 1 2 1 0 0 0 0 0 1 0 = true := by decide +kernel
theorem c_run12 (l : Launch) {Z : State} {a0 : Array Value} (hw : HW1 Z a0) (n0 : Nat) {ν : OwnL.Va} (hB : own_bx ν) : Met l Z KT n0 y11 b11 4 none ({ frames := 4, cells := 0, slots := 0, locals := 100 } : Room) #[.ref (n0 + 6)] (own_h14.map (upO n0 ν)) (own_Q n0 ν (own_P (-(1 : Nat)) (-(2 : Nat))) 1 2) := by
  have hN := own_bxok hB
  obtain ⟨⟨_, _⟩, ⟨_, _⟩, ⟨_, _⟩, ⟨_, _⟩⟩ := id hB
  by_cases t0 : 0 < (0 : Int) + (1) * ν.a
  · by_cases t1 : 0 < (0 : Int) + (1) * ν.c
    · by_cases t2 : 0 < (0 : Int) + (1) * ν.p
      · by_cases t3 : 0 < (0 : Int) + (1) * ν.b
        · by_cases t10 : 0 < (0 : Int) + (1) * ν.b + (1) * ν.c + (-1) * ν.p
          · by_cases t11 : 0 < (0 : Int) + (-1) * ν.c + (1) * ν.p
            · by_cases t14 : 0 < (0 : Int) + (-1) * ν.a + (-1) * ν.c + (1) * ν.p
              · exact own_leaf (T := T12_29) l hw n0 hN (by simp only [T12_29, Sg, e1, e0, p1_, p0_, SgR, ev_eq, if_true, Bool.false_eq_true, if_false, and_true]; omega) K12_29 (own_sl (by simp only [ev_eq]; omega))
              · exact own_leaf (T := T12_26) l hw n0 hN (by simp only [T12_26, Sg, e1, e0, p1_, p0_, SgR, ev_eq, if_true, Bool.false_eq_true, if_false, and_true]; omega) K12_26 (own_sl (by simp only [ev_eq]; omega))
            · by_cases t12 : 0 < (0 : Int) + (1) * ν.c + (-1) * ν.p
              · exact own_leaf (T := T12_23) l hw n0 hN (by simp only [T12_23, Sg, e1, e0, p1_, p0_, SgR, ev_eq, if_true, Bool.false_eq_true, if_false, and_true]; omega) K12_23 (own_sl (by simp only [ev_eq]; omega))
              · exact own_leaf (T := T12_21) l hw n0 hN (by simp only [T12_21, Sg, e1, e0, p1_, p0_, SgR, ev_eq, if_true, Bool.false_eq_true, if_false, and_true]; omega) K12_21 (own_sl (by simp only [ev_eq]; omega))
          · by_cases t13 : 0 < (0 : Int) + (-1) * ν.a + (1) * ν.b
            · exact own_leaf (T := T12_27) l hw n0 hN (by simp only [T12_27, Sg, e1, e0, p1_, p0_, SgR, ev_eq, if_true, Bool.false_eq_true, if_false, and_true]; omega) K12_27 (own_sl (by simp only [ev_eq]; omega))
            · exact own_leaf (T := T12_22) l hw n0 hN (by simp only [T12_22, Sg, e1, e0, p1_, p0_, SgR, ev_eq, if_true, Bool.false_eq_true, if_false, and_true]; omega) K12_22 (own_sl (by simp only [ev_eq]; omega))
        · by_cases t7 : 0 < (0 : Int) + (1) * ν.c + (-1) * ν.p
          · exact own_leaf (T := T12_17) l hw n0 hN (by simp only [T12_17, Sg, e1, e0, p1_, p0_, SgR, ev_eq, if_true, Bool.false_eq_true, if_false, and_true]; omega) K12_17 (own_sl (by simp only [ev_eq]; omega))
          · exact own_leaf (T := T12_16) l hw n0 hN (by simp only [T12_16, Sg, e1, e0, p1_, p0_, SgR, ev_eq, if_true, Bool.false_eq_true, if_false, and_true]; omega) K12_16 (own_sl (by simp only [ev_eq]; omega))
      · by_cases t3 : 0 < (0 : Int) + (1) * ν.b
        · exact own_leaf (T := T12_20) l hw n0 hN (by simp only [T12_20, Sg, e1, e0, p1_, p0_, SgR, ev_eq, if_true, Bool.false_eq_true, if_false, and_true]; omega) K12_20 (own_sl (by simp only [ev_eq]; omega))
        · exact own_leaf (T := T12_15) l hw n0 hN (by simp only [T12_15, Sg, e1, e0, p1_, p0_, SgR, ev_eq, if_true, Bool.false_eq_true, if_false, and_true]; omega) K12_15 (own_sl (by simp only [ev_eq]; omega))
    · by_cases t2 : 0 < (0 : Int) + (1) * ν.p
      · by_cases t3 : 0 < (0 : Int) + (1) * ν.b
        · by_cases t7 : 0 < (0 : Int) + (1) * ν.b + (-1) * ν.p
          · by_cases t11 : 0 < (0 : Int) + (-1) * ν.a + (1) * ν.p
            · exact own_leaf (T := T12_28) l hw n0 hN (by simp only [T12_28, Sg, e1, e0, p1_, p0_, SgR, ev_eq, if_true, Bool.false_eq_true, if_false, and_true]; omega) K12_28 (own_sl (by simp only [ev_eq]; omega))
            · exact own_leaf (T := T12_24) l hw n0 hN (by simp only [T12_24, Sg, e1, e0, p1_, p0_, SgR, ev_eq, if_true, Bool.false_eq_true, if_false, and_true]; omega) K12_24 (own_sl (by simp only [ev_eq]; omega))
          · by_cases t10 : 0 < (0 : Int) + (-1) * ν.a + (1) * ν.b
            · exact own_leaf (T := T12_25) l hw n0 hN (by simp only [T12_25, Sg, e1, e0, p1_, p0_, SgR, ev_eq, if_true, Bool.false_eq_true, if_false, and_true]; omega) K12_25 (own_sl (by simp only [ev_eq]; omega))
            · exact own_leaf (T := T12_19) l hw n0 hN (by simp only [T12_19, Sg, e1, e0, p1_, p0_, SgR, ev_eq, if_true, Bool.false_eq_true, if_false, and_true]; omega) K12_19 (own_sl (by simp only [ev_eq]; omega))
        · exact own_leaf (T := T12_14) l hw n0 hN (by simp only [T12_14, Sg, e1, e0, p1_, p0_, SgR, ev_eq, if_true, Bool.false_eq_true, if_false, and_true]; omega) K12_14 (own_sl (by simp only [ev_eq]; omega))
      · by_cases t3 : 0 < (0 : Int) + (1) * ν.b
        · exact own_leaf (T := T12_18) l hw n0 hN (by simp only [T12_18, Sg, e1, e0, p1_, p0_, SgR, ev_eq, if_true, Bool.false_eq_true, if_false, and_true]; omega) K12_18 (own_sl (by simp only [ev_eq]; omega))
        · exact own_leaf (T := T12_13) l hw n0 hN (by simp only [T12_13, Sg, e1, e0, p1_, p0_, SgR, ev_eq, if_true, Bool.false_eq_true, if_false, and_true]; omega) K12_13 (own_sl (by simp only [ev_eq]; omega))
  · by_cases t1 : 0 < (0 : Int) + (1) * ν.c
    · by_cases t2 : 0 < (0 : Int) + (1) * ν.p
      · by_cases t3 : 0 < (0 : Int) + (1) * ν.b
        · by_cases t10 : 0 < (0 : Int) + (1) * ν.b + (1) * ν.c + (-1) * ν.p
          · by_cases t11 : 0 < (0 : Int) + (-1) * ν.c + (1) * ν.p
            · exact own_leaf (T := T12_12) l hw n0 hN (by simp only [T12_12, Sg, e1, e0, p1_, p0_, SgR, ev_eq, if_true, Bool.false_eq_true, if_false, and_true]; omega) K12_12 (own_sl (by simp only [ev_eq]; omega))
            · by_cases t12 : 0 < (0 : Int) + (1) * ν.c + (-1) * ν.p
              · exact own_leaf (T := T12_10) l hw n0 hN (by simp only [T12_10, Sg, e1, e0, p1_, p0_, SgR, ev_eq, if_true, Bool.false_eq_true, if_false, and_true]; omega) K12_10 (own_sl (by simp only [ev_eq]; omega))
              · exact own_leaf (T := T12_8) l hw n0 hN (by simp only [T12_8, Sg, e1, e0, p1_, p0_, SgR, ev_eq, if_true, Bool.false_eq_true, if_false, and_true]; omega) K12_8 (own_sl (by simp only [ev_eq]; omega))
          · exact own_leaf (T := T12_9) l hw n0 hN (by simp only [T12_9, Sg, e1, e0, p1_, p0_, SgR, ev_eq, if_true, Bool.false_eq_true, if_false, and_true]; omega) K12_9 (own_sl (by simp only [ev_eq]; omega))
        · by_cases t7 : 0 < (0 : Int) + (1) * ν.c + (-1) * ν.p
          · exact own_leaf (T := T12_4) l hw n0 hN (by simp only [T12_4, Sg, e1, e0, p1_, p0_, SgR, ev_eq, if_true, Bool.false_eq_true, if_false, and_true]; omega) K12_4 (own_sl (by simp only [ev_eq]; omega))
          · exact own_leaf (T := T12_3) l hw n0 hN (by simp only [T12_3, Sg, e1, e0, p1_, p0_, SgR, ev_eq, if_true, Bool.false_eq_true, if_false, and_true]; omega) K12_3 (own_sl (by simp only [ev_eq]; omega))
      · by_cases t3 : 0 < (0 : Int) + (1) * ν.b
        · exact own_leaf (T := T12_7) l hw n0 hN (by simp only [T12_7, Sg, e1, e0, p1_, p0_, SgR, ev_eq, if_true, Bool.false_eq_true, if_false, and_true]; omega) K12_7 (own_sl (by simp only [ev_eq]; omega))
        · exact own_leaf (T := T12_2) l hw n0 hN (by simp only [T12_2, Sg, e1, e0, p1_, p0_, SgR, ev_eq, if_true, Bool.false_eq_true, if_false, and_true]; omega) K12_2 (own_sl (by simp only [ev_eq]; omega))
    · by_cases t2 : 0 < (0 : Int) + (1) * ν.p
      · by_cases t3 : 0 < (0 : Int) + (1) * ν.b
        · by_cases t7 : 0 < (0 : Int) + (1) * ν.b + (-1) * ν.p
          · exact own_leaf (T := T12_11) l hw n0 hN (by simp only [T12_11, Sg, e1, e0, p1_, p0_, SgR, ev_eq, if_true, Bool.false_eq_true, if_false, and_true]; omega) K12_11 (own_sl (by simp only [ev_eq]; omega))
          · exact own_leaf (T := T12_6) l hw n0 hN (by simp only [T12_6, Sg, e1, e0, p1_, p0_, SgR, ev_eq, if_true, Bool.false_eq_true, if_false, and_true]; omega) K12_6 (own_sl (by simp only [ev_eq]; omega))
        · exact own_leaf (T := T12_1) l hw n0 hN (by simp only [T12_1, Sg, e1, e0, p1_, p0_, SgR, ev_eq, if_true, Bool.false_eq_true, if_false, and_true]; omega) K12_1 (own_sl (by simp only [ev_eq]; omega))
      · by_cases t3 : 0 < (0 : Int) + (1) * ν.b
        · exact own_leaf (T := T12_5) l hw n0 hN (by simp only [T12_5, Sg, e1, e0, p1_, p0_, SgR, ev_eq, if_true, Bool.false_eq_true, if_false, and_true]; omega) K12_5 (own_sl (by simp only [ev_eq]; omega))
        · exact own_leaf (T := T12_0) l hw n0 hN (by simp only [T12_0, Sg, e1, e0, p1_, p0_, SgR, ev_eq, if_true, Bool.false_eq_true, if_false, and_true]; omega) K12_0 (own_sl (by simp only [ev_eq]; omega))
def T13_0 : List OwnL.SR := [p0_ 1 0 0 0, p0_ 0 0 1 0, p0_ 0 0 0 1, p0_ 0 1 0 0]
theorem K13_0 : own_ck T13_0 S13 1 3 0 0 0 0 0 0 0 0 = true := by decide +kernel
def T13_1 : List OwnL.SR := [p0_ 1 0 0 0, p0_ 0 0 1 0, p1_ 0 0 0 1, p0_ 0 1 0 0]
theorem K13_1 : own_ck T13_1 S13 1 3 0 0 0 0 0 0 0 0 = true := by decide +kernel
def T13_2 : List OwnL.SR := [p0_ 1 0 0 0, p1_ 0 0 1 0, p0_ 0 0 0 1, p0_ 0 1 0 0, p0_ 0 0 (-1) 0, e0 0 0 1 0, e1 0 0 0 1]
theorem K13_2 : own_ck T13_2 S13 1 3 0 0 0 0 0 0 0 0 = true := by decide +kernel
def T13_3 : List OwnL.SR := [p0_ 1 0 0 0, p1_ 0 0 1 0, p1_ 0 0 0 1, p0_ 0 1 0 0, p0_ 0 0 (-1) 0, e0 0 0 1 0, e0 0 0 0 1, p0_ 0 0 1 (-1)]
theorem K13_3 : own_ck T13_3 S13 1 3 0 0 0 0 0 0 1 0 = true := by decide +kernel
def T13_4 : List OwnL.SR := [p0_ 1 0 0 0, p1_ 0 0 1 0, p1_ 0 0 0 1, p0_ 0 1 0 0, p0_ 0 0 (-1) 0, e0 0 0 1 0, e0 0 0 0 1, p1_ 0 0 1 (-1), p0_ 0 0 (-1) 1, p0_ 0 0 0 (-1)]
theorem K13_4 : own_ck T13_4 S13 1 3 0 0 0 0 0 0 0 1 = true := by decide +kernel
def T13_5 : List OwnL.SR := [p0_ 1 0 0 0, p0_ 0 0 1 0, p0_ 0 0 0 1, p1_ 0 1 0 0, p0_ 0 (-1) 0 0, e0 0 1 0 0, e1 0 0 0 1]
theorem K13_5 : own_ck T13_5 S13 1 3 0 0 0 0 0 0 0 0 = true := by decide +kernel
def T13_6 : List OwnL.SR := [p0_ 1 0 0 0, p0_ 0 0 1 0, p1_ 0 0 0 1, p1_ 0 1 0 0, p0_ 0 (-1) 0 0, e0 0 1 0 0, e0 0 0 0 1, p0_ 0 1 0 (-1), e1 1 0 0 0, e1 0 0 1 0]
theorem K13_6 : own_ck T13_6 S13 1 3 0 0 0 0 0 0 0 0 = true := by decide +kernel
def T13_7 : List OwnL.SR := [p0_ 1 0 0 0, p1_ 0 0 1 0, p0_ 0 0 0 1, p1_ 0 1 0 0, p0_ 0 0 (-1) 0, p1_ 0 1 1 0, p0_ 0 (-1) 0 0, e0 0 1 0 0, e0 0 0 1 0, e1 0 0 0 1]
theorem K13_7 : own_ck T13_7 S13 1 3 0 0 0 0 0 0 0 0 = true := by decide +kernel
def T13_8 : List OwnL.SR := [p0_ 1 0 0 0, p1_ 0 0 1 0, p1_ 0 0 0 1, p1_ 0 1 0 0, p0_ 0 0 (-1) 0, p1_ 0 1 1 0, p0_ 0 (-1) 0 0, e0 0 1 0 0, e0 0 0 1 0, e0 0 0 0 1, p1_ 0 1 1 (-1), p0_ 0 0 (-1) 1, p0_ 0 0 1 (-1)]
theorem K13_8 : own_ck T13_8 S13 1 3 0 0 (-1) 1 0 0 1 0 = true := by decide +kernel
def T13_9 : List OwnL.SR := [p0_ 1 0 0 0, p1_ 0 0 1 0, p1_ 0 0 0 1, p1_ 0 1 0 0, p0_ 0 0 (-1) 0, p1_ 0 1 1 0, p0_ 0 (-1) 0 0, e0 0 1 0 0, e0 0 0 1 0, e0 0 0 0 1, p0_ 0 1 1 (-1), e1 1 0 0 0, e0 0 1 1 0, e0 0 0 (-1) 1, p1_ 0 0 (-1) 1]
theorem K13_9 : own_ck T13_9 S13 1 3 0 0 0 0 0 0 1 0 = true := by decide +kernel
def T13_10 : List OwnL.SR := [p0_ 1 0 0 0, p1_ 0 0 1 0, p1_ 0 0 0 1, p1_ 0 1 0 0, p0_ 0 0 (-1) 0, p1_ 0 1 1 0, p0_ 0 (-1) 0 0, e0 0 1 0 0, e0 0 0 1 0, e0 0 0 0 1, p1_ 0 1 1 (-1), p0_ 0 0 (-1) 1, p1_ 0 0 1 (-1), p0_ 0 0 0 (-1)]
theorem K13_10 : own_ck T13_10 S13 1 3 0 0 0 0 0 0 0 1 = true := by decide +kernel
def T13_11 : List OwnL.SR := [p0_ 1 0 0 0, p0_ 0 0 1 0, p1_ 0 0 0 1, p1_ 0 1 0 0, p0_ 0 (-1) 0 0, e0 0 1 0 0, e0 0 0 0 1, p1_ 0 1 0 (-1), p0_ 0 0 0 (-1), e1 1 0 0 0, e1 0 0 1 0]
theorem K13_11 : own_ck T13_11 S13 1 3 0 0 0 0 0 0 0 0 = true := by decide +kernel
def T13_12 : List OwnL.SR := [p0_ 1 0 0 0, p1_ 0 0 1 0, p1_ 0 0 0 1, p1_ 0 1 0 0, p0_ 0 0 (-1) 0, p1_ 0 1 1 0, p0_ 0 (-1) 0 0, e0 0 1 0 0, e0 0 0 1 0, e0 0 0 0 1, p1_ 0 1 1 (-1), p1_ 0 0 (-1) 1, p0_ 0 0 1 (-1), e1 1 0 0 0, e0 0 0 (-1) 1]
theorem K13_12 : own_ck T13_12 S13 1 3 0 0 0 0 0 0 1 0 = true := by decide +kernel
def T13_13 : List OwnL.SR := [p1_ 1 0 0 0, p0_ 0 0 1 0, p0_ 0 0 0 1, p0_ 0 1 0 0]
theorem K13_13 : own_ck T13_13 S13 1 3 0 0 0 0 0 0 0 0 = true := by decide +kernel
def T13_14 : List OwnL.SR := [p1_ 1 0 0 0, p0_ 0 0 1 0, p1_ 0 0 0 1, p0_ 0 1 0 0]
theorem K13_14 : own_ck T13_14 S13 1 3 0 0 0 0 0 0 0 0 = true := by decide +kernel
def T13_15 : List OwnL.SR := [p1_ 1 0 0 0, p1_ 0 0 1 0, p0_ 0 0 0 1, p0_ 0 1 0 0, p0_ 0 0 (-1) 0, e0 0 0 1 0, e1 0 0 0 1]
theorem K13_15 : own_ck T13_15 S13 1 3 0 0 0 0 0 0 0 0 = true := by decide +kernel
def T13_16 : List OwnL.SR := [p1_ 1 0 0 0, p1_ 0 0 1 0, p1_ 0 0 0 1, p0_ 0 1 0 0, p0_ 0 0 (-1) 0, e0 0 0 1 0, e0 0 0 0 1, p0_ 0 0 1 (-1)]
theorem K13_16 : own_ck T13_16 S13 1 3 0 0 0 0 0 0 1 0 = true := by decide +kernel
def T13_17 : List OwnL.SR := [p1_ 1 0 0 0, p1_ 0 0 1 0, p1_ 0 0 0 1, p0_ 0 1 0 0, p0_ 0 0 (-1) 0, e0 0 0 1 0, e0 0 0 0 1, p1_ 0 0 1 (-1), p0_ 0 0 (-1) 1, p0_ 0 0 0 (-1)]
theorem K13_17 : own_ck T13_17 S13 1 3 0 0 0 0 0 0 0 1 = true := by decide +kernel
def T13_18 : List OwnL.SR := [p1_ 1 0 0 0, p0_ 0 0 1 0, p0_ 0 0 0 1, p1_ 0 1 0 0, p0_ 0 (-1) 0 0, e0 0 1 0 0, e1 0 0 0 1]
theorem K13_18 : own_ck T13_18 S13 1 3 0 0 0 0 0 0 0 0 = true := by decide +kernel
def T13_19 : List OwnL.SR := [p1_ 1 0 0 0, p0_ 0 0 1 0, p1_ 0 0 0 1, p1_ 0 1 0 0, p0_ 0 (-1) 0 0, e0 0 1 0 0, e0 0 0 0 1, p0_ 0 1 0 (-1), e0 1 0 0 0, e1 0 0 1 0, p0_ (-1) 1 0 0]
theorem K13_19 : own_ck T13_19 S13 1 3 0 1 0 0 0 0 0 0 = true := by decide +kernel
def T13_20 : List OwnL.SR := [p1_ 1 0 0 0, p1_ 0 0 1 0, p0_ 0 0 0 1, p1_ 0 1 0 0, p0_ 0 0 (-1) 0, p1_ 0 1 1 0, p0_ 0 (-1) 0 0, e0 0 1 0 0, e0 0 0 1 0, e1 0 0 0 1]
theorem K13_20 : own_ck T13_20 S13 1 3 0 0 0 0 0 0 0 0 = true := by decide +kernel
def T13_21 : List OwnL.SR := [p1_ 1 0 0 0, p1_ 0 0 1 0, p1_ 0 0 0 1, p1_ 0 1 0 0, p0_ 0 0 (-1) 0, p1_ 0 1 1 0, p0_ 0 (-1) 0 0, e0 0 1 0 0, e0 0 0 1 0, e0 0 0 0 1, p1_ 0 1 1 (-1), p0_ 0 0 (-1) 1, p0_ 0 0 1 (-1)]
theorem K13_21 : own_ck T13_21 S13 1 3 0 0 (-1) 1 0 0 1 0 = true := by decide +kernel
def T13_22 : List OwnL.SR := [p1_ 1 0 0 0, p1_ 0 0 1 0, p1_ 0 0 0 1, p1_ 0 1 0 0, p0_ 0 0 (-1) 0, p1_ 0 1 1 0, p0_ 0 (-1) 0 0, e0 0 1 0 0, e0 0 0 1 0, e0 0 0 0 1, p0_ 0 1 1 (-1), e0 1 0 0 0, e0 0 1 1 0, p0_ (-1) 1 0 0]
theorem K13_22 : own_ck T13_22 S13 1 3 0 1 0 0 0 0 1 0 = true := by decide +kernel
def T13_23 : List OwnL.SR := [p1_ 1 0 0 0, p1_ 0 0 1 0, p1_ 0 0 0 1, p1_ 0 1 0 0, p0_ 0 0 (-1) 0, p1_ 0 1 1 0, p0_ 0 (-1) 0 0, e0 0 1 0 0, e0 0 0 1 0, e0 0 0 0 1, p1_ 0 1 1 (-1), p0_ 0 0 (-1) 1, p1_ 0 0 1 (-1), p0_ 0 0 0 (-1)]
theorem K13_23 : own_ck T13_23 S13 1 3 0 0 0 0 0 0 0 1 = true := by decide +kernel
def T13_24 : List OwnL.SR := [p1_ 1 0 0 0, p0_ 0 0 1 0, p1_ 0 0 0 1, p1_ 0 1 0 0, p0_ 0 (-1) 0 0, e0 0 1 0 0, e0 0 0 0 1, p1_ 0 1 0 (-1), p0_ 0 0 0 (-1), e0 1 0 0 0, e1 0 0 1 0, p0_ (-1) 0 0 1]
theorem K13_24 : own_ck T13_24 S13 1 3 0 0 0 1 0 0 0 0 = true := by decide +kernel
def T13_25 : List OwnL.SR := [p1_ 1 0 0 0, p0_ 0 0 1 0, p1_ 0 0 0 1, p1_ 0 1 0 0, p0_ 0 (-1) 0 0, e0 0 1 0 0, e0 0 0 0 1, p0_ 0 1 0 (-1), e0 1 0 0 0, e1 0 0 1 0, p1_ (-1) 1 0 0, p0_ 1 (-1) 0 0, p0_ (-1) 0 0 0, e0 (-1) 0 0 1, p1_ (-1) 0 0 1]
theorem K13_25 : own_ck T13_25 S13 1 3 1 0 0 0 0 0 0 0 = true := by decide +kernel
def T13_26 : List OwnL.SR := [p1_ 1 0 0 0, p1_ 0 0 1 0, p1_ 0 0 0 1, p1_ 0 1 0 0, p0_ 0 0 (-1) 0, p1_ 0 1 1 0, p0_ 0 (-1) 0 0, e0 0 1 0 0, e0 0 0 1 0, e0 0 0 0 1, p1_ 0 1 1 (-1), p1_ 0 0 (-1) 1, p0_ 0 0 1 (-1), e0 1 0 0 0, p0_ (-1) 0 (-1) 1]
theorem K13_26 : own_ck T13_26 S13 1 3 0 0 (-1) 1 0 0 1 0 = true := by decide +kernel
def T13_27 : List OwnL.SR := [p1_ 1 0 0 0, p1_ 0 0 1 0, p1_ 0 0 0 1, p1_ 0 1 0 0, p0_ 0 0 (-1) 0, p1_ 0 1 1 0, p0_ 0 (-1) 0 0, e0 0 1 0 0, e0 0 0 1 0, e0 0 0 0 1, p0_ 0 1 1 (-1), e0 1 0 0 0, e0 0 1 1 0, p1_ (-1) 1 0 0, p0_ 1 (-1) 0 0, p0_ (-1) 0 (-1) 0, e0 (-1) 0 (-1) 1, p1_ (-1) 0 (-1) 1, p0_ (-1) 0 0 0]
theorem K13_27 : own_ck T13_27 S13 1 3 1 0 0 0 0 0 1 0 = true := by decide +kernel
def T13_28 : List OwnL.SR := [p1_ 1 0 0 0, p0_ 0 0 1 0, p1_ 0 0 0 1, p1_ 0 1 0 0, p0_ 0 (-1) 0 0, e0 0 1 0 0, e0 0 0 0 1, p1_ 0 1 0 (-1), p0_ 0 0 0 (-1), e0 1 0 0 0, e1 0 0 1 0, p1_ (-1) 0 0 1, p0_ 1 0 0 (-1), p0_ (-1) 0 0 0]
theorem K13_28 : own_ck T13_28 S13 1 3 1 0 0 0 0 0 0 0 = true := by decide +kernel
def T13_29 : List OwnL.SR := [p1_ 1 0 0 0, p1_ 0 0 1 0, p1_ 0 0 0 1, p1_ 0 1 0 0, p0_ 0 0 (-1) 0, p1_ 0 1 1 0, p0_ 0 (-1) 0 0, e0 0 1 0 0, e0 0 0 1 0, e0 0 0 0 1, p1_ 0 1 1 (-1), p1_ 0 0 (-1) 1, p0_ 0 0 1 (-1), e0 1 0 0 0, p1_ (-1) 0 (-1) 1, p0_ 1 0 1 (-1), p0_ (-1) 0 (-1) 0, e0 0 0 (-1) 1, p0_ (-1) 0 0 0]
theorem K13_29 : own_ck T13_29 S13 1 3 1 0 0 0 0 0 1 0 = true := by decide +kernel
theorem c_run13 (l : Launch) {Z : State} {a0 : Array Value} (hw : HW1 Z a0) (n0 : Nat) {ν : OwnL.Va} (hB : own_bx ν) : Met l Z KT n0 y11 b11 4 none ({ frames := 4, cells := 0, slots := 0, locals := 100 } : Room) #[.ref (n0 + 6)] (own_h18.map (upO n0 ν)) (own_Q n0 ν (own_P (-(1 : Nat)) (-(3 : Nat))) 1 3) := by
  have hN := own_bxok hB
  obtain ⟨⟨_, _⟩, ⟨_, _⟩, ⟨_, _⟩, ⟨_, _⟩⟩ := id hB
  by_cases t0 : 0 < (0 : Int) + (1) * ν.a
  · by_cases t1 : 0 < (0 : Int) + (1) * ν.c
    · by_cases t2 : 0 < (0 : Int) + (1) * ν.p
      · by_cases t3 : 0 < (0 : Int) + (1) * ν.b
        · by_cases t10 : 0 < (0 : Int) + (1) * ν.b + (1) * ν.c + (-1) * ν.p
          · by_cases t11 : 0 < (0 : Int) + (-1) * ν.c + (1) * ν.p
            · by_cases t14 : 0 < (0 : Int) + (-1) * ν.a + (-1) * ν.c + (1) * ν.p
              · exact own_leaf (T := T13_29) l hw n0 hN (by simp only [T13_29, Sg, e1, e0, p1_, p0_, SgR, ev_eq, if_true, Bool.false_eq_true, if_false, and_true]; omega) K13_29 (own_sl (by simp only [ev_eq]; omega))
              · exact own_leaf (T := T13_26) l hw n0 hN (by simp only [T13_26, Sg, e1, e0, p1_, p0_, SgR, ev_eq, if_true, Bool.false_eq_true, if_false, and_true]; omega) K13_26 (own_sl (by simp only [ev_eq]; omega))
            · by_cases t12 : 0 < (0 : Int) + (1) * ν.c + (-1) * ν.p
              · exact own_leaf (T := T13_23) l hw n0 hN (by simp only [T13_23, Sg, e1, e0, p1_, p0_, SgR, ev_eq, if_true, Bool.false_eq_true, if_false, and_true]; omega) K13_23 (own_sl (by simp only [ev_eq]; omega))
              · exact own_leaf (T := T13_21) l hw n0 hN (by simp only [T13_21, Sg, e1, e0, p1_, p0_, SgR, ev_eq, if_true, Bool.false_eq_true, if_false, and_true]; omega) K13_21 (own_sl (by simp only [ev_eq]; omega))
          · by_cases t13 : 0 < (0 : Int) + (-1) * ν.a + (1) * ν.b
            · exact own_leaf (T := T13_27) l hw n0 hN (by simp only [T13_27, Sg, e1, e0, p1_, p0_, SgR, ev_eq, if_true, Bool.false_eq_true, if_false, and_true]; omega) K13_27 (own_sl (by simp only [ev_eq]; omega))
            · exact own_leaf (T := T13_22) l hw n0 hN (by simp only [T13_22, Sg, e1, e0, p1_, p0_, SgR, ev_eq, if_true, Bool.false_eq_true, if_false, and_true]; omega) K13_22 (own_sl (by simp only [ev_eq]; omega))
        · by_cases t7 : 0 < (0 : Int) + (1) * ν.c + (-1) * ν.p
          · exact own_leaf (T := T13_17) l hw n0 hN (by simp only [T13_17, Sg, e1, e0, p1_, p0_, SgR, ev_eq, if_true, Bool.false_eq_true, if_false, and_true]; omega) K13_17 (own_sl (by simp only [ev_eq]; omega))
          · exact own_leaf (T := T13_16) l hw n0 hN (by simp only [T13_16, Sg, e1, e0, p1_, p0_, SgR, ev_eq, if_true, Bool.false_eq_true, if_false, and_true]; omega) K13_16 (own_sl (by simp only [ev_eq]; omega))
      · by_cases t3 : 0 < (0 : Int) + (1) * ν.b
        · exact own_leaf (T := T13_20) l hw n0 hN (by simp only [T13_20, Sg, e1, e0, p1_, p0_, SgR, ev_eq, if_true, Bool.false_eq_true, if_false, and_true]; omega) K13_20 (own_sl (by simp only [ev_eq]; omega))
        · exact own_leaf (T := T13_15) l hw n0 hN (by simp only [T13_15, Sg, e1, e0, p1_, p0_, SgR, ev_eq, if_true, Bool.false_eq_true, if_false, and_true]; omega) K13_15 (own_sl (by simp only [ev_eq]; omega))
    · by_cases t2 : 0 < (0 : Int) + (1) * ν.p
      · by_cases t3 : 0 < (0 : Int) + (1) * ν.b
        · by_cases t7 : 0 < (0 : Int) + (1) * ν.b + (-1) * ν.p
          · by_cases t11 : 0 < (0 : Int) + (-1) * ν.a + (1) * ν.p
            · exact own_leaf (T := T13_28) l hw n0 hN (by simp only [T13_28, Sg, e1, e0, p1_, p0_, SgR, ev_eq, if_true, Bool.false_eq_true, if_false, and_true]; omega) K13_28 (own_sl (by simp only [ev_eq]; omega))
            · exact own_leaf (T := T13_24) l hw n0 hN (by simp only [T13_24, Sg, e1, e0, p1_, p0_, SgR, ev_eq, if_true, Bool.false_eq_true, if_false, and_true]; omega) K13_24 (own_sl (by simp only [ev_eq]; omega))
          · by_cases t10 : 0 < (0 : Int) + (-1) * ν.a + (1) * ν.b
            · exact own_leaf (T := T13_25) l hw n0 hN (by simp only [T13_25, Sg, e1, e0, p1_, p0_, SgR, ev_eq, if_true, Bool.false_eq_true, if_false, and_true]; omega) K13_25 (own_sl (by simp only [ev_eq]; omega))
            · exact own_leaf (T := T13_19) l hw n0 hN (by simp only [T13_19, Sg, e1, e0, p1_, p0_, SgR, ev_eq, if_true, Bool.false_eq_true, if_false, and_true]; omega) K13_19 (own_sl (by simp only [ev_eq]; omega))
        · exact own_leaf (T := T13_14) l hw n0 hN (by simp only [T13_14, Sg, e1, e0, p1_, p0_, SgR, ev_eq, if_true, Bool.false_eq_true, if_false, and_true]; omega) K13_14 (own_sl (by simp only [ev_eq]; omega))
      · by_cases t3 : 0 < (0 : Int) + (1) * ν.b
        · exact own_leaf (T := T13_18) l hw n0 hN (by simp only [T13_18, Sg, e1, e0, p1_, p0_, SgR, ev_eq, if_true, Bool.false_eq_true, if_false, and_true]; omega) K13_18 (own_sl (by simp only [ev_eq]; omega))
        · exact own_leaf (T := T13_13) l hw n0 hN (by simp only [T13_13, Sg, e1, e0, p1_, p0_, SgR, ev_eq, if_true, Bool.false_eq_true, if_false, and_true]; omega) K13_13 (own_sl (by simp only [ev_eq]; omega))
  · by_cases t1 : 0 < (0 : Int) + (1) * ν.c
    · by_cases t2 : 0 < (0 : Int) + (1) * ν.p
      · by_cases t3 : 0 < (0 : Int) + (1) * ν.b
        · by_cases t10 : 0 < (0 : Int) + (1) * ν.b + (1) * ν.c + (-1) * ν.p
          · by_cases t11 : 0 < (0 : Int) + (-1) * ν.c + (1) * ν.p
            · exact own_leaf (T := T13_12) l hw n0 hN (by simp only [T13_12, Sg, e1, e0, p1_, p0_, SgR, ev_eq, if_true, Bool.false_eq_true, if_false, and_true]; omega) K13_12 (own_sl (by simp only [ev_eq]; omega))
            · by_cases t12 : 0 < (0 : Int) + (1) * ν.c + (-1) * ν.p
              · exact own_leaf (T := T13_10) l hw n0 hN (by simp only [T13_10, Sg, e1, e0, p1_, p0_, SgR, ev_eq, if_true, Bool.false_eq_true, if_false, and_true]; omega) K13_10 (own_sl (by simp only [ev_eq]; omega))
              · exact own_leaf (T := T13_8) l hw n0 hN (by simp only [T13_8, Sg, e1, e0, p1_, p0_, SgR, ev_eq, if_true, Bool.false_eq_true, if_false, and_true]; omega) K13_8 (own_sl (by simp only [ev_eq]; omega))
          · exact own_leaf (T := T13_9) l hw n0 hN (by simp only [T13_9, Sg, e1, e0, p1_, p0_, SgR, ev_eq, if_true, Bool.false_eq_true, if_false, and_true]; omega) K13_9 (own_sl (by simp only [ev_eq]; omega))
        · by_cases t7 : 0 < (0 : Int) + (1) * ν.c + (-1) * ν.p
          · exact own_leaf (T := T13_4) l hw n0 hN (by simp only [T13_4, Sg, e1, e0, p1_, p0_, SgR, ev_eq, if_true, Bool.false_eq_true, if_false, and_true]; omega) K13_4 (own_sl (by simp only [ev_eq]; omega))
          · exact own_leaf (T := T13_3) l hw n0 hN (by simp only [T13_3, Sg, e1, e0, p1_, p0_, SgR, ev_eq, if_true, Bool.false_eq_true, if_false, and_true]; omega) K13_3 (own_sl (by simp only [ev_eq]; omega))
      · by_cases t3 : 0 < (0 : Int) + (1) * ν.b
        · exact own_leaf (T := T13_7) l hw n0 hN (by simp only [T13_7, Sg, e1, e0, p1_, p0_, SgR, ev_eq, if_true, Bool.false_eq_true, if_false, and_true]; omega) K13_7 (own_sl (by simp only [ev_eq]; omega))
        · exact own_leaf (T := T13_2) l hw n0 hN (by simp only [T13_2, Sg, e1, e0, p1_, p0_, SgR, ev_eq, if_true, Bool.false_eq_true, if_false, and_true]; omega) K13_2 (own_sl (by simp only [ev_eq]; omega))
    · by_cases t2 : 0 < (0 : Int) + (1) * ν.p
      · by_cases t3 : 0 < (0 : Int) + (1) * ν.b
        · by_cases t7 : 0 < (0 : Int) + (1) * ν.b + (-1) * ν.p
          · exact own_leaf (T := T13_11) l hw n0 hN (by simp only [T13_11, Sg, e1, e0, p1_, p0_, SgR, ev_eq, if_true, Bool.false_eq_true, if_false, and_true]; omega) K13_11 (own_sl (by simp only [ev_eq]; omega))
          · exact own_leaf (T := T13_6) l hw n0 hN (by simp only [T13_6, Sg, e1, e0, p1_, p0_, SgR, ev_eq, if_true, Bool.false_eq_true, if_false, and_true]; omega) K13_6 (own_sl (by simp only [ev_eq]; omega))
        · exact own_leaf (T := T13_1) l hw n0 hN (by simp only [T13_1, Sg, e1, e0, p1_, p0_, SgR, ev_eq, if_true, Bool.false_eq_true, if_false, and_true]; omega) K13_1 (own_sl (by simp only [ev_eq]; omega))
      · by_cases t3 : 0 < (0 : Int) + (1) * ν.b
        · exact own_leaf (T := T13_5) l hw n0 hN (by simp only [T13_5, Sg, e1, e0, p1_, p0_, SgR, ev_eq, if_true, Bool.false_eq_true, if_false, and_true]; omega) K13_5 (own_sl (by simp only [ev_eq]; omega))
        · exact own_leaf (T := T13_0) l hw n0 hN (by simp only [T13_0, Sg, e1, e0, p1_, p0_, SgR, ev_eq, if_true, Bool.false_eq_true, if_false, and_true]; omega) K13_0 (own_sl (by simp only [ev_eq]; omega))
def T21_0 : List OwnL.SR := [p0_ 1 0 0 0, p0_ 0 0 1 0, p0_ 0 0 0 1, p0_ 0 1 0 0]
theorem K21_0 : own_ck T21_0 S21 2 1 0 0 0 0 0 0 0 0 = true := by decide +kernel
def T21_1 : List OwnL.SR := [p0_ 1 0 0 0, p0_ 0 0 1 0, p1_ 0 0 0 1, p0_ 0 1 0 0]
theorem K21_1 : own_ck T21_1 S21 2 1 0 0 0 0 0 0 0 0 = true := by decide +kernel
def T21_2 : List OwnL.SR := [p0_ 1 0 0 0, p1_ 0 0 1 0, p0_ 0 0 0 1, p0_ 0 1 0 0, p0_ 0 0 (-1) 0, e0 0 0 1 0, e1 0 0 0 1]
theorem K21_2 : own_ck T21_2 S21 2 1 0 0 0 0 0 0 0 0 = true := by decide +kernel
def T21_3 : List OwnL.SR := [p0_ 1 0 0 0, p1_ 0 0 1 0, p1_ 0 0 0 1, p0_ 0 1 0 0, p0_ 0 0 (-1) 0, e0 0 0 1 0, e0 0 0 0 1, p0_ 0 0 1 (-1)]
theorem K21_3 : own_ck T21_3 S21 2 1 0 0 0 0 0 0 1 0 = true := by decide +kernel
def T21_4 : List OwnL.SR := [p0_ 1 0 0 0, p1_ 0 0 1 0, p1_ 0 0 0 1, p0_ 0 1 0 0, p0_ 0 0 (-1) 0, e0 0 0 1 0, e0 0 0 0 1, p1_ 0 0 1 (-1), p0_ 0 0 (-1) 1, p0_ 0 0 0 (-1)]
theorem K21_4 : own_ck T21_4 S21 2 1 0 0 0 0 0 0 0 1 = true := by decide +kernel
def T21_5 : List OwnL.SR := [p0_ 1 0 0 0, p0_ 0 0 1 0, p0_ 0 0 0 1, p1_ 0 1 0 0, p0_ 0 (-1) 0 0, e0 0 1 0 0, e1 0 0 0 1]
theorem K21_5 : own_ck T21_5 S21 2 1 0 0 0 0 0 0 0 0 = true := by decide +kernel
def T21_6 : List OwnL.SR := [p0_ 1 0 0 0, p0_ 0 0 1 0, p1_ 0 0 0 1, p1_ 0 1 0 0, p0_ 0 (-1) 0 0, e0 0 1 0 0, e0 0 0 0 1, p0_ 0 1 0 (-1), e1 1 0 0 0, e1 0 0 1 0]
theorem K21_6 : own_ck T21_6 S21 2 1 0 0 0 0 0 0 0 0 = true := by decide +kernel
def T21_7 : List OwnL.SR := [p0_ 1 0 0 0, p1_ 0 0 1 0, p0_ 0 0 0 1, p1_ 0 1 0 0, p0_ 0 0 (-1) 0, p1_ 0 1 1 0, p0_ 0 (-1) 0 0, e0 0 1 0 0, e0 0 0 1 0, e1 0 0 0 1]
theorem K21_7 : own_ck T21_7 S21 2 1 0 0 0 0 0 0 0 0 = true := by decide +kernel
def T21_8 : List OwnL.SR := [p0_ 1 0 0 0, p1_ 0 0 1 0, p1_ 0 0 0 1, p1_ 0 1 0 0, p0_ 0 0 (-1) 0, p1_ 0 1 1 0, p0_ 0 (-1) 0 0, e0 0 1 0 0, e0 0 0 1 0, e0 0 0 0 1, p1_ 0 1 1 (-1), p0_ 0 0 (-1) 1, p0_ 0 1 0 (-1), e1 1 0 0 0, e0 0 1 1 (-1)]
theorem K21_8 : own_ck T21_8 S21 2 1 0 0 0 0 0 0 0 1 = true := by decide +kernel
def T21_9 : List OwnL.SR := [p0_ 1 0 0 0, p1_ 0 0 1 0, p1_ 0 0 0 1, p1_ 0 1 0 0, p0_ 0 0 (-1) 0, p1_ 0 1 1 0, p0_ 0 (-1) 0 0, e0 0 1 0 0, e0 0 0 1 0, e0 0 0 0 1, p0_ 0 1 1 (-1), e1 1 0 0 0, e0 0 1 1 0, e0 0 0 (-1) 1, p1_ 0 0 (-1) 1]
theorem K21_9 : own_ck T21_9 S21 2 1 0 0 0 0 0 0 1 0 = true := by decide +kernel
def T21_10 : List OwnL.SR := [p0_ 1 0 0 0, p0_ 0 0 1 0, p1_ 0 0 0 1, p1_ 0 1 0 0, p0_ 0 (-1) 0 0, e0 0 1 0 0, e0 0 0 0 1, p1_ 0 1 0 (-1), p0_ 0 0 0 (-1), e1 1 0 0 0, e1 0 0 1 0]
theorem K21_10 : own_ck T21_10 S21 2 1 0 0 0 0 0 0 0 0 = true := by decide +kernel
def T21_11 : List OwnL.SR := [p0_ 1 0 0 0, p1_ 0 0 1 0, p1_ 0 0 0 1, p1_ 0 1 0 0, p0_ 0 0 (-1) 0, p1_ 0 1 1 0, p0_ 0 (-1) 0 0, e0 0 1 0 0, e0 0 0 1 0, e0 0 0 0 1, p1_ 0 1 1 (-1), p0_ 0 0 (-1) 1, p1_ 0 1 0 (-1), p0_ 0 0 0 (-1), e1 1 0 0 0]
theorem K21_11 : own_ck T21_11 S21 2 1 0 0 0 0 0 0 0 1 = true := by decide +kernel
def T21_12 : List OwnL.SR := [p0_ 1 0 0 0, p1_ 0 0 1 0, p1_ 0 0 0 1, p1_ 0 1 0 0, p0_ 0 0 (-1) 0, p1_ 0 1 1 0, p0_ 0 (-1) 0 0, e0 0 1 0 0, e0 0 0 1 0, e0 0 0 0 1, p1_ 0 1 1 (-1), p1_ 0 0 (-1) 1, p0_ 0 1 0 (-1), e1 1 0 0 0, e0 0 1 1 (-1), e0 0 0 (-1) 1, p0_ 0 0 1 (-1)]
theorem K21_12 : own_ck T21_12 S21 2 1 0 0 0 0 0 0 1 0 = true := by decide +kernel
def T21_13 : List OwnL.SR := [p0_ 1 0 0 0, p1_ 0 0 1 0, p1_ 0 0 0 1, p1_ 0 1 0 0, p0_ 0 0 (-1) 0, p1_ 0 1 1 0, p0_ 0 (-1) 0 0, e0 0 1 0 0, e0 0 0 1 0, e0 0 0 0 1, p1_ 0 1 1 (-1), p1_ 0 0 (-1) 1, p1_ 0 1 0 (-1), p0_ 0 0 0 (-1), e1 1 0 0 0]
theorem K21_13 : own_ck T21_13 S21 2 1 0 0 0 0 0 0 1 0 = true := by decide +kernel
def T21_14 : List OwnL.SR := [p1_ 1 0 0 0, p0_ 0 0 1 0, p0_ 0 0 0 1, p0_ 0 1 0 0]
theorem K21_14 : own_ck T21_14 S21 2 1 0 0 0 0 0 0 0 0 = true := by decide +kernel
def T21_15 : List OwnL.SR := [p1_ 1 0 0 0, p0_ 0 0 1 0, p1_ 0 0 0 1, p0_ 0 1 0 0]
theorem K21_15 : own_ck T21_15 S21 2 1 0 0 0 0 0 0 0 0 = true := by decide +kernel
def T21_16 : List OwnL.SR := [p1_ 1 0 0 0, p1_ 0 0 1 0, p0_ 0 0 0 1, p0_ 0 1 0 0, p0_ 0 0 (-1) 0, e0 0 0 1 0, e1 0 0 0 1]
theorem K21_16 : own_ck T21_16 S21 2 1 0 0 0 0 0 0 0 0 = true := by decide +kernel
def T21_17 : List OwnL.SR := [p1_ 1 0 0 0, p1_ 0 0 1 0, p1_ 0 0 0 1, p0_ 0 1 0 0, p0_ 0 0 (-1) 0, e0 0 0 1 0, e0 0 0 0 1, p0_ 0 0 1 (-1)]
theorem K21_17 : own_ck T21_17 S21 2 1 0 0 0 0 0 0 1 0 = true := by decide +kernel
def T21_18 : List OwnL.SR := [p1_ 1 0 0 0, p1_ 0 0 1 0, p1_ 0 0 0 1, p0_ 0 1 0 0, p0_ 0 0 (-1) 0, e0 0 0 1 0, e0 0 0 0 1, p1_ 0 0 1 (-1), p0_ 0 0 (-1) 1, p0_ 0 0 0 (-1)]
theorem K21_18 : own_ck T21_18 S21 2 1 0 0 0 0 0 0 0 1 = true := by decide +kernel
def T21_19 : List OwnL.SR := [p1_ 1 0 0 0, p0_ 0 0 1 0, p0_ 0 0 0 1, p1_ 0 1 0 0, p0_ 0 (-1) 0 0, e0 0 1 0 0, e1 0 0 0 1]
theorem K21_19 : own_ck T21_19 S21 2 1 0 0 0 0 0 0 0 0 = true := by decide +kernel
def T21_20 : List OwnL.SR := [p1_ 1 0 0 0, p0_ 0 0 1 0, p1_ 0 0 0 1, p1_ 0 1 0 0, p0_ 0 (-1) 0 0, e0 0 1 0 0, e0 0 0 0 1, p0_ 0 1 0 (-1), e0 1 0 0 0, e1 0 0 1 0, p0_ (-1) 1 0 0]
theorem K21_20 : own_ck T21_20 S21 2 1 0 1 0 0 0 0 0 0 = true := by decide +kernel
def T21_21 : List OwnL.SR := [p1_ 1 0 0 0, p1_ 0 0 1 0, p0_ 0 0 0 1, p1_ 0 1 0 0, p0_ 0 0 (-1) 0, p1_ 0 1 1 0, p0_ 0 (-1) 0 0, e0 0 1 0 0, e0 0 0 1 0, e1 0 0 0 1]
theorem K21_21 : own_ck T21_21 S21 2 1 0 0 0 0 0 0 0 0 = true := by decide +kernel
def T21_22 : List OwnL.SR := [p1_ 1 0 0 0, p1_ 0 0 1 0, p1_ 0 0 0 1, p1_ 0 1 0 0, p0_ 0 0 (-1) 0, p1_ 0 1 1 0, p0_ 0 (-1) 0 0, e0 0 1 0 0, e0 0 0 1 0, e0 0 0 0 1, p1_ 0 1 1 (-1), p0_ 0 0 (-1) 1, p0_ 0 1 0 (-1), e0 1 0 0 0, e0 0 1 1 (-1), p0_ (-1) 1 0 0]
theorem K21_22 : own_ck T21_22 S21 2 1 0 1 0 0 0 (-1) 0 1 = true := by decide +kernel
def T21_23 : List OwnL.SR := [p1_ 1 0 0 0, p1_ 0 0 1 0, p1_ 0 0 0 1, p1_ 0 1 0 0, p0_ 0 0 (-1) 0, p1_ 0 1 1 0, p0_ 0 (-1) 0 0, e0 0 1 0 0, e0 0 0 1 0, e0 0 0 0 1, p0_ 0 1 1 (-1), e0 1 0 0 0, e0 0 1 1 0, p0_ (-1) 1 0 0]
theorem K21_23 : own_ck T21_23 S21 2 1 0 1 0 0 0 0 1 0 = true := by decide +kernel
def T21_24 : List OwnL.SR := [p1_ 1 0 0 0, p0_ 0 0 1 0, p1_ 0 0 0 1, p1_ 0 1 0 0, p0_ 0 (-1) 0 0, e0 0 1 0 0, e0 0 0 0 1, p1_ 0 1 0 (-1), p0_ 0 0 0 (-1), e0 1 0 0 0, e1 0 0 1 0, p0_ (-1) 0 0 1]
theorem K21_24 : own_ck T21_24 S21 2 1 0 0 0 1 0 0 0 0 = true := by decide +kernel
def T21_25 : List OwnL.SR := [p1_ 1 0 0 0, p0_ 0 0 1 0, p1_ 0 0 0 1, p1_ 0 1 0 0, p0_ 0 (-1) 0 0, e0 0 1 0 0, e0 0 0 0 1, p0_ 0 1 0 (-1), e0 1 0 0 0, e1 0 0 1 0, p1_ (-1) 1 0 0, p0_ 1 (-1) 0 0, p0_ (-1) 0 0 0, e0 (-1) 0 0 1, p1_ (-1) 0 0 1]
theorem K21_25 : own_ck T21_25 S21 2 1 1 0 0 0 0 0 0 0 = true := by decide +kernel
def T21_26 : List OwnL.SR := [p1_ 1 0 0 0, p1_ 0 0 1 0, p1_ 0 0 0 1, p1_ 0 1 0 0, p0_ 0 0 (-1) 0, p1_ 0 1 1 0, p0_ 0 (-1) 0 0, e0 0 1 0 0, e0 0 0 1 0, e0 0 0 0 1, p1_ 0 1 1 (-1), p0_ 0 0 (-1) 1, p1_ 0 1 0 (-1), p0_ 0 0 0 (-1), e0 1 0 0 0, p0_ (-1) 0 0 1]
theorem K21_26 : own_ck T21_26 S21 2 1 0 0 0 1 0 0 0 0 = true := by decide +kernel
def T21_27 : List OwnL.SR := [p1_ 1 0 0 0, p1_ 0 0 1 0, p1_ 0 0 0 1, p1_ 0 1 0 0, p0_ 0 0 (-1) 0, p1_ 0 1 1 0, p0_ 0 (-1) 0 0, e0 0 1 0 0, e0 0 0 1 0, e0 0 0 0 1, p1_ 0 1 1 (-1), p1_ 0 0 (-1) 1, p0_ 0 1 0 (-1), e0 1 0 0 0, e0 0 1 1 (-1), p1_ (-1) 1 0 0, p0_ 1 (-1) 0 0, p0_ (-1) 0 (-1) 1, e0 (-1) 0 0 1, p1_ (-1) 0 0 1, p0_ (-1) 0 0 0]
theorem K21_27 : own_ck T21_27 S21 2 1 1 0 0 0 (-1) 0 0 1 = true := by decide +kernel
def T21_28 : List OwnL.SR := [p1_ 1 0 0 0, p1_ 0 0 1 0, p1_ 0 0 0 1, p1_ 0 1 0 0, p0_ 0 0 (-1) 0, p1_ 0 1 1 0, p0_ 0 (-1) 0 0, e0 0 1 0 0, e0 0 0 1 0, e0 0 0 0 1, p0_ 0 1 1 (-1), e0 1 0 0 0, e0 0 1 1 0, p1_ (-1) 1 0 0, p0_ 1 (-1) 0 0, p0_ (-1) 0 (-1) 0, e0 (-1) 0 (-1) 1, p1_ (-1) 0 (-1) 1, p0_ (-1) 0 0 0]
theorem K21_28 : own_ck T21_28 S21 2 1 1 0 0 0 0 0 1 0 = true := by decide +kernel
def T21_29 : List OwnL.SR := [p1_ 1 0 0 0, p1_ 0 0 1 0, p1_ 0 0 0 1, p1_ 0 1 0 0, p0_ 0 0 (-1) 0, p1_ 0 1 1 0, p0_ 0 (-1) 0 0, e0 0 1 0 0, e0 0 0 1 0, e0 0 0 0 1, p1_ 0 1 1 (-1), p0_ 0 0 (-1) 1, p0_ 0 1 0 (-1), e0 1 0 0 0, e0 0 1 1 (-1), p1_ (-1) 1 0 0, p0_ 1 (-1) 0 0, p0_ (-1) 0 (-1) 1, e0 (-1) 0 0 1, p1_ (-1) 0 0 1, p0_ (-1) 0 0 0]
theorem K21_29 : own_ck T21_29 S21 2 1 1 0 0 0 (-1) 0 0 1 = true := by decide +kernel
def T21_30 : List OwnL.SR := [p1_ 1 0 0 0, p0_ 0 0 1 0, p1_ 0 0 0 1, p1_ 0 1 0 0, p0_ 0 (-1) 0 0, e0 0 1 0 0, e0 0 0 0 1, p1_ 0 1 0 (-1), p0_ 0 0 0 (-1), e0 1 0 0 0, e1 0 0 1 0, p1_ (-1) 0 0 1, p0_ 1 0 0 (-1), p0_ (-1) 0 0 0]
theorem K21_30 : own_ck T21_30 S21 2 1 1 0 0 0 0 0 0 0 = true := by decide +kernel
def T21_31 : List OwnL.SR := [p1_ 1 0 0 0, p1_ 0 0 1 0, p1_ 0 0 0 1, p1_ 0 1 0 0, p0_ 0 0 (-1) 0, p1_ 0 1 1 0, p0_ 0 (-1) 0 0, e0 0 1 0 0, e0 0 0 1 0, e0 0 0 0 1, p1_ 0 1 1 (-1), p1_ 0 0 (-1) 1, p1_ 0 1 0 (-1), p0_ 0 0 0 (-1), e0 1 0 0 0, p1_ (-1) 0 0 1, p0_ 1 0 0 (-1), p0_ (-1) 0 (-1) 1, p0_ (-1) 0 0 0]
theorem K21_31 : own_ck T21_31 S21 2 1 1 0 0 0 (-1) 0 0 1 = true := by decide +kernel
def T21_32 : List OwnL.SR := [p1_ 1 0 0 0, p1_ 0 0 1 0, p1_ 0 0 0 1, p1_ 0 1 0 0, p0_ 0 0 (-1) 0, p1_ 0 1 1 0, p0_ 0 (-1) 0 0, e0 0 1 0 0, e0 0 0 1 0, e0 0 0 0 1, p1_ 0 1 1 (-1), p1_ 0 0 (-1) 1, p0_ 0 1 0 (-1), e0 1 0 0 0, e0 0 1 1 (-1), p1_ (-1) 1 0 0, p0_ 1 (-1) 0 0, p1_ (-1) 0 (-1) 1, p0_ (-1) 0 (-1) 0, e0 (-1) 0 (-1) 1, p0_ 0 0 1 (-1), p0_ 1 0 1 (-1), e0 0 0 (-1) 1, p0_ (-1) 0 0 0]
theorem K21_32 : own_ck T21_32 S21 2 1 1 0 0 0 0 0 1 0 = true := by decide +kernel
def T21_33 : List OwnL.SR := [p1_ 1 0 0 0, p1_ 0 0 1 0, p1_ 0 0 0 1, p1_ 0 1 0 0, p0_ 0 0 (-1) 0, p1_ 0 1 1 0, p0_ 0 (-1) 0 0, e0 0 1 0 0, e0 0 0 1 0, e0 0 0 0 1, p1_ 0 1 1 (-1), p0_ 0 0 (-1) 1, p1_ 0 1 0 (-1), p0_ 0 0 0 (-1), e0 1 0 0 0, p1_ (-1) 0 0 1, p0_ 1 0 0 (-1), p0_ (-1) 0 (-1) 1, p0_ (-1) 0 0 0]
theorem K21_33 : own_ck T21_33 S21 2 1 1 0 0 0 (-1) 0 0 1 = true := by decide +kernel
def T21_34 : List OwnL.SR := [p1_ 1 0 0 0, p1_ 0 0 1 0, p1_ 0 0 0 1, p1_ 0 1 0 0, p0_ 0 0 (-1) 0, p1_ 0 1 1 0, p0_ 0 (-1) 0 0, e0 0 1 0 0, e0 0 0 1 0, e0 0 0 0 1, p1_ 0 1 1 (-1), p1_ 0 0 (-1) 1, p1_ 0 1 0 (-1), p0_ 0 0 0 (-1), e0 1 0 0 0, p1_ (-1) 0 0 1, p0_ 1 0 0 (-1), p1_ (-1) 0 (-1) 1, p0_ (-1) 0 (-1) 0, p0_ (-1) 0 0 0]
theorem K21_34 : own_ck T21_34 S21 2 1 1 0 0 0 0 0 1 0 = true := by decide +kernel
def T21_35 : List OwnL.SR := [p1_ 1 0 0 0, p1_ 0 0 1 0, p1_ 0 0 0 1, p1_ 0 1 0 0, p0_ 0 0 (-1) 0, p1_ 0 1 1 0, p0_ 0 (-1) 0 0, e0 0 1 0 0, e0 0 0 1 0, e0 0 0 0 1, p1_ 0 1 1 (-1), p1_ 0 0 (-1) 1, p0_ 0 1 0 (-1), e0 1 0 0 0, e0 0 1 1 (-1), p0_ (-1) 1 0 0]
theorem K21_35 : own_ck T21_35 S21 2 1 0 1 0 0 0 (-1) 0 1 = true := by decide +kernel
def T21_36 : List OwnL.SR := [p1_ 1 0 0 0, p1_ 0 0 1 0, p1_ 0 0 0 1, p1_ 0 1 0 0, p0_ 0 0 (-1) 0, p1_ 0 1 1 0, p0_ 0 (-1) 0 0, e0 0 1 0 0, e0 0 0 1 0, e0 0 0 0 1, p1_ 0 1 1 (-1), p1_ 0 0 (-1) 1, p1_ 0 1 0 (-1), p0_ 0 0 0 (-1), e0 1 0 0 0, p0_ (-1) 0 0 1]
theorem K21_36 : own_ck T21_36 S21 2 1 0 0 0 1 0 0 0 0 = true := by decide +kernel
theorem c_run21 (l : Launch) {Z : State} {a0 : Array Value} (hw : HW1 Z a0) (n0 : Nat) {ν : OwnL.Va} (hB : own_bx ν) : Met l Z KT n0 y11 b11 4 none ({ frames := 4, cells := 0, slots := 0, locals := 100 } : Room) #[.ref (n0 + 6)] (own_h23.map (upO n0 ν)) (own_Q n0 ν (own_P (-(2 : Nat)) (-(1 : Nat))) 2 1) := by
  have hN := own_bxok hB
  obtain ⟨⟨_, _⟩, ⟨_, _⟩, ⟨_, _⟩, ⟨_, _⟩⟩ := id hB
  by_cases t0 : 0 < (0 : Int) + (1) * ν.a
  · by_cases t1 : 0 < (0 : Int) + (1) * ν.c
    · by_cases t2 : 0 < (0 : Int) + (1) * ν.p
      · by_cases t3 : 0 < (0 : Int) + (1) * ν.b
        · by_cases t10 : 0 < (0 : Int) + (1) * ν.b + (1) * ν.c + (-1) * ν.p
          · by_cases t11 : 0 < (0 : Int) + (-1) * ν.c + (1) * ν.p
            · by_cases t12 : 0 < (0 : Int) + (1) * ν.b + (-1) * ν.p
              · by_cases t15 : 0 < (0 : Int) + (-1) * ν.a + (1) * ν.p
                · by_cases t17 : 0 < (0 : Int) + (-1) * ν.a + (-1) * ν.c + (1) * ν.p
                  · exact own_leaf (T := T21_34) l hw n0 hN (by simp only [T21_34, Sg, e1, e0, p1_, p0_, SgR, ev_eq, if_true, Bool.false_eq_true, if_false, and_true]; omega) K21_34 (own_sg (by simp only [ev_eq]; omega))
                  · exact own_leaf (T := T21_31) l hw n0 hN (by simp only [T21_31, Sg, e1, e0, p1_, p0_, SgR, ev_eq, if_true, Bool.false_eq_true, if_false, and_true]; omega) K21_31 (own_sg (by simp only [ev_eq]; omega))
                · exact own_leaf (T := T21_36) l hw n0 hN (by simp only [T21_36, Sg, e1, e0, p1_, p0_, SgR, ev_eq, if_true, Bool.false_eq_true, if_false, and_true]; omega) K21_36 (own_sg (by simp only [ev_eq]; omega))
              · by_cases t15 : 0 < (0 : Int) + (-1) * ν.a + (1) * ν.b
                · by_cases t17 : 0 < (0 : Int) + (-1) * ν.a + (-1) * ν.c + (1) * ν.p
                  · exact own_leaf (T := T21_32) l hw n0 hN (by simp only [T21_32, Sg, e1, e0, p1_, p0_, SgR, ev_eq, if_true, Bool.false_eq_true, if_false, and_true]; omega) K21_32 (own_sg (by simp only [ev_eq]; omega))
                  · exact own_leaf (T := T21_27) l hw n0 hN (by simp only [T21_27, Sg, e1, e0, p1_, p0_, SgR, ev_eq, if_true, Bool.false_eq_true, if_false, and_true]; omega) K21_27 (own_sg (by simp only [ev_eq]; omega))
                · exact own_leaf (T := T21_35) l hw n0 hN (by simp only [T21_35, Sg, e1, e0, p1_, p0_, SgR, ev_eq, if_true, Bool.false_eq_true, if_false, and_true]; omega) K21_35 (own_sg (by simp only [ev_eq]; omega))
            · by_cases t12 : 0 < (0 : Int) + (1) * ν.b + (-1) * ν.p
              · by_cases t15 : 0 < (0 : Int) + (-1) * ν.a + (1) * ν.p
                · exact own_leaf (T := T21_33) l hw n0 hN (by simp only [T21_33, Sg, e1, e0, p1_, p0_, SgR, ev_eq, if_true, Bool.false_eq_true, if_false, and_true]; omega) K21_33 (own_sg (by simp only [ev_eq]; omega))
                · exact own_leaf (T := T21_26) l hw n0 hN (by simp only [T21_26, Sg, e1, e0, p1_, p0_, SgR, ev_eq, if_true, Bool.false_eq_true, if_false, and_true]; omega) K21_26 (own_sg (by simp only [ev_eq]; omega))
              · by_cases t15 : 0 < (0 : Int) + (-1) * ν.a + (1) * ν.b
                · exact own_leaf (T := T21_29) l hw n0 hN (by simp only [T21_29, Sg, e1, e0, p1_, p0_, SgR, ev_eq, if_true, Bool.false_eq_true, if_false, and_true]; omega) K21_29 (own_sg (by simp only [ev_eq]; omega))
                · exact own_leaf (T := T21_22) l hw n0 hN (by simp only [T21_22, Sg, e1, e0, p1_, p0_, SgR, ev_eq, if_true, Bool.false_eq_true, if_false, and_true]; omega) K21_22 (own_sg (by simp only [ev_eq]; omega))
          · by_cases t13 : 0 < (0 : Int) + (-1) * ν.a + (1) * ν.b
            · exact own_leaf (T := T21_28) l hw n0 hN (by simp only [T21_28, Sg, e1, e0, p1_, p0_, SgR, ev_eq, if_true, Bool.false_eq_true, if_false, and_true]; omega) K21_28 (own_sg (by simp only [ev_eq]; omega))
            · exact own_leaf (T := T21_23) l hw n0 hN (by simp only [T21_23, Sg, e1, e0, p1_, p0_, SgR, ev_eq, if_true, Bool.false_eq_true, if_false, and_true]; omega) K21_23 (own_sg (by simp only [ev_eq]; omega))
        · by_cases t7 : 0 < (0 : Int) + (1) * ν.c + (-1) * ν.p
          · exact own_leaf (T := T21_18) l hw n0 hN (by simp only [T21_18, Sg, e1, e0, p1_, p0_, SgR, ev_eq, if_true, Bool.false_eq_true, if_false, and_true]; omega) K21_18 (own_sg (by simp only [ev_eq]; omega))
          · exact own_leaf (T := T21_17) l hw n0 hN (by simp only [T21_17, Sg, e1, e0, p1_, p0_, SgR, ev_eq, if_true, Bool.false_eq_true, if_false, and_true]; omega) K21_17 (own_sg (by simp only [ev_eq]; omega))
      · by_cases t3 : 0 < (0 : Int) + (1) * ν.b
        · exact own_leaf (T := T21_21) l hw n0 hN (by simp only [T21_21, Sg, e1, e0, p1_, p0_, SgR, ev_eq, if_true, Bool.false_eq_true, if_false, and_true]; omega) K21_21 (own_sg (by simp only [ev_eq]; omega))
        · exact own_leaf (T := T21_16) l hw n0 hN (by simp only [T21_16, Sg, e1, e0, p1_, p0_, SgR, ev_eq, if_true, Bool.false_eq_true, if_false, and_true]; omega) K21_16 (own_sg (by simp only [ev_eq]; omega))
    · by_cases t2 : 0 < (0 : Int) + (1) * ν.p
      · by_cases t3 : 0 < (0 : Int) + (1) * ν.b
        · by_cases t7 : 0 < (0 : Int) + (1) * ν.b + (-1) * ν.p
          · by_cases t11 : 0 < (0 : Int) + (-1) * ν.a + (1) * ν.p
            · exact own_leaf (T := T21_30) l hw n0 hN (by simp only [T21_30, Sg, e1, e0, p1_, p0_, SgR, ev_eq, if_true, Bool.false_eq_true, if_false, and_true]; omega) K21_30 (own_sg (by simp only [ev_eq]; omega))
            · exact own_leaf (T := T21_24) l hw n0 hN (by simp only [T21_24, Sg, e1, e0, p1_, p0_, SgR, ev_eq, if_true, Bool.false_eq_true, if_false, and_true]; omega) K21_24 (own_sg (by simp only [ev_eq]; omega))
          · by_cases t10 : 0 < (0 : Int) + (-1) * ν.a + (1) * ν.b
            · exact own_leaf (T := T21_25) l hw n0 hN (by simp only [T21_25, Sg, e1, e0, p1_, p0_, SgR, ev_eq, if_true, Bool.false_eq_true, if_false, and_true]; omega) K21_25 (own_sg (by simp only [ev_eq]; omega))
            · exact own_leaf (T := T21_20) l hw n0 hN (by simp only [T21_20, Sg, e1, e0, p1_, p0_, SgR, ev_eq, if_true, Bool.false_eq_true, if_false, and_true]; omega) K21_20 (own_sg (by simp only [ev_eq]; omega))
        · exact own_leaf (T := T21_15) l hw n0 hN (by simp only [T21_15, Sg, e1, e0, p1_, p0_, SgR, ev_eq, if_true, Bool.false_eq_true, if_false, and_true]; omega) K21_15 (own_sg (by simp only [ev_eq]; omega))
      · by_cases t3 : 0 < (0 : Int) + (1) * ν.b
        · exact own_leaf (T := T21_19) l hw n0 hN (by simp only [T21_19, Sg, e1, e0, p1_, p0_, SgR, ev_eq, if_true, Bool.false_eq_true, if_false, and_true]; omega) K21_19 (own_sg (by simp only [ev_eq]; omega))
        · exact own_leaf (T := T21_14) l hw n0 hN (by simp only [T21_14, Sg, e1, e0, p1_, p0_, SgR, ev_eq, if_true, Bool.false_eq_true, if_false, and_true]; omega) K21_14 (own_sg (by simp only [ev_eq]; omega))
  · by_cases t1 : 0 < (0 : Int) + (1) * ν.c
    · by_cases t2 : 0 < (0 : Int) + (1) * ν.p
      · by_cases t3 : 0 < (0 : Int) + (1) * ν.b
        · by_cases t10 : 0 < (0 : Int) + (1) * ν.b + (1) * ν.c + (-1) * ν.p
          · by_cases t11 : 0 < (0 : Int) + (-1) * ν.c + (1) * ν.p
            · by_cases t12 : 0 < (0 : Int) + (1) * ν.b + (-1) * ν.p
              · exact own_leaf (T := T21_13) l hw n0 hN (by simp only [T21_13, Sg, e1, e0, p1_, p0_, SgR, ev_eq, if_true, Bool.false_eq_true, if_false, and_true]; omega) K21_13 (own_sg (by simp only [ev_eq]; omega))
              · exact own_leaf (T := T21_12) l hw n0 hN (by simp only [T21_12, Sg, e1, e0, p1_, p0_, SgR, ev_eq, if_true, Bool.false_eq_true, if_false, and_true]; omega) K21_12 (own_sg (by simp only [ev_eq]; omega))
            · by_cases t12 : 0 < (0 : Int) + (1) * ν.b + (-1) * ν.p
              · exact own_leaf (T := T21_11) l hw n0 hN (by simp only [T21_11, Sg, e1, e0, p1_, p0_, SgR, ev_eq, if_true, Bool.false_eq_true, if_false, and_true]; omega) K21_11 (own_sg (by simp only [ev_eq]; omega))
              · exact own_leaf (T := T21_8) l hw n0 hN (by simp only [T21_8, Sg, e1, e0, p1_, p0_, SgR, ev_eq, if_true, Bool.false_eq_true, if_false, and_true]; omega) K21_8 (own_sg (by simp only [ev_eq]; omega))
          · exact own_leaf (T := T21_9) l hw n0 hN (by simp only [T21_9, Sg, e1, e0, p1_, p0_, SgR, ev_eq, if_true, Bool.false_eq_true, if_false, and_true]; omega) K21_9 (own_sg (by simp only [ev_eq]; omega))
        · by_cases t7 : 0 < (0 : Int) + (1) * ν.c + (-1) * ν.p
          · exact own_leaf (T := T21_4) l hw n0 hN (by simp only [T21_4, Sg, e1, e0, p1_, p0_, SgR, ev_eq, if_true, Bool.false_eq_true, if_false, and_true]; omega) K21_4 (own_sg (by simp only [ev_eq]; omega))
          · exact own_leaf (T := T21_3) l hw n0 hN (by simp only [T21_3, Sg, e1, e0, p1_, p0_, SgR, ev_eq, if_true, Bool.false_eq_true, if_false, and_true]; omega) K21_3 (own_sg (by simp only [ev_eq]; omega))
      · by_cases t3 : 0 < (0 : Int) + (1) * ν.b
        · exact own_leaf (T := T21_7) l hw n0 hN (by simp only [T21_7, Sg, e1, e0, p1_, p0_, SgR, ev_eq, if_true, Bool.false_eq_true, if_false, and_true]; omega) K21_7 (own_sg (by simp only [ev_eq]; omega))
        · exact own_leaf (T := T21_2) l hw n0 hN (by simp only [T21_2, Sg, e1, e0, p1_, p0_, SgR, ev_eq, if_true, Bool.false_eq_true, if_false, and_true]; omega) K21_2 (own_sg (by simp only [ev_eq]; omega))
    · by_cases t2 : 0 < (0 : Int) + (1) * ν.p
      · by_cases t3 : 0 < (0 : Int) + (1) * ν.b
        · by_cases t7 : 0 < (0 : Int) + (1) * ν.b + (-1) * ν.p
          · exact own_leaf (T := T21_10) l hw n0 hN (by simp only [T21_10, Sg, e1, e0, p1_, p0_, SgR, ev_eq, if_true, Bool.false_eq_true, if_false, and_true]; omega) K21_10 (own_sg (by simp only [ev_eq]; omega))
          · exact own_leaf (T := T21_6) l hw n0 hN (by simp only [T21_6, Sg, e1, e0, p1_, p0_, SgR, ev_eq, if_true, Bool.false_eq_true, if_false, and_true]; omega) K21_6 (own_sg (by simp only [ev_eq]; omega))
        · exact own_leaf (T := T21_1) l hw n0 hN (by simp only [T21_1, Sg, e1, e0, p1_, p0_, SgR, ev_eq, if_true, Bool.false_eq_true, if_false, and_true]; omega) K21_1 (own_sg (by simp only [ev_eq]; omega))
      · by_cases t3 : 0 < (0 : Int) + (1) * ν.b
        · exact own_leaf (T := T21_5) l hw n0 hN (by simp only [T21_5, Sg, e1, e0, p1_, p0_, SgR, ev_eq, if_true, Bool.false_eq_true, if_false, and_true]; omega) K21_5 (own_sg (by simp only [ev_eq]; omega))
        · exact own_leaf (T := T21_0) l hw n0 hN (by simp only [T21_0, Sg, e1, e0, p1_, p0_, SgR, ev_eq, if_true, Bool.false_eq_true, if_false, and_true]; omega) K21_0 (own_sg (by simp only [ev_eq]; omega))
def T22_0 : List OwnL.SR := [p0_ 1 0 0 0, p0_ 0 0 1 0, p0_ 0 0 0 1, p0_ 0 1 0 0]
theorem K22_0 : own_ck T22_0 S22 2 2 0 0 0 0 0 0 0 0 = true := by decide +kernel
def T22_1 : List OwnL.SR := [p0_ 1 0 0 0, p0_ 0 0 1 0, p1_ 0 0 0 1, p0_ 0 1 0 0]
theorem K22_1 : own_ck T22_1 S22 2 2 0 0 0 0 0 0 0 0 = true := by decide +kernel
def T22_2 : List OwnL.SR := [p0_ 1 0 0 0, p1_ 0 0 1 0, p0_ 0 0 0 1, p0_ 0 1 0 0, p0_ 0 0 (-1) 0, e0 0 0 1 0, e1 0 0 0 1]
theorem K22_2 : own_ck T22_2 S22 2 2 0 0 0 0 0 0 0 0 = true := by decide +kernel
def T22_3 : List OwnL.SR := [p0_ 1 0 0 0, p1_ 0 0 1 0, p1_ 0 0 0 1, p0_ 0 1 0 0, p0_ 0 0 (-1) 0, e0 0 0 1 0, e0 0 0 0 1, p0_ 0 0 1 (-1)]
theorem K22_3 : own_ck T22_3 S22 2 2 0 0 0 0 0 0 1 0 = true := by decide +kernel
def T22_4 : List OwnL.SR := [p0_ 1 0 0 0, p1_ 0 0 1 0, p1_ 0 0 0 1, p0_ 0 1 0 0, p0_ 0 0 (-1) 0, e0 0 0 1 0, e0 0 0 0 1, p1_ 0 0 1 (-1), p0_ 0 0 (-1) 1, p0_ 0 0 0 (-1)]
theorem K22_4 : own_ck T22_4 S22 2 2 0 0 0 0 0 0 0 1 = true := by decide +kernel
def T22_5 : List OwnL.SR := [p0_ 1 0 0 0, p0_ 0 0 1 0, p0_ 0 0 0 1, p1_ 0 1 0 0, p0_ 0 (-1) 0 0, e0 0 1 0 0, e1 0 0 0 1]
theorem K22_5 : own_ck T22_5 S22 2 2 0 0 0 0 0 0 0 0 = true := by decide +kernel
def T22_6 : List OwnL.SR := [p0_ 1 0 0 0, p0_ 0 0 1 0, p1_ 0 0 0 1, p1_ 0 1 0 0, p0_ 0 (-1) 0 0, e0 0 1 0 0, e0 0 0 0 1, p0_ 0 1 0 (-1), e1 1 0 0 0, e1 0 0 1 0]
theorem K22_6 : own_ck T22_6 S22 2 2 0 0 0 0 0 0 0 0 = true := by decide +kernel
def T22_7 : List OwnL.SR := [p0_ 1 0 0 0, p1_ 0 0 1 0, p0_ 0 0 0 1, p1_ 0 1 0 0, p0_ 0 0 (-1) 0, p1_ 0 1 1 0, p0_ 0 (-1) 0 0, e0 0 1 0 0, e0 0 0 1 0, e1 0 0 0 1]
theorem K22_7 : own_ck T22_7 S22 2 2 0 0 0 0 0 0 0 0 = true := by decide +kernel
def T22_8 : List OwnL.SR := [p0_ 1 0 0 0, p1_ 0 0 1 0, p1_ 0 0 0 1, p1_ 0 1 0 0, p0_ 0 0 (-1) 0, p1_ 0 1 1 0, p0_ 0 (-1) 0 0, e0 0 1 0 0, e0 0 0 1 0, e0 0 0 0 1, p1_ 0 1 1 (-1), p0_ 0 0 (-1) 1, p0_ 0 0 1 (-1)]
theorem K22_8 : own_ck T22_8 S22 2 2 0 0 (-1) 1 0 0 1 0 = true := by decide +kernel
def T22_9 : List OwnL.SR := [p0_ 1 0 0 0, p1_ 0 0 1 0, p1_ 0 0 0 1, p1_ 0 1 0 0, p0_ 0 0 (-1) 0, p1_ 0 1 1 0, p0_ 0 (-1) 0 0, e0 0 1 0 0, e0 0 0 1 0, e0 0 0 0 1, p0_ 0 1 1 (-1), e1 1 0 0 0, e0 0 1 1 0, e0 0 0 (-1) 1, p1_ 0 0 (-1) 1]
theorem K22_9 : own_ck T22_9 S22 2 2 0 0 0 0 0 0 1 0 = true := by decide +kernel
def T22_10 : List OwnL.SR := [p0_ 1 0 0 0, p1_ 0 0 1 0, p1_ 0 0 0 1, p1_ 0 1 0 0, p0_ 0 0 (-1) 0, p1_ 0 1 1 0, p0_ 0 (-1) 0 0, e0 0 1 0 0, e0 0 0 1 0, e0 0 0 0 1, p1_ 0 1 1 (-1), p0_ 0 0 (-1) 1, p1_ 0 0 1 (-1), p0_ 0 0 0 (-1)]
theorem K22_10 : own_ck T22_10 S22 2 2 0 0 0 0 0 0 0 1 = true := by decide +kernel
def T22_11 : List OwnL.SR := [p0_ 1 0 0 0, p0_ 0 0 1 0, p1_ 0 0 0 1, p1_ 0 1 0 0, p0_ 0 (-1) 0 0, e0 0 1 0 0, e0 0 0 0 1, p1_ 0 1 0 (-1), p0_ 0 0 0 (-1), e1 1 0 0 0, e1 0 0 1 0]
theorem K22_11 : own_ck T22_11 S22 2 2 0 0 0 0 0 0 0 0 = true := by decide +kernel
def T22_12 : List OwnL.SR := [p0_ 1 0 0 0, p1_ 0 0 1 0, p1_ 0 0 0 1, p1_ 0 1 0 0, p0_ 0 0 (-1) 0, p1_ 0 1 1 0, p0_ 0 (-1) 0 0, e0 0 1 0 0, e0 0 0 1 0, e0 0 0 0 1, p1_ 0 1 1 (-1), p1_ 0 0 (-1) 1, p0_ 0 0 1 (-1), e1 1 0 0 0, e0 0 0 (-1) 1]
theorem K22_12 : own_ck T22_12 S22 2 2 0 0 0 0 0 0 1 0 = true := by decide +kernel
def T22_13 : List OwnL.SR := [p1_ 1 0 0 0, p0_ 0 0 1 0, p0_ 0 0 0 1, p0_ 0 1 0 0]
theorem K22_13 : own_ck T22_13 S22 2 2 0 0 0 0 0 0 0 0 = true := by decide +kernel
def T22_14 : List OwnL.SR := [p1_ 1 0 0 0, p0_ 0 0 1 0, p1_ 0 0 0 1, p0_ 0 1 0 0]
theorem K22_14 : own_ck T22_14 S22 2 2 0 0 0 0 0 0 0 0 = true := by decide +kernel
def T22_15 : List OwnL.SR := [p1_ 1 0 0 0, p1_ 0 0 1 0, p0_ 0 0 0 1, p0_ 0 1 0 0, p0_ 0 0 (-1) 0, e0 0 0 1 0, e1 0 0 0 1]
theorem K22_15 : own_ck T22_15 S22 2 2 0 0 0 0 0 0 0 0 = true := by decide +kernel
def T22_16 : List OwnL.SR := [p1_ 1 0 0 0, p1_ 0 0 1 0, p1_ 0 0 0 1, p0_ 0 1 0 0, p0_ 0 0 (-1) 0, e0 0 0 1 0, e0 0 0 0 1, p0_ 0 0 1 (-1)]
theorem K22_16 : own_ck T22_16 S22 2 2 0 0 0 0 0 0 1 0 = true := by decide +kernel
def T22_17 : List OwnL.SR := [p1_ 1 0 0 0, p1_ 0 0 1 0, p1_ 0 0 0 1, p0_ 0 1 0 0, p0_ 0 0 (-1) 0, e0 0 0 1 0, e0 0 0 0 1, p1_ 0 0 1 (-1), p0_ 0 0 (-1) 1, p0_ 0 0 0 (-1)]
theorem K22_17 : own_ck T22_17 S22 2 2 0 0 0 0 0 0 0 1 = true := by decide +kernel
def T22_18 : List OwnL.SR := [p1_ 1 0 0 0, p0_ 0 0 1 0, p0_ 0 0 0 1, p1_ 0 1 0 0, p0_ 0 (-1) 0 0, e0 0 1 0 0, e1 0 0 0 1]
theorem K22_18 : own_ck T22_18 S22 2 2 0 0 0 0 0 0 0 0 = true := by decide +kernel
def T22_19 : List OwnL.SR := [p1_ 1 0 0 0, p0_ 0 0 1 0, p1_ 0 0 0 1, p1_ 0 1 0 0, p0_ 0 (-1) 0 0, e0 0 1 0 0, e0 0 0 0 1, p0_ 0 1 0 (-1), e0 1 0 0 0, e1 0 0 1 0, p0_ (-1) 1 0 0]
theorem K22_19 : own_ck T22_19 S22 2 2 0 1 0 0 0 0 0 0 = true := by decide +kernel
def T22_20 : List OwnL.SR := [p1_ 1 0 0 0, p1_ 0 0 1 0, p0_ 0 0 0 1, p1_ 0 1 0 0, p0_ 0 0 (-1) 0, p1_ 0 1 1 0, p0_ 0 (-1) 0 0, e0 0 1 0 0, e0 0 0 1 0, e1 0 0 0 1]
theorem K22_20 : own_ck T22_20 S22 2 2 0 0 0 0 0 0 0 0 = true := by decide +kernel
def T22_21 : List OwnL.SR := [p1_ 1 0 0 0, p1_ 0 0 1 0, p1_ 0 0 0 1, p1_ 0 1 0 0, p0_ 0 0 (-1) 0, p1_ 0 1 1 0, p0_ 0 (-1) 0 0, e0 0 1 0 0, e0 0 0 1 0, e0 0 0 0 1, p1_ 0 1 1 (-1), p0_ 0 0 (-1) 1, p0_ 0 0 1 (-1)]
theorem K22_21 : own_ck T22_21 S22 2 2 0 0 (-1) 1 0 0 1 0 = true := by decide +kernel
def T22_22 : List OwnL.SR := [p1_ 1 0 0 0, p1_ 0 0 1 0, p1_ 0 0 0 1, p1_ 0 1 0 0, p0_ 0 0 (-1) 0, p1_ 0 1 1 0, p0_ 0 (-1) 0 0, e0 0 1 0 0, e0 0 0 1 0, e0 0 0 0 1, p0_ 0 1 1 (-1), e0 1 0 0 0, e0 0 1 1 0, p0_ (-1) 1 0 0]
theorem K22_22 : own_ck T22_22 S22 2 2 0 1 0 0 0 0 1 0 = true := by decide +kernel
def T22_23 : List OwnL.SR := [p1_ 1 0 0 0, p1_ 0 0 1 0, p1_ 0 0 0 1, p1_ 0 1 0 0, p0_ 0 0 (-1) 0, p1_ 0 1 1 0, p0_ 0 (-1) 0 0, e0 0 1 0 0, e0 0 0 1 0, e0 0 0 0 1, p1_ 0 1 1 (-1), p0_ 0 0 (-1) 1, p1_ 0 0 1 (-1), p0_ 0 0 0 (-1)]
theorem K22_23 : own_ck T22_23 S22 2 2 0 0 0 0 0 0 0 1 = true := by decide +kernel
def T22_24 : List OwnL.SR := [p1_ 1 0 0 0, p0_ 0 0 1 0, p1_ 0 0 0 1, p1_ 0 1 0 0, p0_ 0 (-1) 0 0, e0 0 1 0 0, e0 0 0 0 1, p1_ 0 1 0 (-1), p0_ 0 0 0 (-1), e0 1 0 0 0, e1 0 0 1 0, p0_ (-1) 0 0 1]
theorem K22_24 : own_ck T22_24 S22 2 2 0 0 0 1 0 0 0 0 = true := by decide +kernel
def T22_25 : List OwnL.SR := [p1_ 1 0 0 0, p0_ 0 0 1 0, p1_ 0 0 0 1, p1_ 0 1 0 0, p0_ 0 (-1) 0 0, e0 0 1 0 0, e0 0 0 0 1, p0_ 0 1 0 (-1), e0 1 0 0 0, e1 0 0 1 0, p1_ (-1) 1 0 0, p0_ 1 (-1) 0 0, p0_ (-1) 0 0 0, e0 (-1) 0 0 1, p1_ (-1) 0 0 1]
theorem K22_25 : own_ck T22_25 S22 2 2 1 0 0 0 0 0 0 0 = true := by decide +kernel
def T22_26 : List OwnL.SR := [p1_ 1 0 0 0, p1_ 0 0 1 0, p1_ 0 0 0 1, p1_ 0 1 0 0, p0_ 0 0 (-1) 0, p1_ 0 1 1 0, p0_ 0 (-1) 0 0, e0 0 1 0 0, e0 0 0 1 0, e0 0 0 0 1, p1_ 0 1 1 (-1), p1_ 0 0 (-1) 1, p0_ 0 0 1 (-1), e0 1 0 0 0, p0_ (-1) 0 (-1) 1]
theorem K22_26 : own_ck T22_26 S22 2 2 0 0 (-1) 1 0 0 1 0 = true := by decide +kernel
def T22_27 : List OwnL.SR := [p1_ 1 0 0 0, p1_ 0 0 1 0, p1_ 0 0 0 1, p1_ 0 1 0 0, p0_ 0 0 (-1) 0, p1_ 0 1 1 0, p0_ 0 (-1) 0 0, e0 0 1 0 0, e0 0 0 1 0, e0 0 0 0 1, p0_ 0 1 1 (-1), e0 1 0 0 0, e0 0 1 1 0, p1_ (-1) 1 0 0, p0_ 1 (-1) 0 0, p0_ (-1) 0 (-1) 0, e0 (-1) 0 (-1) 1, p1_ (-1) 0 (-1) 1, p0_ (-1) 0 0 0]
theorem K22_27 : own_ck T22_27 S22 2 2 1 0 0 0 0 0 1 0 = true := by decide +kernel
def T22_28 : List OwnL.SR := [p1_ 1 0 0 0, p0_ 0 0 1 0, p1_ 0 0 0 1, p1_ 0 1 0 0, p0_ 0 (-1) 0 0, e0 0 1 0 0, e0 0 0 0 1, p1_ 0 1 0 (-1), p0_ 0 0 0 (-1), e0 1 0 0 0, e1 0 0 1 0, p1_ (-1) 0 0 1, p0_ 1 0 0 (-1), p0_ (-1) 0 0 0]
theorem K22_28 : own_ck T22_28 S22 2 2 1 0 0 0 0 0 0 0 = true := by decide +kernel
def T22_29 : List OwnL.SR := [p1_ 1 0 0 0, p1_ 0 0 1 0, p1_ 0 0 0 1, p1_ 0 1 0 0, p0_ 0 0 (-1) 0, p1_ 0 1 1 0, p0_ 0 (-1) 0 0, e0 0 1 0 0, e0 0 0 1 0, e0 0 0 0 1, p1_ 0 1 1 (-1), p1_ 0 0 (-1) 1, p0_ 0 0 1 (-1), e0 1 0 0 0, p1_ (-1) 0 (-1) 1, p0_ 1 0 1 (-1), p0_ (-1) 0 (-1) 0, e0 0 0 (-1) 1, p0_ (-1) 0 0 0]
theorem K22_29 : own_ck T22_29 S22 2 2 1 0 0 0 0 0 1 0 = true := by decide +kernel
theorem c_run22 (l : Launch) {Z : State} {a0 : Array Value} (hw : HW1 Z a0) (n0 : Nat) {ν : OwnL.Va} (hB : own_bx ν) : Met l Z KT n0 y11 b11 4 none ({ frames := 4, cells := 0, slots := 0, locals := 100 } : Room) #[.ref (n0 + 6)] (own_h27.map (upO n0 ν)) (own_Q n0 ν (own_P (-(2 : Nat)) (-(2 : Nat))) 2 2) := by
  have hN := own_bxok hB
  obtain ⟨⟨_, _⟩, ⟨_, _⟩, ⟨_, _⟩, ⟨_, _⟩⟩ := id hB
  by_cases t0 : 0 < (0 : Int) + (1) * ν.a
  · by_cases t1 : 0 < (0 : Int) + (1) * ν.c
    · by_cases t2 : 0 < (0 : Int) + (1) * ν.p
      · by_cases t3 : 0 < (0 : Int) + (1) * ν.b
        · by_cases t10 : 0 < (0 : Int) + (1) * ν.b + (1) * ν.c + (-1) * ν.p
          · by_cases t11 : 0 < (0 : Int) + (-1) * ν.c + (1) * ν.p
            · by_cases t14 : 0 < (0 : Int) + (-1) * ν.a + (-1) * ν.c + (1) * ν.p
              · exact own_leaf (T := T22_29) l hw n0 hN (by simp only [T22_29, Sg, e1, e0, p1_, p0_, SgR, ev_eq, if_true, Bool.false_eq_true, if_false, and_true]; omega) K22_29 (own_se (by simp only [ev_eq]; omega))
              · exact own_leaf (T := T22_26) l hw n0 hN (by simp only [T22_26, Sg, e1, e0, p1_, p0_, SgR, ev_eq, if_true, Bool.false_eq_true, if_false, and_true]; omega) K22_26 (own_se (by simp only [ev_eq]; omega))
            · by_cases t12 : 0 < (0 : Int) + (1) * ν.c + (-1) * ν.p
              · exact own_leaf (T := T22_23) l hw n0 hN (by simp only [T22_23, Sg, e1, e0, p1_, p0_, SgR, ev_eq, if_true, Bool.false_eq_true, if_false, and_true]; omega) K22_23 (own_se (by simp only [ev_eq]; omega))
              · exact own_leaf (T := T22_21) l hw n0 hN (by simp only [T22_21, Sg, e1, e0, p1_, p0_, SgR, ev_eq, if_true, Bool.false_eq_true, if_false, and_true]; omega) K22_21 (own_se (by simp only [ev_eq]; omega))
          · by_cases t13 : 0 < (0 : Int) + (-1) * ν.a + (1) * ν.b
            · exact own_leaf (T := T22_27) l hw n0 hN (by simp only [T22_27, Sg, e1, e0, p1_, p0_, SgR, ev_eq, if_true, Bool.false_eq_true, if_false, and_true]; omega) K22_27 (own_se (by simp only [ev_eq]; omega))
            · exact own_leaf (T := T22_22) l hw n0 hN (by simp only [T22_22, Sg, e1, e0, p1_, p0_, SgR, ev_eq, if_true, Bool.false_eq_true, if_false, and_true]; omega) K22_22 (own_se (by simp only [ev_eq]; omega))
        · by_cases t7 : 0 < (0 : Int) + (1) * ν.c + (-1) * ν.p
          · exact own_leaf (T := T22_17) l hw n0 hN (by simp only [T22_17, Sg, e1, e0, p1_, p0_, SgR, ev_eq, if_true, Bool.false_eq_true, if_false, and_true]; omega) K22_17 (own_se (by simp only [ev_eq]; omega))
          · exact own_leaf (T := T22_16) l hw n0 hN (by simp only [T22_16, Sg, e1, e0, p1_, p0_, SgR, ev_eq, if_true, Bool.false_eq_true, if_false, and_true]; omega) K22_16 (own_se (by simp only [ev_eq]; omega))
      · by_cases t3 : 0 < (0 : Int) + (1) * ν.b
        · exact own_leaf (T := T22_20) l hw n0 hN (by simp only [T22_20, Sg, e1, e0, p1_, p0_, SgR, ev_eq, if_true, Bool.false_eq_true, if_false, and_true]; omega) K22_20 (own_se (by simp only [ev_eq]; omega))
        · exact own_leaf (T := T22_15) l hw n0 hN (by simp only [T22_15, Sg, e1, e0, p1_, p0_, SgR, ev_eq, if_true, Bool.false_eq_true, if_false, and_true]; omega) K22_15 (own_se (by simp only [ev_eq]; omega))
    · by_cases t2 : 0 < (0 : Int) + (1) * ν.p
      · by_cases t3 : 0 < (0 : Int) + (1) * ν.b
        · by_cases t7 : 0 < (0 : Int) + (1) * ν.b + (-1) * ν.p
          · by_cases t11 : 0 < (0 : Int) + (-1) * ν.a + (1) * ν.p
            · exact own_leaf (T := T22_28) l hw n0 hN (by simp only [T22_28, Sg, e1, e0, p1_, p0_, SgR, ev_eq, if_true, Bool.false_eq_true, if_false, and_true]; omega) K22_28 (own_se (by simp only [ev_eq]; omega))
            · exact own_leaf (T := T22_24) l hw n0 hN (by simp only [T22_24, Sg, e1, e0, p1_, p0_, SgR, ev_eq, if_true, Bool.false_eq_true, if_false, and_true]; omega) K22_24 (own_se (by simp only [ev_eq]; omega))
          · by_cases t10 : 0 < (0 : Int) + (-1) * ν.a + (1) * ν.b
            · exact own_leaf (T := T22_25) l hw n0 hN (by simp only [T22_25, Sg, e1, e0, p1_, p0_, SgR, ev_eq, if_true, Bool.false_eq_true, if_false, and_true]; omega) K22_25 (own_se (by simp only [ev_eq]; omega))
            · exact own_leaf (T := T22_19) l hw n0 hN (by simp only [T22_19, Sg, e1, e0, p1_, p0_, SgR, ev_eq, if_true, Bool.false_eq_true, if_false, and_true]; omega) K22_19 (own_se (by simp only [ev_eq]; omega))
        · exact own_leaf (T := T22_14) l hw n0 hN (by simp only [T22_14, Sg, e1, e0, p1_, p0_, SgR, ev_eq, if_true, Bool.false_eq_true, if_false, and_true]; omega) K22_14 (own_se (by simp only [ev_eq]; omega))
      · by_cases t3 : 0 < (0 : Int) + (1) * ν.b
        · exact own_leaf (T := T22_18) l hw n0 hN (by simp only [T22_18, Sg, e1, e0, p1_, p0_, SgR, ev_eq, if_true, Bool.false_eq_true, if_false, and_true]; omega) K22_18 (own_se (by simp only [ev_eq]; omega))
        · exact own_leaf (T := T22_13) l hw n0 hN (by simp only [T22_13, Sg, e1, e0, p1_, p0_, SgR, ev_eq, if_true, Bool.false_eq_true, if_false, and_true]; omega) K22_13 (own_se (by simp only [ev_eq]; omega))
  · by_cases t1 : 0 < (0 : Int) + (1) * ν.c
    · by_cases t2 : 0 < (0 : Int) + (1) * ν.p
      · by_cases t3 : 0 < (0 : Int) + (1) * ν.b
        · by_cases t10 : 0 < (0 : Int) + (1) * ν.b + (1) * ν.c + (-1) * ν.p
          · by_cases t11 : 0 < (0 : Int) + (-1) * ν.c + (1) * ν.p
            · exact own_leaf (T := T22_12) l hw n0 hN (by simp only [T22_12, Sg, e1, e0, p1_, p0_, SgR, ev_eq, if_true, Bool.false_eq_true, if_false, and_true]; omega) K22_12 (own_se (by simp only [ev_eq]; omega))
            · by_cases t12 : 0 < (0 : Int) + (1) * ν.c + (-1) * ν.p
              · exact own_leaf (T := T22_10) l hw n0 hN (by simp only [T22_10, Sg, e1, e0, p1_, p0_, SgR, ev_eq, if_true, Bool.false_eq_true, if_false, and_true]; omega) K22_10 (own_se (by simp only [ev_eq]; omega))
              · exact own_leaf (T := T22_8) l hw n0 hN (by simp only [T22_8, Sg, e1, e0, p1_, p0_, SgR, ev_eq, if_true, Bool.false_eq_true, if_false, and_true]; omega) K22_8 (own_se (by simp only [ev_eq]; omega))
          · exact own_leaf (T := T22_9) l hw n0 hN (by simp only [T22_9, Sg, e1, e0, p1_, p0_, SgR, ev_eq, if_true, Bool.false_eq_true, if_false, and_true]; omega) K22_9 (own_se (by simp only [ev_eq]; omega))
        · by_cases t7 : 0 < (0 : Int) + (1) * ν.c + (-1) * ν.p
          · exact own_leaf (T := T22_4) l hw n0 hN (by simp only [T22_4, Sg, e1, e0, p1_, p0_, SgR, ev_eq, if_true, Bool.false_eq_true, if_false, and_true]; omega) K22_4 (own_se (by simp only [ev_eq]; omega))
          · exact own_leaf (T := T22_3) l hw n0 hN (by simp only [T22_3, Sg, e1, e0, p1_, p0_, SgR, ev_eq, if_true, Bool.false_eq_true, if_false, and_true]; omega) K22_3 (own_se (by simp only [ev_eq]; omega))
      · by_cases t3 : 0 < (0 : Int) + (1) * ν.b
        · exact own_leaf (T := T22_7) l hw n0 hN (by simp only [T22_7, Sg, e1, e0, p1_, p0_, SgR, ev_eq, if_true, Bool.false_eq_true, if_false, and_true]; omega) K22_7 (own_se (by simp only [ev_eq]; omega))
        · exact own_leaf (T := T22_2) l hw n0 hN (by simp only [T22_2, Sg, e1, e0, p1_, p0_, SgR, ev_eq, if_true, Bool.false_eq_true, if_false, and_true]; omega) K22_2 (own_se (by simp only [ev_eq]; omega))
    · by_cases t2 : 0 < (0 : Int) + (1) * ν.p
      · by_cases t3 : 0 < (0 : Int) + (1) * ν.b
        · by_cases t7 : 0 < (0 : Int) + (1) * ν.b + (-1) * ν.p
          · exact own_leaf (T := T22_11) l hw n0 hN (by simp only [T22_11, Sg, e1, e0, p1_, p0_, SgR, ev_eq, if_true, Bool.false_eq_true, if_false, and_true]; omega) K22_11 (own_se (by simp only [ev_eq]; omega))
          · exact own_leaf (T := T22_6) l hw n0 hN (by simp only [T22_6, Sg, e1, e0, p1_, p0_, SgR, ev_eq, if_true, Bool.false_eq_true, if_false, and_true]; omega) K22_6 (own_se (by simp only [ev_eq]; omega))
        · exact own_leaf (T := T22_1) l hw n0 hN (by simp only [T22_1, Sg, e1, e0, p1_, p0_, SgR, ev_eq, if_true, Bool.false_eq_true, if_false, and_true]; omega) K22_1 (own_se (by simp only [ev_eq]; omega))
      · by_cases t3 : 0 < (0 : Int) + (1) * ν.b
        · exact own_leaf (T := T22_5) l hw n0 hN (by simp only [T22_5, Sg, e1, e0, p1_, p0_, SgR, ev_eq, if_true, Bool.false_eq_true, if_false, and_true]; omega) K22_5 (own_se (by simp only [ev_eq]; omega))
        · exact own_leaf (T := T22_0) l hw n0 hN (by simp only [T22_0, Sg, e1, e0, p1_, p0_, SgR, ev_eq, if_true, Bool.false_eq_true, if_false, and_true]; omega) K22_0 (own_se (by simp only [ev_eq]; omega))
def T23_0 : List OwnL.SR := [p0_ 1 0 0 0, p0_ 0 0 1 0, p0_ 0 0 0 1, p0_ 0 1 0 0]
theorem K23_0 : own_ck T23_0 S23 2 3 0 0 0 0 0 0 0 0 = true := by decide +kernel
def T23_1 : List OwnL.SR := [p0_ 1 0 0 0, p0_ 0 0 1 0, p1_ 0 0 0 1, p0_ 0 1 0 0]
theorem K23_1 : own_ck T23_1 S23 2 3 0 0 0 0 0 0 0 0 = true := by decide +kernel
def T23_2 : List OwnL.SR := [p0_ 1 0 0 0, p1_ 0 0 1 0, p0_ 0 0 0 1, p0_ 0 1 0 0, p0_ 0 0 (-1) 0, e0 0 0 1 0, e1 0 0 0 1]
theorem K23_2 : own_ck T23_2 S23 2 3 0 0 0 0 0 0 0 0 = true := by decide +kernel
def T23_3 : List OwnL.SR := [p0_ 1 0 0 0, p1_ 0 0 1 0, p1_ 0 0 0 1, p0_ 0 1 0 0, p0_ 0 0 (-1) 0, e0 0 0 1 0, e0 0 0 0 1, p0_ 0 0 1 (-1)]
theorem K23_3 : own_ck T23_3 S23 2 3 0 0 0 0 0 0 1 0 = true := by decide +kernel
def T23_4 : List OwnL.SR := [p0_ 1 0 0 0, p1_ 0 0 1 0, p1_ 0 0 0 1, p0_ 0 1 0 0, p0_ 0 0 (-1) 0, e0 0 0 1 0, e0 0 0 0 1, p1_ 0 0 1 (-1), p0_ 0 0 (-1) 1, p0_ 0 0 0 (-1)]
theorem K23_4 : own_ck T23_4 S23 2 3 0 0 0 0 0 0 0 1 = true := by decide +kernel
def T23_5 : List OwnL.SR := [p0_ 1 0 0 0, p0_ 0 0 1 0, p0_ 0 0 0 1, p1_ 0 1 0 0, p0_ 0 (-1) 0 0, e0 0 1 0 0, e1 0 0 0 1]
theorem K23_5 : own_ck T23_5 S23 2 3 0 0 0 0 0 0 0 0 = true := by decide +kernel
def T23_6 : List OwnL.SR := [p0_ 1 0 0 0, p0_ 0 0 1 0, p1_ 0 0 0 1, p1_ 0 1 0 0, p0_ 0 (-1) 0 0, e0 0 1 0 0, e0 0 0 0 1, p0_ 0 1 0 (-1), e1 1 0 0 0, e1 0 0 1 0]
theorem K23_6 : own_ck T23_6 S23 2 3 0 0 0 0 0 0 0 0 = true := by decide +kernel
def T23_7 : List OwnL.SR := [p0_ 1 0 0 0, p1_ 0 0 1 0, p0_ 0 0 0 1, p1_ 0 1 0 0, p0_ 0 0 (-1) 0, p1_ 0 1 1 0, p0_ 0 (-1) 0 0, e0 0 1 0 0, e0 0 0 1 0, e1 0 0 0 1]
theorem K23_7 : own_ck T23_7 S23 2 3 0 0 0 0 0 0 0 0 = true := by decide +kernel
def T23_8 : List OwnL.SR := [p0_ 1 0 0 0, p1_ 0 0 1 0, p1_ 0 0 0 1, p1_ 0 1 0 0, p0_ 0 0 (-1) 0, p1_ 0 1 1 0, p0_ 0 (-1) 0 0, e0 0 1 0 0, e0 0 0 1 0, e0 0 0 0 1, p1_ 0 1 1 (-1), p0_ 0 0 (-1) 1, p0_ 0 0 1 (-1)]
theorem K23_8 : own_ck T23_8 S23 2 3 0 0 (-1) 1 0 0 1 0 = true := by decide +kernel
def T23_9 : List OwnL.SR := [p0_ 1 0 0 0, p1_ 0 0 1 0, p1_ 0 0 0 1, p1_ 0 1 0 0, p0_ 0 0 (-1) 0, p1_ 0 1 1 0, p0_ 0 (-1) 0 0, e0 0 1 0 0, e0 0 0 1 0, e0 0 0 0 1, p0_ 0 1 1 (-1), e1 1 0 0 0, e0 0 1 1 0, e0 0 0 (-1) 1, p1_ 0 0 (-1) 1]
theorem K23_9 : own_ck T23_9 S23 2 3 0 0 0 0 0 0 1 0 = true := by decide +kernel
def T23_10 : List OwnL.SR := [p0_ 1 0 0 0, p1_ 0 0 1 0, p1_ 0 0 0 1, p1_ 0 1 0 0, p0_ 0 0 (-1) 0, p1_ 0 1 1 0, p0_ 0 (-1) 0 0, e0 0 1 0 0, e0 0 0 1 0, e0 0 0 0 1, p1_ 0 1 1 (-1), p0_ 0 0 (-1) 1, p1_ 0 0 1 (-1), p0_ 0 0 0 (-1)]
theorem K23_10 : own_ck T23_10 S23 2 3 0 0 0 0 0 0 0 1 = true := by decide +kernel
def T23_11 : List OwnL.SR := [p0_ 1 0 0 0, p0_ 0 0 1 0, p1_ 0 0 0 1, p1_ 0 1 0 0, p0_ 0 (-1) 0 0, e0 0 1 0 0, e0 0 0 0 1, p1_ 0 1 0 (-1), p0_ 0 0 0 (-1), e1 1 0 0 0, e1 0 0 1 0]
theorem K23_11 : own_ck T23_11 S23 2 3 0 0 0 0 0 0 0 0 = true := by decide +kernel
def T23_12 : List OwnL.SR := [p0_ 1 0 0 0, p1_ 0 0 1 0, p1_ 0 0 0 1, p1_ 0 1 0 0, p0_ 0 0 (-1) 0, p1_ 0 1 1 0, p0_ 0 (-1) 0 0, e0 0 1 0 0, e0 0 0 1 0, e0 0 0 0 1, p1_ 0 1 1 (-1), p1_ 0 0 (-1) 1, p0_ 0 0 1 (-1), e1 1 0 0 0, e0 0 0 (-1) 1]
theorem K23_12 : own_ck T23_12 S23 2 3 0 0 0 0 0 0 1 0 = true := by decide +kernel
def T23_13 : List OwnL.SR := [p1_ 1 0 0 0, p0_ 0 0 1 0, p0_ 0 0 0 1, p0_ 0 1 0 0]
theorem K23_13 : own_ck T23_13 S23 2 3 0 0 0 0 0 0 0 0 = true := by decide +kernel
def T23_14 : List OwnL.SR := [p1_ 1 0 0 0, p0_ 0 0 1 0, p1_ 0 0 0 1, p0_ 0 1 0 0]
theorem K23_14 : own_ck T23_14 S23 2 3 0 0 0 0 0 0 0 0 = true := by decide +kernel
def T23_15 : List OwnL.SR := [p1_ 1 0 0 0, p1_ 0 0 1 0, p0_ 0 0 0 1, p0_ 0 1 0 0, p0_ 0 0 (-1) 0, e0 0 0 1 0, e1 0 0 0 1]
theorem K23_15 : own_ck T23_15 S23 2 3 0 0 0 0 0 0 0 0 = true := by decide +kernel
def T23_16 : List OwnL.SR := [p1_ 1 0 0 0, p1_ 0 0 1 0, p1_ 0 0 0 1, p0_ 0 1 0 0, p0_ 0 0 (-1) 0, e0 0 0 1 0, e0 0 0 0 1, p0_ 0 0 1 (-1)]
theorem K23_16 : own_ck T23_16 S23 2 3 0 0 0 0 0 0 1 0 = true := by decide +kernel
def T23_17 : List OwnL.SR := [p1_ 1 0 0 0, p1_ 0 0 1 0, p1_ 0 0 0 1, p0_ 0 1 0 0, p0_ 0 0 (-1) 0, e0 0 0 1 0, e0 0 0 0 1, p1_ 0 0 1 (-1), p0_ 0 0 (-1) 1, p0_ 0 0 0 (-1)]
theorem K23_17 : own_ck T23_17 S23 2 3 0 0 0 0 0 0 0 1 = true := by decide +kernel
def T23_18 : List OwnL.SR := [p1_ 1 0 0 0, p0_ 0 0 1 0, p0_ 0 0 0 1, p1_ 0 1 0 0, p0_ 0 (-1) 0 0, e0 0 1 0 0, e1 0 0 0 1]
theorem K23_18 : own_ck T23_18 S23 2 3 0 0 0 0 0 0 0 0 = true := by decide +kernel
def T23_19 : List OwnL.SR := [p1_ 1 0 0 0, p0_ 0 0 1 0, p1_ 0 0 0 1, p1_ 0 1 0 0, p0_ 0 (-1) 0 0, e0 0 1 0 0, e0 0 0 0 1, p0_ 0 1 0 (-1), e0 1 0 0 0, e1 0 0 1 0, p0_ (-1) 1 0 0]
theorem K23_19 : own_ck T23_19 S23 2 3 0 1 0 0 0 0 0 0 = true := by decide +kernel
def T23_20 : List OwnL.SR := [p1_ 1 0 0 0, p1_ 0 0 1 0, p0_ 0 0 0 1, p1_ 0 1 0 0, p0_ 0 0 (-1) 0, p1_ 0 1 1 0, p0_ 0 (-1) 0 0, e0 0 1 0 0, e0 0 0 1 0, e1 0 0 0 1]
theorem K23_20 : own_ck T23_20 S23 2 3 0 0 0 0 0 0 0 0 = true := by decide +kernel
def T23_21 : List OwnL.SR := [p1_ 1 0 0 0, p1_ 0 0 1 0, p1_ 0 0 0 1, p1_ 0 1 0 0, p0_ 0 0 (-1) 0, p1_ 0 1 1 0, p0_ 0 (-1) 0 0, e0 0 1 0 0, e0 0 0 1 0, e0 0 0 0 1, p1_ 0 1 1 (-1), p0_ 0 0 (-1) 1, p0_ 0 0 1 (-1)]
theorem K23_21 : own_ck T23_21 S23 2 3 0 0 (-1) 1 0 0 1 0 = true := by decide +kernel
def T23_22 : List OwnL.SR := [p1_ 1 0 0 0, p1_ 0 0 1 0, p1_ 0 0 0 1, p1_ 0 1 0 0, p0_ 0 0 (-1) 0, p1_ 0 1 1 0, p0_ 0 (-1) 0 0, e0 0 1 0 0, e0 0 0 1 0, e0 0 0 0 1, p0_ 0 1 1 (-1), e0 1 0 0 0, e0 0 1 1 0, p0_ (-1) 1 0 0]
theorem K23_22 : own_ck T23_22 S23 2 3 0 1 0 0 0 0 1 0 = true := by decide +kernel
def T23_23 : List OwnL.SR := [p1_ 1 0 0 0, p1_ 0 0 1 0, p1_ 0 0 0 1, p1_ 0 1 0 0, p0_ 0 0 (-1) 0, p1_ 0 1 1 0, p0_ 0 (-1) 0 0, e0 0 1 0 0, e0 0 0 1 0, e0 0 0 0 1, p1_ 0 1 1 (-1), p0_ 0 0 (-1) 1, p1_ 0 0 1 (-1), p0_ 0 0 0 (-1)]
theorem K23_23 : own_ck T23_23 S23 2 3 0 0 0 0 0 0 0 1 = true := by decide +kernel
def T23_24 : List OwnL.SR := [p1_ 1 0 0 0, p0_ 0 0 1 0, p1_ 0 0 0 1, p1_ 0 1 0 0, p0_ 0 (-1) 0 0, e0 0 1 0 0, e0 0 0 0 1, p1_ 0 1 0 (-1), p0_ 0 0 0 (-1), e0 1 0 0 0, e1 0 0 1 0, p0_ (-1) 0 0 1]
theorem K23_24 : own_ck T23_24 S23 2 3 0 0 0 1 0 0 0 0 = true := by decide +kernel
def T23_25 : List OwnL.SR := [p1_ 1 0 0 0, p0_ 0 0 1 0, p1_ 0 0 0 1, p1_ 0 1 0 0, p0_ 0 (-1) 0 0, e0 0 1 0 0, e0 0 0 0 1, p0_ 0 1 0 (-1), e0 1 0 0 0, e1 0 0 1 0, p1_ (-1) 1 0 0, p0_ 1 (-1) 0 0, p0_ (-1) 0 0 0, e0 (-1) 0 0 1, p1_ (-1) 0 0 1]
theorem K23_25 : own_ck T23_25 S23 2 3 1 0 0 0 0 0 0 0 = true := by decide +kernel
def T23_26 : List OwnL.SR := [p1_ 1 0 0 0, p1_ 0 0 1 0, p1_ 0 0 0 1, p1_ 0 1 0 0, p0_ 0 0 (-1) 0, p1_ 0 1 1 0, p0_ 0 (-1) 0 0, e0 0 1 0 0, e0 0 0 1 0, e0 0 0 0 1, p1_ 0 1 1 (-1), p1_ 0 0 (-1) 1, p0_ 0 0 1 (-1), e0 1 0 0 0, p0_ (-1) 0 (-1) 1]
theorem K23_26 : own_ck T23_26 S23 2 3 0 0 (-1) 1 0 0 1 0 = true := by decide +kernel
def T23_27 : List OwnL.SR := [p1_ 1 0 0 0, p1_ 0 0 1 0, p1_ 0 0 0 1, p1_ 0 1 0 0, p0_ 0 0 (-1) 0, p1_ 0 1 1 0, p0_ 0 (-1) 0 0, e0 0 1 0 0, e0 0 0 1 0, e0 0 0 0 1, p0_ 0 1 1 (-1), e0 1 0 0 0, e0 0 1 1 0, p1_ (-1) 1 0 0, p0_ 1 (-1) 0 0, p0_ (-1) 0 (-1) 0, e0 (-1) 0 (-1) 1, p1_ (-1) 0 (-1) 1, p0_ (-1) 0 0 0]
theorem K23_27 : own_ck T23_27 S23 2 3 1 0 0 0 0 0 1 0 = true := by decide +kernel
def T23_28 : List OwnL.SR := [p1_ 1 0 0 0, p0_ 0 0 1 0, p1_ 0 0 0 1, p1_ 0 1 0 0, p0_ 0 (-1) 0 0, e0 0 1 0 0, e0 0 0 0 1, p1_ 0 1 0 (-1), p0_ 0 0 0 (-1), e0 1 0 0 0, e1 0 0 1 0, p1_ (-1) 0 0 1, p0_ 1 0 0 (-1), p0_ (-1) 0 0 0]
theorem K23_28 : own_ck T23_28 S23 2 3 1 0 0 0 0 0 0 0 = true := by decide +kernel
def T23_29 : List OwnL.SR := [p1_ 1 0 0 0, p1_ 0 0 1 0, p1_ 0 0 0 1, p1_ 0 1 0 0, p0_ 0 0 (-1) 0, p1_ 0 1 1 0, p0_ 0 (-1) 0 0, e0 0 1 0 0, e0 0 0 1 0, e0 0 0 0 1, p1_ 0 1 1 (-1), p1_ 0 0 (-1) 1, p0_ 0 0 1 (-1), e0 1 0 0 0, p1_ (-1) 0 (-1) 1, p0_ 1 0 1 (-1), p0_ (-1) 0 (-1) 0, e0 0 0 (-1) 1, p0_ (-1) 0 0 0]
theorem K23_29 : own_ck T23_29 S23 2 3 1 0 0 0 0 0 1 0 = true := by decide +kernel
theorem c_run23 (l : Launch) {Z : State} {a0 : Array Value} (hw : HW1 Z a0) (n0 : Nat) {ν : OwnL.Va} (hB : own_bx ν) : Met l Z KT n0 y11 b11 4 none ({ frames := 4, cells := 0, slots := 0, locals := 100 } : Room) #[.ref (n0 + 6)] (own_h31.map (upO n0 ν)) (own_Q n0 ν (own_P (-(2 : Nat)) (-(3 : Nat))) 2 3) := by
  have hN := own_bxok hB
  obtain ⟨⟨_, _⟩, ⟨_, _⟩, ⟨_, _⟩, ⟨_, _⟩⟩ := id hB
  by_cases t0 : 0 < (0 : Int) + (1) * ν.a
  · by_cases t1 : 0 < (0 : Int) + (1) * ν.c
    · by_cases t2 : 0 < (0 : Int) + (1) * ν.p
      · by_cases t3 : 0 < (0 : Int) + (1) * ν.b
        · by_cases t10 : 0 < (0 : Int) + (1) * ν.b + (1) * ν.c + (-1) * ν.p
          · by_cases t11 : 0 < (0 : Int) + (-1) * ν.c + (1) * ν.p
            · by_cases t14 : 0 < (0 : Int) + (-1) * ν.a + (-1) * ν.c + (1) * ν.p
              · exact own_leaf (T := T23_29) l hw n0 hN (by simp only [T23_29, Sg, e1, e0, p1_, p0_, SgR, ev_eq, if_true, Bool.false_eq_true, if_false, and_true]; omega) K23_29 (own_sl (by simp only [ev_eq]; omega))
              · exact own_leaf (T := T23_26) l hw n0 hN (by simp only [T23_26, Sg, e1, e0, p1_, p0_, SgR, ev_eq, if_true, Bool.false_eq_true, if_false, and_true]; omega) K23_26 (own_sl (by simp only [ev_eq]; omega))
            · by_cases t12 : 0 < (0 : Int) + (1) * ν.c + (-1) * ν.p
              · exact own_leaf (T := T23_23) l hw n0 hN (by simp only [T23_23, Sg, e1, e0, p1_, p0_, SgR, ev_eq, if_true, Bool.false_eq_true, if_false, and_true]; omega) K23_23 (own_sl (by simp only [ev_eq]; omega))
              · exact own_leaf (T := T23_21) l hw n0 hN (by simp only [T23_21, Sg, e1, e0, p1_, p0_, SgR, ev_eq, if_true, Bool.false_eq_true, if_false, and_true]; omega) K23_21 (own_sl (by simp only [ev_eq]; omega))
          · by_cases t13 : 0 < (0 : Int) + (-1) * ν.a + (1) * ν.b
            · exact own_leaf (T := T23_27) l hw n0 hN (by simp only [T23_27, Sg, e1, e0, p1_, p0_, SgR, ev_eq, if_true, Bool.false_eq_true, if_false, and_true]; omega) K23_27 (own_sl (by simp only [ev_eq]; omega))
            · exact own_leaf (T := T23_22) l hw n0 hN (by simp only [T23_22, Sg, e1, e0, p1_, p0_, SgR, ev_eq, if_true, Bool.false_eq_true, if_false, and_true]; omega) K23_22 (own_sl (by simp only [ev_eq]; omega))
        · by_cases t7 : 0 < (0 : Int) + (1) * ν.c + (-1) * ν.p
          · exact own_leaf (T := T23_17) l hw n0 hN (by simp only [T23_17, Sg, e1, e0, p1_, p0_, SgR, ev_eq, if_true, Bool.false_eq_true, if_false, and_true]; omega) K23_17 (own_sl (by simp only [ev_eq]; omega))
          · exact own_leaf (T := T23_16) l hw n0 hN (by simp only [T23_16, Sg, e1, e0, p1_, p0_, SgR, ev_eq, if_true, Bool.false_eq_true, if_false, and_true]; omega) K23_16 (own_sl (by simp only [ev_eq]; omega))
      · by_cases t3 : 0 < (0 : Int) + (1) * ν.b
        · exact own_leaf (T := T23_20) l hw n0 hN (by simp only [T23_20, Sg, e1, e0, p1_, p0_, SgR, ev_eq, if_true, Bool.false_eq_true, if_false, and_true]; omega) K23_20 (own_sl (by simp only [ev_eq]; omega))
        · exact own_leaf (T := T23_15) l hw n0 hN (by simp only [T23_15, Sg, e1, e0, p1_, p0_, SgR, ev_eq, if_true, Bool.false_eq_true, if_false, and_true]; omega) K23_15 (own_sl (by simp only [ev_eq]; omega))
    · by_cases t2 : 0 < (0 : Int) + (1) * ν.p
      · by_cases t3 : 0 < (0 : Int) + (1) * ν.b
        · by_cases t7 : 0 < (0 : Int) + (1) * ν.b + (-1) * ν.p
          · by_cases t11 : 0 < (0 : Int) + (-1) * ν.a + (1) * ν.p
            · exact own_leaf (T := T23_28) l hw n0 hN (by simp only [T23_28, Sg, e1, e0, p1_, p0_, SgR, ev_eq, if_true, Bool.false_eq_true, if_false, and_true]; omega) K23_28 (own_sl (by simp only [ev_eq]; omega))
            · exact own_leaf (T := T23_24) l hw n0 hN (by simp only [T23_24, Sg, e1, e0, p1_, p0_, SgR, ev_eq, if_true, Bool.false_eq_true, if_false, and_true]; omega) K23_24 (own_sl (by simp only [ev_eq]; omega))
          · by_cases t10 : 0 < (0 : Int) + (-1) * ν.a + (1) * ν.b
            · exact own_leaf (T := T23_25) l hw n0 hN (by simp only [T23_25, Sg, e1, e0, p1_, p0_, SgR, ev_eq, if_true, Bool.false_eq_true, if_false, and_true]; omega) K23_25 (own_sl (by simp only [ev_eq]; omega))
            · exact own_leaf (T := T23_19) l hw n0 hN (by simp only [T23_19, Sg, e1, e0, p1_, p0_, SgR, ev_eq, if_true, Bool.false_eq_true, if_false, and_true]; omega) K23_19 (own_sl (by simp only [ev_eq]; omega))
        · exact own_leaf (T := T23_14) l hw n0 hN (by simp only [T23_14, Sg, e1, e0, p1_, p0_, SgR, ev_eq, if_true, Bool.false_eq_true, if_false, and_true]; omega) K23_14 (own_sl (by simp only [ev_eq]; omega))
      · by_cases t3 : 0 < (0 : Int) + (1) * ν.b
        · exact own_leaf (T := T23_18) l hw n0 hN (by simp only [T23_18, Sg, e1, e0, p1_, p0_, SgR, ev_eq, if_true, Bool.false_eq_true, if_false, and_true]; omega) K23_18 (own_sl (by simp only [ev_eq]; omega))
        · exact own_leaf (T := T23_13) l hw n0 hN (by simp only [T23_13, Sg, e1, e0, p1_, p0_, SgR, ev_eq, if_true, Bool.false_eq_true, if_false, and_true]; omega) K23_13 (own_sl (by simp only [ev_eq]; omega))
  · by_cases t1 : 0 < (0 : Int) + (1) * ν.c
    · by_cases t2 : 0 < (0 : Int) + (1) * ν.p
      · by_cases t3 : 0 < (0 : Int) + (1) * ν.b
        · by_cases t10 : 0 < (0 : Int) + (1) * ν.b + (1) * ν.c + (-1) * ν.p
          · by_cases t11 : 0 < (0 : Int) + (-1) * ν.c + (1) * ν.p
            · exact own_leaf (T := T23_12) l hw n0 hN (by simp only [T23_12, Sg, e1, e0, p1_, p0_, SgR, ev_eq, if_true, Bool.false_eq_true, if_false, and_true]; omega) K23_12 (own_sl (by simp only [ev_eq]; omega))
            · by_cases t12 : 0 < (0 : Int) + (1) * ν.c + (-1) * ν.p
              · exact own_leaf (T := T23_10) l hw n0 hN (by simp only [T23_10, Sg, e1, e0, p1_, p0_, SgR, ev_eq, if_true, Bool.false_eq_true, if_false, and_true]; omega) K23_10 (own_sl (by simp only [ev_eq]; omega))
              · exact own_leaf (T := T23_8) l hw n0 hN (by simp only [T23_8, Sg, e1, e0, p1_, p0_, SgR, ev_eq, if_true, Bool.false_eq_true, if_false, and_true]; omega) K23_8 (own_sl (by simp only [ev_eq]; omega))
          · exact own_leaf (T := T23_9) l hw n0 hN (by simp only [T23_9, Sg, e1, e0, p1_, p0_, SgR, ev_eq, if_true, Bool.false_eq_true, if_false, and_true]; omega) K23_9 (own_sl (by simp only [ev_eq]; omega))
        · by_cases t7 : 0 < (0 : Int) + (1) * ν.c + (-1) * ν.p
          · exact own_leaf (T := T23_4) l hw n0 hN (by simp only [T23_4, Sg, e1, e0, p1_, p0_, SgR, ev_eq, if_true, Bool.false_eq_true, if_false, and_true]; omega) K23_4 (own_sl (by simp only [ev_eq]; omega))
          · exact own_leaf (T := T23_3) l hw n0 hN (by simp only [T23_3, Sg, e1, e0, p1_, p0_, SgR, ev_eq, if_true, Bool.false_eq_true, if_false, and_true]; omega) K23_3 (own_sl (by simp only [ev_eq]; omega))
      · by_cases t3 : 0 < (0 : Int) + (1) * ν.b
        · exact own_leaf (T := T23_7) l hw n0 hN (by simp only [T23_7, Sg, e1, e0, p1_, p0_, SgR, ev_eq, if_true, Bool.false_eq_true, if_false, and_true]; omega) K23_7 (own_sl (by simp only [ev_eq]; omega))
        · exact own_leaf (T := T23_2) l hw n0 hN (by simp only [T23_2, Sg, e1, e0, p1_, p0_, SgR, ev_eq, if_true, Bool.false_eq_true, if_false, and_true]; omega) K23_2 (own_sl (by simp only [ev_eq]; omega))
    · by_cases t2 : 0 < (0 : Int) + (1) * ν.p
      · by_cases t3 : 0 < (0 : Int) + (1) * ν.b
        · by_cases t7 : 0 < (0 : Int) + (1) * ν.b + (-1) * ν.p
          · exact own_leaf (T := T23_11) l hw n0 hN (by simp only [T23_11, Sg, e1, e0, p1_, p0_, SgR, ev_eq, if_true, Bool.false_eq_true, if_false, and_true]; omega) K23_11 (own_sl (by simp only [ev_eq]; omega))
          · exact own_leaf (T := T23_6) l hw n0 hN (by simp only [T23_6, Sg, e1, e0, p1_, p0_, SgR, ev_eq, if_true, Bool.false_eq_true, if_false, and_true]; omega) K23_6 (own_sl (by simp only [ev_eq]; omega))
        · exact own_leaf (T := T23_1) l hw n0 hN (by simp only [T23_1, Sg, e1, e0, p1_, p0_, SgR, ev_eq, if_true, Bool.false_eq_true, if_false, and_true]; omega) K23_1 (own_sl (by simp only [ev_eq]; omega))
      · by_cases t3 : 0 < (0 : Int) + (1) * ν.b
        · exact own_leaf (T := T23_5) l hw n0 hN (by simp only [T23_5, Sg, e1, e0, p1_, p0_, SgR, ev_eq, if_true, Bool.false_eq_true, if_false, and_true]; omega) K23_5 (own_sl (by simp only [ev_eq]; omega))
        · exact own_leaf (T := T23_0) l hw n0 hN (by simp only [T23_0, Sg, e1, e0, p1_, p0_, SgR, ev_eq, if_true, Bool.false_eq_true, if_false, and_true]; omega) K23_0 (own_sl (by simp only [ev_eq]; omega))
def T31_0 : List OwnL.SR := [p0_ 1 0 0 0, p0_ 0 0 1 0, p0_ 0 0 0 1, p0_ 0 1 0 0]
theorem K31_0 : own_ck T31_0 S31 3 1 0 0 0 0 0 0 0 0 = true := by decide +kernel
def T31_1 : List OwnL.SR := [p0_ 1 0 0 0, p0_ 0 0 1 0, p1_ 0 0 0 1, p0_ 0 1 0 0]
theorem K31_1 : own_ck T31_1 S31 3 1 0 0 0 0 0 0 0 0 = true := by decide +kernel
def T31_2 : List OwnL.SR := [p0_ 1 0 0 0, p1_ 0 0 1 0, p0_ 0 0 0 1, p0_ 0 1 0 0, p0_ 0 0 (-1) 0, e0 0 0 1 0, e1 0 0 0 1]
theorem K31_2 : own_ck T31_2 S31 3 1 0 0 0 0 0 0 0 0 = true := by decide +kernel
def T31_3 : List OwnL.SR := [p0_ 1 0 0 0, p1_ 0 0 1 0, p1_ 0 0 0 1, p0_ 0 1 0 0, p0_ 0 0 (-1) 0, e0 0 0 1 0, e0 0 0 0 1, p0_ 0 0 1 (-1)]
theorem K31_3 : own_ck T31_3 S31 3 1 0 0 0 0 0 0 1 0 = true := by decide +kernel
def T31_4 : List OwnL.SR := [p0_ 1 0 0 0, p1_ 0 0 1 0, p1_ 0 0 0 1, p0_ 0 1 0 0, p0_ 0 0 (-1) 0, e0 0 0 1 0, e0 0 0 0 1, p1_ 0 0 1 (-1), p0_ 0 0 (-1) 1, p0_ 0 0 0 (-1)]
theorem K31_4 : own_ck T31_4 S31 3 1 0 0 0 0 0 0 0 1 = true := by decide +kernel
def T31_5 : List OwnL.SR := [p0_ 1 0 0 0, p0_ 0 0 1 0, p0_ 0 0 0 1, p1_ 0 1 0 0, p0_ 0 (-1) 0 0, e0 0 1 0 0, e1 0 0 0 1]
theorem K31_5 : own_ck T31_5 S31 3 1 0 0 0 0 0 0 0 0 = true := by decide +kernel
def T31_6 : List OwnL.SR := [p0_ 1 0 0 0, p0_ 0 0 1 0, p1_ 0 0 0 1, p1_ 0 1 0 0, p0_ 0 (-1) 0 0, e0 0 1 0 0, e0 0 0 0 1, p0_ 0 1 0 (-1), e1 1 0 0 0, e1 0 0 1 0]
theorem K31_6 : own_ck T31_6 S31 3 1 0 0 0 0 0 0 0 0 = true := by decide +kernel
def T31_7 : List OwnL.SR := [p0_ 1 0 0 0, p1_ 0 0 1 0, p0_ 0 0 0 1, p1_ 0 1 0 0, p0_ 0 0 (-1) 0, p1_ 0 1 1 0, p0_ 0 (-1) 0 0, e0 0 1 0 0, e0 0 0 1 0, e1 0 0 0 1]
theorem K31_7 : own_ck T31_7 S31 3 1 0 0 0 0 0 0 0 0 = true := by decide +kernel
def T31_8 : List OwnL.SR := [p0_ 1 0 0 0, p1_ 0 0 1 0, p1_ 0 0 0 1, p1_ 0 1 0 0, p0_ 0 0 (-1) 0, p1_ 0 1 1 0, p0_ 0 (-1) 0 0, e0 0 1 0 0, e0 0 0 1 0, e0 0 0 0 1, p1_ 0 1 1 (-1), p0_ 0 0 (-1) 1, p0_ 0 1 0 (-1), e1 1 0 0 0, e0 0 1 1 (-1)]
theorem K31_8 : own_ck T31_8 S31 3 1 0 0 0 0 0 0 0 1 = true := by decide +kernel
def T31_9 : List OwnL.SR := [p0_ 1 0 0 0, p1_ 0 0 1 0, p1_ 0 0 0 1, p1_ 0 1 0 0, p0_ 0 0 (-1) 0, p1_ 0 1 1 0, p0_ 0 (-1) 0 0, e0 0 1 0 0, e0 0 0 1 0, e0 0 0 0 1, p0_ 0 1 1 (-1), e1 1 0 0 0, e0 0 1 1 0, e0 0 0 (-1) 1, p1_ 0 0 (-1) 1]
theorem K31_9 : own_ck T31_9 S31 3 1 0 0 0 0 0 0 1 0 = true := by decide +kernel
def T31_10 : List OwnL.SR := [p0_ 1 0 0 0, p0_ 0 0 1 0, p1_ 0 0 0 1, p1_ 0 1 0 0, p0_ 0 (-1) 0 0, e0 0 1 0 0, e0 0 0 0 1, p1_ 0 1 0 (-1), p0_ 0 0 0 (-1), e1 1 0 0 0, e1 0 0 1 0]
theorem K31_10 : own_ck T31_10 S31 3 1 0 0 0 0 0 0 0 0 = true := by decide +kernel
def T31_11 : List OwnL.SR := [p0_ 1 0 0 0, p1_ 0 0 1 0, p1_ 0 0 0 1, p1_ 0 1 0 0, p0_ 0 0 (-1) 0, p1_ 0 1 1 0, p0_ 0 (-1) 0 0, e0 0 1 0 0, e0 0 0 1 0, e0 0 0 0 1, p1_ 0 1 1 (-1), p0_ 0 0 (-1) 1, p1_ 0 1 0 (-1), p0_ 0 0 0 (-1), e1 1 0 0 0]
theorem K31_11 : own_ck T31_11 S31 3 1 0 0 0 0 0 0 0 1 = true := by decide +kernel
def T31_12 : List OwnL.SR := [p0_ 1 0 0 0, p1_ 0 0 1 0, p1_ 0 0 0 1, p1_ 0 1 0 0, p0_ 0 0 (-1) 0, p1_ 0 1 1 0, p0_ 0 (-1) 0 0, e0 0 1 0 0, e0 0 0 1 0, e0 0 0 0 1, p1_ 0 1 1 (-1), p1_ 0 0 (-1) 1, p0_ 0 1 0 (-1), e1 1 0 0 0, e0 0 1 1 (-1), e0 0 0 (-1) 1]
theorem K31_12 : own_ck T31_12 S31 3 1 0 0 0 0 0 0 1 0 = true := by decide +kernel
def T31_13 : List OwnL.SR := [p0_ 1 0 0 0, p1_ 0 0 1 0, p1_ 0 0 0 1, p1_ 0 1 0 0, p0_ 0 0 (-1) 0, p1_ 0 1 1 0, p0_ 0 (-1) 0 0, e0 0 1 0 0, e0 0 0 1 0, e0 0 0 0 1, p1_ 0 1 1 (-1), p1_ 0 0 (-1) 1, p1_ 0 1 0 (-1), p0_ 0 0 0 (-1), e1 1 0 0 0]
theorem K31_13 : own_ck T31_13 S31 3 1 0 0 0 0 0 0 1 0 = true := by decide +kernel
def T31_14 : List OwnL.SR := [p1_ 1 0 0 0, p0_ 0 0 1 0, p0_ 0 0 0 1, p0_ 0 1 0 0]
theorem K31_14 : own_ck T31_14 S31 3 1 0 0 0 0 0 0 0 0 = true := by decide +kernel
def T31_15 : List OwnL.SR := [p1_ 1 0 0 0, p0_ 0 0 1 0, p1_ 0 0 0 1, p0_ 0 1 0 0]
theorem K31_15 : own_ck T31_15 S31 3 1 0 0 0 0 0 0 0 0 = true := by decide +kernel
def T31_16 : List OwnL.SR := [p1_ 1 0 0 0, p1_ 0 0 1 0, p0_ 0 0 0 1, p0_ 0 1 0 0, p0_ 0 0 (-1) 0, e0 0 0 1 0, e1 0 0 0 1]
theorem K31_16 : own_ck T31_16 S31 3 1 0 0 0 0 0 0 0 0 = true := by decide +kernel
def T31_17 : List OwnL.SR := [p1_ 1 0 0 0, p1_ 0 0 1 0, p1_ 0 0 0 1, p0_ 0 1 0 0, p0_ 0 0 (-1) 0, e0 0 0 1 0, e0 0 0 0 1, p0_ 0 0 1 (-1)]
theorem K31_17 : own_ck T31_17 S31 3 1 0 0 0 0 0 0 1 0 = true := by decide +kernel
def T31_18 : List OwnL.SR := [p1_ 1 0 0 0, p1_ 0 0 1 0, p1_ 0 0 0 1, p0_ 0 1 0 0, p0_ 0 0 (-1) 0, e0 0 0 1 0, e0 0 0 0 1, p1_ 0 0 1 (-1), p0_ 0 0 (-1) 1, p0_ 0 0 0 (-1)]
theorem K31_18 : own_ck T31_18 S31 3 1 0 0 0 0 0 0 0 1 = true := by decide +kernel
def T31_19 : List OwnL.SR := [p1_ 1 0 0 0, p0_ 0 0 1 0, p0_ 0 0 0 1, p1_ 0 1 0 0, p0_ 0 (-1) 0 0, e0 0 1 0 0, e1 0 0 0 1]
theorem K31_19 : own_ck T31_19 S31 3 1 0 0 0 0 0 0 0 0 = true := by decide +kernel
def T31_20 : List OwnL.SR := [p1_ 1 0 0 0, p0_ 0 0 1 0, p1_ 0 0 0 1, p1_ 0 1 0 0, p0_ 0 (-1) 0 0, e0 0 1 0 0, e0 0 0 0 1, p0_ 0 1 0 (-1), e0 1 0 0 0, e1 0 0 1 0, p0_ (-1) 1 0 0]
theorem K31_20 : own_ck T31_20 S31 3 1 0 1 0 0 0 0 0 0 = true := by decide +kernel
def T31_21 : List OwnL.SR := [p1_ 1 0 0 0, p1_ 0 0 1 0, p0_ 0 0 0 1, p1_ 0 1 0 0, p0_ 0 0 (-1) 0, p1_ 0 1 1 0, p0_ 0 (-1) 0 0, e0 0 1 0 0, e0 0 0 1 0, e1 0 0 0 1]
theorem K31_21 : own_ck T31_21 S31 3 1 0 0 0 0 0 0 0 0 = true := by decide +kernel
def T31_22 : List OwnL.SR := [p1_ 1 0 0 0, p1_ 0 0 1 0, p1_ 0 0 0 1, p1_ 0 1 0 0, p0_ 0 0 (-1) 0, p1_ 0 1 1 0, p0_ 0 (-1) 0 0, e0 0 1 0 0, e0 0 0 1 0, e0 0 0 0 1, p1_ 0 1 1 (-1), p0_ 0 0 (-1) 1, p0_ 0 1 0 (-1), e0 1 0 0 0, e0 0 1 1 (-1), p0_ (-1) 1 0 0]
theorem K31_22 : own_ck T31_22 S31 3 1 0 1 0 0 0 (-1) 0 1 = true := by decide +kernel
def T31_23 : List OwnL.SR := [p1_ 1 0 0 0, p1_ 0 0 1 0, p1_ 0 0 0 1, p1_ 0 1 0 0, p0_ 0 0 (-1) 0, p1_ 0 1 1 0, p0_ 0 (-1) 0 0, e0 0 1 0 0, e0 0 0 1 0, e0 0 0 0 1, p0_ 0 1 1 (-1), e0 1 0 0 0, e0 0 1 1 0, p0_ (-1) 1 0 0]
theorem K31_23 : own_ck T31_23 S31 3 1 0 1 0 0 0 0 1 0 = true := by decide +kernel
def T31_24 : List OwnL.SR := [p1_ 1 0 0 0, p0_ 0 0 1 0, p1_ 0 0 0 1, p1_ 0 1 0 0, p0_ 0 (-1) 0 0, e0 0 1 0 0, e0 0 0 0 1, p1_ 0 1 0 (-1), p0_ 0 0 0 (-1), e0 1 0 0 0, e1 0 0 1 0, p0_ (-1) 0 0 1]
theorem K31_24 : own_ck T31_24 S31 3 1 0 0 0 1 0 0 0 0 = true := by decide +kernel
def T31_25 : List OwnL.SR := [p1_ 1 0 0 0, p0_ 0 0 1 0, p1_ 0 0 0 1, p1_ 0 1 0 0, p0_ 0 (-1) 0 0, e0 0 1 0 0, e0 0 0 0 1, p0_ 0 1 0 (-1), e0 1 0 0 0, e1 0 0 1 0, p1_ (-1) 1 0 0, p0_ 1 (-1) 0 0, p0_ (-1) 0 0 0, e0 (-1) 0 0 1, p1_ (-1) 0 0 1]
theorem K31_25 : own_ck T31_25 S31 3 1 1 0 0 0 0 0 0 0 = true := by decide +kernel
def T31_26 : List OwnL.SR := [p1_ 1 0 0 0, p1_ 0 0 1 0, p1_ 0 0 0 1, p1_ 0 1 0 0, p0_ 0 0 (-1) 0, p1_ 0 1 1 0, p0_ 0 (-1) 0 0, e0 0 1 0 0, e0 0 0 1 0, e0 0 0 0 1, p1_ 0 1 1 (-1), p0_ 0 0 (-1) 1, p1_ 0 1 0 (-1), p0_ 0 0 0 (-1), e0 1 0 0 0, p0_ (-1) 0 0 1]
theorem K31_26 : own_ck T31_26 S31 3 1 0 0 0 1 0 0 0 0 = true := by decide +kernel
def T31_27 : List OwnL.SR := [p1_ 1 0 0 0, p1_ 0 0 1 0, p1_ 0 0 0 1, p1_ 0 1 0 0, p0_ 0 0 (-1) 0, p1_ 0 1 1 0, p0_ 0 (-1) 0 0, e0 0 1 0 0, e0 0 0 1 0, e0 0 0 0 1, p1_ 0 1 1 (-1), p1_ 0 0 (-1) 1, p0_ 0 1 0 (-1), e0 1 0 0 0, e0 0 1 1 (-1), p1_ (-1) 1 0 0, p0_ 1 (-1) 0 0, p0_ (-1) 0 (-1) 1, e0 (-1) 0 0 1, p1_ (-1) 0 0 1, p0_ (-1) 0 0 0]
theorem K31_27 : own_ck T31_27 S31 3 1 1 0 0 0 (-1) 0 0 1 = true := by decide +kernel
def T31_28 : List OwnL.SR := [p1_ 1 0 0 0, p1_ 0 0 1 0, p1_ 0 0 0 1, p1_ 0 1 0 0, p0_ 0 0 (-1) 0, p1_ 0 1 1 0, p0_ 0 (-1) 0 0, e0 0 1 0 0, e0 0 0 1 0, e0 0 0 0 1, p0_ 0 1 1 (-1), e0 1 0 0 0, e0 0 1 1 0, p1_ (-1) 1 0 0, p0_ 1 (-1) 0 0, p0_ (-1) 0 (-1) 0, e0 (-1) 0 (-1) 1, p1_ (-1) 0 (-1) 1, p0_ (-1) 0 0 0]
theorem K31_28 : own_ck T31_28 S31 3 1 1 0 0 0 0 0 1 0 = true := by decide +kernel
def T31_29 : List OwnL.SR := [p1_ 1 0 0 0, p1_ 0 0 1 0, p1_ 0 0 0 1, p1_ 0 1 0 0, p0_ 0 0 (-1) 0, p1_ 0 1 1 0, p0_ 0 (-1) 0 0, e0 0 1 0 0, e0 0 0 1 0, e0 0 0 0 1, p1_ 0 1 1 (-1), p0_ 0 0 (-1) 1, p0_ 0 1 0 (-1), e0 1 0 0 0, e0 0 1 1 (-1), p1_ (-1) 1 0 0, p0_ 1 (-1) 0 0, p0_ (-1) 0 (-1) 1, e0 (-1) 0 0 1, p1_ (-1) 0 0 1, p0_ (-1) 0 0 0]
theorem K31_29 : own_ck T31_29 S31 3 1 1 0 0 0 (-1) 0 0 1 = true := by decide +kernel
def T31_30 : List OwnL.SR := [p1_ 1 0 0 0, p0_ 0 0 1 0, p1_ 0 0 0 1, p1_ 0 1 0 0, p0_ 0 (-1) 0 0, e0 0 1 0 0, e0 0 0 0 1, p1_ 0 1 0 (-1), p0_ 0 0 0 (-1), e0 1 0 0 0, e1 0 0 1 0, p1_ (-1) 0 0 1, p0_ 1 0 0 (-1), p0_ (-1) 0 0 0]
theorem K31_30 : own_ck T31_30 S31 3 1 1 0 0 0 0 0 0 0 = true := by decide +kernel
def T31_31 : List OwnL.SR := [p1_ 1 0 0 0, p1_ 0 0 1 0, p1_ 0 0 0 1, p1_ 0 1 0 0, p0_ 0 0 (-1) 0, p1_ 0 1 1 0, p0_ 0 (-1) 0 0, e0 0 1 0 0, e0 0 0 1 0, e0 0 0 0 1, p1_ 0 1 1 (-1), p1_ 0 0 (-1) 1, p1_ 0 1 0 (-1), p0_ 0 0 0 (-1), e0 1 0 0 0, p1_ (-1) 0 0 1, p0_ 1 0 0 (-1), p0_ (-1) 0 (-1) 1, p0_ (-1) 0 0 0]
theorem K31_31 : own_ck T31_31 S31 3 1 1 0 0 0 (-1) 0 0 1 = true := by decide +kernel
def T31_32 : List OwnL.SR := [p1_ 1 0 0 0, p1_ 0 0 1 0, p1_ 0 0 0 1, p1_ 0 1 0 0, p0_ 0 0 (-1) 0, p1_ 0 1 1 0, p0_ 0 (-1) 0 0, e0 0 1 0 0, e0 0 0 1 0, e0 0 0 0 1, p1_ 0 1 1 (-1), p1_ 0 0 (-1) 1, p0_ 0 1 0 (-1), e0 1 0 0 0, e0 0 1 1 (-1), p1_ (-1) 1 0 0, p0_ 1 (-1) 0 0, p1_ (-1) 0 (-1) 1, p0_ (-1) 0 (-1) 0, e0 (-1) 0 (-1) 1, p0_ (-1) 0 0 0]
theorem K31_32 : own_ck T31_32 S31 3 1 1 0 0 0 0 0 1 0 = true := by decide +kernel
def T31_33 : List OwnL.SR := [p1_ 1 0 0 0, p1_ 0 0 1 0, p1_ 0 0 0 1, p1_ 0 1 0 0, p0_ 0 0 (-1) 0, p1_ 0 1 1 0, p0_ 0 (-1) 0 0, e0 0 1 0 0, e0 0 0 1 0, e0 0 0 0 1, p1_ 0 1 1 (-1), p0_ 0 0 (-1) 1, p1_ 0 1 0 (-1), p0_ 0 0 0 (-1), e0 1 0 0 0, p1_ (-1) 0 0 1, p0_ 1 0 0 (-1), p0_ (-1) 0 (-1) 1, p0_ (-1) 0 0 0]
theorem K31_33 : own_ck T31_33 S31 3 1 1 0 0 0 (-1) 0 0 1 = true := by decide +kernel
def T31_34 : List OwnL.SR := [p1_ 1 0 0 0, p1_ 0 0 1 0, p1_ 0 0 0 1, p1_ 0 1 0 0, p0_ 0 0 (-1) 0, p1_ 0 1 1 0, p0_ 0 (-1) 0 0, e0 0 1 0 0, e0 0 0 1 0, e0 0 0 0 1, p1_ 0 1 1 (-1), p1_ 0 0 (-1) 1, p1_ 0 1 0 (-1), p0_ 0 0 0 (-1), e0 1 0 0 0, p1_ (-1) 0 0 1, p0_ 1 0 0 (-1), p1_ (-1) 0 (-1) 1, p0_ (-1) 0 (-1) 0, p0_ (-1) 0 0 0]
theorem K31_34 : own_ck T31_34 S31 3 1 1 0 0 0 0 0 1 0 = true := by decide +kernel
def T31_35 : List OwnL.SR := [p1_ 1 0 0 0, p1_ 0 0 1 0, p1_ 0 0 0 1, p1_ 0 1 0 0, p0_ 0 0 (-1) 0, p1_ 0 1 1 0, p0_ 0 (-1) 0 0, e0 0 1 0 0, e0 0 0 1 0, e0 0 0 0 1, p1_ 0 1 1 (-1), p1_ 0 0 (-1) 1, p0_ 0 1 0 (-1), e0 1 0 0 0, e0 0 1 1 (-1), p0_ (-1) 1 0 0]
theorem K31_35 : own_ck T31_35 S31 3 1 0 1 0 0 0 (-1) 0 1 = true := by decide +kernel
def T31_36 : List OwnL.SR := [p1_ 1 0 0 0, p1_ 0 0 1 0, p1_ 0 0 0 1, p1_ 0 1 0 0, p0_ 0 0 (-1) 0, p1_ 0 1 1 0, p0_ 0 (-1) 0 0, e0 0 1 0 0, e0 0 0 1 0, e0 0 0 0 1, p1_ 0 1 1 (-1), p1_ 0 0 (-1) 1, p1_ 0 1 0 (-1), p0_ 0 0 0 (-1), e0 1 0 0 0, p0_ (-1) 0 0 1]
theorem K31_36 : own_ck T31_36 S31 3 1 0 0 0 1 0 0 0 0 = true := by decide +kernel
theorem c_run31 (l : Launch) {Z : State} {a0 : Array Value} (hw : HW1 Z a0) (n0 : Nat) {ν : OwnL.Va} (hB : own_bx ν) : Met l Z KT n0 y11 b11 4 none ({ frames := 4, cells := 0, slots := 0, locals := 100 } : Room) #[.ref (n0 + 6)] (own_h36.map (upO n0 ν)) (own_Q n0 ν (own_P (-(3 : Nat)) (-(1 : Nat))) 3 1) := by
  have hN := own_bxok hB
  obtain ⟨⟨_, _⟩, ⟨_, _⟩, ⟨_, _⟩, ⟨_, _⟩⟩ := id hB
  by_cases t0 : 0 < (0 : Int) + (1) * ν.a
  · by_cases t1 : 0 < (0 : Int) + (1) * ν.c
    · by_cases t2 : 0 < (0 : Int) + (1) * ν.p
      · by_cases t3 : 0 < (0 : Int) + (1) * ν.b
        · by_cases t10 : 0 < (0 : Int) + (1) * ν.b + (1) * ν.c + (-1) * ν.p
          · by_cases t11 : 0 < (0 : Int) + (-1) * ν.c + (1) * ν.p
            · by_cases t12 : 0 < (0 : Int) + (1) * ν.b + (-1) * ν.p
              · by_cases t15 : 0 < (0 : Int) + (-1) * ν.a + (1) * ν.p
                · by_cases t17 : 0 < (0 : Int) + (-1) * ν.a + (-1) * ν.c + (1) * ν.p
                  · exact own_leaf (T := T31_34) l hw n0 hN (by simp only [T31_34, Sg, e1, e0, p1_, p0_, SgR, ev_eq, if_true, Bool.false_eq_true, if_false, and_true]; omega) K31_34 (own_sg (by simp only [ev_eq]; omega))
                  · exact own_leaf (T := T31_31) l hw n0 hN (by simp only [T31_31, Sg, e1, e0, p1_, p0_, SgR, ev_eq, if_true, Bool.false_eq_true, if_false, and_true]; omega) K31_31 (own_sg (by simp only [ev_eq]; omega))
                · exact own_leaf (T := T31_36) l hw n0 hN (by simp only [T31_36, Sg, e1, e0, p1_, p0_, SgR, ev_eq, if_true, Bool.false_eq_true, if_false, and_true]; omega) K31_36 (own_sg (by simp only [ev_eq]; omega))
              · by_cases t15 : 0 < (0 : Int) + (-1) * ν.a + (1) * ν.b
                · by_cases t17 : 0 < (0 : Int) + (-1) * ν.a + (-1) * ν.c + (1) * ν.p
                  · exact own_leaf (T := T31_32) l hw n0 hN (by simp only [T31_32, Sg, e1, e0, p1_, p0_, SgR, ev_eq, if_true, Bool.false_eq_true, if_false, and_true]; omega) K31_32 (own_sg (by simp only [ev_eq]; omega))
                  · exact own_leaf (T := T31_27) l hw n0 hN (by simp only [T31_27, Sg, e1, e0, p1_, p0_, SgR, ev_eq, if_true, Bool.false_eq_true, if_false, and_true]; omega) K31_27 (own_sg (by simp only [ev_eq]; omega))
                · exact own_leaf (T := T31_35) l hw n0 hN (by simp only [T31_35, Sg, e1, e0, p1_, p0_, SgR, ev_eq, if_true, Bool.false_eq_true, if_false, and_true]; omega) K31_35 (own_sg (by simp only [ev_eq]; omega))
            · by_cases t12 : 0 < (0 : Int) + (1) * ν.b + (-1) * ν.p
              · by_cases t15 : 0 < (0 : Int) + (-1) * ν.a + (1) * ν.p
                · exact own_leaf (T := T31_33) l hw n0 hN (by simp only [T31_33, Sg, e1, e0, p1_, p0_, SgR, ev_eq, if_true, Bool.false_eq_true, if_false, and_true]; omega) K31_33 (own_sg (by simp only [ev_eq]; omega))
                · exact own_leaf (T := T31_26) l hw n0 hN (by simp only [T31_26, Sg, e1, e0, p1_, p0_, SgR, ev_eq, if_true, Bool.false_eq_true, if_false, and_true]; omega) K31_26 (own_sg (by simp only [ev_eq]; omega))
              · by_cases t15 : 0 < (0 : Int) + (-1) * ν.a + (1) * ν.b
                · exact own_leaf (T := T31_29) l hw n0 hN (by simp only [T31_29, Sg, e1, e0, p1_, p0_, SgR, ev_eq, if_true, Bool.false_eq_true, if_false, and_true]; omega) K31_29 (own_sg (by simp only [ev_eq]; omega))
                · exact own_leaf (T := T31_22) l hw n0 hN (by simp only [T31_22, Sg, e1, e0, p1_, p0_, SgR, ev_eq, if_true, Bool.false_eq_true, if_false, and_true]; omega) K31_22 (own_sg (by simp only [ev_eq]; omega))
          · by_cases t13 : 0 < (0 : Int) + (-1) * ν.a + (1) * ν.b
            · exact own_leaf (T := T31_28) l hw n0 hN (by simp only [T31_28, Sg, e1, e0, p1_, p0_, SgR, ev_eq, if_true, Bool.false_eq_true, if_false, and_true]; omega) K31_28 (own_sg (by simp only [ev_eq]; omega))
            · exact own_leaf (T := T31_23) l hw n0 hN (by simp only [T31_23, Sg, e1, e0, p1_, p0_, SgR, ev_eq, if_true, Bool.false_eq_true, if_false, and_true]; omega) K31_23 (own_sg (by simp only [ev_eq]; omega))
        · by_cases t7 : 0 < (0 : Int) + (1) * ν.c + (-1) * ν.p
          · exact own_leaf (T := T31_18) l hw n0 hN (by simp only [T31_18, Sg, e1, e0, p1_, p0_, SgR, ev_eq, if_true, Bool.false_eq_true, if_false, and_true]; omega) K31_18 (own_sg (by simp only [ev_eq]; omega))
          · exact own_leaf (T := T31_17) l hw n0 hN (by simp only [T31_17, Sg, e1, e0, p1_, p0_, SgR, ev_eq, if_true, Bool.false_eq_true, if_false, and_true]; omega) K31_17 (own_sg (by simp only [ev_eq]; omega))
      · by_cases t3 : 0 < (0 : Int) + (1) * ν.b
        · exact own_leaf (T := T31_21) l hw n0 hN (by simp only [T31_21, Sg, e1, e0, p1_, p0_, SgR, ev_eq, if_true, Bool.false_eq_true, if_false, and_true]; omega) K31_21 (own_sg (by simp only [ev_eq]; omega))
        · exact own_leaf (T := T31_16) l hw n0 hN (by simp only [T31_16, Sg, e1, e0, p1_, p0_, SgR, ev_eq, if_true, Bool.false_eq_true, if_false, and_true]; omega) K31_16 (own_sg (by simp only [ev_eq]; omega))
    · by_cases t2 : 0 < (0 : Int) + (1) * ν.p
      · by_cases t3 : 0 < (0 : Int) + (1) * ν.b
        · by_cases t7 : 0 < (0 : Int) + (1) * ν.b + (-1) * ν.p
          · by_cases t11 : 0 < (0 : Int) + (-1) * ν.a + (1) * ν.p
            · exact own_leaf (T := T31_30) l hw n0 hN (by simp only [T31_30, Sg, e1, e0, p1_, p0_, SgR, ev_eq, if_true, Bool.false_eq_true, if_false, and_true]; omega) K31_30 (own_sg (by simp only [ev_eq]; omega))
            · exact own_leaf (T := T31_24) l hw n0 hN (by simp only [T31_24, Sg, e1, e0, p1_, p0_, SgR, ev_eq, if_true, Bool.false_eq_true, if_false, and_true]; omega) K31_24 (own_sg (by simp only [ev_eq]; omega))
          · by_cases t10 : 0 < (0 : Int) + (-1) * ν.a + (1) * ν.b
            · exact own_leaf (T := T31_25) l hw n0 hN (by simp only [T31_25, Sg, e1, e0, p1_, p0_, SgR, ev_eq, if_true, Bool.false_eq_true, if_false, and_true]; omega) K31_25 (own_sg (by simp only [ev_eq]; omega))
            · exact own_leaf (T := T31_20) l hw n0 hN (by simp only [T31_20, Sg, e1, e0, p1_, p0_, SgR, ev_eq, if_true, Bool.false_eq_true, if_false, and_true]; omega) K31_20 (own_sg (by simp only [ev_eq]; omega))
        · exact own_leaf (T := T31_15) l hw n0 hN (by simp only [T31_15, Sg, e1, e0, p1_, p0_, SgR, ev_eq, if_true, Bool.false_eq_true, if_false, and_true]; omega) K31_15 (own_sg (by simp only [ev_eq]; omega))
      · by_cases t3 : 0 < (0 : Int) + (1) * ν.b
        · exact own_leaf (T := T31_19) l hw n0 hN (by simp only [T31_19, Sg, e1, e0, p1_, p0_, SgR, ev_eq, if_true, Bool.false_eq_true, if_false, and_true]; omega) K31_19 (own_sg (by simp only [ev_eq]; omega))
        · exact own_leaf (T := T31_14) l hw n0 hN (by simp only [T31_14, Sg, e1, e0, p1_, p0_, SgR, ev_eq, if_true, Bool.false_eq_true, if_false, and_true]; omega) K31_14 (own_sg (by simp only [ev_eq]; omega))
  · by_cases t1 : 0 < (0 : Int) + (1) * ν.c
    · by_cases t2 : 0 < (0 : Int) + (1) * ν.p
      · by_cases t3 : 0 < (0 : Int) + (1) * ν.b
        · by_cases t10 : 0 < (0 : Int) + (1) * ν.b + (1) * ν.c + (-1) * ν.p
          · by_cases t11 : 0 < (0 : Int) + (-1) * ν.c + (1) * ν.p
            · by_cases t12 : 0 < (0 : Int) + (1) * ν.b + (-1) * ν.p
              · exact own_leaf (T := T31_13) l hw n0 hN (by simp only [T31_13, Sg, e1, e0, p1_, p0_, SgR, ev_eq, if_true, Bool.false_eq_true, if_false, and_true]; omega) K31_13 (own_sg (by simp only [ev_eq]; omega))
              · exact own_leaf (T := T31_12) l hw n0 hN (by simp only [T31_12, Sg, e1, e0, p1_, p0_, SgR, ev_eq, if_true, Bool.false_eq_true, if_false, and_true]; omega) K31_12 (own_sg (by simp only [ev_eq]; omega))
            · by_cases t12 : 0 < (0 : Int) + (1) * ν.b + (-1) * ν.p
              · exact own_leaf (T := T31_11) l hw n0 hN (by simp only [T31_11, Sg, e1, e0, p1_, p0_, SgR, ev_eq, if_true, Bool.false_eq_true, if_false, and_true]; omega) K31_11 (own_sg (by simp only [ev_eq]; omega))
              · exact own_leaf (T := T31_8) l hw n0 hN (by simp only [T31_8, Sg, e1, e0, p1_, p0_, SgR, ev_eq, if_true, Bool.false_eq_true, if_false, and_true]; omega) K31_8 (own_sg (by simp only [ev_eq]; omega))
          · exact own_leaf (T := T31_9) l hw n0 hN (by simp only [T31_9, Sg, e1, e0, p1_, p0_, SgR, ev_eq, if_true, Bool.false_eq_true, if_false, and_true]; omega) K31_9 (own_sg (by simp only [ev_eq]; omega))
        · by_cases t7 : 0 < (0 : Int) + (1) * ν.c + (-1) * ν.p
          · exact own_leaf (T := T31_4) l hw n0 hN (by simp only [T31_4, Sg, e1, e0, p1_, p0_, SgR, ev_eq, if_true, Bool.false_eq_true, if_false, and_true]; omega) K31_4 (own_sg (by simp only [ev_eq]; omega))
          · exact own_leaf (T := T31_3) l hw n0 hN (by simp only [T31_3, Sg, e1, e0, p1_, p0_, SgR, ev_eq, if_true, Bool.false_eq_true, if_false, and_true]; omega) K31_3 (own_sg (by simp only [ev_eq]; omega))
      · by_cases t3 : 0 < (0 : Int) + (1) * ν.b
        · exact own_leaf (T := T31_7) l hw n0 hN (by simp only [T31_7, Sg, e1, e0, p1_, p0_, SgR, ev_eq, if_true, Bool.false_eq_true, if_false, and_true]; omega) K31_7 (own_sg (by simp only [ev_eq]; omega))
        · exact own_leaf (T := T31_2) l hw n0 hN (by simp only [T31_2, Sg, e1, e0, p1_, p0_, SgR, ev_eq, if_true, Bool.false_eq_true, if_false, and_true]; omega) K31_2 (own_sg (by simp only [ev_eq]; omega))
    · by_cases t2 : 0 < (0 : Int) + (1) * ν.p
      · by_cases t3 : 0 < (0 : Int) + (1) * ν.b
        · by_cases t7 : 0 < (0 : Int) + (1) * ν.b + (-1) * ν.p
          · exact own_leaf (T := T31_10) l hw n0 hN (by simp only [T31_10, Sg, e1, e0, p1_, p0_, SgR, ev_eq, if_true, Bool.false_eq_true, if_false, and_true]; omega) K31_10 (own_sg (by simp only [ev_eq]; omega))
          · exact own_leaf (T := T31_6) l hw n0 hN (by simp only [T31_6, Sg, e1, e0, p1_, p0_, SgR, ev_eq, if_true, Bool.false_eq_true, if_false, and_true]; omega) K31_6 (own_sg (by simp only [ev_eq]; omega))
        · exact own_leaf (T := T31_1) l hw n0 hN (by simp only [T31_1, Sg, e1, e0, p1_, p0_, SgR, ev_eq, if_true, Bool.false_eq_true, if_false, and_true]; omega) K31_1 (own_sg (by simp only [ev_eq]; omega))
      · by_cases t3 : 0 < (0 : Int) + (1) * ν.b
        · exact own_leaf (T := T31_5) l hw n0 hN (by simp only [T31_5, Sg, e1, e0, p1_, p0_, SgR, ev_eq, if_true, Bool.false_eq_true, if_false, and_true]; omega) K31_5 (own_sg (by simp only [ev_eq]; omega))
        · exact own_leaf (T := T31_0) l hw n0 hN (by simp only [T31_0, Sg, e1, e0, p1_, p0_, SgR, ev_eq, if_true, Bool.false_eq_true, if_false, and_true]; omega) K31_0 (own_sg (by simp only [ev_eq]; omega))
def T32_0 : List OwnL.SR := [p0_ 1 0 0 0, p0_ 0 0 1 0, p0_ 0 0 0 1, p0_ 0 1 0 0]
theorem K32_0 : own_ck T32_0 S32 3 2 0 0 0 0 0 0 0 0 = true := by decide +kernel
def T32_1 : List OwnL.SR := [p0_ 1 0 0 0, p0_ 0 0 1 0, p1_ 0 0 0 1, p0_ 0 1 0 0]
theorem K32_1 : own_ck T32_1 S32 3 2 0 0 0 0 0 0 0 0 = true := by decide +kernel
def T32_2 : List OwnL.SR := [p0_ 1 0 0 0, p1_ 0 0 1 0, p0_ 0 0 0 1, p0_ 0 1 0 0, p0_ 0 0 (-1) 0, e0 0 0 1 0, e1 0 0 0 1]
theorem K32_2 : own_ck T32_2 S32 3 2 0 0 0 0 0 0 0 0 = true := by decide +kernel
def T32_3 : List OwnL.SR := [p0_ 1 0 0 0, p1_ 0 0 1 0, p1_ 0 0 0 1, p0_ 0 1 0 0, p0_ 0 0 (-1) 0, e0 0 0 1 0, e0 0 0 0 1, p0_ 0 0 1 (-1)]
theorem K32_3 : own_ck T32_3 S32 3 2 0 0 0 0 0 0 1 0 = true := by decide +kernel
def T32_4 : List OwnL.SR := [p0_ 1 0 0 0, p1_ 0 0 1 0, p1_ 0 0 0 1, p0_ 0 1 0 0, p0_ 0 0 (-1) 0, e0 0 0 1 0, e0 0 0 0 1, p1_ 0 0 1 (-1), p0_ 0 0 (-1) 1, p0_ 0 0 0 (-1)]
theorem K32_4 : own_ck T32_4 S32 3 2 0 0 0 0 0 0 0 1 = true := by decide +kernel
def T32_5 : List OwnL.SR := [p0_ 1 0 0 0, p0_ 0 0 1 0, p0_ 0 0 0 1, p1_ 0 1 0 0, p0_ 0 (-1) 0 0, e0 0 1 0 0, e1 0 0 0 1]
theorem K32_5 : own_ck T32_5 S32 3 2 0 0 0 0 0 0 0 0 = true := by decide +kernel
def T32_6 : List OwnL.SR := [p0_ 1 0 0 0, p0_ 0 0 1 0, p1_ 0 0 0 1, p1_ 0 1 0 0, p0_ 0 (-1) 0 0, e0 0 1 0 0, e0 0 0 0 1, p0_ 0 1 0 (-1), e1 1 0 0 0, e1 0 0 1 0]
theorem K32_6 : own_ck T32_6 S32 3 2 0 0 0 0 0 0 0 0 = true := by decide +kernel
def T32_7 : List OwnL.SR := [p0_ 1 0 0 0, p1_ 0 0 1 0, p0_ 0 0 0 1, p1_ 0 1 0 0, p0_ 0 0 (-1) 0, p1_ 0 1 1 0, p0_ 0 (-1) 0 0, e0 0 1 0 0, e0 0 0 1 0, e1 0 0 0 1]
theorem K32_7 : own_ck T32_7 S32 3 2 0 0 0 0 0 0 0 0 = true := by decide +kernel
def T32_8 : List OwnL.SR := [p0_ 1 0 0 0, p1_ 0 0 1 0, p1_ 0 0 0 1, p1_ 0 1 0 0, p0_ 0 0 (-1) 0, p1_ 0 1 1 0, p0_ 0 (-1) 0 0, e0 0 1 0 0, e0 0 0 1 0, e0 0 0 0 1, p1_ 0 1 1 (-1), p0_ 0 0 (-1) 1, p0_ 0 1 0 (-1), e1 1 0 0 0, e0 0 1 1 (-1)]
theorem K32_8 : own_ck T32_8 S32 3 2 0 0 0 0 0 0 0 1 = true := by decide +kernel
def T32_9 : List OwnL.SR := [p0_ 1 0 0 0, p1_ 0 0 1 0, p1_ 0 0 0 1, p1_ 0 1 0 0, p0_ 0 0 (-1) 0, p1_ 0 1 1 0, p0_ 0 (-1) 0 0, e0 0 1 0 0, e0 0 0 1 0, e0 0 0 0 1, p0_ 0 1 1 (-1), e1 1 0 0 0, e0 0 1 1 0, e0 0 0 (-1) 1, p1_ 0 0 (-1) 1]
theorem K32_9 : own_ck T32_9 S32 3 2 0 0 0 0 0 0 1 0 = true := by decide +kernel
def T32_10 : List OwnL.SR := [p0_ 1 0 0 0, p0_ 0 0 1 0, p1_ 0 0 0 1, p1_ 0 1 0 0, p0_ 0 (-1) 0 0, e0 0 1 0 0, e0 0 0 0 1, p1_ 0 1 0 (-1), p0_ 0 0 0 (-1), e1 1 0 0 0, e1 0 0 1 0]
theorem K32_10 : own_ck T32_10 S32 3 2 0 0 0 0 0 0 0 0 = true := by decide +kernel
def T32_11 : List OwnL.SR := [p0_ 1 0 0 0, p1_ 0 0 1 0, p1_ 0 0 0 1, p1_ 0 1 0 0, p0_ 0 0 (-1) 0, p1_ 0 1 1 0, p0_ 0 (-1) 0 0, e0 0 1 0 0, e0 0 0 1 0, e0 0 0 0 1, p1_ 0 1 1 (-1), p0_ 0 0 (-1) 1, p1_ 0 1 0 (-1), p0_ 0 0 0 (-1), e1 1 0 0 0]
theorem K32_11 : own_ck T32_11 S32 3 2 0 0 0 0 0 0 0 1 = true := by decide +kernel
def T32_12 : List OwnL.SR := [p0_ 1 0 0 0, p1_ 0 0 1 0, p1_ 0 0 0 1, p1_ 0 1 0 0, p0_ 0 0 (-1) 0, p1_ 0 1 1 0, p0_ 0 (-1) 0 0, e0 0 1 0 0, e0 0 0 1 0, e0 0 0 0 1, p1_ 0 1 1 (-1), p1_ 0 0 (-1) 1, p0_ 0 1 0 (-1), e1 1 0 0 0, e0 0 1 1 (-1), e0 0 0 (-1) 1, p0_ 0 0 1 (-1)]
theorem K32_12 : own_ck T32_12 S32 3 2 0 0 0 0 0 0 1 0 = true := by decide +kernel
def T32_13 : List OwnL.SR := [p0_ 1 0 0 0, p1_ 0 0 1 0, p1_ 0 0 0 1, p1_ 0 1 0 0, p0_ 0 0 (-1) 0, p1_ 0 1 1 0, p0_ 0 (-1) 0 0, e0 0 1 0 0, e0 0 0 1 0, e0 0 0 0 1, p1_ 0 1 1 (-1), p1_ 0 0 (-1) 1, p1_ 0 1 0 (-1), p0_ 0 0 0 (-1), e1 1 0 0 0]
theorem K32_13 : own_ck T32_13 S32 3 2 0 0 0 0 0 0 1 0 = true := by decide +kernel
def T32_14 : List OwnL.SR := [p1_ 1 0 0 0, p0_ 0 0 1 0, p0_ 0 0 0 1, p0_ 0 1 0 0]
theorem K32_14 : own_ck T32_14 S32 3 2 0 0 0 0 0 0 0 0 = true := by decide +kernel
def T32_15 : List OwnL.SR := [p1_ 1 0 0 0, p0_ 0 0 1 0, p1_ 0 0 0 1, p0_ 0 1 0 0]
theorem K32_15 : own_ck T32_15 S32 3 2 0 0 0 0 0 0 0 0 = true := by decide +kernel
def T32_16 : List OwnL.SR := [p1_ 1 0 0 0, p1_ 0 0 1 0, p0_ 0 0 0 1, p0_ 0 1 0 0, p0_ 0 0 (-1) 0, e0 0 0 1 0, e1 0 0 0 1]
theorem K32_16 : own_ck T32_16 S32 3 2 0 0 0 0 0 0 0 0 = true := by decide +kernel
def T32_17 : List OwnL.SR := [p1_ 1 0 0 0, p1_ 0 0 1 0, p1_ 0 0 0 1, p0_ 0 1 0 0, p0_ 0 0 (-1) 0, e0 0 0 1 0, e0 0 0 0 1, p0_ 0 0 1 (-1)]
theorem K32_17 : own_ck T32_17 S32 3 2 0 0 0 0 0 0 1 0 = true := by decide +kernel
def T32_18 : List OwnL.SR := [p1_ 1 0 0 0, p1_ 0 0 1 0, p1_ 0 0 0 1, p0_ 0 1 0 0, p0_ 0 0 (-1) 0, e0 0 0 1 0, e0 0 0 0 1, p1_ 0 0 1 (-1), p0_ 0 0 (-1) 1, p0_ 0 0 0 (-1)]
theorem K32_18 : own_ck T32_18 S32 3 2 0 0 0 0 0 0 0 1 = true := by decide +kernel
def T32_19 : List OwnL.SR := [p1_ 1 0 0 0, p0_ 0 0 1 0, p0_ 0 0 0 1, p1_ 0 1 0 0, p0_ 0 (-1) 0 0, e0 0 1 0 0, e1 0 0 0 1]
theorem K32_19 : own_ck T32_19 S32 3 2 0 0 0 0 0 0 0 0 = true := by decide +kernel
def T32_20 : List OwnL.SR := [p1_ 1 0 0 0, p0_ 0 0 1 0, p1_ 0 0 0 1, p1_ 0 1 0 0, p0_ 0 (-1) 0 0, e0 0 1 0 0, e0 0 0 0 1, p0_ 0 1 0 (-1), e0 1 0 0 0, e1 0 0 1 0, p0_ (-1) 1 0 0]
theorem K32_20 : own_ck T32_20 S32 3 2 0 1 0 0 0 0 0 0 = true := by decide +kernel
def T32_21 : List OwnL.SR := [p1_ 1 0 0 0, p1_ 0 0 1 0, p0_ 0 0 0 1, p1_ 0 1 0 0, p0_ 0 0 (-1) 0, p1_ 0 1 1 0, p0_ 0 (-1) 0 0, e0 0 1 0 0, e0 0 0 1 0, e1 0 0 0 1]
theorem K32_21 : own_ck T32_21 S32 3 2 0 0 0 0 0 0 0 0 = true := by decide +kernel
def T32_22 : List OwnL.SR := [p1_ 1 0 0 0, p1_ 0 0 1 0, p1_ 0 0 0 1, p1_ 0 1 0 0, p0_ 0 0 (-1) 0, p1_ 0 1 1 0, p0_ 0 (-1) 0 0, e0 0 1 0 0, e0 0 0 1 0, e0 0 0 0 1, p1_ 0 1 1 (-1), p0_ 0 0 (-1) 1, p0_ 0 1 0 (-1), e0 1 0 0 0, e0 0 1 1 (-1), p0_ (-1) 1 0 0]
theorem K32_22 : own_ck T32_22 S32 3 2 0 1 0 0 0 (-1) 0 1 = true := by decide +kernel
def T32_23 : List OwnL.SR := [p1_ 1 0 0 0, p1_ 0 0 1 0, p1_ 0 0 0 1, p1_ 0 1 0 0, p0_ 0 0 (-1) 0, p1_ 0 1 1 0, p0_ 0 (-1) 0 0, e0 0 1 0 0, e0 0 0 1 0, e0 0 0 0 1, p0_ 0 1 1 (-1), e0 1 0 0 0, e0 0 1 1 0, p0_ (-1) 1 0 0]
theorem K32_23 : own_ck T32_23 S32 3 2 0 1 0 0 0 0 1 0 = true := by decide +kernel
def T32_24 : List OwnL.SR := [p1_ 1 0 0 0, p0_ 0 0 1 0, p1_ 0 0 0 1, p1_ 0 1 0 0, p0_ 0 (-1) 0 0, e0 0 1 0 0, e0 0 0 0 1, p1_ 0 1 0 (-1), p0_ 0 0 0 (-1), e0 1 0 0 0, e1 0 0 1 0, p0_ (-1) 0 0 1]
theorem K32_24 : own_ck T32_24 S32 3 2 0 0 0 1 0 0 0 0 = true := by decide +kernel
def T32_25 : List OwnL.SR := [p1_ 1 0 0 0, p0_ 0 0 1 0, p1_ 0 0 0 1, p1_ 0 1 0 0, p0_ 0 (-1) 0 0, e0 0 1 0 0, e0 0 0 0 1, p0_ 0 1 0 (-1), e0 1 0 0 0, e1 0 0 1 0, p1_ (-1) 1 0 0, p0_ 1 (-1) 0 0, p0_ (-1) 0 0 0, e0 (-1) 0 0 1, p1_ (-1) 0 0 1]
theorem K32_25 : own_ck T32_25 S32 3 2 1 0 0 0 0 0 0 0 = true := by decide +kernel
def T32_26 : List OwnL.SR := [p1_ 1 0 0 0, p1_ 0 0 1 0, p1_ 0 0 0 1, p1_ 0 1 0 0, p0_ 0 0 (-1) 0, p1_ 0 1 1 0, p0_ 0 (-1) 0 0, e0 0 1 0 0, e0 0 0 1 0, e0 0 0 0 1, p1_ 0 1 1 (-1), p0_ 0 0 (-1) 1, p1_ 0 1 0 (-1), p0_ 0 0 0 (-1), e0 1 0 0 0, p0_ (-1) 0 0 1]
theorem K32_26 : own_ck T32_26 S32 3 2 0 0 0 1 0 0 0 0 = true := by decide +kernel
def T32_27 : List OwnL.SR := [p1_ 1 0 0 0, p1_ 0 0 1 0, p1_ 0 0 0 1, p1_ 0 1 0 0, p0_ 0 0 (-1) 0, p1_ 0 1 1 0, p0_ 0 (-1) 0 0, e0 0 1 0 0, e0 0 0 1 0, e0 0 0 0 1, p1_ 0 1 1 (-1), p1_ 0 0 (-1) 1, p0_ 0 1 0 (-1), e0 1 0 0 0, e0 0 1 1 (-1), p1_ (-1) 1 0 0, p0_ 1 (-1) 0 0, p0_ (-1) 0 (-1) 1, e0 (-1) 0 0 1, p1_ (-1) 0 0 1, p0_ (-1) 0 0 0]
theorem K32_27 : own_ck T32_27 S32 3 2 1 0 0 0 (-1) 0 0 1 = true := by decide +kernel
def T32_28 : List OwnL.SR := [p1_ 1 0 0 0, p1_ 0 0 1 0, p1_ 0 0 0 1, p1_ 0 1 0 0, p0_ 0 0 (-1) 0, p1_ 0 1 1 0, p0_ 0 (-1) 0 0, e0 0 1 0 0, e0 0 0 1 0, e0 0 0 0 1, p0_ 0 1 1 (-1), e0 1 0 0 0, e0 0 1 1 0, p1_ (-1) 1 0 0, p0_ 1 (-1) 0 0, p0_ (-1) 0 (-1) 0, e0 (-1) 0 (-1) 1, p1_ (-1) 0 (-1) 1, p0_ (-1) 0 0 0]
theorem K32_28 : own_ck T32_28 S32 3 2 1 0 0 0 0 0 1 0 = true := by decide +kernel
def T32_29 : List OwnL.SR := [p1_ 1 0 0 0, p1_ 0 0 1 0, p1_ 0 0 0 1, p1_ 0 1 0 0, p0_ 0 0 (-1) 0, p1_ 0 1 1 0, p0_ 0 (-1) 0 0, e0 0 1 0 0, e0 0 0 1 0, e0 0 0 0 1, p1_ 0 1 1 (-1), p0_ 0 0 (-1) 1, p0_ 0 1 0 (-1), e0 1 0 0 0, e0 0 1 1 (-1), p1_ (-1) 1 0 0, p0_ 1 (-1) 0 0, p0_ (-1) 0 (-1) 1, e0 (-1) 0 0 1, p1_ (-1) 0 0 1, p0_ (-1) 0 0 0]
theorem K32_29 : own_ck T32_29 S32 3 2 1 0 0 0 (-1) 0 0 1 = true := by decide +kernel
def T32_30 : List OwnL.SR := [p1_ 1 0 0 0, p0_ 0 0 1 0, p1_ 0 0 0 1, p1_ 0 1 0 0, p0_ 0 (-1) 0 0, e0 0 1 0 0, e0 0 0 0 1, p1_ 0 1 0 (-1), p0_ 0 0 0 (-1), e0 1 0 0 0, e1 0 0 1 0, p1_ (-1) 0 0 1, p0_ 1 0 0 (-1), p0_ (-1) 0 0 0]
theorem K32_30 : own_ck T32_30 S32 3 2 1 0 0 0 0 0 0 0 = true := by decide +kernel
def T32_31 : List OwnL.SR := [p1_ 1 0 0 0, p1_ 0 0 1 0, p1_ 0 0 0 1, p1_ 0 1 0 0, p0_ 0 0 (-1) 0, p1_ 0 1 1 0, p0_ 0 (-1) 0 0, e0 0 1 0 0, e0 0 0 1 0, e0 0 0 0 1, p1_ 0 1 1 (-1), p1_ 0 0 (-1) 1, p1_ 0 1 0 (-1), p0_ 0 0 0 (-1), e0 1 0 0 0, p1_ (-1) 0 0 1, p0_ 1 0 0 (-1), p0_ (-1) 0 (-1) 1, p0_ (-1) 0 0 0]
theorem K32_31 : own_ck T32_31 S32 3 2 1 0 0 0 (-1) 0 0 1 = true := by decide +kernel
def T32_32 : List OwnL.SR := [p1_ 1 0 0 0, p1_ 0 0 1 0, p1_ 0 0 0 1, p1_ 0 1 0 0, p0_ 0 0 (-1) 0, p1_ 0 1 1 0, p0_ 0 (-1) 0 0, e0 0 1 0 0, e0 0 0 1 0, e0 0 0 0 1, p1_ 0 1 1 (-1), p1_ 0 0 (-1) 1, p0_ 0 1 0 (-1), e0 1 0 0 0, e0 0 1 1 (-1), p1_ (-1) 1 0 0, p0_ 1 (-1) 0 0, p1_ (-1) 0 (-1) 1, p0_ (-1) 0 (-1) 0, e0 (-1) 0 (-1) 1, p0_ 0 0 1 (-1), p0_ 1 0 1 (-1), e0 0 0 (-1) 1, p0_ (-1) 0 0 0]
theorem K32_32 : own_ck T32_32 S32 3 2 1 0 0 0 0 0 1 0 = true := by decide +kernel
def T32_33 : List OwnL.SR := [p1_ 1 0 0 0, p1_ 0 0 1 0, p1_ 0 0 0 1, p1_ 0 1 0 0, p0_ 0 0 (-1) 0, p1_ 0 1 1 0, p0_ 0 (-1) 0 0, e0 0 1 0 0, e0 0 0 1 0, e0 0 0 0 1, p1_ 0 1 1 (-1), p0_ 0 0 (-1) 1, p1_ 0 1 0 (-1), p0_ 0 0 0 (-1), e0 1 0 0 0, p1_ (-1) 0 0 1, p0_ 1 0 0 (-1), p0_ (-1) 0 (-1) 1, p0_ (-1) 0 0 0]
theorem K32_33 : own_ck T32_33 S32 3 2 1 0 0 0 (-1) 0 0 1 = true := by decide +kernel
def T32_34 : List OwnL.SR := [p1_ 1 0 0 0, p1_ 0 0 1 0, p1_ 0 0 0 1, p1_ 0 1 0 0, p0_ 0 0 (-1) 0, p1_ 0 1 1 0, p0_ 0 (-1) 0 0, e0 0 1 0 0, e0 0 0 1 0, e0 0 0 0 1, p1_ 0 1 1 (-1), p1_ 0 0 (-1) 1, p1_ 0 1 0 (-1), p0_ 0 0 0 (-1), e0 1 0 0 0, p1_ (-1) 0 0 1, p0_ 1 0 0 (-1), p1_ (-1) 0 (-1) 1, p0_ (-1) 0 (-1) 0, p0_ (-1) 0 0 0]
theorem K32_34 : own_ck T32_34 S32 3 2 1 0 0 0 0 0 1 0 = true := by decide +kernel
def T32_35 : List OwnL.SR := [p1_ 1 0 0 0, p1_ 0 0 1 0, p1_ 0 0 0 1, p1_ 0 1 0 0, p0_ 0 0 (-1) 0, p1_ 0 1 1 0, p0_ 0 (-1) 0 0, e0 0 1 0 0, e0 0 0 1 0, e0 0 0 0 1, p1_ 0 1 1 (-1), p1_ 0 0 (-1) 1, p0_ 0 1 0 (-1), e0 1 0 0 0, e0 0 1 1 (-1), p0_ (-1) 1 0 0]
theorem K32_35 : own_ck T32_35 S32 3 2 0 1 0 0 0 (-1) 0 1 = true := by decide +kernel
def T32_36 : List OwnL.SR := [p1_ 1 0 0 0, p1_ 0 0 1 0, p1_ 0 0 0 1, p1_ 0 1 0 0, p0_ 0 0 (-1) 0, p1_ 0 1 1 0, p0_ 0 (-1) 0 0, e0 0 1 0 0, e0 0 0 1 0, e0 0 0 0 1, p1_ 0 1 1 (-1), p1_ 0 0 (-1) 1, p1_ 0 1 0 (-1), p0_ 0 0 0 (-1), e0 1 0 0 0, p0_ (-1) 0 0 1]
theorem K32_36 : own_ck T32_36 S32 3 2 0 0 0 1 0 0 0 0 = true := by decide +kernel
theorem c_run32 (l : Launch) {Z : State} {a0 : Array Value} (hw : HW1 Z a0) (n0 : Nat) {ν : OwnL.Va} (hB : own_bx ν) : Met l Z KT n0 y11 b11 4 none ({ frames := 4, cells := 0, slots := 0, locals := 100 } : Room) #[.ref (n0 + 6)] (own_h40.map (upO n0 ν)) (own_Q n0 ν (own_P (-(3 : Nat)) (-(2 : Nat))) 3 2) := by
  have hN := own_bxok hB
  obtain ⟨⟨_, _⟩, ⟨_, _⟩, ⟨_, _⟩, ⟨_, _⟩⟩ := id hB
  by_cases t0 : 0 < (0 : Int) + (1) * ν.a
  · by_cases t1 : 0 < (0 : Int) + (1) * ν.c
    · by_cases t2 : 0 < (0 : Int) + (1) * ν.p
      · by_cases t3 : 0 < (0 : Int) + (1) * ν.b
        · by_cases t10 : 0 < (0 : Int) + (1) * ν.b + (1) * ν.c + (-1) * ν.p
          · by_cases t11 : 0 < (0 : Int) + (-1) * ν.c + (1) * ν.p
            · by_cases t12 : 0 < (0 : Int) + (1) * ν.b + (-1) * ν.p
              · by_cases t15 : 0 < (0 : Int) + (-1) * ν.a + (1) * ν.p
                · by_cases t17 : 0 < (0 : Int) + (-1) * ν.a + (-1) * ν.c + (1) * ν.p
                  · exact own_leaf (T := T32_34) l hw n0 hN (by simp only [T32_34, Sg, e1, e0, p1_, p0_, SgR, ev_eq, if_true, Bool.false_eq_true, if_false, and_true]; omega) K32_34 (own_sg (by simp only [ev_eq]; omega))
                  · exact own_leaf (T := T32_31) l hw n0 hN (by simp only [T32_31, Sg, e1, e0, p1_, p0_, SgR, ev_eq, if_true, Bool.false_eq_true, if_false, and_true]; omega) K32_31 (own_sg (by simp only [ev_eq]; omega))
                · exact own_leaf (T := T32_36) l hw n0 hN (by simp only [T32_36, Sg, e1, e0, p1_, p0_, SgR, ev_eq, if_true, Bool.false_eq_true, if_false, and_true]; omega) K32_36 (own_sg (by simp only [ev_eq]; omega))
              · by_cases t15 : 0 < (0 : Int) + (-1) * ν.a + (1) * ν.b
                · by_cases t17 : 0 < (0 : Int) + (-1) * ν.a + (-1) * ν.c + (1) * ν.p
                  · exact own_leaf (T := T32_32) l hw n0 hN (by simp only [T32_32, Sg, e1, e0, p1_, p0_, SgR, ev_eq, if_true, Bool.false_eq_true, if_false, and_true]; omega) K32_32 (own_sg (by simp only [ev_eq]; omega))
                  · exact own_leaf (T := T32_27) l hw n0 hN (by simp only [T32_27, Sg, e1, e0, p1_, p0_, SgR, ev_eq, if_true, Bool.false_eq_true, if_false, and_true]; omega) K32_27 (own_sg (by simp only [ev_eq]; omega))
                · exact own_leaf (T := T32_35) l hw n0 hN (by simp only [T32_35, Sg, e1, e0, p1_, p0_, SgR, ev_eq, if_true, Bool.false_eq_true, if_false, and_true]; omega) K32_35 (own_sg (by simp only [ev_eq]; omega))
            · by_cases t12 : 0 < (0 : Int) + (1) * ν.b + (-1) * ν.p
              · by_cases t15 : 0 < (0 : Int) + (-1) * ν.a + (1) * ν.p
                · exact own_leaf (T := T32_33) l hw n0 hN (by simp only [T32_33, Sg, e1, e0, p1_, p0_, SgR, ev_eq, if_true, Bool.false_eq_true, if_false, and_true]; omega) K32_33 (own_sg (by simp only [ev_eq]; omega))
                · exact own_leaf (T := T32_26) l hw n0 hN (by simp only [T32_26, Sg, e1, e0, p1_, p0_, SgR, ev_eq, if_true, Bool.false_eq_true, if_false, and_true]; omega) K32_26 (own_sg (by simp only [ev_eq]; omega))
              · by_cases t15 : 0 < (0 : Int) + (-1) * ν.a + (1) * ν.b
                · exact own_leaf (T := T32_29) l hw n0 hN (by simp only [T32_29, Sg, e1, e0, p1_, p0_, SgR, ev_eq, if_true, Bool.false_eq_true, if_false, and_true]; omega) K32_29 (own_sg (by simp only [ev_eq]; omega))
                · exact own_leaf (T := T32_22) l hw n0 hN (by simp only [T32_22, Sg, e1, e0, p1_, p0_, SgR, ev_eq, if_true, Bool.false_eq_true, if_false, and_true]; omega) K32_22 (own_sg (by simp only [ev_eq]; omega))
          · by_cases t13 : 0 < (0 : Int) + (-1) * ν.a + (1) * ν.b
            · exact own_leaf (T := T32_28) l hw n0 hN (by simp only [T32_28, Sg, e1, e0, p1_, p0_, SgR, ev_eq, if_true, Bool.false_eq_true, if_false, and_true]; omega) K32_28 (own_sg (by simp only [ev_eq]; omega))
            · exact own_leaf (T := T32_23) l hw n0 hN (by simp only [T32_23, Sg, e1, e0, p1_, p0_, SgR, ev_eq, if_true, Bool.false_eq_true, if_false, and_true]; omega) K32_23 (own_sg (by simp only [ev_eq]; omega))
        · by_cases t7 : 0 < (0 : Int) + (1) * ν.c + (-1) * ν.p
          · exact own_leaf (T := T32_18) l hw n0 hN (by simp only [T32_18, Sg, e1, e0, p1_, p0_, SgR, ev_eq, if_true, Bool.false_eq_true, if_false, and_true]; omega) K32_18 (own_sg (by simp only [ev_eq]; omega))
          · exact own_leaf (T := T32_17) l hw n0 hN (by simp only [T32_17, Sg, e1, e0, p1_, p0_, SgR, ev_eq, if_true, Bool.false_eq_true, if_false, and_true]; omega) K32_17 (own_sg (by simp only [ev_eq]; omega))
      · by_cases t3 : 0 < (0 : Int) + (1) * ν.b
        · exact own_leaf (T := T32_21) l hw n0 hN (by simp only [T32_21, Sg, e1, e0, p1_, p0_, SgR, ev_eq, if_true, Bool.false_eq_true, if_false, and_true]; omega) K32_21 (own_sg (by simp only [ev_eq]; omega))
        · exact own_leaf (T := T32_16) l hw n0 hN (by simp only [T32_16, Sg, e1, e0, p1_, p0_, SgR, ev_eq, if_true, Bool.false_eq_true, if_false, and_true]; omega) K32_16 (own_sg (by simp only [ev_eq]; omega))
    · by_cases t2 : 0 < (0 : Int) + (1) * ν.p
      · by_cases t3 : 0 < (0 : Int) + (1) * ν.b
        · by_cases t7 : 0 < (0 : Int) + (1) * ν.b + (-1) * ν.p
          · by_cases t11 : 0 < (0 : Int) + (-1) * ν.a + (1) * ν.p
            · exact own_leaf (T := T32_30) l hw n0 hN (by simp only [T32_30, Sg, e1, e0, p1_, p0_, SgR, ev_eq, if_true, Bool.false_eq_true, if_false, and_true]; omega) K32_30 (own_sg (by simp only [ev_eq]; omega))
            · exact own_leaf (T := T32_24) l hw n0 hN (by simp only [T32_24, Sg, e1, e0, p1_, p0_, SgR, ev_eq, if_true, Bool.false_eq_true, if_false, and_true]; omega) K32_24 (own_sg (by simp only [ev_eq]; omega))
          · by_cases t10 : 0 < (0 : Int) + (-1) * ν.a + (1) * ν.b
            · exact own_leaf (T := T32_25) l hw n0 hN (by simp only [T32_25, Sg, e1, e0, p1_, p0_, SgR, ev_eq, if_true, Bool.false_eq_true, if_false, and_true]; omega) K32_25 (own_sg (by simp only [ev_eq]; omega))
            · exact own_leaf (T := T32_20) l hw n0 hN (by simp only [T32_20, Sg, e1, e0, p1_, p0_, SgR, ev_eq, if_true, Bool.false_eq_true, if_false, and_true]; omega) K32_20 (own_sg (by simp only [ev_eq]; omega))
        · exact own_leaf (T := T32_15) l hw n0 hN (by simp only [T32_15, Sg, e1, e0, p1_, p0_, SgR, ev_eq, if_true, Bool.false_eq_true, if_false, and_true]; omega) K32_15 (own_sg (by simp only [ev_eq]; omega))
      · by_cases t3 : 0 < (0 : Int) + (1) * ν.b
        · exact own_leaf (T := T32_19) l hw n0 hN (by simp only [T32_19, Sg, e1, e0, p1_, p0_, SgR, ev_eq, if_true, Bool.false_eq_true, if_false, and_true]; omega) K32_19 (own_sg (by simp only [ev_eq]; omega))
        · exact own_leaf (T := T32_14) l hw n0 hN (by simp only [T32_14, Sg, e1, e0, p1_, p0_, SgR, ev_eq, if_true, Bool.false_eq_true, if_false, and_true]; omega) K32_14 (own_sg (by simp only [ev_eq]; omega))
  · by_cases t1 : 0 < (0 : Int) + (1) * ν.c
    · by_cases t2 : 0 < (0 : Int) + (1) * ν.p
      · by_cases t3 : 0 < (0 : Int) + (1) * ν.b
        · by_cases t10 : 0 < (0 : Int) + (1) * ν.b + (1) * ν.c + (-1) * ν.p
          · by_cases t11 : 0 < (0 : Int) + (-1) * ν.c + (1) * ν.p
            · by_cases t12 : 0 < (0 : Int) + (1) * ν.b + (-1) * ν.p
              · exact own_leaf (T := T32_13) l hw n0 hN (by simp only [T32_13, Sg, e1, e0, p1_, p0_, SgR, ev_eq, if_true, Bool.false_eq_true, if_false, and_true]; omega) K32_13 (own_sg (by simp only [ev_eq]; omega))
              · exact own_leaf (T := T32_12) l hw n0 hN (by simp only [T32_12, Sg, e1, e0, p1_, p0_, SgR, ev_eq, if_true, Bool.false_eq_true, if_false, and_true]; omega) K32_12 (own_sg (by simp only [ev_eq]; omega))
            · by_cases t12 : 0 < (0 : Int) + (1) * ν.b + (-1) * ν.p
              · exact own_leaf (T := T32_11) l hw n0 hN (by simp only [T32_11, Sg, e1, e0, p1_, p0_, SgR, ev_eq, if_true, Bool.false_eq_true, if_false, and_true]; omega) K32_11 (own_sg (by simp only [ev_eq]; omega))
              · exact own_leaf (T := T32_8) l hw n0 hN (by simp only [T32_8, Sg, e1, e0, p1_, p0_, SgR, ev_eq, if_true, Bool.false_eq_true, if_false, and_true]; omega) K32_8 (own_sg (by simp only [ev_eq]; omega))
          · exact own_leaf (T := T32_9) l hw n0 hN (by simp only [T32_9, Sg, e1, e0, p1_, p0_, SgR, ev_eq, if_true, Bool.false_eq_true, if_false, and_true]; omega) K32_9 (own_sg (by simp only [ev_eq]; omega))
        · by_cases t7 : 0 < (0 : Int) + (1) * ν.c + (-1) * ν.p
          · exact own_leaf (T := T32_4) l hw n0 hN (by simp only [T32_4, Sg, e1, e0, p1_, p0_, SgR, ev_eq, if_true, Bool.false_eq_true, if_false, and_true]; omega) K32_4 (own_sg (by simp only [ev_eq]; omega))
          · exact own_leaf (T := T32_3) l hw n0 hN (by simp only [T32_3, Sg, e1, e0, p1_, p0_, SgR, ev_eq, if_true, Bool.false_eq_true, if_false, and_true]; omega) K32_3 (own_sg (by simp only [ev_eq]; omega))
      · by_cases t3 : 0 < (0 : Int) + (1) * ν.b
        · exact own_leaf (T := T32_7) l hw n0 hN (by simp only [T32_7, Sg, e1, e0, p1_, p0_, SgR, ev_eq, if_true, Bool.false_eq_true, if_false, and_true]; omega) K32_7 (own_sg (by simp only [ev_eq]; omega))
        · exact own_leaf (T := T32_2) l hw n0 hN (by simp only [T32_2, Sg, e1, e0, p1_, p0_, SgR, ev_eq, if_true, Bool.false_eq_true, if_false, and_true]; omega) K32_2 (own_sg (by simp only [ev_eq]; omega))
    · by_cases t2 : 0 < (0 : Int) + (1) * ν.p
      · by_cases t3 : 0 < (0 : Int) + (1) * ν.b
        · by_cases t7 : 0 < (0 : Int) + (1) * ν.b + (-1) * ν.p
          · exact own_leaf (T := T32_10) l hw n0 hN (by simp only [T32_10, Sg, e1, e0, p1_, p0_, SgR, ev_eq, if_true, Bool.false_eq_true, if_false, and_true]; omega) K32_10 (own_sg (by simp only [ev_eq]; omega))
          · exact own_leaf (T := T32_6) l hw n0 hN (by simp only [T32_6, Sg, e1, e0, p1_, p0_, SgR, ev_eq, if_true, Bool.false_eq_true, if_false, and_true]; omega) K32_6 (own_sg (by simp only [ev_eq]; omega))
        · exact own_leaf (T := T32_1) l hw n0 hN (by simp only [T32_1, Sg, e1, e0, p1_, p0_, SgR, ev_eq, if_true, Bool.false_eq_true, if_false, and_true]; omega) K32_1 (own_sg (by simp only [ev_eq]; omega))
      · by_cases t3 : 0 < (0 : Int) + (1) * ν.b
        · exact own_leaf (T := T32_5) l hw n0 hN (by simp only [T32_5, Sg, e1, e0, p1_, p0_, SgR, ev_eq, if_true, Bool.false_eq_true, if_false, and_true]; omega) K32_5 (own_sg (by simp only [ev_eq]; omega))
        · exact own_leaf (T := T32_0) l hw n0 hN (by simp only [T32_0, Sg, e1, e0, p1_, p0_, SgR, ev_eq, if_true, Bool.false_eq_true, if_false, and_true]; omega) K32_0 (own_sg (by simp only [ev_eq]; omega))
def T33_0 : List OwnL.SR := [p0_ 1 0 0 0, p0_ 0 0 1 0, p0_ 0 0 0 1, p0_ 0 1 0 0]
theorem K33_0 : own_ck T33_0 S33 3 3 0 0 0 0 0 0 0 0 = true := by decide +kernel
def T33_1 : List OwnL.SR := [p0_ 1 0 0 0, p0_ 0 0 1 0, p1_ 0 0 0 1, p0_ 0 1 0 0]
theorem K33_1 : own_ck T33_1 S33 3 3 0 0 0 0 0 0 0 0 = true := by decide +kernel
def T33_2 : List OwnL.SR := [p0_ 1 0 0 0, p1_ 0 0 1 0, p0_ 0 0 0 1, p0_ 0 1 0 0, p0_ 0 0 (-1) 0, e0 0 0 1 0, e1 0 0 0 1]
theorem K33_2 : own_ck T33_2 S33 3 3 0 0 0 0 0 0 0 0 = true := by decide +kernel
def T33_3 : List OwnL.SR := [p0_ 1 0 0 0, p1_ 0 0 1 0, p1_ 0 0 0 1, p0_ 0 1 0 0, p0_ 0 0 (-1) 0, e0 0 0 1 0, e0 0 0 0 1, p0_ 0 0 1 (-1)]
theorem K33_3 : own_ck T33_3 S33 3 3 0 0 0 0 0 0 1 0 = true := by decide +kernel
def T33_4 : List OwnL.SR := [p0_ 1 0 0 0, p1_ 0 0 1 0, p1_ 0 0 0 1, p0_ 0 1 0 0, p0_ 0 0 (-1) 0, e0 0 0 1 0, e0 0 0 0 1, p1_ 0 0 1 (-1), p0_ 0 0 (-1) 1, p0_ 0 0 0 (-1)]
theorem K33_4 : own_ck T33_4 S33 3 3 0 0 0 0 0 0 0 1 = true := by decide +kernel
def T33_5 : List OwnL.SR := [p0_ 1 0 0 0, p0_ 0 0 1 0, p0_ 0 0 0 1, p1_ 0 1 0 0, p0_ 0 (-1) 0 0, e0 0 1 0 0, e1 0 0 0 1]
theorem K33_5 : own_ck T33_5 S33 3 3 0 0 0 0 0 0 0 0 = true := by decide +kernel
def T33_6 : List OwnL.SR := [p0_ 1 0 0 0, p0_ 0 0 1 0, p1_ 0 0 0 1, p1_ 0 1 0 0, p0_ 0 (-1) 0 0, e0 0 1 0 0, e0 0 0 0 1, p0_ 0 1 0 (-1), e1 1 0 0 0, e1 0 0 1 0]
theorem K33_6 : own_ck T33_6 S33 3 3 0 0 0 0 0 0 0 0 = true := by decide +kernel
def T33_7 : List OwnL.SR := [p0_ 1 0 0 0, p1_ 0 0 1 0, p0_ 0 0 0 1, p1_ 0 1 0 0, p0_ 0 0 (-1) 0, p1_ 0 1 1 0, p0_ 0 (-1) 0 0, e0 0 1 0 0, e0 0 0 1 0, e1 0 0 0 1]
theorem K33_7 : own_ck T33_7 S33 3 3 0 0 0 0 0 0 0 0 = true := by decide +kernel
def T33_8 : List OwnL.SR := [p0_ 1 0 0 0, p1_ 0 0 1 0, p1_ 0 0 0 1, p1_ 0 1 0 0, p0_ 0 0 (-1) 0, p1_ 0 1 1 0, p0_ 0 (-1) 0 0, e0 0 1 0 0, e0 0 0 1 0, e0 0 0 0 1, p1_ 0 1 1 (-1), p0_ 0 0 (-1) 1, p0_ 0 0 1 (-1)]
theorem K33_8 : own_ck T33_8 S33 3 3 0 0 (-1) 1 0 0 1 0 = true := by decide +kernel
def T33_9 : List OwnL.SR := [p0_ 1 0 0 0, p1_ 0 0 1 0, p1_ 0 0 0 1, p1_ 0 1 0 0, p0_ 0 0 (-1) 0, p1_ 0 1 1 0, p0_ 0 (-1) 0 0, e0 0 1 0 0, e0 0 0 1 0, e0 0 0 0 1, p0_ 0 1 1 (-1), e1 1 0 0 0, e0 0 1 1 0, e0 0 0 (-1) 1, p1_ 0 0 (-1) 1]
theorem K33_9 : own_ck T33_9 S33 3 3 0 0 0 0 0 0 1 0 = true := by decide +kernel
def T33_10 : List OwnL.SR := [p0_ 1 0 0 0, p1_ 0 0 1 0, p1_ 0 0 0 1, p1_ 0 1 0 0, p0_ 0 0 (-1) 0, p1_ 0 1 1 0, p0_ 0 (-1) 0 0, e0 0 1 0 0, e0 0 0 1 0, e0 0 0 0 1, p1_ 0 1 1 (-1), p0_ 0 0 (-1) 1, p1_ 0 0 1 (-1), p0_ 0 0 0 (-1)]
theorem K33_10 : own_ck T33_10 S33 3 3 0 0 0 0 0 0 0 1 = true := by decide +kernel
def T33_11 : List OwnL.SR := [p0_ 1 0 0 0, p0_ 0 0 1 0, p1_ 0 0 0 1, p1_ 0 1 0 0, p0_ 0 (-1) 0 0, e0 0 1 0 0, e0 0 0 0 1, p1_ 0 1 0 (-1), p0_ 0 0 0 (-1), e1 1 0 0 0, e1 0 0 1 0]
theorem K33_11 : own_ck T33_11 S33 3 3 0 0 0 0 0 0 0 0 = true := by decide +kernel
def T33_12 : List OwnL.SR := [p0_ 1 0 0 0, p1_ 0 0 1 0, p1_ 0 0 0 1, p1_ 0 1 0 0, p0_ 0 0 (-1) 0, p1_ 0 1 1 0, p0_ 0 (-1) 0 0, e0 0 1 0 0, e0 0 0 1 0, e0 0 0 0 1, p1_ 0 1 1 (-1), p1_ 0 0 (-1) 1, p0_ 0 0 1 (-1), e1 1 0 0 0, e0 0 0 (-1) 1]
theorem K33_12 : own_ck T33_12 S33 3 3 0 0 0 0 0 0 1 0 = true := by decide +kernel
def T33_13 : List OwnL.SR := [p1_ 1 0 0 0, p0_ 0 0 1 0, p0_ 0 0 0 1, p0_ 0 1 0 0]
theorem K33_13 : own_ck T33_13 S33 3 3 0 0 0 0 0 0 0 0 = true := by decide +kernel
def T33_14 : List OwnL.SR := [p1_ 1 0 0 0, p0_ 0 0 1 0, p1_ 0 0 0 1, p0_ 0 1 0 0]
theorem K33_14 : own_ck T33_14 S33 3 3 0 0 0 0 0 0 0 0 = true := by decide +kernel
def T33_15 : List OwnL.SR := [p1_ 1 0 0 0, p1_ 0 0 1 0, p0_ 0 0 0 1, p0_ 0 1 0 0, p0_ 0 0 (-1) 0, e0 0 0 1 0, e1 0 0 0 1]
theorem K33_15 : own_ck T33_15 S33 3 3 0 0 0 0 0 0 0 0 = true := by decide +kernel
def T33_16 : List OwnL.SR := [p1_ 1 0 0 0, p1_ 0 0 1 0, p1_ 0 0 0 1, p0_ 0 1 0 0, p0_ 0 0 (-1) 0, e0 0 0 1 0, e0 0 0 0 1, p0_ 0 0 1 (-1)]
theorem K33_16 : own_ck T33_16 S33 3 3 0 0 0 0 0 0 1 0 = true := by decide +kernel
def T33_17 : List OwnL.SR := [p1_ 1 0 0 0, p1_ 0 0 1 0, p1_ 0 0 0 1, p0_ 0 1 0 0, p0_ 0 0 (-1) 0, e0 0 0 1 0, e0 0 0 0 1, p1_ 0 0 1 (-1), p0_ 0 0 (-1) 1, p0_ 0 0 0 (-1)]
theorem K33_17 : own_ck T33_17 S33 3 3 0 0 0 0 0 0 0 1 = true := by decide +kernel
def T33_18 : List OwnL.SR := [p1_ 1 0 0 0, p0_ 0 0 1 0, p0_ 0 0 0 1, p1_ 0 1 0 0, p0_ 0 (-1) 0 0, e0 0 1 0 0, e1 0 0 0 1]
theorem K33_18 : own_ck T33_18 S33 3 3 0 0 0 0 0 0 0 0 = true := by decide +kernel
def T33_19 : List OwnL.SR := [p1_ 1 0 0 0, p0_ 0 0 1 0, p1_ 0 0 0 1, p1_ 0 1 0 0, p0_ 0 (-1) 0 0, e0 0 1 0 0, e0 0 0 0 1, p0_ 0 1 0 (-1), e0 1 0 0 0, e1 0 0 1 0, p0_ (-1) 1 0 0]
theorem K33_19 : own_ck T33_19 S33 3 3 0 1 0 0 0 0 0 0 = true := by decide +kernel
def T33_20 : List OwnL.SR := [p1_ 1 0 0 0, p1_ 0 0 1 0, p0_ 0 0 0 1, p1_ 0 1 0 0, p0_ 0 0 (-1) 0, p1_ 0 1 1 0, p0_ 0 (-1) 0 0, e0 0 1 0 0, e0 0 0 1 0, e1 0 0 0 1]
theorem K33_20 : own_ck T33_20 S33 3 3 0 0 0 0 0 0 0 0 = true := by decide +kernel
def T33_21 : List OwnL.SR := [p1_ 1 0 0 0, p1_ 0 0 1 0, p1_ 0 0 0 1, p1_ 0 1 0 0, p0_ 0 0 (-1) 0, p1_ 0 1 1 0, p0_ 0 (-1) 0 0, e0 0 1 0 0, e0 0 0 1 0, e0 0 0 0 1, p1_ 0 1 1 (-1), p0_ 0 0 (-1) 1, p0_ 0 0 1 (-1)]
theorem K33_21 : own_ck T33_21 S33 3 3 0 0 (-1) 1 0 0 1 0 = true := by decide +kernel
def T33_22 : List OwnL.SR := [p1_ 1 0 0 0, p1_ 0 0 1 0, p1_ 0 0 0 1, p1_ 0 1 0 0, p0_ 0 0 (-1) 0, p1_ 0 1 1 0, p0_ 0 (-1) 0 0, e0 0 1 0 0, e0 0 0 1 0, e0 0 0 0 1, p0_ 0 1 1 (-1), e0 1 0 0 0, e0 0 1 1 0, p0_ (-1) 1 0 0]
theorem K33_22 : own_ck T33_22 S33 3 3 0 1 0 0 0 0 1 0 = true := by decide +kernel
def T33_23 : List OwnL.SR := [p1_ 1 0 0 0, p1_ 0 0 1 0, p1_ 0 0 0 1, p1_ 0 1 0 0, p0_ 0 0 (-1) 0, p1_ 0 1 1 0, p0_ 0 (-1) 0 0, e0 0 1 0 0, e0 0 0 1 0, e0 0 0 0 1, p1_ 0 1 1 (-1), p0_ 0 0 (-1) 1, p1_ 0 0 1 (-1), p0_ 0 0 0 (-1)]
theorem K33_23 : own_ck T33_23 S33 3 3 0 0 0 0 0 0 0 1 = true := by decide +kernel
def T33_24 : List OwnL.SR := [p1_ 1 0 0 0, p0_ 0 0 1 0, p1_ 0 0 0 1, p1_ 0 1 0 0, p0_ 0 (-1) 0 0, e0 0 1 0 0, e0 0 0 0 1, p1_ 0 1 0 (-1), p0_ 0 0 0 (-1), e0 1 0 0 0, e1 0 0 1 0, p0_ (-1) 0 0 1]
theorem K33_24 : own_ck T33_24 S33 3 3 0 0 0 1 0 0 0 0 = true := by decide +kernel
def T33_25 : List OwnL.SR := [p1_ 1 0 0 0, p0_ 0 0 1 0, p1_ 0 0 0 1, p1_ 0 1 0 0, p0_ 0 (-1) 0 0, e0 0 1 0 0, e0 0 0 0 1, p0_ 0 1 0 (-1), e0 1 0 0 0, e1 0 0 1 0, p1_ (-1) 1 0 0, p0_ 1 (-1) 0 0, p0_ (-1) 0 0 0, e0 (-1) 0 0 1, p1_ (-1) 0 0 1]
theorem K33_25 : own_ck T33_25 S33 3 3 1 0 0 0 0 0 0 0 = true := by decide +kernel
def T33_26 : List OwnL.SR := [p1_ 1 0 0 0, p1_ 0 0 1 0, p1_ 0 0 0 1, p1_ 0 1 0 0, p0_ 0 0 (-1) 0, p1_ 0 1 1 0, p0_ 0 (-1) 0 0, e0 0 1 0 0, e0 0 0 1 0, e0 0 0 0 1, p1_ 0 1 1 (-1), p1_ 0 0 (-1) 1, p0_ 0 0 1 (-1), e0 1 0 0 0, p0_ (-1) 0 (-1) 1]
theorem K33_26 : own_ck T33_26 S33 3 3 0 0 (-1) 1 0 0 1 0 = true := by decide +kernel
def T33_27 : List OwnL.SR := [p1_ 1 0 0 0, p1_ 0 0 1 0, p1_ 0 0 0 1, p1_ 0 1 0 0, p0_ 0 0 (-1) 0, p1_ 0 1 1 0, p0_ 0 (-1) 0 0, e0 0 1 0 0, e0 0 0 1 0, e0 0 0 0 1, p0_ 0 1 1 (-1), e0 1 0 0 0, e0 0 1 1 0, p1_ (-1) 1 0 0, p0_ 1 (-1) 0 0, p0_ (-1) 0 (-1) 0, e0 (-1) 0 (-1) 1, p1_ (-1) 0 (-1) 1, p0_ (-1) 0 0 0]
theorem K33_27 : own_ck T33_27 S33 3 3 1 0 0 0 0 0 1 0 = true := by decide +kernel
def T33_28 : List OwnL.SR := [p1_ 1 0 0 0, p0_ 0 0 1 0, p1_ 0 0 0 1, p1_ 0 1 0 0, p0_ 0 (-1) 0 0, e0 0 1 0 0, e0 0 0 0 1, p1_ 0 1 0 (-1), p0_ 0 0 0 (-1), e0 1 0 0 0, e1 0 0 1 0, p1_ (-1) 0 0 1, p0_ 1 0 0 (-1), p0_ (-1) 0 0 0]
theorem K33_28 : own_ck T33_28 S33 3 3 1 0 0 0 0 0 0 0 = true := by decide +kernel
def T33_29 : List OwnL.SR := [p1_ 1 0 0 0, p1_ 0 0 1 0, p1_ 0 0 0 1, p1_ 0 1 0 0, p0_ 0 0 (-1) 0, p1_ 0 1 1 0, p0_ 0 (-1) 0 0, e0 0 1 0 0, e0 0 0 1 0, e0 0 0 0 1, p1_ 0 1 1 (-1), p1_ 0 0 (-1) 1, p0_ 0 0 1 (-1), e0 1 0 0 0, p1_ (-1) 0 (-1) 1, p0_ 1 0 1 (-1), p0_ (-1) 0 (-1) 0, e0 0 0 (-1) 1, p0_ (-1) 0 0 0]
theorem K33_29 : own_ck T33_29 S33 3 3 1 0 0 0 0 0 1 0 = true := by decide +kernel
theorem c_run33 (l : Launch) {Z : State} {a0 : Array Value} (hw : HW1 Z a0) (n0 : Nat) {ν : OwnL.Va} (hB : own_bx ν) : Met l Z KT n0 y11 b11 4 none ({ frames := 4, cells := 0, slots := 0, locals := 100 } : Room) #[.ref (n0 + 6)] (own_h44.map (upO n0 ν)) (own_Q n0 ν (own_P (-(3 : Nat)) (-(3 : Nat))) 3 3) := by
  have hN := own_bxok hB
  obtain ⟨⟨_, _⟩, ⟨_, _⟩, ⟨_, _⟩, ⟨_, _⟩⟩ := id hB
  by_cases t0 : 0 < (0 : Int) + (1) * ν.a
  · by_cases t1 : 0 < (0 : Int) + (1) * ν.c
    · by_cases t2 : 0 < (0 : Int) + (1) * ν.p
      · by_cases t3 : 0 < (0 : Int) + (1) * ν.b
        · by_cases t10 : 0 < (0 : Int) + (1) * ν.b + (1) * ν.c + (-1) * ν.p
          · by_cases t11 : 0 < (0 : Int) + (-1) * ν.c + (1) * ν.p
            · by_cases t14 : 0 < (0 : Int) + (-1) * ν.a + (-1) * ν.c + (1) * ν.p
              · exact own_leaf (T := T33_29) l hw n0 hN (by simp only [T33_29, Sg, e1, e0, p1_, p0_, SgR, ev_eq, if_true, Bool.false_eq_true, if_false, and_true]; omega) K33_29 (own_se (by simp only [ev_eq]; omega))
              · exact own_leaf (T := T33_26) l hw n0 hN (by simp only [T33_26, Sg, e1, e0, p1_, p0_, SgR, ev_eq, if_true, Bool.false_eq_true, if_false, and_true]; omega) K33_26 (own_se (by simp only [ev_eq]; omega))
            · by_cases t12 : 0 < (0 : Int) + (1) * ν.c + (-1) * ν.p
              · exact own_leaf (T := T33_23) l hw n0 hN (by simp only [T33_23, Sg, e1, e0, p1_, p0_, SgR, ev_eq, if_true, Bool.false_eq_true, if_false, and_true]; omega) K33_23 (own_se (by simp only [ev_eq]; omega))
              · exact own_leaf (T := T33_21) l hw n0 hN (by simp only [T33_21, Sg, e1, e0, p1_, p0_, SgR, ev_eq, if_true, Bool.false_eq_true, if_false, and_true]; omega) K33_21 (own_se (by simp only [ev_eq]; omega))
          · by_cases t13 : 0 < (0 : Int) + (-1) * ν.a + (1) * ν.b
            · exact own_leaf (T := T33_27) l hw n0 hN (by simp only [T33_27, Sg, e1, e0, p1_, p0_, SgR, ev_eq, if_true, Bool.false_eq_true, if_false, and_true]; omega) K33_27 (own_se (by simp only [ev_eq]; omega))
            · exact own_leaf (T := T33_22) l hw n0 hN (by simp only [T33_22, Sg, e1, e0, p1_, p0_, SgR, ev_eq, if_true, Bool.false_eq_true, if_false, and_true]; omega) K33_22 (own_se (by simp only [ev_eq]; omega))
        · by_cases t7 : 0 < (0 : Int) + (1) * ν.c + (-1) * ν.p
          · exact own_leaf (T := T33_17) l hw n0 hN (by simp only [T33_17, Sg, e1, e0, p1_, p0_, SgR, ev_eq, if_true, Bool.false_eq_true, if_false, and_true]; omega) K33_17 (own_se (by simp only [ev_eq]; omega))
          · exact own_leaf (T := T33_16) l hw n0 hN (by simp only [T33_16, Sg, e1, e0, p1_, p0_, SgR, ev_eq, if_true, Bool.false_eq_true, if_false, and_true]; omega) K33_16 (own_se (by simp only [ev_eq]; omega))
      · by_cases t3 : 0 < (0 : Int) + (1) * ν.b
        · exact own_leaf (T := T33_20) l hw n0 hN (by simp only [T33_20, Sg, e1, e0, p1_, p0_, SgR, ev_eq, if_true, Bool.false_eq_true, if_false, and_true]; omega) K33_20 (own_se (by simp only [ev_eq]; omega))
        · exact own_leaf (T := T33_15) l hw n0 hN (by simp only [T33_15, Sg, e1, e0, p1_, p0_, SgR, ev_eq, if_true, Bool.false_eq_true, if_false, and_true]; omega) K33_15 (own_se (by simp only [ev_eq]; omega))
    · by_cases t2 : 0 < (0 : Int) + (1) * ν.p
      · by_cases t3 : 0 < (0 : Int) + (1) * ν.b
        · by_cases t7 : 0 < (0 : Int) + (1) * ν.b + (-1) * ν.p
          · by_cases t11 : 0 < (0 : Int) + (-1) * ν.a + (1) * ν.p
            · exact own_leaf (T := T33_28) l hw n0 hN (by simp only [T33_28, Sg, e1, e0, p1_, p0_, SgR, ev_eq, if_true, Bool.false_eq_true, if_false, and_true]; omega) K33_28 (own_se (by simp only [ev_eq]; omega))
            · exact own_leaf (T := T33_24) l hw n0 hN (by simp only [T33_24, Sg, e1, e0, p1_, p0_, SgR, ev_eq, if_true, Bool.false_eq_true, if_false, and_true]; omega) K33_24 (own_se (by simp only [ev_eq]; omega))
          · by_cases t10 : 0 < (0 : Int) + (-1) * ν.a + (1) * ν.b
            · exact own_leaf (T := T33_25) l hw n0 hN (by simp only [T33_25, Sg, e1, e0, p1_, p0_, SgR, ev_eq, if_true, Bool.false_eq_true, if_false, and_true]; omega) K33_25 (own_se (by simp only [ev_eq]; omega))
            · exact own_leaf (T := T33_19) l hw n0 hN (by simp only [T33_19, Sg, e1, e0, p1_, p0_, SgR, ev_eq, if_true, Bool.false_eq_true, if_false, and_true]; omega) K33_19 (own_se (by simp only [ev_eq]; omega))
        · exact own_leaf (T := T33_14) l hw n0 hN (by simp only [T33_14, Sg, e1, e0, p1_, p0_, SgR, ev_eq, if_true, Bool.false_eq_true, if_false, and_true]; omega) K33_14 (own_se (by simp only [ev_eq]; omega))
      · by_cases t3 : 0 < (0 : Int) + (1) * ν.b
        · exact own_leaf (T := T33_18) l hw n0 hN (by simp only [T33_18, Sg, e1, e0, p1_, p0_, SgR, ev_eq, if_true, Bool.false_eq_true, if_false, and_true]; omega) K33_18 (own_se (by simp only [ev_eq]; omega))
        · exact own_leaf (T := T33_13) l hw n0 hN (by simp only [T33_13, Sg, e1, e0, p1_, p0_, SgR, ev_eq, if_true, Bool.false_eq_true, if_false, and_true]; omega) K33_13 (own_se (by simp only [ev_eq]; omega))
  · by_cases t1 : 0 < (0 : Int) + (1) * ν.c
    · by_cases t2 : 0 < (0 : Int) + (1) * ν.p
      · by_cases t3 : 0 < (0 : Int) + (1) * ν.b
        · by_cases t10 : 0 < (0 : Int) + (1) * ν.b + (1) * ν.c + (-1) * ν.p
          · by_cases t11 : 0 < (0 : Int) + (-1) * ν.c + (1) * ν.p
            · exact own_leaf (T := T33_12) l hw n0 hN (by simp only [T33_12, Sg, e1, e0, p1_, p0_, SgR, ev_eq, if_true, Bool.false_eq_true, if_false, and_true]; omega) K33_12 (own_se (by simp only [ev_eq]; omega))
            · by_cases t12 : 0 < (0 : Int) + (1) * ν.c + (-1) * ν.p
              · exact own_leaf (T := T33_10) l hw n0 hN (by simp only [T33_10, Sg, e1, e0, p1_, p0_, SgR, ev_eq, if_true, Bool.false_eq_true, if_false, and_true]; omega) K33_10 (own_se (by simp only [ev_eq]; omega))
              · exact own_leaf (T := T33_8) l hw n0 hN (by simp only [T33_8, Sg, e1, e0, p1_, p0_, SgR, ev_eq, if_true, Bool.false_eq_true, if_false, and_true]; omega) K33_8 (own_se (by simp only [ev_eq]; omega))
          · exact own_leaf (T := T33_9) l hw n0 hN (by simp only [T33_9, Sg, e1, e0, p1_, p0_, SgR, ev_eq, if_true, Bool.false_eq_true, if_false, and_true]; omega) K33_9 (own_se (by simp only [ev_eq]; omega))
        · by_cases t7 : 0 < (0 : Int) + (1) * ν.c + (-1) * ν.p
          · exact own_leaf (T := T33_4) l hw n0 hN (by simp only [T33_4, Sg, e1, e0, p1_, p0_, SgR, ev_eq, if_true, Bool.false_eq_true, if_false, and_true]; omega) K33_4 (own_se (by simp only [ev_eq]; omega))
          · exact own_leaf (T := T33_3) l hw n0 hN (by simp only [T33_3, Sg, e1, e0, p1_, p0_, SgR, ev_eq, if_true, Bool.false_eq_true, if_false, and_true]; omega) K33_3 (own_se (by simp only [ev_eq]; omega))
      · by_cases t3 : 0 < (0 : Int) + (1) * ν.b
        · exact own_leaf (T := T33_7) l hw n0 hN (by simp only [T33_7, Sg, e1, e0, p1_, p0_, SgR, ev_eq, if_true, Bool.false_eq_true, if_false, and_true]; omega) K33_7 (own_se (by simp only [ev_eq]; omega))
        · exact own_leaf (T := T33_2) l hw n0 hN (by simp only [T33_2, Sg, e1, e0, p1_, p0_, SgR, ev_eq, if_true, Bool.false_eq_true, if_false, and_true]; omega) K33_2 (own_se (by simp only [ev_eq]; omega))
    · by_cases t2 : 0 < (0 : Int) + (1) * ν.p
      · by_cases t3 : 0 < (0 : Int) + (1) * ν.b
        · by_cases t7 : 0 < (0 : Int) + (1) * ν.b + (-1) * ν.p
          · exact own_leaf (T := T33_11) l hw n0 hN (by simp only [T33_11, Sg, e1, e0, p1_, p0_, SgR, ev_eq, if_true, Bool.false_eq_true, if_false, and_true]; omega) K33_11 (own_se (by simp only [ev_eq]; omega))
          · exact own_leaf (T := T33_6) l hw n0 hN (by simp only [T33_6, Sg, e1, e0, p1_, p0_, SgR, ev_eq, if_true, Bool.false_eq_true, if_false, and_true]; omega) K33_6 (own_se (by simp only [ev_eq]; omega))
        · exact own_leaf (T := T33_1) l hw n0 hN (by simp only [T33_1, Sg, e1, e0, p1_, p0_, SgR, ev_eq, if_true, Bool.false_eq_true, if_false, and_true]; omega) K33_1 (own_se (by simp only [ev_eq]; omega))
      · by_cases t3 : 0 < (0 : Int) + (1) * ν.b
        · exact own_leaf (T := T33_5) l hw n0 hN (by simp only [T33_5, Sg, e1, e0, p1_, p0_, SgR, ev_eq, if_true, Bool.false_eq_true, if_false, and_true]; omega) K33_5 (own_se (by simp only [ev_eq]; omega))
        · exact own_leaf (T := T33_0) l hw n0 hN (by simp only [T33_0, Sg, e1, e0, p1_, p0_, SgR, ev_eq, if_true, Bool.false_eq_true, if_false, and_true]; omega) K33_0 (own_se (by simp only [ev_eq]; omega))
theorem k_79 {Z : State} {a0 : Array Value} (hw : HW1 Z a0) : NL Z a0 KT "com/example/primalcap/primalcap/MinCostFlow" 61 1 15 [.null, .null, .null, (.long (0 : Int64)), .null, .null, .null, .null, .null, .null, .null, .null, (.long (0 : Int64)), (.int (0 : Int32)), (.int (0 : Int32))] := ⟨_, _, rfl, (hw _ (List.mem_of_getElem? (i := 38) rfl)), (hw _ (List.mem_of_getElem? (i := 39) rfl)), (hw _ (List.mem_of_getElem? (i := 40) rfl)), by decide +kernel⟩
theorem s26_0 : Nx b26 0 (.new 61) 3 3 := ⟨by decide +kernel, rfl⟩
theorem s26_3 : Nx b26 3 (.dup) 1 4 := ⟨by decide +kernel, rfl⟩
theorem s26_4 : Nx b26 4 (.aload_n 0) 1 5 := ⟨by decide +kernel, rfl⟩
theorem s26_5 : Nx b26 5 (.invokespecial 63) 3 8 := ⟨by decide +kernel, rfl⟩
theorem pd_9 : ∀ sig, parseMethodDescriptor "(Lcom/example/primalcap/primalcap/MinCostFlow;)V" = some sig → 1 = sig.parameters.length := npOf (r := none) (ps := [(.object "com/example/primalcap/primalcap/MinCostFlow")]) (by decide +kernel) rfl
theorem k_80 {Z : State} {a0 : Array Value} (hw : HW1 Z a0) : CL Z a0 "com/example/primalcap/primalcap/MinCostFlow" 63 y4 b4 9 1 := ⟨(hw _ (List.mem_of_getElem? (i := 41) rfl)), (hw _ (List.mem_of_getElem? (i := 42) rfl)), (hw _ (List.mem_of_getElem? (i := 40) rfl)), (hw _ (List.mem_of_getElem? (i := 43) rfl)), ⟨by decide, by decide⟩, pd_9, rfl⟩
theorem s26_8 : Nx b26 8 (.astore_n 1) 1 9 := ⟨by decide +kernel, rfl⟩
theorem s26_9 : Bx b26 9 (.goto) 66 12 := ⟨(57), by decide +kernel, by decide, by decide, rfl⟩
theorem s26_66 : Nx b26 66 (.aload_n 1) 1 67 := ⟨by decide +kernel, rfl⟩
theorem s26_67 : Nx b26 67 (.invokevirtual 82) 3 70 := ⟨by decide +kernel, rfl⟩
theorem pd_10 : ∀ sig, parseMethodDescriptor "()V" = some sig → 0 = sig.parameters.length := npOf (r := none) (ps := []) (by decide +kernel) rfl
theorem k_81 {Z : State} {a0 : Array Value} (hw : HW1 Z a0) : VL Z a0 KT "com/example/primalcap/primalcap/MinCostFlow" 82 1 y11 b11 4 none 0 := ⟨_, _, rfl, (hw _ (List.mem_of_getElem? (i := 105) rfl)), (hw _ (List.mem_of_getElem? (i := 106) rfl)), (hw _ (List.mem_of_getElem? (i := 108) rfl)), (hw _ (List.mem_of_getElem? (i := 107) rfl)), (hw _ (List.mem_of_getElem? (i := 40) rfl)), (hw _ (List.mem_of_getElem? (i := 109) rfl)), ⟨by decide, by decide⟩, pd_10⟩
theorem s26_70 : Nx b26 70 (.return_) 1 71 := ⟨by decide +kernel, rfl⟩
theorem c_solve11 (l : Launch) {Z : State} {a0 : Array Value} (hw : HW1 Z a0) (n0 : Nat) {ν : OwnL.Va} (hB : own_bx ν) : MetW l Z KT n0 y26 b26 6 none [((0 : Nat), (9 : Nat), (12 : Nat), (66 : Nat))] ({ frames := 5, cells := 12, slots := 70, locals := 115 } : Room) #[(.ref (n0 + 0))] ((own_h6 (-1) (-1)).map (upO n0 ν)) (own_Q n0 ν (own_P (-(1 : Nat)) (-(1 : Nat))) 1 1) := by
  refine MetW.of (a0 := a0) (ls := #[.val (.ref (n0 + 0)), .unset, .unset, .unset, .unset, .unset]) (kok hw) (plainFor_of_name pn_78) (fun m => by first | (simp [entryFrame, mkF, argsToLocals, Value.category]; done) | rfl) (fun G H => ?_)
  refine H.new s26_0 (k_79 hw) (by first | rfl | simp) (by decide) (by decide) (i := 6) rfl (A' := ((own_h8 (-1) (-1)).map (upO n0 ν))) rfl (k' := 1) rfl (n' := 15) rfl ?_
  refine H.dup s26_3 rfl ?_
  refine H.aloadN s26_4 rfl rfl ?_
  refine H.callCD s26_5 (k_80 hw) (c_ctor11 l hw n0 hB) (argsL := [(.ref (n0 + 0))]) (rest := [(.ref (n0 + 6))]) rfl rfl rfl rfl (leb rfl) (leb rfl) (leb rfl) (leb rfl) (st' := [(.ref (n0 + 6))]) rfl (k' := 12) rfl (n' := 70) rfl ?_
  refine H.astoreN s26_8 rfl (ls' := #[.val (.ref (n0 + 0)), .val (.ref (n0 + 6)), .unset, .unset, .unset, .unset]) rfl ?_
  refine H.goto s26_9 ?_
  refine H.aloadN s26_66 rfl rfl ?_
  refine H.callV s26_67 (k_81 hw) (c_run11 l hw n0 hB) (i := 6) rfl (argsL := []) (rest := []) rfl rfl rfl rfl (leb rfl) (leb rfl) (leb rfl) (leb rfl) ?_
  rintro v A' hq
  obtain ⟨rfl, hq⟩ := hq
  exact H.vreturn s26_70 rfl ⟨rfl, hq⟩ (leb rfl) (leb rfl)


theorem c_solve12 (l : Launch) {Z : State} {a0 : Array Value} (hw : HW1 Z a0) (n0 : Nat) {ν : OwnL.Va} (hB : own_bx ν) : MetW l Z KT n0 y26 b26 6 none [((0 : Nat), (9 : Nat), (12 : Nat), (66 : Nat))] ({ frames := 5, cells := 12, slots := 70, locals := 115 } : Room) #[(.ref (n0 + 0))] ((own_h6 (-1) (-2)).map (upO n0 ν)) (own_Q n0 ν (own_P (-(1 : Nat)) (-(2 : Nat))) 1 2) := by
  refine MetW.of (a0 := a0) (ls := #[.val (.ref (n0 + 0)), .unset, .unset, .unset, .unset, .unset]) (kok hw) (plainFor_of_name pn_78) (fun m => by first | (simp [entryFrame, mkF, argsToLocals, Value.category]; done) | rfl) (fun G H => ?_)
  refine H.new s26_0 (k_79 hw) (by first | rfl | simp) (by decide) (by decide) (i := 6) rfl (A' := ((own_h8 (-1) (-2)).map (upO n0 ν))) rfl (k' := 1) rfl (n' := 15) rfl ?_
  refine H.dup s26_3 rfl ?_
  refine H.aloadN s26_4 rfl rfl ?_
  refine H.callCD s26_5 (k_80 hw) (c_ctor12 l hw n0 hB) (argsL := [(.ref (n0 + 0))]) (rest := [(.ref (n0 + 6))]) rfl rfl rfl rfl (leb rfl) (leb rfl) (leb rfl) (leb rfl) (st' := [(.ref (n0 + 6))]) rfl (k' := 12) rfl (n' := 70) rfl ?_
  refine H.astoreN s26_8 rfl (ls' := #[.val (.ref (n0 + 0)), .val (.ref (n0 + 6)), .unset, .unset, .unset, .unset]) rfl ?_
  refine H.goto s26_9 ?_
  refine H.aloadN s26_66 rfl rfl ?_
  refine H.callV s26_67 (k_81 hw) (c_run12 l hw n0 hB) (i := 6) rfl (argsL := []) (rest := []) rfl rfl rfl rfl (leb rfl) (leb rfl) (leb rfl) (leb rfl) ?_
  rintro v A' hq
  obtain ⟨rfl, hq⟩ := hq
  exact H.vreturn s26_70 rfl ⟨rfl, hq⟩ (leb rfl) (leb rfl)


theorem c_solve13 (l : Launch) {Z : State} {a0 : Array Value} (hw : HW1 Z a0) (n0 : Nat) {ν : OwnL.Va} (hB : own_bx ν) : MetW l Z KT n0 y26 b26 6 none [((0 : Nat), (9 : Nat), (12 : Nat), (66 : Nat))] ({ frames := 5, cells := 12, slots := 70, locals := 115 } : Room) #[(.ref (n0 + 0))] ((own_h6 (-1) (-3)).map (upO n0 ν)) (own_Q n0 ν (own_P (-(1 : Nat)) (-(3 : Nat))) 1 3) := by
  refine MetW.of (a0 := a0) (ls := #[.val (.ref (n0 + 0)), .unset, .unset, .unset, .unset, .unset]) (kok hw) (plainFor_of_name pn_78) (fun m => by first | (simp [entryFrame, mkF, argsToLocals, Value.category]; done) | rfl) (fun G H => ?_)
  refine H.new s26_0 (k_79 hw) (by first | rfl | simp) (by decide) (by decide) (i := 6) rfl (A' := ((own_h8 (-1) (-3)).map (upO n0 ν))) rfl (k' := 1) rfl (n' := 15) rfl ?_
  refine H.dup s26_3 rfl ?_
  refine H.aloadN s26_4 rfl rfl ?_
  refine H.callCD s26_5 (k_80 hw) (c_ctor13 l hw n0 hB) (argsL := [(.ref (n0 + 0))]) (rest := [(.ref (n0 + 6))]) rfl rfl rfl rfl (leb rfl) (leb rfl) (leb rfl) (leb rfl) (st' := [(.ref (n0 + 6))]) rfl (k' := 12) rfl (n' := 70) rfl ?_
  refine H.astoreN s26_8 rfl (ls' := #[.val (.ref (n0 + 0)), .val (.ref (n0 + 6)), .unset, .unset, .unset, .unset]) rfl ?_
  refine H.goto s26_9 ?_
  refine H.aloadN s26_66 rfl rfl ?_
  refine H.callV s26_67 (k_81 hw) (c_run13 l hw n0 hB) (i := 6) rfl (argsL := []) (rest := []) rfl rfl rfl rfl (leb rfl) (leb rfl) (leb rfl) (leb rfl) ?_
  rintro v A' hq
  obtain ⟨rfl, hq⟩ := hq
  exact H.vreturn s26_70 rfl ⟨rfl, hq⟩ (leb rfl) (leb rfl)


theorem c_solve21 (l : Launch) {Z : State} {a0 : Array Value} (hw : HW1 Z a0) (n0 : Nat) {ν : OwnL.Va} (hB : own_bx ν) : MetW l Z KT n0 y26 b26 6 none [((0 : Nat), (9 : Nat), (12 : Nat), (66 : Nat))] ({ frames := 5, cells := 12, slots := 70, locals := 115 } : Room) #[(.ref (n0 + 0))] ((own_h6 (-2) (-1)).map (upO n0 ν)) (own_Q n0 ν (own_P (-(2 : Nat)) (-(1 : Nat))) 2 1) := by
  refine MetW.of (a0 := a0) (ls := #[.val (.ref (n0 + 0)), .unset, .unset, .unset, .unset, .unset]) (kok hw) (plainFor_of_name pn_78) (fun m => by first | (simp [entryFrame, mkF, argsToLocals, Value.category]; done) | rfl) (fun G H => ?_)
  refine H.new s26_0 (k_79 hw) (by first | rfl | simp) (by decide) (by decide) (i := 6) rfl (A' := ((own_h8 (-2) (-1)).map (upO n0 ν))) rfl (k' := 1) rfl (n' := 15) rfl ?_
  refine H.dup s26_3 rfl ?_
  refine H.aloadN s26_4 rfl rfl ?_
  refine H.callCD s26_5 (k_80 hw) (c_ctor21 l hw n0 hB) (argsL := [(.ref (n0 + 0))]) (rest := [(.ref (n0 + 6))]) rfl rfl rfl rfl (leb rfl) (leb rfl) (leb rfl) (leb rfl) (st' := [(.ref (n0 + 6))]) rfl (k' := 12) rfl (n' := 70) rfl ?_
  refine H.astoreN s26_8 rfl (ls' := #[.val (.ref (n0 + 0)), .val (.ref (n0 + 6)), .unset, .unset, .unset, .unset]) rfl ?_
  refine H.goto s26_9 ?_
  refine H.aloadN s26_66 rfl rfl ?_
  refine H.callV s26_67 (k_81 hw) (c_run21 l hw n0 hB) (i := 6) rfl (argsL := []) (rest := []) rfl rfl rfl rfl (leb rfl) (leb rfl) (leb rfl) (leb rfl) ?_
  rintro v A' hq
  obtain ⟨rfl, hq⟩ := hq
  exact H.vreturn s26_70 rfl ⟨rfl, hq⟩ (leb rfl) (leb rfl)


theorem c_solve22 (l : Launch) {Z : State} {a0 : Array Value} (hw : HW1 Z a0) (n0 : Nat) {ν : OwnL.Va} (hB : own_bx ν) : MetW l Z KT n0 y26 b26 6 none [((0 : Nat), (9 : Nat), (12 : Nat), (66 : Nat))] ({ frames := 5, cells := 12, slots := 70, locals := 115 } : Room) #[(.ref (n0 + 0))] ((own_h6 (-2) (-2)).map (upO n0 ν)) (own_Q n0 ν (own_P (-(2 : Nat)) (-(2 : Nat))) 2 2) := by
  refine MetW.of (a0 := a0) (ls := #[.val (.ref (n0 + 0)), .unset, .unset, .unset, .unset, .unset]) (kok hw) (plainFor_of_name pn_78) (fun m => by first | (simp [entryFrame, mkF, argsToLocals, Value.category]; done) | rfl) (fun G H => ?_)
  refine H.new s26_0 (k_79 hw) (by first | rfl | simp) (by decide) (by decide) (i := 6) rfl (A' := ((own_h8 (-2) (-2)).map (upO n0 ν))) rfl (k' := 1) rfl (n' := 15) rfl ?_
  refine H.dup s26_3 rfl ?_
  refine H.aloadN s26_4 rfl rfl ?_
  refine H.callCD s26_5 (k_80 hw) (c_ctor22 l hw n0 hB) (argsL := [(.ref (n0 + 0))]) (rest := [(.ref (n0 + 6))]) rfl rfl rfl rfl (leb rfl) (leb rfl) (leb rfl) (leb rfl) (st' := [(.ref (n0 + 6))]) rfl (k' := 12) rfl (n' := 70) rfl ?_
  refine H.astoreN s26_8 rfl (ls' := #[.val (.ref (n0 + 0)), .val (.ref (n0 + 6)), .unset, .unset, .unset, .unset]) rfl ?_
  refine H.goto s26_9 ?_
  refine H.aloadN s26_66 rfl rfl ?_
  refine H.callV s26_67 (k_81 hw) (c_run22 l hw n0 hB) (i := 6) rfl (argsL := []) (rest := []) rfl rfl rfl rfl (leb rfl) (leb rfl) (leb rfl) (leb rfl) ?_
  rintro v A' hq
  obtain ⟨rfl, hq⟩ := hq
  exact H.vreturn s26_70 rfl ⟨rfl, hq⟩ (leb rfl) (leb rfl)


theorem c_solve23 (l : Launch) {Z : State} {a0 : Array Value} (hw : HW1 Z a0) (n0 : Nat) {ν : OwnL.Va} (hB : own_bx ν) : MetW l Z KT n0 y26 b26 6 none [((0 : Nat), (9 : Nat), (12 : Nat), (66 : Nat))] ({ frames := 5, cells := 12, slots := 70, locals := 115 } : Room) #[(.ref (n0 + 0))] ((own_h6 (-2) (-3)).map (upO n0 ν)) (own_Q n0 ν (own_P (-(2 : Nat)) (-(3 : Nat))) 2 3) := by
  refine MetW.of (a0 := a0) (ls := #[.val (.ref (n0 + 0)), .unset, .unset, .unset, .unset, .unset]) (kok hw) (plainFor_of_name pn_78) (fun m => by first | (simp [entryFrame, mkF, argsToLocals, Value.category]; done) | rfl) (fun G H => ?_)
  refine H.new s26_0 (k_79 hw) (by first | rfl | simp) (by decide) (by decide) (i := 6) rfl (A' := ((own_h8 (-2) (-3)).map (upO n0 ν))) rfl (k' := 1) rfl (n' := 15) rfl ?_
  refine H.dup s26_3 rfl ?_
  refine H.aloadN s26_4 rfl rfl ?_
  refine H.callCD s26_5 (k_80 hw) (c_ctor23 l hw n0 hB) (argsL := [(.ref (n0 + 0))]) (rest := [(.ref (n0 + 6))]) rfl rfl rfl rfl (leb rfl) (leb rfl) (leb rfl) (leb rfl) (st' := [(.ref (n0 + 6))]) rfl (k' := 12) rfl (n' := 70) rfl ?_
  refine H.astoreN s26_8 rfl (ls' := #[.val (.ref (n0 + 0)), .val (.ref (n0 + 6)), .unset, .unset, .unset, .unset]) rfl ?_
  refine H.goto s26_9 ?_
  refine H.aloadN s26_66 rfl rfl ?_
  refine H.callV s26_67 (k_81 hw) (c_run23 l hw n0 hB) (i := 6) rfl (argsL := []) (rest := []) rfl rfl rfl rfl (leb rfl) (leb rfl) (leb rfl) (leb rfl) ?_
  rintro v A' hq
  obtain ⟨rfl, hq⟩ := hq
  exact H.vreturn s26_70 rfl ⟨rfl, hq⟩ (leb rfl) (leb rfl)


theorem c_solve31 (l : Launch) {Z : State} {a0 : Array Value} (hw : HW1 Z a0) (n0 : Nat) {ν : OwnL.Va} (hB : own_bx ν) : MetW l Z KT n0 y26 b26 6 none [((0 : Nat), (9 : Nat), (12 : Nat), (66 : Nat))] ({ frames := 5, cells := 12, slots := 70, locals := 115 } : Room) #[(.ref (n0 + 0))] ((own_h6 (-3) (-1)).map (upO n0 ν)) (own_Q n0 ν (own_P (-(3 : Nat)) (-(1 : Nat))) 3 1) := by
  refine MetW.of (a0 := a0) (ls := #[.val (.ref (n0 + 0)), .unset, .unset, .unset, .unset, .unset]) (kok hw) (plainFor_of_name pn_78) (fun m => by first | (simp [entryFrame, mkF, argsToLocals, Value.category]; done) | rfl) (fun G H => ?_)
  refine H.new s26_0 (k_79 hw) (by first | rfl | simp) (by decide) (by decide) (i := 6) rfl (A' := ((own_h8 (-3) (-1)).map (upO n0 ν))) rfl (k' := 1) rfl (n' := 15) rfl ?_
  refine H.dup s26_3 rfl ?_
  refine H.aloadN s26_4 rfl rfl ?_
  refine H.callCD s26_5 (k_80 hw) (c_ctor31 l hw n0 hB) (argsL := [(.ref (n0 + 0))]) (rest := [(.ref (n0 + 6))]) rfl rfl rfl rfl (leb rfl) (leb rfl) (leb rfl) (leb rfl) (st' := [(.ref (n0 + 6))]) rfl (k' := 12) rfl (n' := 70) rfl ?_
  refine H.astoreN s26_8 rfl (ls' := #[.val (.ref (n0 + 0)), .val (.ref (n0 + 6)), .unset, .unset, .unset, .unset]) rfl ?_
  refine H.goto s26_9 ?_
  refine H.aloadN s26_66 rfl rfl ?_
  refine H.callV s26_67 (k_81 hw) (c_run31 l hw n0 hB) (i := 6) rfl (argsL := []) (rest := []) rfl rfl rfl rfl (leb rfl) (leb rfl) (leb rfl) (leb rfl) ?_
  rintro v A' hq
  obtain ⟨rfl, hq⟩ := hq
  exact H.vreturn s26_70 rfl ⟨rfl, hq⟩ (leb rfl) (leb rfl)


theorem c_solve32 (l : Launch) {Z : State} {a0 : Array Value} (hw : HW1 Z a0) (n0 : Nat) {ν : OwnL.Va} (hB : own_bx ν) : MetW l Z KT n0 y26 b26 6 none [((0 : Nat), (9 : Nat), (12 : Nat), (66 : Nat))] ({ frames := 5, cells := 12, slots := 70, locals := 115 } : Room) #[(.ref (n0 + 0))] ((own_h6 (-3) (-2)).map (upO n0 ν)) (own_Q n0 ν (own_P (-(3 : Nat)) (-(2 : Nat))) 3 2) := by
  refine MetW.of (a0 := a0) (ls := #[.val (.ref (n0 + 0)), .unset, .unset, .unset, .unset, .unset]) (kok hw) (plainFor_of_name pn_78) (fun m => by first | (simp [entryFrame, mkF, argsToLocals, Value.category]; done) | rfl) (fun G H => ?_)
  refine H.new s26_0 (k_79 hw) (by first | rfl | simp) (by decide) (by decide) (i := 6) rfl (A' := ((own_h8 (-3) (-2)).map (upO n0 ν))) rfl (k' := 1) rfl (n' := 15) rfl ?_
  refine H.dup s26_3 rfl ?_
  refine H.aloadN s26_4 rfl rfl ?_
  refine H.callCD s26_5 (k_80 hw) (c_ctor32 l hw n0 hB) (argsL := [(.ref (n0 + 0))]) (rest := [(.ref (n0 + 6))]) rfl rfl rfl rfl (leb rfl) (leb rfl) (leb rfl) (leb rfl) (st' := [(.ref (n0 + 6))]) rfl (k' := 12) rfl (n' := 70) rfl ?_
  refine H.astoreN s26_8 rfl (ls' := #[.val (.ref (n0 + 0)), .val (.ref (n0 + 6)), .unset, .unset, .unset, .unset]) rfl ?_
  refine H.goto s26_9 ?_
  refine H.aloadN s26_66 rfl rfl ?_
  refine H.callV s26_67 (k_81 hw) (c_run32 l hw n0 hB) (i := 6) rfl (argsL := []) (rest := []) rfl rfl rfl rfl (leb rfl) (leb rfl) (leb rfl) (leb rfl) ?_
  rintro v A' hq
  obtain ⟨rfl, hq⟩ := hq
  exact H.vreturn s26_70 rfl ⟨rfl, hq⟩ (leb rfl) (leb rfl)


theorem c_solve33 (l : Launch) {Z : State} {a0 : Array Value} (hw : HW1 Z a0) (n0 : Nat) {ν : OwnL.Va} (hB : own_bx ν) : MetW l Z KT n0 y26 b26 6 none [((0 : Nat), (9 : Nat), (12 : Nat), (66 : Nat))] ({ frames := 5, cells := 12, slots := 70, locals := 115 } : Room) #[(.ref (n0 + 0))] ((own_h6 (-3) (-3)).map (upO n0 ν)) (own_Q n0 ν (own_P (-(3 : Nat)) (-(3 : Nat))) 3 3) := by
  refine MetW.of (a0 := a0) (ls := #[.val (.ref (n0 + 0)), .unset, .unset, .unset, .unset, .unset]) (kok hw) (plainFor_of_name pn_78) (fun m => by first | (simp [entryFrame, mkF, argsToLocals, Value.category]; done) | rfl) (fun G H => ?_)
  refine H.new s26_0 (k_79 hw) (by first | rfl | simp) (by decide) (by decide) (i := 6) rfl (A' := ((own_h8 (-3) (-3)).map (upO n0 ν))) rfl (k' := 1) rfl (n' := 15) rfl ?_
  refine H.dup s26_3 rfl ?_
  refine H.aloadN s26_4 rfl rfl ?_
  refine H.callCD s26_5 (k_80 hw) (c_ctor33 l hw n0 hB) (argsL := [(.ref (n0 + 0))]) (rest := [(.ref (n0 + 6))]) rfl rfl rfl rfl (leb rfl) (leb rfl) (leb rfl) (leb rfl) (st' := [(.ref (n0 + 6))]) rfl (k' := 12) rfl (n' := 70) rfl ?_
  refine H.astoreN s26_8 rfl (ls' := #[.val (.ref (n0 + 0)), .val (.ref (n0 + 6)), .unset, .unset, .unset, .unset]) rfl ?_
  refine H.goto s26_9 ?_
  refine H.aloadN s26_66 rfl rfl ?_
  refine H.callV s26_67 (k_81 hw) (c_run33 l hw n0 hB) (i := 6) rfl (argsL := []) (rest := []) rfl rfl rfl rfl (leb rfl) (leb rfl) (leb rfl) (leb rfl) ?_
  rintro v A' hq
  obtain ⟨rfl, hq⟩ := hq
  exact H.vreturn s26_70 rfl ⟨rfl, hq⟩ (leb rfl) (leb rfl)

def own_maxJ (a b : Int64) : Int64 := if a < b then b else a
theorem own_maxJ_t {a b : Int64} (h : a < b) : own_maxJ a b = b := if_pos h
theorem own_maxJ_f {a b : Int64} (h : ¬ a < b) : own_maxJ a b = a := if_neg h
theorem own_maxJ_i (a b : Int64) : (own_maxJ a b).toInt = max a.toInt b.toInt := by
  unfold own_maxJ
  split
  · next h => have := (j_lt rfl rfl).mp h; omega
  · next h => have := (j_ge rfl rfl).mp h; omega

theorem m_maxJ (l : Launch) {Z : State} {a0 : Array Value} (hw : HW1 Z a0) (n0 : Nat) (A : List Ob) (a b : Int64) : Met l Z KT n0 y9 b9 4 (some .long) ({ frames := 0, cells := 0, slots := 0, locals := 0 } : Room) #[(.long a), (.long b)] A (Is (some (.long (own_maxJ a b))) A) := by
  refine Met.of (a0 := a0) (ls := #[.val (.long a), .second, .val (.long b), .second]) (kok hw) (Jvm.Free.JP.mathPlain rfl (by decide +kernel)) (fun m => by first | (simp [entryFrame, mkF, argsToLocals, Value.category]; done) | rfl) (fun G H => ?_)
  refine H.lloadN s9_0 rfl ?_
  refine H.lloadN s9_1 rfl ?_
  refine H.lifS s9_2 s9_3 (fun (c2 : a < b) => ?_) (fun (c2 : ¬ a < b) => ?_)
  · have d2 : a.toInt < b.toInt := (j_lt rfl rfl).mp c2
    refine H.lloadN s9_10 rfl ?_
    exact H.lreturn s9_11 rfl ⟨by rw [own_maxJ_t c2], rfl⟩ (by decide) (by decide)
  · have d2 : b.toInt ≤ a.toInt := (j_ge rfl rfl).mp c2
    refine H.lloadN s9_6 rfl ?_
    refine H.goto s9_7 ?_
    exact H.lreturn s9_11 rfl ⟨by rw [own_maxJ_f c2], rfl⟩ (by decide) (by decide)

def own_minI (a b : Int32) : Int32 := if b < a then b else a
theorem own_minI_t {a b : Int32} (h : b < a) : own_minI a b = b := if_pos h
theorem own_minI_f {a b : Int32} (h : ¬ b < a) : own_minI a b = a := if_neg h
theorem own_minI_i (a b : Int32) : (own_minI a b).toInt = min a.toInt b.toInt := by
  unfold own_minI
  split
  · next h => have := (i_lt rfl rfl).mp h; omega
  · next h => have := (i_ge rfl rfl).mp h; omega

theorem m_minI (l : Launch) {Z : State} {a0 : Array Value} (hw : HW1 Z a0) (n0 : Nat) (A : List Ob) (a b : Int32) : Met l Z KT n0 y6 b6 2 (some .int) ({ frames := 0, cells := 0, slots := 0, locals := 0 } : Room) #[(.int a), (.int b)] A (Is (some (.int (own_minI a b))) A) := by
  refine Met.of (a0 := a0) (ls := #[.val (.int a), .val (.int b)]) (kok hw) (Jvm.Free.JP.mathPlain rfl (by decide +kernel)) (fun m => by first | (simp [entryFrame, mkF, argsToLocals, Value.category]; done) | rfl) (fun G H => ?_)
  refine H.iloadN s6_0 rfl ?_
  refine H.iloadN s6_1 rfl ?_
  refine H.icmpS s6_2 (fun (c2 : b < a) => ?_) (fun (c2 : ¬ b < a) => ?_)
  · have d2 : b.toInt < a.toInt := (i_lt rfl rfl).mp c2
    refine H.iloadN s6_9 rfl ?_
    exact H.ireturn s6_10 rfl (by simp) rfl ⟨by rw [own_minI_t c2], rfl⟩ (by decide) (by decide)
  · have d2 : a.toInt ≤ b.toInt := (i_ge rfl rfl).mp c2
    refine H.iloadN s6_5 rfl ?_
    refine H.goto s6_6 ?_
    exact H.ireturn s6_10 rfl (by simp) rfl ⟨by rw [own_minI_f c2], rfl⟩ (by decide) (by decide)

def own_minJ (a b : Int64) : Int64 := if b < a then b else a
theorem own_minJ_t {a b : Int64} (h : b < a) : own_minJ a b = b := if_pos h
theorem own_minJ_f {a b : Int64} (h : ¬ b < a) : own_minJ a b = a := if_neg h
theorem own_minJ_i (a b : Int64) : (own_minJ a b).toInt = min a.toInt b.toInt := by
  unfold own_minJ
  split
  · next h => have := (j_lt rfl rfl).mp h; omega
  · next h => have := (j_ge rfl rfl).mp h; omega

theorem m_minJ (l : Launch) {Z : State} {a0 : Array Value} (hw : HW1 Z a0) (n0 : Nat) (A : List Ob) (a b : Int64) : Met l Z KT n0 y20 b20 4 (some .long) ({ frames := 0, cells := 0, slots := 0, locals := 0 } : Room) #[(.long a), (.long b)] A (Is (some (.long (own_minJ a b))) A) := by
  refine Met.of (a0 := a0) (ls := #[.val (.long a), .second, .val (.long b), .second]) (kok hw) (Jvm.Free.JP.mathPlain rfl (by decide +kernel)) (fun m => by first | (simp [entryFrame, mkF, argsToLocals, Value.category]; done) | rfl) (fun G H => ?_)
  refine H.lloadN s20_0 rfl ?_
  refine H.lloadN s20_1 rfl ?_
  refine H.lifS s20_2 s20_3 (fun (c2 : b < a) => ?_) (fun (c2 : ¬ b < a) => ?_)
  · have d2 : b.toInt < a.toInt := (j_lt rfl rfl).mp c2
    refine H.lloadN s20_10 rfl ?_
    exact H.lreturn s20_11 rfl ⟨by rw [own_minJ_t c2], rfl⟩ (by decide) (by decide)
  · have d2 : a.toInt ≤ b.toInt := (j_ge rfl rfl).mp c2
    refine H.lloadN s20_6 rfl ?_
    refine H.goto s20_7 ?_
    exact H.lreturn s20_11 rfl ⟨by rw [own_minJ_f c2], rfl⟩ (by decide) (by decide)


def own_ff (f0 f1 f2 f3 : Int64) : Ob := .inr (.long, [.long f0, .long f1, .long f2, .long f3, .long 0, .long 0, .long 0, .long 0, .long 0, .long 0, .long 0, .long 0, .long 0, .long 0, .long 0, .long 0])
theorem own_twelve {TT : List Ob} (h : TT.length = 12) : ∃ t : Ob × Ob × Ob × Ob × Ob × Ob × Ob × Ob × Ob × Ob × Ob × Ob, TT = [t.1, t.2.1, t.2.2.1, t.2.2.2.1, t.2.2.2.2.1, t.2.2.2.2.2.1, t.2.2.2.2.2.2.1, t.2.2.2.2.2.2.2.1, t.2.2.2.2.2.2.2.2.1, t.2.2.2.2.2.2.2.2.2.1, t.2.2.2.2.2.2.2.2.2.2.1, t.2.2.2.2.2.2.2.2.2.2.2] := by
  match TT, h with
  | [t0, t1, t2, t3, t4, t5, t6, t7, t8, t9, t10, t11], _ => exact ⟨(t0, t1, t2, t3, t4, t5, t6, t7, t8, t9, t10, t11), rfl⟩
theorem own_w {ν : OwnL.Va} (hB : own_bx ν) : (wa ν).toInt = ν.a ∧ (wb ν).toInt = ν.b ∧ (wc ν).toInt = ν.c ∧ (wp ν).toInt = ν.p := by
  have hν := own_bxok hB
  unfold wa wb wc wp
  rw [evI hν (by decide), evI hν (by decide), evI hν (by decide), evI hν (by decide)]
  simp only [ev_eq]
  omega
theorem own_m (v : Int32) (k : Nat) (m : Int32) (hk : k ≤ 31) (hm : m.toBitVec.toNat = 2 ^ k - 1) : ∃ z : Int, 0 ≤ z ∧ z < (2 ^ k : Nat) ∧ (v &&& m).toInt64 = Int64.ofInt z := by
  have q := c_mask v m k hk hm
  have p : (0 : Int) < (2 ^ k : Nat) := by exact_mod_cast Nat.two_pow_pos k
  refine ⟨(v &&& m).toInt, ?_, ?_, ?_⟩
  · rw [q]; exact Int.emod_nonneg _ (by omega)
  · rw [q]; exact Int.emod_lt_of_pos _ p
  · rw [← x_i2l (a := v &&& m) rfl, Int64.ofInt_toInt]
theorem own_nu (p0 x y z : Int32) : ∃ ν : OwnL.Va, own_bx ν ∧ (p0 &&& (7 : Int32)).toInt64 = wa ν ∧ (x &&& (7 : Int32)).toInt64 = wb ν ∧ (y &&& (7 : Int32)).toInt64 = wc ν ∧ (z &&& (15 : Int32)).toInt64 = wp ν := by
  obtain ⟨a, a1, a2, a3⟩ := own_m p0 3 7 (by decide) (by decide)
  obtain ⟨b, b1, b2, b3⟩ := own_m x 3 7 (by decide) (by decide)
  obtain ⟨c, c1, c2, c3⟩ := own_m y 3 7 (by decide) (by decide)
  obtain ⟨p, p1, p2, p3⟩ := own_m z 4 15 (by decide) (by decide)
  refine ⟨⟨a, b, c, p⟩, ⟨⟨a1, by show a ≤ 7; omega⟩, ⟨b1, by show b ≤ 7; omega⟩, ⟨c1, by show c ≤ 7; omega⟩, ⟨p1, by show p ≤ 15; omega⟩⟩, ?_, ?_, ?_, ?_⟩
  · rw [a3, wa, ev_eq]; congr 1; show a = 0 + 1 * a + 0 * b + 0 * c + 0 * p; omega
  · rw [b3, wb, ev_eq]; congr 1; show b = 0 + 0 * a + 1 * b + 0 * c + 0 * p; omega
  · rw [c3, wc, ev_eq]; congr 1; show c = 0 + 0 * a + 0 * b + 1 * c + 0 * p; omega
  · rw [p3, wp, ev_eq]; congr 1; show p = 0 + 0 * a + 0 * b + 0 * c + 1 * p; omega
theorem own_r3 (v : Int32) : ((v &&& (3 : Int32)) % (3 : Int32)) + (1 : Int32) = 1 ∨ ((v &&& (3 : Int32)) % (3 : Int32)) + (1 : Int32) = 2 ∨ ((v &&& (3 : Int32)) % (3 : Int32)) + (1 : Int32) = 3 := by
  have q : (v &&& (3 : Int32)).toInt = v.toInt % 4 := c_mask v 3 2 (by decide) (by decide)
  have r := x_irem q (by decide : (3 : Int32).toInt = 3) (by omega)
  have t := x_iadd r (by decide : (1 : Int32).toInt = 1) (by omega)
  have : (((v &&& (3 : Int32)) % (3 : Int32)) + (1 : Int32)).toInt = 1 ∨ (((v &&& (3 : Int32)) % (3 : Int32)) + (1 : Int32)).toInt = 2 ∨ (((v &&& (3 : Int32)) % (3 : Int32)) + (1 : Int32)).toInt = 3 := by rw [t]; omega
  rcases this with h | h | h
  · exact Or.inl (Int32.toInt_inj.mp (by rw [h]; decide))
  · exact Or.inr (Or.inl (Int32.toInt_inj.mp (by rw [h]; decide)))
  · exact Or.inr (Or.inr (Int32.toInt_inj.mp (by rw [h]; decide)))
theorem own_eq {a b c p f g : Int64} {A B C P : Int} (ha : a.toInt = A) (hb : b.toInt = B) (hc : c.toInt = C) (hp : p.toInt = P) (bA : 0 ≤ A ∧ A ≤ 15) (bB : 0 ≤ B ∧ B ≤ 15) (bC : 0 ≤ C ∧ C ≤ 15) (bP : 0 ≤ P ∧ P ≤ 15) (bf : 0 ≤ f.toInt ∧ f.toInt ≤ 15) (bg : 0 ≤ g.toInt ∧ g.toInt ≤ 15) (h : f.toInt + g.toInt = min (min A B + C) P) (s : Int64) : (s + f) + g = s + own_minJ (own_minJ a b + c) p := by
  rw [Int64.add_assoc]
  congr 1
  apply Int64.toInt_inj.mp
  have m := own_minJ_i a b
  rw [ha, hb] at m
  have q := x_ladd m hc (by omega)
  rw [x_ladd rfl rfl (by omega), own_minJ_i, q, hp, h]
theorem own_gt {a b c p f g : Int64} {A B C P : Int} (ha : a.toInt = A) (hb : b.toInt = B) (hc : c.toInt = C) (hp : p.toInt = P) (bA : 0 ≤ A ∧ A ≤ 15) (bB : 0 ≤ B ∧ B ≤ 15) (bC : 0 ≤ C ∧ C ≤ 15) (bP : 0 ≤ P ∧ P ≤ 15) (h : f.toInt = min (min A B) P ∧ g.toInt = min C (P - f.toInt)) : f = own_minJ (own_minJ a b) p ∧ g = own_minJ c (p - own_minJ (own_minJ a b) p) := by
  have m := own_minJ_i a b
  rw [ha, hb] at m
  have m2 := own_minJ_i (own_minJ a b) p
  rw [m, hp] at m2
  have e1 : f = own_minJ (own_minJ a b) p := Int64.toInt_inj.mp (by rw [m2]; exact h.1)
  refine ⟨e1, Int64.toInt_inj.mp ?_⟩
  rw [← e1, own_minJ_i, x_lsub hp rfl (by omega), hc]
  exact h.2
theorem own_lt {a b c p f g : Int64} {A B C P : Int} (ha : a.toInt = A) (hb : b.toInt = B) (hc : c.toInt = C) (hp : p.toInt = P) (bA : 0 ≤ A ∧ A ≤ 15) (bB : 0 ≤ B ∧ B ≤ 15) (bC : 0 ≤ C ∧ C ≤ 15) (bP : 0 ≤ P ∧ P ≤ 15) (h : g.toInt = min C P ∧ f.toInt = min (min A B) (P - g.toInt)) : g = own_minJ c p ∧ f = own_minJ (own_minJ a b) (p - own_minJ c p) := by
  have m := own_minJ_i a b
  rw [ha, hb] at m
  have m2 := own_minJ_i c p
  rw [hc, hp] at m2
  have e1 : g = own_minJ c p := Int64.toInt_inj.mp (by rw [m2]; exact h.1)
  refine ⟨e1, Int64.toInt_inj.mp ?_⟩
  rw [← e1, own_minJ_i, x_lsub hp rfl (by omega), m]
  exact h.2

def own_bb (n0 : Nat) (ν : OwnL.Va) (c1 c2 f0 f1 f2 f3 : Int64) (t : Ob × Ob × Ob × Ob × Ob × Ob × Ob × Ob × Ob × Ob × Ob × Ob) (l : List Ob) : List Ob := .inl (0, [(.ref (n0 + 1)), (.ref (n0 + 2)), (.ref (n0 + 3)), (.ref (n0 + 4)), (.ref (n0 + 5)), (.int (3 : Int32)), (.long (Int64.ofInt (ev ν 0 1 1 1 1))), (.int (4 : Int32))]) :: .inr (.int, [(.int (0 : Int32)), (.int (2 : Int32)), (.int (0 : Int32)), (.int (1 : Int32)), (.int (0 : Int32)), (.int (0 : Int32)), (.int (0 : Int32)), (.int (0 : Int32)), (.int (0 : Int32)), (.int (0 : Int32)), (.int (0 : Int32)), (.int (0 : Int32)), (.int (0 : Int32)), (.int (0 : Int32)), (.int (0 : Int32)), (.int (0 : Int32))]) :: .inr (.int, [(.int (2 : Int32)), (.int (1 : Int32)), (.int (1 : Int32)), (.int (0 : Int32)), (.int (0 : Int32)), (.int (0 : Int32)), (.int (0 : Int32)), (.int (0 : Int32)), (.int (0 : Int32)), (.int (0 : Int32)), (.int (0 : Int32)), (.int (0 : Int32)), (.int (0 : Int32)), (.int (0 : Int32)), (.int (0 : Int32)), (.int (0 : Int32))]) :: .inr (.long, [(.long (wa ν)), (.long (wb ν)), (.long (wc ν)), (.long (wp ν)), (.long (0 : Int64)), (.long (0 : Int64)), (.long (0 : Int64)), (.long (0 : Int64)), (.long (0 : Int64)), (.long (0 : Int64)), (.long (0 : Int64)), (.long (0 : Int64)), (.long (0 : Int64)), (.long (0 : Int64)), (.long (0 : Int64)), (.long (0 : Int64))]) :: .inr (.long, [(.long (0 : Int64)), (.long c1), (.long c2), (.long (0 : Int64)), (.long (0 : Int64)), (.long (0 : Int64)), (.long (0 : Int64)), (.long (0 : Int64)), (.long (0 : Int64)), (.long (0 : Int64)), (.long (0 : Int64)), (.long (0 : Int64)), (.long (0 : Int64)), (.long (0 : Int64)), (.long (0 : Int64)), (.long (0 : Int64))]) :: .inr (.long, [(.long f0), (.long f1), (.long f2), (.long f3), (.long (0 : Int64)), (.long (0 : Int64)), (.long (0 : Int64)), (.long (0 : Int64)), (.long (0 : Int64)), (.long (0 : Int64)), (.long (0 : Int64)), (.long (0 : Int64)), (.long (0 : Int64)), (.long (0 : Int64)), (.long (0 : Int64)), (.long (0 : Int64))]) :: t.1 :: t.2.1 :: t.2.2.1 :: t.2.2.2.1 :: t.2.2.2.2.1 :: t.2.2.2.2.2.1 :: t.2.2.2.2.2.2.1 :: t.2.2.2.2.2.2.2.1 :: t.2.2.2.2.2.2.2.2.1 :: t.2.2.2.2.2.2.2.2.2.1 :: t.2.2.2.2.2.2.2.2.2.2.1 :: t.2.2.2.2.2.2.2.2.2.2.2 :: l
theorem s0_0 : Nx code 0 (.iload_n 0) 1 1 := ⟨at_0, rfl⟩
theorem s0_1 : Nx code 1 (.bipush 7) 2 3 := ⟨at_1, rfl⟩
theorem s0_3 : Nx code 3 (.iand) 1 4 := ⟨at_3, rfl⟩
theorem s0_4 : Nx code 4 (.i2l) 1 5 := ⟨at_4, rfl⟩
theorem s0_5 : Nx code 5 (.lstore 9) 2 7 := ⟨at_5, rfl⟩
theorem s0_7 : Nx code 7 (.iload_n 0) 1 8 := ⟨at_7, rfl⟩
theorem s0_8 : Nx code 8 (.iconst 3) 1 9 := ⟨at_8, rfl⟩
theorem s0_9 : Nx code 9 (.iushr) 1 10 := ⟨at_9, rfl⟩
theorem s0_10 : Nx code 10 (.bipush 7) 2 12 := ⟨at_10, rfl⟩
theorem s0_12 : Nx code 12 (.iand) 1 13 := ⟨at_12, rfl⟩
theorem s0_13 : Nx code 13 (.i2l) 1 14 := ⟨at_13, rfl⟩
theorem s0_14 : Nx code 14 (.lstore 11) 2 16 := ⟨at_14, rfl⟩
theorem s0_16 : Nx code 16 (.iload_n 0) 1 17 := ⟨at_16, rfl⟩
theorem s0_17 : Nx code 17 (.bipush 6) 2 19 := ⟨at_17, rfl⟩
theorem s0_19 : Nx code 19 (.iushr) 1 20 := ⟨at_19, rfl⟩
theorem s0_20 : Nx code 20 (.bipush 7) 2 22 := ⟨at_20, rfl⟩
theorem s0_22 : Nx code 22 (.iand) 1 23 := ⟨at_22, rfl⟩
theorem s0_23 : Nx code 23 (.i2l) 1 24 := ⟨at_23, rfl⟩
theorem s0_24 : Nx code 24 (.lstore 13) 2 26 := ⟨at_24, rfl⟩
theorem s0_26 : Nx code 26 (.iload_n 0) 1 27 := ⟨at_26, rfl⟩
theorem s0_27 : Nx code 27 (.bipush 9) 2 29 := ⟨at_27, rfl⟩
theorem s0_29 : Nx code 29 (.iushr) 1 30 := ⟨at_29, rfl⟩
theorem s0_30 : Nx code 30 (.bipush 15) 2 32 := ⟨at_30, rfl⟩
theorem s0_32 : Nx code 32 (.iand) 1 33 := ⟨at_32, rfl⟩
theorem s0_33 : Nx code 33 (.i2l) 1 34 := ⟨at_33, rfl⟩
theorem s0_34 : Nx code 34 (.lstore 15) 2 36 := ⟨at_34, rfl⟩
theorem s0_36 : Nx code 36 (.iload_n 0) 1 37 := ⟨at_36, rfl⟩
theorem s0_37 : Nx code 37 (.bipush 13) 2 39 := ⟨at_37, rfl⟩
theorem s0_39 : Nx code 39 (.iushr) 1 40 := ⟨at_39, rfl⟩
theorem s0_40 : Nx code 40 (.iconst 3) 1 41 := ⟨at_40, rfl⟩
theorem s0_41 : Nx code 41 (.iand) 1 42 := ⟨at_41, rfl⟩
theorem s0_42 : Nx code 42 (.iconst 3) 1 43 := ⟨at_42, rfl⟩
theorem s0_43 : Nx code 43 (.irem) 1 44 := ⟨at_43, rfl⟩
theorem s0_44 : Nx code 44 (.iconst 1) 1 45 := ⟨at_44, rfl⟩
theorem s0_45 : Nx code 45 (.iadd) 1 46 := ⟨at_45, rfl⟩
theorem s0_46 : Nx code 46 (.istore 17) 2 48 := ⟨at_46, rfl⟩
theorem s0_48 : Nx code 48 (.iload_n 0) 1 49 := ⟨at_48, rfl⟩
theorem s0_49 : Nx code 49 (.bipush 15) 2 51 := ⟨at_49, rfl⟩
theorem s0_51 : Nx code 51 (.iushr) 1 52 := ⟨at_51, rfl⟩
theorem s0_52 : Nx code 52 (.iconst 3) 1 53 := ⟨at_52, rfl⟩
theorem s0_53 : Nx code 53 (.iand) 1 54 := ⟨at_53, rfl⟩
theorem s0_54 : Nx code 54 (.iconst 3) 1 55 := ⟨at_54, rfl⟩
theorem s0_55 : Nx code 55 (.irem) 1 56 := ⟨at_55, rfl⟩
theorem s0_56 : Nx code 56 (.iconst 1) 1 57 := ⟨at_56, rfl⟩
theorem s0_57 : Nx code 57 (.iadd) 1 58 := ⟨at_57, rfl⟩
theorem s0_58 : Nx code 58 (.istore 18) 2 60 := ⟨at_58, rfl⟩
theorem k_82 {Z : State} {a0 : Array Value} (hw : HW1 Z a0) : NL Z a0 KT "com/example/primalcap/primalcap/NetworkBoughtAtPinLaw" 7 0 8 [.null, .null, .null, .null, .null, (.int (0 : Int32)), (.long (0 : Int64)), (.int (0 : Int32))] := ⟨_, _, rfl, (hw _ (List.mem_of_getElem? (i := 0) rfl)), (hw _ (List.mem_of_getElem? (i := 1) rfl)), (hw _ (List.mem_of_getElem? (i := 2) rfl)), by decide +kernel⟩
theorem s0_60 : Nx code 60 (.new 7) 3 63 := ⟨at_60, rfl⟩
theorem s0_63 : Nx code 63 (.dup) 1 64 := ⟨at_63, rfl⟩
theorem s0_64 : Nx code 64 (.iconst 3) 1 65 := ⟨at_64, rfl⟩
theorem s0_65 : Nx code 65 (.invokespecial 9) 3 68 := ⟨at_65, rfl⟩
theorem s1_0 : Nx b1 0 (.aload_n 0) 1 1 := ⟨by decide +kernel, rfl⟩
theorem s1_1 : Nx b1 1 (.invokespecial 1) 3 4 := ⟨by decide +kernel, rfl⟩
theorem k_83 {Z : State} {a0 : Array Value} (hw : HW1 Z a0) : IL Z a0 "com/example/primalcap/primalcap/MinCostFlow" 1 := ⟨(hw _ (List.mem_of_getElem? (i := 6) rfl)), (hw _ (List.mem_of_getElem? (i := 7) rfl)), (hw _ (List.mem_of_getElem? (i := 8) rfl))⟩
theorem s1_4 : Nx b1 4 (.aload_n 0) 1 5 := ⟨by decide +kernel, rfl⟩
theorem s1_5 : Nx b1 5 (.bipush 16) 2 7 := ⟨by decide +kernel, rfl⟩
theorem s1_7 : Nx b1 7 (.newarray .int) 2 9 := ⟨by decide +kernel, rfl⟩
theorem k_84 {Z : State} {a0 : Array Value} (hw : HW1 Z a0) : PL Z a0 KT "com/example/primalcap/primalcap/MinCostFlow" "<init>" 7 0 0 (.array .int) := ⟨_, _, "com/example/primalcap/primalcap/MinCostFlow", "tail", "[I", "", rfl, rfl, (Or.inl (hw _ (List.mem_of_getElem? (i := 10) rfl))), (Or.inl (hw _ (List.mem_of_getElem? (i := 11) rfl))), by decide +kernel⟩
theorem s1_9 : Nx b1 9 (.putfield 7) 3 12 := ⟨by decide +kernel, rfl⟩
theorem s1_12 : Nx b1 12 (.aload_n 0) 1 13 := ⟨by decide +kernel, rfl⟩
theorem s1_13 : Nx b1 13 (.bipush 16) 2 15 := ⟨by decide +kernel, rfl⟩
theorem s1_15 : Nx b1 15 (.newarray .int) 2 17 := ⟨by decide +kernel, rfl⟩
theorem k_85 {Z : State} {a0 : Array Value} (hw : HW1 Z a0) : PL Z a0 KT "com/example/primalcap/primalcap/MinCostFlow" "<init>" 13 0 1 (.array .int) := ⟨_, _, "com/example/primalcap/primalcap/MinCostFlow", "head", "[I", "", rfl, rfl, (Or.inl (hw _ (List.mem_of_getElem? (i := 12) rfl))), (Or.inl (hw _ (List.mem_of_getElem? (i := 13) rfl))), by decide +kernel⟩
theorem s1_17 : Nx b1 17 (.putfield 13) 3 20 := ⟨by decide +kernel, rfl⟩
theorem s1_20 : Nx b1 20 (.aload_n 0) 1 21 := ⟨by decide +kernel, rfl⟩
theorem s1_21 : Nx b1 21 (.bipush 16) 2 23 := ⟨by decide +kernel, rfl⟩
theorem s1_23 : Nx b1 23 (.newarray .long) 2 25 := ⟨by decide +kernel, rfl⟩
theorem k_86 {Z : State} {a0 : Array Value} (hw : HW1 Z a0) : PL Z a0 KT "com/example/primalcap/primalcap/MinCostFlow" "<init>" 16 0 2 (.array .long) := ⟨_, _, "com/example/primalcap/primalcap/MinCostFlow", "capacity", "[J", "", rfl, rfl, (Or.inl (hw _ (List.mem_of_getElem? (i := 15) rfl))), (Or.inl (hw _ (List.mem_of_getElem? (i := 16) rfl))), by decide +kernel⟩
theorem s1_25 : Nx b1 25 (.putfield 16) 3 28 := ⟨by decide +kernel, rfl⟩
theorem s1_28 : Nx b1 28 (.aload_n 0) 1 29 := ⟨by decide +kernel, rfl⟩
theorem s1_29 : Nx b1 29 (.bipush 16) 2 31 := ⟨by decide +kernel, rfl⟩
theorem s1_31 : Nx b1 31 (.newarray .long) 2 33 := ⟨by decide +kernel, rfl⟩
theorem k_87 {Z : State} {a0 : Array Value} (hw : HW1 Z a0) : PL Z a0 KT "com/example/primalcap/primalcap/MinCostFlow" "<init>" 20 0 3 (.array .long) := ⟨_, _, "com/example/primalcap/primalcap/MinCostFlow", "cost", "[J", "", rfl, rfl, (Or.inl (hw _ (List.mem_of_getElem? (i := 17) rfl))), (Or.inl (hw _ (List.mem_of_getElem? (i := 18) rfl))), by decide +kernel⟩
theorem s1_33 : Nx b1 33 (.putfield 20) 3 36 := ⟨by decide +kernel, rfl⟩
theorem s1_36 : Nx b1 36 (.aload_n 0) 1 37 := ⟨by decide +kernel, rfl⟩
theorem s1_37 : Nx b1 37 (.bipush 16) 2 39 := ⟨by decide +kernel, rfl⟩
theorem s1_39 : Nx b1 39 (.newarray .long) 2 41 := ⟨by decide +kernel, rfl⟩
theorem k_88 {Z : State} {a0 : Array Value} (hw : HW1 Z a0) : PL Z a0 KT "com/example/primalcap/primalcap/MinCostFlow" "<init>" 23 0 4 (.array .long) := ⟨_, _, "com/example/primalcap/primalcap/MinCostFlow", "flow", "[J", "", rfl, rfl, (Or.inl (hw _ (List.mem_of_getElem? (i := 19) rfl))), (Or.inl (hw _ (List.mem_of_getElem? (i := 20) rfl))), by decide +kernel⟩
theorem s1_41 : Nx b1 41 (.putfield 23) 3 44 := ⟨by decide +kernel, rfl⟩
theorem s1_44 : Nx b1 44 (.aload_n 0) 1 45 := ⟨by decide +kernel, rfl⟩
theorem s1_45 : Nx b1 45 (.iload_n 1) 1 46 := ⟨by decide +kernel, rfl⟩
theorem k_89 {Z : State} {a0 : Array Value} (hw : HW1 Z a0) : PL Z a0 KT "com/example/primalcap/primalcap/MinCostFlow" "<init>" 26 0 5 .int := ⟨_, _, "com/example/primalcap/primalcap/MinCostFlow", "nodes", "I", "", rfl, rfl, (Or.inl (hw _ (List.mem_of_getElem? (i := 21) rfl))), (Or.inl (hw _ (List.mem_of_getElem? (i := 22) rfl))), by decide +kernel⟩
theorem s1_46 : Nx b1 46 (.putfield 26) 3 49 := ⟨by decide +kernel, rfl⟩
theorem s1_49 : Nx b1 49 (.return_) 1 50 := ⟨by decide +kernel, rfl⟩
theorem a_0 (l : Launch) {Z : State} {a0 : Array Value} (hw : HW1 Z a0) (n0 : Nat)  : Met l Z KT n0 y1 b1 2 none ({ frames := 1, cells := 5, slots := 80, locals := 12 } : Room) #[(.ref (n0 + 0)), (.int (3 : Int32))] [.inl (0, [.null, .null, .null, .null, .null, (.int (0 : Int32)), (.long (0 : Int64)), (.int (0 : Int32))])] (Is none [.inl (0, [(.ref (n0 + 1)), (.ref (n0 + 2)), (.ref (n0 + 3)), (.ref (n0 + 4)), (.ref (n0 + 5)), (.int (3 : Int32)), (.long (0 : Int64)), (.int (0 : Int32))]), .inr (.int, [(.int (0 : Int32)), (.int (0 : Int32)), (.int (0 : Int32)), (.int (0 : Int32)), (.int (0 : Int32)), (.int (0 : Int32)), (.int (0 : Int32)), (.int (0 : Int32)), (.int (0 : Int32)), (.int (0 : Int32)), (.int (0 : Int32)), (.int (0 : Int32)), (.int (0 : Int32)), (.int (0 : Int32)), (.int (0 : Int32)), (.int (0 : Int32))]), .inr (.int, [(.int (0 : Int32)), (.int (0 : Int32)), (.int (0 : Int32)), (.int (0 : Int32)), (.int (0 : Int32)), (.int (0 : Int32)), (.int (0 : Int32)), (.int (0 : Int32)), (.int (0 : Int32)), (.int (0 : Int32)), (.int (0 : Int32)), (.int (0 : Int32)), (.int (0 : Int32)), (.int (0 : Int32)), (.int (0 : Int32)), (.int (0 : Int32))]), .inr (.long, [(.long (0 : Int64)), (.long (0 : Int64)), (.long (0 : Int64)), (.long (0 : Int64)), (.long (0 : Int64)), (.long (0 : Int64)), (.long (0 : Int64)), (.long (0 : Int64)), (.long (0 : Int64)), (.long (0 : Int64)), (.long (0 : Int64)), (.long (0 : Int64)), (.long (0 : Int64)), (.long (0 : Int64)), (.long (0 : Int64)), (.long (0 : Int64))]), .inr (.long, [(.long (0 : Int64)), (.long (0 : Int64)), (.long (0 : Int64)), (.long (0 : Int64)), (.long (0 : Int64)), (.long (0 : Int64)), (.long (0 : Int64)), (.long (0 : Int64)), (.long (0 : Int64)), (.long (0 : Int64)), (.long (0 : Int64)), (.long (0 : Int64)), (.long (0 : Int64)), (.long (0 : Int64)), (.long (0 : Int64)), (.long (0 : Int64))]), .inr (.long, [(.long (0 : Int64)), (.long (0 : Int64)), (.long (0 : Int64)), (.long (0 : Int64)), (.long (0 : Int64)), (.long (0 : Int64)), (.long (0 : Int64)), (.long (0 : Int64)), (.long (0 : Int64)), (.long (0 : Int64)), (.long (0 : Int64)), (.long (0 : Int64)), (.long (0 : Int64)), (.long (0 : Int64)), (.long (0 : Int64)), (.long (0 : Int64))])]) := by
  refine Met.of (a0 := a0) (ls := #[.val (.ref (n0 + 0)), .val (.int (3 : Int32))]) (kok hw) (plainFor_of_name pn_78) (fun m => by first | (simp [entryFrame, mkF, argsToLocals, Value.category]; done) | rfl) (fun G H => ?_)
  refine H.aloadN s1_0 rfl rfl ?_
  refine H.initO s1_1 (k_83 hw) rfl (leb rfl) (leb rfl) ?_
  refine H.aloadN s1_4 rfl rfl ?_
  refine H.bipush s1_5 (v := (16 : Int32)) (by decide) ?_
  refine H.newarray s1_7 (ty := .int) rfl (k_21 hw) (N := 16) (cap := 16) (by decide) rfl (by decide) (by decide) (by first | rfl | simp) (by decide) (by decide) (i := 1) rfl (A' := [.inl (0, [.null, .null, .null, .null, .null, (.int (0 : Int32)), (.long (0 : Int64)), (.int (0 : Int32))]), .inr (.int, [(.int (0 : Int32)), (.int (0 : Int32)), (.int (0 : Int32)), (.int (0 : Int32)), (.int (0 : Int32)), (.int (0 : Int32)), (.int (0 : Int32)), (.int (0 : Int32)), (.int (0 : Int32)), (.int (0 : Int32)), (.int (0 : Int32)), (.int (0 : Int32)), (.int (0 : Int32)), (.int (0 : Int32)), (.int (0 : Int32)), (.int (0 : Int32))])]) rfl (k' := 1) rfl (n' := 16) rfl ?_
  refine H.putfield s1_9 (k_84 hw) (i := 0) rfl rfl rfl rfl ?_
  refine H.aloadN s1_12 rfl rfl ?_
  refine H.bipush s1_13 (v := (16 : Int32)) (by decide) ?_
  refine H.newarray s1_15 (ty := .int) rfl (k_21 hw) (N := 16) (cap := 16) (by decide) rfl (by decide) (by decide) (by first | rfl | simp) (by decide) (by decide) (i := 2) rfl (A' := [.inl (0, [(.ref (n0 + 1)), .null, .null, .null, .null, (.int (0 : Int32)), (.long (0 : Int64)), (.int (0 : Int32))]), .inr (.int, [(.int (0 : Int32)), (.int (0 : Int32)), (.int (0 : Int32)), (.int (0 : Int32)), (.int (0 : Int32)), (.int (0 : Int32)), (.int (0 : Int32)), (.int (0 : Int32)), (.int (0 : Int32)), (.int (0 : Int32)), (.int (0 : Int32)), (.int (0 : Int32)), (.int (0 : Int32)), (.int (0 : Int32)), (.int (0 : Int32)), (.int (0 : Int32))]), .inr (.int, [(.int (0 : Int32)), (.int (0 : Int32)), (.int (0 : Int32)), (.int (0 : Int32)), (.int (0 : Int32)), (.int (0 : Int32)), (.int (0 : Int32)), (.int (0 : Int32)), (.int (0 : Int32)), (.int (0 : Int32)), (.int (0 : Int32)), (.int (0 : Int32)), (.int (0 : Int32)), (.int (0 : Int32)), (.int (0 : Int32)), (.int (0 : Int32))])]) rfl (k' := 2) rfl (n' := 32) rfl ?_
  refine H.putfield s1_17 (k_85 hw) (i := 0) rfl rfl rfl rfl ?_
  refine H.aloadN s1_20 rfl rfl ?_
  refine H.bipush s1_21 (v := (16 : Int32)) (by decide) ?_
  refine H.newarray s1_23 (ty := .long) rfl (k_26 hw) (N := 16) (cap := 16) (by decide) rfl (by decide) (by decide) (by first | rfl | simp) (by decide) (by decide) (i := 3) rfl (A' := [.inl (0, [(.ref (n0 + 1)), (.ref (n0 + 2)), .null, .null, .null, (.int (0 : Int32)), (.long (0 : Int64)), (.int (0 : Int32))]), .inr (.int, [(.int (0 : Int32)), (.int (0 : Int32)), (.int (0 : Int32)), (.int (0 : Int32)), (.int (0 : Int32)), (.int (0 : Int32)), (.int (0 : Int32)), (.int (0 : Int32)), (.int (0 : Int32)), (.int (0 : Int32)), (.int (0 : Int32)), (.int (0 : Int32)), (.int (0 : Int32)), (.int (0 : Int32)), (.int (0 : Int32)), (.int (0 : Int32))]), .inr (.int, [(.int (0 : Int32)), (.int (0 : Int32)), (.int (0 : Int32)), (.int (0 : Int32)), (.int (0 : Int32)), (.int (0 : Int32)), (.int (0 : Int32)), (.int (0 : Int32)), (.int (0 : Int32)), (.int (0 : Int32)), (.int (0 : Int32)), (.int (0 : Int32)), (.int (0 : Int32)), (.int (0 : Int32)), (.int (0 : Int32)), (.int (0 : Int32))]), .inr (.long, [(.long (0 : Int64)), (.long (0 : Int64)), (.long (0 : Int64)), (.long (0 : Int64)), (.long (0 : Int64)), (.long (0 : Int64)), (.long (0 : Int64)), (.long (0 : Int64)), (.long (0 : Int64)), (.long (0 : Int64)), (.long (0 : Int64)), (.long (0 : Int64)), (.long (0 : Int64)), (.long (0 : Int64)), (.long (0 : Int64)), (.long (0 : Int64))])]) rfl (k' := 3) rfl (n' := 48) rfl ?_
  refine H.putfield s1_25 (k_86 hw) (i := 0) rfl rfl rfl rfl ?_
  refine H.aloadN s1_28 rfl rfl ?_
  refine H.bipush s1_29 (v := (16 : Int32)) (by decide) ?_
  refine H.newarray s1_31 (ty := .long) rfl (k_26 hw) (N := 16) (cap := 16) (by decide) rfl (by decide) (by decide) (by first | rfl | simp) (by decide) (by decide) (i := 4) rfl (A' := [.inl (0, [(.ref (n0 + 1)), (.ref (n0 + 2)), (.ref (n0 + 3)), .null, .null, (.int (0 : Int32)), (.long (0 : Int64)), (.int (0 : Int32))]), .inr (.int, [(.int (0 : Int32)), (.int (0 : Int32)), (.int (0 : Int32)), (.int (0 : Int32)), (.int (0 : Int32)), (.int (0 : Int32)), (.int (0 : Int32)), (.int (0 : Int32)), (.int (0 : Int32)), (.int (0 : Int32)), (.int (0 : Int32)), (.int (0 : Int32)), (.int (0 : Int32)), (.int (0 : Int32)), (.int (0 : Int32)), (.int (0 : Int32))]), .inr (.int, [(.int (0 : Int32)), (.int (0 : Int32)), (.int (0 : Int32)), (.int (0 : Int32)), (.int (0 : Int32)), (.int (0 : Int32)), (.int (0 : Int32)), (.int (0 : Int32)), (.int (0 : Int32)), (.int (0 : Int32)), (.int (0 : Int32)), (.int (0 : Int32)), (.int (0 : Int32)), (.int (0 : Int32)), (.int (0 : Int32)), (.int (0 : Int32))]), .inr (.long, [(.long (0 : Int64)), (.long (0 : Int64)), (.long (0 : Int64)), (.long (0 : Int64)), (.long (0 : Int64)), (.long (0 : Int64)), (.long (0 : Int64)), (.long (0 : Int64)), (.long (0 : Int64)), (.long (0 : Int64)), (.long (0 : Int64)), (.long (0 : Int64)), (.long (0 : Int64)), (.long (0 : Int64)), (.long (0 : Int64)), (.long (0 : Int64))]), .inr (.long, [(.long (0 : Int64)), (.long (0 : Int64)), (.long (0 : Int64)), (.long (0 : Int64)), (.long (0 : Int64)), (.long (0 : Int64)), (.long (0 : Int64)), (.long (0 : Int64)), (.long (0 : Int64)), (.long (0 : Int64)), (.long (0 : Int64)), (.long (0 : Int64)), (.long (0 : Int64)), (.long (0 : Int64)), (.long (0 : Int64)), (.long (0 : Int64))])]) rfl (k' := 4) rfl (n' := 64) rfl ?_
  refine H.putfield s1_33 (k_87 hw) (i := 0) rfl rfl rfl rfl ?_
  refine H.aloadN s1_36 rfl rfl ?_
  refine H.bipush s1_37 (v := (16 : Int32)) (by decide) ?_
  refine H.newarray s1_39 (ty := .long) rfl (k_26 hw) (N := 16) (cap := 16) (by decide) rfl (by decide) (by decide) (by first | rfl | simp) (by decide) (by decide) (i := 5) rfl (A' := [.inl (0, [(.ref (n0 + 1)), (.ref (n0 + 2)), (.ref (n0 + 3)), (.ref (n0 + 4)), .null, (.int (0 : Int32)), (.long (0 : Int64)), (.int (0 : Int32))]), .inr (.int, [(.int (0 : Int32)), (.int (0 : Int32)), (.int (0 : Int32)), (.int (0 : Int32)), (.int (0 : Int32)), (.int (0 : Int32)), (.int (0 : Int32)), (.int (0 : Int32)), (.int (0 : Int32)), (.int (0 : Int32)), (.int (0 : Int32)), (.int (0 : Int32)), (.int (0 : Int32)), (.int (0 : Int32)), (.int (0 : Int32)), (.int (0 : Int32))]), .inr (.int, [(.int (0 : Int32)), (.int (0 : Int32)), (.int (0 : Int32)), (.int (0 : Int32)), (.int (0 : Int32)), (.int (0 : Int32)), (.int (0 : Int32)), (.int (0 : Int32)), (.int (0 : Int32)), (.int (0 : Int32)), (.int (0 : Int32)), (.int (0 : Int32)), (.int (0 : Int32)), (.int (0 : Int32)), (.int (0 : Int32)), (.int (0 : Int32))]), .inr (.long, [(.long (0 : Int64)), (.long (0 : Int64)), (.long (0 : Int64)), (.long (0 : Int64)), (.long (0 : Int64)), (.long (0 : Int64)), (.long (0 : Int64)), (.long (0 : Int64)), (.long (0 : Int64)), (.long (0 : Int64)), (.long (0 : Int64)), (.long (0 : Int64)), (.long (0 : Int64)), (.long (0 : Int64)), (.long (0 : Int64)), (.long (0 : Int64))]), .inr (.long, [(.long (0 : Int64)), (.long (0 : Int64)), (.long (0 : Int64)), (.long (0 : Int64)), (.long (0 : Int64)), (.long (0 : Int64)), (.long (0 : Int64)), (.long (0 : Int64)), (.long (0 : Int64)), (.long (0 : Int64)), (.long (0 : Int64)), (.long (0 : Int64)), (.long (0 : Int64)), (.long (0 : Int64)), (.long (0 : Int64)), (.long (0 : Int64))]), .inr (.long, [(.long (0 : Int64)), (.long (0 : Int64)), (.long (0 : Int64)), (.long (0 : Int64)), (.long (0 : Int64)), (.long (0 : Int64)), (.long (0 : Int64)), (.long (0 : Int64)), (.long (0 : Int64)), (.long (0 : Int64)), (.long (0 : Int64)), (.long (0 : Int64)), (.long (0 : Int64)), (.long (0 : Int64)), (.long (0 : Int64)), (.long (0 : Int64))])]) rfl (k' := 5) rfl (n' := 80) rfl ?_
  refine H.putfield s1_41 (k_88 hw) (i := 0) rfl rfl rfl rfl ?_
  refine H.aloadN s1_44 rfl rfl ?_
  refine H.iloadN s1_45 rfl ?_
  refine H.putfield s1_46 (k_89 hw) (i := 0) rfl rfl rfl rfl ?_
  exact H.vreturn s1_49 rfl ⟨rfl, rfl⟩ (by decide) (by decide)

theorem pn_95 : plainName "java/lang/Record" = true := by first | (simp [plainName, overriddenIn]; done) | decide +kernel
theorem k_90 {Z : State} {a0 : Array Value} (hw : HW1 Z a0) : CL Z a0 "com/example/primalcap/primalcap/NetworkBoughtAtPinLaw" 9 y1 b1 2 1 := ⟨(hw _ (List.mem_of_getElem? (i := 3) rfl)), (hw _ (List.mem_of_getElem? (i := 4) rfl)), (hw _ (List.mem_of_getElem? (i := 2) rfl)), (hw _ (List.mem_of_getElem? (i := 5) rfl)), ⟨by decide, by decide⟩, pd_7, rfl⟩
theorem s0_68 : Nx code 68 (.astore 19) 2 70 := ⟨at_68, rfl⟩
theorem s0_70 : Nx code 70 (.aload 19) 2 72 := ⟨at_70, rfl⟩
theorem s0_72 : Nx code 72 (.iconst 0) 1 73 := ⟨at_72, rfl⟩
theorem s0_73 : Nx code 73 (.iconst 2) 1 74 := ⟨at_73, rfl⟩
theorem s0_74 : Nx code 74 (.lload 9) 2 76 := ⟨at_74, rfl⟩
theorem s0_76 : Nx code 76 (.lconst 0) 1 77 := ⟨at_76, rfl⟩
theorem s0_77 : Nx code 77 (.invokevirtual 12) 3 80 := ⟨at_77, rfl⟩
theorem pd_11 : ∀ sig, parseMethodDescriptor "(IIJJ)I" = some sig → 4 = sig.parameters.length := npOf (r := some .int) (ps := [.int, .int, .long, .long]) (by decide +kernel) rfl
theorem k_91 {Z : State} {a0 : Array Value} (hw : HW1 Z a0) : VL Z a0 KT "com/example/primalcap/primalcap/NetworkBoughtAtPinLaw" 12 0 y3 b3 8 (some .int) 4 := ⟨_, _, rfl, (hw _ (List.mem_of_getElem? (i := 23) rfl)), (hw _ (List.mem_of_getElem? (i := 24) rfl)), (hw _ (List.mem_of_getElem? (i := 26) rfl)), (hw _ (List.mem_of_getElem? (i := 25) rfl)), (hw _ (List.mem_of_getElem? (i := 2) rfl)), (hw _ (List.mem_of_getElem? (i := 27) rfl)), ⟨by decide, by decide⟩, pd_11⟩
theorem s0_80 : Nx code 80 (.pop) 1 81 := ⟨at_80, rfl⟩
theorem s0_81 : Nx code 81 (.aload 19) 2 83 := ⟨at_81, rfl⟩
theorem s0_83 : Nx code 83 (.iconst 2) 1 84 := ⟨at_83, rfl⟩
theorem s0_84 : Nx code 84 (.iconst 1) 1 85 := ⟨at_84, rfl⟩
theorem s0_85 : Nx code 85 (.lload 11) 2 87 := ⟨at_85, rfl⟩
theorem s0_87 : Nx code 87 (.iload 17) 2 89 := ⟨at_87, rfl⟩
theorem s0_89 : Nx code 89 (.ineg) 1 90 := ⟨at_89, rfl⟩
theorem s0_90 : Nx code 90 (.i2l) 1 91 := ⟨at_90, rfl⟩
theorem s0_91 : Nx code 91 (.invokevirtual 12) 3 94 := ⟨at_91, rfl⟩
theorem s0_94 : Nx code 94 (.pop) 1 95 := ⟨at_94, rfl⟩
theorem s0_95 : Nx code 95 (.aload 19) 2 97 := ⟨at_95, rfl⟩
theorem s0_97 : Nx code 97 (.iconst 0) 1 98 := ⟨at_97, rfl⟩
theorem s0_98 : Nx code 98 (.iconst 1) 1 99 := ⟨at_98, rfl⟩
theorem s0_99 : Nx code 99 (.lload 13) 2 101 := ⟨at_99, rfl⟩
theorem s0_101 : Nx code 101 (.iload 18) 2 103 := ⟨at_101, rfl⟩
theorem s0_103 : Nx code 103 (.ineg) 1 104 := ⟨at_103, rfl⟩
theorem s0_104 : Nx code 104 (.i2l) 1 105 := ⟨at_104, rfl⟩
theorem s0_105 : Nx code 105 (.invokevirtual 12) 3 108 := ⟨at_105, rfl⟩
theorem s0_108 : Nx code 108 (.pop) 1 109 := ⟨at_108, rfl⟩
theorem s0_109 : Nx code 109 (.aload 19) 2 111 := ⟨at_109, rfl⟩
theorem s0_111 : Nx code 111 (.iconst 1) 1 112 := ⟨at_111, rfl⟩
theorem s0_112 : Nx code 112 (.iconst 0) 1 113 := ⟨at_112, rfl⟩
theorem s0_113 : Nx code 113 (.lload 15) 2 115 := ⟨at_113, rfl⟩
theorem s0_115 : Nx code 115 (.lconst 0) 1 116 := ⟨at_115, rfl⟩
theorem s0_116 : Nx code 116 (.invokevirtual 12) 3 119 := ⟨at_116, rfl⟩
theorem s0_119 : Nx code 119 (.pop) 1 120 := ⟨at_119, rfl⟩
theorem s0_120 : Nx code 120 (.aload 19) 2 122 := ⟨at_120, rfl⟩
theorem s0_122 : Nx code 122 (.invokevirtual 16) 3 125 := ⟨at_122, rfl⟩
theorem k_92 {Z : State} {a0 : Array Value} (hw : HW1 Z a0) : VLW Z a0 KT "com/example/primalcap/primalcap/NetworkBoughtAtPinLaw" 16 0 y26 b26 6 none [((0 : Nat), (9 : Nat), (12 : Nat), (66 : Nat))] 0 := ⟨_, _, rfl, (hw _ (List.mem_of_getElem? (i := 33) rfl)), (hw _ (List.mem_of_getElem? (i := 34) rfl)), (hw _ (List.mem_of_getElem? (i := 36) rfl)), (hw _ (List.mem_of_getElem? (i := 35) rfl)), (hw _ (List.mem_of_getElem? (i := 2) rfl)), (hw _ (List.mem_of_getElem? (i := 37) rfl)), ⟨by decide, by decide⟩, pd_10⟩
theorem s0_125 : Nx code 125 (.iconst 4) 1 126 := ⟨at_125, rfl⟩
theorem s0_126 : Nx code 126 (.newarray .long) 2 128 := ⟨at_126, rfl⟩
theorem s0_128 : Nx code 128 (.dup) 1 129 := ⟨at_128, rfl⟩
theorem s0_129 : Nx code 129 (.iconst 0) 1 130 := ⟨at_129, rfl⟩
theorem s0_130 : Nx code 130 (.lload_n 1) 1 131 := ⟨at_130, rfl⟩
theorem s0_131 : Nx code 131 (.lastore) 1 132 := ⟨at_131, rfl⟩
theorem s0_132 : Nx code 132 (.dup) 1 133 := ⟨at_132, rfl⟩
theorem s0_133 : Nx code 133 (.iconst 1) 1 134 := ⟨at_133, rfl⟩
theorem s0_134 : Nx code 134 (.lload_n 3) 1 135 := ⟨at_134, rfl⟩
theorem s0_135 : Nx code 135 (.lastore) 1 136 := ⟨at_135, rfl⟩
theorem s0_136 : Nx code 136 (.dup) 1 137 := ⟨at_136, rfl⟩
theorem s0_137 : Nx code 137 (.iconst 2) 1 138 := ⟨at_137, rfl⟩
theorem s0_138 : Nx code 138 (.lload 5) 2 140 := ⟨at_138, rfl⟩
theorem s0_140 : Nx code 140 (.lastore) 1 141 := ⟨at_140, rfl⟩
theorem s0_141 : Nx code 141 (.dup) 1 142 := ⟨at_141, rfl⟩
theorem s0_142 : Nx code 142 (.iconst 3) 1 143 := ⟨at_142, rfl⟩
theorem s0_143 : Nx code 143 (.lload 7) 2 145 := ⟨at_143, rfl⟩
theorem s0_145 : Nx code 145 (.lastore) 1 146 := ⟨at_145, rfl⟩
theorem s0_146 : Nx code 146 (.astore 20) 2 148 := ⟨at_146, rfl⟩
theorem k_93 {Z : State} {a0 : Array Value} (hw : HW1 Z a0) : NL Z a0 KT "com/example/primalcap/primalcap/NetworkBoughtAtPinLaw" 19 2 2 [.null, .null] := ⟨_, _, rfl, (hw _ (List.mem_of_getElem? (i := 119) rfl)), (hw _ (List.mem_of_getElem? (i := 120) rfl)), (hw _ (List.mem_of_getElem? (i := 121) rfl)), by decide +kernel⟩
theorem s0_148 : Nx code 148 (.new 19) 3 151 := ⟨at_148, rfl⟩
theorem s0_151 : Nx code 151 (.dup) 1 152 := ⟨at_151, rfl⟩
theorem s0_152 : Nx code 152 (.aload 19) 2 154 := ⟨at_152, rfl⟩
theorem s0_154 : Nx code 154 (.aload 20) 2 156 := ⟨at_154, rfl⟩
theorem s0_156 : Nx code 156 (.invokespecial 21) 3 159 := ⟨at_156, rfl⟩
theorem s13_0 : Nx b13 0 (.aload_n 0) 1 1 := ⟨by decide +kernel, rfl⟩
theorem s13_1 : Nx b13 1 (.invokespecial 3) 3 4 := ⟨by decide +kernel, rfl⟩
theorem s14_0 : Nx b14 0 (.aload_n 0) 1 1 := ⟨by decide +kernel, rfl⟩
theorem s14_1 : Nx b14 1 (.invokespecial 1) 3 4 := ⟨by decide +kernel, rfl⟩
theorem k_94 {Z : State} {a0 : Array Value} (hw : HW1 Z a0) : IL Z a0 "java/lang/Record" 1 := ⟨(hw _ (List.mem_of_getElem? (i := 130) rfl)), (hw _ (List.mem_of_getElem? (i := 7) rfl)), (hw _ (List.mem_of_getElem? (i := 8) rfl))⟩
theorem s14_4 : Nx b14 4 (.return_) 1 5 := ⟨by decide +kernel, rfl⟩
theorem d_2 (l : Launch) {Z : State} {a0 : Array Value} (hw : HW1 Z a0) (n0 : Nat) (ν : OwnL.Va) (c1 c2 f0 f1 f2 f3 : Int64) (t : Ob × Ob × Ob × Ob × Ob × Ob × Ob × Ob × Ob × Ob × Ob × Ob) (p1 p2 p3 p4 : Int64) : Met l Z KT n0 y14 b14 1 none ({ frames := 1, cells := 0, slots := 0, locals := 12 } : Room) #[(.ref (n0 + 19))] (own_bb n0 ν c1 c2 f0 f1 f2 f3 t [.inr (.long, [(.long p1), (.long p2), (.long p3), (.long p4)]), .inl (2, [.null, .null])]) (Is none (own_bb n0 ν c1 c2 f0 f1 f2 f3 t [.inr (.long, [(.long p1), (.long p2), (.long p3), (.long p4)]), .inl (2, [.null, .null])])) := by
  refine Met.of (a0 := a0) (ls := #[.val (.ref (n0 + 19))]) (kok hw) (plainFor_of_name pn_95) (fun m => by first | (simp [entryFrame, mkF, argsToLocals, Value.category]; done) | rfl) (fun G H => ?_)
  refine H.aloadN s14_0 rfl rfl ?_
  refine H.initO s14_1 (k_94 hw) rfl (leb rfl) (leb rfl) ?_
  exact H.vreturn s14_4 rfl ⟨rfl, rfl⟩ (by decide) (by decide)

theorem pn_99 : plainName "com/example/primalcap/primalcap/Optimum$Network" = true := by first | (simp [plainName, overriddenIn]; done) | decide +kernel
theorem k_96 {Z : State} {a0 : Array Value} (hw : HW1 Z a0) : CL Z a0 "com/example/primalcap/primalcap/Optimum$Network" 3 y14 b14 1 0 := ⟨(hw _ (List.mem_of_getElem? (i := 125) rfl)), (hw _ (List.mem_of_getElem? (i := 126) rfl)), (hw _ (List.mem_of_getElem? (i := 128) rfl)), (hw _ (List.mem_of_getElem? (i := 129) rfl)), ⟨by decide, by decide⟩, pd_10, rfl⟩
theorem s13_4 : Nx b13 4 (.aload_n 0) 1 5 := ⟨by decide +kernel, rfl⟩
theorem s13_5 : Nx b13 5 (.aload_n 1) 1 6 := ⟨by decide +kernel, rfl⟩
theorem k_97 {Z : State} {a0 : Array Value} (hw : HW1 Z a0) : PL Z a0 KT "com/example/primalcap/primalcap/Optimum$Network" "<init>" 9 2 0 (.object "com/example/primalcap/primalcap/MinCostFlow") := ⟨_, _, "com/example/primalcap/primalcap/Optimum$Network", "flows", "Lcom/example/primalcap/primalcap/MinCostFlow;", "", rfl, rfl, (Or.inl (hw _ (List.mem_of_getElem? (i := 131) rfl))), (Or.inr ⟨(hw _ (List.mem_of_getElem? (i := 132) rfl)), rfl, rfl⟩), by decide +kernel⟩
theorem s13_6 : Nx b13 6 (.putfield 9) 3 9 := ⟨by decide +kernel, rfl⟩
theorem s13_9 : Nx b13 9 (.aload_n 0) 1 10 := ⟨by decide +kernel, rfl⟩
theorem s13_10 : Nx b13 10 (.aload_n 2) 1 11 := ⟨by decide +kernel, rfl⟩
theorem k_98 {Z : State} {a0 : Array Value} (hw : HW1 Z a0) : PL Z a0 KT "com/example/primalcap/primalcap/Optimum$Network" "<init>" 15 2 1 (.array .long) := ⟨_, _, "com/example/primalcap/primalcap/Optimum$Network", "soldOutright", "[J", "", rfl, rfl, (Or.inl (hw _ (List.mem_of_getElem? (i := 133) rfl))), (Or.inr ⟨(hw _ (List.mem_of_getElem? (i := 134) rfl)), rfl, rfl⟩), by decide +kernel⟩
theorem s13_11 : Nx b13 11 (.putfield 15) 3 14 := ⟨by decide +kernel, rfl⟩
theorem s13_14 : Nx b13 14 (.return_) 1 15 := ⟨by decide +kernel, rfl⟩
theorem d_1 (l : Launch) {Z : State} {a0 : Array Value} (hw : HW1 Z a0) (n0 : Nat) (ν : OwnL.Va) (c1 c2 f0 f1 f2 f3 : Int64) (t : Ob × Ob × Ob × Ob × Ob × Ob × Ob × Ob × Ob × Ob × Ob × Ob) (p1 p2 p3 p4 : Int64) : Met l Z KT n0 y13 b13 3 none ({ frames := 2, cells := 0, slots := 0, locals := 24 } : Room) #[(.ref (n0 + 19)), (.ref (n0 + 0)), (.ref (n0 + 18))] (own_bb n0 ν c1 c2 f0 f1 f2 f3 t [.inr (.long, [(.long p1), (.long p2), (.long p3), (.long p4)]), .inl (2, [.null, .null])]) (Is none (own_bb n0 ν c1 c2 f0 f1 f2 f3 t [.inr (.long, [(.long p1), (.long p2), (.long p3), (.long p4)]), .inl (2, [(.ref (n0 + 0)), (.ref (n0 + 18))])])) := by
  refine Met.of (a0 := a0) (ls := #[.val (.ref (n0 + 19)), .val (.ref (n0 + 0)), .val (.ref (n0 + 18))]) (kok hw) (plainFor_of_name pn_99) (fun m => by first | (simp [entryFrame, mkF, argsToLocals, Value.category]; done) | rfl) (fun G H => ?_)
  refine H.aloadN s13_0 rfl rfl ?_
  refine H.callCD s13_1 (k_96 hw) (d_2 l hw n0 ν c1 c2 f0 f1 f2 f3 t p1 p2 p3 p4) (argsL := []) (rest := []) rfl rfl rfl rfl (leb rfl) (leb rfl) (leb rfl) (leb rfl) (st' := []) rfl (k' := 0) rfl (n' := 0) rfl ?_
  refine H.aloadN s13_4 rfl rfl ?_
  refine H.aloadN s13_5 rfl rfl ?_
  refine H.putfield s13_6 (k_97 hw) (i := 19) rfl rfl rfl rfl ?_
  refine H.aloadN s13_9 rfl rfl ?_
  refine H.aloadN s13_10 rfl rfl ?_
  refine H.putfield s13_11 (k_98 hw) (i := 19) rfl rfl rfl rfl ?_
  exact H.vreturn s13_14 rfl ⟨rfl, rfl⟩ (by decide) (by decide)

theorem pd_12 : ∀ sig, parseMethodDescriptor "(Lcom/example/primalcap/primalcap/MinCostFlow;[J)V" = some sig → 2 = sig.parameters.length := npOf (r := none) (ps := [(.object "com/example/primalcap/primalcap/MinCostFlow"), (.array .long)]) (by decide +kernel) rfl
theorem k_100 {Z : State} {a0 : Array Value} (hw : HW1 Z a0) : CL Z a0 "com/example/primalcap/primalcap/NetworkBoughtAtPinLaw" 21 y13 b13 3 2 := ⟨(hw _ (List.mem_of_getElem? (i := 122) rfl)), (hw _ (List.mem_of_getElem? (i := 123) rfl)), (hw _ (List.mem_of_getElem? (i := 121) rfl)), (hw _ (List.mem_of_getElem? (i := 124) rfl)), ⟨by decide, by decide⟩, pd_12, rfl⟩
theorem s0_159 : Nx code 159 (.invokevirtual 24) 3 162 := ⟨at_159, rfl⟩
theorem s15_0 : Nx b15 0 (.aload_n 0) 1 1 := ⟨by decide +kernel, rfl⟩
theorem k_101 {Z : State} {a0 : Array Value} (hw : HW1 Z a0) : FL Z a0 KT "com/example/primalcap/primalcap/Optimum$Network" 15 2 1 := ⟨_, _, "com/example/primalcap/primalcap/Optimum$Network", "soldOutright", "[J", "", rfl, rfl, (Or.inl (hw _ (List.mem_of_getElem? (i := 133) rfl)))⟩
theorem s15_1 : Nx b15 1 (.getfield 15) 3 4 := ⟨by decide +kernel, rfl⟩
theorem s15_4 : Nx b15 4 (.invokevirtual 19) 3 7 := ⟨by decide +kernel, rfl⟩
theorem k_102 {Z : State} {a0 : Array Value} (hw : HW1 Z a0) : KL Z a0 "com/example/primalcap/primalcap/Optimum$Network" 19 "[J" := ⟨(hw _ (List.mem_of_getElem? (i := 140) rfl)), (hw _ (List.mem_of_getElem? (i := 141) rfl)), (hw _ (List.mem_of_getElem? (i := 145) rfl)), (hw _ (List.mem_of_getElem? (i := 143) rfl)), (hw _ (List.mem_of_getElem? (i := 144) rfl)), (hw _ (List.mem_of_getElem? (i := 146) rfl))⟩
theorem s15_7 : Nx b15 7 (.checkcast 20) 3 10 := ⟨by decide +kernel, rfl⟩
theorem s15_10 : Nx b15 10 (.astore_n 1) 1 11 := ⟨by decide +kernel, rfl⟩
theorem s15_11 : Nx b15 11 (.iconst 0) 1 12 := ⟨by decide +kernel, rfl⟩
theorem s15_12 : Nx b15 12 (.istore_n 2) 1 13 := ⟨by decide +kernel, rfl⟩
theorem s15_13 : Nx b15 13 (.iload_n 2) 1 14 := ⟨by decide +kernel, rfl⟩
theorem s15_14 : Nx b15 14 (.aload_n 0) 1 15 := ⟨by decide +kernel, rfl⟩
theorem k_103 {Z : State} {a0 : Array Value} (hw : HW1 Z a0) : FL Z a0 KT "com/example/primalcap/primalcap/Optimum$Network" 9 2 0 := ⟨_, _, "com/example/primalcap/primalcap/Optimum$Network", "flows", "Lcom/example/primalcap/primalcap/MinCostFlow;", "", rfl, rfl, (Or.inl (hw _ (List.mem_of_getElem? (i := 131) rfl)))⟩
theorem s15_15 : Nx b15 15 (.getfield 9) 3 18 := ⟨by decide +kernel, rfl⟩
theorem s15_18 : Nx b15 18 (.invokevirtual 24) 3 21 := ⟨by decide +kernel, rfl⟩
theorem s16_0 : Nx b16 0 (.aload_n 0) 1 1 := ⟨by decide +kernel, rfl⟩
theorem s16_1 : Nx b16 1 (.getfield 49) 3 4 := ⟨by decide +kernel, rfl⟩
theorem s16_4 : Nx b16 4 (.ireturn) 1 5 := ⟨by decide +kernel, rfl⟩
theorem g_0 (l : Launch) {Z : State} {a0 : Array Value} (hw : HW1 Z a0) (n0 : Nat) (ν : OwnL.Va) (c1 c2 f0 f1 f2 f3 : Int64) (t : Ob × Ob × Ob × Ob × Ob × Ob × Ob × Ob × Ob × Ob × Ob × Ob) (l1 : List Ob) : Met l Z KT n0 y16 b16 1 (some .int) ({ frames := 0, cells := 0, slots := 0, locals := 0 } : Room) #[(.ref (n0 + 0))] (own_bb n0 ν c1 c2 f0 f1 f2 f3 t l1) (Is (some (.int (4 : Int32))) (own_bb n0 ν c1 c2 f0 f1 f2 f3 t l1)) := by
  refine Met.of (a0 := a0) (ls := #[.val (.ref (n0 + 0))]) (kok hw) (plainFor_of_name pn_78) (fun m => by first | (simp [entryFrame, mkF, argsToLocals, Value.category]; done) | rfl) (fun G H => ?_)
  refine H.aloadN s16_0 rfl rfl ?_
  refine H.getfield s16_1 (k_3 hw) (i := 0) rfl rfl ?_
  exact H.ireturn s16_4 rfl (by simp) rfl ⟨rfl, rfl⟩ (by decide) (by decide)

theorem pd_13 : ∀ sig, parseMethodDescriptor "()I" = some sig → 0 = sig.parameters.length := npOf (r := some .int) (ps := []) (by decide +kernel) rfl
theorem k_104 {Z : State} {a0 : Array Value} (hw : HW1 Z a0) : VL Z a0 KT "com/example/primalcap/primalcap/Optimum$Network" 24 0 y16 b16 1 (some .int) 0 := ⟨_, _, rfl, (hw _ (List.mem_of_getElem? (i := 149) rfl)), (hw _ (List.mem_of_getElem? (i := 150) rfl)), (hw _ (List.mem_of_getElem? (i := 152) rfl)), (hw _ (List.mem_of_getElem? (i := 151) rfl)), (hw _ (List.mem_of_getElem? (i := 2) rfl)), (hw _ (List.mem_of_getElem? (i := 153) rfl)), ⟨by decide, by decide⟩, pd_13⟩
theorem s15_21 : Bx b15 21 (.if_icmp .ge) 65 24 := ⟨(44), by decide +kernel, by decide, by decide, rfl⟩
theorem s15_24 : Nx b15 24 (.aload_n 0) 1 25 := ⟨by decide +kernel, rfl⟩
theorem s15_25 : Nx b15 25 (.getfield 9) 3 28 := ⟨by decide +kernel, rfl⟩
theorem s15_28 : Nx b15 28 (.iload_n 2) 1 29 := ⟨by decide +kernel, rfl⟩
theorem s15_29 : Nx b15 29 (.invokevirtual 30) 3 32 := ⟨by decide +kernel, rfl⟩
theorem s17_0 : Nx b17 0 (.aload_n 0) 1 1 := ⟨by decide +kernel, rfl⟩
theorem s17_1 : Nx b17 1 (.getfield 13) 3 4 := ⟨by decide +kernel, rfl⟩
theorem s17_4 : Nx b17 4 (.iload_n 1) 1 5 := ⟨by decide +kernel, rfl⟩
theorem s17_5 : Nx b17 5 (.iaload) 1 6 := ⟨by decide +kernel, rfl⟩
theorem s17_6 : Nx b17 6 (.ireturn) 1 7 := ⟨by decide +kernel, rfl⟩
theorem g_1 (l : Launch) {Z : State} {a0 : Array Value} (hw : HW1 Z a0) (n0 : Nat) (ν : OwnL.Va) (c1 c2 f0 f1 f2 f3 : Int64) (t : Ob × Ob × Ob × Ob × Ob × Ob × Ob × Ob × Ob × Ob × Ob × Ob) (l1 : List Ob) : Met l Z KT n0 y17 b17 2 (some .int) ({ frames := 0, cells := 0, slots := 0, locals := 0 } : Room) #[(.ref (n0 + 0)), (.int (0 : Int32))] (own_bb n0 ν c1 c2 f0 f1 f2 f3 t l1) (Is (some (.int (2 : Int32))) (own_bb n0 ν c1 c2 f0 f1 f2 f3 t l1)) := by
  refine Met.of (a0 := a0) (ls := #[.val (.ref (n0 + 0)), .val (.int (0 : Int32))]) (kok hw) (plainFor_of_name pn_78) (fun m => by first | (simp [entryFrame, mkF, argsToLocals, Value.category]; done) | rfl) (fun G H => ?_)
  refine H.aloadN s17_0 rfl rfl ?_
  refine H.getfield s17_1 (k_4 hw) (i := 0) rfl rfl ?_
  refine H.iloadN s17_4 rfl ?_
  refine H.iaload s17_5 (i := 2) (j := 0) rfl (by decide) (v := (.int (2 : Int32))) rfl ?_
  exact H.ireturn s17_6 rfl (by simp) rfl ⟨rfl, rfl⟩ (by decide) (by decide)

theorem pd_14 : ∀ sig, parseMethodDescriptor "(I)I" = some sig → 1 = sig.parameters.length := npOf (r := some .int) (ps := [.int]) (by decide +kernel) rfl
theorem k_105 {Z : State} {a0 : Array Value} (hw : HW1 Z a0) : VL Z a0 KT "com/example/primalcap/primalcap/Optimum$Network" 30 0 y17 b17 2 (some .int) 1 := ⟨_, _, rfl, (hw _ (List.mem_of_getElem? (i := 154) rfl)), (hw _ (List.mem_of_getElem? (i := 155) rfl)), (hw _ (List.mem_of_getElem? (i := 157) rfl)), (hw _ (List.mem_of_getElem? (i := 156) rfl)), (hw _ (List.mem_of_getElem? (i := 2) rfl)), (hw _ (List.mem_of_getElem? (i := 158) rfl)), ⟨by decide, by decide⟩, pd_14⟩
theorem s15_32 : Nx b15 32 (.iconst 1) 1 33 := ⟨by decide +kernel, rfl⟩
theorem s15_33 : Bx b15 33 (.if_icmp .ne) 59 36 := ⟨(26), by decide +kernel, by decide, by decide, rfl⟩
theorem s15_59 : Nx b15 59 (.iinc 2 1) 3 62 := ⟨by decide +kernel, rfl⟩
theorem s15_62 : Bx b15 62 (.goto) 13 65 := ⟨(-49), by decide +kernel, by decide, by decide, rfl⟩
theorem g_2 (l : Launch) {Z : State} {a0 : Array Value} (hw : HW1 Z a0) (n0 : Nat) (ν : OwnL.Va) (c1 c2 f0 f1 f2 f3 : Int64) (t : Ob × Ob × Ob × Ob × Ob × Ob × Ob × Ob × Ob × Ob × Ob × Ob) (l1 : List Ob) : Met l Z KT n0 y17 b17 2 (some .int) ({ frames := 0, cells := 0, slots := 0, locals := 0 } : Room) #[(.ref (n0 + 0)), (.int (1 : Int32))] (own_bb n0 ν c1 c2 f0 f1 f2 f3 t l1) (Is (some (.int (1 : Int32))) (own_bb n0 ν c1 c2 f0 f1 f2 f3 t l1)) := by
  refine Met.of (a0 := a0) (ls := #[.val (.ref (n0 + 0)), .val (.int (1 : Int32))]) (kok hw) (plainFor_of_name pn_78) (fun m => by first | (simp [entryFrame, mkF, argsToLocals, Value.category]; done) | rfl) (fun G H => ?_)
  refine H.aloadN s17_0 rfl rfl ?_
  refine H.getfield s17_1 (k_4 hw) (i := 0) rfl rfl ?_
  refine H.iloadN s17_4 rfl ?_
  refine H.iaload s17_5 (i := 2) (j := 1) rfl (by decide) (v := (.int (1 : Int32))) rfl ?_
  exact H.ireturn s17_6 rfl (by simp) rfl ⟨rfl, rfl⟩ (by decide) (by decide)

theorem s15_36 : Nx b15 36 (.aload_n 1) 1 37 := ⟨by decide +kernel, rfl⟩
theorem s15_37 : Nx b15 37 (.aload_n 0) 1 38 := ⟨by decide +kernel, rfl⟩
theorem s15_38 : Nx b15 38 (.getfield 9) 3 41 := ⟨by decide +kernel, rfl⟩
theorem s15_41 : Nx b15 41 (.iload_n 2) 1 42 := ⟨by decide +kernel, rfl⟩
theorem s15_42 : Nx b15 42 (.invokevirtual 34) 3 45 := ⟨by decide +kernel, rfl⟩
theorem s18_0 : Nx b18 0 (.aload_n 0) 1 1 := ⟨by decide +kernel, rfl⟩
theorem s18_1 : Nx b18 1 (.getfield 20) 3 4 := ⟨by decide +kernel, rfl⟩
theorem s18_4 : Nx b18 4 (.iload_n 1) 1 5 := ⟨by decide +kernel, rfl⟩
theorem s18_5 : Nx b18 5 (.laload) 1 6 := ⟨by decide +kernel, rfl⟩
theorem s18_6 : Nx b18 6 (.lreturn) 1 7 := ⟨by decide +kernel, rfl⟩
theorem g_3 (l : Launch) {Z : State} {a0 : Array Value} (hw : HW1 Z a0) (n0 : Nat) (ν : OwnL.Va) (c1 c2 f0 f1 f2 f3 : Int64) (t : Ob × Ob × Ob × Ob × Ob × Ob × Ob × Ob × Ob × Ob × Ob × Ob) (l1 : List Ob) : Met l Z KT n0 y18 b18 2 (some .long) ({ frames := 0, cells := 0, slots := 0, locals := 0 } : Room) #[(.ref (n0 + 0)), (.int (1 : Int32))] (own_bb n0 ν c1 c2 f0 f1 f2 f3 t l1) (Is (some (.long c1)) (own_bb n0 ν c1 c2 f0 f1 f2 f3 t l1)) := by
  refine Met.of (a0 := a0) (ls := #[.val (.ref (n0 + 0)), .val (.int (1 : Int32))]) (kok hw) (plainFor_of_name pn_78) (fun m => by first | (simp [entryFrame, mkF, argsToLocals, Value.category]; done) | rfl) (fun G H => ?_)
  refine H.aloadN s18_0 rfl rfl ?_
  refine H.getfield s18_1 (k_12 hw) (i := 0) rfl rfl ?_
  refine H.iloadN s18_4 rfl ?_
  refine H.laload s18_5 (i := 4) (j := 1) rfl (by decide) (v := (.long c1)) rfl ?_
  exact H.lreturn s18_6 rfl ⟨rfl, rfl⟩ (by decide) (by decide)

theorem pd_15 : ∀ sig, parseMethodDescriptor "(I)J" = some sig → 1 = sig.parameters.length := npOf (r := some .long) (ps := [.int]) (by decide +kernel) rfl
theorem k_106 {Z : State} {a0 : Array Value} (hw : HW1 Z a0) : VL Z a0 KT "com/example/primalcap/primalcap/Optimum$Network" 34 0 y18 b18 2 (some .long) 1 := ⟨_, _, rfl, (hw _ (List.mem_of_getElem? (i := 159) rfl)), (hw _ (List.mem_of_getElem? (i := 160) rfl)), (hw _ (List.mem_of_getElem? (i := 162) rfl)), (hw _ (List.mem_of_getElem? (i := 161) rfl)), (hw _ (List.mem_of_getElem? (i := 2) rfl)), (hw _ (List.mem_of_getElem? (i := 163) rfl)), ⟨by decide, by decide⟩, pd_15⟩
theorem s15_45 : Nx b15 45 (.lneg) 1 46 := ⟨by decide +kernel, rfl⟩
theorem s15_46 : Nx b15 46 (.l2i) 1 47 := ⟨by decide +kernel, rfl⟩
theorem s15_47 : Nx b15 47 (.dup2) 1 48 := ⟨by decide +kernel, rfl⟩
theorem s15_48 : Nx b15 48 (.laload) 1 49 := ⟨by decide +kernel, rfl⟩
theorem s15_49 : Nx b15 49 (.aload_n 0) 1 50 := ⟨by decide +kernel, rfl⟩
theorem s15_50 : Nx b15 50 (.getfield 9) 3 53 := ⟨by decide +kernel, rfl⟩
theorem s15_53 : Nx b15 53 (.iload_n 2) 1 54 := ⟨by decide +kernel, rfl⟩
theorem s15_54 : Nx b15 54 (.invokevirtual 38) 3 57 := ⟨by decide +kernel, rfl⟩
theorem s19_0 : Nx b19 0 (.aload_n 0) 1 1 := ⟨by decide +kernel, rfl⟩
theorem s19_1 : Nx b19 1 (.getfield 23) 3 4 := ⟨by decide +kernel, rfl⟩
theorem s19_4 : Nx b19 4 (.iload_n 1) 1 5 := ⟨by decide +kernel, rfl⟩
theorem s19_5 : Nx b19 5 (.laload) 1 6 := ⟨by decide +kernel, rfl⟩
theorem s19_6 : Nx b19 6 (.lreturn) 1 7 := ⟨by decide +kernel, rfl⟩
theorem g_4 (l : Launch) {Z : State} {a0 : Array Value} (hw : HW1 Z a0) (n0 : Nat) (ν : OwnL.Va) (c1 c2 f0 f1 f2 f3 : Int64) (t : Ob × Ob × Ob × Ob × Ob × Ob × Ob × Ob × Ob × Ob × Ob × Ob) (l1 : List Ob) : Met l Z KT n0 y19 b19 2 (some .long) ({ frames := 0, cells := 0, slots := 0, locals := 0 } : Room) #[(.ref (n0 + 0)), (.int (1 : Int32))] (own_bb n0 ν c1 c2 f0 f1 f2 f3 t l1) (Is (some (.long f1)) (own_bb n0 ν c1 c2 f0 f1 f2 f3 t l1)) := by
  refine Met.of (a0 := a0) (ls := #[.val (.ref (n0 + 0)), .val (.int (1 : Int32))]) (kok hw) (plainFor_of_name pn_78) (fun m => by first | (simp [entryFrame, mkF, argsToLocals, Value.category]; done) | rfl) (fun G H => ?_)
  refine H.aloadN s19_0 rfl rfl ?_
  refine H.getfield s19_1 (k_14 hw) (i := 0) rfl rfl ?_
  refine H.iloadN s19_4 rfl ?_
  refine H.laload s19_5 (i := 5) (j := 1) rfl (by decide) (v := (.long f1)) rfl ?_
  exact H.lreturn s19_6 rfl ⟨rfl, rfl⟩ (by decide) (by decide)

theorem k_107 {Z : State} {a0 : Array Value} (hw : HW1 Z a0) : VL Z a0 KT "com/example/primalcap/primalcap/Optimum$Network" 38 0 y19 b19 2 (some .long) 1 := ⟨_, _, rfl, (hw _ (List.mem_of_getElem? (i := 164) rfl)), (hw _ (List.mem_of_getElem? (i := 165) rfl)), (hw _ (List.mem_of_getElem? (i := 167) rfl)), (hw _ (List.mem_of_getElem? (i := 166) rfl)), (hw _ (List.mem_of_getElem? (i := 2) rfl)), (hw _ (List.mem_of_getElem? (i := 168) rfl)), ⟨by decide, by decide⟩, pd_15⟩
theorem s15_57 : Nx b15 57 (.ladd) 1 58 := ⟨by decide +kernel, rfl⟩
theorem s15_58 : Nx b15 58 (.lastore) 1 59 := ⟨by decide +kernel, rfl⟩
theorem g_5 (l : Launch) {Z : State} {a0 : Array Value} (hw : HW1 Z a0) (n0 : Nat) (ν : OwnL.Va) (c1 c2 f0 f1 f2 f3 : Int64) (t : Ob × Ob × Ob × Ob × Ob × Ob × Ob × Ob × Ob × Ob × Ob × Ob) (l1 : List Ob) : Met l Z KT n0 y17 b17 2 (some .int) ({ frames := 0, cells := 0, slots := 0, locals := 0 } : Room) #[(.ref (n0 + 0)), (.int (2 : Int32))] (own_bb n0 ν c1 c2 f0 f1 f2 f3 t l1) (Is (some (.int (1 : Int32))) (own_bb n0 ν c1 c2 f0 f1 f2 f3 t l1)) := by
  refine Met.of (a0 := a0) (ls := #[.val (.ref (n0 + 0)), .val (.int (2 : Int32))]) (kok hw) (plainFor_of_name pn_78) (fun m => by first | (simp [entryFrame, mkF, argsToLocals, Value.category]; done) | rfl) (fun G H => ?_)
  refine H.aloadN s17_0 rfl rfl ?_
  refine H.getfield s17_1 (k_4 hw) (i := 0) rfl rfl ?_
  refine H.iloadN s17_4 rfl ?_
  refine H.iaload s17_5 (i := 2) (j := 2) rfl (by decide) (v := (.int (1 : Int32))) rfl ?_
  exact H.ireturn s17_6 rfl (by simp) rfl ⟨rfl, rfl⟩ (by decide) (by decide)


theorem g_6 (l : Launch) {Z : State} {a0 : Array Value} (hw : HW1 Z a0) (n0 : Nat) (ν : OwnL.Va) (c1 c2 f0 f1 f2 f3 : Int64) (t : Ob × Ob × Ob × Ob × Ob × Ob × Ob × Ob × Ob × Ob × Ob × Ob) (l1 : List Ob) : Met l Z KT n0 y18 b18 2 (some .long) ({ frames := 0, cells := 0, slots := 0, locals := 0 } : Room) #[(.ref (n0 + 0)), (.int (2 : Int32))] (own_bb n0 ν c1 c2 f0 f1 f2 f3 t l1) (Is (some (.long c2)) (own_bb n0 ν c1 c2 f0 f1 f2 f3 t l1)) := by
  refine Met.of (a0 := a0) (ls := #[.val (.ref (n0 + 0)), .val (.int (2 : Int32))]) (kok hw) (plainFor_of_name pn_78) (fun m => by first | (simp [entryFrame, mkF, argsToLocals, Value.category]; done) | rfl) (fun G H => ?_)
  refine H.aloadN s18_0 rfl rfl ?_
  refine H.getfield s18_1 (k_12 hw) (i := 0) rfl rfl ?_
  refine H.iloadN s18_4 rfl ?_
  refine H.laload s18_5 (i := 4) (j := 2) rfl (by decide) (v := (.long c2)) rfl ?_
  exact H.lreturn s18_6 rfl ⟨rfl, rfl⟩ (by decide) (by decide)


theorem g_7 (l : Launch) {Z : State} {a0 : Array Value} (hw : HW1 Z a0) (n0 : Nat) (ν : OwnL.Va) (c1 c2 f0 f1 f2 f3 : Int64) (t : Ob × Ob × Ob × Ob × Ob × Ob × Ob × Ob × Ob × Ob × Ob × Ob) (l1 : List Ob) : Met l Z KT n0 y19 b19 2 (some .long) ({ frames := 0, cells := 0, slots := 0, locals := 0 } : Room) #[(.ref (n0 + 0)), (.int (2 : Int32))] (own_bb n0 ν c1 c2 f0 f1 f2 f3 t l1) (Is (some (.long f2)) (own_bb n0 ν c1 c2 f0 f1 f2 f3 t l1)) := by
  refine Met.of (a0 := a0) (ls := #[.val (.ref (n0 + 0)), .val (.int (2 : Int32))]) (kok hw) (plainFor_of_name pn_78) (fun m => by first | (simp [entryFrame, mkF, argsToLocals, Value.category]; done) | rfl) (fun G H => ?_)
  refine H.aloadN s19_0 rfl rfl ?_
  refine H.getfield s19_1 (k_14 hw) (i := 0) rfl rfl ?_
  refine H.iloadN s19_4 rfl ?_
  refine H.laload s19_5 (i := 5) (j := 2) rfl (by decide) (v := (.long f2)) rfl ?_
  exact H.lreturn s19_6 rfl ⟨rfl, rfl⟩ (by decide) (by decide)


theorem g_8 (l : Launch) {Z : State} {a0 : Array Value} (hw : HW1 Z a0) (n0 : Nat) (ν : OwnL.Va) (c1 c2 f0 f1 f2 f3 : Int64) (t : Ob × Ob × Ob × Ob × Ob × Ob × Ob × Ob × Ob × Ob × Ob × Ob) (l1 : List Ob) : Met l Z KT n0 y17 b17 2 (some .int) ({ frames := 0, cells := 0, slots := 0, locals := 0 } : Room) #[(.ref (n0 + 0)), (.int (3 : Int32))] (own_bb n0 ν c1 c2 f0 f1 f2 f3 t l1) (Is (some (.int (0 : Int32))) (own_bb n0 ν c1 c2 f0 f1 f2 f3 t l1)) := by
  refine Met.of (a0 := a0) (ls := #[.val (.ref (n0 + 0)), .val (.int (3 : Int32))]) (kok hw) (plainFor_of_name pn_78) (fun m => by first | (simp [entryFrame, mkF, argsToLocals, Value.category]; done) | rfl) (fun G H => ?_)
  refine H.aloadN s17_0 rfl rfl ?_
  refine H.getfield s17_1 (k_4 hw) (i := 0) rfl rfl ?_
  refine H.iloadN s17_4 rfl ?_
  refine H.iaload s17_5 (i := 2) (j := 3) rfl (by decide) (v := (.int (0 : Int32))) rfl ?_
  exact H.ireturn s17_6 rfl (by simp) rfl ⟨rfl, rfl⟩ (by decide) (by decide)

theorem s15_65 : Nx b15 65 (.aload_n 1) 1 66 := ⟨by decide +kernel, rfl⟩
theorem s15_66 : Nx b15 66 (.areturn) 1 67 := ⟨by decide +kernel, rfl⟩
theorem a_1 (l : Launch) {Z : State} {a0 : Array Value} (hw : HW1 Z a0) (n0 : Nat) (p1 : Int64) (p2 : Int64) (p3 : Int64) (p4 : Int64) (f0 : Int64) (f1 : Int64) (f2 : Int64) (f3 : Int64) (t : Ob × Ob × Ob × Ob × Ob × Ob × Ob × Ob × Ob × Ob × Ob × Ob) (ν : OwnL.Va) : Met l Z KT n0 y15 b15 3 (some (.array .long)) ({ frames := 1, cells := 1, slots := 4, locals := 17 } : Room) #[(.ref (n0 + 19))] (own_bb n0 ν (-1 : Int64) (-1 : Int64) f0 f1 f2 f3 t [.inr (.long, [(.long p1), (.long p2), (.long p3), (.long p4)]), .inl (2, [(.ref (n0 + 0)), (.ref (n0 + 18))])]) (Is (some (.ref (n0 + 20))) (own_bb n0 ν (-1 : Int64) (-1 : Int64) f0 f1 f2 f3 t [.inr (.long, [(.long p1), (.long p2), (.long p3), (.long p4)]), .inl (2, [(.ref (n0 + 0)), (.ref (n0 + 18))]), .inr (.long, [(.long p1), (.long ((p2 + f1) + f2)), (.long p3), (.long p4)])])) := by
  refine Met.of (a0 := a0) (ls := #[.val (.ref (n0 + 19)), .unset, .unset]) (kok hw) (plainFor_of_name pn_99) (fun m => by first | (simp [entryFrame, mkF, argsToLocals, Value.category]; done) | rfl) (fun G H => ?_)
  refine H.aloadN s15_0 rfl rfl ?_
  refine H.getfield s15_1 (k_101 hw) (i := 19) rfl rfl ?_
  refine H.clone s15_4 (k_102 hw) (i := 18) (ii := 20) (cap := 4) rfl (by decide) (leb rfl) (leb rfl) rfl (leb rfl) (leb rfl) (by first | rfl | simp) (leb rfl) (leb rfl) rfl (A' := (own_bb n0 ν (-1 : Int64) (-1 : Int64) f0 f1 f2 f3 t [.inr (.long, [(.long p1), (.long p2), (.long p3), (.long p4)]), .inl (2, [(.ref (n0 + 0)), (.ref (n0 + 18))]), .inr (.long, [(.long p1), (.long p2), (.long p3), (.long p4)])])) rfl (k' := 1) rfl (n' := 4) rfl ?_
  refine H.castA s15_7 (hw _ (List.mem_of_getElem? (i := 147) rfl)) (i := 20) rfl (by decide) ?_
  refine H.astoreN s15_10 rfl (ls' := #[.val (.ref (n0 + 19)), .val (.ref (n0 + 20)), .unset]) rfl ?_
  refine H.iconst s15_11 (v := (0 : Int32)) (by decide) ?_
  refine H.istoreN s15_12 (ls' := #[.val (.ref (n0 + 19)), .val (.ref (n0 + 20)), .val (.int (0 : Int32))]) rfl ?_
  refine H.iloadN s15_13 rfl ?_
  refine H.aloadN s15_14 rfl rfl ?_
  refine H.getfield s15_15 (k_103 hw) (i := 19) rfl rfl ?_
  refine H.callVD s15_18 (k_104 hw) (g_0 l hw n0 ν (-1 : Int64) (-1 : Int64) f0 f1 f2 f3 t _) (i := 0) rfl (argsL := []) (rest := [(.int (0 : Int32))]) rfl rfl rfl rfl (leb rfl) (leb rfl) (leb rfl) (leb rfl) (st' := [(.int (4 : Int32)), (.int (0 : Int32))]) rfl (k' := 1) rfl (n' := 4) rfl ?_
  refine H.icmpF s15_21 (show (0 : Int32) < (4 : Int32) by decide) ?_
  refine H.aloadN s15_24 rfl rfl ?_
  refine H.getfield s15_25 (k_103 hw) (i := 19) rfl rfl ?_
  refine H.iloadN s15_28 rfl ?_
  refine H.callVD s15_29 (k_105 hw) (g_1 l hw n0 ν (-1 : Int64) (-1 : Int64) f0 f1 f2 f3 t _) (i := 0) rfl (argsL := [(.int (0 : Int32))]) (rest := []) rfl rfl rfl rfl (leb rfl) (leb rfl) (leb rfl) (leb rfl) (st' := [(.int (2 : Int32))]) rfl (k' := 1) rfl (n' := 4) rfl ?_
  refine H.iconst s15_32 (v := (1 : Int32)) (by decide) ?_
  refine H.icmpT s15_33 (show ¬ (2 : Int32) = (1 : Int32) by decide) ?_
  refine H.iinc s15_59 rfl (w := (1 : Int32)) (by decide) (ls' := #[.val (.ref (n0 + 19)), .val (.ref (n0 + 20)), .val (.int (1 : Int32))]) rfl ?_
  refine H.goto s15_62 ?_
  refine H.iloadN s15_13 rfl ?_
  refine H.aloadN s15_14 rfl rfl ?_
  refine H.getfield s15_15 (k_103 hw) (i := 19) rfl rfl ?_
  refine H.callVD s15_18 (k_104 hw) (g_0 l hw n0 ν (-1 : Int64) (-1 : Int64) f0 f1 f2 f3 t _) (i := 0) rfl (argsL := []) (rest := [(.int (1 : Int32))]) rfl rfl rfl rfl (leb rfl) (leb rfl) (leb rfl) (leb rfl) (st' := [(.int (4 : Int32)), (.int (1 : Int32))]) rfl (k' := 1) rfl (n' := 4) rfl ?_
  refine H.icmpF s15_21 (show (1 : Int32) < (4 : Int32) by decide) ?_
  refine H.aloadN s15_24 rfl rfl ?_
  refine H.getfield s15_25 (k_103 hw) (i := 19) rfl rfl ?_
  refine H.iloadN s15_28 rfl ?_
  refine H.callVD s15_29 (k_105 hw) (g_2 l hw n0 ν (-1 : Int64) (-1 : Int64) f0 f1 f2 f3 t _) (i := 0) rfl (argsL := [(.int (1 : Int32))]) (rest := []) rfl rfl rfl rfl (leb rfl) (leb rfl) (leb rfl) (leb rfl) (st' := [(.int (1 : Int32))]) rfl (k' := 1) rfl (n' := 4) rfl ?_
  refine H.iconst s15_32 (v := (1 : Int32)) (by decide) ?_
  refine H.icmpF s15_33 (show (1 : Int32) = (1 : Int32) by decide) ?_
  refine H.aloadN s15_36 rfl rfl ?_
  refine H.aloadN s15_37 rfl rfl ?_
  refine H.getfield s15_38 (k_103 hw) (i := 19) rfl rfl ?_
  refine H.iloadN s15_41 rfl ?_
  refine H.callVD s15_42 (k_106 hw) (g_3 l hw n0 ν (-1 : Int64) (-1 : Int64) f0 f1 f2 f3 t _) (i := 0) rfl (argsL := [(.int (1 : Int32))]) (rest := [(.ref (n0 + 20))]) rfl rfl rfl rfl (leb rfl) (leb rfl) (leb rfl) (leb rfl) (st' := [(.long (-1 : Int64)), (.ref (n0 + 20))]) rfl (k' := 1) rfl (n' := 4) rfl ?_
  refine H.lneg s15_45 (w := (1 : Int64)) (by decide) ?_
  refine H.l2i s15_46 (w := (1 : Int32)) (by decide) ?_
  refine H.dup2 s15_47 rfl rfl ?_
  refine H.laload s15_48 (i := 20) (j := 1) rfl (by decide) (v := (.long p2)) rfl ?_
  refine H.aloadN s15_49 rfl rfl ?_
  refine H.getfield s15_50 (k_103 hw) (i := 19) rfl rfl ?_
  refine H.iloadN s15_53 rfl ?_
  refine H.callVD s15_54 (k_107 hw) (g_4 l hw n0 ν (-1 : Int64) (-1 : Int64) f0 f1 f2 f3 t _) (i := 0) rfl (argsL := [(.int (1 : Int32))]) (rest := [(.long p2), (.int (1 : Int32)), (.ref (n0 + 20))]) rfl rfl rfl rfl (leb rfl) (leb rfl) (leb rfl) (leb rfl) (st' := [(.long f1), (.long p2), (.int (1 : Int32)), (.ref (n0 + 20))]) rfl (k' := 1) rfl (n' := 4) rfl ?_
  refine H.ladd s15_57 rfl ?_
  refine H.lastore s15_58 (i := 20) (j := 1) rfl (by decide) (ltb rfl)  rfl ?_
  refine H.iinc s15_59 rfl (w := (2 : Int32)) (by decide) (ls' := #[.val (.ref (n0 + 19)), .val (.ref (n0 + 20)), .val (.int (2 : Int32))]) rfl ?_
  refine H.goto s15_62 ?_
  refine H.iloadN s15_13 rfl ?_
  refine H.aloadN s15_14 rfl rfl ?_
  refine H.getfield s15_15 (k_103 hw) (i := 19) rfl rfl ?_
  refine H.callVD s15_18 (k_104 hw) (g_0 l hw n0 ν (-1 : Int64) (-1 : Int64) f0 f1 f2 f3 t _) (i := 0) rfl (argsL := []) (rest := [(.int (2 : Int32))]) rfl rfl rfl rfl (leb rfl) (leb rfl) (leb rfl) (leb rfl) (st' := [(.int (4 : Int32)), (.int (2 : Int32))]) rfl (k' := 1) rfl (n' := 4) rfl ?_
  refine H.icmpF s15_21 (show (2 : Int32) < (4 : Int32) by decide) ?_
  refine H.aloadN s15_24 rfl rfl ?_
  refine H.getfield s15_25 (k_103 hw) (i := 19) rfl rfl ?_
  refine H.iloadN s15_28 rfl ?_
  refine H.callVD s15_29 (k_105 hw) (g_5 l hw n0 ν (-1 : Int64) (-1 : Int64) f0 f1 f2 f3 t _) (i := 0) rfl (argsL := [(.int (2 : Int32))]) (rest := []) rfl rfl rfl rfl (leb rfl) (leb rfl) (leb rfl) (leb rfl) (st' := [(.int (1 : Int32))]) rfl (k' := 1) rfl (n' := 4) rfl ?_
  refine H.iconst s15_32 (v := (1 : Int32)) (by decide) ?_
  refine H.icmpF s15_33 (show (1 : Int32) = (1 : Int32) by decide) ?_
  refine H.aloadN s15_36 rfl rfl ?_
  refine H.aloadN s15_37 rfl rfl ?_
  refine H.getfield s15_38 (k_103 hw) (i := 19) rfl rfl ?_
  refine H.iloadN s15_41 rfl ?_
  refine H.callVD s15_42 (k_106 hw) (g_6 l hw n0 ν (-1 : Int64) (-1 : Int64) f0 f1 f2 f3 t _) (i := 0) rfl (argsL := [(.int (2 : Int32))]) (rest := [(.ref (n0 + 20))]) rfl rfl rfl rfl (leb rfl) (leb rfl) (leb rfl) (leb rfl) (st' := [(.long (-1 : Int64)), (.ref (n0 + 20))]) rfl (k' := 1) rfl (n' := 4) rfl ?_
  refine H.lneg s15_45 (w := (1 : Int64)) (by decide) ?_
  refine H.l2i s15_46 (w := (1 : Int32)) (by decide) ?_
  refine H.dup2 s15_47 rfl rfl ?_
  refine H.laload s15_48 (i := 20) (j := 1) rfl (by decide) (v := (.long (p2 + f1))) rfl ?_
  refine H.aloadN s15_49 rfl rfl ?_
  refine H.getfield s15_50 (k_103 hw) (i := 19) rfl rfl ?_
  refine H.iloadN s15_53 rfl ?_
  refine H.callVD s15_54 (k_107 hw) (g_7 l hw n0 ν (-1 : Int64) (-1 : Int64) f0 f1 f2 f3 t _) (i := 0) rfl (argsL := [(.int (2 : Int32))]) (rest := [(.long (p2 + f1)), (.int (1 : Int32)), (.ref (n0 + 20))]) rfl rfl rfl rfl (leb rfl) (leb rfl) (leb rfl) (leb rfl) (st' := [(.long f2), (.long (p2 + f1)), (.int (1 : Int32)), (.ref (n0 + 20))]) rfl (k' := 1) rfl (n' := 4) rfl ?_
  refine H.ladd s15_57 rfl ?_
  refine H.lastore s15_58 (i := 20) (j := 1) rfl (by decide) (ltb rfl)  rfl ?_
  refine H.iinc s15_59 rfl (w := (3 : Int32)) (by decide) (ls' := #[.val (.ref (n0 + 19)), .val (.ref (n0 + 20)), .val (.int (3 : Int32))]) rfl ?_
  refine H.goto s15_62 ?_
  refine H.iloadN s15_13 rfl ?_
  refine H.aloadN s15_14 rfl rfl ?_
  refine H.getfield s15_15 (k_103 hw) (i := 19) rfl rfl ?_
  refine H.callVD s15_18 (k_104 hw) (g_0 l hw n0 ν (-1 : Int64) (-1 : Int64) f0 f1 f2 f3 t _) (i := 0) rfl (argsL := []) (rest := [(.int (3 : Int32))]) rfl rfl rfl rfl (leb rfl) (leb rfl) (leb rfl) (leb rfl) (st' := [(.int (4 : Int32)), (.int (3 : Int32))]) rfl (k' := 1) rfl (n' := 4) rfl ?_
  refine H.icmpF s15_21 (show (3 : Int32) < (4 : Int32) by decide) ?_
  refine H.aloadN s15_24 rfl rfl ?_
  refine H.getfield s15_25 (k_103 hw) (i := 19) rfl rfl ?_
  refine H.iloadN s15_28 rfl ?_
  refine H.callVD s15_29 (k_105 hw) (g_8 l hw n0 ν (-1 : Int64) (-1 : Int64) f0 f1 f2 f3 t _) (i := 0) rfl (argsL := [(.int (3 : Int32))]) (rest := []) rfl rfl rfl rfl (leb rfl) (leb rfl) (leb rfl) (leb rfl) (st' := [(.int (0 : Int32))]) rfl (k' := 1) rfl (n' := 4) rfl ?_
  refine H.iconst s15_32 (v := (1 : Int32)) (by decide) ?_
  refine H.icmpT s15_33 (show ¬ (0 : Int32) = (1 : Int32) by decide) ?_
  refine H.iinc s15_59 rfl (w := (4 : Int32)) (by decide) (ls' := #[.val (.ref (n0 + 19)), .val (.ref (n0 + 20)), .val (.int (4 : Int32))]) rfl ?_
  refine H.goto s15_62 ?_
  refine H.iloadN s15_13 rfl ?_
  refine H.aloadN s15_14 rfl rfl ?_
  refine H.getfield s15_15 (k_103 hw) (i := 19) rfl rfl ?_
  refine H.callVD s15_18 (k_104 hw) (g_0 l hw n0 ν (-1 : Int64) (-1 : Int64) f0 f1 f2 f3 t _) (i := 0) rfl (argsL := []) (rest := [(.int (4 : Int32))]) rfl rfl rfl rfl (leb rfl) (leb rfl) (leb rfl) (leb rfl) (st' := [(.int (4 : Int32)), (.int (4 : Int32))]) rfl (k' := 1) rfl (n' := 4) rfl ?_
  refine H.icmpT s15_21 (show ¬ (4 : Int32) < (4 : Int32) by decide) ?_
  refine H.aloadN s15_65 rfl rfl ?_
  exact H.areturn s15_66 rfl rfl rfl rfl ⟨rfl, rfl⟩ (by decide) (by decide)

theorem pd_16 : ∀ sig, parseMethodDescriptor "()[J" = some sig → 0 = sig.parameters.length := npOf (r := some (.array .long)) (ps := []) (by decide +kernel) rfl
theorem k_108 {Z : State} {a0 : Array Value} (hw : HW1 Z a0) : VL Z a0 KT "com/example/primalcap/primalcap/NetworkBoughtAtPinLaw" 24 2 y15 b15 3 (some (.array .long)) 0 := ⟨_, _, rfl, (hw _ (List.mem_of_getElem? (i := 135) rfl)), (hw _ (List.mem_of_getElem? (i := 136) rfl)), (hw _ (List.mem_of_getElem? (i := 138) rfl)), (hw _ (List.mem_of_getElem? (i := 137) rfl)), (hw _ (List.mem_of_getElem? (i := 121) rfl)), (hw _ (List.mem_of_getElem? (i := 139) rfl)), ⟨by decide, by decide⟩, pd_16⟩
theorem s0_162 : Nx code 162 (.astore 21) 2 164 := ⟨at_162, rfl⟩
theorem s0_164 : Nx code 164 (.lload 9) 2 166 := ⟨at_164, rfl⟩
theorem s0_166 : Nx code 166 (.lload 11) 2 168 := ⟨at_166, rfl⟩
theorem s0_168 : Nx code 168 (.invokestatic 28) 3 171 := ⟨at_168, rfl⟩
theorem k_109 {Z : State} {a0 : Array Value} (hw : HW1 Z a0) : SL Z a0 "com/example/primalcap/primalcap/NetworkBoughtAtPinLaw" 28 y20 b20 4 (some .long) 2 := ⟨(hw _ (List.mem_of_getElem? (i := 169) rfl)), (hw _ (List.mem_of_getElem? (i := 170) rfl)), (hw _ (List.mem_of_getElem? (i := 79) rfl)), (hw _ (List.mem_of_getElem? (i := 171) rfl)), ⟨by decide, by decide⟩, pd_1⟩
theorem s0_171 : Nx code 171 (.lstore 22) 2 173 := ⟨at_171, rfl⟩
theorem s0_173 : Nx code 173 (.iconst 4) 1 174 := ⟨at_173, rfl⟩
theorem s0_174 : Nx code 174 (.newarray .long) 2 176 := ⟨at_174, rfl⟩
theorem s0_176 : Nx code 176 (.dup) 1 177 := ⟨at_176, rfl⟩
theorem s0_177 : Nx code 177 (.iconst 0) 1 178 := ⟨at_177, rfl⟩
theorem s0_178 : Nx code 178 (.lload_n 1) 1 179 := ⟨at_178, rfl⟩
theorem s0_179 : Nx code 179 (.lastore) 1 180 := ⟨at_179, rfl⟩
theorem s0_180 : Nx code 180 (.dup) 1 181 := ⟨at_180, rfl⟩
theorem s0_181 : Nx code 181 (.iconst 1) 1 182 := ⟨at_181, rfl⟩
theorem s0_182 : Nx code 182 (.lload_n 3) 1 183 := ⟨at_182, rfl⟩
theorem s0_183 : Nx code 183 (.lastore) 1 184 := ⟨at_183, rfl⟩
theorem s0_184 : Nx code 184 (.dup) 1 185 := ⟨at_184, rfl⟩
theorem s0_185 : Nx code 185 (.iconst 2) 1 186 := ⟨at_185, rfl⟩
theorem s0_186 : Nx code 186 (.lload 5) 2 188 := ⟨at_186, rfl⟩
theorem s0_188 : Nx code 188 (.lastore) 1 189 := ⟨at_188, rfl⟩
theorem s0_189 : Nx code 189 (.dup) 1 190 := ⟨at_189, rfl⟩
theorem s0_190 : Nx code 190 (.iconst 3) 1 191 := ⟨at_190, rfl⟩
theorem s0_191 : Nx code 191 (.lload 7) 2 193 := ⟨at_191, rfl⟩
theorem s0_193 : Nx code 193 (.lastore) 1 194 := ⟨at_193, rfl⟩
theorem s0_194 : Nx code 194 (.astore 24) 2 196 := ⟨at_194, rfl⟩
theorem s0_196 : Nx code 196 (.iload 17) 2 198 := ⟨at_196, rfl⟩
theorem s0_198 : Nx code 198 (.iload 18) 2 200 := ⟨at_198, rfl⟩
theorem s0_200 : Bx code 200 (.if_icmp .ne) 224 203 := ⟨(24), at_200, by decide, by decide, rfl⟩
theorem s0_203 : Nx code 203 (.aload 24) 2 205 := ⟨at_203, rfl⟩
theorem s0_205 : Nx code 205 (.iload 17) 2 207 := ⟨at_205, rfl⟩
theorem s0_207 : Nx code 207 (.dup2) 1 208 := ⟨at_207, rfl⟩
theorem s0_208 : Nx code 208 (.laload) 1 209 := ⟨at_208, rfl⟩
theorem s0_209 : Nx code 209 (.lload 22) 2 211 := ⟨at_209, rfl⟩
theorem s0_211 : Nx code 211 (.lload 13) 2 213 := ⟨at_211, rfl⟩
theorem s0_213 : Nx code 213 (.ladd) 1 214 := ⟨at_213, rfl⟩
theorem s0_214 : Nx code 214 (.lload 15) 2 216 := ⟨at_214, rfl⟩
theorem s0_216 : Nx code 216 (.invokestatic 28) 3 219 := ⟨at_216, rfl⟩
theorem s0_219 : Nx code 219 (.ladd) 1 220 := ⟨at_219, rfl⟩
theorem s0_220 : Nx code 220 (.lastore) 1 221 := ⟨at_220, rfl⟩
theorem s0_221 : Bx code 221 (.goto) 316 224 := ⟨(95), at_221, by decide, by decide, rfl⟩
theorem s0_316 : Nx code 316 (.aload 21) 2 318 := ⟨at_316, rfl⟩
theorem s0_318 : Nx code 318 (.aload 20) 2 320 := ⟨at_318, rfl⟩
theorem s0_320 : Bx code 320 (.if_acmp .eq) 330 323 := ⟨(10), at_320, by decide, by decide, rfl⟩
theorem s0_323 : Nx code 323 (.aload 21) 2 325 := ⟨at_323, rfl⟩
theorem s0_325 : Nx code 325 (.arraylength) 1 326 := ⟨at_325, rfl⟩
theorem s0_326 : Nx code 326 (.iconst 4) 1 327 := ⟨at_326, rfl⟩
theorem s0_327 : Bx code 327 (.if_icmp .eq) 332 330 := ⟨(5), at_327, by decide, by decide, rfl⟩
theorem s0_332 : Nx code 332 (.aload 21) 2 334 := ⟨at_332, rfl⟩
theorem s0_334 : Nx code 334 (.iconst 0) 1 335 := ⟨at_334, rfl⟩
theorem s0_335 : Nx code 335 (.laload) 1 336 := ⟨at_335, rfl⟩
theorem s0_336 : Nx code 336 (.aload 24) 2 338 := ⟨at_336, rfl⟩
theorem s0_338 : Nx code 338 (.iconst 0) 1 339 := ⟨at_338, rfl⟩
theorem s0_339 : Nx code 339 (.laload) 1 340 := ⟨at_339, rfl⟩
theorem s0_340 : Nx code 340 (.lcmp) 1 341 := ⟨at_340, rfl⟩
theorem s0_341 : Bx code 341 (.ifCond .ne) 384 344 := ⟨(43), at_341, by decide, by decide, rfl⟩
theorem s0_344 : Nx code 344 (.aload 21) 2 346 := ⟨at_344, rfl⟩
theorem s0_346 : Nx code 346 (.iconst 1) 1 347 := ⟨at_346, rfl⟩
theorem s0_347 : Nx code 347 (.laload) 1 348 := ⟨at_347, rfl⟩
theorem s0_348 : Nx code 348 (.aload 24) 2 350 := ⟨at_348, rfl⟩
theorem s0_350 : Nx code 350 (.iconst 1) 1 351 := ⟨at_350, rfl⟩
theorem s0_351 : Nx code 351 (.laload) 1 352 := ⟨at_351, rfl⟩
theorem s0_352 : Nx code 352 (.lcmp) 1 353 := ⟨at_352, rfl⟩
theorem s0_353 : Bx code 353 (.ifCond .ne) 384 356 := ⟨(31), at_353, by decide, by decide, rfl⟩
theorem s0_356 : Nx code 356 (.aload 21) 2 358 := ⟨at_356, rfl⟩
theorem s0_358 : Nx code 358 (.iconst 2) 1 359 := ⟨at_358, rfl⟩
theorem s0_359 : Nx code 359 (.laload) 1 360 := ⟨at_359, rfl⟩
theorem s0_360 : Nx code 360 (.aload 24) 2 362 := ⟨at_360, rfl⟩
theorem s0_362 : Nx code 362 (.iconst 2) 1 363 := ⟨at_362, rfl⟩
theorem s0_363 : Nx code 363 (.laload) 1 364 := ⟨at_363, rfl⟩
theorem s0_364 : Nx code 364 (.lcmp) 1 365 := ⟨at_364, rfl⟩
theorem s0_365 : Bx code 365 (.ifCond .ne) 384 368 := ⟨(19), at_365, by decide, by decide, rfl⟩
theorem s0_368 : Nx code 368 (.aload 21) 2 370 := ⟨at_368, rfl⟩
theorem s0_370 : Nx code 370 (.iconst 3) 1 371 := ⟨at_370, rfl⟩
theorem s0_371 : Nx code 371 (.laload) 1 372 := ⟨at_371, rfl⟩
theorem s0_372 : Nx code 372 (.aload 24) 2 374 := ⟨at_372, rfl⟩
theorem s0_374 : Nx code 374 (.iconst 3) 1 375 := ⟨at_374, rfl⟩
theorem s0_375 : Nx code 375 (.laload) 1 376 := ⟨at_375, rfl⟩
theorem s0_376 : Nx code 376 (.lcmp) 1 377 := ⟨at_376, rfl⟩
theorem s0_377 : Bx code 377 (.ifCond .ne) 384 380 := ⟨(7), at_377, by decide, by decide, rfl⟩
theorem s0_380 : Nx code 380 (.iconst 1) 1 381 := ⟨at_380, rfl⟩
theorem s0_381 : Bx code 381 (.goto) 385 384 := ⟨(4), at_381, by decide, by decide, rfl⟩
theorem s0_385 : Nx code 385 (.istore 25) 2 387 := ⟨at_385, rfl⟩
theorem s0_387 : Nx code 387 (.aload 20) 2 389 := ⟨at_387, rfl⟩
theorem s0_389 : Nx code 389 (.iconst 0) 1 390 := ⟨at_389, rfl⟩
theorem s0_390 : Nx code 390 (.laload) 1 391 := ⟨at_390, rfl⟩
theorem s0_391 : Nx code 391 (.lload_n 1) 1 392 := ⟨at_391, rfl⟩
theorem s0_392 : Nx code 392 (.lcmp) 1 393 := ⟨at_392, rfl⟩
theorem s0_393 : Bx code 393 (.ifCond .ne) 429 396 := ⟨(36), at_393, by decide, by decide, rfl⟩
theorem s0_396 : Nx code 396 (.aload 20) 2 398 := ⟨at_396, rfl⟩
theorem s0_398 : Nx code 398 (.iconst 1) 1 399 := ⟨at_398, rfl⟩
theorem s0_399 : Nx code 399 (.laload) 1 400 := ⟨at_399, rfl⟩
theorem s0_400 : Nx code 400 (.lload_n 3) 1 401 := ⟨at_400, rfl⟩
theorem s0_401 : Nx code 401 (.lcmp) 1 402 := ⟨at_401, rfl⟩
theorem s0_402 : Bx code 402 (.ifCond .ne) 429 405 := ⟨(27), at_402, by decide, by decide, rfl⟩
theorem s0_405 : Nx code 405 (.aload 20) 2 407 := ⟨at_405, rfl⟩
theorem s0_407 : Nx code 407 (.iconst 2) 1 408 := ⟨at_407, rfl⟩
theorem s0_408 : Nx code 408 (.laload) 1 409 := ⟨at_408, rfl⟩
theorem s0_409 : Nx code 409 (.lload 5) 2 411 := ⟨at_409, rfl⟩
theorem s0_411 : Nx code 411 (.lcmp) 1 412 := ⟨at_411, rfl⟩
theorem s0_412 : Bx code 412 (.ifCond .ne) 429 415 := ⟨(17), at_412, by decide, by decide, rfl⟩
theorem s0_415 : Nx code 415 (.aload 20) 2 417 := ⟨at_415, rfl⟩
theorem s0_417 : Nx code 417 (.iconst 3) 1 418 := ⟨at_417, rfl⟩
theorem s0_418 : Nx code 418 (.laload) 1 419 := ⟨at_418, rfl⟩
theorem s0_419 : Nx code 419 (.lload 7) 2 421 := ⟨at_419, rfl⟩
theorem s0_421 : Nx code 421 (.lcmp) 1 422 := ⟨at_421, rfl⟩
theorem s0_422 : Bx code 422 (.ifCond .ne) 429 425 := ⟨(7), at_422, by decide, by decide, rfl⟩
theorem s0_425 : Nx code 425 (.iconst 1) 1 426 := ⟨at_425, rfl⟩
theorem s0_426 : Bx code 426 (.goto) 430 429 := ⟨(4), at_426, by decide, by decide, rfl⟩
theorem s0_430 : Nx code 430 (.istore 26) 2 432 := ⟨at_430, rfl⟩
theorem s0_432 : Nx code 432 (.iload 25) 2 434 := ⟨at_432, rfl⟩
theorem s0_434 : Bx code 434 (.ifCond .eq) 446 437 := ⟨(12), at_434, by decide, by decide, rfl⟩
theorem s0_437 : Nx code 437 (.iload 26) 2 439 := ⟨at_437, rfl⟩
theorem s0_439 : Bx code 439 (.ifCond .eq) 446 442 := ⟨(7), at_439, by decide, by decide, rfl⟩
theorem s0_442 : Nx code 442 (.iconst 1) 1 443 := ⟨at_442, rfl⟩
theorem s0_443 : Bx code 443 (.goto) 447 446 := ⟨(4), at_443, by decide, by decide, rfl⟩
theorem s0_447 : Nx code 447 (.ireturn) 1 448 := ⟨at_447, rfl⟩
theorem a_2 (l : Launch) {Z : State} {a0 : Array Value} (hw : HW1 Z a0) (n0 : Nat) (p1 : Int64) (p2 : Int64) (p3 : Int64) (p4 : Int64) (f0 : Int64) (f1 : Int64) (f2 : Int64) (f3 : Int64) (t : Ob × Ob × Ob × Ob × Ob × Ob × Ob × Ob × Ob × Ob × Ob × Ob) (ν : OwnL.Va) : Met l Z KT n0 y15 b15 3 (some (.array .long)) ({ frames := 1, cells := 1, slots := 4, locals := 17 } : Room) #[(.ref (n0 + 19))] (own_bb n0 ν (-1 : Int64) (-2 : Int64) f0 f1 f2 f3 t [.inr (.long, [(.long p1), (.long p2), (.long p3), (.long p4)]), .inl (2, [(.ref (n0 + 0)), (.ref (n0 + 18))])]) (Is (some (.ref (n0 + 20))) (own_bb n0 ν (-1 : Int64) (-2 : Int64) f0 f1 f2 f3 t [.inr (.long, [(.long p1), (.long p2), (.long p3), (.long p4)]), .inl (2, [(.ref (n0 + 0)), (.ref (n0 + 18))]), .inr (.long, [(.long p1), (.long (p2 + f1)), (.long (p3 + f2)), (.long p4)])])) := by
  refine Met.of (a0 := a0) (ls := #[.val (.ref (n0 + 19)), .unset, .unset]) (kok hw) (plainFor_of_name pn_99) (fun m => by first | (simp [entryFrame, mkF, argsToLocals, Value.category]; done) | rfl) (fun G H => ?_)
  refine H.aloadN s15_0 rfl rfl ?_
  refine H.getfield s15_1 (k_101 hw) (i := 19) rfl rfl ?_
  refine H.clone s15_4 (k_102 hw) (i := 18) (ii := 20) (cap := 4) rfl (by decide) (leb rfl) (leb rfl) rfl (leb rfl) (leb rfl) (by first | rfl | simp) (leb rfl) (leb rfl) rfl (A' := (own_bb n0 ν (-1 : Int64) (-2 : Int64) f0 f1 f2 f3 t [.inr (.long, [(.long p1), (.long p2), (.long p3), (.long p4)]), .inl (2, [(.ref (n0 + 0)), (.ref (n0 + 18))]), .inr (.long, [(.long p1), (.long p2), (.long p3), (.long p4)])])) rfl (k' := 1) rfl (n' := 4) rfl ?_
  refine H.castA s15_7 (hw _ (List.mem_of_getElem? (i := 147) rfl)) (i := 20) rfl (by decide) ?_
  refine H.astoreN s15_10 rfl (ls' := #[.val (.ref (n0 + 19)), .val (.ref (n0 + 20)), .unset]) rfl ?_
  refine H.iconst s15_11 (v := (0 : Int32)) (by decide) ?_
  refine H.istoreN s15_12 (ls' := #[.val (.ref (n0 + 19)), .val (.ref (n0 + 20)), .val (.int (0 : Int32))]) rfl ?_
  refine H.iloadN s15_13 rfl ?_
  refine H.aloadN s15_14 rfl rfl ?_
  refine H.getfield s15_15 (k_103 hw) (i := 19) rfl rfl ?_
  refine H.callVD s15_18 (k_104 hw) (g_0 l hw n0 ν (-1 : Int64) (-2 : Int64) f0 f1 f2 f3 t _) (i := 0) rfl (argsL := []) (rest := [(.int (0 : Int32))]) rfl rfl rfl rfl (leb rfl) (leb rfl) (leb rfl) (leb rfl) (st' := [(.int (4 : Int32)), (.int (0 : Int32))]) rfl (k' := 1) rfl (n' := 4) rfl ?_
  refine H.icmpF s15_21 (show (0 : Int32) < (4 : Int32) by decide) ?_
  refine H.aloadN s15_24 rfl rfl ?_
  refine H.getfield s15_25 (k_103 hw) (i := 19) rfl rfl ?_
  refine H.iloadN s15_28 rfl ?_
  refine H.callVD s15_29 (k_105 hw) (g_1 l hw n0 ν (-1 : Int64) (-2 : Int64) f0 f1 f2 f3 t _) (i := 0) rfl (argsL := [(.int (0 : Int32))]) (rest := []) rfl rfl rfl rfl (leb rfl) (leb rfl) (leb rfl) (leb rfl) (st' := [(.int (2 : Int32))]) rfl (k' := 1) rfl (n' := 4) rfl ?_
  refine H.iconst s15_32 (v := (1 : Int32)) (by decide) ?_
  refine H.icmpT s15_33 (show ¬ (2 : Int32) = (1 : Int32) by decide) ?_
  refine H.iinc s15_59 rfl (w := (1 : Int32)) (by decide) (ls' := #[.val (.ref (n0 + 19)), .val (.ref (n0 + 20)), .val (.int (1 : Int32))]) rfl ?_
  refine H.goto s15_62 ?_
  refine H.iloadN s15_13 rfl ?_
  refine H.aloadN s15_14 rfl rfl ?_
  refine H.getfield s15_15 (k_103 hw) (i := 19) rfl rfl ?_
  refine H.callVD s15_18 (k_104 hw) (g_0 l hw n0 ν (-1 : Int64) (-2 : Int64) f0 f1 f2 f3 t _) (i := 0) rfl (argsL := []) (rest := [(.int (1 : Int32))]) rfl rfl rfl rfl (leb rfl) (leb rfl) (leb rfl) (leb rfl) (st' := [(.int (4 : Int32)), (.int (1 : Int32))]) rfl (k' := 1) rfl (n' := 4) rfl ?_
  refine H.icmpF s15_21 (show (1 : Int32) < (4 : Int32) by decide) ?_
  refine H.aloadN s15_24 rfl rfl ?_
  refine H.getfield s15_25 (k_103 hw) (i := 19) rfl rfl ?_
  refine H.iloadN s15_28 rfl ?_
  refine H.callVD s15_29 (k_105 hw) (g_2 l hw n0 ν (-1 : Int64) (-2 : Int64) f0 f1 f2 f3 t _) (i := 0) rfl (argsL := [(.int (1 : Int32))]) (rest := []) rfl rfl rfl rfl (leb rfl) (leb rfl) (leb rfl) (leb rfl) (st' := [(.int (1 : Int32))]) rfl (k' := 1) rfl (n' := 4) rfl ?_
  refine H.iconst s15_32 (v := (1 : Int32)) (by decide) ?_
  refine H.icmpF s15_33 (show (1 : Int32) = (1 : Int32) by decide) ?_
  refine H.aloadN s15_36 rfl rfl ?_
  refine H.aloadN s15_37 rfl rfl ?_
  refine H.getfield s15_38 (k_103 hw) (i := 19) rfl rfl ?_
  refine H.iloadN s15_41 rfl ?_
  refine H.callVD s15_42 (k_106 hw) (g_3 l hw n0 ν (-1 : Int64) (-2 : Int64) f0 f1 f2 f3 t _) (i := 0) rfl (argsL := [(.int (1 : Int32))]) (rest := [(.ref (n0 + 20))]) rfl rfl rfl rfl (leb rfl) (leb rfl) (leb rfl) (leb rfl) (st' := [(.long (-1 : Int64)), (.ref (n0 + 20))]) rfl (k' := 1) rfl (n' := 4) rfl ?_
  refine H.lneg s15_45 (w := (1 : Int64)) (by decide) ?_
  refine H.l2i s15_46 (w := (1 : Int32)) (by decide) ?_
  refine H.dup2 s15_47 rfl rfl ?_
  refine H.laload s15_48 (i := 20) (j := 1) rfl (by decide) (v := (.long p2)) rfl ?_
  refine H.aloadN s15_49 rfl rfl ?_
  refine H.getfield s15_50 (k_103 hw) (i := 19) rfl rfl ?_
  refine H.iloadN s15_53 rfl ?_
  refine H.callVD s15_54 (k_107 hw) (g_4 l hw n0 ν (-1 : Int64) (-2 : Int64) f0 f1 f2 f3 t _) (i := 0) rfl (argsL := [(.int (1 : Int32))]) (rest := [(.long p2), (.int (1 : Int32)), (.ref (n0 + 20))]) rfl rfl rfl rfl (leb rfl) (leb rfl) (leb rfl) (leb rfl) (st' := [(.long f1), (.long p2), (.int (1 : Int32)), (.ref (n0 + 20))]) rfl (k' := 1) rfl (n' := 4) rfl ?_
  refine H.ladd s15_57 rfl ?_
  refine H.lastore s15_58 (i := 20) (j := 1) rfl (by decide) (ltb rfl)  rfl ?_
  refine H.iinc s15_59 rfl (w := (2 : Int32)) (by decide) (ls' := #[.val (.ref (n0 + 19)), .val (.ref (n0 + 20)), .val (.int (2 : Int32))]) rfl ?_
  refine H.goto s15_62 ?_
  refine H.iloadN s15_13 rfl ?_
  refine H.aloadN s15_14 rfl rfl ?_
  refine H.getfield s15_15 (k_103 hw) (i := 19) rfl rfl ?_
  refine H.callVD s15_18 (k_104 hw) (g_0 l hw n0 ν (-1 : Int64) (-2 : Int64) f0 f1 f2 f3 t _) (i := 0) rfl (argsL := []) (rest := [(.int (2 : Int32))]) rfl rfl rfl rfl (leb rfl) (leb rfl) (leb rfl) (leb rfl) (st' := [(.int (4 : Int32)), (.int (2 : Int32))]) rfl (k' := 1) rfl (n' := 4) rfl ?_
  refine H.icmpF s15_21 (show (2 : Int32) < (4 : Int32) by decide) ?_
  refine H.aloadN s15_24 rfl rfl ?_
  refine H.getfield s15_25 (k_103 hw) (i := 19) rfl rfl ?_
  refine H.iloadN s15_28 rfl ?_
  refine H.callVD s15_29 (k_105 hw) (g_5 l hw n0 ν (-1 : Int64) (-2 : Int64) f0 f1 f2 f3 t _) (i := 0) rfl (argsL := [(.int (2 : Int32))]) (rest := []) rfl rfl rfl rfl (leb rfl) (leb rfl) (leb rfl) (leb rfl) (st' := [(.int (1 : Int32))]) rfl (k' := 1) rfl (n' := 4) rfl ?_
  refine H.iconst s15_32 (v := (1 : Int32)) (by decide) ?_
  refine H.icmpF s15_33 (show (1 : Int32) = (1 : Int32) by decide) ?_
  refine H.aloadN s15_36 rfl rfl ?_
  refine H.aloadN s15_37 rfl rfl ?_
  refine H.getfield s15_38 (k_103 hw) (i := 19) rfl rfl ?_
  refine H.iloadN s15_41 rfl ?_
  refine H.callVD s15_42 (k_106 hw) (g_6 l hw n0 ν (-1 : Int64) (-2 : Int64) f0 f1 f2 f3 t _) (i := 0) rfl (argsL := [(.int (2 : Int32))]) (rest := [(.ref (n0 + 20))]) rfl rfl rfl rfl (leb rfl) (leb rfl) (leb rfl) (leb rfl) (st' := [(.long (-2 : Int64)), (.ref (n0 + 20))]) rfl (k' := 1) rfl (n' := 4) rfl ?_
  refine H.lneg s15_45 (w := (2 : Int64)) (by decide) ?_
  refine H.l2i s15_46 (w := (2 : Int32)) (by decide) ?_
  refine H.dup2 s15_47 rfl rfl ?_
  refine H.laload s15_48 (i := 20) (j := 2) rfl (by decide) (v := (.long p3)) rfl ?_
  refine H.aloadN s15_49 rfl rfl ?_
  refine H.getfield s15_50 (k_103 hw) (i := 19) rfl rfl ?_
  refine H.iloadN s15_53 rfl ?_
  refine H.callVD s15_54 (k_107 hw) (g_7 l hw n0 ν (-1 : Int64) (-2 : Int64) f0 f1 f2 f3 t _) (i := 0) rfl (argsL := [(.int (2 : Int32))]) (rest := [(.long p3), (.int (2 : Int32)), (.ref (n0 + 20))]) rfl rfl rfl rfl (leb rfl) (leb rfl) (leb rfl) (leb rfl) (st' := [(.long f2), (.long p3), (.int (2 : Int32)), (.ref (n0 + 20))]) rfl (k' := 1) rfl (n' := 4) rfl ?_
  refine H.ladd s15_57 rfl ?_
  refine H.lastore s15_58 (i := 20) (j := 2) rfl (by decide) (ltb rfl)  rfl ?_
  refine H.iinc s15_59 rfl (w := (3 : Int32)) (by decide) (ls' := #[.val (.ref (n0 + 19)), .val (.ref (n0 + 20)), .val (.int (3 : Int32))]) rfl ?_
  refine H.goto s15_62 ?_
  refine H.iloadN s15_13 rfl ?_
  refine H.aloadN s15_14 rfl rfl ?_
  refine H.getfield s15_15 (k_103 hw) (i := 19) rfl rfl ?_
  refine H.callVD s15_18 (k_104 hw) (g_0 l hw n0 ν (-1 : Int64) (-2 : Int64) f0 f1 f2 f3 t _) (i := 0) rfl (argsL := []) (rest := [(.int (3 : Int32))]) rfl rfl rfl rfl (leb rfl) (leb rfl) (leb rfl) (leb rfl) (st' := [(.int (4 : Int32)), (.int (3 : Int32))]) rfl (k' := 1) rfl (n' := 4) rfl ?_
  refine H.icmpF s15_21 (show (3 : Int32) < (4 : Int32) by decide) ?_
  refine H.aloadN s15_24 rfl rfl ?_
  refine H.getfield s15_25 (k_103 hw) (i := 19) rfl rfl ?_
  refine H.iloadN s15_28 rfl ?_
  refine H.callVD s15_29 (k_105 hw) (g_8 l hw n0 ν (-1 : Int64) (-2 : Int64) f0 f1 f2 f3 t _) (i := 0) rfl (argsL := [(.int (3 : Int32))]) (rest := []) rfl rfl rfl rfl (leb rfl) (leb rfl) (leb rfl) (leb rfl) (st' := [(.int (0 : Int32))]) rfl (k' := 1) rfl (n' := 4) rfl ?_
  refine H.iconst s15_32 (v := (1 : Int32)) (by decide) ?_
  refine H.icmpT s15_33 (show ¬ (0 : Int32) = (1 : Int32) by decide) ?_
  refine H.iinc s15_59 rfl (w := (4 : Int32)) (by decide) (ls' := #[.val (.ref (n0 + 19)), .val (.ref (n0 + 20)), .val (.int (4 : Int32))]) rfl ?_
  refine H.goto s15_62 ?_
  refine H.iloadN s15_13 rfl ?_
  refine H.aloadN s15_14 rfl rfl ?_
  refine H.getfield s15_15 (k_103 hw) (i := 19) rfl rfl ?_
  refine H.callVD s15_18 (k_104 hw) (g_0 l hw n0 ν (-1 : Int64) (-2 : Int64) f0 f1 f2 f3 t _) (i := 0) rfl (argsL := []) (rest := [(.int (4 : Int32))]) rfl rfl rfl rfl (leb rfl) (leb rfl) (leb rfl) (leb rfl) (st' := [(.int (4 : Int32)), (.int (4 : Int32))]) rfl (k' := 1) rfl (n' := 4) rfl ?_
  refine H.icmpT s15_21 (show ¬ (4 : Int32) < (4 : Int32) by decide) ?_
  refine H.aloadN s15_65 rfl rfl ?_
  exact H.areturn s15_66 rfl rfl rfl rfl ⟨rfl, rfl⟩ (by decide) (by decide)

theorem s0_224 : Nx code 224 (.iload 17) 2 226 := ⟨at_224, rfl⟩
theorem s0_226 : Nx code 226 (.iload 18) 2 228 := ⟨at_226, rfl⟩
theorem s0_228 : Bx code 228 (.if_icmp .le) 275 231 := ⟨(47), at_228, by decide, by decide, rfl⟩
theorem s0_275 : Nx code 275 (.lload 13) 2 277 := ⟨at_275, rfl⟩
theorem s0_277 : Nx code 277 (.lload 15) 2 279 := ⟨at_277, rfl⟩
theorem s0_279 : Nx code 279 (.invokestatic 28) 3 282 := ⟨at_279, rfl⟩
theorem s0_282 : Nx code 282 (.lstore 25) 2 284 := ⟨at_282, rfl⟩
theorem s0_284 : Nx code 284 (.lload 22) 2 286 := ⟨at_284, rfl⟩
theorem s0_286 : Nx code 286 (.lload 15) 2 288 := ⟨at_286, rfl⟩
theorem s0_288 : Nx code 288 (.lload 25) 2 290 := ⟨at_288, rfl⟩
theorem s0_290 : Nx code 290 (.lsub) 1 291 := ⟨at_290, rfl⟩
theorem s0_291 : Nx code 291 (.invokestatic 28) 3 294 := ⟨at_291, rfl⟩
theorem s0_294 : Nx code 294 (.lstore 27) 2 296 := ⟨at_294, rfl⟩
theorem s0_296 : Nx code 296 (.aload 24) 2 298 := ⟨at_296, rfl⟩
theorem s0_298 : Nx code 298 (.iload 17) 2 300 := ⟨at_298, rfl⟩
theorem s0_300 : Nx code 300 (.dup2) 1 301 := ⟨at_300, rfl⟩
theorem s0_301 : Nx code 301 (.laload) 1 302 := ⟨at_301, rfl⟩
theorem s0_302 : Nx code 302 (.lload 27) 2 304 := ⟨at_302, rfl⟩
theorem s0_304 : Nx code 304 (.ladd) 1 305 := ⟨at_304, rfl⟩
theorem s0_305 : Nx code 305 (.lastore) 1 306 := ⟨at_305, rfl⟩
theorem s0_306 : Nx code 306 (.aload 24) 2 308 := ⟨at_306, rfl⟩
theorem s0_308 : Nx code 308 (.iload 18) 2 310 := ⟨at_308, rfl⟩
theorem s0_310 : Nx code 310 (.dup2) 1 311 := ⟨at_310, rfl⟩
theorem s0_311 : Nx code 311 (.laload) 1 312 := ⟨at_311, rfl⟩
theorem s0_312 : Nx code 312 (.lload 25) 2 314 := ⟨at_312, rfl⟩
theorem s0_314 : Nx code 314 (.ladd) 1 315 := ⟨at_314, rfl⟩
theorem s0_315 : Nx code 315 (.lastore) 1 316 := ⟨at_315, rfl⟩
theorem a_3 (l : Launch) {Z : State} {a0 : Array Value} (hw : HW1 Z a0) (n0 : Nat) (p1 : Int64) (p2 : Int64) (p3 : Int64) (p4 : Int64) (f0 : Int64) (f1 : Int64) (f2 : Int64) (f3 : Int64) (t : Ob × Ob × Ob × Ob × Ob × Ob × Ob × Ob × Ob × Ob × Ob × Ob) (ν : OwnL.Va) : Met l Z KT n0 y15 b15 3 (some (.array .long)) ({ frames := 1, cells := 1, slots := 4, locals := 17 } : Room) #[(.ref (n0 + 19))] (own_bb n0 ν (-1 : Int64) (-3 : Int64) f0 f1 f2 f3 t [.inr (.long, [(.long p1), (.long p2), (.long p3), (.long p4)]), .inl (2, [(.ref (n0 + 0)), (.ref (n0 + 18))])]) (Is (some (.ref (n0 + 20))) (own_bb n0 ν (-1 : Int64) (-3 : Int64) f0 f1 f2 f3 t [.inr (.long, [(.long p1), (.long p2), (.long p3), (.long p4)]), .inl (2, [(.ref (n0 + 0)), (.ref (n0 + 18))]), .inr (.long, [(.long p1), (.long (p2 + f1)), (.long p3), (.long (p4 + f2))])])) := by
  refine Met.of (a0 := a0) (ls := #[.val (.ref (n0 + 19)), .unset, .unset]) (kok hw) (plainFor_of_name pn_99) (fun m => by first | (simp [entryFrame, mkF, argsToLocals, Value.category]; done) | rfl) (fun G H => ?_)
  refine H.aloadN s15_0 rfl rfl ?_
  refine H.getfield s15_1 (k_101 hw) (i := 19) rfl rfl ?_
  refine H.clone s15_4 (k_102 hw) (i := 18) (ii := 20) (cap := 4) rfl (by decide) (leb rfl) (leb rfl) rfl (leb rfl) (leb rfl) (by first | rfl | simp) (leb rfl) (leb rfl) rfl (A' := (own_bb n0 ν (-1 : Int64) (-3 : Int64) f0 f1 f2 f3 t [.inr (.long, [(.long p1), (.long p2), (.long p3), (.long p4)]), .inl (2, [(.ref (n0 + 0)), (.ref (n0 + 18))]), .inr (.long, [(.long p1), (.long p2), (.long p3), (.long p4)])])) rfl (k' := 1) rfl (n' := 4) rfl ?_
  refine H.castA s15_7 (hw _ (List.mem_of_getElem? (i := 147) rfl)) (i := 20) rfl (by decide) ?_
  refine H.astoreN s15_10 rfl (ls' := #[.val (.ref (n0 + 19)), .val (.ref (n0 + 20)), .unset]) rfl ?_
  refine H.iconst s15_11 (v := (0 : Int32)) (by decide) ?_
  refine H.istoreN s15_12 (ls' := #[.val (.ref (n0 + 19)), .val (.ref (n0 + 20)), .val (.int (0 : Int32))]) rfl ?_
  refine H.iloadN s15_13 rfl ?_
  refine H.aloadN s15_14 rfl rfl ?_
  refine H.getfield s15_15 (k_103 hw) (i := 19) rfl rfl ?_
  refine H.callVD s15_18 (k_104 hw) (g_0 l hw n0 ν (-1 : Int64) (-3 : Int64) f0 f1 f2 f3 t _) (i := 0) rfl (argsL := []) (rest := [(.int (0 : Int32))]) rfl rfl rfl rfl (leb rfl) (leb rfl) (leb rfl) (leb rfl) (st' := [(.int (4 : Int32)), (.int (0 : Int32))]) rfl (k' := 1) rfl (n' := 4) rfl ?_
  refine H.icmpF s15_21 (show (0 : Int32) < (4 : Int32) by decide) ?_
  refine H.aloadN s15_24 rfl rfl ?_
  refine H.getfield s15_25 (k_103 hw) (i := 19) rfl rfl ?_
  refine H.iloadN s15_28 rfl ?_
  refine H.callVD s15_29 (k_105 hw) (g_1 l hw n0 ν (-1 : Int64) (-3 : Int64) f0 f1 f2 f3 t _) (i := 0) rfl (argsL := [(.int (0 : Int32))]) (rest := []) rfl rfl rfl rfl (leb rfl) (leb rfl) (leb rfl) (leb rfl) (st' := [(.int (2 : Int32))]) rfl (k' := 1) rfl (n' := 4) rfl ?_
  refine H.iconst s15_32 (v := (1 : Int32)) (by decide) ?_
  refine H.icmpT s15_33 (show ¬ (2 : Int32) = (1 : Int32) by decide) ?_
  refine H.iinc s15_59 rfl (w := (1 : Int32)) (by decide) (ls' := #[.val (.ref (n0 + 19)), .val (.ref (n0 + 20)), .val (.int (1 : Int32))]) rfl ?_
  refine H.goto s15_62 ?_
  refine H.iloadN s15_13 rfl ?_
  refine H.aloadN s15_14 rfl rfl ?_
  refine H.getfield s15_15 (k_103 hw) (i := 19) rfl rfl ?_
  refine H.callVD s15_18 (k_104 hw) (g_0 l hw n0 ν (-1 : Int64) (-3 : Int64) f0 f1 f2 f3 t _) (i := 0) rfl (argsL := []) (rest := [(.int (1 : Int32))]) rfl rfl rfl rfl (leb rfl) (leb rfl) (leb rfl) (leb rfl) (st' := [(.int (4 : Int32)), (.int (1 : Int32))]) rfl (k' := 1) rfl (n' := 4) rfl ?_
  refine H.icmpF s15_21 (show (1 : Int32) < (4 : Int32) by decide) ?_
  refine H.aloadN s15_24 rfl rfl ?_
  refine H.getfield s15_25 (k_103 hw) (i := 19) rfl rfl ?_
  refine H.iloadN s15_28 rfl ?_
  refine H.callVD s15_29 (k_105 hw) (g_2 l hw n0 ν (-1 : Int64) (-3 : Int64) f0 f1 f2 f3 t _) (i := 0) rfl (argsL := [(.int (1 : Int32))]) (rest := []) rfl rfl rfl rfl (leb rfl) (leb rfl) (leb rfl) (leb rfl) (st' := [(.int (1 : Int32))]) rfl (k' := 1) rfl (n' := 4) rfl ?_
  refine H.iconst s15_32 (v := (1 : Int32)) (by decide) ?_
  refine H.icmpF s15_33 (show (1 : Int32) = (1 : Int32) by decide) ?_
  refine H.aloadN s15_36 rfl rfl ?_
  refine H.aloadN s15_37 rfl rfl ?_
  refine H.getfield s15_38 (k_103 hw) (i := 19) rfl rfl ?_
  refine H.iloadN s15_41 rfl ?_
  refine H.callVD s15_42 (k_106 hw) (g_3 l hw n0 ν (-1 : Int64) (-3 : Int64) f0 f1 f2 f3 t _) (i := 0) rfl (argsL := [(.int (1 : Int32))]) (rest := [(.ref (n0 + 20))]) rfl rfl rfl rfl (leb rfl) (leb rfl) (leb rfl) (leb rfl) (st' := [(.long (-1 : Int64)), (.ref (n0 + 20))]) rfl (k' := 1) rfl (n' := 4) rfl ?_
  refine H.lneg s15_45 (w := (1 : Int64)) (by decide) ?_
  refine H.l2i s15_46 (w := (1 : Int32)) (by decide) ?_
  refine H.dup2 s15_47 rfl rfl ?_
  refine H.laload s15_48 (i := 20) (j := 1) rfl (by decide) (v := (.long p2)) rfl ?_
  refine H.aloadN s15_49 rfl rfl ?_
  refine H.getfield s15_50 (k_103 hw) (i := 19) rfl rfl ?_
  refine H.iloadN s15_53 rfl ?_
  refine H.callVD s15_54 (k_107 hw) (g_4 l hw n0 ν (-1 : Int64) (-3 : Int64) f0 f1 f2 f3 t _) (i := 0) rfl (argsL := [(.int (1 : Int32))]) (rest := [(.long p2), (.int (1 : Int32)), (.ref (n0 + 20))]) rfl rfl rfl rfl (leb rfl) (leb rfl) (leb rfl) (leb rfl) (st' := [(.long f1), (.long p2), (.int (1 : Int32)), (.ref (n0 + 20))]) rfl (k' := 1) rfl (n' := 4) rfl ?_
  refine H.ladd s15_57 rfl ?_
  refine H.lastore s15_58 (i := 20) (j := 1) rfl (by decide) (ltb rfl)  rfl ?_
  refine H.iinc s15_59 rfl (w := (2 : Int32)) (by decide) (ls' := #[.val (.ref (n0 + 19)), .val (.ref (n0 + 20)), .val (.int (2 : Int32))]) rfl ?_
  refine H.goto s15_62 ?_
  refine H.iloadN s15_13 rfl ?_
  refine H.aloadN s15_14 rfl rfl ?_
  refine H.getfield s15_15 (k_103 hw) (i := 19) rfl rfl ?_
  refine H.callVD s15_18 (k_104 hw) (g_0 l hw n0 ν (-1 : Int64) (-3 : Int64) f0 f1 f2 f3 t _) (i := 0) rfl (argsL := []) (rest := [(.int (2 : Int32))]) rfl rfl rfl rfl (leb rfl) (leb rfl) (leb rfl) (leb rfl) (st' := [(.int (4 : Int32)), (.int (2 : Int32))]) rfl (k' := 1) rfl (n' := 4) rfl ?_
  refine H.icmpF s15_21 (show (2 : Int32) < (4 : Int32) by decide) ?_
  refine H.aloadN s15_24 rfl rfl ?_
  refine H.getfield s15_25 (k_103 hw) (i := 19) rfl rfl ?_
  refine H.iloadN s15_28 rfl ?_
  refine H.callVD s15_29 (k_105 hw) (g_5 l hw n0 ν (-1 : Int64) (-3 : Int64) f0 f1 f2 f3 t _) (i := 0) rfl (argsL := [(.int (2 : Int32))]) (rest := []) rfl rfl rfl rfl (leb rfl) (leb rfl) (leb rfl) (leb rfl) (st' := [(.int (1 : Int32))]) rfl (k' := 1) rfl (n' := 4) rfl ?_
  refine H.iconst s15_32 (v := (1 : Int32)) (by decide) ?_
  refine H.icmpF s15_33 (show (1 : Int32) = (1 : Int32) by decide) ?_
  refine H.aloadN s15_36 rfl rfl ?_
  refine H.aloadN s15_37 rfl rfl ?_
  refine H.getfield s15_38 (k_103 hw) (i := 19) rfl rfl ?_
  refine H.iloadN s15_41 rfl ?_
  refine H.callVD s15_42 (k_106 hw) (g_6 l hw n0 ν (-1 : Int64) (-3 : Int64) f0 f1 f2 f3 t _) (i := 0) rfl (argsL := [(.int (2 : Int32))]) (rest := [(.ref (n0 + 20))]) rfl rfl rfl rfl (leb rfl) (leb rfl) (leb rfl) (leb rfl) (st' := [(.long (-3 : Int64)), (.ref (n0 + 20))]) rfl (k' := 1) rfl (n' := 4) rfl ?_
  refine H.lneg s15_45 (w := (3 : Int64)) (by decide) ?_
  refine H.l2i s15_46 (w := (3 : Int32)) (by decide) ?_
  refine H.dup2 s15_47 rfl rfl ?_
  refine H.laload s15_48 (i := 20) (j := 3) rfl (by decide) (v := (.long p4)) rfl ?_
  refine H.aloadN s15_49 rfl rfl ?_
  refine H.getfield s15_50 (k_103 hw) (i := 19) rfl rfl ?_
  refine H.iloadN s15_53 rfl ?_
  refine H.callVD s15_54 (k_107 hw) (g_7 l hw n0 ν (-1 : Int64) (-3 : Int64) f0 f1 f2 f3 t _) (i := 0) rfl (argsL := [(.int (2 : Int32))]) (rest := [(.long p4), (.int (3 : Int32)), (.ref (n0 + 20))]) rfl rfl rfl rfl (leb rfl) (leb rfl) (leb rfl) (leb rfl) (st' := [(.long f2), (.long p4), (.int (3 : Int32)), (.ref (n0 + 20))]) rfl (k' := 1) rfl (n' := 4) rfl ?_
  refine H.ladd s15_57 rfl ?_
  refine H.lastore s15_58 (i := 20) (j := 3) rfl (by decide) (ltb rfl)  rfl ?_
  refine H.iinc s15_59 rfl (w := (3 : Int32)) (by decide) (ls' := #[.val (.ref (n0 + 19)), .val (.ref (n0 + 20)), .val (.int (3 : Int32))]) rfl ?_
  refine H.goto s15_62 ?_
  refine H.iloadN s15_13 rfl ?_
  refine H.aloadN s15_14 rfl rfl ?_
  refine H.getfield s15_15 (k_103 hw) (i := 19) rfl rfl ?_
  refine H.callVD s15_18 (k_104 hw) (g_0 l hw n0 ν (-1 : Int64) (-3 : Int64) f0 f1 f2 f3 t _) (i := 0) rfl (argsL := []) (rest := [(.int (3 : Int32))]) rfl rfl rfl rfl (leb rfl) (leb rfl) (leb rfl) (leb rfl) (st' := [(.int (4 : Int32)), (.int (3 : Int32))]) rfl (k' := 1) rfl (n' := 4) rfl ?_
  refine H.icmpF s15_21 (show (3 : Int32) < (4 : Int32) by decide) ?_
  refine H.aloadN s15_24 rfl rfl ?_
  refine H.getfield s15_25 (k_103 hw) (i := 19) rfl rfl ?_
  refine H.iloadN s15_28 rfl ?_
  refine H.callVD s15_29 (k_105 hw) (g_8 l hw n0 ν (-1 : Int64) (-3 : Int64) f0 f1 f2 f3 t _) (i := 0) rfl (argsL := [(.int (3 : Int32))]) (rest := []) rfl rfl rfl rfl (leb rfl) (leb rfl) (leb rfl) (leb rfl) (st' := [(.int (0 : Int32))]) rfl (k' := 1) rfl (n' := 4) rfl ?_
  refine H.iconst s15_32 (v := (1 : Int32)) (by decide) ?_
  refine H.icmpT s15_33 (show ¬ (0 : Int32) = (1 : Int32) by decide) ?_
  refine H.iinc s15_59 rfl (w := (4 : Int32)) (by decide) (ls' := #[.val (.ref (n0 + 19)), .val (.ref (n0 + 20)), .val (.int (4 : Int32))]) rfl ?_
  refine H.goto s15_62 ?_
  refine H.iloadN s15_13 rfl ?_
  refine H.aloadN s15_14 rfl rfl ?_
  refine H.getfield s15_15 (k_103 hw) (i := 19) rfl rfl ?_
  refine H.callVD s15_18 (k_104 hw) (g_0 l hw n0 ν (-1 : Int64) (-3 : Int64) f0 f1 f2 f3 t _) (i := 0) rfl (argsL := []) (rest := [(.int (4 : Int32))]) rfl rfl rfl rfl (leb rfl) (leb rfl) (leb rfl) (leb rfl) (st' := [(.int (4 : Int32)), (.int (4 : Int32))]) rfl (k' := 1) rfl (n' := 4) rfl ?_
  refine H.icmpT s15_21 (show ¬ (4 : Int32) < (4 : Int32) by decide) ?_
  refine H.aloadN s15_65 rfl rfl ?_
  exact H.areturn s15_66 rfl rfl rfl rfl ⟨rfl, rfl⟩ (by decide) (by decide)


theorem a_4 (l : Launch) {Z : State} {a0 : Array Value} (hw : HW1 Z a0) (n0 : Nat) (p1 : Int64) (p2 : Int64) (p3 : Int64) (p4 : Int64) (f0 : Int64) (f1 : Int64) (f2 : Int64) (f3 : Int64) (t : Ob × Ob × Ob × Ob × Ob × Ob × Ob × Ob × Ob × Ob × Ob × Ob) (ν : OwnL.Va) : Met l Z KT n0 y15 b15 3 (some (.array .long)) ({ frames := 1, cells := 1, slots := 4, locals := 17 } : Room) #[(.ref (n0 + 19))] (own_bb n0 ν (-2 : Int64) (-1 : Int64) f0 f1 f2 f3 t [.inr (.long, [(.long p1), (.long p2), (.long p3), (.long p4)]), .inl (2, [(.ref (n0 + 0)), (.ref (n0 + 18))])]) (Is (some (.ref (n0 + 20))) (own_bb n0 ν (-2 : Int64) (-1 : Int64) f0 f1 f2 f3 t [.inr (.long, [(.long p1), (.long p2), (.long p3), (.long p4)]), .inl (2, [(.ref (n0 + 0)), (.ref (n0 + 18))]), .inr (.long, [(.long p1), (.long (p2 + f2)), (.long (p3 + f1)), (.long p4)])])) := by
  refine Met.of (a0 := a0) (ls := #[.val (.ref (n0 + 19)), .unset, .unset]) (kok hw) (plainFor_of_name pn_99) (fun m => by first | (simp [entryFrame, mkF, argsToLocals, Value.category]; done) | rfl) (fun G H => ?_)
  refine H.aloadN s15_0 rfl rfl ?_
  refine H.getfield s15_1 (k_101 hw) (i := 19) rfl rfl ?_
  refine H.clone s15_4 (k_102 hw) (i := 18) (ii := 20) (cap := 4) rfl (by decide) (leb rfl) (leb rfl) rfl (leb rfl) (leb rfl) (by first | rfl | simp) (leb rfl) (leb rfl) rfl (A' := (own_bb n0 ν (-2 : Int64) (-1 : Int64) f0 f1 f2 f3 t [.inr (.long, [(.long p1), (.long p2), (.long p3), (.long p4)]), .inl (2, [(.ref (n0 + 0)), (.ref (n0 + 18))]), .inr (.long, [(.long p1), (.long p2), (.long p3), (.long p4)])])) rfl (k' := 1) rfl (n' := 4) rfl ?_
  refine H.castA s15_7 (hw _ (List.mem_of_getElem? (i := 147) rfl)) (i := 20) rfl (by decide) ?_
  refine H.astoreN s15_10 rfl (ls' := #[.val (.ref (n0 + 19)), .val (.ref (n0 + 20)), .unset]) rfl ?_
  refine H.iconst s15_11 (v := (0 : Int32)) (by decide) ?_
  refine H.istoreN s15_12 (ls' := #[.val (.ref (n0 + 19)), .val (.ref (n0 + 20)), .val (.int (0 : Int32))]) rfl ?_
  refine H.iloadN s15_13 rfl ?_
  refine H.aloadN s15_14 rfl rfl ?_
  refine H.getfield s15_15 (k_103 hw) (i := 19) rfl rfl ?_
  refine H.callVD s15_18 (k_104 hw) (g_0 l hw n0 ν (-2 : Int64) (-1 : Int64) f0 f1 f2 f3 t _) (i := 0) rfl (argsL := []) (rest := [(.int (0 : Int32))]) rfl rfl rfl rfl (leb rfl) (leb rfl) (leb rfl) (leb rfl) (st' := [(.int (4 : Int32)), (.int (0 : Int32))]) rfl (k' := 1) rfl (n' := 4) rfl ?_
  refine H.icmpF s15_21 (show (0 : Int32) < (4 : Int32) by decide) ?_
  refine H.aloadN s15_24 rfl rfl ?_
  refine H.getfield s15_25 (k_103 hw) (i := 19) rfl rfl ?_
  refine H.iloadN s15_28 rfl ?_
  refine H.callVD s15_29 (k_105 hw) (g_1 l hw n0 ν (-2 : Int64) (-1 : Int64) f0 f1 f2 f3 t _) (i := 0) rfl (argsL := [(.int (0 : Int32))]) (rest := []) rfl rfl rfl rfl (leb rfl) (leb rfl) (leb rfl) (leb rfl) (st' := [(.int (2 : Int32))]) rfl (k' := 1) rfl (n' := 4) rfl ?_
  refine H.iconst s15_32 (v := (1 : Int32)) (by decide) ?_
  refine H.icmpT s15_33 (show ¬ (2 : Int32) = (1 : Int32) by decide) ?_
  refine H.iinc s15_59 rfl (w := (1 : Int32)) (by decide) (ls' := #[.val (.ref (n0 + 19)), .val (.ref (n0 + 20)), .val (.int (1 : Int32))]) rfl ?_
  refine H.goto s15_62 ?_
  refine H.iloadN s15_13 rfl ?_
  refine H.aloadN s15_14 rfl rfl ?_
  refine H.getfield s15_15 (k_103 hw) (i := 19) rfl rfl ?_
  refine H.callVD s15_18 (k_104 hw) (g_0 l hw n0 ν (-2 : Int64) (-1 : Int64) f0 f1 f2 f3 t _) (i := 0) rfl (argsL := []) (rest := [(.int (1 : Int32))]) rfl rfl rfl rfl (leb rfl) (leb rfl) (leb rfl) (leb rfl) (st' := [(.int (4 : Int32)), (.int (1 : Int32))]) rfl (k' := 1) rfl (n' := 4) rfl ?_
  refine H.icmpF s15_21 (show (1 : Int32) < (4 : Int32) by decide) ?_
  refine H.aloadN s15_24 rfl rfl ?_
  refine H.getfield s15_25 (k_103 hw) (i := 19) rfl rfl ?_
  refine H.iloadN s15_28 rfl ?_
  refine H.callVD s15_29 (k_105 hw) (g_2 l hw n0 ν (-2 : Int64) (-1 : Int64) f0 f1 f2 f3 t _) (i := 0) rfl (argsL := [(.int (1 : Int32))]) (rest := []) rfl rfl rfl rfl (leb rfl) (leb rfl) (leb rfl) (leb rfl) (st' := [(.int (1 : Int32))]) rfl (k' := 1) rfl (n' := 4) rfl ?_
  refine H.iconst s15_32 (v := (1 : Int32)) (by decide) ?_
  refine H.icmpF s15_33 (show (1 : Int32) = (1 : Int32) by decide) ?_
  refine H.aloadN s15_36 rfl rfl ?_
  refine H.aloadN s15_37 rfl rfl ?_
  refine H.getfield s15_38 (k_103 hw) (i := 19) rfl rfl ?_
  refine H.iloadN s15_41 rfl ?_
  refine H.callVD s15_42 (k_106 hw) (g_3 l hw n0 ν (-2 : Int64) (-1 : Int64) f0 f1 f2 f3 t _) (i := 0) rfl (argsL := [(.int (1 : Int32))]) (rest := [(.ref (n0 + 20))]) rfl rfl rfl rfl (leb rfl) (leb rfl) (leb rfl) (leb rfl) (st' := [(.long (-2 : Int64)), (.ref (n0 + 20))]) rfl (k' := 1) rfl (n' := 4) rfl ?_
  refine H.lneg s15_45 (w := (2 : Int64)) (by decide) ?_
  refine H.l2i s15_46 (w := (2 : Int32)) (by decide) ?_
  refine H.dup2 s15_47 rfl rfl ?_
  refine H.laload s15_48 (i := 20) (j := 2) rfl (by decide) (v := (.long p3)) rfl ?_
  refine H.aloadN s15_49 rfl rfl ?_
  refine H.getfield s15_50 (k_103 hw) (i := 19) rfl rfl ?_
  refine H.iloadN s15_53 rfl ?_
  refine H.callVD s15_54 (k_107 hw) (g_4 l hw n0 ν (-2 : Int64) (-1 : Int64) f0 f1 f2 f3 t _) (i := 0) rfl (argsL := [(.int (1 : Int32))]) (rest := [(.long p3), (.int (2 : Int32)), (.ref (n0 + 20))]) rfl rfl rfl rfl (leb rfl) (leb rfl) (leb rfl) (leb rfl) (st' := [(.long f1), (.long p3), (.int (2 : Int32)), (.ref (n0 + 20))]) rfl (k' := 1) rfl (n' := 4) rfl ?_
  refine H.ladd s15_57 rfl ?_
  refine H.lastore s15_58 (i := 20) (j := 2) rfl (by decide) (ltb rfl)  rfl ?_
  refine H.iinc s15_59 rfl (w := (2 : Int32)) (by decide) (ls' := #[.val (.ref (n0 + 19)), .val (.ref (n0 + 20)), .val (.int (2 : Int32))]) rfl ?_
  refine H.goto s15_62 ?_
  refine H.iloadN s15_13 rfl ?_
  refine H.aloadN s15_14 rfl rfl ?_
  refine H.getfield s15_15 (k_103 hw) (i := 19) rfl rfl ?_
  refine H.callVD s15_18 (k_104 hw) (g_0 l hw n0 ν (-2 : Int64) (-1 : Int64) f0 f1 f2 f3 t _) (i := 0) rfl (argsL := []) (rest := [(.int (2 : Int32))]) rfl rfl rfl rfl (leb rfl) (leb rfl) (leb rfl) (leb rfl) (st' := [(.int (4 : Int32)), (.int (2 : Int32))]) rfl (k' := 1) rfl (n' := 4) rfl ?_
  refine H.icmpF s15_21 (show (2 : Int32) < (4 : Int32) by decide) ?_
  refine H.aloadN s15_24 rfl rfl ?_
  refine H.getfield s15_25 (k_103 hw) (i := 19) rfl rfl ?_
  refine H.iloadN s15_28 rfl ?_
  refine H.callVD s15_29 (k_105 hw) (g_5 l hw n0 ν (-2 : Int64) (-1 : Int64) f0 f1 f2 f3 t _) (i := 0) rfl (argsL := [(.int (2 : Int32))]) (rest := []) rfl rfl rfl rfl (leb rfl) (leb rfl) (leb rfl) (leb rfl) (st' := [(.int (1 : Int32))]) rfl (k' := 1) rfl (n' := 4) rfl ?_
  refine H.iconst s15_32 (v := (1 : Int32)) (by decide) ?_
  refine H.icmpF s15_33 (show (1 : Int32) = (1 : Int32) by decide) ?_
  refine H.aloadN s15_36 rfl rfl ?_
  refine H.aloadN s15_37 rfl rfl ?_
  refine H.getfield s15_38 (k_103 hw) (i := 19) rfl rfl ?_
  refine H.iloadN s15_41 rfl ?_
  refine H.callVD s15_42 (k_106 hw) (g_6 l hw n0 ν (-2 : Int64) (-1 : Int64) f0 f1 f2 f3 t _) (i := 0) rfl (argsL := [(.int (2 : Int32))]) (rest := [(.ref (n0 + 20))]) rfl rfl rfl rfl (leb rfl) (leb rfl) (leb rfl) (leb rfl) (st' := [(.long (-1 : Int64)), (.ref (n0 + 20))]) rfl (k' := 1) rfl (n' := 4) rfl ?_
  refine H.lneg s15_45 (w := (1 : Int64)) (by decide) ?_
  refine H.l2i s15_46 (w := (1 : Int32)) (by decide) ?_
  refine H.dup2 s15_47 rfl rfl ?_
  refine H.laload s15_48 (i := 20) (j := 1) rfl (by decide) (v := (.long p2)) rfl ?_
  refine H.aloadN s15_49 rfl rfl ?_
  refine H.getfield s15_50 (k_103 hw) (i := 19) rfl rfl ?_
  refine H.iloadN s15_53 rfl ?_
  refine H.callVD s15_54 (k_107 hw) (g_7 l hw n0 ν (-2 : Int64) (-1 : Int64) f0 f1 f2 f3 t _) (i := 0) rfl (argsL := [(.int (2 : Int32))]) (rest := [(.long p2), (.int (1 : Int32)), (.ref (n0 + 20))]) rfl rfl rfl rfl (leb rfl) (leb rfl) (leb rfl) (leb rfl) (st' := [(.long f2), (.long p2), (.int (1 : Int32)), (.ref (n0 + 20))]) rfl (k' := 1) rfl (n' := 4) rfl ?_
  refine H.ladd s15_57 rfl ?_
  refine H.lastore s15_58 (i := 20) (j := 1) rfl (by decide) (ltb rfl)  rfl ?_
  refine H.iinc s15_59 rfl (w := (3 : Int32)) (by decide) (ls' := #[.val (.ref (n0 + 19)), .val (.ref (n0 + 20)), .val (.int (3 : Int32))]) rfl ?_
  refine H.goto s15_62 ?_
  refine H.iloadN s15_13 rfl ?_
  refine H.aloadN s15_14 rfl rfl ?_
  refine H.getfield s15_15 (k_103 hw) (i := 19) rfl rfl ?_
  refine H.callVD s15_18 (k_104 hw) (g_0 l hw n0 ν (-2 : Int64) (-1 : Int64) f0 f1 f2 f3 t _) (i := 0) rfl (argsL := []) (rest := [(.int (3 : Int32))]) rfl rfl rfl rfl (leb rfl) (leb rfl) (leb rfl) (leb rfl) (st' := [(.int (4 : Int32)), (.int (3 : Int32))]) rfl (k' := 1) rfl (n' := 4) rfl ?_
  refine H.icmpF s15_21 (show (3 : Int32) < (4 : Int32) by decide) ?_
  refine H.aloadN s15_24 rfl rfl ?_
  refine H.getfield s15_25 (k_103 hw) (i := 19) rfl rfl ?_
  refine H.iloadN s15_28 rfl ?_
  refine H.callVD s15_29 (k_105 hw) (g_8 l hw n0 ν (-2 : Int64) (-1 : Int64) f0 f1 f2 f3 t _) (i := 0) rfl (argsL := [(.int (3 : Int32))]) (rest := []) rfl rfl rfl rfl (leb rfl) (leb rfl) (leb rfl) (leb rfl) (st' := [(.int (0 : Int32))]) rfl (k' := 1) rfl (n' := 4) rfl ?_
  refine H.iconst s15_32 (v := (1 : Int32)) (by decide) ?_
  refine H.icmpT s15_33 (show ¬ (0 : Int32) = (1 : Int32) by decide) ?_
  refine H.iinc s15_59 rfl (w := (4 : Int32)) (by decide) (ls' := #[.val (.ref (n0 + 19)), .val (.ref (n0 + 20)), .val (.int (4 : Int32))]) rfl ?_
  refine H.goto s15_62 ?_
  refine H.iloadN s15_13 rfl ?_
  refine H.aloadN s15_14 rfl rfl ?_
  refine H.getfield s15_15 (k_103 hw) (i := 19) rfl rfl ?_
  refine H.callVD s15_18 (k_104 hw) (g_0 l hw n0 ν (-2 : Int64) (-1 : Int64) f0 f1 f2 f3 t _) (i := 0) rfl (argsL := []) (rest := [(.int (4 : Int32))]) rfl rfl rfl rfl (leb rfl) (leb rfl) (leb rfl) (leb rfl) (st' := [(.int (4 : Int32)), (.int (4 : Int32))]) rfl (k' := 1) rfl (n' := 4) rfl ?_
  refine H.icmpT s15_21 (show ¬ (4 : Int32) < (4 : Int32) by decide) ?_
  refine H.aloadN s15_65 rfl rfl ?_
  exact H.areturn s15_66 rfl rfl rfl rfl ⟨rfl, rfl⟩ (by decide) (by decide)

theorem s0_231 : Nx code 231 (.lload 22) 2 233 := ⟨at_231, rfl⟩
theorem s0_233 : Nx code 233 (.lload 15) 2 235 := ⟨at_233, rfl⟩
theorem s0_235 : Nx code 235 (.invokestatic 28) 3 238 := ⟨at_235, rfl⟩
theorem s0_238 : Nx code 238 (.lstore 25) 2 240 := ⟨at_238, rfl⟩
theorem s0_240 : Nx code 240 (.lload 13) 2 242 := ⟨at_240, rfl⟩
theorem s0_242 : Nx code 242 (.lload 15) 2 244 := ⟨at_242, rfl⟩
theorem s0_244 : Nx code 244 (.lload 25) 2 246 := ⟨at_244, rfl⟩
theorem s0_246 : Nx code 246 (.lsub) 1 247 := ⟨at_246, rfl⟩
theorem s0_247 : Nx code 247 (.invokestatic 28) 3 250 := ⟨at_247, rfl⟩
theorem s0_250 : Nx code 250 (.lstore 27) 2 252 := ⟨at_250, rfl⟩
theorem s0_252 : Nx code 252 (.aload 24) 2 254 := ⟨at_252, rfl⟩
theorem s0_254 : Nx code 254 (.iload 17) 2 256 := ⟨at_254, rfl⟩
theorem s0_256 : Nx code 256 (.dup2) 1 257 := ⟨at_256, rfl⟩
theorem s0_257 : Nx code 257 (.laload) 1 258 := ⟨at_257, rfl⟩
theorem s0_258 : Nx code 258 (.lload 25) 2 260 := ⟨at_258, rfl⟩
theorem s0_260 : Nx code 260 (.ladd) 1 261 := ⟨at_260, rfl⟩
theorem s0_261 : Nx code 261 (.lastore) 1 262 := ⟨at_261, rfl⟩
theorem s0_262 : Nx code 262 (.aload 24) 2 264 := ⟨at_262, rfl⟩
theorem s0_264 : Nx code 264 (.iload 18) 2 266 := ⟨at_264, rfl⟩
theorem s0_266 : Nx code 266 (.dup2) 1 267 := ⟨at_266, rfl⟩
theorem s0_267 : Nx code 267 (.laload) 1 268 := ⟨at_267, rfl⟩
theorem s0_268 : Nx code 268 (.lload 27) 2 270 := ⟨at_268, rfl⟩
theorem s0_270 : Nx code 270 (.ladd) 1 271 := ⟨at_270, rfl⟩
theorem s0_271 : Nx code 271 (.lastore) 1 272 := ⟨at_271, rfl⟩
theorem s0_272 : Bx code 272 (.goto) 316 275 := ⟨(44), at_272, by decide, by decide, rfl⟩
theorem a_5 (l : Launch) {Z : State} {a0 : Array Value} (hw : HW1 Z a0) (n0 : Nat) (p1 : Int64) (p2 : Int64) (p3 : Int64) (p4 : Int64) (f0 : Int64) (f1 : Int64) (f2 : Int64) (f3 : Int64) (t : Ob × Ob × Ob × Ob × Ob × Ob × Ob × Ob × Ob × Ob × Ob × Ob) (ν : OwnL.Va) : Met l Z KT n0 y15 b15 3 (some (.array .long)) ({ frames := 1, cells := 1, slots := 4, locals := 17 } : Room) #[(.ref (n0 + 19))] (own_bb n0 ν (-2 : Int64) (-2 : Int64) f0 f1 f2 f3 t [.inr (.long, [(.long p1), (.long p2), (.long p3), (.long p4)]), .inl (2, [(.ref (n0 + 0)), (.ref (n0 + 18))])]) (Is (some (.ref (n0 + 20))) (own_bb n0 ν (-2 : Int64) (-2 : Int64) f0 f1 f2 f3 t [.inr (.long, [(.long p1), (.long p2), (.long p3), (.long p4)]), .inl (2, [(.ref (n0 + 0)), (.ref (n0 + 18))]), .inr (.long, [(.long p1), (.long p2), (.long ((p3 + f1) + f2)), (.long p4)])])) := by
  refine Met.of (a0 := a0) (ls := #[.val (.ref (n0 + 19)), .unset, .unset]) (kok hw) (plainFor_of_name pn_99) (fun m => by first | (simp [entryFrame, mkF, argsToLocals, Value.category]; done) | rfl) (fun G H => ?_)
  refine H.aloadN s15_0 rfl rfl ?_
  refine H.getfield s15_1 (k_101 hw) (i := 19) rfl rfl ?_
  refine H.clone s15_4 (k_102 hw) (i := 18) (ii := 20) (cap := 4) rfl (by decide) (leb rfl) (leb rfl) rfl (leb rfl) (leb rfl) (by first | rfl | simp) (leb rfl) (leb rfl) rfl (A' := (own_bb n0 ν (-2 : Int64) (-2 : Int64) f0 f1 f2 f3 t [.inr (.long, [(.long p1), (.long p2), (.long p3), (.long p4)]), .inl (2, [(.ref (n0 + 0)), (.ref (n0 + 18))]), .inr (.long, [(.long p1), (.long p2), (.long p3), (.long p4)])])) rfl (k' := 1) rfl (n' := 4) rfl ?_
  refine H.castA s15_7 (hw _ (List.mem_of_getElem? (i := 147) rfl)) (i := 20) rfl (by decide) ?_
  refine H.astoreN s15_10 rfl (ls' := #[.val (.ref (n0 + 19)), .val (.ref (n0 + 20)), .unset]) rfl ?_
  refine H.iconst s15_11 (v := (0 : Int32)) (by decide) ?_
  refine H.istoreN s15_12 (ls' := #[.val (.ref (n0 + 19)), .val (.ref (n0 + 20)), .val (.int (0 : Int32))]) rfl ?_
  refine H.iloadN s15_13 rfl ?_
  refine H.aloadN s15_14 rfl rfl ?_
  refine H.getfield s15_15 (k_103 hw) (i := 19) rfl rfl ?_
  refine H.callVD s15_18 (k_104 hw) (g_0 l hw n0 ν (-2 : Int64) (-2 : Int64) f0 f1 f2 f3 t _) (i := 0) rfl (argsL := []) (rest := [(.int (0 : Int32))]) rfl rfl rfl rfl (leb rfl) (leb rfl) (leb rfl) (leb rfl) (st' := [(.int (4 : Int32)), (.int (0 : Int32))]) rfl (k' := 1) rfl (n' := 4) rfl ?_
  refine H.icmpF s15_21 (show (0 : Int32) < (4 : Int32) by decide) ?_
  refine H.aloadN s15_24 rfl rfl ?_
  refine H.getfield s15_25 (k_103 hw) (i := 19) rfl rfl ?_
  refine H.iloadN s15_28 rfl ?_
  refine H.callVD s15_29 (k_105 hw) (g_1 l hw n0 ν (-2 : Int64) (-2 : Int64) f0 f1 f2 f3 t _) (i := 0) rfl (argsL := [(.int (0 : Int32))]) (rest := []) rfl rfl rfl rfl (leb rfl) (leb rfl) (leb rfl) (leb rfl) (st' := [(.int (2 : Int32))]) rfl (k' := 1) rfl (n' := 4) rfl ?_
  refine H.iconst s15_32 (v := (1 : Int32)) (by decide) ?_
  refine H.icmpT s15_33 (show ¬ (2 : Int32) = (1 : Int32) by decide) ?_
  refine H.iinc s15_59 rfl (w := (1 : Int32)) (by decide) (ls' := #[.val (.ref (n0 + 19)), .val (.ref (n0 + 20)), .val (.int (1 : Int32))]) rfl ?_
  refine H.goto s15_62 ?_
  refine H.iloadN s15_13 rfl ?_
  refine H.aloadN s15_14 rfl rfl ?_
  refine H.getfield s15_15 (k_103 hw) (i := 19) rfl rfl ?_
  refine H.callVD s15_18 (k_104 hw) (g_0 l hw n0 ν (-2 : Int64) (-2 : Int64) f0 f1 f2 f3 t _) (i := 0) rfl (argsL := []) (rest := [(.int (1 : Int32))]) rfl rfl rfl rfl (leb rfl) (leb rfl) (leb rfl) (leb rfl) (st' := [(.int (4 : Int32)), (.int (1 : Int32))]) rfl (k' := 1) rfl (n' := 4) rfl ?_
  refine H.icmpF s15_21 (show (1 : Int32) < (4 : Int32) by decide) ?_
  refine H.aloadN s15_24 rfl rfl ?_
  refine H.getfield s15_25 (k_103 hw) (i := 19) rfl rfl ?_
  refine H.iloadN s15_28 rfl ?_
  refine H.callVD s15_29 (k_105 hw) (g_2 l hw n0 ν (-2 : Int64) (-2 : Int64) f0 f1 f2 f3 t _) (i := 0) rfl (argsL := [(.int (1 : Int32))]) (rest := []) rfl rfl rfl rfl (leb rfl) (leb rfl) (leb rfl) (leb rfl) (st' := [(.int (1 : Int32))]) rfl (k' := 1) rfl (n' := 4) rfl ?_
  refine H.iconst s15_32 (v := (1 : Int32)) (by decide) ?_
  refine H.icmpF s15_33 (show (1 : Int32) = (1 : Int32) by decide) ?_
  refine H.aloadN s15_36 rfl rfl ?_
  refine H.aloadN s15_37 rfl rfl ?_
  refine H.getfield s15_38 (k_103 hw) (i := 19) rfl rfl ?_
  refine H.iloadN s15_41 rfl ?_
  refine H.callVD s15_42 (k_106 hw) (g_3 l hw n0 ν (-2 : Int64) (-2 : Int64) f0 f1 f2 f3 t _) (i := 0) rfl (argsL := [(.int (1 : Int32))]) (rest := [(.ref (n0 + 20))]) rfl rfl rfl rfl (leb rfl) (leb rfl) (leb rfl) (leb rfl) (st' := [(.long (-2 : Int64)), (.ref (n0 + 20))]) rfl (k' := 1) rfl (n' := 4) rfl ?_
  refine H.lneg s15_45 (w := (2 : Int64)) (by decide) ?_
  refine H.l2i s15_46 (w := (2 : Int32)) (by decide) ?_
  refine H.dup2 s15_47 rfl rfl ?_
  refine H.laload s15_48 (i := 20) (j := 2) rfl (by decide) (v := (.long p3)) rfl ?_
  refine H.aloadN s15_49 rfl rfl ?_
  refine H.getfield s15_50 (k_103 hw) (i := 19) rfl rfl ?_
  refine H.iloadN s15_53 rfl ?_
  refine H.callVD s15_54 (k_107 hw) (g_4 l hw n0 ν (-2 : Int64) (-2 : Int64) f0 f1 f2 f3 t _) (i := 0) rfl (argsL := [(.int (1 : Int32))]) (rest := [(.long p3), (.int (2 : Int32)), (.ref (n0 + 20))]) rfl rfl rfl rfl (leb rfl) (leb rfl) (leb rfl) (leb rfl) (st' := [(.long f1), (.long p3), (.int (2 : Int32)), (.ref (n0 + 20))]) rfl (k' := 1) rfl (n' := 4) rfl ?_
  refine H.ladd s15_57 rfl ?_
  refine H.lastore s15_58 (i := 20) (j := 2) rfl (by decide) (ltb rfl)  rfl ?_
  refine H.iinc s15_59 rfl (w := (2 : Int32)) (by decide) (ls' := #[.val (.ref (n0 + 19)), .val (.ref (n0 + 20)), .val (.int (2 : Int32))]) rfl ?_
  refine H.goto s15_62 ?_
  refine H.iloadN s15_13 rfl ?_
  refine H.aloadN s15_14 rfl rfl ?_
  refine H.getfield s15_15 (k_103 hw) (i := 19) rfl rfl ?_
  refine H.callVD s15_18 (k_104 hw) (g_0 l hw n0 ν (-2 : Int64) (-2 : Int64) f0 f1 f2 f3 t _) (i := 0) rfl (argsL := []) (rest := [(.int (2 : Int32))]) rfl rfl rfl rfl (leb rfl) (leb rfl) (leb rfl) (leb rfl) (st' := [(.int (4 : Int32)), (.int (2 : Int32))]) rfl (k' := 1) rfl (n' := 4) rfl ?_
  refine H.icmpF s15_21 (show (2 : Int32) < (4 : Int32) by decide) ?_
  refine H.aloadN s15_24 rfl rfl ?_
  refine H.getfield s15_25 (k_103 hw) (i := 19) rfl rfl ?_
  refine H.iloadN s15_28 rfl ?_
  refine H.callVD s15_29 (k_105 hw) (g_5 l hw n0 ν (-2 : Int64) (-2 : Int64) f0 f1 f2 f3 t _) (i := 0) rfl (argsL := [(.int (2 : Int32))]) (rest := []) rfl rfl rfl rfl (leb rfl) (leb rfl) (leb rfl) (leb rfl) (st' := [(.int (1 : Int32))]) rfl (k' := 1) rfl (n' := 4) rfl ?_
  refine H.iconst s15_32 (v := (1 : Int32)) (by decide) ?_
  refine H.icmpF s15_33 (show (1 : Int32) = (1 : Int32) by decide) ?_
  refine H.aloadN s15_36 rfl rfl ?_
  refine H.aloadN s15_37 rfl rfl ?_
  refine H.getfield s15_38 (k_103 hw) (i := 19) rfl rfl ?_
  refine H.iloadN s15_41 rfl ?_
  refine H.callVD s15_42 (k_106 hw) (g_6 l hw n0 ν (-2 : Int64) (-2 : Int64) f0 f1 f2 f3 t _) (i := 0) rfl (argsL := [(.int (2 : Int32))]) (rest := [(.ref (n0 + 20))]) rfl rfl rfl rfl (leb rfl) (leb rfl) (leb rfl) (leb rfl) (st' := [(.long (-2 : Int64)), (.ref (n0 + 20))]) rfl (k' := 1) rfl (n' := 4) rfl ?_
  refine H.lneg s15_45 (w := (2 : Int64)) (by decide) ?_
  refine H.l2i s15_46 (w := (2 : Int32)) (by decide) ?_
  refine H.dup2 s15_47 rfl rfl ?_
  refine H.laload s15_48 (i := 20) (j := 2) rfl (by decide) (v := (.long (p3 + f1))) rfl ?_
  refine H.aloadN s15_49 rfl rfl ?_
  refine H.getfield s15_50 (k_103 hw) (i := 19) rfl rfl ?_
  refine H.iloadN s15_53 rfl ?_
  refine H.callVD s15_54 (k_107 hw) (g_7 l hw n0 ν (-2 : Int64) (-2 : Int64) f0 f1 f2 f3 t _) (i := 0) rfl (argsL := [(.int (2 : Int32))]) (rest := [(.long (p3 + f1)), (.int (2 : Int32)), (.ref (n0 + 20))]) rfl rfl rfl rfl (leb rfl) (leb rfl) (leb rfl) (leb rfl) (st' := [(.long f2), (.long (p3 + f1)), (.int (2 : Int32)), (.ref (n0 + 20))]) rfl (k' := 1) rfl (n' := 4) rfl ?_
  refine H.ladd s15_57 rfl ?_
  refine H.lastore s15_58 (i := 20) (j := 2) rfl (by decide) (ltb rfl)  rfl ?_
  refine H.iinc s15_59 rfl (w := (3 : Int32)) (by decide) (ls' := #[.val (.ref (n0 + 19)), .val (.ref (n0 + 20)), .val (.int (3 : Int32))]) rfl ?_
  refine H.goto s15_62 ?_
  refine H.iloadN s15_13 rfl ?_
  refine H.aloadN s15_14 rfl rfl ?_
  refine H.getfield s15_15 (k_103 hw) (i := 19) rfl rfl ?_
  refine H.callVD s15_18 (k_104 hw) (g_0 l hw n0 ν (-2 : Int64) (-2 : Int64) f0 f1 f2 f3 t _) (i := 0) rfl (argsL := []) (rest := [(.int (3 : Int32))]) rfl rfl rfl rfl (leb rfl) (leb rfl) (leb rfl) (leb rfl) (st' := [(.int (4 : Int32)), (.int (3 : Int32))]) rfl (k' := 1) rfl (n' := 4) rfl ?_
  refine H.icmpF s15_21 (show (3 : Int32) < (4 : Int32) by decide) ?_
  refine H.aloadN s15_24 rfl rfl ?_
  refine H.getfield s15_25 (k_103 hw) (i := 19) rfl rfl ?_
  refine H.iloadN s15_28 rfl ?_
  refine H.callVD s15_29 (k_105 hw) (g_8 l hw n0 ν (-2 : Int64) (-2 : Int64) f0 f1 f2 f3 t _) (i := 0) rfl (argsL := [(.int (3 : Int32))]) (rest := []) rfl rfl rfl rfl (leb rfl) (leb rfl) (leb rfl) (leb rfl) (st' := [(.int (0 : Int32))]) rfl (k' := 1) rfl (n' := 4) rfl ?_
  refine H.iconst s15_32 (v := (1 : Int32)) (by decide) ?_
  refine H.icmpT s15_33 (show ¬ (0 : Int32) = (1 : Int32) by decide) ?_
  refine H.iinc s15_59 rfl (w := (4 : Int32)) (by decide) (ls' := #[.val (.ref (n0 + 19)), .val (.ref (n0 + 20)), .val (.int (4 : Int32))]) rfl ?_
  refine H.goto s15_62 ?_
  refine H.iloadN s15_13 rfl ?_
  refine H.aloadN s15_14 rfl rfl ?_
  refine H.getfield s15_15 (k_103 hw) (i := 19) rfl rfl ?_
  refine H.callVD s15_18 (k_104 hw) (g_0 l hw n0 ν (-2 : Int64) (-2 : Int64) f0 f1 f2 f3 t _) (i := 0) rfl (argsL := []) (rest := [(.int (4 : Int32))]) rfl rfl rfl rfl (leb rfl) (leb rfl) (leb rfl) (leb rfl) (st' := [(.int (4 : Int32)), (.int (4 : Int32))]) rfl (k' := 1) rfl (n' := 4) rfl ?_
  refine H.icmpT s15_21 (show ¬ (4 : Int32) < (4 : Int32) by decide) ?_
  refine H.aloadN s15_65 rfl rfl ?_
  exact H.areturn s15_66 rfl rfl rfl rfl ⟨rfl, rfl⟩ (by decide) (by decide)


theorem a_6 (l : Launch) {Z : State} {a0 : Array Value} (hw : HW1 Z a0) (n0 : Nat) (p1 : Int64) (p2 : Int64) (p3 : Int64) (p4 : Int64) (f0 : Int64) (f1 : Int64) (f2 : Int64) (f3 : Int64) (t : Ob × Ob × Ob × Ob × Ob × Ob × Ob × Ob × Ob × Ob × Ob × Ob) (ν : OwnL.Va) : Met l Z KT n0 y15 b15 3 (some (.array .long)) ({ frames := 1, cells := 1, slots := 4, locals := 17 } : Room) #[(.ref (n0 + 19))] (own_bb n0 ν (-2 : Int64) (-3 : Int64) f0 f1 f2 f3 t [.inr (.long, [(.long p1), (.long p2), (.long p3), (.long p4)]), .inl (2, [(.ref (n0 + 0)), (.ref (n0 + 18))])]) (Is (some (.ref (n0 + 20))) (own_bb n0 ν (-2 : Int64) (-3 : Int64) f0 f1 f2 f3 t [.inr (.long, [(.long p1), (.long p2), (.long p3), (.long p4)]), .inl (2, [(.ref (n0 + 0)), (.ref (n0 + 18))]), .inr (.long, [(.long p1), (.long p2), (.long (p3 + f1)), (.long (p4 + f2))])])) := by
  refine Met.of (a0 := a0) (ls := #[.val (.ref (n0 + 19)), .unset, .unset]) (kok hw) (plainFor_of_name pn_99) (fun m => by first | (simp [entryFrame, mkF, argsToLocals, Value.category]; done) | rfl) (fun G H => ?_)
  refine H.aloadN s15_0 rfl rfl ?_
  refine H.getfield s15_1 (k_101 hw) (i := 19) rfl rfl ?_
  refine H.clone s15_4 (k_102 hw) (i := 18) (ii := 20) (cap := 4) rfl (by decide) (leb rfl) (leb rfl) rfl (leb rfl) (leb rfl) (by first | rfl | simp) (leb rfl) (leb rfl) rfl (A' := (own_bb n0 ν (-2 : Int64) (-3 : Int64) f0 f1 f2 f3 t [.inr (.long, [(.long p1), (.long p2), (.long p3), (.long p4)]), .inl (2, [(.ref (n0 + 0)), (.ref (n0 + 18))]), .inr (.long, [(.long p1), (.long p2), (.long p3), (.long p4)])])) rfl (k' := 1) rfl (n' := 4) rfl ?_
  refine H.castA s15_7 (hw _ (List.mem_of_getElem? (i := 147) rfl)) (i := 20) rfl (by decide) ?_
  refine H.astoreN s15_10 rfl (ls' := #[.val (.ref (n0 + 19)), .val (.ref (n0 + 20)), .unset]) rfl ?_
  refine H.iconst s15_11 (v := (0 : Int32)) (by decide) ?_
  refine H.istoreN s15_12 (ls' := #[.val (.ref (n0 + 19)), .val (.ref (n0 + 20)), .val (.int (0 : Int32))]) rfl ?_
  refine H.iloadN s15_13 rfl ?_
  refine H.aloadN s15_14 rfl rfl ?_
  refine H.getfield s15_15 (k_103 hw) (i := 19) rfl rfl ?_
  refine H.callVD s15_18 (k_104 hw) (g_0 l hw n0 ν (-2 : Int64) (-3 : Int64) f0 f1 f2 f3 t _) (i := 0) rfl (argsL := []) (rest := [(.int (0 : Int32))]) rfl rfl rfl rfl (leb rfl) (leb rfl) (leb rfl) (leb rfl) (st' := [(.int (4 : Int32)), (.int (0 : Int32))]) rfl (k' := 1) rfl (n' := 4) rfl ?_
  refine H.icmpF s15_21 (show (0 : Int32) < (4 : Int32) by decide) ?_
  refine H.aloadN s15_24 rfl rfl ?_
  refine H.getfield s15_25 (k_103 hw) (i := 19) rfl rfl ?_
  refine H.iloadN s15_28 rfl ?_
  refine H.callVD s15_29 (k_105 hw) (g_1 l hw n0 ν (-2 : Int64) (-3 : Int64) f0 f1 f2 f3 t _) (i := 0) rfl (argsL := [(.int (0 : Int32))]) (rest := []) rfl rfl rfl rfl (leb rfl) (leb rfl) (leb rfl) (leb rfl) (st' := [(.int (2 : Int32))]) rfl (k' := 1) rfl (n' := 4) rfl ?_
  refine H.iconst s15_32 (v := (1 : Int32)) (by decide) ?_
  refine H.icmpT s15_33 (show ¬ (2 : Int32) = (1 : Int32) by decide) ?_
  refine H.iinc s15_59 rfl (w := (1 : Int32)) (by decide) (ls' := #[.val (.ref (n0 + 19)), .val (.ref (n0 + 20)), .val (.int (1 : Int32))]) rfl ?_
  refine H.goto s15_62 ?_
  refine H.iloadN s15_13 rfl ?_
  refine H.aloadN s15_14 rfl rfl ?_
  refine H.getfield s15_15 (k_103 hw) (i := 19) rfl rfl ?_
  refine H.callVD s15_18 (k_104 hw) (g_0 l hw n0 ν (-2 : Int64) (-3 : Int64) f0 f1 f2 f3 t _) (i := 0) rfl (argsL := []) (rest := [(.int (1 : Int32))]) rfl rfl rfl rfl (leb rfl) (leb rfl) (leb rfl) (leb rfl) (st' := [(.int (4 : Int32)), (.int (1 : Int32))]) rfl (k' := 1) rfl (n' := 4) rfl ?_
  refine H.icmpF s15_21 (show (1 : Int32) < (4 : Int32) by decide) ?_
  refine H.aloadN s15_24 rfl rfl ?_
  refine H.getfield s15_25 (k_103 hw) (i := 19) rfl rfl ?_
  refine H.iloadN s15_28 rfl ?_
  refine H.callVD s15_29 (k_105 hw) (g_2 l hw n0 ν (-2 : Int64) (-3 : Int64) f0 f1 f2 f3 t _) (i := 0) rfl (argsL := [(.int (1 : Int32))]) (rest := []) rfl rfl rfl rfl (leb rfl) (leb rfl) (leb rfl) (leb rfl) (st' := [(.int (1 : Int32))]) rfl (k' := 1) rfl (n' := 4) rfl ?_
  refine H.iconst s15_32 (v := (1 : Int32)) (by decide) ?_
  refine H.icmpF s15_33 (show (1 : Int32) = (1 : Int32) by decide) ?_
  refine H.aloadN s15_36 rfl rfl ?_
  refine H.aloadN s15_37 rfl rfl ?_
  refine H.getfield s15_38 (k_103 hw) (i := 19) rfl rfl ?_
  refine H.iloadN s15_41 rfl ?_
  refine H.callVD s15_42 (k_106 hw) (g_3 l hw n0 ν (-2 : Int64) (-3 : Int64) f0 f1 f2 f3 t _) (i := 0) rfl (argsL := [(.int (1 : Int32))]) (rest := [(.ref (n0 + 20))]) rfl rfl rfl rfl (leb rfl) (leb rfl) (leb rfl) (leb rfl) (st' := [(.long (-2 : Int64)), (.ref (n0 + 20))]) rfl (k' := 1) rfl (n' := 4) rfl ?_
  refine H.lneg s15_45 (w := (2 : Int64)) (by decide) ?_
  refine H.l2i s15_46 (w := (2 : Int32)) (by decide) ?_
  refine H.dup2 s15_47 rfl rfl ?_
  refine H.laload s15_48 (i := 20) (j := 2) rfl (by decide) (v := (.long p3)) rfl ?_
  refine H.aloadN s15_49 rfl rfl ?_
  refine H.getfield s15_50 (k_103 hw) (i := 19) rfl rfl ?_
  refine H.iloadN s15_53 rfl ?_
  refine H.callVD s15_54 (k_107 hw) (g_4 l hw n0 ν (-2 : Int64) (-3 : Int64) f0 f1 f2 f3 t _) (i := 0) rfl (argsL := [(.int (1 : Int32))]) (rest := [(.long p3), (.int (2 : Int32)), (.ref (n0 + 20))]) rfl rfl rfl rfl (leb rfl) (leb rfl) (leb rfl) (leb rfl) (st' := [(.long f1), (.long p3), (.int (2 : Int32)), (.ref (n0 + 20))]) rfl (k' := 1) rfl (n' := 4) rfl ?_
  refine H.ladd s15_57 rfl ?_
  refine H.lastore s15_58 (i := 20) (j := 2) rfl (by decide) (ltb rfl)  rfl ?_
  refine H.iinc s15_59 rfl (w := (2 : Int32)) (by decide) (ls' := #[.val (.ref (n0 + 19)), .val (.ref (n0 + 20)), .val (.int (2 : Int32))]) rfl ?_
  refine H.goto s15_62 ?_
  refine H.iloadN s15_13 rfl ?_
  refine H.aloadN s15_14 rfl rfl ?_
  refine H.getfield s15_15 (k_103 hw) (i := 19) rfl rfl ?_
  refine H.callVD s15_18 (k_104 hw) (g_0 l hw n0 ν (-2 : Int64) (-3 : Int64) f0 f1 f2 f3 t _) (i := 0) rfl (argsL := []) (rest := [(.int (2 : Int32))]) rfl rfl rfl rfl (leb rfl) (leb rfl) (leb rfl) (leb rfl) (st' := [(.int (4 : Int32)), (.int (2 : Int32))]) rfl (k' := 1) rfl (n' := 4) rfl ?_
  refine H.icmpF s15_21 (show (2 : Int32) < (4 : Int32) by decide) ?_
  refine H.aloadN s15_24 rfl rfl ?_
  refine H.getfield s15_25 (k_103 hw) (i := 19) rfl rfl ?_
  refine H.iloadN s15_28 rfl ?_
  refine H.callVD s15_29 (k_105 hw) (g_5 l hw n0 ν (-2 : Int64) (-3 : Int64) f0 f1 f2 f3 t _) (i := 0) rfl (argsL := [(.int (2 : Int32))]) (rest := []) rfl rfl rfl rfl (leb rfl) (leb rfl) (leb rfl) (leb rfl) (st' := [(.int (1 : Int32))]) rfl (k' := 1) rfl (n' := 4) rfl ?_
  refine H.iconst s15_32 (v := (1 : Int32)) (by decide) ?_
  refine H.icmpF s15_33 (show (1 : Int32) = (1 : Int32) by decide) ?_
  refine H.aloadN s15_36 rfl rfl ?_
  refine H.aloadN s15_37 rfl rfl ?_
  refine H.getfield s15_38 (k_103 hw) (i := 19) rfl rfl ?_
  refine H.iloadN s15_41 rfl ?_
  refine H.callVD s15_42 (k_106 hw) (g_6 l hw n0 ν (-2 : Int64) (-3 : Int64) f0 f1 f2 f3 t _) (i := 0) rfl (argsL := [(.int (2 : Int32))]) (rest := [(.ref (n0 + 20))]) rfl rfl rfl rfl (leb rfl) (leb rfl) (leb rfl) (leb rfl) (st' := [(.long (-3 : Int64)), (.ref (n0 + 20))]) rfl (k' := 1) rfl (n' := 4) rfl ?_
  refine H.lneg s15_45 (w := (3 : Int64)) (by decide) ?_
  refine H.l2i s15_46 (w := (3 : Int32)) (by decide) ?_
  refine H.dup2 s15_47 rfl rfl ?_
  refine H.laload s15_48 (i := 20) (j := 3) rfl (by decide) (v := (.long p4)) rfl ?_
  refine H.aloadN s15_49 rfl rfl ?_
  refine H.getfield s15_50 (k_103 hw) (i := 19) rfl rfl ?_
  refine H.iloadN s15_53 rfl ?_
  refine H.callVD s15_54 (k_107 hw) (g_7 l hw n0 ν (-2 : Int64) (-3 : Int64) f0 f1 f2 f3 t _) (i := 0) rfl (argsL := [(.int (2 : Int32))]) (rest := [(.long p4), (.int (3 : Int32)), (.ref (n0 + 20))]) rfl rfl rfl rfl (leb rfl) (leb rfl) (leb rfl) (leb rfl) (st' := [(.long f2), (.long p4), (.int (3 : Int32)), (.ref (n0 + 20))]) rfl (k' := 1) rfl (n' := 4) rfl ?_
  refine H.ladd s15_57 rfl ?_
  refine H.lastore s15_58 (i := 20) (j := 3) rfl (by decide) (ltb rfl)  rfl ?_
  refine H.iinc s15_59 rfl (w := (3 : Int32)) (by decide) (ls' := #[.val (.ref (n0 + 19)), .val (.ref (n0 + 20)), .val (.int (3 : Int32))]) rfl ?_
  refine H.goto s15_62 ?_
  refine H.iloadN s15_13 rfl ?_
  refine H.aloadN s15_14 rfl rfl ?_
  refine H.getfield s15_15 (k_103 hw) (i := 19) rfl rfl ?_
  refine H.callVD s15_18 (k_104 hw) (g_0 l hw n0 ν (-2 : Int64) (-3 : Int64) f0 f1 f2 f3 t _) (i := 0) rfl (argsL := []) (rest := [(.int (3 : Int32))]) rfl rfl rfl rfl (leb rfl) (leb rfl) (leb rfl) (leb rfl) (st' := [(.int (4 : Int32)), (.int (3 : Int32))]) rfl (k' := 1) rfl (n' := 4) rfl ?_
  refine H.icmpF s15_21 (show (3 : Int32) < (4 : Int32) by decide) ?_
  refine H.aloadN s15_24 rfl rfl ?_
  refine H.getfield s15_25 (k_103 hw) (i := 19) rfl rfl ?_
  refine H.iloadN s15_28 rfl ?_
  refine H.callVD s15_29 (k_105 hw) (g_8 l hw n0 ν (-2 : Int64) (-3 : Int64) f0 f1 f2 f3 t _) (i := 0) rfl (argsL := [(.int (3 : Int32))]) (rest := []) rfl rfl rfl rfl (leb rfl) (leb rfl) (leb rfl) (leb rfl) (st' := [(.int (0 : Int32))]) rfl (k' := 1) rfl (n' := 4) rfl ?_
  refine H.iconst s15_32 (v := (1 : Int32)) (by decide) ?_
  refine H.icmpT s15_33 (show ¬ (0 : Int32) = (1 : Int32) by decide) ?_
  refine H.iinc s15_59 rfl (w := (4 : Int32)) (by decide) (ls' := #[.val (.ref (n0 + 19)), .val (.ref (n0 + 20)), .val (.int (4 : Int32))]) rfl ?_
  refine H.goto s15_62 ?_
  refine H.iloadN s15_13 rfl ?_
  refine H.aloadN s15_14 rfl rfl ?_
  refine H.getfield s15_15 (k_103 hw) (i := 19) rfl rfl ?_
  refine H.callVD s15_18 (k_104 hw) (g_0 l hw n0 ν (-2 : Int64) (-3 : Int64) f0 f1 f2 f3 t _) (i := 0) rfl (argsL := []) (rest := [(.int (4 : Int32))]) rfl rfl rfl rfl (leb rfl) (leb rfl) (leb rfl) (leb rfl) (st' := [(.int (4 : Int32)), (.int (4 : Int32))]) rfl (k' := 1) rfl (n' := 4) rfl ?_
  refine H.icmpT s15_21 (show ¬ (4 : Int32) < (4 : Int32) by decide) ?_
  refine H.aloadN s15_65 rfl rfl ?_
  exact H.areturn s15_66 rfl rfl rfl rfl ⟨rfl, rfl⟩ (by decide) (by decide)


theorem a_7 (l : Launch) {Z : State} {a0 : Array Value} (hw : HW1 Z a0) (n0 : Nat) (p1 : Int64) (p2 : Int64) (p3 : Int64) (p4 : Int64) (f0 : Int64) (f1 : Int64) (f2 : Int64) (f3 : Int64) (t : Ob × Ob × Ob × Ob × Ob × Ob × Ob × Ob × Ob × Ob × Ob × Ob) (ν : OwnL.Va) : Met l Z KT n0 y15 b15 3 (some (.array .long)) ({ frames := 1, cells := 1, slots := 4, locals := 17 } : Room) #[(.ref (n0 + 19))] (own_bb n0 ν (-3 : Int64) (-1 : Int64) f0 f1 f2 f3 t [.inr (.long, [(.long p1), (.long p2), (.long p3), (.long p4)]), .inl (2, [(.ref (n0 + 0)), (.ref (n0 + 18))])]) (Is (some (.ref (n0 + 20))) (own_bb n0 ν (-3 : Int64) (-1 : Int64) f0 f1 f2 f3 t [.inr (.long, [(.long p1), (.long p2), (.long p3), (.long p4)]), .inl (2, [(.ref (n0 + 0)), (.ref (n0 + 18))]), .inr (.long, [(.long p1), (.long (p2 + f2)), (.long p3), (.long (p4 + f1))])])) := by
  refine Met.of (a0 := a0) (ls := #[.val (.ref (n0 + 19)), .unset, .unset]) (kok hw) (plainFor_of_name pn_99) (fun m => by first | (simp [entryFrame, mkF, argsToLocals, Value.category]; done) | rfl) (fun G H => ?_)
  refine H.aloadN s15_0 rfl rfl ?_
  refine H.getfield s15_1 (k_101 hw) (i := 19) rfl rfl ?_
  refine H.clone s15_4 (k_102 hw) (i := 18) (ii := 20) (cap := 4) rfl (by decide) (leb rfl) (leb rfl) rfl (leb rfl) (leb rfl) (by first | rfl | simp) (leb rfl) (leb rfl) rfl (A' := (own_bb n0 ν (-3 : Int64) (-1 : Int64) f0 f1 f2 f3 t [.inr (.long, [(.long p1), (.long p2), (.long p3), (.long p4)]), .inl (2, [(.ref (n0 + 0)), (.ref (n0 + 18))]), .inr (.long, [(.long p1), (.long p2), (.long p3), (.long p4)])])) rfl (k' := 1) rfl (n' := 4) rfl ?_
  refine H.castA s15_7 (hw _ (List.mem_of_getElem? (i := 147) rfl)) (i := 20) rfl (by decide) ?_
  refine H.astoreN s15_10 rfl (ls' := #[.val (.ref (n0 + 19)), .val (.ref (n0 + 20)), .unset]) rfl ?_
  refine H.iconst s15_11 (v := (0 : Int32)) (by decide) ?_
  refine H.istoreN s15_12 (ls' := #[.val (.ref (n0 + 19)), .val (.ref (n0 + 20)), .val (.int (0 : Int32))]) rfl ?_
  refine H.iloadN s15_13 rfl ?_
  refine H.aloadN s15_14 rfl rfl ?_
  refine H.getfield s15_15 (k_103 hw) (i := 19) rfl rfl ?_
  refine H.callVD s15_18 (k_104 hw) (g_0 l hw n0 ν (-3 : Int64) (-1 : Int64) f0 f1 f2 f3 t _) (i := 0) rfl (argsL := []) (rest := [(.int (0 : Int32))]) rfl rfl rfl rfl (leb rfl) (leb rfl) (leb rfl) (leb rfl) (st' := [(.int (4 : Int32)), (.int (0 : Int32))]) rfl (k' := 1) rfl (n' := 4) rfl ?_
  refine H.icmpF s15_21 (show (0 : Int32) < (4 : Int32) by decide) ?_
  refine H.aloadN s15_24 rfl rfl ?_
  refine H.getfield s15_25 (k_103 hw) (i := 19) rfl rfl ?_
  refine H.iloadN s15_28 rfl ?_
  refine H.callVD s15_29 (k_105 hw) (g_1 l hw n0 ν (-3 : Int64) (-1 : Int64) f0 f1 f2 f3 t _) (i := 0) rfl (argsL := [(.int (0 : Int32))]) (rest := []) rfl rfl rfl rfl (leb rfl) (leb rfl) (leb rfl) (leb rfl) (st' := [(.int (2 : Int32))]) rfl (k' := 1) rfl (n' := 4) rfl ?_
  refine H.iconst s15_32 (v := (1 : Int32)) (by decide) ?_
  refine H.icmpT s15_33 (show ¬ (2 : Int32) = (1 : Int32) by decide) ?_
  refine H.iinc s15_59 rfl (w := (1 : Int32)) (by decide) (ls' := #[.val (.ref (n0 + 19)), .val (.ref (n0 + 20)), .val (.int (1 : Int32))]) rfl ?_
  refine H.goto s15_62 ?_
  refine H.iloadN s15_13 rfl ?_
  refine H.aloadN s15_14 rfl rfl ?_
  refine H.getfield s15_15 (k_103 hw) (i := 19) rfl rfl ?_
  refine H.callVD s15_18 (k_104 hw) (g_0 l hw n0 ν (-3 : Int64) (-1 : Int64) f0 f1 f2 f3 t _) (i := 0) rfl (argsL := []) (rest := [(.int (1 : Int32))]) rfl rfl rfl rfl (leb rfl) (leb rfl) (leb rfl) (leb rfl) (st' := [(.int (4 : Int32)), (.int (1 : Int32))]) rfl (k' := 1) rfl (n' := 4) rfl ?_
  refine H.icmpF s15_21 (show (1 : Int32) < (4 : Int32) by decide) ?_
  refine H.aloadN s15_24 rfl rfl ?_
  refine H.getfield s15_25 (k_103 hw) (i := 19) rfl rfl ?_
  refine H.iloadN s15_28 rfl ?_
  refine H.callVD s15_29 (k_105 hw) (g_2 l hw n0 ν (-3 : Int64) (-1 : Int64) f0 f1 f2 f3 t _) (i := 0) rfl (argsL := [(.int (1 : Int32))]) (rest := []) rfl rfl rfl rfl (leb rfl) (leb rfl) (leb rfl) (leb rfl) (st' := [(.int (1 : Int32))]) rfl (k' := 1) rfl (n' := 4) rfl ?_
  refine H.iconst s15_32 (v := (1 : Int32)) (by decide) ?_
  refine H.icmpF s15_33 (show (1 : Int32) = (1 : Int32) by decide) ?_
  refine H.aloadN s15_36 rfl rfl ?_
  refine H.aloadN s15_37 rfl rfl ?_
  refine H.getfield s15_38 (k_103 hw) (i := 19) rfl rfl ?_
  refine H.iloadN s15_41 rfl ?_
  refine H.callVD s15_42 (k_106 hw) (g_3 l hw n0 ν (-3 : Int64) (-1 : Int64) f0 f1 f2 f3 t _) (i := 0) rfl (argsL := [(.int (1 : Int32))]) (rest := [(.ref (n0 + 20))]) rfl rfl rfl rfl (leb rfl) (leb rfl) (leb rfl) (leb rfl) (st' := [(.long (-3 : Int64)), (.ref (n0 + 20))]) rfl (k' := 1) rfl (n' := 4) rfl ?_
  refine H.lneg s15_45 (w := (3 : Int64)) (by decide) ?_
  refine H.l2i s15_46 (w := (3 : Int32)) (by decide) ?_
  refine H.dup2 s15_47 rfl rfl ?_
  refine H.laload s15_48 (i := 20) (j := 3) rfl (by decide) (v := (.long p4)) rfl ?_
  refine H.aloadN s15_49 rfl rfl ?_
  refine H.getfield s15_50 (k_103 hw) (i := 19) rfl rfl ?_
  refine H.iloadN s15_53 rfl ?_
  refine H.callVD s15_54 (k_107 hw) (g_4 l hw n0 ν (-3 : Int64) (-1 : Int64) f0 f1 f2 f3 t _) (i := 0) rfl (argsL := [(.int (1 : Int32))]) (rest := [(.long p4), (.int (3 : Int32)), (.ref (n0 + 20))]) rfl rfl rfl rfl (leb rfl) (leb rfl) (leb rfl) (leb rfl) (st' := [(.long f1), (.long p4), (.int (3 : Int32)), (.ref (n0 + 20))]) rfl (k' := 1) rfl (n' := 4) rfl ?_
  refine H.ladd s15_57 rfl ?_
  refine H.lastore s15_58 (i := 20) (j := 3) rfl (by decide) (ltb rfl)  rfl ?_
  refine H.iinc s15_59 rfl (w := (2 : Int32)) (by decide) (ls' := #[.val (.ref (n0 + 19)), .val (.ref (n0 + 20)), .val (.int (2 : Int32))]) rfl ?_
  refine H.goto s15_62 ?_
  refine H.iloadN s15_13 rfl ?_
  refine H.aloadN s15_14 rfl rfl ?_
  refine H.getfield s15_15 (k_103 hw) (i := 19) rfl rfl ?_
  refine H.callVD s15_18 (k_104 hw) (g_0 l hw n0 ν (-3 : Int64) (-1 : Int64) f0 f1 f2 f3 t _) (i := 0) rfl (argsL := []) (rest := [(.int (2 : Int32))]) rfl rfl rfl rfl (leb rfl) (leb rfl) (leb rfl) (leb rfl) (st' := [(.int (4 : Int32)), (.int (2 : Int32))]) rfl (k' := 1) rfl (n' := 4) rfl ?_
  refine H.icmpF s15_21 (show (2 : Int32) < (4 : Int32) by decide) ?_
  refine H.aloadN s15_24 rfl rfl ?_
  refine H.getfield s15_25 (k_103 hw) (i := 19) rfl rfl ?_
  refine H.iloadN s15_28 rfl ?_
  refine H.callVD s15_29 (k_105 hw) (g_5 l hw n0 ν (-3 : Int64) (-1 : Int64) f0 f1 f2 f3 t _) (i := 0) rfl (argsL := [(.int (2 : Int32))]) (rest := []) rfl rfl rfl rfl (leb rfl) (leb rfl) (leb rfl) (leb rfl) (st' := [(.int (1 : Int32))]) rfl (k' := 1) rfl (n' := 4) rfl ?_
  refine H.iconst s15_32 (v := (1 : Int32)) (by decide) ?_
  refine H.icmpF s15_33 (show (1 : Int32) = (1 : Int32) by decide) ?_
  refine H.aloadN s15_36 rfl rfl ?_
  refine H.aloadN s15_37 rfl rfl ?_
  refine H.getfield s15_38 (k_103 hw) (i := 19) rfl rfl ?_
  refine H.iloadN s15_41 rfl ?_
  refine H.callVD s15_42 (k_106 hw) (g_6 l hw n0 ν (-3 : Int64) (-1 : Int64) f0 f1 f2 f3 t _) (i := 0) rfl (argsL := [(.int (2 : Int32))]) (rest := [(.ref (n0 + 20))]) rfl rfl rfl rfl (leb rfl) (leb rfl) (leb rfl) (leb rfl) (st' := [(.long (-1 : Int64)), (.ref (n0 + 20))]) rfl (k' := 1) rfl (n' := 4) rfl ?_
  refine H.lneg s15_45 (w := (1 : Int64)) (by decide) ?_
  refine H.l2i s15_46 (w := (1 : Int32)) (by decide) ?_
  refine H.dup2 s15_47 rfl rfl ?_
  refine H.laload s15_48 (i := 20) (j := 1) rfl (by decide) (v := (.long p2)) rfl ?_
  refine H.aloadN s15_49 rfl rfl ?_
  refine H.getfield s15_50 (k_103 hw) (i := 19) rfl rfl ?_
  refine H.iloadN s15_53 rfl ?_
  refine H.callVD s15_54 (k_107 hw) (g_7 l hw n0 ν (-3 : Int64) (-1 : Int64) f0 f1 f2 f3 t _) (i := 0) rfl (argsL := [(.int (2 : Int32))]) (rest := [(.long p2), (.int (1 : Int32)), (.ref (n0 + 20))]) rfl rfl rfl rfl (leb rfl) (leb rfl) (leb rfl) (leb rfl) (st' := [(.long f2), (.long p2), (.int (1 : Int32)), (.ref (n0 + 20))]) rfl (k' := 1) rfl (n' := 4) rfl ?_
  refine H.ladd s15_57 rfl ?_
  refine H.lastore s15_58 (i := 20) (j := 1) rfl (by decide) (ltb rfl)  rfl ?_
  refine H.iinc s15_59 rfl (w := (3 : Int32)) (by decide) (ls' := #[.val (.ref (n0 + 19)), .val (.ref (n0 + 20)), .val (.int (3 : Int32))]) rfl ?_
  refine H.goto s15_62 ?_
  refine H.iloadN s15_13 rfl ?_
  refine H.aloadN s15_14 rfl rfl ?_
  refine H.getfield s15_15 (k_103 hw) (i := 19) rfl rfl ?_
  refine H.callVD s15_18 (k_104 hw) (g_0 l hw n0 ν (-3 : Int64) (-1 : Int64) f0 f1 f2 f3 t _) (i := 0) rfl (argsL := []) (rest := [(.int (3 : Int32))]) rfl rfl rfl rfl (leb rfl) (leb rfl) (leb rfl) (leb rfl) (st' := [(.int (4 : Int32)), (.int (3 : Int32))]) rfl (k' := 1) rfl (n' := 4) rfl ?_
  refine H.icmpF s15_21 (show (3 : Int32) < (4 : Int32) by decide) ?_
  refine H.aloadN s15_24 rfl rfl ?_
  refine H.getfield s15_25 (k_103 hw) (i := 19) rfl rfl ?_
  refine H.iloadN s15_28 rfl ?_
  refine H.callVD s15_29 (k_105 hw) (g_8 l hw n0 ν (-3 : Int64) (-1 : Int64) f0 f1 f2 f3 t _) (i := 0) rfl (argsL := [(.int (3 : Int32))]) (rest := []) rfl rfl rfl rfl (leb rfl) (leb rfl) (leb rfl) (leb rfl) (st' := [(.int (0 : Int32))]) rfl (k' := 1) rfl (n' := 4) rfl ?_
  refine H.iconst s15_32 (v := (1 : Int32)) (by decide) ?_
  refine H.icmpT s15_33 (show ¬ (0 : Int32) = (1 : Int32) by decide) ?_
  refine H.iinc s15_59 rfl (w := (4 : Int32)) (by decide) (ls' := #[.val (.ref (n0 + 19)), .val (.ref (n0 + 20)), .val (.int (4 : Int32))]) rfl ?_
  refine H.goto s15_62 ?_
  refine H.iloadN s15_13 rfl ?_
  refine H.aloadN s15_14 rfl rfl ?_
  refine H.getfield s15_15 (k_103 hw) (i := 19) rfl rfl ?_
  refine H.callVD s15_18 (k_104 hw) (g_0 l hw n0 ν (-3 : Int64) (-1 : Int64) f0 f1 f2 f3 t _) (i := 0) rfl (argsL := []) (rest := [(.int (4 : Int32))]) rfl rfl rfl rfl (leb rfl) (leb rfl) (leb rfl) (leb rfl) (st' := [(.int (4 : Int32)), (.int (4 : Int32))]) rfl (k' := 1) rfl (n' := 4) rfl ?_
  refine H.icmpT s15_21 (show ¬ (4 : Int32) < (4 : Int32) by decide) ?_
  refine H.aloadN s15_65 rfl rfl ?_
  exact H.areturn s15_66 rfl rfl rfl rfl ⟨rfl, rfl⟩ (by decide) (by decide)


theorem a_8 (l : Launch) {Z : State} {a0 : Array Value} (hw : HW1 Z a0) (n0 : Nat) (p1 : Int64) (p2 : Int64) (p3 : Int64) (p4 : Int64) (f0 : Int64) (f1 : Int64) (f2 : Int64) (f3 : Int64) (t : Ob × Ob × Ob × Ob × Ob × Ob × Ob × Ob × Ob × Ob × Ob × Ob) (ν : OwnL.Va) : Met l Z KT n0 y15 b15 3 (some (.array .long)) ({ frames := 1, cells := 1, slots := 4, locals := 17 } : Room) #[(.ref (n0 + 19))] (own_bb n0 ν (-3 : Int64) (-2 : Int64) f0 f1 f2 f3 t [.inr (.long, [(.long p1), (.long p2), (.long p3), (.long p4)]), .inl (2, [(.ref (n0 + 0)), (.ref (n0 + 18))])]) (Is (some (.ref (n0 + 20))) (own_bb n0 ν (-3 : Int64) (-2 : Int64) f0 f1 f2 f3 t [.inr (.long, [(.long p1), (.long p2), (.long p3), (.long p4)]), .inl (2, [(.ref (n0 + 0)), (.ref (n0 + 18))]), .inr (.long, [(.long p1), (.long p2), (.long (p3 + f2)), (.long (p4 + f1))])])) := by
  refine Met.of (a0 := a0) (ls := #[.val (.ref (n0 + 19)), .unset, .unset]) (kok hw) (plainFor_of_name pn_99) (fun m => by first | (simp [entryFrame, mkF, argsToLocals, Value.category]; done) | rfl) (fun G H => ?_)
  refine H.aloadN s15_0 rfl rfl ?_
  refine H.getfield s15_1 (k_101 hw) (i := 19) rfl rfl ?_
  refine H.clone s15_4 (k_102 hw) (i := 18) (ii := 20) (cap := 4) rfl (by decide) (leb rfl) (leb rfl) rfl (leb rfl) (leb rfl) (by first | rfl | simp) (leb rfl) (leb rfl) rfl (A' := (own_bb n0 ν (-3 : Int64) (-2 : Int64) f0 f1 f2 f3 t [.inr (.long, [(.long p1), (.long p2), (.long p3), (.long p4)]), .inl (2, [(.ref (n0 + 0)), (.ref (n0 + 18))]), .inr (.long, [(.long p1), (.long p2), (.long p3), (.long p4)])])) rfl (k' := 1) rfl (n' := 4) rfl ?_
  refine H.castA s15_7 (hw _ (List.mem_of_getElem? (i := 147) rfl)) (i := 20) rfl (by decide) ?_
  refine H.astoreN s15_10 rfl (ls' := #[.val (.ref (n0 + 19)), .val (.ref (n0 + 20)), .unset]) rfl ?_
  refine H.iconst s15_11 (v := (0 : Int32)) (by decide) ?_
  refine H.istoreN s15_12 (ls' := #[.val (.ref (n0 + 19)), .val (.ref (n0 + 20)), .val (.int (0 : Int32))]) rfl ?_
  refine H.iloadN s15_13 rfl ?_
  refine H.aloadN s15_14 rfl rfl ?_
  refine H.getfield s15_15 (k_103 hw) (i := 19) rfl rfl ?_
  refine H.callVD s15_18 (k_104 hw) (g_0 l hw n0 ν (-3 : Int64) (-2 : Int64) f0 f1 f2 f3 t _) (i := 0) rfl (argsL := []) (rest := [(.int (0 : Int32))]) rfl rfl rfl rfl (leb rfl) (leb rfl) (leb rfl) (leb rfl) (st' := [(.int (4 : Int32)), (.int (0 : Int32))]) rfl (k' := 1) rfl (n' := 4) rfl ?_
  refine H.icmpF s15_21 (show (0 : Int32) < (4 : Int32) by decide) ?_
  refine H.aloadN s15_24 rfl rfl ?_
  refine H.getfield s15_25 (k_103 hw) (i := 19) rfl rfl ?_
  refine H.iloadN s15_28 rfl ?_
  refine H.callVD s15_29 (k_105 hw) (g_1 l hw n0 ν (-3 : Int64) (-2 : Int64) f0 f1 f2 f3 t _) (i := 0) rfl (argsL := [(.int (0 : Int32))]) (rest := []) rfl rfl rfl rfl (leb rfl) (leb rfl) (leb rfl) (leb rfl) (st' := [(.int (2 : Int32))]) rfl (k' := 1) rfl (n' := 4) rfl ?_
  refine H.iconst s15_32 (v := (1 : Int32)) (by decide) ?_
  refine H.icmpT s15_33 (show ¬ (2 : Int32) = (1 : Int32) by decide) ?_
  refine H.iinc s15_59 rfl (w := (1 : Int32)) (by decide) (ls' := #[.val (.ref (n0 + 19)), .val (.ref (n0 + 20)), .val (.int (1 : Int32))]) rfl ?_
  refine H.goto s15_62 ?_
  refine H.iloadN s15_13 rfl ?_
  refine H.aloadN s15_14 rfl rfl ?_
  refine H.getfield s15_15 (k_103 hw) (i := 19) rfl rfl ?_
  refine H.callVD s15_18 (k_104 hw) (g_0 l hw n0 ν (-3 : Int64) (-2 : Int64) f0 f1 f2 f3 t _) (i := 0) rfl (argsL := []) (rest := [(.int (1 : Int32))]) rfl rfl rfl rfl (leb rfl) (leb rfl) (leb rfl) (leb rfl) (st' := [(.int (4 : Int32)), (.int (1 : Int32))]) rfl (k' := 1) rfl (n' := 4) rfl ?_
  refine H.icmpF s15_21 (show (1 : Int32) < (4 : Int32) by decide) ?_
  refine H.aloadN s15_24 rfl rfl ?_
  refine H.getfield s15_25 (k_103 hw) (i := 19) rfl rfl ?_
  refine H.iloadN s15_28 rfl ?_
  refine H.callVD s15_29 (k_105 hw) (g_2 l hw n0 ν (-3 : Int64) (-2 : Int64) f0 f1 f2 f3 t _) (i := 0) rfl (argsL := [(.int (1 : Int32))]) (rest := []) rfl rfl rfl rfl (leb rfl) (leb rfl) (leb rfl) (leb rfl) (st' := [(.int (1 : Int32))]) rfl (k' := 1) rfl (n' := 4) rfl ?_
  refine H.iconst s15_32 (v := (1 : Int32)) (by decide) ?_
  refine H.icmpF s15_33 (show (1 : Int32) = (1 : Int32) by decide) ?_
  refine H.aloadN s15_36 rfl rfl ?_
  refine H.aloadN s15_37 rfl rfl ?_
  refine H.getfield s15_38 (k_103 hw) (i := 19) rfl rfl ?_
  refine H.iloadN s15_41 rfl ?_
  refine H.callVD s15_42 (k_106 hw) (g_3 l hw n0 ν (-3 : Int64) (-2 : Int64) f0 f1 f2 f3 t _) (i := 0) rfl (argsL := [(.int (1 : Int32))]) (rest := [(.ref (n0 + 20))]) rfl rfl rfl rfl (leb rfl) (leb rfl) (leb rfl) (leb rfl) (st' := [(.long (-3 : Int64)), (.ref (n0 + 20))]) rfl (k' := 1) rfl (n' := 4) rfl ?_
  refine H.lneg s15_45 (w := (3 : Int64)) (by decide) ?_
  refine H.l2i s15_46 (w := (3 : Int32)) (by decide) ?_
  refine H.dup2 s15_47 rfl rfl ?_
  refine H.laload s15_48 (i := 20) (j := 3) rfl (by decide) (v := (.long p4)) rfl ?_
  refine H.aloadN s15_49 rfl rfl ?_
  refine H.getfield s15_50 (k_103 hw) (i := 19) rfl rfl ?_
  refine H.iloadN s15_53 rfl ?_
  refine H.callVD s15_54 (k_107 hw) (g_4 l hw n0 ν (-3 : Int64) (-2 : Int64) f0 f1 f2 f3 t _) (i := 0) rfl (argsL := [(.int (1 : Int32))]) (rest := [(.long p4), (.int (3 : Int32)), (.ref (n0 + 20))]) rfl rfl rfl rfl (leb rfl) (leb rfl) (leb rfl) (leb rfl) (st' := [(.long f1), (.long p4), (.int (3 : Int32)), (.ref (n0 + 20))]) rfl (k' := 1) rfl (n' := 4) rfl ?_
  refine H.ladd s15_57 rfl ?_
  refine H.lastore s15_58 (i := 20) (j := 3) rfl (by decide) (ltb rfl)  rfl ?_
  refine H.iinc s15_59 rfl (w := (2 : Int32)) (by decide) (ls' := #[.val (.ref (n0 + 19)), .val (.ref (n0 + 20)), .val (.int (2 : Int32))]) rfl ?_
  refine H.goto s15_62 ?_
  refine H.iloadN s15_13 rfl ?_
  refine H.aloadN s15_14 rfl rfl ?_
  refine H.getfield s15_15 (k_103 hw) (i := 19) rfl rfl ?_
  refine H.callVD s15_18 (k_104 hw) (g_0 l hw n0 ν (-3 : Int64) (-2 : Int64) f0 f1 f2 f3 t _) (i := 0) rfl (argsL := []) (rest := [(.int (2 : Int32))]) rfl rfl rfl rfl (leb rfl) (leb rfl) (leb rfl) (leb rfl) (st' := [(.int (4 : Int32)), (.int (2 : Int32))]) rfl (k' := 1) rfl (n' := 4) rfl ?_
  refine H.icmpF s15_21 (show (2 : Int32) < (4 : Int32) by decide) ?_
  refine H.aloadN s15_24 rfl rfl ?_
  refine H.getfield s15_25 (k_103 hw) (i := 19) rfl rfl ?_
  refine H.iloadN s15_28 rfl ?_
  refine H.callVD s15_29 (k_105 hw) (g_5 l hw n0 ν (-3 : Int64) (-2 : Int64) f0 f1 f2 f3 t _) (i := 0) rfl (argsL := [(.int (2 : Int32))]) (rest := []) rfl rfl rfl rfl (leb rfl) (leb rfl) (leb rfl) (leb rfl) (st' := [(.int (1 : Int32))]) rfl (k' := 1) rfl (n' := 4) rfl ?_
  refine H.iconst s15_32 (v := (1 : Int32)) (by decide) ?_
  refine H.icmpF s15_33 (show (1 : Int32) = (1 : Int32) by decide) ?_
  refine H.aloadN s15_36 rfl rfl ?_
  refine H.aloadN s15_37 rfl rfl ?_
  refine H.getfield s15_38 (k_103 hw) (i := 19) rfl rfl ?_
  refine H.iloadN s15_41 rfl ?_
  refine H.callVD s15_42 (k_106 hw) (g_6 l hw n0 ν (-3 : Int64) (-2 : Int64) f0 f1 f2 f3 t _) (i := 0) rfl (argsL := [(.int (2 : Int32))]) (rest := [(.ref (n0 + 20))]) rfl rfl rfl rfl (leb rfl) (leb rfl) (leb rfl) (leb rfl) (st' := [(.long (-2 : Int64)), (.ref (n0 + 20))]) rfl (k' := 1) rfl (n' := 4) rfl ?_
  refine H.lneg s15_45 (w := (2 : Int64)) (by decide) ?_
  refine H.l2i s15_46 (w := (2 : Int32)) (by decide) ?_
  refine H.dup2 s15_47 rfl rfl ?_
  refine H.laload s15_48 (i := 20) (j := 2) rfl (by decide) (v := (.long p3)) rfl ?_
  refine H.aloadN s15_49 rfl rfl ?_
  refine H.getfield s15_50 (k_103 hw) (i := 19) rfl rfl ?_
  refine H.iloadN s15_53 rfl ?_
  refine H.callVD s15_54 (k_107 hw) (g_7 l hw n0 ν (-3 : Int64) (-2 : Int64) f0 f1 f2 f3 t _) (i := 0) rfl (argsL := [(.int (2 : Int32))]) (rest := [(.long p3), (.int (2 : Int32)), (.ref (n0 + 20))]) rfl rfl rfl rfl (leb rfl) (leb rfl) (leb rfl) (leb rfl) (st' := [(.long f2), (.long p3), (.int (2 : Int32)), (.ref (n0 + 20))]) rfl (k' := 1) rfl (n' := 4) rfl ?_
  refine H.ladd s15_57 rfl ?_
  refine H.lastore s15_58 (i := 20) (j := 2) rfl (by decide) (ltb rfl)  rfl ?_
  refine H.iinc s15_59 rfl (w := (3 : Int32)) (by decide) (ls' := #[.val (.ref (n0 + 19)), .val (.ref (n0 + 20)), .val (.int (3 : Int32))]) rfl ?_
  refine H.goto s15_62 ?_
  refine H.iloadN s15_13 rfl ?_
  refine H.aloadN s15_14 rfl rfl ?_
  refine H.getfield s15_15 (k_103 hw) (i := 19) rfl rfl ?_
  refine H.callVD s15_18 (k_104 hw) (g_0 l hw n0 ν (-3 : Int64) (-2 : Int64) f0 f1 f2 f3 t _) (i := 0) rfl (argsL := []) (rest := [(.int (3 : Int32))]) rfl rfl rfl rfl (leb rfl) (leb rfl) (leb rfl) (leb rfl) (st' := [(.int (4 : Int32)), (.int (3 : Int32))]) rfl (k' := 1) rfl (n' := 4) rfl ?_
  refine H.icmpF s15_21 (show (3 : Int32) < (4 : Int32) by decide) ?_
  refine H.aloadN s15_24 rfl rfl ?_
  refine H.getfield s15_25 (k_103 hw) (i := 19) rfl rfl ?_
  refine H.iloadN s15_28 rfl ?_
  refine H.callVD s15_29 (k_105 hw) (g_8 l hw n0 ν (-3 : Int64) (-2 : Int64) f0 f1 f2 f3 t _) (i := 0) rfl (argsL := [(.int (3 : Int32))]) (rest := []) rfl rfl rfl rfl (leb rfl) (leb rfl) (leb rfl) (leb rfl) (st' := [(.int (0 : Int32))]) rfl (k' := 1) rfl (n' := 4) rfl ?_
  refine H.iconst s15_32 (v := (1 : Int32)) (by decide) ?_
  refine H.icmpT s15_33 (show ¬ (0 : Int32) = (1 : Int32) by decide) ?_
  refine H.iinc s15_59 rfl (w := (4 : Int32)) (by decide) (ls' := #[.val (.ref (n0 + 19)), .val (.ref (n0 + 20)), .val (.int (4 : Int32))]) rfl ?_
  refine H.goto s15_62 ?_
  refine H.iloadN s15_13 rfl ?_
  refine H.aloadN s15_14 rfl rfl ?_
  refine H.getfield s15_15 (k_103 hw) (i := 19) rfl rfl ?_
  refine H.callVD s15_18 (k_104 hw) (g_0 l hw n0 ν (-3 : Int64) (-2 : Int64) f0 f1 f2 f3 t _) (i := 0) rfl (argsL := []) (rest := [(.int (4 : Int32))]) rfl rfl rfl rfl (leb rfl) (leb rfl) (leb rfl) (leb rfl) (st' := [(.int (4 : Int32)), (.int (4 : Int32))]) rfl (k' := 1) rfl (n' := 4) rfl ?_
  refine H.icmpT s15_21 (show ¬ (4 : Int32) < (4 : Int32) by decide) ?_
  refine H.aloadN s15_65 rfl rfl ?_
  exact H.areturn s15_66 rfl rfl rfl rfl ⟨rfl, rfl⟩ (by decide) (by decide)


theorem a_9 (l : Launch) {Z : State} {a0 : Array Value} (hw : HW1 Z a0) (n0 : Nat) (p1 : Int64) (p2 : Int64) (p3 : Int64) (p4 : Int64) (f0 : Int64) (f1 : Int64) (f2 : Int64) (f3 : Int64) (t : Ob × Ob × Ob × Ob × Ob × Ob × Ob × Ob × Ob × Ob × Ob × Ob) (ν : OwnL.Va) : Met l Z KT n0 y15 b15 3 (some (.array .long)) ({ frames := 1, cells := 1, slots := 4, locals := 17 } : Room) #[(.ref (n0 + 19))] (own_bb n0 ν (-3 : Int64) (-3 : Int64) f0 f1 f2 f3 t [.inr (.long, [(.long p1), (.long p2), (.long p3), (.long p4)]), .inl (2, [(.ref (n0 + 0)), (.ref (n0 + 18))])]) (Is (some (.ref (n0 + 20))) (own_bb n0 ν (-3 : Int64) (-3 : Int64) f0 f1 f2 f3 t [.inr (.long, [(.long p1), (.long p2), (.long p3), (.long p4)]), .inl (2, [(.ref (n0 + 0)), (.ref (n0 + 18))]), .inr (.long, [(.long p1), (.long p2), (.long p3), (.long ((p4 + f1) + f2))])])) := by
  refine Met.of (a0 := a0) (ls := #[.val (.ref (n0 + 19)), .unset, .unset]) (kok hw) (plainFor_of_name pn_99) (fun m => by first | (simp [entryFrame, mkF, argsToLocals, Value.category]; done) | rfl) (fun G H => ?_)
  refine H.aloadN s15_0 rfl rfl ?_
  refine H.getfield s15_1 (k_101 hw) (i := 19) rfl rfl ?_
  refine H.clone s15_4 (k_102 hw) (i := 18) (ii := 20) (cap := 4) rfl (by decide) (leb rfl) (leb rfl) rfl (leb rfl) (leb rfl) (by first | rfl | simp) (leb rfl) (leb rfl) rfl (A' := (own_bb n0 ν (-3 : Int64) (-3 : Int64) f0 f1 f2 f3 t [.inr (.long, [(.long p1), (.long p2), (.long p3), (.long p4)]), .inl (2, [(.ref (n0 + 0)), (.ref (n0 + 18))]), .inr (.long, [(.long p1), (.long p2), (.long p3), (.long p4)])])) rfl (k' := 1) rfl (n' := 4) rfl ?_
  refine H.castA s15_7 (hw _ (List.mem_of_getElem? (i := 147) rfl)) (i := 20) rfl (by decide) ?_
  refine H.astoreN s15_10 rfl (ls' := #[.val (.ref (n0 + 19)), .val (.ref (n0 + 20)), .unset]) rfl ?_
  refine H.iconst s15_11 (v := (0 : Int32)) (by decide) ?_
  refine H.istoreN s15_12 (ls' := #[.val (.ref (n0 + 19)), .val (.ref (n0 + 20)), .val (.int (0 : Int32))]) rfl ?_
  refine H.iloadN s15_13 rfl ?_
  refine H.aloadN s15_14 rfl rfl ?_
  refine H.getfield s15_15 (k_103 hw) (i := 19) rfl rfl ?_
  refine H.callVD s15_18 (k_104 hw) (g_0 l hw n0 ν (-3 : Int64) (-3 : Int64) f0 f1 f2 f3 t _) (i := 0) rfl (argsL := []) (rest := [(.int (0 : Int32))]) rfl rfl rfl rfl (leb rfl) (leb rfl) (leb rfl) (leb rfl) (st' := [(.int (4 : Int32)), (.int (0 : Int32))]) rfl (k' := 1) rfl (n' := 4) rfl ?_
  refine H.icmpF s15_21 (show (0 : Int32) < (4 : Int32) by decide) ?_
  refine H.aloadN s15_24 rfl rfl ?_
  refine H.getfield s15_25 (k_103 hw) (i := 19) rfl rfl ?_
  refine H.iloadN s15_28 rfl ?_
  refine H.callVD s15_29 (k_105 hw) (g_1 l hw n0 ν (-3 : Int64) (-3 : Int64) f0 f1 f2 f3 t _) (i := 0) rfl (argsL := [(.int (0 : Int32))]) (rest := []) rfl rfl rfl rfl (leb rfl) (leb rfl) (leb rfl) (leb rfl) (st' := [(.int (2 : Int32))]) rfl (k' := 1) rfl (n' := 4) rfl ?_
  refine H.iconst s15_32 (v := (1 : Int32)) (by decide) ?_
  refine H.icmpT s15_33 (show ¬ (2 : Int32) = (1 : Int32) by decide) ?_
  refine H.iinc s15_59 rfl (w := (1 : Int32)) (by decide) (ls' := #[.val (.ref (n0 + 19)), .val (.ref (n0 + 20)), .val (.int (1 : Int32))]) rfl ?_
  refine H.goto s15_62 ?_
  refine H.iloadN s15_13 rfl ?_
  refine H.aloadN s15_14 rfl rfl ?_
  refine H.getfield s15_15 (k_103 hw) (i := 19) rfl rfl ?_
  refine H.callVD s15_18 (k_104 hw) (g_0 l hw n0 ν (-3 : Int64) (-3 : Int64) f0 f1 f2 f3 t _) (i := 0) rfl (argsL := []) (rest := [(.int (1 : Int32))]) rfl rfl rfl rfl (leb rfl) (leb rfl) (leb rfl) (leb rfl) (st' := [(.int (4 : Int32)), (.int (1 : Int32))]) rfl (k' := 1) rfl (n' := 4) rfl ?_
  refine H.icmpF s15_21 (show (1 : Int32) < (4 : Int32) by decide) ?_
  refine H.aloadN s15_24 rfl rfl ?_
  refine H.getfield s15_25 (k_103 hw) (i := 19) rfl rfl ?_
  refine H.iloadN s15_28 rfl ?_
  refine H.callVD s15_29 (k_105 hw) (g_2 l hw n0 ν (-3 : Int64) (-3 : Int64) f0 f1 f2 f3 t _) (i := 0) rfl (argsL := [(.int (1 : Int32))]) (rest := []) rfl rfl rfl rfl (leb rfl) (leb rfl) (leb rfl) (leb rfl) (st' := [(.int (1 : Int32))]) rfl (k' := 1) rfl (n' := 4) rfl ?_
  refine H.iconst s15_32 (v := (1 : Int32)) (by decide) ?_
  refine H.icmpF s15_33 (show (1 : Int32) = (1 : Int32) by decide) ?_
  refine H.aloadN s15_36 rfl rfl ?_
  refine H.aloadN s15_37 rfl rfl ?_
  refine H.getfield s15_38 (k_103 hw) (i := 19) rfl rfl ?_
  refine H.iloadN s15_41 rfl ?_
  refine H.callVD s15_42 (k_106 hw) (g_3 l hw n0 ν (-3 : Int64) (-3 : Int64) f0 f1 f2 f3 t _) (i := 0) rfl (argsL := [(.int (1 : Int32))]) (rest := [(.ref (n0 + 20))]) rfl rfl rfl rfl (leb rfl) (leb rfl) (leb rfl) (leb rfl) (st' := [(.long (-3 : Int64)), (.ref (n0 + 20))]) rfl (k' := 1) rfl (n' := 4) rfl ?_
  refine H.lneg s15_45 (w := (3 : Int64)) (by decide) ?_
  refine H.l2i s15_46 (w := (3 : Int32)) (by decide) ?_
  refine H.dup2 s15_47 rfl rfl ?_
  refine H.laload s15_48 (i := 20) (j := 3) rfl (by decide) (v := (.long p4)) rfl ?_
  refine H.aloadN s15_49 rfl rfl ?_
  refine H.getfield s15_50 (k_103 hw) (i := 19) rfl rfl ?_
  refine H.iloadN s15_53 rfl ?_
  refine H.callVD s15_54 (k_107 hw) (g_4 l hw n0 ν (-3 : Int64) (-3 : Int64) f0 f1 f2 f3 t _) (i := 0) rfl (argsL := [(.int (1 : Int32))]) (rest := [(.long p4), (.int (3 : Int32)), (.ref (n0 + 20))]) rfl rfl rfl rfl (leb rfl) (leb rfl) (leb rfl) (leb rfl) (st' := [(.long f1), (.long p4), (.int (3 : Int32)), (.ref (n0 + 20))]) rfl (k' := 1) rfl (n' := 4) rfl ?_
  refine H.ladd s15_57 rfl ?_
  refine H.lastore s15_58 (i := 20) (j := 3) rfl (by decide) (ltb rfl)  rfl ?_
  refine H.iinc s15_59 rfl (w := (2 : Int32)) (by decide) (ls' := #[.val (.ref (n0 + 19)), .val (.ref (n0 + 20)), .val (.int (2 : Int32))]) rfl ?_
  refine H.goto s15_62 ?_
  refine H.iloadN s15_13 rfl ?_
  refine H.aloadN s15_14 rfl rfl ?_
  refine H.getfield s15_15 (k_103 hw) (i := 19) rfl rfl ?_
  refine H.callVD s15_18 (k_104 hw) (g_0 l hw n0 ν (-3 : Int64) (-3 : Int64) f0 f1 f2 f3 t _) (i := 0) rfl (argsL := []) (rest := [(.int (2 : Int32))]) rfl rfl rfl rfl (leb rfl) (leb rfl) (leb rfl) (leb rfl) (st' := [(.int (4 : Int32)), (.int (2 : Int32))]) rfl (k' := 1) rfl (n' := 4) rfl ?_
  refine H.icmpF s15_21 (show (2 : Int32) < (4 : Int32) by decide) ?_
  refine H.aloadN s15_24 rfl rfl ?_
  refine H.getfield s15_25 (k_103 hw) (i := 19) rfl rfl ?_
  refine H.iloadN s15_28 rfl ?_
  refine H.callVD s15_29 (k_105 hw) (g_5 l hw n0 ν (-3 : Int64) (-3 : Int64) f0 f1 f2 f3 t _) (i := 0) rfl (argsL := [(.int (2 : Int32))]) (rest := []) rfl rfl rfl rfl (leb rfl) (leb rfl) (leb rfl) (leb rfl) (st' := [(.int (1 : Int32))]) rfl (k' := 1) rfl (n' := 4) rfl ?_
  refine H.iconst s15_32 (v := (1 : Int32)) (by decide) ?_
  refine H.icmpF s15_33 (show (1 : Int32) = (1 : Int32) by decide) ?_
  refine H.aloadN s15_36 rfl rfl ?_
  refine H.aloadN s15_37 rfl rfl ?_
  refine H.getfield s15_38 (k_103 hw) (i := 19) rfl rfl ?_
  refine H.iloadN s15_41 rfl ?_
  refine H.callVD s15_42 (k_106 hw) (g_6 l hw n0 ν (-3 : Int64) (-3 : Int64) f0 f1 f2 f3 t _) (i := 0) rfl (argsL := [(.int (2 : Int32))]) (rest := [(.ref (n0 + 20))]) rfl rfl rfl rfl (leb rfl) (leb rfl) (leb rfl) (leb rfl) (st' := [(.long (-3 : Int64)), (.ref (n0 + 20))]) rfl (k' := 1) rfl (n' := 4) rfl ?_
  refine H.lneg s15_45 (w := (3 : Int64)) (by decide) ?_
  refine H.l2i s15_46 (w := (3 : Int32)) (by decide) ?_
  refine H.dup2 s15_47 rfl rfl ?_
  refine H.laload s15_48 (i := 20) (j := 3) rfl (by decide) (v := (.long (p4 + f1))) rfl ?_
  refine H.aloadN s15_49 rfl rfl ?_
  refine H.getfield s15_50 (k_103 hw) (i := 19) rfl rfl ?_
  refine H.iloadN s15_53 rfl ?_
  refine H.callVD s15_54 (k_107 hw) (g_7 l hw n0 ν (-3 : Int64) (-3 : Int64) f0 f1 f2 f3 t _) (i := 0) rfl (argsL := [(.int (2 : Int32))]) (rest := [(.long (p4 + f1)), (.int (3 : Int32)), (.ref (n0 + 20))]) rfl rfl rfl rfl (leb rfl) (leb rfl) (leb rfl) (leb rfl) (st' := [(.long f2), (.long (p4 + f1)), (.int (3 : Int32)), (.ref (n0 + 20))]) rfl (k' := 1) rfl (n' := 4) rfl ?_
  refine H.ladd s15_57 rfl ?_
  refine H.lastore s15_58 (i := 20) (j := 3) rfl (by decide) (ltb rfl)  rfl ?_
  refine H.iinc s15_59 rfl (w := (3 : Int32)) (by decide) (ls' := #[.val (.ref (n0 + 19)), .val (.ref (n0 + 20)), .val (.int (3 : Int32))]) rfl ?_
  refine H.goto s15_62 ?_
  refine H.iloadN s15_13 rfl ?_
  refine H.aloadN s15_14 rfl rfl ?_
  refine H.getfield s15_15 (k_103 hw) (i := 19) rfl rfl ?_
  refine H.callVD s15_18 (k_104 hw) (g_0 l hw n0 ν (-3 : Int64) (-3 : Int64) f0 f1 f2 f3 t _) (i := 0) rfl (argsL := []) (rest := [(.int (3 : Int32))]) rfl rfl rfl rfl (leb rfl) (leb rfl) (leb rfl) (leb rfl) (st' := [(.int (4 : Int32)), (.int (3 : Int32))]) rfl (k' := 1) rfl (n' := 4) rfl ?_
  refine H.icmpF s15_21 (show (3 : Int32) < (4 : Int32) by decide) ?_
  refine H.aloadN s15_24 rfl rfl ?_
  refine H.getfield s15_25 (k_103 hw) (i := 19) rfl rfl ?_
  refine H.iloadN s15_28 rfl ?_
  refine H.callVD s15_29 (k_105 hw) (g_8 l hw n0 ν (-3 : Int64) (-3 : Int64) f0 f1 f2 f3 t _) (i := 0) rfl (argsL := [(.int (3 : Int32))]) (rest := []) rfl rfl rfl rfl (leb rfl) (leb rfl) (leb rfl) (leb rfl) (st' := [(.int (0 : Int32))]) rfl (k' := 1) rfl (n' := 4) rfl ?_
  refine H.iconst s15_32 (v := (1 : Int32)) (by decide) ?_
  refine H.icmpT s15_33 (show ¬ (0 : Int32) = (1 : Int32) by decide) ?_
  refine H.iinc s15_59 rfl (w := (4 : Int32)) (by decide) (ls' := #[.val (.ref (n0 + 19)), .val (.ref (n0 + 20)), .val (.int (4 : Int32))]) rfl ?_
  refine H.goto s15_62 ?_
  refine H.iloadN s15_13 rfl ?_
  refine H.aloadN s15_14 rfl rfl ?_
  refine H.getfield s15_15 (k_103 hw) (i := 19) rfl rfl ?_
  refine H.callVD s15_18 (k_104 hw) (g_0 l hw n0 ν (-3 : Int64) (-3 : Int64) f0 f1 f2 f3 t _) (i := 0) rfl (argsL := []) (rest := [(.int (4 : Int32))]) rfl rfl rfl rfl (leb rfl) (leb rfl) (leb rfl) (leb rfl) (st' := [(.int (4 : Int32)), (.int (4 : Int32))]) rfl (k' := 1) rfl (n' := 4) rfl ?_
  refine H.icmpT s15_21 (show ¬ (4 : Int32) < (4 : Int32) by decide) ?_
  refine H.aloadN s15_65 rfl rfl ?_
  exact H.areturn s15_66 rfl rfl rfl rfl ⟨rfl, rfl⟩ (by decide) (by decide)

theorem pn_110 : plainName "com/example/primalcap/primalcap/NetworkBoughtAtPinLaw" = true := by first | (simp [plainName, overriddenIn]; done) | decide +kernel

theorem law_met (l : Launch) {Z : State} {a0 : Array Value} (hw : HW1 Z a0) (n0 : Nat) (p0 : Int32) (p1 : Int64) (p2 : Int64) (p3 : Int64) (p4 : Int64) : Met l Z KT n0 x code maxLocals ret room_1 #[(.int p0), (.long p1), (.long p2), (.long p3), (.long p4)] [] (fun v _ => v = some (.int 1)) := by
  refine Met.of (a0 := a0) (ls := #[.val (.int p0), .val (.long p1), .second, .val (.long p2), .second, .val (.long p3), .second, .val (.long p4), .second, .unset, .unset, .unset, .unset, .unset, .unset, .unset, .unset, .unset, .unset, .unset, .unset, .unset, .unset, .unset, .unset, .unset, .unset, .unset, .unset]) (kok hw) (plainFor_of_name pn_110) (fun m => by first | (simp [entryFrame, mkF, argsToLocals, Value.category, maxLocals]; done) | rfl) (fun G H => ?_)
  obtain ⟨ν, hB, ea, eb, ec, ep⟩ := own_nu p0 ((p0.toUInt32 >>> ((3 : Int32) &&& 31).toUInt32).toInt32) ((p0.toUInt32 >>> ((6 : Int32) &&& 31).toUInt32).toInt32) ((p0.toUInt32 >>> ((9 : Int32) &&& 31).toUInt32).toInt32)
  refine H.iloadN s0_0 rfl ?_
  refine H.bipush s0_1 (v := (7 : Int32)) (by decide) ?_
  refine H.iand s0_3 rfl ?_
  refine H.i2l s0_4 (w := (wa ν)) ea ?_
  refine H.lstore s0_5 (ls' := #[.val (.int p0), .val (.long p1), .second, .val (.long p2), .second, .val (.long p3), .second, .val (.long p4), .second, .val (.long (wa ν)), .second, .unset, .unset, .unset, .unset, .unset, .unset, .unset, .unset, .unset, .unset, .unset, .unset, .unset, .unset, .unset, .unset, .unset, .unset]) rfl ?_
  refine H.iloadN s0_7 rfl ?_
  refine H.iconst s0_8 (v := (3 : Int32)) (by decide) ?_
  refine H.iushr s0_9 rfl ?_
  refine H.bipush s0_10 (v := (7 : Int32)) (by decide) ?_
  refine H.iand s0_12 rfl ?_
  refine H.i2l s0_13 (w := (wb ν)) eb ?_
  refine H.lstore s0_14 (ls' := #[.val (.int p0), .val (.long p1), .second, .val (.long p2), .second, .val (.long p3), .second, .val (.long p4), .second, .val (.long (wa ν)), .second, .val (.long (wb ν)), .second, .unset, .unset, .unset, .unset, .unset, .unset, .unset, .unset, .unset, .unset, .unset, .unset, .unset, .unset, .unset, .unset]) rfl ?_
  refine H.iloadN s0_16 rfl ?_
  refine H.bipush s0_17 (v := (6 : Int32)) (by decide) ?_
  refine H.iushr s0_19 rfl ?_
  refine H.bipush s0_20 (v := (7 : Int32)) (by decide) ?_
  refine H.iand s0_22 rfl ?_
  refine H.i2l s0_23 (w := (wc ν)) ec ?_
  refine H.lstore s0_24 (ls' := #[.val (.int p0), .val (.long p1), .second, .val (.long p2), .second, .val (.long p3), .second, .val (.long p4), .second, .val (.long (wa ν)), .second, .val (.long (wb ν)), .second, .val (.long (wc ν)), .second, .unset, .unset, .unset, .unset, .unset, .unset, .unset, .unset, .unset, .unset, .unset, .unset, .unset, .unset]) rfl ?_
  refine H.iloadN s0_26 rfl ?_
  refine H.bipush s0_27 (v := (9 : Int32)) (by decide) ?_
  refine H.iushr s0_29 rfl ?_
  refine H.bipush s0_30 (v := (15 : Int32)) (by decide) ?_
  refine H.iand s0_32 rfl ?_
  refine H.i2l s0_33 (w := (wp ν)) ep ?_
  refine H.lstore s0_34 (ls' := #[.val (.int p0), .val (.long p1), .second, .val (.long p2), .second, .val (.long p3), .second, .val (.long p4), .second, .val (.long (wa ν)), .second, .val (.long (wb ν)), .second, .val (.long (wc ν)), .second, .val (.long (wp ν)), .second, .unset, .unset, .unset, .unset, .unset, .unset, .unset, .unset, .unset, .unset, .unset, .unset]) rfl ?_
  refine H.iloadN s0_36 rfl ?_
  refine H.bipush s0_37 (v := (13 : Int32)) (by decide) ?_
  refine H.iushr s0_39 rfl ?_
  refine H.iconst s0_40 (v := (3 : Int32)) (by decide) ?_
  refine H.iand s0_41 rfl ?_
  refine H.iconst s0_42 (v := (3 : Int32)) (by decide) ?_
  refine H.irem s0_43 (by decide) rfl ?_
  refine H.iconst s0_44 (v := (1 : Int32)) (by decide) ?_
  rcases own_r3 _ with hz45 | hz45 | hz45
  · refine H.iadd s0_45 (w := (1 : Int32)) hz45 ?_
    refine H.istore s0_46 (ls' := #[.val (.int p0), .val (.long p1), .second, .val (.long p2), .second, .val (.long p3), .second, .val (.long p4), .second, .val (.long (wa ν)), .second, .val (.long (wb ν)), .second, .val (.long (wc ν)), .second, .val (.long (wp ν)), .second, .val (.int (1 : Int32)), .unset, .unset, .unset, .unset, .unset, .unset, .unset, .unset, .unset, .unset, .unset]) rfl ?_
    refine H.iloadN s0_48 rfl ?_
    refine H.bipush s0_49 (v := (15 : Int32)) (by decide) ?_
    refine H.iushr s0_51 rfl ?_
    refine H.iconst s0_52 (v := (3 : Int32)) (by decide) ?_
    refine H.iand s0_53 rfl ?_
    refine H.iconst s0_54 (v := (3 : Int32)) (by decide) ?_
    refine H.irem s0_55 (by decide) rfl ?_
    refine H.iconst s0_56 (v := (1 : Int32)) (by decide) ?_
    rcases own_r3 _ with hz57 | hz57 | hz57
    · refine H.iadd s0_57 (w := (1 : Int32)) hz57 ?_
      refine H.istore s0_58 (ls' := #[.val (.int p0), .val (.long p1), .second, .val (.long p2), .second, .val (.long p3), .second, .val (.long p4), .second, .val (.long (wa ν)), .second, .val (.long (wb ν)), .second, .val (.long (wc ν)), .second, .val (.long (wp ν)), .second, .val (.int (1 : Int32)), .val (.int (1 : Int32)), .unset, .unset, .unset, .unset, .unset, .unset, .unset, .unset, .unset, .unset]) rfl ?_
      refine H.new s0_60 (k_82 hw) rfl (by decide) (by decide) (i := 0) rfl (A' := [.inl (0, [.null, .null, .null, .null, .null, (.int (0 : Int32)), (.long (0 : Int64)), (.int (0 : Int32))])]) rfl (k' := 1) rfl (n' := 8) rfl ?_
      refine H.dup s0_63 rfl ?_
      refine H.iconst s0_64 (v := (3 : Int32)) (by decide) ?_
      refine H.callCD s0_65 (k_90 hw) (a_0 l hw n0) (argsL := [(.int (3 : Int32))]) (rest := [(.ref (n0 + 0))]) rfl rfl rfl rfl (leb rfl) (leb rfl) (leb rfl) (leb rfl) (st' := [(.ref (n0 + 0))]) rfl (k' := 6) rfl (n' := 88) rfl ?_
      refine H.astore s0_68 rfl (ls' := #[.val (.int p0), .val (.long p1), .second, .val (.long p2), .second, .val (.long p3), .second, .val (.long p4), .second, .val (.long (wa ν)), .second, .val (.long (wb ν)), .second, .val (.long (wc ν)), .second, .val (.long (wp ν)), .second, .val (.int (1 : Int32)), .val (.int (1 : Int32)), .val (.ref (n0 + 0)), .unset, .unset, .unset, .unset, .unset, .unset, .unset, .unset, .unset]) rfl ?_
      refine H.aload s0_70 rfl rfl ?_
      refine H.iconst s0_72 (v := (0 : Int32)) (by decide) ?_
      refine H.iconst s0_73 (v := (2 : Int32)) (by decide) ?_
      refine H.lload s0_74 rfl ?_
      refine H.lconst s0_76 (v := (0 : Int64)) (by decide) ?_
      refine H.callVD s0_77 (k_91 hw) (c_add0 l hw n0 hB) (i := 0) rfl (argsL := [(.int (0 : Int32)), (.int (2 : Int32)), (.long (wa ν)), (.long (0 : Int64))]) (rest := []) rfl rfl rfl rfl (leb rfl) (leb rfl) (leb rfl) (leb rfl) (st' := [(.int (0 : Int32))]) rfl (k' := 6) rfl (n' := 88) rfl ?_
      refine H.pop s0_80 rfl ?_
      refine H.aload s0_81 rfl rfl ?_
      refine H.iconst s0_83 (v := (2 : Int32)) (by decide) ?_
      refine H.iconst s0_84 (v := (1 : Int32)) (by decide) ?_
      refine H.lload s0_85 rfl ?_
      refine H.iload s0_87 rfl ?_
      refine H.ineg s0_89 (w := (-1 : Int32)) (by decide) ?_
      refine H.i2l s0_90 (w := (-1 : Int64)) (by decide) ?_
      refine H.callVD s0_91 (k_91 hw) (c_add1 l hw n0 hB) (i := 0) rfl (argsL := [(.int (2 : Int32)), (.int (1 : Int32)), (.long (wb ν)), (.long (-1 : Int64))]) (rest := []) rfl rfl rfl rfl (leb rfl) (leb rfl) (leb rfl) (leb rfl) (st' := [(.int (1 : Int32))]) rfl (k' := 6) rfl (n' := 88) rfl ?_
      refine H.pop s0_94 rfl ?_
      refine H.aload s0_95 rfl rfl ?_
      refine H.iconst s0_97 (v := (0 : Int32)) (by decide) ?_
      refine H.iconst s0_98 (v := (1 : Int32)) (by decide) ?_
      refine H.lload s0_99 rfl ?_
      refine H.iload s0_101 rfl ?_
      refine H.ineg s0_103 (w := (-1 : Int32)) (by decide) ?_
      refine H.i2l s0_104 (w := (-1 : Int64)) (by decide) ?_
      refine H.callVD s0_105 (k_91 hw) (c_add2 l hw n0 hB) (i := 0) rfl (argsL := [(.int (0 : Int32)), (.int (1 : Int32)), (.long (wc ν)), (.long (-1 : Int64))]) (rest := []) rfl rfl rfl rfl (leb rfl) (leb rfl) (leb rfl) (leb rfl) (st' := [(.int (2 : Int32))]) rfl (k' := 6) rfl (n' := 88) rfl ?_
      refine H.pop s0_108 rfl ?_
      refine H.aload s0_109 rfl rfl ?_
      refine H.iconst s0_111 (v := (1 : Int32)) (by decide) ?_
      refine H.iconst s0_112 (v := (0 : Int32)) (by decide) ?_
      refine H.lload s0_113 rfl ?_
      refine H.lconst s0_115 (v := (0 : Int64)) (by decide) ?_
      refine H.callVD s0_116 (k_91 hw) (c_add3 l hw n0 hB) (i := 0) rfl (argsL := [(.int (1 : Int32)), (.int (0 : Int32)), (.long (wp ν)), (.long (0 : Int64))]) (rest := []) rfl rfl rfl rfl (leb rfl) (leb rfl) (leb rfl) (leb rfl) (st' := [(.int (3 : Int32))]) rfl (k' := 6) rfl (n' := 88) rfl ?_
      refine H.pop s0_119 rfl ?_
      refine H.aload s0_120 rfl rfl ?_
      refine H.callVW s0_122 (k_92 hw) (c_solve11 l hw n0 hB) (i := 0) rfl (argsL := []) (rest := []) rfl rfl rfl rfl (leb rfl) (leb rfl) (leb rfl) (leb rfl) ?_
      rintro v A' ⟨rfl, f0, f1, f2, f3, TT, hTT, rfl, hs⟩
      obtain ⟨t, rfl⟩ := own_twelve hTT
      show G 125 #[.val (.int p0), .val (.long p1), .second, .val (.long p2), .second, .val (.long p3), .second, .val (.long p4), .second, .val (.long (wa ν)), .second, .val (.long (wb ν)), .second, .val (.long (wc ν)), .second, .val (.long (wp ν)), .second, .val (.int (1 : Int32)), .val (.int (1 : Int32)), .val (.ref (n0 + 0)), .unset, .unset, .unset, .unset, .unset, .unset, .unset, .unset, .unset] [] (own_bb n0 ν (-1 : Int64) (-1 : Int64) f0 f1 f2 f3 t []) 18 158
      obtain ⟨⟨ba1, ba2⟩, ⟨bb1, bb2⟩, ⟨bc1, bc2⟩, ⟨bp1, bp2⟩⟩ := id hB
      obtain ⟨va, vb, vc, vp⟩ := own_w hB
      obtain ⟨bf, bg, hs⟩ := hs
      have hf := fun s => own_eq va vb vc vp ⟨ba1, by omega⟩ ⟨bb1, by omega⟩ ⟨bc1, by omega⟩ ⟨bp1, by omega⟩ bf bg (by simpa using hs) s
      refine H.iconst s0_125 (v := (4 : Int32)) (by decide) ?_
      refine H.newarray s0_126 (ty := .long) rfl (k_26 hw) (N := 4) (cap := 4) (by decide) rfl (by decide) (by decide) rfl (by decide) (by decide) (i := 18) rfl (A' := (own_bb n0 ν (-1 : Int64) (-1 : Int64) f0 f1 f2 f3 t [.inr (.long, [(.long (0 : Int64)), (.long (0 : Int64)), (.long (0 : Int64)), (.long (0 : Int64))])])) rfl (k' := 19) rfl (n' := 162) rfl ?_
      refine H.dup s0_128 rfl ?_
      refine H.iconst s0_129 (v := (0 : Int32)) (by decide) ?_
      refine H.lloadN s0_130 rfl ?_
      refine H.lastore s0_131 (i := 18) (j := 0) rfl (by decide) (ltb rfl)  (A' := (own_bb n0 ν (-1 : Int64) (-1 : Int64) f0 f1 f2 f3 t [.inr (.long, [(.long p1), (.long (0 : Int64)), (.long (0 : Int64)), (.long (0 : Int64))])])) rfl ?_
      refine H.dup s0_132 rfl ?_
      refine H.iconst s0_133 (v := (1 : Int32)) (by decide) ?_
      refine H.lloadN s0_134 rfl ?_
      refine H.lastore s0_135 (i := 18) (j := 1) rfl (by decide) (ltb rfl)  (A' := (own_bb n0 ν (-1 : Int64) (-1 : Int64) f0 f1 f2 f3 t [.inr (.long, [(.long p1), (.long p2), (.long (0 : Int64)), (.long (0 : Int64))])])) rfl ?_
      refine H.dup s0_136 rfl ?_
      refine H.iconst s0_137 (v := (2 : Int32)) (by decide) ?_
      refine H.lload s0_138 rfl ?_
      refine H.lastore s0_140 (i := 18) (j := 2) rfl (by decide) (ltb rfl)  (A' := (own_bb n0 ν (-1 : Int64) (-1 : Int64) f0 f1 f2 f3 t [.inr (.long, [(.long p1), (.long p2), (.long p3), (.long (0 : Int64))])])) rfl ?_
      refine H.dup s0_141 rfl ?_
      refine H.iconst s0_142 (v := (3 : Int32)) (by decide) ?_
      refine H.lload s0_143 rfl ?_
      refine H.lastore s0_145 (i := 18) (j := 3) rfl (by decide) (ltb rfl)  (A' := (own_bb n0 ν (-1 : Int64) (-1 : Int64) f0 f1 f2 f3 t [.inr (.long, [(.long p1), (.long p2), (.long p3), (.long p4)])])) rfl ?_
      refine H.astore s0_146 rfl (ls' := #[.val (.int p0), .val (.long p1), .second, .val (.long p2), .second, .val (.long p3), .second, .val (.long p4), .second, .val (.long (wa ν)), .second, .val (.long (wb ν)), .second, .val (.long (wc ν)), .second, .val (.long (wp ν)), .second, .val (.int (1 : Int32)), .val (.int (1 : Int32)), .val (.ref (n0 + 0)), .val (.ref (n0 + 18)), .unset, .unset, .unset, .unset, .unset, .unset, .unset, .unset]) rfl ?_
      refine H.new s0_148 (k_93 hw) rfl (by decide) (by decide) (i := 19) rfl (A' := (own_bb n0 ν (-1 : Int64) (-1 : Int64) f0 f1 f2 f3 t [.inr (.long, [(.long p1), (.long p2), (.long p3), (.long p4)]), .inl (2, [.null, .null])])) rfl (k' := 20) rfl (n' := 164) rfl ?_
      refine H.dup s0_151 rfl ?_
      refine H.aload s0_152 rfl rfl ?_
      refine H.aload s0_154 rfl rfl ?_
      refine H.callCD s0_156 (k_100 hw) (d_1 l hw n0 ν (-1 : Int64) (-1 : Int64) f0 f1 f2 f3 t p1 p2 p3 p4) (argsL := [(.ref (n0 + 0)), (.ref (n0 + 18))]) (rest := [(.ref (n0 + 19))]) rfl rfl rfl rfl (leb rfl) (leb rfl) (leb rfl) (leb rfl) (st' := [(.ref (n0 + 19))]) rfl (k' := 20) rfl (n' := 164) rfl ?_
      refine H.callVD s0_159 (k_108 hw) (a_1 l hw n0 p1 p2 p3 p4 f0 f1 f2 f3 t ν) (i := 19) rfl (argsL := []) (rest := []) rfl rfl rfl rfl (leb rfl) (leb rfl) (leb rfl) (leb rfl) (st' := [(.ref (n0 + 20))]) rfl (k' := 21) rfl (n' := 168) rfl ?_
      refine H.astore s0_162 rfl (ls' := #[.val (.int p0), .val (.long p1), .second, .val (.long p2), .second, .val (.long p3), .second, .val (.long p4), .second, .val (.long (wa ν)), .second, .val (.long (wb ν)), .second, .val (.long (wc ν)), .second, .val (.long (wp ν)), .second, .val (.int (1 : Int32)), .val (.int (1 : Int32)), .val (.ref (n0 + 0)), .val (.ref (n0 + 18)), .val (.ref (n0 + 20)), .unset, .unset, .unset, .unset, .unset, .unset, .unset]) rfl ?_
      refine H.lload s0_164 rfl ?_
      refine H.lload s0_166 rfl ?_
      refine H.callSD s0_168 (k_109 hw) (m_minJ l hw n0 (own_bb n0 ν (-1 : Int64) (-1 : Int64) f0 f1 f2 f3 t [.inr (.long, [(.long p1), (.long p2), (.long p3), (.long p4)]), .inl (2, [(.ref (n0 + 0)), (.ref (n0 + 18))]), .inr (.long, [(.long p1), (.long ((p2 + f1) + f2)), (.long p3), (.long p4)])]) (wa ν) (wb ν)) (argsL := [(.long (wa ν)), (.long (wb ν))]) (rest := []) rfl rfl rfl rfl (leb rfl) (leb rfl) (leb rfl) (leb rfl) (st' := [(.long (own_minJ (wa ν) (wb ν)))]) rfl (k' := 21) rfl (n' := 168) rfl ?_
      refine H.lstore s0_171 (ls' := #[.val (.int p0), .val (.long p1), .second, .val (.long p2), .second, .val (.long p3), .second, .val (.long p4), .second, .val (.long (wa ν)), .second, .val (.long (wb ν)), .second, .val (.long (wc ν)), .second, .val (.long (wp ν)), .second, .val (.int (1 : Int32)), .val (.int (1 : Int32)), .val (.ref (n0 + 0)), .val (.ref (n0 + 18)), .val (.ref (n0 + 20)), .val (.long (own_minJ (wa ν) (wb ν))), .second, .unset, .unset, .unset, .unset, .unset]) rfl ?_
      refine H.iconst s0_173 (v := (4 : Int32)) (by decide) ?_
      refine H.newarray s0_174 (ty := .long) rfl (k_26 hw) (N := 4) (cap := 4) (by decide) rfl (by decide) (by decide) rfl (by decide) (by decide) (i := 21) rfl (A' := (own_bb n0 ν (-1 : Int64) (-1 : Int64) f0 f1 f2 f3 t [.inr (.long, [(.long p1), (.long p2), (.long p3), (.long p4)]), .inl (2, [(.ref (n0 + 0)), (.ref (n0 + 18))]), .inr (.long, [(.long p1), (.long ((p2 + f1) + f2)), (.long p3), (.long p4)]), .inr (.long, [(.long (0 : Int64)), (.long (0 : Int64)), (.long (0 : Int64)), (.long (0 : Int64))])])) rfl (k' := 22) rfl (n' := 172) rfl ?_
      refine H.dup s0_176 rfl ?_
      refine H.iconst s0_177 (v := (0 : Int32)) (by decide) ?_
      refine H.lloadN s0_178 rfl ?_
      refine H.lastore s0_179 (i := 21) (j := 0) rfl (by decide) (ltb rfl)  (A' := (own_bb n0 ν (-1 : Int64) (-1 : Int64) f0 f1 f2 f3 t [.inr (.long, [(.long p1), (.long p2), (.long p3), (.long p4)]), .inl (2, [(.ref (n0 + 0)), (.ref (n0 + 18))]), .inr (.long, [(.long p1), (.long ((p2 + f1) + f2)), (.long p3), (.long p4)]), .inr (.long, [(.long p1), (.long (0 : Int64)), (.long (0 : Int64)), (.long (0 : Int64))])])) rfl ?_
      refine H.dup s0_180 rfl ?_
      refine H.iconst s0_181 (v := (1 : Int32)) (by decide) ?_
      refine H.lloadN s0_182 rfl ?_
      refine H.lastore s0_183 (i := 21) (j := 1) rfl (by decide) (ltb rfl)  (A' := (own_bb n0 ν (-1 : Int64) (-1 : Int64) f0 f1 f2 f3 t [.inr (.long, [(.long p1), (.long p2), (.long p3), (.long p4)]), .inl (2, [(.ref (n0 + 0)), (.ref (n0 + 18))]), .inr (.long, [(.long p1), (.long ((p2 + f1) + f2)), (.long p3), (.long p4)]), .inr (.long, [(.long p1), (.long p2), (.long (0 : Int64)), (.long (0 : Int64))])])) rfl ?_
      refine H.dup s0_184 rfl ?_
      refine H.iconst s0_185 (v := (2 : Int32)) (by decide) ?_
      refine H.lload s0_186 rfl ?_
      refine H.lastore s0_188 (i := 21) (j := 2) rfl (by decide) (ltb rfl)  (A' := (own_bb n0 ν (-1 : Int64) (-1 : Int64) f0 f1 f2 f3 t [.inr (.long, [(.long p1), (.long p2), (.long p3), (.long p4)]), .inl (2, [(.ref (n0 + 0)), (.ref (n0 + 18))]), .inr (.long, [(.long p1), (.long ((p2 + f1) + f2)), (.long p3), (.long p4)]), .inr (.long, [(.long p1), (.long p2), (.long p3), (.long (0 : Int64))])])) rfl ?_
      refine H.dup s0_189 rfl ?_
      refine H.iconst s0_190 (v := (3 : Int32)) (by decide) ?_
      refine H.lload s0_191 rfl ?_
      refine H.lastore s0_193 (i := 21) (j := 3) rfl (by decide) (ltb rfl)  (A' := (own_bb n0 ν (-1 : Int64) (-1 : Int64) f0 f1 f2 f3 t [.inr (.long, [(.long p1), (.long p2), (.long p3), (.long p4)]), .inl (2, [(.ref (n0 + 0)), (.ref (n0 + 18))]), .inr (.long, [(.long p1), (.long ((p2 + f1) + f2)), (.long p3), (.long p4)]), .inr (.long, [(.long p1), (.long p2), (.long p3), (.long p4)])])) rfl ?_
      refine H.astore s0_194 rfl (ls' := #[.val (.int p0), .val (.long p1), .second, .val (.long p2), .second, .val (.long p3), .second, .val (.long p4), .second, .val (.long (wa ν)), .second, .val (.long (wb ν)), .second, .val (.long (wc ν)), .second, .val (.long (wp ν)), .second, .val (.int (1 : Int32)), .val (.int (1 : Int32)), .val (.ref (n0 + 0)), .val (.ref (n0 + 18)), .val (.ref (n0 + 20)), .val (.long (own_minJ (wa ν) (wb ν))), .second, .val (.ref (n0 + 21)), .unset, .unset, .unset, .unset]) rfl ?_
      refine H.iload s0_196 rfl ?_
      refine H.iload s0_198 rfl ?_
      refine H.icmpF s0_200 (show (1 : Int32) = (1 : Int32) by decide) ?_
      refine H.aload s0_203 rfl rfl ?_
      refine H.iload s0_205 rfl ?_
      refine H.dup2 s0_207 rfl rfl ?_
      refine H.laload s0_208 (i := 21) (j := 1) rfl (by decide) (v := (.long p2)) rfl ?_
      refine H.lload s0_209 rfl ?_
      refine H.lload s0_211 rfl ?_
      refine H.ladd s0_213 rfl ?_
      refine H.lload s0_214 rfl ?_
      refine H.callSD s0_216 (k_109 hw) (m_minJ l hw n0 (own_bb n0 ν (-1 : Int64) (-1 : Int64) f0 f1 f2 f3 t [.inr (.long, [(.long p1), (.long p2), (.long p3), (.long p4)]), .inl (2, [(.ref (n0 + 0)), (.ref (n0 + 18))]), .inr (.long, [(.long p1), (.long ((p2 + f1) + f2)), (.long p3), (.long p4)]), .inr (.long, [(.long p1), (.long p2), (.long p3), (.long p4)])]) ((own_minJ (wa ν) (wb ν)) + (wc ν)) (wp ν)) (argsL := [(.long ((own_minJ (wa ν) (wb ν)) + (wc ν))), (.long (wp ν))]) (rest := [(.long p2), (.int (1 : Int32)), (.ref (n0 + 21))]) rfl rfl rfl rfl (leb rfl) (leb rfl) (leb rfl) (leb rfl) (st' := [(.long (own_minJ ((own_minJ (wa ν) (wb ν)) + (wc ν)) (wp ν))), (.long p2), (.int (1 : Int32)), (.ref (n0 + 21))]) rfl (k' := 22) rfl (n' := 172) rfl ?_
      refine H.ladd s0_219 rfl ?_
      refine H.lastore s0_220 (i := 21) (j := 1) rfl (by decide) (ltb rfl)  (A' := (own_bb n0 ν (-1 : Int64) (-1 : Int64) f0 f1 f2 f3 t [.inr (.long, [(.long p1), (.long p2), (.long p3), (.long p4)]), .inl (2, [(.ref (n0 + 0)), (.ref (n0 + 18))]), .inr (.long, [(.long p1), (.long ((p2 + f1) + f2)), (.long p3), (.long p4)]), .inr (.long, [(.long p1), (.long (p2 + (own_minJ ((own_minJ (wa ν) (wb ν)) + (wc ν)) (wp ν)))), (.long p3), (.long p4)])])) rfl ?_
      refine H.goto s0_221 ?_
      refine H.aload s0_316 rfl rfl ?_
      refine H.aload s0_318 rfl rfl ?_
      refine H.acmp s0_320 rfl rfl (same := false) (by simp) ?_
      show G 323 _ _ _ _ _
      refine H.aload s0_323 rfl rfl ?_
      refine H.arraylength s0_325 (i := 20) rfl (z := (4 : Int32)) rfl ?_
      refine H.iconst s0_326 (v := (4 : Int32)) (by decide) ?_
      refine H.icmpT s0_327 (show (4 : Int32) = (4 : Int32) by decide) ?_
      refine H.aload s0_332 rfl rfl ?_
      refine H.iconst s0_334 (v := (0 : Int32)) (by decide) ?_
      refine H.laload s0_335 (i := 20) (j := 0) rfl (by decide) (v := (.long p1)) rfl ?_
      refine H.aload s0_336 rfl rfl ?_
      refine H.iconst s0_338 (v := (0 : Int32)) (by decide) ?_
      refine H.laload s0_339 (i := 21) (j := 0) rfl (by decide) (v := (.long p1)) rfl ?_
      refine H.lifF s0_340 s0_341 rfl ?_
      refine H.aload s0_344 rfl rfl ?_
      refine H.iconst s0_346 (v := (1 : Int32)) (by decide) ?_
      refine H.laload s0_347 (i := 20) (j := 1) rfl (by decide) (v := (.long ((p2 + f1) + f2))) rfl ?_
      refine H.aload s0_348 rfl rfl ?_
      refine H.iconst s0_350 (v := (1 : Int32)) (by decide) ?_
      refine H.laload s0_351 (i := 21) (j := 1) rfl (by decide) (v := (.long (p2 + (own_minJ ((own_minJ (wa ν) (wb ν)) + (wc ν)) (wp ν))))) rfl ?_
      refine H.lifF s0_352 s0_353 (hf _) ?_
      refine H.aload s0_356 rfl rfl ?_
      refine H.iconst s0_358 (v := (2 : Int32)) (by decide) ?_
      refine H.laload s0_359 (i := 20) (j := 2) rfl (by decide) (v := (.long p3)) rfl ?_
      refine H.aload s0_360 rfl rfl ?_
      refine H.iconst s0_362 (v := (2 : Int32)) (by decide) ?_
      refine H.laload s0_363 (i := 21) (j := 2) rfl (by decide) (v := (.long p3)) rfl ?_
      refine H.lifF s0_364 s0_365 rfl ?_
      refine H.aload s0_368 rfl rfl ?_
      refine H.iconst s0_370 (v := (3 : Int32)) (by decide) ?_
      refine H.laload s0_371 (i := 20) (j := 3) rfl (by decide) (v := (.long p4)) rfl ?_
      refine H.aload s0_372 rfl rfl ?_
      refine H.iconst s0_374 (v := (3 : Int32)) (by decide) ?_
      refine H.laload s0_375 (i := 21) (j := 3) rfl (by decide) (v := (.long p4)) rfl ?_
      refine H.lifF s0_376 s0_377 rfl ?_
      refine H.iconst s0_380 (v := (1 : Int32)) (by decide) ?_
      refine H.goto s0_381 ?_
      refine H.istore s0_385 (ls' := #[.val (.int p0), .val (.long p1), .second, .val (.long p2), .second, .val (.long p3), .second, .val (.long p4), .second, .val (.long (wa ν)), .second, .val (.long (wb ν)), .second, .val (.long (wc ν)), .second, .val (.long (wp ν)), .second, .val (.int (1 : Int32)), .val (.int (1 : Int32)), .val (.ref (n0 + 0)), .val (.ref (n0 + 18)), .val (.ref (n0 + 20)), .val (.long (own_minJ (wa ν) (wb ν))), .second, .val (.ref (n0 + 21)), .val (.int (1 : Int32)), .unset, .unset, .unset]) rfl ?_
      refine H.aload s0_387 rfl rfl ?_
      refine H.iconst s0_389 (v := (0 : Int32)) (by decide) ?_
      refine H.laload s0_390 (i := 18) (j := 0) rfl (by decide) (v := (.long p1)) rfl ?_
      refine H.lloadN s0_391 rfl ?_
      refine H.lifF s0_392 s0_393 rfl ?_
      refine H.aload s0_396 rfl rfl ?_
      refine H.iconst s0_398 (v := (1 : Int32)) (by decide) ?_
      refine H.laload s0_399 (i := 18) (j := 1) rfl (by decide) (v := (.long p2)) rfl ?_
      refine H.lloadN s0_400 rfl ?_
      refine H.lifF s0_401 s0_402 rfl ?_
      refine H.aload s0_405 rfl rfl ?_
      refine H.iconst s0_407 (v := (2 : Int32)) (by decide) ?_
      refine H.laload s0_408 (i := 18) (j := 2) rfl (by decide) (v := (.long p3)) rfl ?_
      refine H.lload s0_409 rfl ?_
      refine H.lifF s0_411 s0_412 rfl ?_
      refine H.aload s0_415 rfl rfl ?_
      refine H.iconst s0_417 (v := (3 : Int32)) (by decide) ?_
      refine H.laload s0_418 (i := 18) (j := 3) rfl (by decide) (v := (.long p4)) rfl ?_
      refine H.lload s0_419 rfl ?_
      refine H.lifF s0_421 s0_422 rfl ?_
      refine H.iconst s0_425 (v := (1 : Int32)) (by decide) ?_
      refine H.goto s0_426 ?_
      refine H.istore s0_430 (ls' := #[.val (.int p0), .val (.long p1), .second, .val (.long p2), .second, .val (.long p3), .second, .val (.long p4), .second, .val (.long (wa ν)), .second, .val (.long (wb ν)), .second, .val (.long (wc ν)), .second, .val (.long (wp ν)), .second, .val (.int (1 : Int32)), .val (.int (1 : Int32)), .val (.ref (n0 + 0)), .val (.ref (n0 + 18)), .val (.ref (n0 + 20)), .val (.long (own_minJ (wa ν) (wb ν))), .second, .val (.ref (n0 + 21)), .val (.int (1 : Int32)), .val (.int (1 : Int32)), .unset, .unset]) rfl ?_
      refine H.iload s0_432 rfl ?_
      refine H.ifF s0_434 (show ¬ (1 : Int32) = (0 : Int32) by decide) ?_
      refine H.iload s0_437 rfl ?_
      refine H.ifF s0_439 (show ¬ (1 : Int32) = (0 : Int32) by decide) ?_
      refine H.iconst s0_442 (v := (1 : Int32)) (by decide) ?_
      refine H.goto s0_443 ?_
      exact H.ireturn s0_447 rfl (by simp) rfl rfl (by decide) (by decide)
    · refine H.iadd s0_57 (w := (2 : Int32)) hz57 ?_
      refine H.istore s0_58 (ls' := #[.val (.int p0), .val (.long p1), .second, .val (.long p2), .second, .val (.long p3), .second, .val (.long p4), .second, .val (.long (wa ν)), .second, .val (.long (wb ν)), .second, .val (.long (wc ν)), .second, .val (.long (wp ν)), .second, .val (.int (1 : Int32)), .val (.int (2 : Int32)), .unset, .unset, .unset, .unset, .unset, .unset, .unset, .unset, .unset, .unset]) rfl ?_
      refine H.new s0_60 (k_82 hw) rfl (by decide) (by decide) (i := 0) rfl (A' := [.inl (0, [.null, .null, .null, .null, .null, (.int (0 : Int32)), (.long (0 : Int64)), (.int (0 : Int32))])]) rfl (k' := 1) rfl (n' := 8) rfl ?_
      refine H.dup s0_63 rfl ?_
      refine H.iconst s0_64 (v := (3 : Int32)) (by decide) ?_
      refine H.callCD s0_65 (k_90 hw) (a_0 l hw n0) (argsL := [(.int (3 : Int32))]) (rest := [(.ref (n0 + 0))]) rfl rfl rfl rfl (leb rfl) (leb rfl) (leb rfl) (leb rfl) (st' := [(.ref (n0 + 0))]) rfl (k' := 6) rfl (n' := 88) rfl ?_
      refine H.astore s0_68 rfl (ls' := #[.val (.int p0), .val (.long p1), .second, .val (.long p2), .second, .val (.long p3), .second, .val (.long p4), .second, .val (.long (wa ν)), .second, .val (.long (wb ν)), .second, .val (.long (wc ν)), .second, .val (.long (wp ν)), .second, .val (.int (1 : Int32)), .val (.int (2 : Int32)), .val (.ref (n0 + 0)), .unset, .unset, .unset, .unset, .unset, .unset, .unset, .unset, .unset]) rfl ?_
      refine H.aload s0_70 rfl rfl ?_
      refine H.iconst s0_72 (v := (0 : Int32)) (by decide) ?_
      refine H.iconst s0_73 (v := (2 : Int32)) (by decide) ?_
      refine H.lload s0_74 rfl ?_
      refine H.lconst s0_76 (v := (0 : Int64)) (by decide) ?_
      refine H.callVD s0_77 (k_91 hw) (c_add0 l hw n0 hB) (i := 0) rfl (argsL := [(.int (0 : Int32)), (.int (2 : Int32)), (.long (wa ν)), (.long (0 : Int64))]) (rest := []) rfl rfl rfl rfl (leb rfl) (leb rfl) (leb rfl) (leb rfl) (st' := [(.int (0 : Int32))]) rfl (k' := 6) rfl (n' := 88) rfl ?_
      refine H.pop s0_80 rfl ?_
      refine H.aload s0_81 rfl rfl ?_
      refine H.iconst s0_83 (v := (2 : Int32)) (by decide) ?_
      refine H.iconst s0_84 (v := (1 : Int32)) (by decide) ?_
      refine H.lload s0_85 rfl ?_
      refine H.iload s0_87 rfl ?_
      refine H.ineg s0_89 (w := (-1 : Int32)) (by decide) ?_
      refine H.i2l s0_90 (w := (-1 : Int64)) (by decide) ?_
      refine H.callVD s0_91 (k_91 hw) (c_add1 l hw n0 hB) (i := 0) rfl (argsL := [(.int (2 : Int32)), (.int (1 : Int32)), (.long (wb ν)), (.long (-1 : Int64))]) (rest := []) rfl rfl rfl rfl (leb rfl) (leb rfl) (leb rfl) (leb rfl) (st' := [(.int (1 : Int32))]) rfl (k' := 6) rfl (n' := 88) rfl ?_
      refine H.pop s0_94 rfl ?_
      refine H.aload s0_95 rfl rfl ?_
      refine H.iconst s0_97 (v := (0 : Int32)) (by decide) ?_
      refine H.iconst s0_98 (v := (1 : Int32)) (by decide) ?_
      refine H.lload s0_99 rfl ?_
      refine H.iload s0_101 rfl ?_
      refine H.ineg s0_103 (w := (-2 : Int32)) (by decide) ?_
      refine H.i2l s0_104 (w := (-2 : Int64)) (by decide) ?_
      refine H.callVD s0_105 (k_91 hw) (c_add4 l hw n0 hB) (i := 0) rfl (argsL := [(.int (0 : Int32)), (.int (1 : Int32)), (.long (wc ν)), (.long (-2 : Int64))]) (rest := []) rfl rfl rfl rfl (leb rfl) (leb rfl) (leb rfl) (leb rfl) (st' := [(.int (2 : Int32))]) rfl (k' := 6) rfl (n' := 88) rfl ?_
      refine H.pop s0_108 rfl ?_
      refine H.aload s0_109 rfl rfl ?_
      refine H.iconst s0_111 (v := (1 : Int32)) (by decide) ?_
      refine H.iconst s0_112 (v := (0 : Int32)) (by decide) ?_
      refine H.lload s0_113 rfl ?_
      refine H.lconst s0_115 (v := (0 : Int64)) (by decide) ?_
      refine H.callVD s0_116 (k_91 hw) (c_add5 l hw n0 hB) (i := 0) rfl (argsL := [(.int (1 : Int32)), (.int (0 : Int32)), (.long (wp ν)), (.long (0 : Int64))]) (rest := []) rfl rfl rfl rfl (leb rfl) (leb rfl) (leb rfl) (leb rfl) (st' := [(.int (3 : Int32))]) rfl (k' := 6) rfl (n' := 88) rfl ?_
      refine H.pop s0_119 rfl ?_
      refine H.aload s0_120 rfl rfl ?_
      refine H.callVW s0_122 (k_92 hw) (c_solve12 l hw n0 hB) (i := 0) rfl (argsL := []) (rest := []) rfl rfl rfl rfl (leb rfl) (leb rfl) (leb rfl) (leb rfl) ?_
      rintro v A' ⟨rfl, f0, f1, f2, f3, TT, hTT, rfl, hs⟩
      obtain ⟨t, rfl⟩ := own_twelve hTT
      show G 125 #[.val (.int p0), .val (.long p1), .second, .val (.long p2), .second, .val (.long p3), .second, .val (.long p4), .second, .val (.long (wa ν)), .second, .val (.long (wb ν)), .second, .val (.long (wc ν)), .second, .val (.long (wp ν)), .second, .val (.int (1 : Int32)), .val (.int (2 : Int32)), .val (.ref (n0 + 0)), .unset, .unset, .unset, .unset, .unset, .unset, .unset, .unset, .unset] [] (own_bb n0 ν (-1 : Int64) (-2 : Int64) f0 f1 f2 f3 t []) 18 158
      obtain ⟨⟨ba1, ba2⟩, ⟨bb1, bb2⟩, ⟨bc1, bc2⟩, ⟨bp1, bp2⟩⟩ := id hB
      obtain ⟨va, vb, vc, vp⟩ := own_w hB
      obtain ⟨bf, bg, hs⟩ := hs
      have hf := own_lt (f := f1) (g := f2) va vb vc vp ⟨ba1, by omega⟩ ⟨bb1, by omega⟩ ⟨bc1, by omega⟩ ⟨bp1, by omega⟩ (by simpa using hs)
      refine H.iconst s0_125 (v := (4 : Int32)) (by decide) ?_
      refine H.newarray s0_126 (ty := .long) rfl (k_26 hw) (N := 4) (cap := 4) (by decide) rfl (by decide) (by decide) rfl (by decide) (by decide) (i := 18) rfl (A' := (own_bb n0 ν (-1 : Int64) (-2 : Int64) f0 f1 f2 f3 t [.inr (.long, [(.long (0 : Int64)), (.long (0 : Int64)), (.long (0 : Int64)), (.long (0 : Int64))])])) rfl (k' := 19) rfl (n' := 162) rfl ?_
      refine H.dup s0_128 rfl ?_
      refine H.iconst s0_129 (v := (0 : Int32)) (by decide) ?_
      refine H.lloadN s0_130 rfl ?_
      refine H.lastore s0_131 (i := 18) (j := 0) rfl (by decide) (ltb rfl)  (A' := (own_bb n0 ν (-1 : Int64) (-2 : Int64) f0 f1 f2 f3 t [.inr (.long, [(.long p1), (.long (0 : Int64)), (.long (0 : Int64)), (.long (0 : Int64))])])) rfl ?_
      refine H.dup s0_132 rfl ?_
      refine H.iconst s0_133 (v := (1 : Int32)) (by decide) ?_
      refine H.lloadN s0_134 rfl ?_
      refine H.lastore s0_135 (i := 18) (j := 1) rfl (by decide) (ltb rfl)  (A' := (own_bb n0 ν (-1 : Int64) (-2 : Int64) f0 f1 f2 f3 t [.inr (.long, [(.long p1), (.long p2), (.long (0 : Int64)), (.long (0 : Int64))])])) rfl ?_
      refine H.dup s0_136 rfl ?_
      refine H.iconst s0_137 (v := (2 : Int32)) (by decide) ?_
      refine H.lload s0_138 rfl ?_
      refine H.lastore s0_140 (i := 18) (j := 2) rfl (by decide) (ltb rfl)  (A' := (own_bb n0 ν (-1 : Int64) (-2 : Int64) f0 f1 f2 f3 t [.inr (.long, [(.long p1), (.long p2), (.long p3), (.long (0 : Int64))])])) rfl ?_
      refine H.dup s0_141 rfl ?_
      refine H.iconst s0_142 (v := (3 : Int32)) (by decide) ?_
      refine H.lload s0_143 rfl ?_
      refine H.lastore s0_145 (i := 18) (j := 3) rfl (by decide) (ltb rfl)  (A' := (own_bb n0 ν (-1 : Int64) (-2 : Int64) f0 f1 f2 f3 t [.inr (.long, [(.long p1), (.long p2), (.long p3), (.long p4)])])) rfl ?_
      refine H.astore s0_146 rfl (ls' := #[.val (.int p0), .val (.long p1), .second, .val (.long p2), .second, .val (.long p3), .second, .val (.long p4), .second, .val (.long (wa ν)), .second, .val (.long (wb ν)), .second, .val (.long (wc ν)), .second, .val (.long (wp ν)), .second, .val (.int (1 : Int32)), .val (.int (2 : Int32)), .val (.ref (n0 + 0)), .val (.ref (n0 + 18)), .unset, .unset, .unset, .unset, .unset, .unset, .unset, .unset]) rfl ?_
      refine H.new s0_148 (k_93 hw) rfl (by decide) (by decide) (i := 19) rfl (A' := (own_bb n0 ν (-1 : Int64) (-2 : Int64) f0 f1 f2 f3 t [.inr (.long, [(.long p1), (.long p2), (.long p3), (.long p4)]), .inl (2, [.null, .null])])) rfl (k' := 20) rfl (n' := 164) rfl ?_
      refine H.dup s0_151 rfl ?_
      refine H.aload s0_152 rfl rfl ?_
      refine H.aload s0_154 rfl rfl ?_
      refine H.callCD s0_156 (k_100 hw) (d_1 l hw n0 ν (-1 : Int64) (-2 : Int64) f0 f1 f2 f3 t p1 p2 p3 p4) (argsL := [(.ref (n0 + 0)), (.ref (n0 + 18))]) (rest := [(.ref (n0 + 19))]) rfl rfl rfl rfl (leb rfl) (leb rfl) (leb rfl) (leb rfl) (st' := [(.ref (n0 + 19))]) rfl (k' := 20) rfl (n' := 164) rfl ?_
      refine H.callVD s0_159 (k_108 hw) (a_2 l hw n0 p1 p2 p3 p4 f0 f1 f2 f3 t ν) (i := 19) rfl (argsL := []) (rest := []) rfl rfl rfl rfl (leb rfl) (leb rfl) (leb rfl) (leb rfl) (st' := [(.ref (n0 + 20))]) rfl (k' := 21) rfl (n' := 168) rfl ?_
      refine H.astore s0_162 rfl (ls' := #[.val (.int p0), .val (.long p1), .second, .val (.long p2), .second, .val (.long p3), .second, .val (.long p4), .second, .val (.long (wa ν)), .second, .val (.long (wb ν)), .second, .val (.long (wc ν)), .second, .val (.long (wp ν)), .second, .val (.int (1 : Int32)), .val (.int (2 : Int32)), .val (.ref (n0 + 0)), .val (.ref (n0 + 18)), .val (.ref (n0 + 20)), .unset, .unset, .unset, .unset, .unset, .unset, .unset]) rfl ?_
      refine H.lload s0_164 rfl ?_
      refine H.lload s0_166 rfl ?_
      refine H.callSD s0_168 (k_109 hw) (m_minJ l hw n0 (own_bb n0 ν (-1 : Int64) (-2 : Int64) f0 f1 f2 f3 t [.inr (.long, [(.long p1), (.long p2), (.long p3), (.long p4)]), .inl (2, [(.ref (n0 + 0)), (.ref (n0 + 18))]), .inr (.long, [(.long p1), (.long (p2 + f1)), (.long (p3 + f2)), (.long p4)])]) (wa ν) (wb ν)) (argsL := [(.long (wa ν)), (.long (wb ν))]) (rest := []) rfl rfl rfl rfl (leb rfl) (leb rfl) (leb rfl) (leb rfl) (st' := [(.long (own_minJ (wa ν) (wb ν)))]) rfl (k' := 21) rfl (n' := 168) rfl ?_
      refine H.lstore s0_171 (ls' := #[.val (.int p0), .val (.long p1), .second, .val (.long p2), .second, .val (.long p3), .second, .val (.long p4), .second, .val (.long (wa ν)), .second, .val (.long (wb ν)), .second, .val (.long (wc ν)), .second, .val (.long (wp ν)), .second, .val (.int (1 : Int32)), .val (.int (2 : Int32)), .val (.ref (n0 + 0)), .val (.ref (n0 + 18)), .val (.ref (n0 + 20)), .val (.long (own_minJ (wa ν) (wb ν))), .second, .unset, .unset, .unset, .unset, .unset]) rfl ?_
      refine H.iconst s0_173 (v := (4 : Int32)) (by decide) ?_
      refine H.newarray s0_174 (ty := .long) rfl (k_26 hw) (N := 4) (cap := 4) (by decide) rfl (by decide) (by decide) rfl (by decide) (by decide) (i := 21) rfl (A' := (own_bb n0 ν (-1 : Int64) (-2 : Int64) f0 f1 f2 f3 t [.inr (.long, [(.long p1), (.long p2), (.long p3), (.long p4)]), .inl (2, [(.ref (n0 + 0)), (.ref (n0 + 18))]), .inr (.long, [(.long p1), (.long (p2 + f1)), (.long (p3 + f2)), (.long p4)]), .inr (.long, [(.long (0 : Int64)), (.long (0 : Int64)), (.long (0 : Int64)), (.long (0 : Int64))])])) rfl (k' := 22) rfl (n' := 172) rfl ?_
      refine H.dup s0_176 rfl ?_
      refine H.iconst s0_177 (v := (0 : Int32)) (by decide) ?_
      refine H.lloadN s0_178 rfl ?_
      refine H.lastore s0_179 (i := 21) (j := 0) rfl (by decide) (ltb rfl)  (A' := (own_bb n0 ν (-1 : Int64) (-2 : Int64) f0 f1 f2 f3 t [.inr (.long, [(.long p1), (.long p2), (.long p3), (.long p4)]), .inl (2, [(.ref (n0 + 0)), (.ref (n0 + 18))]), .inr (.long, [(.long p1), (.long (p2 + f1)), (.long (p3 + f2)), (.long p4)]), .inr (.long, [(.long p1), (.long (0 : Int64)), (.long (0 : Int64)), (.long (0 : Int64))])])) rfl ?_
      refine H.dup s0_180 rfl ?_
      refine H.iconst s0_181 (v := (1 : Int32)) (by decide) ?_
      refine H.lloadN s0_182 rfl ?_
      refine H.lastore s0_183 (i := 21) (j := 1) rfl (by decide) (ltb rfl)  (A' := (own_bb n0 ν (-1 : Int64) (-2 : Int64) f0 f1 f2 f3 t [.inr (.long, [(.long p1), (.long p2), (.long p3), (.long p4)]), .inl (2, [(.ref (n0 + 0)), (.ref (n0 + 18))]), .inr (.long, [(.long p1), (.long (p2 + f1)), (.long (p3 + f2)), (.long p4)]), .inr (.long, [(.long p1), (.long p2), (.long (0 : Int64)), (.long (0 : Int64))])])) rfl ?_
      refine H.dup s0_184 rfl ?_
      refine H.iconst s0_185 (v := (2 : Int32)) (by decide) ?_
      refine H.lload s0_186 rfl ?_
      refine H.lastore s0_188 (i := 21) (j := 2) rfl (by decide) (ltb rfl)  (A' := (own_bb n0 ν (-1 : Int64) (-2 : Int64) f0 f1 f2 f3 t [.inr (.long, [(.long p1), (.long p2), (.long p3), (.long p4)]), .inl (2, [(.ref (n0 + 0)), (.ref (n0 + 18))]), .inr (.long, [(.long p1), (.long (p2 + f1)), (.long (p3 + f2)), (.long p4)]), .inr (.long, [(.long p1), (.long p2), (.long p3), (.long (0 : Int64))])])) rfl ?_
      refine H.dup s0_189 rfl ?_
      refine H.iconst s0_190 (v := (3 : Int32)) (by decide) ?_
      refine H.lload s0_191 rfl ?_
      refine H.lastore s0_193 (i := 21) (j := 3) rfl (by decide) (ltb rfl)  (A' := (own_bb n0 ν (-1 : Int64) (-2 : Int64) f0 f1 f2 f3 t [.inr (.long, [(.long p1), (.long p2), (.long p3), (.long p4)]), .inl (2, [(.ref (n0 + 0)), (.ref (n0 + 18))]), .inr (.long, [(.long p1), (.long (p2 + f1)), (.long (p3 + f2)), (.long p4)]), .inr (.long, [(.long p1), (.long p2), (.long p3), (.long p4)])])) rfl ?_
      refine H.astore s0_194 rfl (ls' := #[.val (.int p0), .val (.long p1), .second, .val (.long p2), .second, .val (.long p3), .second, .val (.long p4), .second, .val (.long (wa ν)), .second, .val (.long (wb ν)), .second, .val (.long (wc ν)), .second, .val (.long (wp ν)), .second, .val (.int (1 : Int32)), .val (.int (2 : Int32)), .val (.ref (n0 + 0)), .val (.ref (n0 + 18)), .val (.ref (n0 + 20)), .val (.long (own_minJ (wa ν) (wb ν))), .second, .val (.ref (n0 + 21)), .unset, .unset, .unset, .unset]) rfl ?_
      refine H.iload s0_196 rfl ?_
      refine H.iload s0_198 rfl ?_
      refine H.icmpT s0_200 (show ¬ (1 : Int32) = (2 : Int32) by decide) ?_
      refine H.iload s0_224 rfl ?_
      refine H.iload s0_226 rfl ?_
      refine H.icmpT s0_228 (show ¬ (2 : Int32) < (1 : Int32) by decide) ?_
      refine H.lload s0_275 rfl ?_
      refine H.lload s0_277 rfl ?_
      refine H.callSD s0_279 (k_109 hw) (m_minJ l hw n0 (own_bb n0 ν (-1 : Int64) (-2 : Int64) f0 f1 f2 f3 t [.inr (.long, [(.long p1), (.long p2), (.long p3), (.long p4)]), .inl (2, [(.ref (n0 + 0)), (.ref (n0 + 18))]), .inr (.long, [(.long p1), (.long (p2 + f1)), (.long (p3 + f2)), (.long p4)]), .inr (.long, [(.long p1), (.long p2), (.long p3), (.long p4)])]) (wc ν) (wp ν)) (argsL := [(.long (wc ν)), (.long (wp ν))]) (rest := []) rfl rfl rfl rfl (leb rfl) (leb rfl) (leb rfl) (leb rfl) (st' := [(.long (own_minJ (wc ν) (wp ν)))]) rfl (k' := 22) rfl (n' := 172) rfl ?_
      refine H.lstore s0_282 (ls' := #[.val (.int p0), .val (.long p1), .second, .val (.long p2), .second, .val (.long p3), .second, .val (.long p4), .second, .val (.long (wa ν)), .second, .val (.long (wb ν)), .second, .val (.long (wc ν)), .second, .val (.long (wp ν)), .second, .val (.int (1 : Int32)), .val (.int (2 : Int32)), .val (.ref (n0 + 0)), .val (.ref (n0 + 18)), .val (.ref (n0 + 20)), .val (.long (own_minJ (wa ν) (wb ν))), .second, .val (.ref (n0 + 21)), .val (.long (own_minJ (wc ν) (wp ν))), .second, .unset, .unset]) rfl ?_
      refine H.lload s0_284 rfl ?_
      refine H.lload s0_286 rfl ?_
      refine H.lload s0_288 rfl ?_
      refine H.lsub s0_290 rfl ?_
      refine H.callSD s0_291 (k_109 hw) (m_minJ l hw n0 (own_bb n0 ν (-1 : Int64) (-2 : Int64) f0 f1 f2 f3 t [.inr (.long, [(.long p1), (.long p2), (.long p3), (.long p4)]), .inl (2, [(.ref (n0 + 0)), (.ref (n0 + 18))]), .inr (.long, [(.long p1), (.long (p2 + f1)), (.long (p3 + f2)), (.long p4)]), .inr (.long, [(.long p1), (.long p2), (.long p3), (.long p4)])]) (own_minJ (wa ν) (wb ν)) ((wp ν) - (own_minJ (wc ν) (wp ν)))) (argsL := [(.long (own_minJ (wa ν) (wb ν))), (.long ((wp ν) - (own_minJ (wc ν) (wp ν))))]) (rest := []) rfl rfl rfl rfl (leb rfl) (leb rfl) (leb rfl) (leb rfl) (st' := [(.long (own_minJ (own_minJ (wa ν) (wb ν)) ((wp ν) - (own_minJ (wc ν) (wp ν)))))]) rfl (k' := 22) rfl (n' := 172) rfl ?_
      refine H.lstore s0_294 (ls' := #[.val (.int p0), .val (.long p1), .second, .val (.long p2), .second, .val (.long p3), .second, .val (.long p4), .second, .val (.long (wa ν)), .second, .val (.long (wb ν)), .second, .val (.long (wc ν)), .second, .val (.long (wp ν)), .second, .val (.int (1 : Int32)), .val (.int (2 : Int32)), .val (.ref (n0 + 0)), .val (.ref (n0 + 18)), .val (.ref (n0 + 20)), .val (.long (own_minJ (wa ν) (wb ν))), .second, .val (.ref (n0 + 21)), .val (.long (own_minJ (wc ν) (wp ν))), .second, .val (.long (own_minJ (own_minJ (wa ν) (wb ν)) ((wp ν) - (own_minJ (wc ν) (wp ν))))), .second]) rfl ?_
      refine H.aload s0_296 rfl rfl ?_
      refine H.iload s0_298 rfl ?_
      refine H.dup2 s0_300 rfl rfl ?_
      refine H.laload s0_301 (i := 21) (j := 1) rfl (by decide) (v := (.long p2)) rfl ?_
      refine H.lload s0_302 rfl ?_
      refine H.ladd s0_304 rfl ?_
      refine H.lastore s0_305 (i := 21) (j := 1) rfl (by decide) (ltb rfl)  (A' := (own_bb n0 ν (-1 : Int64) (-2 : Int64) f0 f1 f2 f3 t [.inr (.long, [(.long p1), (.long p2), (.long p3), (.long p4)]), .inl (2, [(.ref (n0 + 0)), (.ref (n0 + 18))]), .inr (.long, [(.long p1), (.long (p2 + f1)), (.long (p3 + f2)), (.long p4)]), .inr (.long, [(.long p1), (.long (p2 + (own_minJ (own_minJ (wa ν) (wb ν)) ((wp ν) - (own_minJ (wc ν) (wp ν)))))), (.long p3), (.long p4)])])) rfl ?_
      refine H.aload s0_306 rfl rfl ?_
      refine H.iload s0_308 rfl ?_
      refine H.dup2 s0_310 rfl rfl ?_
      refine H.laload s0_311 (i := 21) (j := 2) rfl (by decide) (v := (.long p3)) rfl ?_
      refine H.lload s0_312 rfl ?_
      refine H.ladd s0_314 rfl ?_
      refine H.lastore s0_315 (i := 21) (j := 2) rfl (by decide) (ltb rfl)  (A' := (own_bb n0 ν (-1 : Int64) (-2 : Int64) f0 f1 f2 f3 t [.inr (.long, [(.long p1), (.long p2), (.long p3), (.long p4)]), .inl (2, [(.ref (n0 + 0)), (.ref (n0 + 18))]), .inr (.long, [(.long p1), (.long (p2 + f1)), (.long (p3 + f2)), (.long p4)]), .inr (.long, [(.long p1), (.long (p2 + (own_minJ (own_minJ (wa ν) (wb ν)) ((wp ν) - (own_minJ (wc ν) (wp ν)))))), (.long (p3 + (own_minJ (wc ν) (wp ν)))), (.long p4)])])) rfl ?_
      refine H.aload s0_316 rfl rfl ?_
      refine H.aload s0_318 rfl rfl ?_
      refine H.acmp s0_320 rfl rfl (same := false) (by simp) ?_
      show G 323 _ _ _ _ _
      refine H.aload s0_323 rfl rfl ?_
      refine H.arraylength s0_325 (i := 20) rfl (z := (4 : Int32)) rfl ?_
      refine H.iconst s0_326 (v := (4 : Int32)) (by decide) ?_
      refine H.icmpT s0_327 (show (4 : Int32) = (4 : Int32) by decide) ?_
      refine H.aload s0_332 rfl rfl ?_
      refine H.iconst s0_334 (v := (0 : Int32)) (by decide) ?_
      refine H.laload s0_335 (i := 20) (j := 0) rfl (by decide) (v := (.long p1)) rfl ?_
      refine H.aload s0_336 rfl rfl ?_
      refine H.iconst s0_338 (v := (0 : Int32)) (by decide) ?_
      refine H.laload s0_339 (i := 21) (j := 0) rfl (by decide) (v := (.long p1)) rfl ?_
      refine H.lifF s0_340 s0_341 rfl ?_
      refine H.aload s0_344 rfl rfl ?_
      refine H.iconst s0_346 (v := (1 : Int32)) (by decide) ?_
      refine H.laload s0_347 (i := 20) (j := 1) rfl (by decide) (v := (.long (p2 + f1))) rfl ?_
      refine H.aload s0_348 rfl rfl ?_
      refine H.iconst s0_350 (v := (1 : Int32)) (by decide) ?_
      refine H.laload s0_351 (i := 21) (j := 1) rfl (by decide) (v := (.long (p2 + (own_minJ (own_minJ (wa ν) (wb ν)) ((wp ν) - (own_minJ (wc ν) (wp ν))))))) rfl ?_
      refine H.lifF s0_352 s0_353 (congrArg (fun z => p2 + z) hf.2) ?_
      refine H.aload s0_356 rfl rfl ?_
      refine H.iconst s0_358 (v := (2 : Int32)) (by decide) ?_
      refine H.laload s0_359 (i := 20) (j := 2) rfl (by decide) (v := (.long (p3 + f2))) rfl ?_
      refine H.aload s0_360 rfl rfl ?_
      refine H.iconst s0_362 (v := (2 : Int32)) (by decide) ?_
      refine H.laload s0_363 (i := 21) (j := 2) rfl (by decide) (v := (.long (p3 + (own_minJ (wc ν) (wp ν))))) rfl ?_
      refine H.lifF s0_364 s0_365 (congrArg (fun z => p3 + z) hf.1) ?_
      refine H.aload s0_368 rfl rfl ?_
      refine H.iconst s0_370 (v := (3 : Int32)) (by decide) ?_
      refine H.laload s0_371 (i := 20) (j := 3) rfl (by decide) (v := (.long p4)) rfl ?_
      refine H.aload s0_372 rfl rfl ?_
      refine H.iconst s0_374 (v := (3 : Int32)) (by decide) ?_
      refine H.laload s0_375 (i := 21) (j := 3) rfl (by decide) (v := (.long p4)) rfl ?_
      refine H.lifF s0_376 s0_377 rfl ?_
      refine H.iconst s0_380 (v := (1 : Int32)) (by decide) ?_
      refine H.goto s0_381 ?_
      refine H.istore s0_385 (ls' := #[.val (.int p0), .val (.long p1), .second, .val (.long p2), .second, .val (.long p3), .second, .val (.long p4), .second, .val (.long (wa ν)), .second, .val (.long (wb ν)), .second, .val (.long (wc ν)), .second, .val (.long (wp ν)), .second, .val (.int (1 : Int32)), .val (.int (2 : Int32)), .val (.ref (n0 + 0)), .val (.ref (n0 + 18)), .val (.ref (n0 + 20)), .val (.long (own_minJ (wa ν) (wb ν))), .second, .val (.ref (n0 + 21)), .val (.int (1 : Int32)), .unset, .val (.long (own_minJ (own_minJ (wa ν) (wb ν)) ((wp ν) - (own_minJ (wc ν) (wp ν))))), .second]) rfl ?_
      refine H.aload s0_387 rfl rfl ?_
      refine H.iconst s0_389 (v := (0 : Int32)) (by decide) ?_
      refine H.laload s0_390 (i := 18) (j := 0) rfl (by decide) (v := (.long p1)) rfl ?_
      refine H.lloadN s0_391 rfl ?_
      refine H.lifF s0_392 s0_393 rfl ?_
      refine H.aload s0_396 rfl rfl ?_
      refine H.iconst s0_398 (v := (1 : Int32)) (by decide) ?_
      refine H.laload s0_399 (i := 18) (j := 1) rfl (by decide) (v := (.long p2)) rfl ?_
      refine H.lloadN s0_400 rfl ?_
      refine H.lifF s0_401 s0_402 rfl ?_
      refine H.aload s0_405 rfl rfl ?_
      refine H.iconst s0_407 (v := (2 : Int32)) (by decide) ?_
      refine H.laload s0_408 (i := 18) (j := 2) rfl (by decide) (v := (.long p3)) rfl ?_
      refine H.lload s0_409 rfl ?_
      refine H.lifF s0_411 s0_412 rfl ?_
      refine H.aload s0_415 rfl rfl ?_
      refine H.iconst s0_417 (v := (3 : Int32)) (by decide) ?_
      refine H.laload s0_418 (i := 18) (j := 3) rfl (by decide) (v := (.long p4)) rfl ?_
      refine H.lload s0_419 rfl ?_
      refine H.lifF s0_421 s0_422 rfl ?_
      refine H.iconst s0_425 (v := (1 : Int32)) (by decide) ?_
      refine H.goto s0_426 ?_
      refine H.istore s0_430 (ls' := #[.val (.int p0), .val (.long p1), .second, .val (.long p2), .second, .val (.long p3), .second, .val (.long p4), .second, .val (.long (wa ν)), .second, .val (.long (wb ν)), .second, .val (.long (wc ν)), .second, .val (.long (wp ν)), .second, .val (.int (1 : Int32)), .val (.int (2 : Int32)), .val (.ref (n0 + 0)), .val (.ref (n0 + 18)), .val (.ref (n0 + 20)), .val (.long (own_minJ (wa ν) (wb ν))), .second, .val (.ref (n0 + 21)), .val (.int (1 : Int32)), .val (.int (1 : Int32)), .val (.long (own_minJ (own_minJ (wa ν) (wb ν)) ((wp ν) - (own_minJ (wc ν) (wp ν))))), .second]) rfl ?_
      refine H.iload s0_432 rfl ?_
      refine H.ifF s0_434 (show ¬ (1 : Int32) = (0 : Int32) by decide) ?_
      refine H.iload s0_437 rfl ?_
      refine H.ifF s0_439 (show ¬ (1 : Int32) = (0 : Int32) by decide) ?_
      refine H.iconst s0_442 (v := (1 : Int32)) (by decide) ?_
      refine H.goto s0_443 ?_
      exact H.ireturn s0_447 rfl (by simp) rfl rfl (by decide) (by decide)
    · refine H.iadd s0_57 (w := (3 : Int32)) hz57 ?_
      refine H.istore s0_58 (ls' := #[.val (.int p0), .val (.long p1), .second, .val (.long p2), .second, .val (.long p3), .second, .val (.long p4), .second, .val (.long (wa ν)), .second, .val (.long (wb ν)), .second, .val (.long (wc ν)), .second, .val (.long (wp ν)), .second, .val (.int (1 : Int32)), .val (.int (3 : Int32)), .unset, .unset, .unset, .unset, .unset, .unset, .unset, .unset, .unset, .unset]) rfl ?_
      refine H.new s0_60 (k_82 hw) rfl (by decide) (by decide) (i := 0) rfl (A' := [.inl (0, [.null, .null, .null, .null, .null, (.int (0 : Int32)), (.long (0 : Int64)), (.int (0 : Int32))])]) rfl (k' := 1) rfl (n' := 8) rfl ?_
      refine H.dup s0_63 rfl ?_
      refine H.iconst s0_64 (v := (3 : Int32)) (by decide) ?_
      refine H.callCD s0_65 (k_90 hw) (a_0 l hw n0) (argsL := [(.int (3 : Int32))]) (rest := [(.ref (n0 + 0))]) rfl rfl rfl rfl (leb rfl) (leb rfl) (leb rfl) (leb rfl) (st' := [(.ref (n0 + 0))]) rfl (k' := 6) rfl (n' := 88) rfl ?_
      refine H.astore s0_68 rfl (ls' := #[.val (.int p0), .val (.long p1), .second, .val (.long p2), .second, .val (.long p3), .second, .val (.long p4), .second, .val (.long (wa ν)), .second, .val (.long (wb ν)), .second, .val (.long (wc ν)), .second, .val (.long (wp ν)), .second, .val (.int (1 : Int32)), .val (.int (3 : Int32)), .val (.ref (n0 + 0)), .unset, .unset, .unset, .unset, .unset, .unset, .unset, .unset, .unset]) rfl ?_
      refine H.aload s0_70 rfl rfl ?_
      refine H.iconst s0_72 (v := (0 : Int32)) (by decide) ?_
      refine H.iconst s0_73 (v := (2 : Int32)) (by decide) ?_
      refine H.lload s0_74 rfl ?_
      refine H.lconst s0_76 (v := (0 : Int64)) (by decide) ?_
      refine H.callVD s0_77 (k_91 hw) (c_add0 l hw n0 hB) (i := 0) rfl (argsL := [(.int (0 : Int32)), (.int (2 : Int32)), (.long (wa ν)), (.long (0 : Int64))]) (rest := []) rfl rfl rfl rfl (leb rfl) (leb rfl) (leb rfl) (leb rfl) (st' := [(.int (0 : Int32))]) rfl (k' := 6) rfl (n' := 88) rfl ?_
      refine H.pop s0_80 rfl ?_
      refine H.aload s0_81 rfl rfl ?_
      refine H.iconst s0_83 (v := (2 : Int32)) (by decide) ?_
      refine H.iconst s0_84 (v := (1 : Int32)) (by decide) ?_
      refine H.lload s0_85 rfl ?_
      refine H.iload s0_87 rfl ?_
      refine H.ineg s0_89 (w := (-1 : Int32)) (by decide) ?_
      refine H.i2l s0_90 (w := (-1 : Int64)) (by decide) ?_
      refine H.callVD s0_91 (k_91 hw) (c_add1 l hw n0 hB) (i := 0) rfl (argsL := [(.int (2 : Int32)), (.int (1 : Int32)), (.long (wb ν)), (.long (-1 : Int64))]) (rest := []) rfl rfl rfl rfl (leb rfl) (leb rfl) (leb rfl) (leb rfl) (st' := [(.int (1 : Int32))]) rfl (k' := 6) rfl (n' := 88) rfl ?_
      refine H.pop s0_94 rfl ?_
      refine H.aload s0_95 rfl rfl ?_
      refine H.iconst s0_97 (v := (0 : Int32)) (by decide) ?_
      refine H.iconst s0_98 (v := (1 : Int32)) (by decide) ?_
      refine H.lload s0_99 rfl ?_
      refine H.iload s0_101 rfl ?_
      refine H.ineg s0_103 (w := (-3 : Int32)) (by decide) ?_
      refine H.i2l s0_104 (w := (-3 : Int64)) (by decide) ?_
      refine H.callVD s0_105 (k_91 hw) (c_add6 l hw n0 hB) (i := 0) rfl (argsL := [(.int (0 : Int32)), (.int (1 : Int32)), (.long (wc ν)), (.long (-3 : Int64))]) (rest := []) rfl rfl rfl rfl (leb rfl) (leb rfl) (leb rfl) (leb rfl) (st' := [(.int (2 : Int32))]) rfl (k' := 6) rfl (n' := 88) rfl ?_
      refine H.pop s0_108 rfl ?_
      refine H.aload s0_109 rfl rfl ?_
      refine H.iconst s0_111 (v := (1 : Int32)) (by decide) ?_
      refine H.iconst s0_112 (v := (0 : Int32)) (by decide) ?_
      refine H.lload s0_113 rfl ?_
      refine H.lconst s0_115 (v := (0 : Int64)) (by decide) ?_
      refine H.callVD s0_116 (k_91 hw) (c_add7 l hw n0 hB) (i := 0) rfl (argsL := [(.int (1 : Int32)), (.int (0 : Int32)), (.long (wp ν)), (.long (0 : Int64))]) (rest := []) rfl rfl rfl rfl (leb rfl) (leb rfl) (leb rfl) (leb rfl) (st' := [(.int (3 : Int32))]) rfl (k' := 6) rfl (n' := 88) rfl ?_
      refine H.pop s0_119 rfl ?_
      refine H.aload s0_120 rfl rfl ?_
      refine H.callVW s0_122 (k_92 hw) (c_solve13 l hw n0 hB) (i := 0) rfl (argsL := []) (rest := []) rfl rfl rfl rfl (leb rfl) (leb rfl) (leb rfl) (leb rfl) ?_
      rintro v A' ⟨rfl, f0, f1, f2, f3, TT, hTT, rfl, hs⟩
      obtain ⟨t, rfl⟩ := own_twelve hTT
      show G 125 #[.val (.int p0), .val (.long p1), .second, .val (.long p2), .second, .val (.long p3), .second, .val (.long p4), .second, .val (.long (wa ν)), .second, .val (.long (wb ν)), .second, .val (.long (wc ν)), .second, .val (.long (wp ν)), .second, .val (.int (1 : Int32)), .val (.int (3 : Int32)), .val (.ref (n0 + 0)), .unset, .unset, .unset, .unset, .unset, .unset, .unset, .unset, .unset] [] (own_bb n0 ν (-1 : Int64) (-3 : Int64) f0 f1 f2 f3 t []) 18 158
      obtain ⟨⟨ba1, ba2⟩, ⟨bb1, bb2⟩, ⟨bc1, bc2⟩, ⟨bp1, bp2⟩⟩ := id hB
      obtain ⟨va, vb, vc, vp⟩ := own_w hB
      obtain ⟨bf, bg, hs⟩ := hs
      have hf := own_lt (f := f1) (g := f2) va vb vc vp ⟨ba1, by omega⟩ ⟨bb1, by omega⟩ ⟨bc1, by omega⟩ ⟨bp1, by omega⟩ (by simpa using hs)
      refine H.iconst s0_125 (v := (4 : Int32)) (by decide) ?_
      refine H.newarray s0_126 (ty := .long) rfl (k_26 hw) (N := 4) (cap := 4) (by decide) rfl (by decide) (by decide) rfl (by decide) (by decide) (i := 18) rfl (A' := (own_bb n0 ν (-1 : Int64) (-3 : Int64) f0 f1 f2 f3 t [.inr (.long, [(.long (0 : Int64)), (.long (0 : Int64)), (.long (0 : Int64)), (.long (0 : Int64))])])) rfl (k' := 19) rfl (n' := 162) rfl ?_
      refine H.dup s0_128 rfl ?_
      refine H.iconst s0_129 (v := (0 : Int32)) (by decide) ?_
      refine H.lloadN s0_130 rfl ?_
      refine H.lastore s0_131 (i := 18) (j := 0) rfl (by decide) (ltb rfl)  (A' := (own_bb n0 ν (-1 : Int64) (-3 : Int64) f0 f1 f2 f3 t [.inr (.long, [(.long p1), (.long (0 : Int64)), (.long (0 : Int64)), (.long (0 : Int64))])])) rfl ?_
      refine H.dup s0_132 rfl ?_
      refine H.iconst s0_133 (v := (1 : Int32)) (by decide) ?_
      refine H.lloadN s0_134 rfl ?_
      refine H.lastore s0_135 (i := 18) (j := 1) rfl (by decide) (ltb rfl)  (A' := (own_bb n0 ν (-1 : Int64) (-3 : Int64) f0 f1 f2 f3 t [.inr (.long, [(.long p1), (.long p2), (.long (0 : Int64)), (.long (0 : Int64))])])) rfl ?_
      refine H.dup s0_136 rfl ?_
      refine H.iconst s0_137 (v := (2 : Int32)) (by decide) ?_
      refine H.lload s0_138 rfl ?_
      refine H.lastore s0_140 (i := 18) (j := 2) rfl (by decide) (ltb rfl)  (A' := (own_bb n0 ν (-1 : Int64) (-3 : Int64) f0 f1 f2 f3 t [.inr (.long, [(.long p1), (.long p2), (.long p3), (.long (0 : Int64))])])) rfl ?_
      refine H.dup s0_141 rfl ?_
      refine H.iconst s0_142 (v := (3 : Int32)) (by decide) ?_
      refine H.lload s0_143 rfl ?_
      refine H.lastore s0_145 (i := 18) (j := 3) rfl (by decide) (ltb rfl)  (A' := (own_bb n0 ν (-1 : Int64) (-3 : Int64) f0 f1 f2 f3 t [.inr (.long, [(.long p1), (.long p2), (.long p3), (.long p4)])])) rfl ?_
      refine H.astore s0_146 rfl (ls' := #[.val (.int p0), .val (.long p1), .second, .val (.long p2), .second, .val (.long p3), .second, .val (.long p4), .second, .val (.long (wa ν)), .second, .val (.long (wb ν)), .second, .val (.long (wc ν)), .second, .val (.long (wp ν)), .second, .val (.int (1 : Int32)), .val (.int (3 : Int32)), .val (.ref (n0 + 0)), .val (.ref (n0 + 18)), .unset, .unset, .unset, .unset, .unset, .unset, .unset, .unset]) rfl ?_
      refine H.new s0_148 (k_93 hw) rfl (by decide) (by decide) (i := 19) rfl (A' := (own_bb n0 ν (-1 : Int64) (-3 : Int64) f0 f1 f2 f3 t [.inr (.long, [(.long p1), (.long p2), (.long p3), (.long p4)]), .inl (2, [.null, .null])])) rfl (k' := 20) rfl (n' := 164) rfl ?_
      refine H.dup s0_151 rfl ?_
      refine H.aload s0_152 rfl rfl ?_
      refine H.aload s0_154 rfl rfl ?_
      refine H.callCD s0_156 (k_100 hw) (d_1 l hw n0 ν (-1 : Int64) (-3 : Int64) f0 f1 f2 f3 t p1 p2 p3 p4) (argsL := [(.ref (n0 + 0)), (.ref (n0 + 18))]) (rest := [(.ref (n0 + 19))]) rfl rfl rfl rfl (leb rfl) (leb rfl) (leb rfl) (leb rfl) (st' := [(.ref (n0 + 19))]) rfl (k' := 20) rfl (n' := 164) rfl ?_
      refine H.callVD s0_159 (k_108 hw) (a_3 l hw n0 p1 p2 p3 p4 f0 f1 f2 f3 t ν) (i := 19) rfl (argsL := []) (rest := []) rfl rfl rfl rfl (leb rfl) (leb rfl) (leb rfl) (leb rfl) (st' := [(.ref (n0 + 20))]) rfl (k' := 21) rfl (n' := 168) rfl ?_
      refine H.astore s0_162 rfl (ls' := #[.val (.int p0), .val (.long p1), .second, .val (.long p2), .second, .val (.long p3), .second, .val (.long p4), .second, .val (.long (wa ν)), .second, .val (.long (wb ν)), .second, .val (.long (wc ν)), .second, .val (.long (wp ν)), .second, .val (.int (1 : Int32)), .val (.int (3 : Int32)), .val (.ref (n0 + 0)), .val (.ref (n0 + 18)), .val (.ref (n0 + 20)), .unset, .unset, .unset, .unset, .unset, .unset, .unset]) rfl ?_
      refine H.lload s0_164 rfl ?_
      refine H.lload s0_166 rfl ?_
      refine H.callSD s0_168 (k_109 hw) (m_minJ l hw n0 (own_bb n0 ν (-1 : Int64) (-3 : Int64) f0 f1 f2 f3 t [.inr (.long, [(.long p1), (.long p2), (.long p3), (.long p4)]), .inl (2, [(.ref (n0 + 0)), (.ref (n0 + 18))]), .inr (.long, [(.long p1), (.long (p2 + f1)), (.long p3), (.long (p4 + f2))])]) (wa ν) (wb ν)) (argsL := [(.long (wa ν)), (.long (wb ν))]) (rest := []) rfl rfl rfl rfl (leb rfl) (leb rfl) (leb rfl) (leb rfl) (st' := [(.long (own_minJ (wa ν) (wb ν)))]) rfl (k' := 21) rfl (n' := 168) rfl ?_
      refine H.lstore s0_171 (ls' := #[.val (.int p0), .val (.long p1), .second, .val (.long p2), .second, .val (.long p3), .second, .val (.long p4), .second, .val (.long (wa ν)), .second, .val (.long (wb ν)), .second, .val (.long (wc ν)), .second, .val (.long (wp ν)), .second, .val (.int (1 : Int32)), .val (.int (3 : Int32)), .val (.ref (n0 + 0)), .val (.ref (n0 + 18)), .val (.ref (n0 + 20)), .val (.long (own_minJ (wa ν) (wb ν))), .second, .unset, .unset, .unset, .unset, .unset]) rfl ?_
      refine H.iconst s0_173 (v := (4 : Int32)) (by decide) ?_
      refine H.newarray s0_174 (ty := .long) rfl (k_26 hw) (N := 4) (cap := 4) (by decide) rfl (by decide) (by decide) rfl (by decide) (by decide) (i := 21) rfl (A' := (own_bb n0 ν (-1 : Int64) (-3 : Int64) f0 f1 f2 f3 t [.inr (.long, [(.long p1), (.long p2), (.long p3), (.long p4)]), .inl (2, [(.ref (n0 + 0)), (.ref (n0 + 18))]), .inr (.long, [(.long p1), (.long (p2 + f1)), (.long p3), (.long (p4 + f2))]), .inr (.long, [(.long (0 : Int64)), (.long (0 : Int64)), (.long (0 : Int64)), (.long (0 : Int64))])])) rfl (k' := 22) rfl (n' := 172) rfl ?_
      refine H.dup s0_176 rfl ?_
      refine H.iconst s0_177 (v := (0 : Int32)) (by decide) ?_
      refine H.lloadN s0_178 rfl ?_
      refine H.lastore s0_179 (i := 21) (j := 0) rfl (by decide) (ltb rfl)  (A' := (own_bb n0 ν (-1 : Int64) (-3 : Int64) f0 f1 f2 f3 t [.inr (.long, [(.long p1), (.long p2), (.long p3), (.long p4)]), .inl (2, [(.ref (n0 + 0)), (.ref (n0 + 18))]), .inr (.long, [(.long p1), (.long (p2 + f1)), (.long p3), (.long (p4 + f2))]), .inr (.long, [(.long p1), (.long (0 : Int64)), (.long (0 : Int64)), (.long (0 : Int64))])])) rfl ?_
      refine H.dup s0_180 rfl ?_
      refine H.iconst s0_181 (v := (1 : Int32)) (by decide) ?_
      refine H.lloadN s0_182 rfl ?_
      refine H.lastore s0_183 (i := 21) (j := 1) rfl (by decide) (ltb rfl)  (A' := (own_bb n0 ν (-1 : Int64) (-3 : Int64) f0 f1 f2 f3 t [.inr (.long, [(.long p1), (.long p2), (.long p3), (.long p4)]), .inl (2, [(.ref (n0 + 0)), (.ref (n0 + 18))]), .inr (.long, [(.long p1), (.long (p2 + f1)), (.long p3), (.long (p4 + f2))]), .inr (.long, [(.long p1), (.long p2), (.long (0 : Int64)), (.long (0 : Int64))])])) rfl ?_
      refine H.dup s0_184 rfl ?_
      refine H.iconst s0_185 (v := (2 : Int32)) (by decide) ?_
      refine H.lload s0_186 rfl ?_
      refine H.lastore s0_188 (i := 21) (j := 2) rfl (by decide) (ltb rfl)  (A' := (own_bb n0 ν (-1 : Int64) (-3 : Int64) f0 f1 f2 f3 t [.inr (.long, [(.long p1), (.long p2), (.long p3), (.long p4)]), .inl (2, [(.ref (n0 + 0)), (.ref (n0 + 18))]), .inr (.long, [(.long p1), (.long (p2 + f1)), (.long p3), (.long (p4 + f2))]), .inr (.long, [(.long p1), (.long p2), (.long p3), (.long (0 : Int64))])])) rfl ?_
      refine H.dup s0_189 rfl ?_
      refine H.iconst s0_190 (v := (3 : Int32)) (by decide) ?_
      refine H.lload s0_191 rfl ?_
      refine H.lastore s0_193 (i := 21) (j := 3) rfl (by decide) (ltb rfl)  (A' := (own_bb n0 ν (-1 : Int64) (-3 : Int64) f0 f1 f2 f3 t [.inr (.long, [(.long p1), (.long p2), (.long p3), (.long p4)]), .inl (2, [(.ref (n0 + 0)), (.ref (n0 + 18))]), .inr (.long, [(.long p1), (.long (p2 + f1)), (.long p3), (.long (p4 + f2))]), .inr (.long, [(.long p1), (.long p2), (.long p3), (.long p4)])])) rfl ?_
      refine H.astore s0_194 rfl (ls' := #[.val (.int p0), .val (.long p1), .second, .val (.long p2), .second, .val (.long p3), .second, .val (.long p4), .second, .val (.long (wa ν)), .second, .val (.long (wb ν)), .second, .val (.long (wc ν)), .second, .val (.long (wp ν)), .second, .val (.int (1 : Int32)), .val (.int (3 : Int32)), .val (.ref (n0 + 0)), .val (.ref (n0 + 18)), .val (.ref (n0 + 20)), .val (.long (own_minJ (wa ν) (wb ν))), .second, .val (.ref (n0 + 21)), .unset, .unset, .unset, .unset]) rfl ?_
      refine H.iload s0_196 rfl ?_
      refine H.iload s0_198 rfl ?_
      refine H.icmpT s0_200 (show ¬ (1 : Int32) = (3 : Int32) by decide) ?_
      refine H.iload s0_224 rfl ?_
      refine H.iload s0_226 rfl ?_
      refine H.icmpT s0_228 (show ¬ (3 : Int32) < (1 : Int32) by decide) ?_
      refine H.lload s0_275 rfl ?_
      refine H.lload s0_277 rfl ?_
      refine H.callSD s0_279 (k_109 hw) (m_minJ l hw n0 (own_bb n0 ν (-1 : Int64) (-3 : Int64) f0 f1 f2 f3 t [.inr (.long, [(.long p1), (.long p2), (.long p3), (.long p4)]), .inl (2, [(.ref (n0 + 0)), (.ref (n0 + 18))]), .inr (.long, [(.long p1), (.long (p2 + f1)), (.long p3), (.long (p4 + f2))]), .inr (.long, [(.long p1), (.long p2), (.long p3), (.long p4)])]) (wc ν) (wp ν)) (argsL := [(.long (wc ν)), (.long (wp ν))]) (rest := []) rfl rfl rfl rfl (leb rfl) (leb rfl) (leb rfl) (leb rfl) (st' := [(.long (own_minJ (wc ν) (wp ν)))]) rfl (k' := 22) rfl (n' := 172) rfl ?_
      refine H.lstore s0_282 (ls' := #[.val (.int p0), .val (.long p1), .second, .val (.long p2), .second, .val (.long p3), .second, .val (.long p4), .second, .val (.long (wa ν)), .second, .val (.long (wb ν)), .second, .val (.long (wc ν)), .second, .val (.long (wp ν)), .second, .val (.int (1 : Int32)), .val (.int (3 : Int32)), .val (.ref (n0 + 0)), .val (.ref (n0 + 18)), .val (.ref (n0 + 20)), .val (.long (own_minJ (wa ν) (wb ν))), .second, .val (.ref (n0 + 21)), .val (.long (own_minJ (wc ν) (wp ν))), .second, .unset, .unset]) rfl ?_
      refine H.lload s0_284 rfl ?_
      refine H.lload s0_286 rfl ?_
      refine H.lload s0_288 rfl ?_
      refine H.lsub s0_290 rfl ?_
      refine H.callSD s0_291 (k_109 hw) (m_minJ l hw n0 (own_bb n0 ν (-1 : Int64) (-3 : Int64) f0 f1 f2 f3 t [.inr (.long, [(.long p1), (.long p2), (.long p3), (.long p4)]), .inl (2, [(.ref (n0 + 0)), (.ref (n0 + 18))]), .inr (.long, [(.long p1), (.long (p2 + f1)), (.long p3), (.long (p4 + f2))]), .inr (.long, [(.long p1), (.long p2), (.long p3), (.long p4)])]) (own_minJ (wa ν) (wb ν)) ((wp ν) - (own_minJ (wc ν) (wp ν)))) (argsL := [(.long (own_minJ (wa ν) (wb ν))), (.long ((wp ν) - (own_minJ (wc ν) (wp ν))))]) (rest := []) rfl rfl rfl rfl (leb rfl) (leb rfl) (leb rfl) (leb rfl) (st' := [(.long (own_minJ (own_minJ (wa ν) (wb ν)) ((wp ν) - (own_minJ (wc ν) (wp ν)))))]) rfl (k' := 22) rfl (n' := 172) rfl ?_
      refine H.lstore s0_294 (ls' := #[.val (.int p0), .val (.long p1), .second, .val (.long p2), .second, .val (.long p3), .second, .val (.long p4), .second, .val (.long (wa ν)), .second, .val (.long (wb ν)), .second, .val (.long (wc ν)), .second, .val (.long (wp ν)), .second, .val (.int (1 : Int32)), .val (.int (3 : Int32)), .val (.ref (n0 + 0)), .val (.ref (n0 + 18)), .val (.ref (n0 + 20)), .val (.long (own_minJ (wa ν) (wb ν))), .second, .val (.ref (n0 + 21)), .val (.long (own_minJ (wc ν) (wp ν))), .second, .val (.long (own_minJ (own_minJ (wa ν) (wb ν)) ((wp ν) - (own_minJ (wc ν) (wp ν))))), .second]) rfl ?_
      refine H.aload s0_296 rfl rfl ?_
      refine H.iload s0_298 rfl ?_
      refine H.dup2 s0_300 rfl rfl ?_
      refine H.laload s0_301 (i := 21) (j := 1) rfl (by decide) (v := (.long p2)) rfl ?_
      refine H.lload s0_302 rfl ?_
      refine H.ladd s0_304 rfl ?_
      refine H.lastore s0_305 (i := 21) (j := 1) rfl (by decide) (ltb rfl)  (A' := (own_bb n0 ν (-1 : Int64) (-3 : Int64) f0 f1 f2 f3 t [.inr (.long, [(.long p1), (.long p2), (.long p3), (.long p4)]), .inl (2, [(.ref (n0 + 0)), (.ref (n0 + 18))]), .inr (.long, [(.long p1), (.long (p2 + f1)), (.long p3), (.long (p4 + f2))]), .inr (.long, [(.long p1), (.long (p2 + (own_minJ (own_minJ (wa ν) (wb ν)) ((wp ν) - (own_minJ (wc ν) (wp ν)))))), (.long p3), (.long p4)])])) rfl ?_
      refine H.aload s0_306 rfl rfl ?_
      refine H.iload s0_308 rfl ?_
      refine H.dup2 s0_310 rfl rfl ?_
      refine H.laload s0_311 (i := 21) (j := 3) rfl (by decide) (v := (.long p4)) rfl ?_
      refine H.lload s0_312 rfl ?_
      refine H.ladd s0_314 rfl ?_
      refine H.lastore s0_315 (i := 21) (j := 3) rfl (by decide) (ltb rfl)  (A' := (own_bb n0 ν (-1 : Int64) (-3 : Int64) f0 f1 f2 f3 t [.inr (.long, [(.long p1), (.long p2), (.long p3), (.long p4)]), .inl (2, [(.ref (n0 + 0)), (.ref (n0 + 18))]), .inr (.long, [(.long p1), (.long (p2 + f1)), (.long p3), (.long (p4 + f2))]), .inr (.long, [(.long p1), (.long (p2 + (own_minJ (own_minJ (wa ν) (wb ν)) ((wp ν) - (own_minJ (wc ν) (wp ν)))))), (.long p3), (.long (p4 + (own_minJ (wc ν) (wp ν))))])])) rfl ?_
      refine H.aload s0_316 rfl rfl ?_
      refine H.aload s0_318 rfl rfl ?_
      refine H.acmp s0_320 rfl rfl (same := false) (by simp) ?_
      show G 323 _ _ _ _ _
      refine H.aload s0_323 rfl rfl ?_
      refine H.arraylength s0_325 (i := 20) rfl (z := (4 : Int32)) rfl ?_
      refine H.iconst s0_326 (v := (4 : Int32)) (by decide) ?_
      refine H.icmpT s0_327 (show (4 : Int32) = (4 : Int32) by decide) ?_
      refine H.aload s0_332 rfl rfl ?_
      refine H.iconst s0_334 (v := (0 : Int32)) (by decide) ?_
      refine H.laload s0_335 (i := 20) (j := 0) rfl (by decide) (v := (.long p1)) rfl ?_
      refine H.aload s0_336 rfl rfl ?_
      refine H.iconst s0_338 (v := (0 : Int32)) (by decide) ?_
      refine H.laload s0_339 (i := 21) (j := 0) rfl (by decide) (v := (.long p1)) rfl ?_
      refine H.lifF s0_340 s0_341 rfl ?_
      refine H.aload s0_344 rfl rfl ?_
      refine H.iconst s0_346 (v := (1 : Int32)) (by decide) ?_
      refine H.laload s0_347 (i := 20) (j := 1) rfl (by decide) (v := (.long (p2 + f1))) rfl ?_
      refine H.aload s0_348 rfl rfl ?_
      refine H.iconst s0_350 (v := (1 : Int32)) (by decide) ?_
      refine H.laload s0_351 (i := 21) (j := 1) rfl (by decide) (v := (.long (p2 + (own_minJ (own_minJ (wa ν) (wb ν)) ((wp ν) - (own_minJ (wc ν) (wp ν))))))) rfl ?_
      refine H.lifF s0_352 s0_353 (congrArg (fun z => p2 + z) hf.2) ?_
      refine H.aload s0_356 rfl rfl ?_
      refine H.iconst s0_358 (v := (2 : Int32)) (by decide) ?_
      refine H.laload s0_359 (i := 20) (j := 2) rfl (by decide) (v := (.long p3)) rfl ?_
      refine H.aload s0_360 rfl rfl ?_
      refine H.iconst s0_362 (v := (2 : Int32)) (by decide) ?_
      refine H.laload s0_363 (i := 21) (j := 2) rfl (by decide) (v := (.long p3)) rfl ?_
      refine H.lifF s0_364 s0_365 rfl ?_
      refine H.aload s0_368 rfl rfl ?_
      refine H.iconst s0_370 (v := (3 : Int32)) (by decide) ?_
      refine H.laload s0_371 (i := 20) (j := 3) rfl (by decide) (v := (.long (p4 + f2))) rfl ?_
      refine H.aload s0_372 rfl rfl ?_
      refine H.iconst s0_374 (v := (3 : Int32)) (by decide) ?_
      refine H.laload s0_375 (i := 21) (j := 3) rfl (by decide) (v := (.long (p4 + (own_minJ (wc ν) (wp ν))))) rfl ?_
      refine H.lifF s0_376 s0_377 (congrArg (fun z => p4 + z) hf.1) ?_
      refine H.iconst s0_380 (v := (1 : Int32)) (by decide) ?_
      refine H.goto s0_381 ?_
      refine H.istore s0_385 (ls' := #[.val (.int p0), .val (.long p1), .second, .val (.long p2), .second, .val (.long p3), .second, .val (.long p4), .second, .val (.long (wa ν)), .second, .val (.long (wb ν)), .second, .val (.long (wc ν)), .second, .val (.long (wp ν)), .second, .val (.int (1 : Int32)), .val (.int (3 : Int32)), .val (.ref (n0 + 0)), .val (.ref (n0 + 18)), .val (.ref (n0 + 20)), .val (.long (own_minJ (wa ν) (wb ν))), .second, .val (.ref (n0 + 21)), .val (.int (1 : Int32)), .unset, .val (.long (own_minJ (own_minJ (wa ν) (wb ν)) ((wp ν) - (own_minJ (wc ν) (wp ν))))), .second]) rfl ?_
      refine H.aload s0_387 rfl rfl ?_
      refine H.iconst s0_389 (v := (0 : Int32)) (by decide) ?_
      refine H.laload s0_390 (i := 18) (j := 0) rfl (by decide) (v := (.long p1)) rfl ?_
      refine H.lloadN s0_391 rfl ?_
      refine H.lifF s0_392 s0_393 rfl ?_
      refine H.aload s0_396 rfl rfl ?_
      refine H.iconst s0_398 (v := (1 : Int32)) (by decide) ?_
      refine H.laload s0_399 (i := 18) (j := 1) rfl (by decide) (v := (.long p2)) rfl ?_
      refine H.lloadN s0_400 rfl ?_
      refine H.lifF s0_401 s0_402 rfl ?_
      refine H.aload s0_405 rfl rfl ?_
      refine H.iconst s0_407 (v := (2 : Int32)) (by decide) ?_
      refine H.laload s0_408 (i := 18) (j := 2) rfl (by decide) (v := (.long p3)) rfl ?_
      refine H.lload s0_409 rfl ?_
      refine H.lifF s0_411 s0_412 rfl ?_
      refine H.aload s0_415 rfl rfl ?_
      refine H.iconst s0_417 (v := (3 : Int32)) (by decide) ?_
      refine H.laload s0_418 (i := 18) (j := 3) rfl (by decide) (v := (.long p4)) rfl ?_
      refine H.lload s0_419 rfl ?_
      refine H.lifF s0_421 s0_422 rfl ?_
      refine H.iconst s0_425 (v := (1 : Int32)) (by decide) ?_
      refine H.goto s0_426 ?_
      refine H.istore s0_430 (ls' := #[.val (.int p0), .val (.long p1), .second, .val (.long p2), .second, .val (.long p3), .second, .val (.long p4), .second, .val (.long (wa ν)), .second, .val (.long (wb ν)), .second, .val (.long (wc ν)), .second, .val (.long (wp ν)), .second, .val (.int (1 : Int32)), .val (.int (3 : Int32)), .val (.ref (n0 + 0)), .val (.ref (n0 + 18)), .val (.ref (n0 + 20)), .val (.long (own_minJ (wa ν) (wb ν))), .second, .val (.ref (n0 + 21)), .val (.int (1 : Int32)), .val (.int (1 : Int32)), .val (.long (own_minJ (own_minJ (wa ν) (wb ν)) ((wp ν) - (own_minJ (wc ν) (wp ν))))), .second]) rfl ?_
      refine H.iload s0_432 rfl ?_
      refine H.ifF s0_434 (show ¬ (1 : Int32) = (0 : Int32) by decide) ?_
      refine H.iload s0_437 rfl ?_
      refine H.ifF s0_439 (show ¬ (1 : Int32) = (0 : Int32) by decide) ?_
      refine H.iconst s0_442 (v := (1 : Int32)) (by decide) ?_
      refine H.goto s0_443 ?_
      exact H.ireturn s0_447 rfl (by simp) rfl rfl (by decide) (by decide)
  · refine H.iadd s0_45 (w := (2 : Int32)) hz45 ?_
    refine H.istore s0_46 (ls' := #[.val (.int p0), .val (.long p1), .second, .val (.long p2), .second, .val (.long p3), .second, .val (.long p4), .second, .val (.long (wa ν)), .second, .val (.long (wb ν)), .second, .val (.long (wc ν)), .second, .val (.long (wp ν)), .second, .val (.int (2 : Int32)), .unset, .unset, .unset, .unset, .unset, .unset, .unset, .unset, .unset, .unset, .unset]) rfl ?_
    refine H.iloadN s0_48 rfl ?_
    refine H.bipush s0_49 (v := (15 : Int32)) (by decide) ?_
    refine H.iushr s0_51 rfl ?_
    refine H.iconst s0_52 (v := (3 : Int32)) (by decide) ?_
    refine H.iand s0_53 rfl ?_
    refine H.iconst s0_54 (v := (3 : Int32)) (by decide) ?_
    refine H.irem s0_55 (by decide) rfl ?_
    refine H.iconst s0_56 (v := (1 : Int32)) (by decide) ?_
    rcases own_r3 _ with hz57 | hz57 | hz57
    · refine H.iadd s0_57 (w := (1 : Int32)) hz57 ?_
      refine H.istore s0_58 (ls' := #[.val (.int p0), .val (.long p1), .second, .val (.long p2), .second, .val (.long p3), .second, .val (.long p4), .second, .val (.long (wa ν)), .second, .val (.long (wb ν)), .second, .val (.long (wc ν)), .second, .val (.long (wp ν)), .second, .val (.int (2 : Int32)), .val (.int (1 : Int32)), .unset, .unset, .unset, .unset, .unset, .unset, .unset, .unset, .unset, .unset]) rfl ?_
      refine H.new s0_60 (k_82 hw) rfl (by decide) (by decide) (i := 0) rfl (A' := [.inl (0, [.null, .null, .null, .null, .null, (.int (0 : Int32)), (.long (0 : Int64)), (.int (0 : Int32))])]) rfl (k' := 1) rfl (n' := 8) rfl ?_
      refine H.dup s0_63 rfl ?_
      refine H.iconst s0_64 (v := (3 : Int32)) (by decide) ?_
      refine H.callCD s0_65 (k_90 hw) (a_0 l hw n0) (argsL := [(.int (3 : Int32))]) (rest := [(.ref (n0 + 0))]) rfl rfl rfl rfl (leb rfl) (leb rfl) (leb rfl) (leb rfl) (st' := [(.ref (n0 + 0))]) rfl (k' := 6) rfl (n' := 88) rfl ?_
      refine H.astore s0_68 rfl (ls' := #[.val (.int p0), .val (.long p1), .second, .val (.long p2), .second, .val (.long p3), .second, .val (.long p4), .second, .val (.long (wa ν)), .second, .val (.long (wb ν)), .second, .val (.long (wc ν)), .second, .val (.long (wp ν)), .second, .val (.int (2 : Int32)), .val (.int (1 : Int32)), .val (.ref (n0 + 0)), .unset, .unset, .unset, .unset, .unset, .unset, .unset, .unset, .unset]) rfl ?_
      refine H.aload s0_70 rfl rfl ?_
      refine H.iconst s0_72 (v := (0 : Int32)) (by decide) ?_
      refine H.iconst s0_73 (v := (2 : Int32)) (by decide) ?_
      refine H.lload s0_74 rfl ?_
      refine H.lconst s0_76 (v := (0 : Int64)) (by decide) ?_
      refine H.callVD s0_77 (k_91 hw) (c_add0 l hw n0 hB) (i := 0) rfl (argsL := [(.int (0 : Int32)), (.int (2 : Int32)), (.long (wa ν)), (.long (0 : Int64))]) (rest := []) rfl rfl rfl rfl (leb rfl) (leb rfl) (leb rfl) (leb rfl) (st' := [(.int (0 : Int32))]) rfl (k' := 6) rfl (n' := 88) rfl ?_
      refine H.pop s0_80 rfl ?_
      refine H.aload s0_81 rfl rfl ?_
      refine H.iconst s0_83 (v := (2 : Int32)) (by decide) ?_
      refine H.iconst s0_84 (v := (1 : Int32)) (by decide) ?_
      refine H.lload s0_85 rfl ?_
      refine H.iload s0_87 rfl ?_
      refine H.ineg s0_89 (w := (-2 : Int32)) (by decide) ?_
      refine H.i2l s0_90 (w := (-2 : Int64)) (by decide) ?_
      refine H.callVD s0_91 (k_91 hw) (c_add8 l hw n0 hB) (i := 0) rfl (argsL := [(.int (2 : Int32)), (.int (1 : Int32)), (.long (wb ν)), (.long (-2 : Int64))]) (rest := []) rfl rfl rfl rfl (leb rfl) (leb rfl) (leb rfl) (leb rfl) (st' := [(.int (1 : Int32))]) rfl (k' := 6) rfl (n' := 88) rfl ?_
      refine H.pop s0_94 rfl ?_
      refine H.aload s0_95 rfl rfl ?_
      refine H.iconst s0_97 (v := (0 : Int32)) (by decide) ?_
      refine H.iconst s0_98 (v := (1 : Int32)) (by decide) ?_
      refine H.lload s0_99 rfl ?_
      refine H.iload s0_101 rfl ?_
      refine H.ineg s0_103 (w := (-1 : Int32)) (by decide) ?_
      refine H.i2l s0_104 (w := (-1 : Int64)) (by decide) ?_
      refine H.callVD s0_105 (k_91 hw) (c_add9 l hw n0 hB) (i := 0) rfl (argsL := [(.int (0 : Int32)), (.int (1 : Int32)), (.long (wc ν)), (.long (-1 : Int64))]) (rest := []) rfl rfl rfl rfl (leb rfl) (leb rfl) (leb rfl) (leb rfl) (st' := [(.int (2 : Int32))]) rfl (k' := 6) rfl (n' := 88) rfl ?_
      refine H.pop s0_108 rfl ?_
      refine H.aload s0_109 rfl rfl ?_
      refine H.iconst s0_111 (v := (1 : Int32)) (by decide) ?_
      refine H.iconst s0_112 (v := (0 : Int32)) (by decide) ?_
      refine H.lload s0_113 rfl ?_
      refine H.lconst s0_115 (v := (0 : Int64)) (by decide) ?_
      refine H.callVD s0_116 (k_91 hw) (c_add10 l hw n0 hB) (i := 0) rfl (argsL := [(.int (1 : Int32)), (.int (0 : Int32)), (.long (wp ν)), (.long (0 : Int64))]) (rest := []) rfl rfl rfl rfl (leb rfl) (leb rfl) (leb rfl) (leb rfl) (st' := [(.int (3 : Int32))]) rfl (k' := 6) rfl (n' := 88) rfl ?_
      refine H.pop s0_119 rfl ?_
      refine H.aload s0_120 rfl rfl ?_
      refine H.callVW s0_122 (k_92 hw) (c_solve21 l hw n0 hB) (i := 0) rfl (argsL := []) (rest := []) rfl rfl rfl rfl (leb rfl) (leb rfl) (leb rfl) (leb rfl) ?_
      rintro v A' ⟨rfl, f0, f1, f2, f3, TT, hTT, rfl, hs⟩
      obtain ⟨t, rfl⟩ := own_twelve hTT
      show G 125 #[.val (.int p0), .val (.long p1), .second, .val (.long p2), .second, .val (.long p3), .second, .val (.long p4), .second, .val (.long (wa ν)), .second, .val (.long (wb ν)), .second, .val (.long (wc ν)), .second, .val (.long (wp ν)), .second, .val (.int (2 : Int32)), .val (.int (1 : Int32)), .val (.ref (n0 + 0)), .unset, .unset, .unset, .unset, .unset, .unset, .unset, .unset, .unset] [] (own_bb n0 ν (-2 : Int64) (-1 : Int64) f0 f1 f2 f3 t []) 18 158
      obtain ⟨⟨ba1, ba2⟩, ⟨bb1, bb2⟩, ⟨bc1, bc2⟩, ⟨bp1, bp2⟩⟩ := id hB
      obtain ⟨va, vb, vc, vp⟩ := own_w hB
      obtain ⟨bf, bg, hs⟩ := hs
      have hf := own_gt (f := f1) (g := f2) va vb vc vp ⟨ba1, by omega⟩ ⟨bb1, by omega⟩ ⟨bc1, by omega⟩ ⟨bp1, by omega⟩ (by simpa using hs)
      refine H.iconst s0_125 (v := (4 : Int32)) (by decide) ?_
      refine H.newarray s0_126 (ty := .long) rfl (k_26 hw) (N := 4) (cap := 4) (by decide) rfl (by decide) (by decide) rfl (by decide) (by decide) (i := 18) rfl (A' := (own_bb n0 ν (-2 : Int64) (-1 : Int64) f0 f1 f2 f3 t [.inr (.long, [(.long (0 : Int64)), (.long (0 : Int64)), (.long (0 : Int64)), (.long (0 : Int64))])])) rfl (k' := 19) rfl (n' := 162) rfl ?_
      refine H.dup s0_128 rfl ?_
      refine H.iconst s0_129 (v := (0 : Int32)) (by decide) ?_
      refine H.lloadN s0_130 rfl ?_
      refine H.lastore s0_131 (i := 18) (j := 0) rfl (by decide) (ltb rfl)  (A' := (own_bb n0 ν (-2 : Int64) (-1 : Int64) f0 f1 f2 f3 t [.inr (.long, [(.long p1), (.long (0 : Int64)), (.long (0 : Int64)), (.long (0 : Int64))])])) rfl ?_
      refine H.dup s0_132 rfl ?_
      refine H.iconst s0_133 (v := (1 : Int32)) (by decide) ?_
      refine H.lloadN s0_134 rfl ?_
      refine H.lastore s0_135 (i := 18) (j := 1) rfl (by decide) (ltb rfl)  (A' := (own_bb n0 ν (-2 : Int64) (-1 : Int64) f0 f1 f2 f3 t [.inr (.long, [(.long p1), (.long p2), (.long (0 : Int64)), (.long (0 : Int64))])])) rfl ?_
      refine H.dup s0_136 rfl ?_
      refine H.iconst s0_137 (v := (2 : Int32)) (by decide) ?_
      refine H.lload s0_138 rfl ?_
      refine H.lastore s0_140 (i := 18) (j := 2) rfl (by decide) (ltb rfl)  (A' := (own_bb n0 ν (-2 : Int64) (-1 : Int64) f0 f1 f2 f3 t [.inr (.long, [(.long p1), (.long p2), (.long p3), (.long (0 : Int64))])])) rfl ?_
      refine H.dup s0_141 rfl ?_
      refine H.iconst s0_142 (v := (3 : Int32)) (by decide) ?_
      refine H.lload s0_143 rfl ?_
      refine H.lastore s0_145 (i := 18) (j := 3) rfl (by decide) (ltb rfl)  (A' := (own_bb n0 ν (-2 : Int64) (-1 : Int64) f0 f1 f2 f3 t [.inr (.long, [(.long p1), (.long p2), (.long p3), (.long p4)])])) rfl ?_
      refine H.astore s0_146 rfl (ls' := #[.val (.int p0), .val (.long p1), .second, .val (.long p2), .second, .val (.long p3), .second, .val (.long p4), .second, .val (.long (wa ν)), .second, .val (.long (wb ν)), .second, .val (.long (wc ν)), .second, .val (.long (wp ν)), .second, .val (.int (2 : Int32)), .val (.int (1 : Int32)), .val (.ref (n0 + 0)), .val (.ref (n0 + 18)), .unset, .unset, .unset, .unset, .unset, .unset, .unset, .unset]) rfl ?_
      refine H.new s0_148 (k_93 hw) rfl (by decide) (by decide) (i := 19) rfl (A' := (own_bb n0 ν (-2 : Int64) (-1 : Int64) f0 f1 f2 f3 t [.inr (.long, [(.long p1), (.long p2), (.long p3), (.long p4)]), .inl (2, [.null, .null])])) rfl (k' := 20) rfl (n' := 164) rfl ?_
      refine H.dup s0_151 rfl ?_
      refine H.aload s0_152 rfl rfl ?_
      refine H.aload s0_154 rfl rfl ?_
      refine H.callCD s0_156 (k_100 hw) (d_1 l hw n0 ν (-2 : Int64) (-1 : Int64) f0 f1 f2 f3 t p1 p2 p3 p4) (argsL := [(.ref (n0 + 0)), (.ref (n0 + 18))]) (rest := [(.ref (n0 + 19))]) rfl rfl rfl rfl (leb rfl) (leb rfl) (leb rfl) (leb rfl) (st' := [(.ref (n0 + 19))]) rfl (k' := 20) rfl (n' := 164) rfl ?_
      refine H.callVD s0_159 (k_108 hw) (a_4 l hw n0 p1 p2 p3 p4 f0 f1 f2 f3 t ν) (i := 19) rfl (argsL := []) (rest := []) rfl rfl rfl rfl (leb rfl) (leb rfl) (leb rfl) (leb rfl) (st' := [(.ref (n0 + 20))]) rfl (k' := 21) rfl (n' := 168) rfl ?_
      refine H.astore s0_162 rfl (ls' := #[.val (.int p0), .val (.long p1), .second, .val (.long p2), .second, .val (.long p3), .second, .val (.long p4), .second, .val (.long (wa ν)), .second, .val (.long (wb ν)), .second, .val (.long (wc ν)), .second, .val (.long (wp ν)), .second, .val (.int (2 : Int32)), .val (.int (1 : Int32)), .val (.ref (n0 + 0)), .val (.ref (n0 + 18)), .val (.ref (n0 + 20)), .unset, .unset, .unset, .unset, .unset, .unset, .unset]) rfl ?_
      refine H.lload s0_164 rfl ?_
      refine H.lload s0_166 rfl ?_
      refine H.callSD s0_168 (k_109 hw) (m_minJ l hw n0 (own_bb n0 ν (-2 : Int64) (-1 : Int64) f0 f1 f2 f3 t [.inr (.long, [(.long p1), (.long p2), (.long p3), (.long p4)]), .inl (2, [(.ref (n0 + 0)), (.ref (n0 + 18))]), .inr (.long, [(.long p1), (.long (p2 + f2)), (.long (p3 + f1)), (.long p4)])]) (wa ν) (wb ν)) (argsL := [(.long (wa ν)), (.long (wb ν))]) (rest := []) rfl rfl rfl rfl (leb rfl) (leb rfl) (leb rfl) (leb rfl) (st' := [(.long (own_minJ (wa ν) (wb ν)))]) rfl (k' := 21) rfl (n' := 168) rfl ?_
      refine H.lstore s0_171 (ls' := #[.val (.int p0), .val (.long p1), .second, .val (.long p2), .second, .val (.long p3), .second, .val (.long p4), .second, .val (.long (wa ν)), .second, .val (.long (wb ν)), .second, .val (.long (wc ν)), .second, .val (.long (wp ν)), .second, .val (.int (2 : Int32)), .val (.int (1 : Int32)), .val (.ref (n0 + 0)), .val (.ref (n0 + 18)), .val (.ref (n0 + 20)), .val (.long (own_minJ (wa ν) (wb ν))), .second, .unset, .unset, .unset, .unset, .unset]) rfl ?_
      refine H.iconst s0_173 (v := (4 : Int32)) (by decide) ?_
      refine H.newarray s0_174 (ty := .long) rfl (k_26 hw) (N := 4) (cap := 4) (by decide) rfl (by decide) (by decide) rfl (by decide) (by decide) (i := 21) rfl (A' := (own_bb n0 ν (-2 : Int64) (-1 : Int64) f0 f1 f2 f3 t [.inr (.long, [(.long p1), (.long p2), (.long p3), (.long p4)]), .inl (2, [(.ref (n0 + 0)), (.ref (n0 + 18))]), .inr (.long, [(.long p1), (.long (p2 + f2)), (.long (p3 + f1)), (.long p4)]), .inr (.long, [(.long (0 : Int64)), (.long (0 : Int64)), (.long (0 : Int64)), (.long (0 : Int64))])])) rfl (k' := 22) rfl (n' := 172) rfl ?_
      refine H.dup s0_176 rfl ?_
      refine H.iconst s0_177 (v := (0 : Int32)) (by decide) ?_
      refine H.lloadN s0_178 rfl ?_
      refine H.lastore s0_179 (i := 21) (j := 0) rfl (by decide) (ltb rfl)  (A' := (own_bb n0 ν (-2 : Int64) (-1 : Int64) f0 f1 f2 f3 t [.inr (.long, [(.long p1), (.long p2), (.long p3), (.long p4)]), .inl (2, [(.ref (n0 + 0)), (.ref (n0 + 18))]), .inr (.long, [(.long p1), (.long (p2 + f2)), (.long (p3 + f1)), (.long p4)]), .inr (.long, [(.long p1), (.long (0 : Int64)), (.long (0 : Int64)), (.long (0 : Int64))])])) rfl ?_
      refine H.dup s0_180 rfl ?_
      refine H.iconst s0_181 (v := (1 : Int32)) (by decide) ?_
      refine H.lloadN s0_182 rfl ?_
      refine H.lastore s0_183 (i := 21) (j := 1) rfl (by decide) (ltb rfl)  (A' := (own_bb n0 ν (-2 : Int64) (-1 : Int64) f0 f1 f2 f3 t [.inr (.long, [(.long p1), (.long p2), (.long p3), (.long p4)]), .inl (2, [(.ref (n0 + 0)), (.ref (n0 + 18))]), .inr (.long, [(.long p1), (.long (p2 + f2)), (.long (p3 + f1)), (.long p4)]), .inr (.long, [(.long p1), (.long p2), (.long (0 : Int64)), (.long (0 : Int64))])])) rfl ?_
      refine H.dup s0_184 rfl ?_
      refine H.iconst s0_185 (v := (2 : Int32)) (by decide) ?_
      refine H.lload s0_186 rfl ?_
      refine H.lastore s0_188 (i := 21) (j := 2) rfl (by decide) (ltb rfl)  (A' := (own_bb n0 ν (-2 : Int64) (-1 : Int64) f0 f1 f2 f3 t [.inr (.long, [(.long p1), (.long p2), (.long p3), (.long p4)]), .inl (2, [(.ref (n0 + 0)), (.ref (n0 + 18))]), .inr (.long, [(.long p1), (.long (p2 + f2)), (.long (p3 + f1)), (.long p4)]), .inr (.long, [(.long p1), (.long p2), (.long p3), (.long (0 : Int64))])])) rfl ?_
      refine H.dup s0_189 rfl ?_
      refine H.iconst s0_190 (v := (3 : Int32)) (by decide) ?_
      refine H.lload s0_191 rfl ?_
      refine H.lastore s0_193 (i := 21) (j := 3) rfl (by decide) (ltb rfl)  (A' := (own_bb n0 ν (-2 : Int64) (-1 : Int64) f0 f1 f2 f3 t [.inr (.long, [(.long p1), (.long p2), (.long p3), (.long p4)]), .inl (2, [(.ref (n0 + 0)), (.ref (n0 + 18))]), .inr (.long, [(.long p1), (.long (p2 + f2)), (.long (p3 + f1)), (.long p4)]), .inr (.long, [(.long p1), (.long p2), (.long p3), (.long p4)])])) rfl ?_
      refine H.astore s0_194 rfl (ls' := #[.val (.int p0), .val (.long p1), .second, .val (.long p2), .second, .val (.long p3), .second, .val (.long p4), .second, .val (.long (wa ν)), .second, .val (.long (wb ν)), .second, .val (.long (wc ν)), .second, .val (.long (wp ν)), .second, .val (.int (2 : Int32)), .val (.int (1 : Int32)), .val (.ref (n0 + 0)), .val (.ref (n0 + 18)), .val (.ref (n0 + 20)), .val (.long (own_minJ (wa ν) (wb ν))), .second, .val (.ref (n0 + 21)), .unset, .unset, .unset, .unset]) rfl ?_
      refine H.iload s0_196 rfl ?_
      refine H.iload s0_198 rfl ?_
      refine H.icmpT s0_200 (show ¬ (2 : Int32) = (1 : Int32) by decide) ?_
      refine H.iload s0_224 rfl ?_
      refine H.iload s0_226 rfl ?_
      refine H.icmpF s0_228 (show (1 : Int32) < (2 : Int32) by decide) ?_
      refine H.lload s0_231 rfl ?_
      refine H.lload s0_233 rfl ?_
      refine H.callSD s0_235 (k_109 hw) (m_minJ l hw n0 (own_bb n0 ν (-2 : Int64) (-1 : Int64) f0 f1 f2 f3 t [.inr (.long, [(.long p1), (.long p2), (.long p3), (.long p4)]), .inl (2, [(.ref (n0 + 0)), (.ref (n0 + 18))]), .inr (.long, [(.long p1), (.long (p2 + f2)), (.long (p3 + f1)), (.long p4)]), .inr (.long, [(.long p1), (.long p2), (.long p3), (.long p4)])]) (own_minJ (wa ν) (wb ν)) (wp ν)) (argsL := [(.long (own_minJ (wa ν) (wb ν))), (.long (wp ν))]) (rest := []) rfl rfl rfl rfl (leb rfl) (leb rfl) (leb rfl) (leb rfl) (st' := [(.long (own_minJ (own_minJ (wa ν) (wb ν)) (wp ν)))]) rfl (k' := 22) rfl (n' := 172) rfl ?_
      refine H.lstore s0_238 (ls' := #[.val (.int p0), .val (.long p1), .second, .val (.long p2), .second, .val (.long p3), .second, .val (.long p4), .second, .val (.long (wa ν)), .second, .val (.long (wb ν)), .second, .val (.long (wc ν)), .second, .val (.long (wp ν)), .second, .val (.int (2 : Int32)), .val (.int (1 : Int32)), .val (.ref (n0 + 0)), .val (.ref (n0 + 18)), .val (.ref (n0 + 20)), .val (.long (own_minJ (wa ν) (wb ν))), .second, .val (.ref (n0 + 21)), .val (.long (own_minJ (own_minJ (wa ν) (wb ν)) (wp ν))), .second, .unset, .unset]) rfl ?_
      refine H.lload s0_240 rfl ?_
      refine H.lload s0_242 rfl ?_
      refine H.lload s0_244 rfl ?_
      refine H.lsub s0_246 rfl ?_
      refine H.callSD s0_247 (k_109 hw) (m_minJ l hw n0 (own_bb n0 ν (-2 : Int64) (-1 : Int64) f0 f1 f2 f3 t [.inr (.long, [(.long p1), (.long p2), (.long p3), (.long p4)]), .inl (2, [(.ref (n0 + 0)), (.ref (n0 + 18))]), .inr (.long, [(.long p1), (.long (p2 + f2)), (.long (p3 + f1)), (.long p4)]), .inr (.long, [(.long p1), (.long p2), (.long p3), (.long p4)])]) (wc ν) ((wp ν) - (own_minJ (own_minJ (wa ν) (wb ν)) (wp ν)))) (argsL := [(.long (wc ν)), (.long ((wp ν) - (own_minJ (own_minJ (wa ν) (wb ν)) (wp ν))))]) (rest := []) rfl rfl rfl rfl (leb rfl) (leb rfl) (leb rfl) (leb rfl) (st' := [(.long (own_minJ (wc ν) ((wp ν) - (own_minJ (own_minJ (wa ν) (wb ν)) (wp ν)))))]) rfl (k' := 22) rfl (n' := 172) rfl ?_
      refine H.lstore s0_250 (ls' := #[.val (.int p0), .val (.long p1), .second, .val (.long p2), .second, .val (.long p3), .second, .val (.long p4), .second, .val (.long (wa ν)), .second, .val (.long (wb ν)), .second, .val (.long (wc ν)), .second, .val (.long (wp ν)), .second, .val (.int (2 : Int32)), .val (.int (1 : Int32)), .val (.ref (n0 + 0)), .val (.ref (n0 + 18)), .val (.ref (n0 + 20)), .val (.long (own_minJ (wa ν) (wb ν))), .second, .val (.ref (n0 + 21)), .val (.long (own_minJ (own_minJ (wa ν) (wb ν)) (wp ν))), .second, .val (.long (own_minJ (wc ν) ((wp ν) - (own_minJ (own_minJ (wa ν) (wb ν)) (wp ν))))), .second]) rfl ?_
      refine H.aload s0_252 rfl rfl ?_
      refine H.iload s0_254 rfl ?_
      refine H.dup2 s0_256 rfl rfl ?_
      refine H.laload s0_257 (i := 21) (j := 2) rfl (by decide) (v := (.long p3)) rfl ?_
      refine H.lload s0_258 rfl ?_
      refine H.ladd s0_260 rfl ?_
      refine H.lastore s0_261 (i := 21) (j := 2) rfl (by decide) (ltb rfl)  (A' := (own_bb n0 ν (-2 : Int64) (-1 : Int64) f0 f1 f2 f3 t [.inr (.long, [(.long p1), (.long p2), (.long p3), (.long p4)]), .inl (2, [(.ref (n0 + 0)), (.ref (n0 + 18))]), .inr (.long, [(.long p1), (.long (p2 + f2)), (.long (p3 + f1)), (.long p4)]), .inr (.long, [(.long p1), (.long p2), (.long (p3 + (own_minJ (own_minJ (wa ν) (wb ν)) (wp ν)))), (.long p4)])])) rfl ?_
      refine H.aload s0_262 rfl rfl ?_
      refine H.iload s0_264 rfl ?_
      refine H.dup2 s0_266 rfl rfl ?_
      refine H.laload s0_267 (i := 21) (j := 1) rfl (by decide) (v := (.long p2)) rfl ?_
      refine H.lload s0_268 rfl ?_
      refine H.ladd s0_270 rfl ?_
      refine H.lastore s0_271 (i := 21) (j := 1) rfl (by decide) (ltb rfl)  (A' := (own_bb n0 ν (-2 : Int64) (-1 : Int64) f0 f1 f2 f3 t [.inr (.long, [(.long p1), (.long p2), (.long p3), (.long p4)]), .inl (2, [(.ref (n0 + 0)), (.ref (n0 + 18))]), .inr (.long, [(.long p1), (.long (p2 + f2)), (.long (p3 + f1)), (.long p4)]), .inr (.long, [(.long p1), (.long (p2 + (own_minJ (wc ν) ((wp ν) - (own_minJ (own_minJ (wa ν) (wb ν)) (wp ν)))))), (.long (p3 + (own_minJ (own_minJ (wa ν) (wb ν)) (wp ν)))), (.long p4)])])) rfl ?_
      refine H.goto s0_272 ?_
      refine H.aload s0_316 rfl rfl ?_
      refine H.aload s0_318 rfl rfl ?_
      refine H.acmp s0_320 rfl rfl (same := false) (by simp) ?_
      show G 323 _ _ _ _ _
      refine H.aload s0_323 rfl rfl ?_
      refine H.arraylength s0_325 (i := 20) rfl (z := (4 : Int32)) rfl ?_
      refine H.iconst s0_326 (v := (4 : Int32)) (by decide) ?_
      refine H.icmpT s0_327 (show (4 : Int32) = (4 : Int32) by decide) ?_
      refine H.aload s0_332 rfl rfl ?_
      refine H.iconst s0_334 (v := (0 : Int32)) (by decide) ?_
      refine H.laload s0_335 (i := 20) (j := 0) rfl (by decide) (v := (.long p1)) rfl ?_
      refine H.aload s0_336 rfl rfl ?_
      refine H.iconst s0_338 (v := (0 : Int32)) (by decide) ?_
      refine H.laload s0_339 (i := 21) (j := 0) rfl (by decide) (v := (.long p1)) rfl ?_
      refine H.lifF s0_340 s0_341 rfl ?_
      refine H.aload s0_344 rfl rfl ?_
      refine H.iconst s0_346 (v := (1 : Int32)) (by decide) ?_
      refine H.laload s0_347 (i := 20) (j := 1) rfl (by decide) (v := (.long (p2 + f2))) rfl ?_
      refine H.aload s0_348 rfl rfl ?_
      refine H.iconst s0_350 (v := (1 : Int32)) (by decide) ?_
      refine H.laload s0_351 (i := 21) (j := 1) rfl (by decide) (v := (.long (p2 + (own_minJ (wc ν) ((wp ν) - (own_minJ (own_minJ (wa ν) (wb ν)) (wp ν))))))) rfl ?_
      refine H.lifF s0_352 s0_353 (congrArg (fun z => p2 + z) hf.2) ?_
      refine H.aload s0_356 rfl rfl ?_
      refine H.iconst s0_358 (v := (2 : Int32)) (by decide) ?_
      refine H.laload s0_359 (i := 20) (j := 2) rfl (by decide) (v := (.long (p3 + f1))) rfl ?_
      refine H.aload s0_360 rfl rfl ?_
      refine H.iconst s0_362 (v := (2 : Int32)) (by decide) ?_
      refine H.laload s0_363 (i := 21) (j := 2) rfl (by decide) (v := (.long (p3 + (own_minJ (own_minJ (wa ν) (wb ν)) (wp ν))))) rfl ?_
      refine H.lifF s0_364 s0_365 (congrArg (fun z => p3 + z) hf.1) ?_
      refine H.aload s0_368 rfl rfl ?_
      refine H.iconst s0_370 (v := (3 : Int32)) (by decide) ?_
      refine H.laload s0_371 (i := 20) (j := 3) rfl (by decide) (v := (.long p4)) rfl ?_
      refine H.aload s0_372 rfl rfl ?_
      refine H.iconst s0_374 (v := (3 : Int32)) (by decide) ?_
      refine H.laload s0_375 (i := 21) (j := 3) rfl (by decide) (v := (.long p4)) rfl ?_
      refine H.lifF s0_376 s0_377 rfl ?_
      refine H.iconst s0_380 (v := (1 : Int32)) (by decide) ?_
      refine H.goto s0_381 ?_
      refine H.istore s0_385 (ls' := #[.val (.int p0), .val (.long p1), .second, .val (.long p2), .second, .val (.long p3), .second, .val (.long p4), .second, .val (.long (wa ν)), .second, .val (.long (wb ν)), .second, .val (.long (wc ν)), .second, .val (.long (wp ν)), .second, .val (.int (2 : Int32)), .val (.int (1 : Int32)), .val (.ref (n0 + 0)), .val (.ref (n0 + 18)), .val (.ref (n0 + 20)), .val (.long (own_minJ (wa ν) (wb ν))), .second, .val (.ref (n0 + 21)), .val (.int (1 : Int32)), .unset, .val (.long (own_minJ (wc ν) ((wp ν) - (own_minJ (own_minJ (wa ν) (wb ν)) (wp ν))))), .second]) rfl ?_
      refine H.aload s0_387 rfl rfl ?_
      refine H.iconst s0_389 (v := (0 : Int32)) (by decide) ?_
      refine H.laload s0_390 (i := 18) (j := 0) rfl (by decide) (v := (.long p1)) rfl ?_
      refine H.lloadN s0_391 rfl ?_
      refine H.lifF s0_392 s0_393 rfl ?_
      refine H.aload s0_396 rfl rfl ?_
      refine H.iconst s0_398 (v := (1 : Int32)) (by decide) ?_
      refine H.laload s0_399 (i := 18) (j := 1) rfl (by decide) (v := (.long p2)) rfl ?_
      refine H.lloadN s0_400 rfl ?_
      refine H.lifF s0_401 s0_402 rfl ?_
      refine H.aload s0_405 rfl rfl ?_
      refine H.iconst s0_407 (v := (2 : Int32)) (by decide) ?_
      refine H.laload s0_408 (i := 18) (j := 2) rfl (by decide) (v := (.long p3)) rfl ?_
      refine H.lload s0_409 rfl ?_
      refine H.lifF s0_411 s0_412 rfl ?_
      refine H.aload s0_415 rfl rfl ?_
      refine H.iconst s0_417 (v := (3 : Int32)) (by decide) ?_
      refine H.laload s0_418 (i := 18) (j := 3) rfl (by decide) (v := (.long p4)) rfl ?_
      refine H.lload s0_419 rfl ?_
      refine H.lifF s0_421 s0_422 rfl ?_
      refine H.iconst s0_425 (v := (1 : Int32)) (by decide) ?_
      refine H.goto s0_426 ?_
      refine H.istore s0_430 (ls' := #[.val (.int p0), .val (.long p1), .second, .val (.long p2), .second, .val (.long p3), .second, .val (.long p4), .second, .val (.long (wa ν)), .second, .val (.long (wb ν)), .second, .val (.long (wc ν)), .second, .val (.long (wp ν)), .second, .val (.int (2 : Int32)), .val (.int (1 : Int32)), .val (.ref (n0 + 0)), .val (.ref (n0 + 18)), .val (.ref (n0 + 20)), .val (.long (own_minJ (wa ν) (wb ν))), .second, .val (.ref (n0 + 21)), .val (.int (1 : Int32)), .val (.int (1 : Int32)), .val (.long (own_minJ (wc ν) ((wp ν) - (own_minJ (own_minJ (wa ν) (wb ν)) (wp ν))))), .second]) rfl ?_
      refine H.iload s0_432 rfl ?_
      refine H.ifF s0_434 (show ¬ (1 : Int32) = (0 : Int32) by decide) ?_
      refine H.iload s0_437 rfl ?_
      refine H.ifF s0_439 (show ¬ (1 : Int32) = (0 : Int32) by decide) ?_
      refine H.iconst s0_442 (v := (1 : Int32)) (by decide) ?_
      refine H.goto s0_443 ?_
      exact H.ireturn s0_447 rfl (by simp) rfl rfl (by decide) (by decide)
    · refine H.iadd s0_57 (w := (2 : Int32)) hz57 ?_
      refine H.istore s0_58 (ls' := #[.val (.int p0), .val (.long p1), .second, .val (.long p2), .second, .val (.long p3), .second, .val (.long p4), .second, .val (.long (wa ν)), .second, .val (.long (wb ν)), .second, .val (.long (wc ν)), .second, .val (.long (wp ν)), .second, .val (.int (2 : Int32)), .val (.int (2 : Int32)), .unset, .unset, .unset, .unset, .unset, .unset, .unset, .unset, .unset, .unset]) rfl ?_
      refine H.new s0_60 (k_82 hw) rfl (by decide) (by decide) (i := 0) rfl (A' := [.inl (0, [.null, .null, .null, .null, .null, (.int (0 : Int32)), (.long (0 : Int64)), (.int (0 : Int32))])]) rfl (k' := 1) rfl (n' := 8) rfl ?_
      refine H.dup s0_63 rfl ?_
      refine H.iconst s0_64 (v := (3 : Int32)) (by decide) ?_
      refine H.callCD s0_65 (k_90 hw) (a_0 l hw n0) (argsL := [(.int (3 : Int32))]) (rest := [(.ref (n0 + 0))]) rfl rfl rfl rfl (leb rfl) (leb rfl) (leb rfl) (leb rfl) (st' := [(.ref (n0 + 0))]) rfl (k' := 6) rfl (n' := 88) rfl ?_
      refine H.astore s0_68 rfl (ls' := #[.val (.int p0), .val (.long p1), .second, .val (.long p2), .second, .val (.long p3), .second, .val (.long p4), .second, .val (.long (wa ν)), .second, .val (.long (wb ν)), .second, .val (.long (wc ν)), .second, .val (.long (wp ν)), .second, .val (.int (2 : Int32)), .val (.int (2 : Int32)), .val (.ref (n0 + 0)), .unset, .unset, .unset, .unset, .unset, .unset, .unset, .unset, .unset]) rfl ?_
      refine H.aload s0_70 rfl rfl ?_
      refine H.iconst s0_72 (v := (0 : Int32)) (by decide) ?_
      refine H.iconst s0_73 (v := (2 : Int32)) (by decide) ?_
      refine H.lload s0_74 rfl ?_
      refine H.lconst s0_76 (v := (0 : Int64)) (by decide) ?_
      refine H.callVD s0_77 (k_91 hw) (c_add0 l hw n0 hB) (i := 0) rfl (argsL := [(.int (0 : Int32)), (.int (2 : Int32)), (.long (wa ν)), (.long (0 : Int64))]) (rest := []) rfl rfl rfl rfl (leb rfl) (leb rfl) (leb rfl) (leb rfl) (st' := [(.int (0 : Int32))]) rfl (k' := 6) rfl (n' := 88) rfl ?_
      refine H.pop s0_80 rfl ?_
      refine H.aload s0_81 rfl rfl ?_
      refine H.iconst s0_83 (v := (2 : Int32)) (by decide) ?_
      refine H.iconst s0_84 (v := (1 : Int32)) (by decide) ?_
      refine H.lload s0_85 rfl ?_
      refine H.iload s0_87 rfl ?_
      refine H.ineg s0_89 (w := (-2 : Int32)) (by decide) ?_
      refine H.i2l s0_90 (w := (-2 : Int64)) (by decide) ?_
      refine H.callVD s0_91 (k_91 hw) (c_add8 l hw n0 hB) (i := 0) rfl (argsL := [(.int (2 : Int32)), (.int (1 : Int32)), (.long (wb ν)), (.long (-2 : Int64))]) (rest := []) rfl rfl rfl rfl (leb rfl) (leb rfl) (leb rfl) (leb rfl) (st' := [(.int (1 : Int32))]) rfl (k' := 6) rfl (n' := 88) rfl ?_
      refine H.pop s0_94 rfl ?_
      refine H.aload s0_95 rfl rfl ?_
      refine H.iconst s0_97 (v := (0 : Int32)) (by decide) ?_
      refine H.iconst s0_98 (v := (1 : Int32)) (by decide) ?_
      refine H.lload s0_99 rfl ?_
      refine H.iload s0_101 rfl ?_
      refine H.ineg s0_103 (w := (-2 : Int32)) (by decide) ?_
      refine H.i2l s0_104 (w := (-2 : Int64)) (by decide) ?_
      refine H.callVD s0_105 (k_91 hw) (c_add11 l hw n0 hB) (i := 0) rfl (argsL := [(.int (0 : Int32)), (.int (1 : Int32)), (.long (wc ν)), (.long (-2 : Int64))]) (rest := []) rfl rfl rfl rfl (leb rfl) (leb rfl) (leb rfl) (leb rfl) (st' := [(.int (2 : Int32))]) rfl (k' := 6) rfl (n' := 88) rfl ?_
      refine H.pop s0_108 rfl ?_
      refine H.aload s0_109 rfl rfl ?_
      refine H.iconst s0_111 (v := (1 : Int32)) (by decide) ?_
      refine H.iconst s0_112 (v := (0 : Int32)) (by decide) ?_
      refine H.lload s0_113 rfl ?_
      refine H.lconst s0_115 (v := (0 : Int64)) (by decide) ?_
      refine H.callVD s0_116 (k_91 hw) (c_add12 l hw n0 hB) (i := 0) rfl (argsL := [(.int (1 : Int32)), (.int (0 : Int32)), (.long (wp ν)), (.long (0 : Int64))]) (rest := []) rfl rfl rfl rfl (leb rfl) (leb rfl) (leb rfl) (leb rfl) (st' := [(.int (3 : Int32))]) rfl (k' := 6) rfl (n' := 88) rfl ?_
      refine H.pop s0_119 rfl ?_
      refine H.aload s0_120 rfl rfl ?_
      refine H.callVW s0_122 (k_92 hw) (c_solve22 l hw n0 hB) (i := 0) rfl (argsL := []) (rest := []) rfl rfl rfl rfl (leb rfl) (leb rfl) (leb rfl) (leb rfl) ?_
      rintro v A' ⟨rfl, f0, f1, f2, f3, TT, hTT, rfl, hs⟩
      obtain ⟨t, rfl⟩ := own_twelve hTT
      show G 125 #[.val (.int p0), .val (.long p1), .second, .val (.long p2), .second, .val (.long p3), .second, .val (.long p4), .second, .val (.long (wa ν)), .second, .val (.long (wb ν)), .second, .val (.long (wc ν)), .second, .val (.long (wp ν)), .second, .val (.int (2 : Int32)), .val (.int (2 : Int32)), .val (.ref (n0 + 0)), .unset, .unset, .unset, .unset, .unset, .unset, .unset, .unset, .unset] [] (own_bb n0 ν (-2 : Int64) (-2 : Int64) f0 f1 f2 f3 t []) 18 158
      obtain ⟨⟨ba1, ba2⟩, ⟨bb1, bb2⟩, ⟨bc1, bc2⟩, ⟨bp1, bp2⟩⟩ := id hB
      obtain ⟨va, vb, vc, vp⟩ := own_w hB
      obtain ⟨bf, bg, hs⟩ := hs
      have hf := fun s => own_eq va vb vc vp ⟨ba1, by omega⟩ ⟨bb1, by omega⟩ ⟨bc1, by omega⟩ ⟨bp1, by omega⟩ bf bg (by simpa using hs) s
      refine H.iconst s0_125 (v := (4 : Int32)) (by decide) ?_
      refine H.newarray s0_126 (ty := .long) rfl (k_26 hw) (N := 4) (cap := 4) (by decide) rfl (by decide) (by decide) rfl (by decide) (by decide) (i := 18) rfl (A' := (own_bb n0 ν (-2 : Int64) (-2 : Int64) f0 f1 f2 f3 t [.inr (.long, [(.long (0 : Int64)), (.long (0 : Int64)), (.long (0 : Int64)), (.long (0 : Int64))])])) rfl (k' := 19) rfl (n' := 162) rfl ?_
      refine H.dup s0_128 rfl ?_
      refine H.iconst s0_129 (v := (0 : Int32)) (by decide) ?_
      refine H.lloadN s0_130 rfl ?_
      refine H.lastore s0_131 (i := 18) (j := 0) rfl (by decide) (ltb rfl)  (A' := (own_bb n0 ν (-2 : Int64) (-2 : Int64) f0 f1 f2 f3 t [.inr (.long, [(.long p1), (.long (0 : Int64)), (.long (0 : Int64)), (.long (0 : Int64))])])) rfl ?_
      refine H.dup s0_132 rfl ?_
      refine H.iconst s0_133 (v := (1 : Int32)) (by decide) ?_
      refine H.lloadN s0_134 rfl ?_
      refine H.lastore s0_135 (i := 18) (j := 1) rfl (by decide) (ltb rfl)  (A' := (own_bb n0 ν (-2 : Int64) (-2 : Int64) f0 f1 f2 f3 t [.inr (.long, [(.long p1), (.long p2), (.long (0 : Int64)), (.long (0 : Int64))])])) rfl ?_
      refine H.dup s0_136 rfl ?_
      refine H.iconst s0_137 (v := (2 : Int32)) (by decide) ?_
      refine H.lload s0_138 rfl ?_
      refine H.lastore s0_140 (i := 18) (j := 2) rfl (by decide) (ltb rfl)  (A' := (own_bb n0 ν (-2 : Int64) (-2 : Int64) f0 f1 f2 f3 t [.inr (.long, [(.long p1), (.long p2), (.long p3), (.long (0 : Int64))])])) rfl ?_
      refine H.dup s0_141 rfl ?_
      refine H.iconst s0_142 (v := (3 : Int32)) (by decide) ?_
      refine H.lload s0_143 rfl ?_
      refine H.lastore s0_145 (i := 18) (j := 3) rfl (by decide) (ltb rfl)  (A' := (own_bb n0 ν (-2 : Int64) (-2 : Int64) f0 f1 f2 f3 t [.inr (.long, [(.long p1), (.long p2), (.long p3), (.long p4)])])) rfl ?_
      refine H.astore s0_146 rfl (ls' := #[.val (.int p0), .val (.long p1), .second, .val (.long p2), .second, .val (.long p3), .second, .val (.long p4), .second, .val (.long (wa ν)), .second, .val (.long (wb ν)), .second, .val (.long (wc ν)), .second, .val (.long (wp ν)), .second, .val (.int (2 : Int32)), .val (.int (2 : Int32)), .val (.ref (n0 + 0)), .val (.ref (n0 + 18)), .unset, .unset, .unset, .unset, .unset, .unset, .unset, .unset]) rfl ?_
      refine H.new s0_148 (k_93 hw) rfl (by decide) (by decide) (i := 19) rfl (A' := (own_bb n0 ν (-2 : Int64) (-2 : Int64) f0 f1 f2 f3 t [.inr (.long, [(.long p1), (.long p2), (.long p3), (.long p4)]), .inl (2, [.null, .null])])) rfl (k' := 20) rfl (n' := 164) rfl ?_
      refine H.dup s0_151 rfl ?_
      refine H.aload s0_152 rfl rfl ?_
      refine H.aload s0_154 rfl rfl ?_
      refine H.callCD s0_156 (k_100 hw) (d_1 l hw n0 ν (-2 : Int64) (-2 : Int64) f0 f1 f2 f3 t p1 p2 p3 p4) (argsL := [(.ref (n0 + 0)), (.ref (n0 + 18))]) (rest := [(.ref (n0 + 19))]) rfl rfl rfl rfl (leb rfl) (leb rfl) (leb rfl) (leb rfl) (st' := [(.ref (n0 + 19))]) rfl (k' := 20) rfl (n' := 164) rfl ?_
      refine H.callVD s0_159 (k_108 hw) (a_5 l hw n0 p1 p2 p3 p4 f0 f1 f2 f3 t ν) (i := 19) rfl (argsL := []) (rest := []) rfl rfl rfl rfl (leb rfl) (leb rfl) (leb rfl) (leb rfl) (st' := [(.ref (n0 + 20))]) rfl (k' := 21) rfl (n' := 168) rfl ?_
      refine H.astore s0_162 rfl (ls' := #[.val (.int p0), .val (.long p1), .second, .val (.long p2), .second, .val (.long p3), .second, .val (.long p4), .second, .val (.long (wa ν)), .second, .val (.long (wb ν)), .second, .val (.long (wc ν)), .second, .val (.long (wp ν)), .second, .val (.int (2 : Int32)), .val (.int (2 : Int32)), .val (.ref (n0 + 0)), .val (.ref (n0 + 18)), .val (.ref (n0 + 20)), .unset, .unset, .unset, .unset, .unset, .unset, .unset]) rfl ?_
      refine H.lload s0_164 rfl ?_
      refine H.lload s0_166 rfl ?_
      refine H.callSD s0_168 (k_109 hw) (m_minJ l hw n0 (own_bb n0 ν (-2 : Int64) (-2 : Int64) f0 f1 f2 f3 t [.inr (.long, [(.long p1), (.long p2), (.long p3), (.long p4)]), .inl (2, [(.ref (n0 + 0)), (.ref (n0 + 18))]), .inr (.long, [(.long p1), (.long p2), (.long ((p3 + f1) + f2)), (.long p4)])]) (wa ν) (wb ν)) (argsL := [(.long (wa ν)), (.long (wb ν))]) (rest := []) rfl rfl rfl rfl (leb rfl) (leb rfl) (leb rfl) (leb rfl) (st' := [(.long (own_minJ (wa ν) (wb ν)))]) rfl (k' := 21) rfl (n' := 168) rfl ?_
      refine H.lstore s0_171 (ls' := #[.val (.int p0), .val (.long p1), .second, .val (.long p2), .second, .val (.long p3), .second, .val (.long p4), .second, .val (.long (wa ν)), .second, .val (.long (wb ν)), .second, .val (.long (wc ν)), .second, .val (.long (wp ν)), .second, .val (.int (2 : Int32)), .val (.int (2 : Int32)), .val (.ref (n0 + 0)), .val (.ref (n0 + 18)), .val (.ref (n0 + 20)), .val (.long (own_minJ (wa ν) (wb ν))), .second, .unset, .unset, .unset, .unset, .unset]) rfl ?_
      refine H.iconst s0_173 (v := (4 : Int32)) (by decide) ?_
      refine H.newarray s0_174 (ty := .long) rfl (k_26 hw) (N := 4) (cap := 4) (by decide) rfl (by decide) (by decide) rfl (by decide) (by decide) (i := 21) rfl (A' := (own_bb n0 ν (-2 : Int64) (-2 : Int64) f0 f1 f2 f3 t [.inr (.long, [(.long p1), (.long p2), (.long p3), (.long p4)]), .inl (2, [(.ref (n0 + 0)), (.ref (n0 + 18))]), .inr (.long, [(.long p1), (.long p2), (.long ((p3 + f1) + f2)), (.long p4)]), .inr (.long, [(.long (0 : Int64)), (.long (0 : Int64)), (.long (0 : Int64)), (.long (0 : Int64))])])) rfl (k' := 22) rfl (n' := 172) rfl ?_
      refine H.dup s0_176 rfl ?_
      refine H.iconst s0_177 (v := (0 : Int32)) (by decide) ?_
      refine H.lloadN s0_178 rfl ?_
      refine H.lastore s0_179 (i := 21) (j := 0) rfl (by decide) (ltb rfl)  (A' := (own_bb n0 ν (-2 : Int64) (-2 : Int64) f0 f1 f2 f3 t [.inr (.long, [(.long p1), (.long p2), (.long p3), (.long p4)]), .inl (2, [(.ref (n0 + 0)), (.ref (n0 + 18))]), .inr (.long, [(.long p1), (.long p2), (.long ((p3 + f1) + f2)), (.long p4)]), .inr (.long, [(.long p1), (.long (0 : Int64)), (.long (0 : Int64)), (.long (0 : Int64))])])) rfl ?_
      refine H.dup s0_180 rfl ?_
      refine H.iconst s0_181 (v := (1 : Int32)) (by decide) ?_
      refine H.lloadN s0_182 rfl ?_
      refine H.lastore s0_183 (i := 21) (j := 1) rfl (by decide) (ltb rfl)  (A' := (own_bb n0 ν (-2 : Int64) (-2 : Int64) f0 f1 f2 f3 t [.inr (.long, [(.long p1), (.long p2), (.long p3), (.long p4)]), .inl (2, [(.ref (n0 + 0)), (.ref (n0 + 18))]), .inr (.long, [(.long p1), (.long p2), (.long ((p3 + f1) + f2)), (.long p4)]), .inr (.long, [(.long p1), (.long p2), (.long (0 : Int64)), (.long (0 : Int64))])])) rfl ?_
      refine H.dup s0_184 rfl ?_
      refine H.iconst s0_185 (v := (2 : Int32)) (by decide) ?_
      refine H.lload s0_186 rfl ?_
      refine H.lastore s0_188 (i := 21) (j := 2) rfl (by decide) (ltb rfl)  (A' := (own_bb n0 ν (-2 : Int64) (-2 : Int64) f0 f1 f2 f3 t [.inr (.long, [(.long p1), (.long p2), (.long p3), (.long p4)]), .inl (2, [(.ref (n0 + 0)), (.ref (n0 + 18))]), .inr (.long, [(.long p1), (.long p2), (.long ((p3 + f1) + f2)), (.long p4)]), .inr (.long, [(.long p1), (.long p2), (.long p3), (.long (0 : Int64))])])) rfl ?_
      refine H.dup s0_189 rfl ?_
      refine H.iconst s0_190 (v := (3 : Int32)) (by decide) ?_
      refine H.lload s0_191 rfl ?_
      refine H.lastore s0_193 (i := 21) (j := 3) rfl (by decide) (ltb rfl)  (A' := (own_bb n0 ν (-2 : Int64) (-2 : Int64) f0 f1 f2 f3 t [.inr (.long, [(.long p1), (.long p2), (.long p3), (.long p4)]), .inl (2, [(.ref (n0 + 0)), (.ref (n0 + 18))]), .inr (.long, [(.long p1), (.long p2), (.long ((p3 + f1) + f2)), (.long p4)]), .inr (.long, [(.long p1), (.long p2), (.long p3), (.long p4)])])) rfl ?_
      refine H.astore s0_194 rfl (ls' := #[.val (.int p0), .val (.long p1), .second, .val (.long p2), .second, .val (.long p3), .second, .val (.long p4), .second, .val (.long (wa ν)), .second, .val (.long (wb ν)), .second, .val (.long (wc ν)), .second, .val (.long (wp ν)), .second, .val (.int (2 : Int32)), .val (.int (2 : Int32)), .val (.ref (n0 + 0)), .val (.ref (n0 + 18)), .val (.ref (n0 + 20)), .val (.long (own_minJ (wa ν) (wb ν))), .second, .val (.ref (n0 + 21)), .unset, .unset, .unset, .unset]) rfl ?_
      refine H.iload s0_196 rfl ?_
      refine H.iload s0_198 rfl ?_
      refine H.icmpF s0_200 (show (2 : Int32) = (2 : Int32) by decide) ?_
      refine H.aload s0_203 rfl rfl ?_
      refine H.iload s0_205 rfl ?_
      refine H.dup2 s0_207 rfl rfl ?_
      refine H.laload s0_208 (i := 21) (j := 2) rfl (by decide) (v := (.long p3)) rfl ?_
      refine H.lload s0_209 rfl ?_
      refine H.lload s0_211 rfl ?_
      refine H.ladd s0_213 rfl ?_
      refine H.lload s0_214 rfl ?_
      refine H.callSD s0_216 (k_109 hw) (m_minJ l hw n0 (own_bb n0 ν (-2 : Int64) (-2 : Int64) f0 f1 f2 f3 t [.inr (.long, [(.long p1), (.long p2), (.long p3), (.long p4)]), .inl (2, [(.ref (n0 + 0)), (.ref (n0 + 18))]), .inr (.long, [(.long p1), (.long p2), (.long ((p3 + f1) + f2)), (.long p4)]), .inr (.long, [(.long p1), (.long p2), (.long p3), (.long p4)])]) ((own_minJ (wa ν) (wb ν)) + (wc ν)) (wp ν)) (argsL := [(.long ((own_minJ (wa ν) (wb ν)) + (wc ν))), (.long (wp ν))]) (rest := [(.long p3), (.int (2 : Int32)), (.ref (n0 + 21))]) rfl rfl rfl rfl (leb rfl) (leb rfl) (leb rfl) (leb rfl) (st' := [(.long (own_minJ ((own_minJ (wa ν) (wb ν)) + (wc ν)) (wp ν))), (.long p3), (.int (2 : Int32)), (.ref (n0 + 21))]) rfl (k' := 22) rfl (n' := 172) rfl ?_
      refine H.ladd s0_219 rfl ?_
      refine H.lastore s0_220 (i := 21) (j := 2) rfl (by decide) (ltb rfl)  (A' := (own_bb n0 ν (-2 : Int64) (-2 : Int64) f0 f1 f2 f3 t [.inr (.long, [(.long p1), (.long p2), (.long p3), (.long p4)]), .inl (2, [(.ref (n0 + 0)), (.ref (n0 + 18))]), .inr (.long, [(.long p1), (.long p2), (.long ((p3 + f1) + f2)), (.long p4)]), .inr (.long, [(.long p1), (.long p2), (.long (p3 + (own_minJ ((own_minJ (wa ν) (wb ν)) + (wc ν)) (wp ν)))), (.long p4)])])) rfl ?_
      refine H.goto s0_221 ?_
      refine H.aload s0_316 rfl rfl ?_
      refine H.aload s0_318 rfl rfl ?_
      refine H.acmp s0_320 rfl rfl (same := false) (by simp) ?_
      show G 323 _ _ _ _ _
      refine H.aload s0_323 rfl rfl ?_
      refine H.arraylength s0_325 (i := 20) rfl (z := (4 : Int32)) rfl ?_
      refine H.iconst s0_326 (v := (4 : Int32)) (by decide) ?_
      refine H.icmpT s0_327 (show (4 : Int32) = (4 : Int32) by decide) ?_
      refine H.aload s0_332 rfl rfl ?_
      refine H.iconst s0_334 (v := (0 : Int32)) (by decide) ?_
      refine H.laload s0_335 (i := 20) (j := 0) rfl (by decide) (v := (.long p1)) rfl ?_
      refine H.aload s0_336 rfl rfl ?_
      refine H.iconst s0_338 (v := (0 : Int32)) (by decide) ?_
      refine H.laload s0_339 (i := 21) (j := 0) rfl (by decide) (v := (.long p1)) rfl ?_
      refine H.lifF s0_340 s0_341 rfl ?_
      refine H.aload s0_344 rfl rfl ?_
      refine H.iconst s0_346 (v := (1 : Int32)) (by decide) ?_
      refine H.laload s0_347 (i := 20) (j := 1) rfl (by decide) (v := (.long p2)) rfl ?_
      refine H.aload s0_348 rfl rfl ?_
      refine H.iconst s0_350 (v := (1 : Int32)) (by decide) ?_
      refine H.laload s0_351 (i := 21) (j := 1) rfl (by decide) (v := (.long p2)) rfl ?_
      refine H.lifF s0_352 s0_353 rfl ?_
      refine H.aload s0_356 rfl rfl ?_
      refine H.iconst s0_358 (v := (2 : Int32)) (by decide) ?_
      refine H.laload s0_359 (i := 20) (j := 2) rfl (by decide) (v := (.long ((p3 + f1) + f2))) rfl ?_
      refine H.aload s0_360 rfl rfl ?_
      refine H.iconst s0_362 (v := (2 : Int32)) (by decide) ?_
      refine H.laload s0_363 (i := 21) (j := 2) rfl (by decide) (v := (.long (p3 + (own_minJ ((own_minJ (wa ν) (wb ν)) + (wc ν)) (wp ν))))) rfl ?_
      refine H.lifF s0_364 s0_365 (hf _) ?_
      refine H.aload s0_368 rfl rfl ?_
      refine H.iconst s0_370 (v := (3 : Int32)) (by decide) ?_
      refine H.laload s0_371 (i := 20) (j := 3) rfl (by decide) (v := (.long p4)) rfl ?_
      refine H.aload s0_372 rfl rfl ?_
      refine H.iconst s0_374 (v := (3 : Int32)) (by decide) ?_
      refine H.laload s0_375 (i := 21) (j := 3) rfl (by decide) (v := (.long p4)) rfl ?_
      refine H.lifF s0_376 s0_377 rfl ?_
      refine H.iconst s0_380 (v := (1 : Int32)) (by decide) ?_
      refine H.goto s0_381 ?_
      refine H.istore s0_385 (ls' := #[.val (.int p0), .val (.long p1), .second, .val (.long p2), .second, .val (.long p3), .second, .val (.long p4), .second, .val (.long (wa ν)), .second, .val (.long (wb ν)), .second, .val (.long (wc ν)), .second, .val (.long (wp ν)), .second, .val (.int (2 : Int32)), .val (.int (2 : Int32)), .val (.ref (n0 + 0)), .val (.ref (n0 + 18)), .val (.ref (n0 + 20)), .val (.long (own_minJ (wa ν) (wb ν))), .second, .val (.ref (n0 + 21)), .val (.int (1 : Int32)), .unset, .unset, .unset]) rfl ?_
      refine H.aload s0_387 rfl rfl ?_
      refine H.iconst s0_389 (v := (0 : Int32)) (by decide) ?_
      refine H.laload s0_390 (i := 18) (j := 0) rfl (by decide) (v := (.long p1)) rfl ?_
      refine H.lloadN s0_391 rfl ?_
      refine H.lifF s0_392 s0_393 rfl ?_
      refine H.aload s0_396 rfl rfl ?_
      refine H.iconst s0_398 (v := (1 : Int32)) (by decide) ?_
      refine H.laload s0_399 (i := 18) (j := 1) rfl (by decide) (v := (.long p2)) rfl ?_
      refine H.lloadN s0_400 rfl ?_
      refine H.lifF s0_401 s0_402 rfl ?_
      refine H.aload s0_405 rfl rfl ?_
      refine H.iconst s0_407 (v := (2 : Int32)) (by decide) ?_
      refine H.laload s0_408 (i := 18) (j := 2) rfl (by decide) (v := (.long p3)) rfl ?_
      refine H.lload s0_409 rfl ?_
      refine H.lifF s0_411 s0_412 rfl ?_
      refine H.aload s0_415 rfl rfl ?_
      refine H.iconst s0_417 (v := (3 : Int32)) (by decide) ?_
      refine H.laload s0_418 (i := 18) (j := 3) rfl (by decide) (v := (.long p4)) rfl ?_
      refine H.lload s0_419 rfl ?_
      refine H.lifF s0_421 s0_422 rfl ?_
      refine H.iconst s0_425 (v := (1 : Int32)) (by decide) ?_
      refine H.goto s0_426 ?_
      refine H.istore s0_430 (ls' := #[.val (.int p0), .val (.long p1), .second, .val (.long p2), .second, .val (.long p3), .second, .val (.long p4), .second, .val (.long (wa ν)), .second, .val (.long (wb ν)), .second, .val (.long (wc ν)), .second, .val (.long (wp ν)), .second, .val (.int (2 : Int32)), .val (.int (2 : Int32)), .val (.ref (n0 + 0)), .val (.ref (n0 + 18)), .val (.ref (n0 + 20)), .val (.long (own_minJ (wa ν) (wb ν))), .second, .val (.ref (n0 + 21)), .val (.int (1 : Int32)), .val (.int (1 : Int32)), .unset, .unset]) rfl ?_
      refine H.iload s0_432 rfl ?_
      refine H.ifF s0_434 (show ¬ (1 : Int32) = (0 : Int32) by decide) ?_
      refine H.iload s0_437 rfl ?_
      refine H.ifF s0_439 (show ¬ (1 : Int32) = (0 : Int32) by decide) ?_
      refine H.iconst s0_442 (v := (1 : Int32)) (by decide) ?_
      refine H.goto s0_443 ?_
      exact H.ireturn s0_447 rfl (by simp) rfl rfl (by decide) (by decide)
    · refine H.iadd s0_57 (w := (3 : Int32)) hz57 ?_
      refine H.istore s0_58 (ls' := #[.val (.int p0), .val (.long p1), .second, .val (.long p2), .second, .val (.long p3), .second, .val (.long p4), .second, .val (.long (wa ν)), .second, .val (.long (wb ν)), .second, .val (.long (wc ν)), .second, .val (.long (wp ν)), .second, .val (.int (2 : Int32)), .val (.int (3 : Int32)), .unset, .unset, .unset, .unset, .unset, .unset, .unset, .unset, .unset, .unset]) rfl ?_
      refine H.new s0_60 (k_82 hw) rfl (by decide) (by decide) (i := 0) rfl (A' := [.inl (0, [.null, .null, .null, .null, .null, (.int (0 : Int32)), (.long (0 : Int64)), (.int (0 : Int32))])]) rfl (k' := 1) rfl (n' := 8) rfl ?_
      refine H.dup s0_63 rfl ?_
      refine H.iconst s0_64 (v := (3 : Int32)) (by decide) ?_
      refine H.callCD s0_65 (k_90 hw) (a_0 l hw n0) (argsL := [(.int (3 : Int32))]) (rest := [(.ref (n0 + 0))]) rfl rfl rfl rfl (leb rfl) (leb rfl) (leb rfl) (leb rfl) (st' := [(.ref (n0 + 0))]) rfl (k' := 6) rfl (n' := 88) rfl ?_
      refine H.astore s0_68 rfl (ls' := #[.val (.int p0), .val (.long p1), .second, .val (.long p2), .second, .val (.long p3), .second, .val (.long p4), .second, .val (.long (wa ν)), .second, .val (.long (wb ν)), .second, .val (.long (wc ν)), .second, .val (.long (wp ν)), .second, .val (.int (2 : Int32)), .val (.int (3 : Int32)), .val (.ref (n0 + 0)), .unset, .unset, .unset, .unset, .unset, .unset, .unset, .unset, .unset]) rfl ?_
      refine H.aload s0_70 rfl rfl ?_
      refine H.iconst s0_72 (v := (0 : Int32)) (by decide) ?_
      refine H.iconst s0_73 (v := (2 : Int32)) (by decide) ?_
      refine H.lload s0_74 rfl ?_
      refine H.lconst s0_76 (v := (0 : Int64)) (by decide) ?_
      refine H.callVD s0_77 (k_91 hw) (c_add0 l hw n0 hB) (i := 0) rfl (argsL := [(.int (0 : Int32)), (.int (2 : Int32)), (.long (wa ν)), (.long (0 : Int64))]) (rest := []) rfl rfl rfl rfl (leb rfl) (leb rfl) (leb rfl) (leb rfl) (st' := [(.int (0 : Int32))]) rfl (k' := 6) rfl (n' := 88) rfl ?_
      refine H.pop s0_80 rfl ?_
      refine H.aload s0_81 rfl rfl ?_
      refine H.iconst s0_83 (v := (2 : Int32)) (by decide) ?_
      refine H.iconst s0_84 (v := (1 : Int32)) (by decide) ?_
      refine H.lload s0_85 rfl ?_
      refine H.iload s0_87 rfl ?_
      refine H.ineg s0_89 (w := (-2 : Int32)) (by decide) ?_
      refine H.i2l s0_90 (w := (-2 : Int64)) (by decide) ?_
      refine H.callVD s0_91 (k_91 hw) (c_add8 l hw n0 hB) (i := 0) rfl (argsL := [(.int (2 : Int32)), (.int (1 : Int32)), (.long (wb ν)), (.long (-2 : Int64))]) (rest := []) rfl rfl rfl rfl (leb rfl) (leb rfl) (leb rfl) (leb rfl) (st' := [(.int (1 : Int32))]) rfl (k' := 6) rfl (n' := 88) rfl ?_
      refine H.pop s0_94 rfl ?_
      refine H.aload s0_95 rfl rfl ?_
      refine H.iconst s0_97 (v := (0 : Int32)) (by decide) ?_
      refine H.iconst s0_98 (v := (1 : Int32)) (by decide) ?_
      refine H.lload s0_99 rfl ?_
      refine H.iload s0_101 rfl ?_
      refine H.ineg s0_103 (w := (-3 : Int32)) (by decide) ?_
      refine H.i2l s0_104 (w := (-3 : Int64)) (by decide) ?_
      refine H.callVD s0_105 (k_91 hw) (c_add13 l hw n0 hB) (i := 0) rfl (argsL := [(.int (0 : Int32)), (.int (1 : Int32)), (.long (wc ν)), (.long (-3 : Int64))]) (rest := []) rfl rfl rfl rfl (leb rfl) (leb rfl) (leb rfl) (leb rfl) (st' := [(.int (2 : Int32))]) rfl (k' := 6) rfl (n' := 88) rfl ?_
      refine H.pop s0_108 rfl ?_
      refine H.aload s0_109 rfl rfl ?_
      refine H.iconst s0_111 (v := (1 : Int32)) (by decide) ?_
      refine H.iconst s0_112 (v := (0 : Int32)) (by decide) ?_
      refine H.lload s0_113 rfl ?_
      refine H.lconst s0_115 (v := (0 : Int64)) (by decide) ?_
      refine H.callVD s0_116 (k_91 hw) (c_add14 l hw n0 hB) (i := 0) rfl (argsL := [(.int (1 : Int32)), (.int (0 : Int32)), (.long (wp ν)), (.long (0 : Int64))]) (rest := []) rfl rfl rfl rfl (leb rfl) (leb rfl) (leb rfl) (leb rfl) (st' := [(.int (3 : Int32))]) rfl (k' := 6) rfl (n' := 88) rfl ?_
      refine H.pop s0_119 rfl ?_
      refine H.aload s0_120 rfl rfl ?_
      refine H.callVW s0_122 (k_92 hw) (c_solve23 l hw n0 hB) (i := 0) rfl (argsL := []) (rest := []) rfl rfl rfl rfl (leb rfl) (leb rfl) (leb rfl) (leb rfl) ?_
      rintro v A' ⟨rfl, f0, f1, f2, f3, TT, hTT, rfl, hs⟩
      obtain ⟨t, rfl⟩ := own_twelve hTT
      show G 125 #[.val (.int p0), .val (.long p1), .second, .val (.long p2), .second, .val (.long p3), .second, .val (.long p4), .second, .val (.long (wa ν)), .second, .val (.long (wb ν)), .second, .val (.long (wc ν)), .second, .val (.long (wp ν)), .second, .val (.int (2 : Int32)), .val (.int (3 : Int32)), .val (.ref (n0 + 0)), .unset, .unset, .unset, .unset, .unset, .unset, .unset, .unset, .unset] [] (own_bb n0 ν (-2 : Int64) (-3 : Int64) f0 f1 f2 f3 t []) 18 158
      obtain ⟨⟨ba1, ba2⟩, ⟨bb1, bb2⟩, ⟨bc1, bc2⟩, ⟨bp1, bp2⟩⟩ := id hB
      obtain ⟨va, vb, vc, vp⟩ := own_w hB
      obtain ⟨bf, bg, hs⟩ := hs
      have hf := own_lt (f := f1) (g := f2) va vb vc vp ⟨ba1, by omega⟩ ⟨bb1, by omega⟩ ⟨bc1, by omega⟩ ⟨bp1, by omega⟩ (by simpa using hs)
      refine H.iconst s0_125 (v := (4 : Int32)) (by decide) ?_
      refine H.newarray s0_126 (ty := .long) rfl (k_26 hw) (N := 4) (cap := 4) (by decide) rfl (by decide) (by decide) rfl (by decide) (by decide) (i := 18) rfl (A' := (own_bb n0 ν (-2 : Int64) (-3 : Int64) f0 f1 f2 f3 t [.inr (.long, [(.long (0 : Int64)), (.long (0 : Int64)), (.long (0 : Int64)), (.long (0 : Int64))])])) rfl (k' := 19) rfl (n' := 162) rfl ?_
      refine H.dup s0_128 rfl ?_
      refine H.iconst s0_129 (v := (0 : Int32)) (by decide) ?_
      refine H.lloadN s0_130 rfl ?_
      refine H.lastore s0_131 (i := 18) (j := 0) rfl (by decide) (ltb rfl)  (A' := (own_bb n0 ν (-2 : Int64) (-3 : Int64) f0 f1 f2 f3 t [.inr (.long, [(.long p1), (.long (0 : Int64)), (.long (0 : Int64)), (.long (0 : Int64))])])) rfl ?_
      refine H.dup s0_132 rfl ?_
      refine H.iconst s0_133 (v := (1 : Int32)) (by decide) ?_
      refine H.lloadN s0_134 rfl ?_
      refine H.lastore s0_135 (i := 18) (j := 1) rfl (by decide) (ltb rfl)  (A' := (own_bb n0 ν (-2 : Int64) (-3 : Int64) f0 f1 f2 f3 t [.inr (.long, [(.long p1), (.long p2), (.long (0 : Int64)), (.long (0 : Int64))])])) rfl ?_
      refine H.dup s0_136 rfl ?_
      refine H.iconst s0_137 (v := (2 : Int32)) (by decide) ?_
      refine H.lload s0_138 rfl ?_
      refine H.lastore s0_140 (i := 18) (j := 2) rfl (by decide) (ltb rfl)  (A' := (own_bb n0 ν (-2 : Int64) (-3 : Int64) f0 f1 f2 f3 t [.inr (.long, [(.long p1), (.long p2), (.long p3), (.long (0 : Int64))])])) rfl ?_
      refine H.dup s0_141 rfl ?_
      refine H.iconst s0_142 (v := (3 : Int32)) (by decide) ?_
      refine H.lload s0_143 rfl ?_
      refine H.lastore s0_145 (i := 18) (j := 3) rfl (by decide) (ltb rfl)  (A' := (own_bb n0 ν (-2 : Int64) (-3 : Int64) f0 f1 f2 f3 t [.inr (.long, [(.long p1), (.long p2), (.long p3), (.long p4)])])) rfl ?_
      refine H.astore s0_146 rfl (ls' := #[.val (.int p0), .val (.long p1), .second, .val (.long p2), .second, .val (.long p3), .second, .val (.long p4), .second, .val (.long (wa ν)), .second, .val (.long (wb ν)), .second, .val (.long (wc ν)), .second, .val (.long (wp ν)), .second, .val (.int (2 : Int32)), .val (.int (3 : Int32)), .val (.ref (n0 + 0)), .val (.ref (n0 + 18)), .unset, .unset, .unset, .unset, .unset, .unset, .unset, .unset]) rfl ?_
      refine H.new s0_148 (k_93 hw) rfl (by decide) (by decide) (i := 19) rfl (A' := (own_bb n0 ν (-2 : Int64) (-3 : Int64) f0 f1 f2 f3 t [.inr (.long, [(.long p1), (.long p2), (.long p3), (.long p4)]), .inl (2, [.null, .null])])) rfl (k' := 20) rfl (n' := 164) rfl ?_
      refine H.dup s0_151 rfl ?_
      refine H.aload s0_152 rfl rfl ?_
      refine H.aload s0_154 rfl rfl ?_
      refine H.callCD s0_156 (k_100 hw) (d_1 l hw n0 ν (-2 : Int64) (-3 : Int64) f0 f1 f2 f3 t p1 p2 p3 p4) (argsL := [(.ref (n0 + 0)), (.ref (n0 + 18))]) (rest := [(.ref (n0 + 19))]) rfl rfl rfl rfl (leb rfl) (leb rfl) (leb rfl) (leb rfl) (st' := [(.ref (n0 + 19))]) rfl (k' := 20) rfl (n' := 164) rfl ?_
      refine H.callVD s0_159 (k_108 hw) (a_6 l hw n0 p1 p2 p3 p4 f0 f1 f2 f3 t ν) (i := 19) rfl (argsL := []) (rest := []) rfl rfl rfl rfl (leb rfl) (leb rfl) (leb rfl) (leb rfl) (st' := [(.ref (n0 + 20))]) rfl (k' := 21) rfl (n' := 168) rfl ?_
      refine H.astore s0_162 rfl (ls' := #[.val (.int p0), .val (.long p1), .second, .val (.long p2), .second, .val (.long p3), .second, .val (.long p4), .second, .val (.long (wa ν)), .second, .val (.long (wb ν)), .second, .val (.long (wc ν)), .second, .val (.long (wp ν)), .second, .val (.int (2 : Int32)), .val (.int (3 : Int32)), .val (.ref (n0 + 0)), .val (.ref (n0 + 18)), .val (.ref (n0 + 20)), .unset, .unset, .unset, .unset, .unset, .unset, .unset]) rfl ?_
      refine H.lload s0_164 rfl ?_
      refine H.lload s0_166 rfl ?_
      refine H.callSD s0_168 (k_109 hw) (m_minJ l hw n0 (own_bb n0 ν (-2 : Int64) (-3 : Int64) f0 f1 f2 f3 t [.inr (.long, [(.long p1), (.long p2), (.long p3), (.long p4)]), .inl (2, [(.ref (n0 + 0)), (.ref (n0 + 18))]), .inr (.long, [(.long p1), (.long p2), (.long (p3 + f1)), (.long (p4 + f2))])]) (wa ν) (wb ν)) (argsL := [(.long (wa ν)), (.long (wb ν))]) (rest := []) rfl rfl rfl rfl (leb rfl) (leb rfl) (leb rfl) (leb rfl) (st' := [(.long (own_minJ (wa ν) (wb ν)))]) rfl (k' := 21) rfl (n' := 168) rfl ?_
      refine H.lstore s0_171 (ls' := #[.val (.int p0), .val (.long p1), .second, .val (.long p2), .second, .val (.long p3), .second, .val (.long p4), .second, .val (.long (wa ν)), .second, .val (.long (wb ν)), .second, .val (.long (wc ν)), .second, .val (.long (wp ν)), .second, .val (.int (2 : Int32)), .val (.int (3 : Int32)), .val (.ref (n0 + 0)), .val (.ref (n0 + 18)), .val (.ref (n0 + 20)), .val (.long (own_minJ (wa ν) (wb ν))), .second, .unset, .unset, .unset, .unset, .unset]) rfl ?_
      refine H.iconst s0_173 (v := (4 : Int32)) (by decide) ?_
      refine H.newarray s0_174 (ty := .long) rfl (k_26 hw) (N := 4) (cap := 4) (by decide) rfl (by decide) (by decide) rfl (by decide) (by decide) (i := 21) rfl (A' := (own_bb n0 ν (-2 : Int64) (-3 : Int64) f0 f1 f2 f3 t [.inr (.long, [(.long p1), (.long p2), (.long p3), (.long p4)]), .inl (2, [(.ref (n0 + 0)), (.ref (n0 + 18))]), .inr (.long, [(.long p1), (.long p2), (.long (p3 + f1)), (.long (p4 + f2))]), .inr (.long, [(.long (0 : Int64)), (.long (0 : Int64)), (.long (0 : Int64)), (.long (0 : Int64))])])) rfl (k' := 22) rfl (n' := 172) rfl ?_
      refine H.dup s0_176 rfl ?_
      refine H.iconst s0_177 (v := (0 : Int32)) (by decide) ?_
      refine H.lloadN s0_178 rfl ?_
      refine H.lastore s0_179 (i := 21) (j := 0) rfl (by decide) (ltb rfl)  (A' := (own_bb n0 ν (-2 : Int64) (-3 : Int64) f0 f1 f2 f3 t [.inr (.long, [(.long p1), (.long p2), (.long p3), (.long p4)]), .inl (2, [(.ref (n0 + 0)), (.ref (n0 + 18))]), .inr (.long, [(.long p1), (.long p2), (.long (p3 + f1)), (.long (p4 + f2))]), .inr (.long, [(.long p1), (.long (0 : Int64)), (.long (0 : Int64)), (.long (0 : Int64))])])) rfl ?_
      refine H.dup s0_180 rfl ?_
      refine H.iconst s0_181 (v := (1 : Int32)) (by decide) ?_
      refine H.lloadN s0_182 rfl ?_
      refine H.lastore s0_183 (i := 21) (j := 1) rfl (by decide) (ltb rfl)  (A' := (own_bb n0 ν (-2 : Int64) (-3 : Int64) f0 f1 f2 f3 t [.inr (.long, [(.long p1), (.long p2), (.long p3), (.long p4)]), .inl (2, [(.ref (n0 + 0)), (.ref (n0 + 18))]), .inr (.long, [(.long p1), (.long p2), (.long (p3 + f1)), (.long (p4 + f2))]), .inr (.long, [(.long p1), (.long p2), (.long (0 : Int64)), (.long (0 : Int64))])])) rfl ?_
      refine H.dup s0_184 rfl ?_
      refine H.iconst s0_185 (v := (2 : Int32)) (by decide) ?_
      refine H.lload s0_186 rfl ?_
      refine H.lastore s0_188 (i := 21) (j := 2) rfl (by decide) (ltb rfl)  (A' := (own_bb n0 ν (-2 : Int64) (-3 : Int64) f0 f1 f2 f3 t [.inr (.long, [(.long p1), (.long p2), (.long p3), (.long p4)]), .inl (2, [(.ref (n0 + 0)), (.ref (n0 + 18))]), .inr (.long, [(.long p1), (.long p2), (.long (p3 + f1)), (.long (p4 + f2))]), .inr (.long, [(.long p1), (.long p2), (.long p3), (.long (0 : Int64))])])) rfl ?_
      refine H.dup s0_189 rfl ?_
      refine H.iconst s0_190 (v := (3 : Int32)) (by decide) ?_
      refine H.lload s0_191 rfl ?_
      refine H.lastore s0_193 (i := 21) (j := 3) rfl (by decide) (ltb rfl)  (A' := (own_bb n0 ν (-2 : Int64) (-3 : Int64) f0 f1 f2 f3 t [.inr (.long, [(.long p1), (.long p2), (.long p3), (.long p4)]), .inl (2, [(.ref (n0 + 0)), (.ref (n0 + 18))]), .inr (.long, [(.long p1), (.long p2), (.long (p3 + f1)), (.long (p4 + f2))]), .inr (.long, [(.long p1), (.long p2), (.long p3), (.long p4)])])) rfl ?_
      refine H.astore s0_194 rfl (ls' := #[.val (.int p0), .val (.long p1), .second, .val (.long p2), .second, .val (.long p3), .second, .val (.long p4), .second, .val (.long (wa ν)), .second, .val (.long (wb ν)), .second, .val (.long (wc ν)), .second, .val (.long (wp ν)), .second, .val (.int (2 : Int32)), .val (.int (3 : Int32)), .val (.ref (n0 + 0)), .val (.ref (n0 + 18)), .val (.ref (n0 + 20)), .val (.long (own_minJ (wa ν) (wb ν))), .second, .val (.ref (n0 + 21)), .unset, .unset, .unset, .unset]) rfl ?_
      refine H.iload s0_196 rfl ?_
      refine H.iload s0_198 rfl ?_
      refine H.icmpT s0_200 (show ¬ (2 : Int32) = (3 : Int32) by decide) ?_
      refine H.iload s0_224 rfl ?_
      refine H.iload s0_226 rfl ?_
      refine H.icmpT s0_228 (show ¬ (3 : Int32) < (2 : Int32) by decide) ?_
      refine H.lload s0_275 rfl ?_
      refine H.lload s0_277 rfl ?_
      refine H.callSD s0_279 (k_109 hw) (m_minJ l hw n0 (own_bb n0 ν (-2 : Int64) (-3 : Int64) f0 f1 f2 f3 t [.inr (.long, [(.long p1), (.long p2), (.long p3), (.long p4)]), .inl (2, [(.ref (n0 + 0)), (.ref (n0 + 18))]), .inr (.long, [(.long p1), (.long p2), (.long (p3 + f1)), (.long (p4 + f2))]), .inr (.long, [(.long p1), (.long p2), (.long p3), (.long p4)])]) (wc ν) (wp ν)) (argsL := [(.long (wc ν)), (.long (wp ν))]) (rest := []) rfl rfl rfl rfl (leb rfl) (leb rfl) (leb rfl) (leb rfl) (st' := [(.long (own_minJ (wc ν) (wp ν)))]) rfl (k' := 22) rfl (n' := 172) rfl ?_
      refine H.lstore s0_282 (ls' := #[.val (.int p0), .val (.long p1), .second, .val (.long p2), .second, .val (.long p3), .second, .val (.long p4), .second, .val (.long (wa ν)), .second, .val (.long (wb ν)), .second, .val (.long (wc ν)), .second, .val (.long (wp ν)), .second, .val (.int (2 : Int32)), .val (.int (3 : Int32)), .val (.ref (n0 + 0)), .val (.ref (n0 + 18)), .val (.ref (n0 + 20)), .val (.long (own_minJ (wa ν) (wb ν))), .second, .val (.ref (n0 + 21)), .val (.long (own_minJ (wc ν) (wp ν))), .second, .unset, .unset]) rfl ?_
      refine H.lload s0_284 rfl ?_
      refine H.lload s0_286 rfl ?_
      refine H.lload s0_288 rfl ?_
      refine H.lsub s0_290 rfl ?_
      refine H.callSD s0_291 (k_109 hw) (m_minJ l hw n0 (own_bb n0 ν (-2 : Int64) (-3 : Int64) f0 f1 f2 f3 t [.inr (.long, [(.long p1), (.long p2), (.long p3), (.long p4)]), .inl (2, [(.ref (n0 + 0)), (.ref (n0 + 18))]), .inr (.long, [(.long p1), (.long p2), (.long (p3 + f1)), (.long (p4 + f2))]), .inr (.long, [(.long p1), (.long p2), (.long p3), (.long p4)])]) (own_minJ (wa ν) (wb ν)) ((wp ν) - (own_minJ (wc ν) (wp ν)))) (argsL := [(.long (own_minJ (wa ν) (wb ν))), (.long ((wp ν) - (own_minJ (wc ν) (wp ν))))]) (rest := []) rfl rfl rfl rfl (leb rfl) (leb rfl) (leb rfl) (leb rfl) (st' := [(.long (own_minJ (own_minJ (wa ν) (wb ν)) ((wp ν) - (own_minJ (wc ν) (wp ν)))))]) rfl (k' := 22) rfl (n' := 172) rfl ?_
      refine H.lstore s0_294 (ls' := #[.val (.int p0), .val (.long p1), .second, .val (.long p2), .second, .val (.long p3), .second, .val (.long p4), .second, .val (.long (wa ν)), .second, .val (.long (wb ν)), .second, .val (.long (wc ν)), .second, .val (.long (wp ν)), .second, .val (.int (2 : Int32)), .val (.int (3 : Int32)), .val (.ref (n0 + 0)), .val (.ref (n0 + 18)), .val (.ref (n0 + 20)), .val (.long (own_minJ (wa ν) (wb ν))), .second, .val (.ref (n0 + 21)), .val (.long (own_minJ (wc ν) (wp ν))), .second, .val (.long (own_minJ (own_minJ (wa ν) (wb ν)) ((wp ν) - (own_minJ (wc ν) (wp ν))))), .second]) rfl ?_
      refine H.aload s0_296 rfl rfl ?_
      refine H.iload s0_298 rfl ?_
      refine H.dup2 s0_300 rfl rfl ?_
      refine H.laload s0_301 (i := 21) (j := 2) rfl (by decide) (v := (.long p3)) rfl ?_
      refine H.lload s0_302 rfl ?_
      refine H.ladd s0_304 rfl ?_
      refine H.lastore s0_305 (i := 21) (j := 2) rfl (by decide) (ltb rfl)  (A' := (own_bb n0 ν (-2 : Int64) (-3 : Int64) f0 f1 f2 f3 t [.inr (.long, [(.long p1), (.long p2), (.long p3), (.long p4)]), .inl (2, [(.ref (n0 + 0)), (.ref (n0 + 18))]), .inr (.long, [(.long p1), (.long p2), (.long (p3 + f1)), (.long (p4 + f2))]), .inr (.long, [(.long p1), (.long p2), (.long (p3 + (own_minJ (own_minJ (wa ν) (wb ν)) ((wp ν) - (own_minJ (wc ν) (wp ν)))))), (.long p4)])])) rfl ?_
      refine H.aload s0_306 rfl rfl ?_
      refine H.iload s0_308 rfl ?_
      refine H.dup2 s0_310 rfl rfl ?_
      refine H.laload s0_311 (i := 21) (j := 3) rfl (by decide) (v := (.long p4)) rfl ?_
      refine H.lload s0_312 rfl ?_
      refine H.ladd s0_314 rfl ?_
      refine H.lastore s0_315 (i := 21) (j := 3) rfl (by decide) (ltb rfl)  (A' := (own_bb n0 ν (-2 : Int64) (-3 : Int64) f0 f1 f2 f3 t [.inr (.long, [(.long p1), (.long p2), (.long p3), (.long p4)]), .inl (2, [(.ref (n0 + 0)), (.ref (n0 + 18))]), .inr (.long, [(.long p1), (.long p2), (.long (p3 + f1)), (.long (p4 + f2))]), .inr (.long, [(.long p1), (.long p2), (.long (p3 + (own_minJ (own_minJ (wa ν) (wb ν)) ((wp ν) - (own_minJ (wc ν) (wp ν)))))), (.long (p4 + (own_minJ (wc ν) (wp ν))))])])) rfl ?_
      refine H.aload s0_316 rfl rfl ?_
      refine H.aload s0_318 rfl rfl ?_
      refine H.acmp s0_320 rfl rfl (same := false) (by simp) ?_
      show G 323 _ _ _ _ _
      refine H.aload s0_323 rfl rfl ?_
      refine H.arraylength s0_325 (i := 20) rfl (z := (4 : Int32)) rfl ?_
      refine H.iconst s0_326 (v := (4 : Int32)) (by decide) ?_
      refine H.icmpT s0_327 (show (4 : Int32) = (4 : Int32) by decide) ?_
      refine H.aload s0_332 rfl rfl ?_
      refine H.iconst s0_334 (v := (0 : Int32)) (by decide) ?_
      refine H.laload s0_335 (i := 20) (j := 0) rfl (by decide) (v := (.long p1)) rfl ?_
      refine H.aload s0_336 rfl rfl ?_
      refine H.iconst s0_338 (v := (0 : Int32)) (by decide) ?_
      refine H.laload s0_339 (i := 21) (j := 0) rfl (by decide) (v := (.long p1)) rfl ?_
      refine H.lifF s0_340 s0_341 rfl ?_
      refine H.aload s0_344 rfl rfl ?_
      refine H.iconst s0_346 (v := (1 : Int32)) (by decide) ?_
      refine H.laload s0_347 (i := 20) (j := 1) rfl (by decide) (v := (.long p2)) rfl ?_
      refine H.aload s0_348 rfl rfl ?_
      refine H.iconst s0_350 (v := (1 : Int32)) (by decide) ?_
      refine H.laload s0_351 (i := 21) (j := 1) rfl (by decide) (v := (.long p2)) rfl ?_
      refine H.lifF s0_352 s0_353 rfl ?_
      refine H.aload s0_356 rfl rfl ?_
      refine H.iconst s0_358 (v := (2 : Int32)) (by decide) ?_
      refine H.laload s0_359 (i := 20) (j := 2) rfl (by decide) (v := (.long (p3 + f1))) rfl ?_
      refine H.aload s0_360 rfl rfl ?_
      refine H.iconst s0_362 (v := (2 : Int32)) (by decide) ?_
      refine H.laload s0_363 (i := 21) (j := 2) rfl (by decide) (v := (.long (p3 + (own_minJ (own_minJ (wa ν) (wb ν)) ((wp ν) - (own_minJ (wc ν) (wp ν))))))) rfl ?_
      refine H.lifF s0_364 s0_365 (congrArg (fun z => p3 + z) hf.2) ?_
      refine H.aload s0_368 rfl rfl ?_
      refine H.iconst s0_370 (v := (3 : Int32)) (by decide) ?_
      refine H.laload s0_371 (i := 20) (j := 3) rfl (by decide) (v := (.long (p4 + f2))) rfl ?_
      refine H.aload s0_372 rfl rfl ?_
      refine H.iconst s0_374 (v := (3 : Int32)) (by decide) ?_
      refine H.laload s0_375 (i := 21) (j := 3) rfl (by decide) (v := (.long (p4 + (own_minJ (wc ν) (wp ν))))) rfl ?_
      refine H.lifF s0_376 s0_377 (congrArg (fun z => p4 + z) hf.1) ?_
      refine H.iconst s0_380 (v := (1 : Int32)) (by decide) ?_
      refine H.goto s0_381 ?_
      refine H.istore s0_385 (ls' := #[.val (.int p0), .val (.long p1), .second, .val (.long p2), .second, .val (.long p3), .second, .val (.long p4), .second, .val (.long (wa ν)), .second, .val (.long (wb ν)), .second, .val (.long (wc ν)), .second, .val (.long (wp ν)), .second, .val (.int (2 : Int32)), .val (.int (3 : Int32)), .val (.ref (n0 + 0)), .val (.ref (n0 + 18)), .val (.ref (n0 + 20)), .val (.long (own_minJ (wa ν) (wb ν))), .second, .val (.ref (n0 + 21)), .val (.int (1 : Int32)), .unset, .val (.long (own_minJ (own_minJ (wa ν) (wb ν)) ((wp ν) - (own_minJ (wc ν) (wp ν))))), .second]) rfl ?_
      refine H.aload s0_387 rfl rfl ?_
      refine H.iconst s0_389 (v := (0 : Int32)) (by decide) ?_
      refine H.laload s0_390 (i := 18) (j := 0) rfl (by decide) (v := (.long p1)) rfl ?_
      refine H.lloadN s0_391 rfl ?_
      refine H.lifF s0_392 s0_393 rfl ?_
      refine H.aload s0_396 rfl rfl ?_
      refine H.iconst s0_398 (v := (1 : Int32)) (by decide) ?_
      refine H.laload s0_399 (i := 18) (j := 1) rfl (by decide) (v := (.long p2)) rfl ?_
      refine H.lloadN s0_400 rfl ?_
      refine H.lifF s0_401 s0_402 rfl ?_
      refine H.aload s0_405 rfl rfl ?_
      refine H.iconst s0_407 (v := (2 : Int32)) (by decide) ?_
      refine H.laload s0_408 (i := 18) (j := 2) rfl (by decide) (v := (.long p3)) rfl ?_
      refine H.lload s0_409 rfl ?_
      refine H.lifF s0_411 s0_412 rfl ?_
      refine H.aload s0_415 rfl rfl ?_
      refine H.iconst s0_417 (v := (3 : Int32)) (by decide) ?_
      refine H.laload s0_418 (i := 18) (j := 3) rfl (by decide) (v := (.long p4)) rfl ?_
      refine H.lload s0_419 rfl ?_
      refine H.lifF s0_421 s0_422 rfl ?_
      refine H.iconst s0_425 (v := (1 : Int32)) (by decide) ?_
      refine H.goto s0_426 ?_
      refine H.istore s0_430 (ls' := #[.val (.int p0), .val (.long p1), .second, .val (.long p2), .second, .val (.long p3), .second, .val (.long p4), .second, .val (.long (wa ν)), .second, .val (.long (wb ν)), .second, .val (.long (wc ν)), .second, .val (.long (wp ν)), .second, .val (.int (2 : Int32)), .val (.int (3 : Int32)), .val (.ref (n0 + 0)), .val (.ref (n0 + 18)), .val (.ref (n0 + 20)), .val (.long (own_minJ (wa ν) (wb ν))), .second, .val (.ref (n0 + 21)), .val (.int (1 : Int32)), .val (.int (1 : Int32)), .val (.long (own_minJ (own_minJ (wa ν) (wb ν)) ((wp ν) - (own_minJ (wc ν) (wp ν))))), .second]) rfl ?_
      refine H.iload s0_432 rfl ?_
      refine H.ifF s0_434 (show ¬ (1 : Int32) = (0 : Int32) by decide) ?_
      refine H.iload s0_437 rfl ?_
      refine H.ifF s0_439 (show ¬ (1 : Int32) = (0 : Int32) by decide) ?_
      refine H.iconst s0_442 (v := (1 : Int32)) (by decide) ?_
      refine H.goto s0_443 ?_
      exact H.ireturn s0_447 rfl (by simp) rfl rfl (by decide) (by decide)
  · refine H.iadd s0_45 (w := (3 : Int32)) hz45 ?_
    refine H.istore s0_46 (ls' := #[.val (.int p0), .val (.long p1), .second, .val (.long p2), .second, .val (.long p3), .second, .val (.long p4), .second, .val (.long (wa ν)), .second, .val (.long (wb ν)), .second, .val (.long (wc ν)), .second, .val (.long (wp ν)), .second, .val (.int (3 : Int32)), .unset, .unset, .unset, .unset, .unset, .unset, .unset, .unset, .unset, .unset, .unset]) rfl ?_
    refine H.iloadN s0_48 rfl ?_
    refine H.bipush s0_49 (v := (15 : Int32)) (by decide) ?_
    refine H.iushr s0_51 rfl ?_
    refine H.iconst s0_52 (v := (3 : Int32)) (by decide) ?_
    refine H.iand s0_53 rfl ?_
    refine H.iconst s0_54 (v := (3 : Int32)) (by decide) ?_
    refine H.irem s0_55 (by decide) rfl ?_
    refine H.iconst s0_56 (v := (1 : Int32)) (by decide) ?_
    rcases own_r3 _ with hz57 | hz57 | hz57
    · refine H.iadd s0_57 (w := (1 : Int32)) hz57 ?_
      refine H.istore s0_58 (ls' := #[.val (.int p0), .val (.long p1), .second, .val (.long p2), .second, .val (.long p3), .second, .val (.long p4), .second, .val (.long (wa ν)), .second, .val (.long (wb ν)), .second, .val (.long (wc ν)), .second, .val (.long (wp ν)), .second, .val (.int (3 : Int32)), .val (.int (1 : Int32)), .unset, .unset, .unset, .unset, .unset, .unset, .unset, .unset, .unset, .unset]) rfl ?_
      refine H.new s0_60 (k_82 hw) rfl (by decide) (by decide) (i := 0) rfl (A' := [.inl (0, [.null, .null, .null, .null, .null, (.int (0 : Int32)), (.long (0 : Int64)), (.int (0 : Int32))])]) rfl (k' := 1) rfl (n' := 8) rfl ?_
      refine H.dup s0_63 rfl ?_
      refine H.iconst s0_64 (v := (3 : Int32)) (by decide) ?_
      refine H.callCD s0_65 (k_90 hw) (a_0 l hw n0) (argsL := [(.int (3 : Int32))]) (rest := [(.ref (n0 + 0))]) rfl rfl rfl rfl (leb rfl) (leb rfl) (leb rfl) (leb rfl) (st' := [(.ref (n0 + 0))]) rfl (k' := 6) rfl (n' := 88) rfl ?_
      refine H.astore s0_68 rfl (ls' := #[.val (.int p0), .val (.long p1), .second, .val (.long p2), .second, .val (.long p3), .second, .val (.long p4), .second, .val (.long (wa ν)), .second, .val (.long (wb ν)), .second, .val (.long (wc ν)), .second, .val (.long (wp ν)), .second, .val (.int (3 : Int32)), .val (.int (1 : Int32)), .val (.ref (n0 + 0)), .unset, .unset, .unset, .unset, .unset, .unset, .unset, .unset, .unset]) rfl ?_
      refine H.aload s0_70 rfl rfl ?_
      refine H.iconst s0_72 (v := (0 : Int32)) (by decide) ?_
      refine H.iconst s0_73 (v := (2 : Int32)) (by decide) ?_
      refine H.lload s0_74 rfl ?_
      refine H.lconst s0_76 (v := (0 : Int64)) (by decide) ?_
      refine H.callVD s0_77 (k_91 hw) (c_add0 l hw n0 hB) (i := 0) rfl (argsL := [(.int (0 : Int32)), (.int (2 : Int32)), (.long (wa ν)), (.long (0 : Int64))]) (rest := []) rfl rfl rfl rfl (leb rfl) (leb rfl) (leb rfl) (leb rfl) (st' := [(.int (0 : Int32))]) rfl (k' := 6) rfl (n' := 88) rfl ?_
      refine H.pop s0_80 rfl ?_
      refine H.aload s0_81 rfl rfl ?_
      refine H.iconst s0_83 (v := (2 : Int32)) (by decide) ?_
      refine H.iconst s0_84 (v := (1 : Int32)) (by decide) ?_
      refine H.lload s0_85 rfl ?_
      refine H.iload s0_87 rfl ?_
      refine H.ineg s0_89 (w := (-3 : Int32)) (by decide) ?_
      refine H.i2l s0_90 (w := (-3 : Int64)) (by decide) ?_
      refine H.callVD s0_91 (k_91 hw) (c_add15 l hw n0 hB) (i := 0) rfl (argsL := [(.int (2 : Int32)), (.int (1 : Int32)), (.long (wb ν)), (.long (-3 : Int64))]) (rest := []) rfl rfl rfl rfl (leb rfl) (leb rfl) (leb rfl) (leb rfl) (st' := [(.int (1 : Int32))]) rfl (k' := 6) rfl (n' := 88) rfl ?_
      refine H.pop s0_94 rfl ?_
      refine H.aload s0_95 rfl rfl ?_
      refine H.iconst s0_97 (v := (0 : Int32)) (by decide) ?_
      refine H.iconst s0_98 (v := (1 : Int32)) (by decide) ?_
      refine H.lload s0_99 rfl ?_
      refine H.iload s0_101 rfl ?_
      refine H.ineg s0_103 (w := (-1 : Int32)) (by decide) ?_
      refine H.i2l s0_104 (w := (-1 : Int64)) (by decide) ?_
      refine H.callVD s0_105 (k_91 hw) (c_add16 l hw n0 hB) (i := 0) rfl (argsL := [(.int (0 : Int32)), (.int (1 : Int32)), (.long (wc ν)), (.long (-1 : Int64))]) (rest := []) rfl rfl rfl rfl (leb rfl) (leb rfl) (leb rfl) (leb rfl) (st' := [(.int (2 : Int32))]) rfl (k' := 6) rfl (n' := 88) rfl ?_
      refine H.pop s0_108 rfl ?_
      refine H.aload s0_109 rfl rfl ?_
      refine H.iconst s0_111 (v := (1 : Int32)) (by decide) ?_
      refine H.iconst s0_112 (v := (0 : Int32)) (by decide) ?_
      refine H.lload s0_113 rfl ?_
      refine H.lconst s0_115 (v := (0 : Int64)) (by decide) ?_
      refine H.callVD s0_116 (k_91 hw) (c_add17 l hw n0 hB) (i := 0) rfl (argsL := [(.int (1 : Int32)), (.int (0 : Int32)), (.long (wp ν)), (.long (0 : Int64))]) (rest := []) rfl rfl rfl rfl (leb rfl) (leb rfl) (leb rfl) (leb rfl) (st' := [(.int (3 : Int32))]) rfl (k' := 6) rfl (n' := 88) rfl ?_
      refine H.pop s0_119 rfl ?_
      refine H.aload s0_120 rfl rfl ?_
      refine H.callVW s0_122 (k_92 hw) (c_solve31 l hw n0 hB) (i := 0) rfl (argsL := []) (rest := []) rfl rfl rfl rfl (leb rfl) (leb rfl) (leb rfl) (leb rfl) ?_
      rintro v A' ⟨rfl, f0, f1, f2, f3, TT, hTT, rfl, hs⟩
      obtain ⟨t, rfl⟩ := own_twelve hTT
      show G 125 #[.val (.int p0), .val (.long p1), .second, .val (.long p2), .second, .val (.long p3), .second, .val (.long p4), .second, .val (.long (wa ν)), .second, .val (.long (wb ν)), .second, .val (.long (wc ν)), .second, .val (.long (wp ν)), .second, .val (.int (3 : Int32)), .val (.int (1 : Int32)), .val (.ref (n0 + 0)), .unset, .unset, .unset, .unset, .unset, .unset, .unset, .unset, .unset] [] (own_bb n0 ν (-3 : Int64) (-1 : Int64) f0 f1 f2 f3 t []) 18 158
      obtain ⟨⟨ba1, ba2⟩, ⟨bb1, bb2⟩, ⟨bc1, bc2⟩, ⟨bp1, bp2⟩⟩ := id hB
      obtain ⟨va, vb, vc, vp⟩ := own_w hB
      obtain ⟨bf, bg, hs⟩ := hs
      have hf := own_gt (f := f1) (g := f2) va vb vc vp ⟨ba1, by omega⟩ ⟨bb1, by omega⟩ ⟨bc1, by omega⟩ ⟨bp1, by omega⟩ (by simpa using hs)
      refine H.iconst s0_125 (v := (4 : Int32)) (by decide) ?_
      refine H.newarray s0_126 (ty := .long) rfl (k_26 hw) (N := 4) (cap := 4) (by decide) rfl (by decide) (by decide) rfl (by decide) (by decide) (i := 18) rfl (A' := (own_bb n0 ν (-3 : Int64) (-1 : Int64) f0 f1 f2 f3 t [.inr (.long, [(.long (0 : Int64)), (.long (0 : Int64)), (.long (0 : Int64)), (.long (0 : Int64))])])) rfl (k' := 19) rfl (n' := 162) rfl ?_
      refine H.dup s0_128 rfl ?_
      refine H.iconst s0_129 (v := (0 : Int32)) (by decide) ?_
      refine H.lloadN s0_130 rfl ?_
      refine H.lastore s0_131 (i := 18) (j := 0) rfl (by decide) (ltb rfl)  (A' := (own_bb n0 ν (-3 : Int64) (-1 : Int64) f0 f1 f2 f3 t [.inr (.long, [(.long p1), (.long (0 : Int64)), (.long (0 : Int64)), (.long (0 : Int64))])])) rfl ?_
      refine H.dup s0_132 rfl ?_
      refine H.iconst s0_133 (v := (1 : Int32)) (by decide) ?_
      refine H.lloadN s0_134 rfl ?_
      refine H.lastore s0_135 (i := 18) (j := 1) rfl (by decide) (ltb rfl)  (A' := (own_bb n0 ν (-3 : Int64) (-1 : Int64) f0 f1 f2 f3 t [.inr (.long, [(.long p1), (.long p2), (.long (0 : Int64)), (.long (0 : Int64))])])) rfl ?_
      refine H.dup s0_136 rfl ?_
      refine H.iconst s0_137 (v := (2 : Int32)) (by decide) ?_
      refine H.lload s0_138 rfl ?_
      refine H.lastore s0_140 (i := 18) (j := 2) rfl (by decide) (ltb rfl)  (A' := (own_bb n0 ν (-3 : Int64) (-1 : Int64) f0 f1 f2 f3 t [.inr (.long, [(.long p1), (.long p2), (.long p3), (.long (0 : Int64))])])) rfl ?_
      refine H.dup s0_141 rfl ?_
      refine H.iconst s0_142 (v := (3 : Int32)) (by decide) ?_
      refine H.lload s0_143 rfl ?_
      refine H.lastore s0_145 (i := 18) (j := 3) rfl (by decide) (ltb rfl)  (A' := (own_bb n0 ν (-3 : Int64) (-1 : Int64) f0 f1 f2 f3 t [.inr (.long, [(.long p1), (.long p2), (.long p3), (.long p4)])])) rfl ?_
      refine H.astore s0_146 rfl (ls' := #[.val (.int p0), .val (.long p1), .second, .val (.long p2), .second, .val (.long p3), .second, .val (.long p4), .second, .val (.long (wa ν)), .second, .val (.long (wb ν)), .second, .val (.long (wc ν)), .second, .val (.long (wp ν)), .second, .val (.int (3 : Int32)), .val (.int (1 : Int32)), .val (.ref (n0 + 0)), .val (.ref (n0 + 18)), .unset, .unset, .unset, .unset, .unset, .unset, .unset, .unset]) rfl ?_
      refine H.new s0_148 (k_93 hw) rfl (by decide) (by decide) (i := 19) rfl (A' := (own_bb n0 ν (-3 : Int64) (-1 : Int64) f0 f1 f2 f3 t [.inr (.long, [(.long p1), (.long p2), (.long p3), (.long p4)]), .inl (2, [.null, .null])])) rfl (k' := 20) rfl (n' := 164) rfl ?_
      refine H.dup s0_151 rfl ?_
      refine H.aload s0_152 rfl rfl ?_
      refine H.aload s0_154 rfl rfl ?_
      refine H.callCD s0_156 (k_100 hw) (d_1 l hw n0 ν (-3 : Int64) (-1 : Int64) f0 f1 f2 f3 t p1 p2 p3 p4) (argsL := [(.ref (n0 + 0)), (.ref (n0 + 18))]) (rest := [(.ref (n0 + 19))]) rfl rfl rfl rfl (leb rfl) (leb rfl) (leb rfl) (leb rfl) (st' := [(.ref (n0 + 19))]) rfl (k' := 20) rfl (n' := 164) rfl ?_
      refine H.callVD s0_159 (k_108 hw) (a_7 l hw n0 p1 p2 p3 p4 f0 f1 f2 f3 t ν) (i := 19) rfl (argsL := []) (rest := []) rfl rfl rfl rfl (leb rfl) (leb rfl) (leb rfl) (leb rfl) (st' := [(.ref (n0 + 20))]) rfl (k' := 21) rfl (n' := 168) rfl ?_
      refine H.astore s0_162 rfl (ls' := #[.val (.int p0), .val (.long p1), .second, .val (.long p2), .second, .val (.long p3), .second, .val (.long p4), .second, .val (.long (wa ν)), .second, .val (.long (wb ν)), .second, .val (.long (wc ν)), .second, .val (.long (wp ν)), .second, .val (.int (3 : Int32)), .val (.int (1 : Int32)), .val (.ref (n0 + 0)), .val (.ref (n0 + 18)), .val (.ref (n0 + 20)), .unset, .unset, .unset, .unset, .unset, .unset, .unset]) rfl ?_
      refine H.lload s0_164 rfl ?_
      refine H.lload s0_166 rfl ?_
      refine H.callSD s0_168 (k_109 hw) (m_minJ l hw n0 (own_bb n0 ν (-3 : Int64) (-1 : Int64) f0 f1 f2 f3 t [.inr (.long, [(.long p1), (.long p2), (.long p3), (.long p4)]), .inl (2, [(.ref (n0 + 0)), (.ref (n0 + 18))]), .inr (.long, [(.long p1), (.long (p2 + f2)), (.long p3), (.long (p4 + f1))])]) (wa ν) (wb ν)) (argsL := [(.long (wa ν)), (.long (wb ν))]) (rest := []) rfl rfl rfl rfl (leb rfl) (leb rfl) (leb rfl) (leb rfl) (st' := [(.long (own_minJ (wa ν) (wb ν)))]) rfl (k' := 21) rfl (n' := 168) rfl ?_
      refine H.lstore s0_171 (ls' := #[.val (.int p0), .val (.long p1), .second, .val (.long p2), .second, .val (.long p3), .second, .val (.long p4), .second, .val (.long (wa ν)), .second, .val (.long (wb ν)), .second, .val (.long (wc ν)), .second, .val (.long (wp ν)), .second, .val (.int (3 : Int32)), .val (.int (1 : Int32)), .val (.ref (n0 + 0)), .val (.ref (n0 + 18)), .val (.ref (n0 + 20)), .val (.long (own_minJ (wa ν) (wb ν))), .second, .unset, .unset, .unset, .unset, .unset]) rfl ?_
      refine H.iconst s0_173 (v := (4 : Int32)) (by decide) ?_
      refine H.newarray s0_174 (ty := .long) rfl (k_26 hw) (N := 4) (cap := 4) (by decide) rfl (by decide) (by decide) rfl (by decide) (by decide) (i := 21) rfl (A' := (own_bb n0 ν (-3 : Int64) (-1 : Int64) f0 f1 f2 f3 t [.inr (.long, [(.long p1), (.long p2), (.long p3), (.long p4)]), .inl (2, [(.ref (n0 + 0)), (.ref (n0 + 18))]), .inr (.long, [(.long p1), (.long (p2 + f2)), (.long p3), (.long (p4 + f1))]), .inr (.long, [(.long (0 : Int64)), (.long (0 : Int64)), (.long (0 : Int64)), (.long (0 : Int64))])])) rfl (k' := 22) rfl (n' := 172) rfl ?_
      refine H.dup s0_176 rfl ?_
      refine H.iconst s0_177 (v := (0 : Int32)) (by decide) ?_
      refine H.lloadN s0_178 rfl ?_
      refine H.lastore s0_179 (i := 21) (j := 0) rfl (by decide) (ltb rfl)  (A' := (own_bb n0 ν (-3 : Int64) (-1 : Int64) f0 f1 f2 f3 t [.inr (.long, [(.long p1), (.long p2), (.long p3), (.long p4)]), .inl (2, [(.ref (n0 + 0)), (.ref (n0 + 18))]), .inr (.long, [(.long p1), (.long (p2 + f2)), (.long p3), (.long (p4 + f1))]), .inr (.long, [(.long p1), (.long (0 : Int64)), (.long (0 : Int64)), (.long (0 : Int64))])])) rfl ?_
      refine H.dup s0_180 rfl ?_
      refine H.iconst s0_181 (v := (1 : Int32)) (by decide) ?_
      refine H.lloadN s0_182 rfl ?_
      refine H.lastore s0_183 (i := 21) (j := 1) rfl (by decide) (ltb rfl)  (A' := (own_bb n0 ν (-3 : Int64) (-1 : Int64) f0 f1 f2 f3 t [.inr (.long, [(.long p1), (.long p2), (.long p3), (.long p4)]), .inl (2, [(.ref (n0 + 0)), (.ref (n0 + 18))]), .inr (.long, [(.long p1), (.long (p2 + f2)), (.long p3), (.long (p4 + f1))]), .inr (.long, [(.long p1), (.long p2), (.long (0 : Int64)), (.long (0 : Int64))])])) rfl ?_
      refine H.dup s0_184 rfl ?_
      refine H.iconst s0_185 (v := (2 : Int32)) (by decide) ?_
      refine H.lload s0_186 rfl ?_
      refine H.lastore s0_188 (i := 21) (j := 2) rfl (by decide) (ltb rfl)  (A' := (own_bb n0 ν (-3 : Int64) (-1 : Int64) f0 f1 f2 f3 t [.inr (.long, [(.long p1), (.long p2), (.long p3), (.long p4)]), .inl (2, [(.ref (n0 + 0)), (.ref (n0 + 18))]), .inr (.long, [(.long p1), (.long (p2 + f2)), (.long p3), (.long (p4 + f1))]), .inr (.long, [(.long p1), (.long p2), (.long p3), (.long (0 : Int64))])])) rfl ?_
      refine H.dup s0_189 rfl ?_
      refine H.iconst s0_190 (v := (3 : Int32)) (by decide) ?_
      refine H.lload s0_191 rfl ?_
      refine H.lastore s0_193 (i := 21) (j := 3) rfl (by decide) (ltb rfl)  (A' := (own_bb n0 ν (-3 : Int64) (-1 : Int64) f0 f1 f2 f3 t [.inr (.long, [(.long p1), (.long p2), (.long p3), (.long p4)]), .inl (2, [(.ref (n0 + 0)), (.ref (n0 + 18))]), .inr (.long, [(.long p1), (.long (p2 + f2)), (.long p3), (.long (p4 + f1))]), .inr (.long, [(.long p1), (.long p2), (.long p3), (.long p4)])])) rfl ?_
      refine H.astore s0_194 rfl (ls' := #[.val (.int p0), .val (.long p1), .second, .val (.long p2), .second, .val (.long p3), .second, .val (.long p4), .second, .val (.long (wa ν)), .second, .val (.long (wb ν)), .second, .val (.long (wc ν)), .second, .val (.long (wp ν)), .second, .val (.int (3 : Int32)), .val (.int (1 : Int32)), .val (.ref (n0 + 0)), .val (.ref (n0 + 18)), .val (.ref (n0 + 20)), .val (.long (own_minJ (wa ν) (wb ν))), .second, .val (.ref (n0 + 21)), .unset, .unset, .unset, .unset]) rfl ?_
      refine H.iload s0_196 rfl ?_
      refine H.iload s0_198 rfl ?_
      refine H.icmpT s0_200 (show ¬ (3 : Int32) = (1 : Int32) by decide) ?_
      refine H.iload s0_224 rfl ?_
      refine H.iload s0_226 rfl ?_
      refine H.icmpF s0_228 (show (1 : Int32) < (3 : Int32) by decide) ?_
      refine H.lload s0_231 rfl ?_
      refine H.lload s0_233 rfl ?_
      refine H.callSD s0_235 (k_109 hw) (m_minJ l hw n0 (own_bb n0 ν (-3 : Int64) (-1 : Int64) f0 f1 f2 f3 t [.inr (.long, [(.long p1), (.long p2), (.long p3), (.long p4)]), .inl (2, [(.ref (n0 + 0)), (.ref (n0 + 18))]), .inr (.long, [(.long p1), (.long (p2 + f2)), (.long p3), (.long (p4 + f1))]), .inr (.long, [(.long p1), (.long p2), (.long p3), (.long p4)])]) (own_minJ (wa ν) (wb ν)) (wp ν)) (argsL := [(.long (own_minJ (wa ν) (wb ν))), (.long (wp ν))]) (rest := []) rfl rfl rfl rfl (leb rfl) (leb rfl) (leb rfl) (leb rfl) (st' := [(.long (own_minJ (own_minJ (wa ν) (wb ν)) (wp ν)))]) rfl (k' := 22) rfl (n' := 172) rfl ?_
      refine H.lstore s0_238 (ls' := #[.val (.int p0), .val (.long p1), .second, .val (.long p2), .second, .val (.long p3), .second, .val (.long p4), .second, .val (.long (wa ν)), .second, .val (.long (wb ν)), .second, .val (.long (wc ν)), .second, .val (.long (wp ν)), .second, .val (.int (3 : Int32)), .val (.int (1 : Int32)), .val (.ref (n0 + 0)), .val (.ref (n0 + 18)), .val (.ref (n0 + 20)), .val (.long (own_minJ (wa ν) (wb ν))), .second, .val (.ref (n0 + 21)), .val (.long (own_minJ (own_minJ (wa ν) (wb ν)) (wp ν))), .second, .unset, .unset]) rfl ?_
      refine H.lload s0_240 rfl ?_
      refine H.lload s0_242 rfl ?_
      refine H.lload s0_244 rfl ?_
      refine H.lsub s0_246 rfl ?_
      refine H.callSD s0_247 (k_109 hw) (m_minJ l hw n0 (own_bb n0 ν (-3 : Int64) (-1 : Int64) f0 f1 f2 f3 t [.inr (.long, [(.long p1), (.long p2), (.long p3), (.long p4)]), .inl (2, [(.ref (n0 + 0)), (.ref (n0 + 18))]), .inr (.long, [(.long p1), (.long (p2 + f2)), (.long p3), (.long (p4 + f1))]), .inr (.long, [(.long p1), (.long p2), (.long p3), (.long p4)])]) (wc ν) ((wp ν) - (own_minJ (own_minJ (wa ν) (wb ν)) (wp ν)))) (argsL := [(.long (wc ν)), (.long ((wp ν) - (own_minJ (own_minJ (wa ν) (wb ν)) (wp ν))))]) (rest := []) rfl rfl rfl rfl (leb rfl) (leb rfl) (leb rfl) (leb rfl) (st' := [(.long (own_minJ (wc ν) ((wp ν) - (own_minJ (own_minJ (wa ν) (wb ν)) (wp ν)))))]) rfl (k' := 22) rfl (n' := 172) rfl ?_
      refine H.lstore s0_250 (ls' := #[.val (.int p0), .val (.long p1), .second, .val (.long p2), .second, .val (.long p3), .second, .val (.long p4), .second, .val (.long (wa ν)), .second, .val (.long (wb ν)), .second, .val (.long (wc ν)), .second, .val (.long (wp ν)), .second, .val (.int (3 : Int32)), .val (.int (1 : Int32)), .val (.ref (n0 + 0)), .val (.ref (n0 + 18)), .val (.ref (n0 + 20)), .val (.long (own_minJ (wa ν) (wb ν))), .second, .val (.ref (n0 + 21)), .val (.long (own_minJ (own_minJ (wa ν) (wb ν)) (wp ν))), .second, .val (.long (own_minJ (wc ν) ((wp ν) - (own_minJ (own_minJ (wa ν) (wb ν)) (wp ν))))), .second]) rfl ?_
      refine H.aload s0_252 rfl rfl ?_
      refine H.iload s0_254 rfl ?_
      refine H.dup2 s0_256 rfl rfl ?_
      refine H.laload s0_257 (i := 21) (j := 3) rfl (by decide) (v := (.long p4)) rfl ?_
      refine H.lload s0_258 rfl ?_
      refine H.ladd s0_260 rfl ?_
      refine H.lastore s0_261 (i := 21) (j := 3) rfl (by decide) (ltb rfl)  (A' := (own_bb n0 ν (-3 : Int64) (-1 : Int64) f0 f1 f2 f3 t [.inr (.long, [(.long p1), (.long p2), (.long p3), (.long p4)]), .inl (2, [(.ref (n0 + 0)), (.ref (n0 + 18))]), .inr (.long, [(.long p1), (.long (p2 + f2)), (.long p3), (.long (p4 + f1))]), .inr (.long, [(.long p1), (.long p2), (.long p3), (.long (p4 + (own_minJ (own_minJ (wa ν) (wb ν)) (wp ν))))])])) rfl ?_
      refine H.aload s0_262 rfl rfl ?_
      refine H.iload s0_264 rfl ?_
      refine H.dup2 s0_266 rfl rfl ?_
      refine H.laload s0_267 (i := 21) (j := 1) rfl (by decide) (v := (.long p2)) rfl ?_
      refine H.lload s0_268 rfl ?_
      refine H.ladd s0_270 rfl ?_
      refine H.lastore s0_271 (i := 21) (j := 1) rfl (by decide) (ltb rfl)  (A' := (own_bb n0 ν (-3 : Int64) (-1 : Int64) f0 f1 f2 f3 t [.inr (.long, [(.long p1), (.long p2), (.long p3), (.long p4)]), .inl (2, [(.ref (n0 + 0)), (.ref (n0 + 18))]), .inr (.long, [(.long p1), (.long (p2 + f2)), (.long p3), (.long (p4 + f1))]), .inr (.long, [(.long p1), (.long (p2 + (own_minJ (wc ν) ((wp ν) - (own_minJ (own_minJ (wa ν) (wb ν)) (wp ν)))))), (.long p3), (.long (p4 + (own_minJ (own_minJ (wa ν) (wb ν)) (wp ν))))])])) rfl ?_
      refine H.goto s0_272 ?_
      refine H.aload s0_316 rfl rfl ?_
      refine H.aload s0_318 rfl rfl ?_
      refine H.acmp s0_320 rfl rfl (same := false) (by simp) ?_
      show G 323 _ _ _ _ _
      refine H.aload s0_323 rfl rfl ?_
      refine H.arraylength s0_325 (i := 20) rfl (z := (4 : Int32)) rfl ?_
      refine H.iconst s0_326 (v := (4 : Int32)) (by decide) ?_
      refine H.icmpT s0_327 (show (4 : Int32) = (4 : Int32) by decide) ?_
      refine H.aload s0_332 rfl rfl ?_
      refine H.iconst s0_334 (v := (0 : Int32)) (by decide) ?_
      refine H.laload s0_335 (i := 20) (j := 0) rfl (by decide) (v := (.long p1)) rfl ?_
      refine H.aload s0_336 rfl rfl ?_
      refine H.iconst s0_338 (v := (0 : Int32)) (by decide) ?_
      refine H.laload s0_339 (i := 21) (j := 0) rfl (by decide) (v := (.long p1)) rfl ?_
      refine H.lifF s0_340 s0_341 rfl ?_
      refine H.aload s0_344 rfl rfl ?_
      refine H.iconst s0_346 (v := (1 : Int32)) (by decide) ?_
      refine H.laload s0_347 (i := 20) (j := 1) rfl (by decide) (v := (.long (p2 + f2))) rfl ?_
      refine H.aload s0_348 rfl rfl ?_
      refine H.iconst s0_350 (v := (1 : Int32)) (by decide) ?_
      refine H.laload s0_351 (i := 21) (j := 1) rfl (by decide) (v := (.long (p2 + (own_minJ (wc ν) ((wp ν) - (own_minJ (own_minJ (wa ν) (wb ν)) (wp ν))))))) rfl ?_
      refine H.lifF s0_352 s0_353 (congrArg (fun z => p2 + z) hf.2) ?_
      refine H.aload s0_356 rfl rfl ?_
      refine H.iconst s0_358 (v := (2 : Int32)) (by decide) ?_
      refine H.laload s0_359 (i := 20) (j := 2) rfl (by decide) (v := (.long p3)) rfl ?_
      refine H.aload s0_360 rfl rfl ?_
      refine H.iconst s0_362 (v := (2 : Int32)) (by decide) ?_
      refine H.laload s0_363 (i := 21) (j := 2) rfl (by decide) (v := (.long p3)) rfl ?_
      refine H.lifF s0_364 s0_365 rfl ?_
      refine H.aload s0_368 rfl rfl ?_
      refine H.iconst s0_370 (v := (3 : Int32)) (by decide) ?_
      refine H.laload s0_371 (i := 20) (j := 3) rfl (by decide) (v := (.long (p4 + f1))) rfl ?_
      refine H.aload s0_372 rfl rfl ?_
      refine H.iconst s0_374 (v := (3 : Int32)) (by decide) ?_
      refine H.laload s0_375 (i := 21) (j := 3) rfl (by decide) (v := (.long (p4 + (own_minJ (own_minJ (wa ν) (wb ν)) (wp ν))))) rfl ?_
      refine H.lifF s0_376 s0_377 (congrArg (fun z => p4 + z) hf.1) ?_
      refine H.iconst s0_380 (v := (1 : Int32)) (by decide) ?_
      refine H.goto s0_381 ?_
      refine H.istore s0_385 (ls' := #[.val (.int p0), .val (.long p1), .second, .val (.long p2), .second, .val (.long p3), .second, .val (.long p4), .second, .val (.long (wa ν)), .second, .val (.long (wb ν)), .second, .val (.long (wc ν)), .second, .val (.long (wp ν)), .second, .val (.int (3 : Int32)), .val (.int (1 : Int32)), .val (.ref (n0 + 0)), .val (.ref (n0 + 18)), .val (.ref (n0 + 20)), .val (.long (own_minJ (wa ν) (wb ν))), .second, .val (.ref (n0 + 21)), .val (.int (1 : Int32)), .unset, .val (.long (own_minJ (wc ν) ((wp ν) - (own_minJ (own_minJ (wa ν) (wb ν)) (wp ν))))), .second]) rfl ?_
      refine H.aload s0_387 rfl rfl ?_
      refine H.iconst s0_389 (v := (0 : Int32)) (by decide) ?_
      refine H.laload s0_390 (i := 18) (j := 0) rfl (by decide) (v := (.long p1)) rfl ?_
      refine H.lloadN s0_391 rfl ?_
      refine H.lifF s0_392 s0_393 rfl ?_
      refine H.aload s0_396 rfl rfl ?_
      refine H.iconst s0_398 (v := (1 : Int32)) (by decide) ?_
      refine H.laload s0_399 (i := 18) (j := 1) rfl (by decide) (v := (.long p2)) rfl ?_
      refine H.lloadN s0_400 rfl ?_
      refine H.lifF s0_401 s0_402 rfl ?_
      refine H.aload s0_405 rfl rfl ?_
      refine H.iconst s0_407 (v := (2 : Int32)) (by decide) ?_
      refine H.laload s0_408 (i := 18) (j := 2) rfl (by decide) (v := (.long p3)) rfl ?_
      refine H.lload s0_409 rfl ?_
      refine H.lifF s0_411 s0_412 rfl ?_
      refine H.aload s0_415 rfl rfl ?_
      refine H.iconst s0_417 (v := (3 : Int32)) (by decide) ?_
      refine H.laload s0_418 (i := 18) (j := 3) rfl (by decide) (v := (.long p4)) rfl ?_
      refine H.lload s0_419 rfl ?_
      refine H.lifF s0_421 s0_422 rfl ?_
      refine H.iconst s0_425 (v := (1 : Int32)) (by decide) ?_
      refine H.goto s0_426 ?_
      refine H.istore s0_430 (ls' := #[.val (.int p0), .val (.long p1), .second, .val (.long p2), .second, .val (.long p3), .second, .val (.long p4), .second, .val (.long (wa ν)), .second, .val (.long (wb ν)), .second, .val (.long (wc ν)), .second, .val (.long (wp ν)), .second, .val (.int (3 : Int32)), .val (.int (1 : Int32)), .val (.ref (n0 + 0)), .val (.ref (n0 + 18)), .val (.ref (n0 + 20)), .val (.long (own_minJ (wa ν) (wb ν))), .second, .val (.ref (n0 + 21)), .val (.int (1 : Int32)), .val (.int (1 : Int32)), .val (.long (own_minJ (wc ν) ((wp ν) - (own_minJ (own_minJ (wa ν) (wb ν)) (wp ν))))), .second]) rfl ?_
      refine H.iload s0_432 rfl ?_
      refine H.ifF s0_434 (show ¬ (1 : Int32) = (0 : Int32) by decide) ?_
      refine H.iload s0_437 rfl ?_
      refine H.ifF s0_439 (show ¬ (1 : Int32) = (0 : Int32) by decide) ?_
      refine H.iconst s0_442 (v := (1 : Int32)) (by decide) ?_
      refine H.goto s0_443 ?_
      exact H.ireturn s0_447 rfl (by simp) rfl rfl (by decide) (by decide)
    · refine H.iadd s0_57 (w := (2 : Int32)) hz57 ?_
      refine H.istore s0_58 (ls' := #[.val (.int p0), .val (.long p1), .second, .val (.long p2), .second, .val (.long p3), .second, .val (.long p4), .second, .val (.long (wa ν)), .second, .val (.long (wb ν)), .second, .val (.long (wc ν)), .second, .val (.long (wp ν)), .second, .val (.int (3 : Int32)), .val (.int (2 : Int32)), .unset, .unset, .unset, .unset, .unset, .unset, .unset, .unset, .unset, .unset]) rfl ?_
      refine H.new s0_60 (k_82 hw) rfl (by decide) (by decide) (i := 0) rfl (A' := [.inl (0, [.null, .null, .null, .null, .null, (.int (0 : Int32)), (.long (0 : Int64)), (.int (0 : Int32))])]) rfl (k' := 1) rfl (n' := 8) rfl ?_
      refine H.dup s0_63 rfl ?_
      refine H.iconst s0_64 (v := (3 : Int32)) (by decide) ?_
      refine H.callCD s0_65 (k_90 hw) (a_0 l hw n0) (argsL := [(.int (3 : Int32))]) (rest := [(.ref (n0 + 0))]) rfl rfl rfl rfl (leb rfl) (leb rfl) (leb rfl) (leb rfl) (st' := [(.ref (n0 + 0))]) rfl (k' := 6) rfl (n' := 88) rfl ?_
      refine H.astore s0_68 rfl (ls' := #[.val (.int p0), .val (.long p1), .second, .val (.long p2), .second, .val (.long p3), .second, .val (.long p4), .second, .val (.long (wa ν)), .second, .val (.long (wb ν)), .second, .val (.long (wc ν)), .second, .val (.long (wp ν)), .second, .val (.int (3 : Int32)), .val (.int (2 : Int32)), .val (.ref (n0 + 0)), .unset, .unset, .unset, .unset, .unset, .unset, .unset, .unset, .unset]) rfl ?_
      refine H.aload s0_70 rfl rfl ?_
      refine H.iconst s0_72 (v := (0 : Int32)) (by decide) ?_
      refine H.iconst s0_73 (v := (2 : Int32)) (by decide) ?_
      refine H.lload s0_74 rfl ?_
      refine H.lconst s0_76 (v := (0 : Int64)) (by decide) ?_
      refine H.callVD s0_77 (k_91 hw) (c_add0 l hw n0 hB) (i := 0) rfl (argsL := [(.int (0 : Int32)), (.int (2 : Int32)), (.long (wa ν)), (.long (0 : Int64))]) (rest := []) rfl rfl rfl rfl (leb rfl) (leb rfl) (leb rfl) (leb rfl) (st' := [(.int (0 : Int32))]) rfl (k' := 6) rfl (n' := 88) rfl ?_
      refine H.pop s0_80 rfl ?_
      refine H.aload s0_81 rfl rfl ?_
      refine H.iconst s0_83 (v := (2 : Int32)) (by decide) ?_
      refine H.iconst s0_84 (v := (1 : Int32)) (by decide) ?_
      refine H.lload s0_85 rfl ?_
      refine H.iload s0_87 rfl ?_
      refine H.ineg s0_89 (w := (-3 : Int32)) (by decide) ?_
      refine H.i2l s0_90 (w := (-3 : Int64)) (by decide) ?_
      refine H.callVD s0_91 (k_91 hw) (c_add15 l hw n0 hB) (i := 0) rfl (argsL := [(.int (2 : Int32)), (.int (1 : Int32)), (.long (wb ν)), (.long (-3 : Int64))]) (rest := []) rfl rfl rfl rfl (leb rfl) (leb rfl) (leb rfl) (leb rfl) (st' := [(.int (1 : Int32))]) rfl (k' := 6) rfl (n' := 88) rfl ?_
      refine H.pop s0_94 rfl ?_
      refine H.aload s0_95 rfl rfl ?_
      refine H.iconst s0_97 (v := (0 : Int32)) (by decide) ?_
      refine H.iconst s0_98 (v := (1 : Int32)) (by decide) ?_
      refine H.lload s0_99 rfl ?_
      refine H.iload s0_101 rfl ?_
      refine H.ineg s0_103 (w := (-2 : Int32)) (by decide) ?_
      refine H.i2l s0_104 (w := (-2 : Int64)) (by decide) ?_
      refine H.callVD s0_105 (k_91 hw) (c_add18 l hw n0 hB) (i := 0) rfl (argsL := [(.int (0 : Int32)), (.int (1 : Int32)), (.long (wc ν)), (.long (-2 : Int64))]) (rest := []) rfl rfl rfl rfl (leb rfl) (leb rfl) (leb rfl) (leb rfl) (st' := [(.int (2 : Int32))]) rfl (k' := 6) rfl (n' := 88) rfl ?_
      refine H.pop s0_108 rfl ?_
      refine H.aload s0_109 rfl rfl ?_
      refine H.iconst s0_111 (v := (1 : Int32)) (by decide) ?_
      refine H.iconst s0_112 (v := (0 : Int32)) (by decide) ?_
      refine H.lload s0_113 rfl ?_
      refine H.lconst s0_115 (v := (0 : Int64)) (by decide) ?_
      refine H.callVD s0_116 (k_91 hw) (c_add19 l hw n0 hB) (i := 0) rfl (argsL := [(.int (1 : Int32)), (.int (0 : Int32)), (.long (wp ν)), (.long (0 : Int64))]) (rest := []) rfl rfl rfl rfl (leb rfl) (leb rfl) (leb rfl) (leb rfl) (st' := [(.int (3 : Int32))]) rfl (k' := 6) rfl (n' := 88) rfl ?_
      refine H.pop s0_119 rfl ?_
      refine H.aload s0_120 rfl rfl ?_
      refine H.callVW s0_122 (k_92 hw) (c_solve32 l hw n0 hB) (i := 0) rfl (argsL := []) (rest := []) rfl rfl rfl rfl (leb rfl) (leb rfl) (leb rfl) (leb rfl) ?_
      rintro v A' ⟨rfl, f0, f1, f2, f3, TT, hTT, rfl, hs⟩
      obtain ⟨t, rfl⟩ := own_twelve hTT
      show G 125 #[.val (.int p0), .val (.long p1), .second, .val (.long p2), .second, .val (.long p3), .second, .val (.long p4), .second, .val (.long (wa ν)), .second, .val (.long (wb ν)), .second, .val (.long (wc ν)), .second, .val (.long (wp ν)), .second, .val (.int (3 : Int32)), .val (.int (2 : Int32)), .val (.ref (n0 + 0)), .unset, .unset, .unset, .unset, .unset, .unset, .unset, .unset, .unset] [] (own_bb n0 ν (-3 : Int64) (-2 : Int64) f0 f1 f2 f3 t []) 18 158
      obtain ⟨⟨ba1, ba2⟩, ⟨bb1, bb2⟩, ⟨bc1, bc2⟩, ⟨bp1, bp2⟩⟩ := id hB
      obtain ⟨va, vb, vc, vp⟩ := own_w hB
      obtain ⟨bf, bg, hs⟩ := hs
      have hf := own_gt (f := f1) (g := f2) va vb vc vp ⟨ba1, by omega⟩ ⟨bb1, by omega⟩ ⟨bc1, by omega⟩ ⟨bp1, by omega⟩ (by simpa using hs)
      refine H.iconst s0_125 (v := (4 : Int32)) (by decide) ?_
      refine H.newarray s0_126 (ty := .long) rfl (k_26 hw) (N := 4) (cap := 4) (by decide) rfl (by decide) (by decide) rfl (by decide) (by decide) (i := 18) rfl (A' := (own_bb n0 ν (-3 : Int64) (-2 : Int64) f0 f1 f2 f3 t [.inr (.long, [(.long (0 : Int64)), (.long (0 : Int64)), (.long (0 : Int64)), (.long (0 : Int64))])])) rfl (k' := 19) rfl (n' := 162) rfl ?_
      refine H.dup s0_128 rfl ?_
      refine H.iconst s0_129 (v := (0 : Int32)) (by decide) ?_
      refine H.lloadN s0_130 rfl ?_
      refine H.lastore s0_131 (i := 18) (j := 0) rfl (by decide) (ltb rfl)  (A' := (own_bb n0 ν (-3 : Int64) (-2 : Int64) f0 f1 f2 f3 t [.inr (.long, [(.long p1), (.long (0 : Int64)), (.long (0 : Int64)), (.long (0 : Int64))])])) rfl ?_
      refine H.dup s0_132 rfl ?_
      refine H.iconst s0_133 (v := (1 : Int32)) (by decide) ?_
      refine H.lloadN s0_134 rfl ?_
      refine H.lastore s0_135 (i := 18) (j := 1) rfl (by decide) (ltb rfl)  (A' := (own_bb n0 ν (-3 : Int64) (-2 : Int64) f0 f1 f2 f3 t [.inr (.long, [(.long p1), (.long p2), (.long (0 : Int64)), (.long (0 : Int64))])])) rfl ?_
      refine H.dup s0_136 rfl ?_
      refine H.iconst s0_137 (v := (2 : Int32)) (by decide) ?_
      refine H.lload s0_138 rfl ?_
      refine H.lastore s0_140 (i := 18) (j := 2) rfl (by decide) (ltb rfl)  (A' := (own_bb n0 ν (-3 : Int64) (-2 : Int64) f0 f1 f2 f3 t [.inr (.long, [(.long p1), (.long p2), (.long p3), (.long (0 : Int64))])])) rfl ?_
      refine H.dup s0_141 rfl ?_
      refine H.iconst s0_142 (v := (3 : Int32)) (by decide) ?_
      refine H.lload s0_143 rfl ?_
      refine H.lastore s0_145 (i := 18) (j := 3) rfl (by decide) (ltb rfl)  (A' := (own_bb n0 ν (-3 : Int64) (-2 : Int64) f0 f1 f2 f3 t [.inr (.long, [(.long p1), (.long p2), (.long p3), (.long p4)])])) rfl ?_
      refine H.astore s0_146 rfl (ls' := #[.val (.int p0), .val (.long p1), .second, .val (.long p2), .second, .val (.long p3), .second, .val (.long p4), .second, .val (.long (wa ν)), .second, .val (.long (wb ν)), .second, .val (.long (wc ν)), .second, .val (.long (wp ν)), .second, .val (.int (3 : Int32)), .val (.int (2 : Int32)), .val (.ref (n0 + 0)), .val (.ref (n0 + 18)), .unset, .unset, .unset, .unset, .unset, .unset, .unset, .unset]) rfl ?_
      refine H.new s0_148 (k_93 hw) rfl (by decide) (by decide) (i := 19) rfl (A' := (own_bb n0 ν (-3 : Int64) (-2 : Int64) f0 f1 f2 f3 t [.inr (.long, [(.long p1), (.long p2), (.long p3), (.long p4)]), .inl (2, [.null, .null])])) rfl (k' := 20) rfl (n' := 164) rfl ?_
      refine H.dup s0_151 rfl ?_
      refine H.aload s0_152 rfl rfl ?_
      refine H.aload s0_154 rfl rfl ?_
      refine H.callCD s0_156 (k_100 hw) (d_1 l hw n0 ν (-3 : Int64) (-2 : Int64) f0 f1 f2 f3 t p1 p2 p3 p4) (argsL := [(.ref (n0 + 0)), (.ref (n0 + 18))]) (rest := [(.ref (n0 + 19))]) rfl rfl rfl rfl (leb rfl) (leb rfl) (leb rfl) (leb rfl) (st' := [(.ref (n0 + 19))]) rfl (k' := 20) rfl (n' := 164) rfl ?_
      refine H.callVD s0_159 (k_108 hw) (a_8 l hw n0 p1 p2 p3 p4 f0 f1 f2 f3 t ν) (i := 19) rfl (argsL := []) (rest := []) rfl rfl rfl rfl (leb rfl) (leb rfl) (leb rfl) (leb rfl) (st' := [(.ref (n0 + 20))]) rfl (k' := 21) rfl (n' := 168) rfl ?_
      refine H.astore s0_162 rfl (ls' := #[.val (.int p0), .val (.long p1), .second, .val (.long p2), .second, .val (.long p3), .second, .val (.long p4), .second, .val (.long (wa ν)), .second, .val (.long (wb ν)), .second, .val (.long (wc ν)), .second, .val (.long (wp ν)), .second, .val (.int (3 : Int32)), .val (.int (2 : Int32)), .val (.ref (n0 + 0)), .val (.ref (n0 + 18)), .val (.ref (n0 + 20)), .unset, .unset, .unset, .unset, .unset, .unset, .unset]) rfl ?_
      refine H.lload s0_164 rfl ?_
      refine H.lload s0_166 rfl ?_
      refine H.callSD s0_168 (k_109 hw) (m_minJ l hw n0 (own_bb n0 ν (-3 : Int64) (-2 : Int64) f0 f1 f2 f3 t [.inr (.long, [(.long p1), (.long p2), (.long p3), (.long p4)]), .inl (2, [(.ref (n0 + 0)), (.ref (n0 + 18))]), .inr (.long, [(.long p1), (.long p2), (.long (p3 + f2)), (.long (p4 + f1))])]) (wa ν) (wb ν)) (argsL := [(.long (wa ν)), (.long (wb ν))]) (rest := []) rfl rfl rfl rfl (leb rfl) (leb rfl) (leb rfl) (leb rfl) (st' := [(.long (own_minJ (wa ν) (wb ν)))]) rfl (k' := 21) rfl (n' := 168) rfl ?_
      refine H.lstore s0_171 (ls' := #[.val (.int p0), .val (.long p1), .second, .val (.long p2), .second, .val (.long p3), .second, .val (.long p4), .second, .val (.long (wa ν)), .second, .val (.long (wb ν)), .second, .val (.long (wc ν)), .second, .val (.long (wp ν)), .second, .val (.int (3 : Int32)), .val (.int (2 : Int32)), .val (.ref (n0 + 0)), .val (.ref (n0 + 18)), .val (.ref (n0 + 20)), .val (.long (own_minJ (wa ν) (wb ν))), .second, .unset, .unset, .unset, .unset, .unset]) rfl ?_
      refine H.iconst s0_173 (v := (4 : Int32)) (by decide) ?_
      refine H.newarray s0_174 (ty := .long) rfl (k_26 hw) (N := 4) (cap := 4) (by decide) rfl (by decide) (by decide) rfl (by decide) (by decide) (i := 21) rfl (A' := (own_bb n0 ν (-3 : Int64) (-2 : Int64) f0 f1 f2 f3 t [.inr (.long, [(.long p1), (.long p2), (.long p3), (.long p4)]), .inl (2, [(.ref (n0 + 0)), (.ref (n0 + 18))]), .inr (.long, [(.long p1), (.long p2), (.long (p3 + f2)), (.long (p4 + f1))]), .inr (.long, [(.long (0 : Int64)), (.long (0 : Int64)), (.long (0 : Int64)), (.long (0 : Int64))])])) rfl (k' := 22) rfl (n' := 172) rfl ?_
      refine H.dup s0_176 rfl ?_
      refine H.iconst s0_177 (v := (0 : Int32)) (by decide) ?_
      refine H.lloadN s0_178 rfl ?_
      refine H.lastore s0_179 (i := 21) (j := 0) rfl (by decide) (ltb rfl)  (A' := (own_bb n0 ν (-3 : Int64) (-2 : Int64) f0 f1 f2 f3 t [.inr (.long, [(.long p1), (.long p2), (.long p3), (.long p4)]), .inl (2, [(.ref (n0 + 0)), (.ref (n0 + 18))]), .inr (.long, [(.long p1), (.long p2), (.long (p3 + f2)), (.long (p4 + f1))]), .inr (.long, [(.long p1), (.long (0 : Int64)), (.long (0 : Int64)), (.long (0 : Int64))])])) rfl ?_
      refine H.dup s0_180 rfl ?_
      refine H.iconst s0_181 (v := (1 : Int32)) (by decide) ?_
      refine H.lloadN s0_182 rfl ?_
      refine H.lastore s0_183 (i := 21) (j := 1) rfl (by decide) (ltb rfl)  (A' := (own_bb n0 ν (-3 : Int64) (-2 : Int64) f0 f1 f2 f3 t [.inr (.long, [(.long p1), (.long p2), (.long p3), (.long p4)]), .inl (2, [(.ref (n0 + 0)), (.ref (n0 + 18))]), .inr (.long, [(.long p1), (.long p2), (.long (p3 + f2)), (.long (p4 + f1))]), .inr (.long, [(.long p1), (.long p2), (.long (0 : Int64)), (.long (0 : Int64))])])) rfl ?_
      refine H.dup s0_184 rfl ?_
      refine H.iconst s0_185 (v := (2 : Int32)) (by decide) ?_
      refine H.lload s0_186 rfl ?_
      refine H.lastore s0_188 (i := 21) (j := 2) rfl (by decide) (ltb rfl)  (A' := (own_bb n0 ν (-3 : Int64) (-2 : Int64) f0 f1 f2 f3 t [.inr (.long, [(.long p1), (.long p2), (.long p3), (.long p4)]), .inl (2, [(.ref (n0 + 0)), (.ref (n0 + 18))]), .inr (.long, [(.long p1), (.long p2), (.long (p3 + f2)), (.long (p4 + f1))]), .inr (.long, [(.long p1), (.long p2), (.long p3), (.long (0 : Int64))])])) rfl ?_
      refine H.dup s0_189 rfl ?_
      refine H.iconst s0_190 (v := (3 : Int32)) (by decide) ?_
      refine H.lload s0_191 rfl ?_
      refine H.lastore s0_193 (i := 21) (j := 3) rfl (by decide) (ltb rfl)  (A' := (own_bb n0 ν (-3 : Int64) (-2 : Int64) f0 f1 f2 f3 t [.inr (.long, [(.long p1), (.long p2), (.long p3), (.long p4)]), .inl (2, [(.ref (n0 + 0)), (.ref (n0 + 18))]), .inr (.long, [(.long p1), (.long p2), (.long (p3 + f2)), (.long (p4 + f1))]), .inr (.long, [(.long p1), (.long p2), (.long p3), (.long p4)])])) rfl ?_
      refine H.astore s0_194 rfl (ls' := #[.val (.int p0), .val (.long p1), .second, .val (.long p2), .second, .val (.long p3), .second, .val (.long p4), .second, .val (.long (wa ν)), .second, .val (.long (wb ν)), .second, .val (.long (wc ν)), .second, .val (.long (wp ν)), .second, .val (.int (3 : Int32)), .val (.int (2 : Int32)), .val (.ref (n0 + 0)), .val (.ref (n0 + 18)), .val (.ref (n0 + 20)), .val (.long (own_minJ (wa ν) (wb ν))), .second, .val (.ref (n0 + 21)), .unset, .unset, .unset, .unset]) rfl ?_
      refine H.iload s0_196 rfl ?_
      refine H.iload s0_198 rfl ?_
      refine H.icmpT s0_200 (show ¬ (3 : Int32) = (2 : Int32) by decide) ?_
      refine H.iload s0_224 rfl ?_
      refine H.iload s0_226 rfl ?_
      refine H.icmpF s0_228 (show (2 : Int32) < (3 : Int32) by decide) ?_
      refine H.lload s0_231 rfl ?_
      refine H.lload s0_233 rfl ?_
      refine H.callSD s0_235 (k_109 hw) (m_minJ l hw n0 (own_bb n0 ν (-3 : Int64) (-2 : Int64) f0 f1 f2 f3 t [.inr (.long, [(.long p1), (.long p2), (.long p3), (.long p4)]), .inl (2, [(.ref (n0 + 0)), (.ref (n0 + 18))]), .inr (.long, [(.long p1), (.long p2), (.long (p3 + f2)), (.long (p4 + f1))]), .inr (.long, [(.long p1), (.long p2), (.long p3), (.long p4)])]) (own_minJ (wa ν) (wb ν)) (wp ν)) (argsL := [(.long (own_minJ (wa ν) (wb ν))), (.long (wp ν))]) (rest := []) rfl rfl rfl rfl (leb rfl) (leb rfl) (leb rfl) (leb rfl) (st' := [(.long (own_minJ (own_minJ (wa ν) (wb ν)) (wp ν)))]) rfl (k' := 22) rfl (n' := 172) rfl ?_
      refine H.lstore s0_238 (ls' := #[.val (.int p0), .val (.long p1), .second, .val (.long p2), .second, .val (.long p3), .second, .val (.long p4), .second, .val (.long (wa ν)), .second, .val (.long (wb ν)), .second, .val (.long (wc ν)), .second, .val (.long (wp ν)), .second, .val (.int (3 : Int32)), .val (.int (2 : Int32)), .val (.ref (n0 + 0)), .val (.ref (n0 + 18)), .val (.ref (n0 + 20)), .val (.long (own_minJ (wa ν) (wb ν))), .second, .val (.ref (n0 + 21)), .val (.long (own_minJ (own_minJ (wa ν) (wb ν)) (wp ν))), .second, .unset, .unset]) rfl ?_
      refine H.lload s0_240 rfl ?_
      refine H.lload s0_242 rfl ?_
      refine H.lload s0_244 rfl ?_
      refine H.lsub s0_246 rfl ?_
      refine H.callSD s0_247 (k_109 hw) (m_minJ l hw n0 (own_bb n0 ν (-3 : Int64) (-2 : Int64) f0 f1 f2 f3 t [.inr (.long, [(.long p1), (.long p2), (.long p3), (.long p4)]), .inl (2, [(.ref (n0 + 0)), (.ref (n0 + 18))]), .inr (.long, [(.long p1), (.long p2), (.long (p3 + f2)), (.long (p4 + f1))]), .inr (.long, [(.long p1), (.long p2), (.long p3), (.long p4)])]) (wc ν) ((wp ν) - (own_minJ (own_minJ (wa ν) (wb ν)) (wp ν)))) (argsL := [(.long (wc ν)), (.long ((wp ν) - (own_minJ (own_minJ (wa ν) (wb ν)) (wp ν))))]) (rest := []) rfl rfl rfl rfl (leb rfl) (leb rfl) (leb rfl) (leb rfl) (st' := [(.long (own_minJ (wc ν) ((wp ν) - (own_minJ (own_minJ (wa ν) (wb ν)) (wp ν)))))]) rfl (k' := 22) rfl (n' := 172) rfl ?_
      refine H.lstore s0_250 (ls' := #[.val (.int p0), .val (.long p1), .second, .val (.long p2), .second, .val (.long p3), .second, .val (.long p4), .second, .val (.long (wa ν)), .second, .val (.long (wb ν)), .second, .val (.long (wc ν)), .second, .val (.long (wp ν)), .second, .val (.int (3 : Int32)), .val (.int (2 : Int32)), .val (.ref (n0 + 0)), .val (.ref (n0 + 18)), .val (.ref (n0 + 20)), .val (.long (own_minJ (wa ν) (wb ν))), .second, .val (.ref (n0 + 21)), .val (.long (own_minJ (own_minJ (wa ν) (wb ν)) (wp ν))), .second, .val (.long (own_minJ (wc ν) ((wp ν) - (own_minJ (own_minJ (wa ν) (wb ν)) (wp ν))))), .second]) rfl ?_
      refine H.aload s0_252 rfl rfl ?_
      refine H.iload s0_254 rfl ?_
      refine H.dup2 s0_256 rfl rfl ?_
      refine H.laload s0_257 (i := 21) (j := 3) rfl (by decide) (v := (.long p4)) rfl ?_
      refine H.lload s0_258 rfl ?_
      refine H.ladd s0_260 rfl ?_
      refine H.lastore s0_261 (i := 21) (j := 3) rfl (by decide) (ltb rfl)  (A' := (own_bb n0 ν (-3 : Int64) (-2 : Int64) f0 f1 f2 f3 t [.inr (.long, [(.long p1), (.long p2), (.long p3), (.long p4)]), .inl (2, [(.ref (n0 + 0)), (.ref (n0 + 18))]), .inr (.long, [(.long p1), (.long p2), (.long (p3 + f2)), (.long (p4 + f1))]), .inr (.long, [(.long p1), (.long p2), (.long p3), (.long (p4 + (own_minJ (own_minJ (wa ν) (wb ν)) (wp ν))))])])) rfl ?_
      refine H.aload s0_262 rfl rfl ?_
      refine H.iload s0_264 rfl ?_
      refine H.dup2 s0_266 rfl rfl ?_
      refine H.laload s0_267 (i := 21) (j := 2) rfl (by decide) (v := (.long p3)) rfl ?_
      refine H.lload s0_268 rfl ?_
      refine H.ladd s0_270 rfl ?_
      refine H.lastore s0_271 (i := 21) (j := 2) rfl (by decide) (ltb rfl)  (A' := (own_bb n0 ν (-3 : Int64) (-2 : Int64) f0 f1 f2 f3 t [.inr (.long, [(.long p1), (.long p2), (.long p3), (.long p4)]), .inl (2, [(.ref (n0 + 0)), (.ref (n0 + 18))]), .inr (.long, [(.long p1), (.long p2), (.long (p3 + f2)), (.long (p4 + f1))]), .inr (.long, [(.long p1), (.long p2), (.long (p3 + (own_minJ (wc ν) ((wp ν) - (own_minJ (own_minJ (wa ν) (wb ν)) (wp ν)))))), (.long (p4 + (own_minJ (own_minJ (wa ν) (wb ν)) (wp ν))))])])) rfl ?_
      refine H.goto s0_272 ?_
      refine H.aload s0_316 rfl rfl ?_
      refine H.aload s0_318 rfl rfl ?_
      refine H.acmp s0_320 rfl rfl (same := false) (by simp) ?_
      show G 323 _ _ _ _ _
      refine H.aload s0_323 rfl rfl ?_
      refine H.arraylength s0_325 (i := 20) rfl (z := (4 : Int32)) rfl ?_
      refine H.iconst s0_326 (v := (4 : Int32)) (by decide) ?_
      refine H.icmpT s0_327 (show (4 : Int32) = (4 : Int32) by decide) ?_
      refine H.aload s0_332 rfl rfl ?_
      refine H.iconst s0_334 (v := (0 : Int32)) (by decide) ?_
      refine H.laload s0_335 (i := 20) (j := 0) rfl (by decide) (v := (.long p1)) rfl ?_
      refine H.aload s0_336 rfl rfl ?_
      refine H.iconst s0_338 (v := (0 : Int32)) (by decide) ?_
      refine H.laload s0_339 (i := 21) (j := 0) rfl (by decide) (v := (.long p1)) rfl ?_
      refine H.lifF s0_340 s0_341 rfl ?_
      refine H.aload s0_344 rfl rfl ?_
      refine H.iconst s0_346 (v := (1 : Int32)) (by decide) ?_
      refine H.laload s0_347 (i := 20) (j := 1) rfl (by decide) (v := (.long p2)) rfl ?_
      refine H.aload s0_348 rfl rfl ?_
      refine H.iconst s0_350 (v := (1 : Int32)) (by decide) ?_
      refine H.laload s0_351 (i := 21) (j := 1) rfl (by decide) (v := (.long p2)) rfl ?_
      refine H.lifF s0_352 s0_353 rfl ?_
      refine H.aload s0_356 rfl rfl ?_
      refine H.iconst s0_358 (v := (2 : Int32)) (by decide) ?_
      refine H.laload s0_359 (i := 20) (j := 2) rfl (by decide) (v := (.long (p3 + f2))) rfl ?_
      refine H.aload s0_360 rfl rfl ?_
      refine H.iconst s0_362 (v := (2 : Int32)) (by decide) ?_
      refine H.laload s0_363 (i := 21) (j := 2) rfl (by decide) (v := (.long (p3 + (own_minJ (wc ν) ((wp ν) - (own_minJ (own_minJ (wa ν) (wb ν)) (wp ν))))))) rfl ?_
      refine H.lifF s0_364 s0_365 (congrArg (fun z => p3 + z) hf.2) ?_
      refine H.aload s0_368 rfl rfl ?_
      refine H.iconst s0_370 (v := (3 : Int32)) (by decide) ?_
      refine H.laload s0_371 (i := 20) (j := 3) rfl (by decide) (v := (.long (p4 + f1))) rfl ?_
      refine H.aload s0_372 rfl rfl ?_
      refine H.iconst s0_374 (v := (3 : Int32)) (by decide) ?_
      refine H.laload s0_375 (i := 21) (j := 3) rfl (by decide) (v := (.long (p4 + (own_minJ (own_minJ (wa ν) (wb ν)) (wp ν))))) rfl ?_
      refine H.lifF s0_376 s0_377 (congrArg (fun z => p4 + z) hf.1) ?_
      refine H.iconst s0_380 (v := (1 : Int32)) (by decide) ?_
      refine H.goto s0_381 ?_
      refine H.istore s0_385 (ls' := #[.val (.int p0), .val (.long p1), .second, .val (.long p2), .second, .val (.long p3), .second, .val (.long p4), .second, .val (.long (wa ν)), .second, .val (.long (wb ν)), .second, .val (.long (wc ν)), .second, .val (.long (wp ν)), .second, .val (.int (3 : Int32)), .val (.int (2 : Int32)), .val (.ref (n0 + 0)), .val (.ref (n0 + 18)), .val (.ref (n0 + 20)), .val (.long (own_minJ (wa ν) (wb ν))), .second, .val (.ref (n0 + 21)), .val (.int (1 : Int32)), .unset, .val (.long (own_minJ (wc ν) ((wp ν) - (own_minJ (own_minJ (wa ν) (wb ν)) (wp ν))))), .second]) rfl ?_
      refine H.aload s0_387 rfl rfl ?_
      refine H.iconst s0_389 (v := (0 : Int32)) (by decide) ?_
      refine H.laload s0_390 (i := 18) (j := 0) rfl (by decide) (v := (.long p1)) rfl ?_
      refine H.lloadN s0_391 rfl ?_
      refine H.lifF s0_392 s0_393 rfl ?_
      refine H.aload s0_396 rfl rfl ?_
      refine H.iconst s0_398 (v := (1 : Int32)) (by decide) ?_
      refine H.laload s0_399 (i := 18) (j := 1) rfl (by decide) (v := (.long p2)) rfl ?_
      refine H.lloadN s0_400 rfl ?_
      refine H.lifF s0_401 s0_402 rfl ?_
      refine H.aload s0_405 rfl rfl ?_
      refine H.iconst s0_407 (v := (2 : Int32)) (by decide) ?_
      refine H.laload s0_408 (i := 18) (j := 2) rfl (by decide) (v := (.long p3)) rfl ?_
      refine H.lload s0_409 rfl ?_
      refine H.lifF s0_411 s0_412 rfl ?_
      refine H.aload s0_415 rfl rfl ?_
      refine H.iconst s0_417 (v := (3 : Int32)) (by decide) ?_
      refine H.laload s0_418 (i := 18) (j := 3) rfl (by decide) (v := (.long p4)) rfl ?_
      refine H.lload s0_419 rfl ?_
      refine H.lifF s0_421 s0_422 rfl ?_
      refine H.iconst s0_425 (v := (1 : Int32)) (by decide) ?_
      refine H.goto s0_426 ?_
      refine H.istore s0_430 (ls' := #[.val (.int p0), .val (.long p1), .second, .val (.long p2), .second, .val (.long p3), .second, .val (.long p4), .second, .val (.long (wa ν)), .second, .val (.long (wb ν)), .second, .val (.long (wc ν)), .second, .val (.long (wp ν)), .second, .val (.int (3 : Int32)), .val (.int (2 : Int32)), .val (.ref (n0 + 0)), .val (.ref (n0 + 18)), .val (.ref (n0 + 20)), .val (.long (own_minJ (wa ν) (wb ν))), .second, .val (.ref (n0 + 21)), .val (.int (1 : Int32)), .val (.int (1 : Int32)), .val (.long (own_minJ (wc ν) ((wp ν) - (own_minJ (own_minJ (wa ν) (wb ν)) (wp ν))))), .second]) rfl ?_
      refine H.iload s0_432 rfl ?_
      refine H.ifF s0_434 (show ¬ (1 : Int32) = (0 : Int32) by decide) ?_
      refine H.iload s0_437 rfl ?_
      refine H.ifF s0_439 (show ¬ (1 : Int32) = (0 : Int32) by decide) ?_
      refine H.iconst s0_442 (v := (1 : Int32)) (by decide) ?_
      refine H.goto s0_443 ?_
      exact H.ireturn s0_447 rfl (by simp) rfl rfl (by decide) (by decide)
    · refine H.iadd s0_57 (w := (3 : Int32)) hz57 ?_
      refine H.istore s0_58 (ls' := #[.val (.int p0), .val (.long p1), .second, .val (.long p2), .second, .val (.long p3), .second, .val (.long p4), .second, .val (.long (wa ν)), .second, .val (.long (wb ν)), .second, .val (.long (wc ν)), .second, .val (.long (wp ν)), .second, .val (.int (3 : Int32)), .val (.int (3 : Int32)), .unset, .unset, .unset, .unset, .unset, .unset, .unset, .unset, .unset, .unset]) rfl ?_
      refine H.new s0_60 (k_82 hw) rfl (by decide) (by decide) (i := 0) rfl (A' := [.inl (0, [.null, .null, .null, .null, .null, (.int (0 : Int32)), (.long (0 : Int64)), (.int (0 : Int32))])]) rfl (k' := 1) rfl (n' := 8) rfl ?_
      refine H.dup s0_63 rfl ?_
      refine H.iconst s0_64 (v := (3 : Int32)) (by decide) ?_
      refine H.callCD s0_65 (k_90 hw) (a_0 l hw n0) (argsL := [(.int (3 : Int32))]) (rest := [(.ref (n0 + 0))]) rfl rfl rfl rfl (leb rfl) (leb rfl) (leb rfl) (leb rfl) (st' := [(.ref (n0 + 0))]) rfl (k' := 6) rfl (n' := 88) rfl ?_
      refine H.astore s0_68 rfl (ls' := #[.val (.int p0), .val (.long p1), .second, .val (.long p2), .second, .val (.long p3), .second, .val (.long p4), .second, .val (.long (wa ν)), .second, .val (.long (wb ν)), .second, .val (.long (wc ν)), .second, .val (.long (wp ν)), .second, .val (.int (3 : Int32)), .val (.int (3 : Int32)), .val (.ref (n0 + 0)), .unset, .unset, .unset, .unset, .unset, .unset, .unset, .unset, .unset]) rfl ?_
      refine H.aload s0_70 rfl rfl ?_
      refine H.iconst s0_72 (v := (0 : Int32)) (by decide) ?_
      refine H.iconst s0_73 (v := (2 : Int32)) (by decide) ?_
      refine H.lload s0_74 rfl ?_
      refine H.lconst s0_76 (v := (0 : Int64)) (by decide) ?_
      refine H.callVD s0_77 (k_91 hw) (c_add0 l hw n0 hB) (i := 0) rfl (argsL := [(.int (0 : Int32)), (.int (2 : Int32)), (.long (wa ν)), (.long (0 : Int64))]) (rest := []) rfl rfl rfl rfl (leb rfl) (leb rfl) (leb rfl) (leb rfl) (st' := [(.int (0 : Int32))]) rfl (k' := 6) rfl (n' := 88) rfl ?_
      refine H.pop s0_80 rfl ?_
      refine H.aload s0_81 rfl rfl ?_
      refine H.iconst s0_83 (v := (2 : Int32)) (by decide) ?_
      refine H.iconst s0_84 (v := (1 : Int32)) (by decide) ?_
      refine H.lload s0_85 rfl ?_
      refine H.iload s0_87 rfl ?_
      refine H.ineg s0_89 (w := (-3 : Int32)) (by decide) ?_
      refine H.i2l s0_90 (w := (-3 : Int64)) (by decide) ?_
      refine H.callVD s0_91 (k_91 hw) (c_add15 l hw n0 hB) (i := 0) rfl (argsL := [(.int (2 : Int32)), (.int (1 : Int32)), (.long (wb ν)), (.long (-3 : Int64))]) (rest := []) rfl rfl rfl rfl (leb rfl) (leb rfl) (leb rfl) (leb rfl) (st' := [(.int (1 : Int32))]) rfl (k' := 6) rfl (n' := 88) rfl ?_
      refine H.pop s0_94 rfl ?_
      refine H.aload s0_95 rfl rfl ?_
      refine H.iconst s0_97 (v := (0 : Int32)) (by decide) ?_
      refine H.iconst s0_98 (v := (1 : Int32)) (by decide) ?_
      refine H.lload s0_99 rfl ?_
      refine H.iload s0_101 rfl ?_
      refine H.ineg s0_103 (w := (-3 : Int32)) (by decide) ?_
      refine H.i2l s0_104 (w := (-3 : Int64)) (by decide) ?_
      refine H.callVD s0_105 (k_91 hw) (c_add20 l hw n0 hB) (i := 0) rfl (argsL := [(.int (0 : Int32)), (.int (1 : Int32)), (.long (wc ν)), (.long (-3 : Int64))]) (rest := []) rfl rfl rfl rfl (leb rfl) (leb rfl) (leb rfl) (leb rfl) (st' := [(.int (2 : Int32))]) rfl (k' := 6) rfl (n' := 88) rfl ?_
      refine H.pop s0_108 rfl ?_
      refine H.aload s0_109 rfl rfl ?_
      refine H.iconst s0_111 (v := (1 : Int32)) (by decide) ?_
      refine H.iconst s0_112 (v := (0 : Int32)) (by decide) ?_
      refine H.lload s0_113 rfl ?_
      refine H.lconst s0_115 (v := (0 : Int64)) (by decide) ?_
      refine H.callVD s0_116 (k_91 hw) (c_add21 l hw n0 hB) (i := 0) rfl (argsL := [(.int (1 : Int32)), (.int (0 : Int32)), (.long (wp ν)), (.long (0 : Int64))]) (rest := []) rfl rfl rfl rfl (leb rfl) (leb rfl) (leb rfl) (leb rfl) (st' := [(.int (3 : Int32))]) rfl (k' := 6) rfl (n' := 88) rfl ?_
      refine H.pop s0_119 rfl ?_
      refine H.aload s0_120 rfl rfl ?_
      refine H.callVW s0_122 (k_92 hw) (c_solve33 l hw n0 hB) (i := 0) rfl (argsL := []) (rest := []) rfl rfl rfl rfl (leb rfl) (leb rfl) (leb rfl) (leb rfl) ?_
      rintro v A' ⟨rfl, f0, f1, f2, f3, TT, hTT, rfl, hs⟩
      obtain ⟨t, rfl⟩ := own_twelve hTT
      show G 125 #[.val (.int p0), .val (.long p1), .second, .val (.long p2), .second, .val (.long p3), .second, .val (.long p4), .second, .val (.long (wa ν)), .second, .val (.long (wb ν)), .second, .val (.long (wc ν)), .second, .val (.long (wp ν)), .second, .val (.int (3 : Int32)), .val (.int (3 : Int32)), .val (.ref (n0 + 0)), .unset, .unset, .unset, .unset, .unset, .unset, .unset, .unset, .unset] [] (own_bb n0 ν (-3 : Int64) (-3 : Int64) f0 f1 f2 f3 t []) 18 158
      obtain ⟨⟨ba1, ba2⟩, ⟨bb1, bb2⟩, ⟨bc1, bc2⟩, ⟨bp1, bp2⟩⟩ := id hB
      obtain ⟨va, vb, vc, vp⟩ := own_w hB
      obtain ⟨bf, bg, hs⟩ := hs
      have hf := fun s => own_eq va vb vc vp ⟨ba1, by omega⟩ ⟨bb1, by omega⟩ ⟨bc1, by omega⟩ ⟨bp1, by omega⟩ bf bg (by simpa using hs) s
      refine H.iconst s0_125 (v := (4 : Int32)) (by decide) ?_
      refine H.newarray s0_126 (ty := .long) rfl (k_26 hw) (N := 4) (cap := 4) (by decide) rfl (by decide) (by decide) rfl (by decide) (by decide) (i := 18) rfl (A' := (own_bb n0 ν (-3 : Int64) (-3 : Int64) f0 f1 f2 f3 t [.inr (.long, [(.long (0 : Int64)), (.long (0 : Int64)), (.long (0 : Int64)), (.long (0 : Int64))])])) rfl (k' := 19) rfl (n' := 162) rfl ?_
      refine H.dup s0_128 rfl ?_
      refine H.iconst s0_129 (v := (0 : Int32)) (by decide) ?_
      refine H.lloadN s0_130 rfl ?_
      refine H.lastore s0_131 (i := 18) (j := 0) rfl (by decide) (ltb rfl)  (A' := (own_bb n0 ν (-3 : Int64) (-3 : Int64) f0 f1 f2 f3 t [.inr (.long, [(.long p1), (.long (0 : Int64)), (.long (0 : Int64)), (.long (0 : Int64))])])) rfl ?_
      refine H.dup s0_132 rfl ?_
      refine H.iconst s0_133 (v := (1 : Int32)) (by decide) ?_
      refine H.lloadN s0_134 rfl ?_
      refine H.lastore s0_135 (i := 18) (j := 1) rfl (by decide) (ltb rfl)  (A' := (own_bb n0 ν (-3 : Int64) (-3 : Int64) f0 f1 f2 f3 t [.inr (.long, [(.long p1), (.long p2), (.long (0 : Int64)), (.long (0 : Int64))])])) rfl ?_
      refine H.dup s0_136 rfl ?_
      refine H.iconst s0_137 (v := (2 : Int32)) (by decide) ?_
      refine H.lload s0_138 rfl ?_
      refine H.lastore s0_140 (i := 18) (j := 2) rfl (by decide) (ltb rfl)  (A' := (own_bb n0 ν (-3 : Int64) (-3 : Int64) f0 f1 f2 f3 t [.inr (.long, [(.long p1), (.long p2), (.long p3), (.long (0 : Int64))])])) rfl ?_
      refine H.dup s0_141 rfl ?_
      refine H.iconst s0_142 (v := (3 : Int32)) (by decide) ?_
      refine H.lload s0_143 rfl ?_
      refine H.lastore s0_145 (i := 18) (j := 3) rfl (by decide) (ltb rfl)  (A' := (own_bb n0 ν (-3 : Int64) (-3 : Int64) f0 f1 f2 f3 t [.inr (.long, [(.long p1), (.long p2), (.long p3), (.long p4)])])) rfl ?_
      refine H.astore s0_146 rfl (ls' := #[.val (.int p0), .val (.long p1), .second, .val (.long p2), .second, .val (.long p3), .second, .val (.long p4), .second, .val (.long (wa ν)), .second, .val (.long (wb ν)), .second, .val (.long (wc ν)), .second, .val (.long (wp ν)), .second, .val (.int (3 : Int32)), .val (.int (3 : Int32)), .val (.ref (n0 + 0)), .val (.ref (n0 + 18)), .unset, .unset, .unset, .unset, .unset, .unset, .unset, .unset]) rfl ?_
      refine H.new s0_148 (k_93 hw) rfl (by decide) (by decide) (i := 19) rfl (A' := (own_bb n0 ν (-3 : Int64) (-3 : Int64) f0 f1 f2 f3 t [.inr (.long, [(.long p1), (.long p2), (.long p3), (.long p4)]), .inl (2, [.null, .null])])) rfl (k' := 20) rfl (n' := 164) rfl ?_
      refine H.dup s0_151 rfl ?_
      refine H.aload s0_152 rfl rfl ?_
      refine H.aload s0_154 rfl rfl ?_
      refine H.callCD s0_156 (k_100 hw) (d_1 l hw n0 ν (-3 : Int64) (-3 : Int64) f0 f1 f2 f3 t p1 p2 p3 p4) (argsL := [(.ref (n0 + 0)), (.ref (n0 + 18))]) (rest := [(.ref (n0 + 19))]) rfl rfl rfl rfl (leb rfl) (leb rfl) (leb rfl) (leb rfl) (st' := [(.ref (n0 + 19))]) rfl (k' := 20) rfl (n' := 164) rfl ?_
      refine H.callVD s0_159 (k_108 hw) (a_9 l hw n0 p1 p2 p3 p4 f0 f1 f2 f3 t ν) (i := 19) rfl (argsL := []) (rest := []) rfl rfl rfl rfl (leb rfl) (leb rfl) (leb rfl) (leb rfl) (st' := [(.ref (n0 + 20))]) rfl (k' := 21) rfl (n' := 168) rfl ?_
      refine H.astore s0_162 rfl (ls' := #[.val (.int p0), .val (.long p1), .second, .val (.long p2), .second, .val (.long p3), .second, .val (.long p4), .second, .val (.long (wa ν)), .second, .val (.long (wb ν)), .second, .val (.long (wc ν)), .second, .val (.long (wp ν)), .second, .val (.int (3 : Int32)), .val (.int (3 : Int32)), .val (.ref (n0 + 0)), .val (.ref (n0 + 18)), .val (.ref (n0 + 20)), .unset, .unset, .unset, .unset, .unset, .unset, .unset]) rfl ?_
      refine H.lload s0_164 rfl ?_
      refine H.lload s0_166 rfl ?_
      refine H.callSD s0_168 (k_109 hw) (m_minJ l hw n0 (own_bb n0 ν (-3 : Int64) (-3 : Int64) f0 f1 f2 f3 t [.inr (.long, [(.long p1), (.long p2), (.long p3), (.long p4)]), .inl (2, [(.ref (n0 + 0)), (.ref (n0 + 18))]), .inr (.long, [(.long p1), (.long p2), (.long p3), (.long ((p4 + f1) + f2))])]) (wa ν) (wb ν)) (argsL := [(.long (wa ν)), (.long (wb ν))]) (rest := []) rfl rfl rfl rfl (leb rfl) (leb rfl) (leb rfl) (leb rfl) (st' := [(.long (own_minJ (wa ν) (wb ν)))]) rfl (k' := 21) rfl (n' := 168) rfl ?_
      refine H.lstore s0_171 (ls' := #[.val (.int p0), .val (.long p1), .second, .val (.long p2), .second, .val (.long p3), .second, .val (.long p4), .second, .val (.long (wa ν)), .second, .val (.long (wb ν)), .second, .val (.long (wc ν)), .second, .val (.long (wp ν)), .second, .val (.int (3 : Int32)), .val (.int (3 : Int32)), .val (.ref (n0 + 0)), .val (.ref (n0 + 18)), .val (.ref (n0 + 20)), .val (.long (own_minJ (wa ν) (wb ν))), .second, .unset, .unset, .unset, .unset, .unset]) rfl ?_
      refine H.iconst s0_173 (v := (4 : Int32)) (by decide) ?_
      refine H.newarray s0_174 (ty := .long) rfl (k_26 hw) (N := 4) (cap := 4) (by decide) rfl (by decide) (by decide) rfl (by decide) (by decide) (i := 21) rfl (A' := (own_bb n0 ν (-3 : Int64) (-3 : Int64) f0 f1 f2 f3 t [.inr (.long, [(.long p1), (.long p2), (.long p3), (.long p4)]), .inl (2, [(.ref (n0 + 0)), (.ref (n0 + 18))]), .inr (.long, [(.long p1), (.long p2), (.long p3), (.long ((p4 + f1) + f2))]), .inr (.long, [(.long (0 : Int64)), (.long (0 : Int64)), (.long (0 : Int64)), (.long (0 : Int64))])])) rfl (k' := 22) rfl (n' := 172) rfl ?_
      refine H.dup s0_176 rfl ?_
      refine H.iconst s0_177 (v := (0 : Int32)) (by decide) ?_
      refine H.lloadN s0_178 rfl ?_
      refine H.lastore s0_179 (i := 21) (j := 0) rfl (by decide) (ltb rfl)  (A' := (own_bb n0 ν (-3 : Int64) (-3 : Int64) f0 f1 f2 f3 t [.inr (.long, [(.long p1), (.long p2), (.long p3), (.long p4)]), .inl (2, [(.ref (n0 + 0)), (.ref (n0 + 18))]), .inr (.long, [(.long p1), (.long p2), (.long p3), (.long ((p4 + f1) + f2))]), .inr (.long, [(.long p1), (.long (0 : Int64)), (.long (0 : Int64)), (.long (0 : Int64))])])) rfl ?_
      refine H.dup s0_180 rfl ?_
      refine H.iconst s0_181 (v := (1 : Int32)) (by decide) ?_
      refine H.lloadN s0_182 rfl ?_
      refine H.lastore s0_183 (i := 21) (j := 1) rfl (by decide) (ltb rfl)  (A' := (own_bb n0 ν (-3 : Int64) (-3 : Int64) f0 f1 f2 f3 t [.inr (.long, [(.long p1), (.long p2), (.long p3), (.long p4)]), .inl (2, [(.ref (n0 + 0)), (.ref (n0 + 18))]), .inr (.long, [(.long p1), (.long p2), (.long p3), (.long ((p4 + f1) + f2))]), .inr (.long, [(.long p1), (.long p2), (.long (0 : Int64)), (.long (0 : Int64))])])) rfl ?_
      refine H.dup s0_184 rfl ?_
      refine H.iconst s0_185 (v := (2 : Int32)) (by decide) ?_
      refine H.lload s0_186 rfl ?_
      refine H.lastore s0_188 (i := 21) (j := 2) rfl (by decide) (ltb rfl)  (A' := (own_bb n0 ν (-3 : Int64) (-3 : Int64) f0 f1 f2 f3 t [.inr (.long, [(.long p1), (.long p2), (.long p3), (.long p4)]), .inl (2, [(.ref (n0 + 0)), (.ref (n0 + 18))]), .inr (.long, [(.long p1), (.long p2), (.long p3), (.long ((p4 + f1) + f2))]), .inr (.long, [(.long p1), (.long p2), (.long p3), (.long (0 : Int64))])])) rfl ?_
      refine H.dup s0_189 rfl ?_
      refine H.iconst s0_190 (v := (3 : Int32)) (by decide) ?_
      refine H.lload s0_191 rfl ?_
      refine H.lastore s0_193 (i := 21) (j := 3) rfl (by decide) (ltb rfl)  (A' := (own_bb n0 ν (-3 : Int64) (-3 : Int64) f0 f1 f2 f3 t [.inr (.long, [(.long p1), (.long p2), (.long p3), (.long p4)]), .inl (2, [(.ref (n0 + 0)), (.ref (n0 + 18))]), .inr (.long, [(.long p1), (.long p2), (.long p3), (.long ((p4 + f1) + f2))]), .inr (.long, [(.long p1), (.long p2), (.long p3), (.long p4)])])) rfl ?_
      refine H.astore s0_194 rfl (ls' := #[.val (.int p0), .val (.long p1), .second, .val (.long p2), .second, .val (.long p3), .second, .val (.long p4), .second, .val (.long (wa ν)), .second, .val (.long (wb ν)), .second, .val (.long (wc ν)), .second, .val (.long (wp ν)), .second, .val (.int (3 : Int32)), .val (.int (3 : Int32)), .val (.ref (n0 + 0)), .val (.ref (n0 + 18)), .val (.ref (n0 + 20)), .val (.long (own_minJ (wa ν) (wb ν))), .second, .val (.ref (n0 + 21)), .unset, .unset, .unset, .unset]) rfl ?_
      refine H.iload s0_196 rfl ?_
      refine H.iload s0_198 rfl ?_
      refine H.icmpF s0_200 (show (3 : Int32) = (3 : Int32) by decide) ?_
      refine H.aload s0_203 rfl rfl ?_
      refine H.iload s0_205 rfl ?_
      refine H.dup2 s0_207 rfl rfl ?_
      refine H.laload s0_208 (i := 21) (j := 3) rfl (by decide) (v := (.long p4)) rfl ?_
      refine H.lload s0_209 rfl ?_
      refine H.lload s0_211 rfl ?_
      refine H.ladd s0_213 rfl ?_
      refine H.lload s0_214 rfl ?_
      refine H.callSD s0_216 (k_109 hw) (m_minJ l hw n0 (own_bb n0 ν (-3 : Int64) (-3 : Int64) f0 f1 f2 f3 t [.inr (.long, [(.long p1), (.long p2), (.long p3), (.long p4)]), .inl (2, [(.ref (n0 + 0)), (.ref (n0 + 18))]), .inr (.long, [(.long p1), (.long p2), (.long p3), (.long ((p4 + f1) + f2))]), .inr (.long, [(.long p1), (.long p2), (.long p3), (.long p4)])]) ((own_minJ (wa ν) (wb ν)) + (wc ν)) (wp ν)) (argsL := [(.long ((own_minJ (wa ν) (wb ν)) + (wc ν))), (.long (wp ν))]) (rest := [(.long p4), (.int (3 : Int32)), (.ref (n0 + 21))]) rfl rfl rfl rfl (leb rfl) (leb rfl) (leb rfl) (leb rfl) (st' := [(.long (own_minJ ((own_minJ (wa ν) (wb ν)) + (wc ν)) (wp ν))), (.long p4), (.int (3 : Int32)), (.ref (n0 + 21))]) rfl (k' := 22) rfl (n' := 172) rfl ?_
      refine H.ladd s0_219 rfl ?_
      refine H.lastore s0_220 (i := 21) (j := 3) rfl (by decide) (ltb rfl)  (A' := (own_bb n0 ν (-3 : Int64) (-3 : Int64) f0 f1 f2 f3 t [.inr (.long, [(.long p1), (.long p2), (.long p3), (.long p4)]), .inl (2, [(.ref (n0 + 0)), (.ref (n0 + 18))]), .inr (.long, [(.long p1), (.long p2), (.long p3), (.long ((p4 + f1) + f2))]), .inr (.long, [(.long p1), (.long p2), (.long p3), (.long (p4 + (own_minJ ((own_minJ (wa ν) (wb ν)) + (wc ν)) (wp ν))))])])) rfl ?_
      refine H.goto s0_221 ?_
      refine H.aload s0_316 rfl rfl ?_
      refine H.aload s0_318 rfl rfl ?_
      refine H.acmp s0_320 rfl rfl (same := false) (by simp) ?_
      show G 323 _ _ _ _ _
      refine H.aload s0_323 rfl rfl ?_
      refine H.arraylength s0_325 (i := 20) rfl (z := (4 : Int32)) rfl ?_
      refine H.iconst s0_326 (v := (4 : Int32)) (by decide) ?_
      refine H.icmpT s0_327 (show (4 : Int32) = (4 : Int32) by decide) ?_
      refine H.aload s0_332 rfl rfl ?_
      refine H.iconst s0_334 (v := (0 : Int32)) (by decide) ?_
      refine H.laload s0_335 (i := 20) (j := 0) rfl (by decide) (v := (.long p1)) rfl ?_
      refine H.aload s0_336 rfl rfl ?_
      refine H.iconst s0_338 (v := (0 : Int32)) (by decide) ?_
      refine H.laload s0_339 (i := 21) (j := 0) rfl (by decide) (v := (.long p1)) rfl ?_
      refine H.lifF s0_340 s0_341 rfl ?_
      refine H.aload s0_344 rfl rfl ?_
      refine H.iconst s0_346 (v := (1 : Int32)) (by decide) ?_
      refine H.laload s0_347 (i := 20) (j := 1) rfl (by decide) (v := (.long p2)) rfl ?_
      refine H.aload s0_348 rfl rfl ?_
      refine H.iconst s0_350 (v := (1 : Int32)) (by decide) ?_
      refine H.laload s0_351 (i := 21) (j := 1) rfl (by decide) (v := (.long p2)) rfl ?_
      refine H.lifF s0_352 s0_353 rfl ?_
      refine H.aload s0_356 rfl rfl ?_
      refine H.iconst s0_358 (v := (2 : Int32)) (by decide) ?_
      refine H.laload s0_359 (i := 20) (j := 2) rfl (by decide) (v := (.long p3)) rfl ?_
      refine H.aload s0_360 rfl rfl ?_
      refine H.iconst s0_362 (v := (2 : Int32)) (by decide) ?_
      refine H.laload s0_363 (i := 21) (j := 2) rfl (by decide) (v := (.long p3)) rfl ?_
      refine H.lifF s0_364 s0_365 rfl ?_
      refine H.aload s0_368 rfl rfl ?_
      refine H.iconst s0_370 (v := (3 : Int32)) (by decide) ?_
      refine H.laload s0_371 (i := 20) (j := 3) rfl (by decide) (v := (.long ((p4 + f1) + f2))) rfl ?_
      refine H.aload s0_372 rfl rfl ?_
      refine H.iconst s0_374 (v := (3 : Int32)) (by decide) ?_
      refine H.laload s0_375 (i := 21) (j := 3) rfl (by decide) (v := (.long (p4 + (own_minJ ((own_minJ (wa ν) (wb ν)) + (wc ν)) (wp ν))))) rfl ?_
      refine H.lifF s0_376 s0_377 (hf _) ?_
      refine H.iconst s0_380 (v := (1 : Int32)) (by decide) ?_
      refine H.goto s0_381 ?_
      refine H.istore s0_385 (ls' := #[.val (.int p0), .val (.long p1), .second, .val (.long p2), .second, .val (.long p3), .second, .val (.long p4), .second, .val (.long (wa ν)), .second, .val (.long (wb ν)), .second, .val (.long (wc ν)), .second, .val (.long (wp ν)), .second, .val (.int (3 : Int32)), .val (.int (3 : Int32)), .val (.ref (n0 + 0)), .val (.ref (n0 + 18)), .val (.ref (n0 + 20)), .val (.long (own_minJ (wa ν) (wb ν))), .second, .val (.ref (n0 + 21)), .val (.int (1 : Int32)), .unset, .unset, .unset]) rfl ?_
      refine H.aload s0_387 rfl rfl ?_
      refine H.iconst s0_389 (v := (0 : Int32)) (by decide) ?_
      refine H.laload s0_390 (i := 18) (j := 0) rfl (by decide) (v := (.long p1)) rfl ?_
      refine H.lloadN s0_391 rfl ?_
      refine H.lifF s0_392 s0_393 rfl ?_
      refine H.aload s0_396 rfl rfl ?_
      refine H.iconst s0_398 (v := (1 : Int32)) (by decide) ?_
      refine H.laload s0_399 (i := 18) (j := 1) rfl (by decide) (v := (.long p2)) rfl ?_
      refine H.lloadN s0_400 rfl ?_
      refine H.lifF s0_401 s0_402 rfl ?_
      refine H.aload s0_405 rfl rfl ?_
      refine H.iconst s0_407 (v := (2 : Int32)) (by decide) ?_
      refine H.laload s0_408 (i := 18) (j := 2) rfl (by decide) (v := (.long p3)) rfl ?_
      refine H.lload s0_409 rfl ?_
      refine H.lifF s0_411 s0_412 rfl ?_
      refine H.aload s0_415 rfl rfl ?_
      refine H.iconst s0_417 (v := (3 : Int32)) (by decide) ?_
      refine H.laload s0_418 (i := 18) (j := 3) rfl (by decide) (v := (.long p4)) rfl ?_
      refine H.lload s0_419 rfl ?_
      refine H.lifF s0_421 s0_422 rfl ?_
      refine H.iconst s0_425 (v := (1 : Int32)) (by decide) ?_
      refine H.goto s0_426 ?_
      refine H.istore s0_430 (ls' := #[.val (.int p0), .val (.long p1), .second, .val (.long p2), .second, .val (.long p3), .second, .val (.long p4), .second, .val (.long (wa ν)), .second, .val (.long (wb ν)), .second, .val (.long (wc ν)), .second, .val (.long (wp ν)), .second, .val (.int (3 : Int32)), .val (.int (3 : Int32)), .val (.ref (n0 + 0)), .val (.ref (n0 + 18)), .val (.ref (n0 + 20)), .val (.long (own_minJ (wa ν) (wb ν))), .second, .val (.ref (n0 + 21)), .val (.int (1 : Int32)), .val (.int (1 : Int32)), .unset, .unset]) rfl ?_
      refine H.iload s0_432 rfl ?_
      refine H.ifF s0_434 (show ¬ (1 : Int32) = (0 : Int32) by decide) ?_
      refine H.iload s0_437 rfl ?_
      refine H.ifF s0_439 (show ¬ (1 : Int32) = (0 : Int32) by decide) ?_
      refine H.iconst s0_442 (v := (1 : Int32)) (by decide) ?_
      refine H.goto s0_443 ?_
      exact H.ireturn s0_447 rfl (by simp) rfl rfl (by decide) (by decide)

theorem comes_1 {Post : Tables → Env → Array Value → State → Outcome → State → Prop} (hpost : ∀ tb e args s v u, (limb_1_1.after args s (.returned v) u = true ∧ limb_1_2.after args s (.returned v) u = true ∧ True) → FrameEnd s (.returned v) u (Jvm.fieldLocs frame_1_writes args s ++ Jvm.arrayLocs frame_1_arrays args s ++ Jvm.staticLocs frame_1_statics s) 56 448 → Post tb e args s (.returned v) u) :
    ArmFor flags0 classFile x code maxLocals ret World_1 tables_1 room_1 Calls_1 rest_1 Pre_1 Post := by
  intro l hfl _ _ p e ha hc hk s m args below hf hA hF happ hP
  obtain ⟨hcalls, hrest, hpre⟩ := hP
  obtain ⟨-, -, -, hnamed, -, -, -, hat⟩ := (Spec.applies_iff hf).mp happ
  obtain ⟨hg, hn⟩ := and_e (Cond.before_iff.mp (show (Jvm.Cond.and given_1 narrow_1).before args s = true from hpre))
  obtain ⟨hc0, hr0⟩ := and_e hg
  obtain ⟨w0, w1, w2, w3, w4, rfl⟩ : ∃ w0 w1 w2 w3 w4 : Value, args = #[w0, w1, w2, w3, w4] := by
    have hs : args.size = 5 := by simpa [Cond.value, given_1] using hc0
    obtain ⟨L⟩ := args
    match L, hs with
    | [w0, w1, w2, w3, w4], _ => exact ⟨w0, w1, w2, w3, w4, rfl⟩
  have hw : HW1 s _ := fun d (hd : d ∈ tables_1) => atoms_spec (ws := Jvm.Cond.code x code maxLocals ret :: tables_1) hat d (List.mem_cons_of_mem _ hd)
  obtain ⟨hx0, hr1⟩ := and_e hr0
  obtain ⟨i0, ee0⟩ := is_v hx0
  obtain rfl : w0 = (.int i0) := Option.some.inj ee0
  obtain ⟨hx1, hr2⟩ := and_e hr1
  obtain ⟨i1, ee1⟩ := isL_v hx1
  obtain rfl : w1 = (.long i1) := Option.some.inj ee1
  obtain ⟨hx2, hr3⟩ := and_e hr2
  obtain ⟨i2, ee2⟩ := isL_v hx2
  obtain rfl : w2 = (.long i2) := Option.some.inj ee2
  obtain ⟨hx3, hr4⟩ := and_e hr3
  obtain ⟨i3, ee3⟩ := isL_v hx3
  obtain rfl : w3 = (.long i3) := Option.some.inj ee3
  have hx4 := hr4
  obtain ⟨i4, ee4⟩ := isL_v hx4
  obtain rfl : w4 = (.long i4) := Option.some.inj ee4
  obtain ⟨n, o, h1, h2, h3, _, L, rfl, ⟨A', rfl, hRel, N⟩, hq⟩ := law_met l hw s.heap.size i0 i1 i2 i3 i4 tables_1 s.heap ⟨rfl, fun i o h => by simp at h⟩ p e ha hc hk s m _ below hf ((Spec.applies_iff_loose hf).mp happ).1 ⟨rfl, State.Warmed39.refl s, rfl⟩ trivial
  refine ⟨n, _, h1, h2, h3, hpost _ _ _ _ _ _ ⟨Cond.after_iff.mpr rfl, Cond.after_iff.mpr (eq_i res_at (Term.int_eval (1)) rfl), trivial⟩ ⟨hq.1, hq.2.1, (hq.2.2.sift fun y hy => Or.inr (N y hy)).mono (by decide) (by decide)⟩⟩
theorem main_1_1 : Claimed_1_1 := comes_1 fun _ _ _ _ _ _ h hF => ⟨h.1, hF⟩
theorem main_1_2 : Claimed_1_2 := comes_1 fun _ _ _ _ _ _ h hF => ⟨h.2.1, hF⟩
end Jvm.Pilot.@@N@@
namespace Jvm.Pilot.@@N@@
open Jvm Jvm.ClassFile Sem Op Lib Jvm.Free Jvm.Stand Jvm.Pilot.@@N@@.Jvm.D
/-! MADE BY PROGRAM (witnessworld.py) out of the Statement's table words and the real class files: 17 classes; the members and pool entries that the words name. The judged class is class 1, her method 1. -/
namespace start1
open Jvm.ClassFile
def u (s : String) : CpInfo := .utf8 (stringToUtf16 s)
/-- a pool by its gaps: so many unusable entries, then the entry; so many at the end -/
def gap : Nat → List CpInfo → List CpInfo
  | 0, r => r
  | n + 1, r => .unusable :: gap n r
def poolList (es : List (Nat × CpInfo)) (last : Nat) : List CpInfo := es.foldr (fun e r => gap e.1 (e.2 :: r)) (gap last [])
def pool (es : List (Nat × CpInfo)) (last : Nat) : Array CpInfo := ⟨poolList es last⟩
def fileOf (pool : Array CpInfo) (this : Nat) (attrs : Array Attribute := #[]) (ms : Array MethodInfo := #[]) (fl : Nat := 33) (sup : Nat := 0) (ifs : Array Nat := #[]) (fds : Array FieldInfo := #[]) : ClassFile where
  minorVersion := 0
  majorVersion := 65
  constantPool := pool
  accessFlags := fl
  thisClass := this
  superClass := sup
  interfaces := ifs
  fields := fds
  methods := ms
  attributes := attrs
def plain (name : String) (sup : Option ClassId) : Class where
  name := name
  kind := .ordinary
  loader := none
  accessFlags := 33
  super := sup
  interfaces := #[]
  cf := none
  fields := #[]
  methods := #[]
  instanceTypes := #[]
  staticTypes := #[]
  resolved := #[]
  callSites := []
  init := .initialized
  statics := none
  mirror := none

def pool0 : Array CpInfo := pool [(5, u "<init>"), (0, u "()V"), (1, .class_ 10), (1, u "java/lang/Object"), (85, u "clone"), (0, u "()Ljava/lang/Object;")] 26

def k0c0 : Code := { maxStack := 0, maxLocals := 1, code := object_method_1_code, exceptionTable := #[], attributes := #[] }
def k0m0 : Method := { name := "<init>", desc := "()V", sig := { parameters := [], returnType := none }, accessFlags := 1, code := some k0c0 }
def k0m1 : Method := { name := "clone", desc := "()Ljava/lang/Object;", sig := { parameters := [], returnType := some (.object "java/lang/Object") }, accessFlags := 260, code := none }
/-- java/lang/Object -/
def k0 : Class := { plain "java/lang/Object" none with
  accessFlags := 33
  interfaces := #[]
  cf := some (fileOf pool0 8 #[] #[{ accessFlags := 1, nameIndex := 5, descriptorIndex := 6, attributes := #[] }, { accessFlags := 260, nameIndex := 96, descriptorIndex := 97, attributes := #[] }] 33 0 #[] #[])
  fields := #[]
  methods := #[k0m0, k0m1]
  instanceTypes := #[]
  staticTypes := #[]
  resolved := Array.replicate 124 none
  statics := none }

def pool1 : Array CpInfo := pool [(2, .class_ 4), (1, u "java/lang/Object"), (0, u "<init>"), (0, u "()V"), (0, .class_ 8), (0, u "com/example/primalcap/primalcap/MinCostFlow"), (0, .methodref 7 10), (0, .nameAndType 5 11), (0, u "(I)V"), (0, .methodref 7 13), (0, .nameAndType 14 15), (0, u "addEdge"), (0, u "(IIJJ)I"), (0, .methodref 7 17), (0, .nameAndType 18 6), (0, u "solve"), (0, .class_ 20), (0, u "com/example/primalcap/primalcap/Optimum$Network"), (0, .methodref 19 22), (0, .nameAndType 5 23), (0, u "(Lcom/example/primalcap/primalcap/MinCostFlow;[J)V"), (0, .methodref 19 25), (0, .nameAndType 26 27), (0, u "boughtAt"), (0, u "()[J"), (0, .methodref 29 30), (0, .class_ 31), (0, .nameAndType 32 33), (0, u "java/lang/Math"), (0, u "min"), (0, u "(JJ)J"), (0, .class_ 35), (0, u "com/example/primalcap/primalcap/NetworkBoughtAtPinLaw"), (2, u "law"), (0, u "(IJJJJ)Z")] 9

def k1m0 : Method := { name := "<init>", desc := "()V", sig := { parameters := [], returnType := none }, accessFlags := 1, code := none }
def k1c1 : Code := { maxStack := 8, maxLocals := 29, code := code, exceptionTable := #[], attributes := #[] }
def k1m1 : Method := { name := "law", desc := "(IJJJJ)Z", sig := { parameters := [.int, .long, .long, .long, .long], returnType := some .boolean }, accessFlags := 9, code := some k1c1 }
/-- com/example/primalcap/primalcap/NetworkBoughtAtPinLaw -/
def k1 : Class := { plain "com/example/primalcap/primalcap/NetworkBoughtAtPinLaw" (some 0) with
  accessFlags := 49
  interfaces := #[]
  cf := some (fileOf pool1 34 #[] #[{ accessFlags := 1, nameIndex := 5, descriptorIndex := 6, attributes := #[] }, { accessFlags := 9, nameIndex := 38, descriptorIndex := 39, attributes := #[] }] 49 2 #[] #[])
  fields := #[]
  methods := #[k1m0, k1m1]
  instanceTypes := #[]
  staticTypes := #[]
  resolved := Array.replicate 49 none
  statics := none }

def pool2 : Array CpInfo := pool [(1, .methodref 2 3), (0, .class_ 4), (0, .nameAndType 5 6), (0, u "java/lang/Object"), (0, u "<init>"), (0, u "()V"), (0, .fieldref 8 9), (0, .class_ 10), (0, .nameAndType 11 12), (0, u "com/example/primalcap/primalcap/MinCostFlow"), (0, u "tail"), (0, u "[I"), (0, .fieldref 8 14), (0, .nameAndType 15 12), (0, u "head"), (0, .fieldref 8 17), (0, .nameAndType 18 19), (0, u "capacity"), (0, u "[J"), (0, .fieldref 8 21), (0, .nameAndType 22 19), (0, u "cost"), (0, .fieldref 8 24), (0, .nameAndType 25 19), (0, u "flow"), (0, .fieldref 8 27), (0, .nameAndType 28 29), (0, u "nodes"), (0, u "I"), (11, .long 9223372036854775807), (1, .fieldref 8 44), (0, .nameAndType 45 46), (0, u "totalCapacity"), (0, u "J"), (2, .fieldref 8 50), (0, .nameAndType 51 29), (0, u "edges"), (0, .methodref 53 54), (0, .class_ 55), (0, .nameAndType 56 57), (0, u "java/util/Arrays"), (0, u "copyOf"), (0, u "([II)[I"), (3, .class_ 62), (0, u "com/example/primalcap/primalcap/MinCostFlow$Refinements"), (0, .methodref 61 64), (0, .nameAndType 5 65), (0, u "(Lcom/example/primalcap/primalcap/MinCostFlow;)V"), (16, .methodref 61 83), (0, .nameAndType 84 6), (0, u "run"), (0, u "ALPHA"), (3, u "(I)V"), (3, u "()I"), (0, u "addEdge"), (0, u "(IIJJ)I"), (1, u "(I)I"), (0, u "(I)J"), (0, u "solve")] 21

def k2c0 : Code := { maxStack := 2, maxLocals := 2, code := prog_20_method_1_code, exceptionTable := #[], attributes := #[] }
def k2m0 : Method := { name := "<init>", desc := "(I)V", sig := { parameters := [.int], returnType := none }, accessFlags := 0, code := some k2c0 }
def k2c1 : Code := { maxStack := 6, maxLocals := 8, code := prog_20_method_3_code, exceptionTable := #[], attributes := #[] }
def k2m1 : Method := { name := "addEdge", desc := "(IIJJ)I", sig := { parameters := [.int, .int, .long, .long], returnType := some .int }, accessFlags := 0, code := some k2c1 }
def k2c2 : Code := { maxStack := 1, maxLocals := 1, code := prog_20_method_5_code, exceptionTable := #[], attributes := #[] }
def k2m2 : Method := { name := "edges", desc := "()I", sig := { parameters := [], returnType := some .int }, accessFlags := 0, code := some k2c2 }
def k2c3 : Code := { maxStack := 2, maxLocals := 2, code := prog_20_method_7_code, exceptionTable := #[], attributes := #[] }
def k2m3 : Method := { name := "head", desc := "(I)I", sig := { parameters := [.int], returnType := some .int }, accessFlags := 0, code := some k2c3 }
def k2c4 : Code := { maxStack := 2, maxLocals := 2, code := prog_20_method_9_code, exceptionTable := #[], attributes := #[] }
def k2m4 : Method := { name := "cost", desc := "(I)J", sig := { parameters := [.int], returnType := some .long }, accessFlags := 0, code := some k2c4 }
def k2c5 : Code := { maxStack := 2, maxLocals := 2, code := prog_20_method_10_code, exceptionTable := #[], attributes := #[] }
def k2m5 : Method := { name := "flow", desc := "(I)J", sig := { parameters := [.int], returnType := some .long }, accessFlags := 0, code := some k2c5 }
def k2c6 : Code := { maxStack := 5, maxLocals := 6, code := prog_20_method_11_code, exceptionTable := #[{ startPc := 0, endPc := 9, handlerPc := 12, catchType := 66 }], attributes := #[] }
def k2m6 : Method := { name := "solve", desc := "()V", sig := { parameters := [], returnType := none }, accessFlags := 0, code := some k2c6 }
/-- com/example/primalcap/primalcap/MinCostFlow -/
def k2 : Class := { plain "com/example/primalcap/primalcap/MinCostFlow" (some 0) with
  accessFlags := 48
  interfaces := #[]
  cf := some (fileOf pool2 8 #[.nestMembers #[61]] #[{ accessFlags := 0, nameIndex := 5, descriptorIndex := 89, attributes := #[] }, { accessFlags := 0, nameIndex := 94, descriptorIndex := 95, attributes := #[] }, { accessFlags := 0, nameIndex := 51, descriptorIndex := 93, attributes := #[] }, { accessFlags := 0, nameIndex := 15, descriptorIndex := 97, attributes := #[] }, { accessFlags := 0, nameIndex := 22, descriptorIndex := 98, attributes := #[] }, { accessFlags := 0, nameIndex := 25, descriptorIndex := 98, attributes := #[] }, { accessFlags := 0, nameIndex := 99, descriptorIndex := 6, attributes := #[] }] 48 2 #[] #[{ accessFlags := 26, nameIndex := 85, descriptorIndex := 46, attributes := #[] }, { accessFlags := 2, nameIndex := 28, descriptorIndex := 29, attributes := #[] }, { accessFlags := 2, nameIndex := 51, descriptorIndex := 29, attributes := #[] }, { accessFlags := 2, nameIndex := 11, descriptorIndex := 12, attributes := #[] }, { accessFlags := 2, nameIndex := 15, descriptorIndex := 12, attributes := #[] }, { accessFlags := 2, nameIndex := 18, descriptorIndex := 19, attributes := #[] }, { accessFlags := 2, nameIndex := 22, descriptorIndex := 19, attributes := #[] }, { accessFlags := 2, nameIndex := 25, descriptorIndex := 19, attributes := #[] }, { accessFlags := 2, nameIndex := 45, descriptorIndex := 46, attributes := #[] }])
  fields := #[{ name := "ALPHA", type := .long, accessFlags := 26, slot := 0, constantValue := 0 }, { name := "nodes", type := .int, accessFlags := 2, slot := 0, constantValue := 0 }, { name := "edges", type := .int, accessFlags := 2, slot := 1, constantValue := 0 }, { name := "tail", type := (.array .int), accessFlags := 2, slot := 2, constantValue := 0 }, { name := "head", type := (.array .int), accessFlags := 2, slot := 3, constantValue := 0 }, { name := "capacity", type := (.array .long), accessFlags := 2, slot := 4, constantValue := 0 }, { name := "cost", type := (.array .long), accessFlags := 2, slot := 5, constantValue := 0 }, { name := "flow", type := (.array .long), accessFlags := 2, slot := 6, constantValue := 0 }, { name := "totalCapacity", type := .long, accessFlags := 2, slot := 7, constantValue := 0 }]
  methods := #[k2m0, k2m1, k2m2, k2m3, k2m4, k2m5, k2m6]
  instanceTypes := #[.int, .int, (.array .int), (.array .int), (.array .long), (.array .long), (.array .long), .long]
  staticTypes := #[.long]
  resolved := Array.replicate 121 none
  statics := none }

def pool3 : Array CpInfo := pool [(1, .class_ 2), (0, u "com/example/primalcap/primalcap/MinCostFlow"), (0, .fieldref 4 5), (0, .class_ 6), (0, .nameAndType 7 8), (0, u "com/example/primalcap/primalcap/MinCostFlow$Refinements"), (0, u "this$0"), (0, u "Lcom/example/primalcap/primalcap/MinCostFlow;"), (0, .methodref 10 11), (0, .class_ 12), (0, .nameAndType 13 14), (0, u "java/lang/Object"), (0, u "<init>"), (0, u "()V"), (0, .fieldref 1 16), (0, .nameAndType 17 18), (0, u "nodes"), (0, u "I"), (0, .fieldref 4 20), (0, .nameAndType 21 22), (0, u "first"), (0, u "[I"), (0, .fieldref 1 24), (0, .nameAndType 25 18), (0, u "edges"), (0, .fieldref 4 27), (0, .nameAndType 28 22), (0, u "arcOf"), (0, .fieldref 4 30), (0, .nameAndType 31 32), (0, u "multiplier"), (0, u "J"), (0, .fieldref 4 34), (0, .nameAndType 35 36), (0, u "price"), (0, u "[J"), (0, .fieldref 4 38), (0, .nameAndType 39 36), (0, u "excess"), (0, .fieldref 4 41), (0, .nameAndType 42 22), (0, u "current"), (0, .fieldref 4 44), (0, .nameAndType 45 22), (0, u "queue"), (0, .fieldref 4 47), (0, .nameAndType 48 22), (0, u "to"), (0, .fieldref 4 50), (0, .nameAndType 51 22), (0, u "reverse"), (0, .fieldref 4 53), (0, .nameAndType 54 36), (0, u "residual"), (0, .fieldref 4 56), (0, .nameAndType 57 36), (0, u "arcCost"), (0, .fieldref 1 59), (0, .nameAndType 60 22), (0, u "tail"), (0, .fieldref 1 62), (0, .nameAndType 63 22), (0, u "head"), (0, .methodref 65 66), (0, .class_ 67), (0, .nameAndType 68 69), (0, u "java/util/Arrays"), (0, u "copyOf"), (0, u "([II)[I"), (0, .fieldref 1 71), (0, .nameAndType 72 36), (0, u "cost"), (0, .methodref 74 75), (0, .class_ 76), (0, .nameAndType 77 78), (0, u "java/lang/Math"), (0, u "multiplyExact"), (0, u "(JJ)J"), (0, .fieldref 4 80), (0, .nameAndType 81 32), (0, u "largest"), (0, .methodref 74 83), (0, .nameAndType 84 85), (0, u "abs"), (0, u "(J)J"), (0, .methodref 74 87), (0, .nameAndType 88 78), (0, u "max"), (0, .fieldref 1 90), (0, .nameAndType 91 36), (0, u "capacity"), (0, .fieldref 1 93), (0, .nameAndType 94 36), (0, u "flow"), (0, .long 3), (1, .long 2), (1, .methodref 74 100), (0, .nameAndType 101 78), (0, u "addExact"), (0, .long 16), (1, .methodref 4 105), (0, .nameAndType 106 107), (0, u "refine"), (0, u "(J)V"), (4, .methodref 4 113), (0, .nameAndType 114 115), (0, u "reducedCost"), (0, u "(II)J"), (0, .methodref 4 117), (0, .nameAndType 118 119), (0, u "push"), (0, u "(IIJ)V"), (0, .fieldref 4 121), (0, .nameAndType 122 18), (0, u "queueStart"), (0, .fieldref 4 124), (0, .nameAndType 125 18), (0, u "queued"), (0, .methodref 4 127), (0, .nameAndType 128 129), (0, u "enqueue"), (0, u "(I)V"), (0, .methodref 4 131), (0, .nameAndType 132 133), (0, u "discharge"), (0, u "(IJ)V"), (0, .methodref 4 135), (0, .nameAndType 136 133), (0, u "relabel"), (0, .methodref 74 138), (0, .nameAndType 139 78), (0, u "min"), (2, .long 9223372036854775808), (4, u "(Lcom/example/primalcap/primalcap/MinCostFlow;)V"), (5, u "run")] 8

def k3c0 : Code := { maxStack := 8, maxLocals := 9, code := prog_21_method_1_code, exceptionTable := #[], attributes := #[] }
def k3m0 : Method := { name := "<init>", desc := "(Lcom/example/primalcap/primalcap/MinCostFlow;)V", sig := { parameters := [(.object "com/example/primalcap/primalcap/MinCostFlow")], returnType := none }, accessFlags := 0, code := some k3c0 }
def k3c1 : Code := { maxStack := 6, maxLocals := 4, code := prog_21_method_2_code, exceptionTable := #[], attributes := #[] }
def k3m1 : Method := { name := "run", desc := "()V", sig := { parameters := [], returnType := none }, accessFlags := 0, code := some k3c1 }
def k3c2 : Code := { maxStack := 5, maxLocals := 3, code := prog_21_method_3_code, exceptionTable := #[], attributes := #[] }
def k3m2 : Method := { name := "reducedCost", desc := "(II)J", sig := { parameters := [.int, .int], returnType := some .long }, accessFlags := 2, code := some k3c2 }
def k3c3 : Code := { maxStack := 5, maxLocals := 5, code := prog_21_method_4_code, exceptionTable := #[], attributes := #[] }
def k3m3 : Method := { name := "refine", desc := "(J)V", sig := { parameters := [.long], returnType := none }, accessFlags := 2, code := some k3c3 }
def k3c4 : Code := { maxStack := 7, maxLocals := 8, code := prog_21_method_5_code, exceptionTable := #[], attributes := #[] }
def k3m4 : Method := { name := "discharge", desc := "(IJ)V", sig := { parameters := [.int, .long], returnType := none }, accessFlags := 2, code := some k3c4 }
def k3c5 : Code := { maxStack := 6, maxLocals := 7, code := prog_21_method_6_code, exceptionTable := #[], attributes := #[] }
def k3m5 : Method := { name := "relabel", desc := "(IJ)V", sig := { parameters := [.int, .long], returnType := none }, accessFlags := 2, code := some k3c5 }
def k3c6 : Code := { maxStack := 6, maxLocals := 5, code := prog_21_method_7_code, exceptionTable := #[], attributes := #[] }
def k3m6 : Method := { name := "push", desc := "(IIJ)V", sig := { parameters := [.int, .int, .long], returnType := none }, accessFlags := 2, code := some k3c6 }
def k3c7 : Code := { maxStack := 3, maxLocals := 2, code := prog_21_method_8_code, exceptionTable := #[], attributes := #[] }
def k3m7 : Method := { name := "enqueue", desc := "(I)V", sig := { parameters := [.int], returnType := none }, accessFlags := 2, code := some k3c7 }
/-- com/example/primalcap/primalcap/MinCostFlow$Refinements -/
def k3 : Class := { plain "com/example/primalcap/primalcap/MinCostFlow$Refinements" (some 0) with
  accessFlags := 48
  interfaces := #[]
  cf := some (fileOf pool3 4 #[.nestHost 1] #[{ accessFlags := 0, nameIndex := 13, descriptorIndex := 147, attributes := #[] }, { accessFlags := 0, nameIndex := 153, descriptorIndex := 14, attributes := #[] }, { accessFlags := 2, nameIndex := 114, descriptorIndex := 115, attributes := #[] }, { accessFlags := 2, nameIndex := 106, descriptorIndex := 107, attributes := #[] }, { accessFlags := 2, nameIndex := 132, descriptorIndex := 133, attributes := #[] }, { accessFlags := 2, nameIndex := 136, descriptorIndex := 133, attributes := #[] }, { accessFlags := 2, nameIndex := 118, descriptorIndex := 119, attributes := #[] }, { accessFlags := 2, nameIndex := 128, descriptorIndex := 129, attributes := #[] }] 48 10 #[] #[{ accessFlags := 18, nameIndex := 21, descriptorIndex := 22, attributes := #[] }, { accessFlags := 18, nameIndex := 48, descriptorIndex := 22, attributes := #[] }, { accessFlags := 18, nameIndex := 51, descriptorIndex := 22, attributes := #[] }, { accessFlags := 18, nameIndex := 54, descriptorIndex := 36, attributes := #[] }, { accessFlags := 18, nameIndex := 57, descriptorIndex := 36, attributes := #[] }, { accessFlags := 18, nameIndex := 28, descriptorIndex := 22, attributes := #[] }, { accessFlags := 18, nameIndex := 31, descriptorIndex := 32, attributes := #[] }, { accessFlags := 2, nameIndex := 81, descriptorIndex := 32, attributes := #[] }, { accessFlags := 18, nameIndex := 35, descriptorIndex := 36, attributes := #[] }, { accessFlags := 18, nameIndex := 39, descriptorIndex := 36, attributes := #[] }, { accessFlags := 18, nameIndex := 42, descriptorIndex := 22, attributes := #[] }, { accessFlags := 18, nameIndex := 45, descriptorIndex := 22, attributes := #[] }, { accessFlags := 2, nameIndex := 122, descriptorIndex := 18, attributes := #[] }, { accessFlags := 2, nameIndex := 125, descriptorIndex := 18, attributes := #[] }, { accessFlags := 4112, nameIndex := 7, descriptorIndex := 8, attributes := #[] }])
  fields := #[{ name := "first", type := (.array .int), accessFlags := 18, slot := 0, constantValue := 0 }, { name := "to", type := (.array .int), accessFlags := 18, slot := 1, constantValue := 0 }, { name := "reverse", type := (.array .int), accessFlags := 18, slot := 2, constantValue := 0 }, { name := "residual", type := (.array .long), accessFlags := 18, slot := 3, constantValue := 0 }, { name := "arcCost", type := (.array .long), accessFlags := 18, slot := 4, constantValue := 0 }, { name := "arcOf", type := (.array .int), accessFlags := 18, slot := 5, constantValue := 0 }, { name := "multiplier", type := .long, accessFlags := 18, slot := 6, constantValue := 0 }, { name := "largest", type := .long, accessFlags := 2, slot := 7, constantValue := 0 }, { name := "price", type := (.array .long), accessFlags := 18, slot := 8, constantValue := 0 }, { name := "excess", type := (.array .long), accessFlags := 18, slot := 9, constantValue := 0 }, { name := "current", type := (.array .int), accessFlags := 18, slot := 10, constantValue := 0 }, { name := "queue", type := (.array .int), accessFlags := 18, slot := 11, constantValue := 0 }, { name := "queueStart", type := .int, accessFlags := 2, slot := 12, constantValue := 0 }, { name := "queued", type := .int, accessFlags := 2, slot := 13, constantValue := 0 }, { name := "this$0", type := (.object "com/example/primalcap/primalcap/MinCostFlow"), accessFlags := 4112, slot := 14, constantValue := 0 }]
  methods := #[k3m0, k3m1, k3m2, k3m3, k3m4, k3m5, k3m6, k3m7]
  instanceTypes := #[(.array .int), (.array .int), (.array .int), (.array .long), (.array .long), (.array .int), .long, .long, (.array .long), (.array .long), (.array .int), (.array .int), .int, .int, (.object "com/example/primalcap/primalcap/MinCostFlow")]
  staticTypes := #[]
  resolved := Array.replicate 162 none
  statics := none }

def pool4 : Array CpInfo := pool [(2, .class_ 4), (1, u "java/lang/Object"), (0, u "<init>"), (0, u "()V"), (7, .class_ 16), (1, u "java/util/Arrays"), (57, .class_ 76), (1, u "java/util/Arrays$NaturalOrder"), (36, .class_ 115), (1, u "java/util/Arrays$LegacyMergeSort"), (1, u "Z"), (32, .methodref 151 152), (0, .class_ 153), (0, .nameAndType 154 155), (0, u "java/lang/System"), (0, u "arraycopy"), (0, u "(Ljava/lang/Object;ILjava/lang/Object;II)V"), (146, u "copyOf"), (1, .methodref 305 306), (0, .class_ 307), (0, .nameAndType 308 309), (0, u "java/lang/Math"), (0, u "min"), (0, u "(II)I"), (65, .class_ 376), (0, u "java/util/Arrays$ArrayList"), (68, u "$assertionsDisabled"), (269, u "MIN_ARRAY_SORT_GRAN"), (0, u "I"), (2, u "INSERTIONSORT_THRESHOLD"), (151, u "([II)[I"), (103, .class_ 976), (0, u "java/util/Arrays$ArrayItr")] 52

def k4m0 : Method := { name := "<init>", desc := "()V", sig := { parameters := [], returnType := none }, accessFlags := 2, code := none }
def k4c1 : Code := { maxStack := 6, maxLocals := 3, code := jdk_65_method_123_code, exceptionTable := #[], attributes := #[] }
def k4m1 : Method := { name := "copyOf", desc := "([II)[I", sig := { parameters := [(.array .int), .int], returnType := some (.array .int) }, accessFlags := 9, code := some k4c1 }
/-- java/util/Arrays -/
def k4 : Class := { plain "java/util/Arrays" (some 0) with
  accessFlags := 49
  interfaces := #[]
  cf := some (fileOf pool4 14 #[.nestMembers #[975, 375, 113, 74]] #[{ accessFlags := 2, nameIndex := 5, descriptorIndex := 6, attributes := #[] }, { accessFlags := 9, nameIndex := 302, descriptorIndex := 871, attributes := #[] }] 49 2 #[] #[{ accessFlags := 26, nameIndex := 715, descriptorIndex := 716, attributes := #[] }, { accessFlags := 26, nameIndex := 719, descriptorIndex := 716, attributes := #[] }, { accessFlags := 4120, nameIndex := 445, descriptorIndex := 117, attributes := #[] }])
  fields := #[{ name := "MIN_ARRAY_SORT_GRAN", type := .int, accessFlags := 26, slot := 0, constantValue := 0 }, { name := "INSERTIONSORT_THRESHOLD", type := .int, accessFlags := 26, slot := 1, constantValue := 0 }, { name := "$assertionsDisabled", type := .boolean, accessFlags := 4120, slot := 2, constantValue := 0 }]
  methods := #[k4m0, k4m1]
  instanceTypes := #[]
  staticTypes := #[.int, .int, .boolean]
  resolved := Array.replicate 1029 none
  statics := none }

def pool5 : Array CpInfo := pool [(1, .class_ 2), (0, u "java/lang/Math"), (1, .class_ 6), (1, u "java/lang/Object"), (0, u "<init>"), (0, u "()V"), (89, .class_ 100), (1, u "java/lang/Math$RandomNumberGeneratorHolder"), (19, u "multiplyExact"), (0, u "(JJ)J"), (0, .methodref 1 123), (0, .nameAndType 124 125), (0, u "abs"), (0, u "(J)J"), (46, u "negativeZeroFloatBits"), (0, u "J"), (2, u "negativeZeroDoubleBits"), (21, u "max"), (2, u "min"), (43, u "$assertionsDisabled"), (0, u "Z"), (88, u "(II)I"), (2, u "twoToTheDoubleScaleDown"), (0, u "D"), (4, u "twoToTheDoubleScaleUp"), (9, u "E"), (3, u "PI"), (2, u "TAU"), (2, u "DEGREES_TO_RADIANS"), (0, u "RADIANS_TO_DEGREES"), (27, u "addExact")] 66

def k5m0 : Method := { name := "<init>", desc := "()V", sig := { parameters := [], returnType := none }, accessFlags := 2, code := none }
def k5c1 : Code := { maxStack := 6, maxLocals := 6, code := jdk_29_method_25_code, exceptionTable := #[], attributes := #[] }
def k5m1 : Method := { name := "addExact", desc := "(JJ)J", sig := { parameters := [.long, .long], returnType := some .long }, accessFlags := 9, code := some k5c1 }
def k5c2 : Code := { maxStack := 4, maxLocals := 10, code := jdk_29_method_30_code, exceptionTable := #[], attributes := #[] }
def k5m2 : Method := { name := "multiplyExact", desc := "(JJ)J", sig := { parameters := [.long, .long], returnType := some .long }, accessFlags := 9, code := some k5c2 }
def k5c3 : Code := { maxStack := 4, maxLocals := 2, code := jdk_29_method_61_code, exceptionTable := #[], attributes := #[] }
def k5m3 : Method := { name := "abs", desc := "(J)J", sig := { parameters := [.long], returnType := some .long }, accessFlags := 9, code := some k5c3 }
def k5c4 : Code := { maxStack := 4, maxLocals := 4, code := jdk_29_method_66_code, exceptionTable := #[], attributes := #[] }
def k5m4 : Method := { name := "max", desc := "(JJ)J", sig := { parameters := [.long, .long], returnType := some .long }, accessFlags := 9, code := some k5c4 }
def k5c5 : Code := { maxStack := 2, maxLocals := 2, code := jdk_29_method_69_code, exceptionTable := #[], attributes := #[] }
def k5m5 : Method := { name := "min", desc := "(II)I", sig := { parameters := [.int, .int], returnType := some .int }, accessFlags := 9, code := some k5c5 }
def k5c6 : Code := { maxStack := 4, maxLocals := 4, code := jdk_29_method_70_code, exceptionTable := #[], attributes := #[] }
def k5m6 : Method := { name := "min", desc := "(JJ)J", sig := { parameters := [.long, .long], returnType := some .long }, accessFlags := 9, code := some k5c6 }
/-- java/lang/Math -/
def k5 : Class := { plain "java/lang/Math" (some 0) with
  accessFlags := 49
  interfaces := #[]
  cf := some (fileOf pool5 1 #[.nestMembers #[98]] #[{ accessFlags := 2, nameIndex := 7, descriptorIndex := 8, attributes := #[] }, { accessFlags := 9, nameIndex := 393, descriptorIndex := 121, attributes := #[] }, { accessFlags := 9, nameIndex := 120, descriptorIndex := 121, attributes := #[] }, { accessFlags := 9, nameIndex := 124, descriptorIndex := 125, attributes := #[] }, { accessFlags := 9, nameIndex := 198, descriptorIndex := 121, attributes := #[] }, { accessFlags := 9, nameIndex := 201, descriptorIndex := 335, attributes := #[] }, { accessFlags := 9, nameIndex := 201, descriptorIndex := 121, attributes := #[] }] 49 4 #[] #[{ accessFlags := 25, nameIndex := 354, descriptorIndex := 339, attributes := #[] }, { accessFlags := 25, nameIndex := 358, descriptorIndex := 339, attributes := #[] }, { accessFlags := 25, nameIndex := 361, descriptorIndex := 339, attributes := #[] }, { accessFlags := 26, nameIndex := 364, descriptorIndex := 339, attributes := #[] }, { accessFlags := 26, nameIndex := 365, descriptorIndex := 339, attributes := #[] }, { accessFlags := 26, nameIndex := 172, descriptorIndex := 173, attributes := #[] }, { accessFlags := 26, nameIndex := 176, descriptorIndex := 173, attributes := #[] }, { accessFlags := 8, nameIndex := 344, descriptorIndex := 339, attributes := #[] }, { accessFlags := 8, nameIndex := 338, descriptorIndex := 339, attributes := #[] }, { accessFlags := 4120, nameIndex := 245, descriptorIndex := 246, attributes := #[] }])
  fields := #[{ name := "E", type := .double, accessFlags := 25, slot := 0, constantValue := 0 }, { name := "PI", type := .double, accessFlags := 25, slot := 1, constantValue := 0 }, { name := "TAU", type := .double, accessFlags := 25, slot := 2, constantValue := 0 }, { name := "DEGREES_TO_RADIANS", type := .double, accessFlags := 26, slot := 3, constantValue := 0 }, { name := "RADIANS_TO_DEGREES", type := .double, accessFlags := 26, slot := 4, constantValue := 0 }, { name := "negativeZeroFloatBits", type := .long, accessFlags := 26, slot := 5, constantValue := 0 }, { name := "negativeZeroDoubleBits", type := .long, accessFlags := 26, slot := 6, constantValue := 0 }, { name := "twoToTheDoubleScaleUp", type := .double, accessFlags := 8, slot := 7, constantValue := 0 }, { name := "twoToTheDoubleScaleDown", type := .double, accessFlags := 8, slot := 8, constantValue := 0 }, { name := "$assertionsDisabled", type := .boolean, accessFlags := 4120, slot := 9, constantValue := 0 }]
  methods := #[k5m0, k5m1, k5m2, k5m3, k5m4, k5m5, k5m6]
  instanceTypes := #[]
  staticTypes := #[.double, .double, .double, .double, .double, .long, .long, .double, .double, .boolean]
  resolved := Array.replicate 460 none
  statics := none }

def pool6 : Array CpInfo := pool [(2, .class_ 4), (1, u "java/lang/Object"), (0, u "<init>"), (0, u "()V"), (1, .class_ 10), (1, u "java/lang/System"), (0, u "allowSecurityManager"), (0, u "I"), (16, u "cons"), (0, u "Ljava/io/Console;"), (77, .class_ 110), (1, u "java/lang/System$CallersHolder"), (43, u "initialErrStream"), (0, u "Ljava/io/PrintStream;"), (19, u "security"), (0, u "Ljava/lang/SecurityManager;"), (31, .class_ 209), (0, u "java/lang/System$1"), (7, u "props"), (0, u "Ljava/util/Properties;"), (2, u "lineSeparator"), (0, u "Ljava/lang/String;"), (96, .class_ 321), (1, u "java/lang/System$LoggerFinder"), (5, .class_ 328), (0, u "java/lang/System$Logger"), (67, u "err"), (2, u "out"), (91, u "notSupportedJnuEncoding"), (15, u "in"), (17, u "initialIn"), (0, u "Ljava/io/InputStream;"), (35, u "bootLayer"), (0, u "Ljava/lang/ModuleLayer;"), (99, .class_ 664), (0, u "java/lang/System$2"), (9, u "NEVER"), (2, u "MAYBE"), (49, u "arraycopy"), (0, u "(Ljava/lang/Object;ILjava/lang/Object;II)V"), (72, .class_ 802), (0, u "java/lang/System$Logger$Level")] 31

def k6m0 : Method := { name := "<init>", desc := "()V", sig := { parameters := [], returnType := none }, accessFlags := 2, code := none }
def k6m1 : Method := { name := "arraycopy", desc := "(Ljava/lang/Object;ILjava/lang/Object;II)V", sig := { parameters := [(.object "java/lang/Object"), .int, (.object "java/lang/Object"), .int, .int], returnType := none }, accessFlags := 265, code := none }
/-- java/lang/System -/
def k6 : Class := { plain "java/lang/System" (some 0) with
  accessFlags := 49
  interfaces := #[]
  cf := some (fileOf pool6 8 #[.nestMembers #[319, 327, 801, 108, 663, 208]] #[{ accessFlags := 2, nameIndex := 5, descriptorIndex := 6, attributes := #[] }, { accessFlags := 265, nameIndex := 727, descriptorIndex := 728, attributes := #[] }] 49 2 #[] #[{ accessFlags := 25, nameIndex := 507, descriptorIndex := 526, attributes := #[] }, { accessFlags := 25, nameIndex := 399, descriptorIndex := 155, attributes := #[] }, { accessFlags := 25, nameIndex := 396, descriptorIndex := 155, attributes := #[] }, { accessFlags := 10, nameIndex := 525, descriptorIndex := 526, attributes := #[] }, { accessFlags := 26, nameIndex := 674, descriptorIndex := 12, attributes := #[] }, { accessFlags := 26, nameIndex := 677, descriptorIndex := 12, attributes := #[] }, { accessFlags := 10, nameIndex := 11, descriptorIndex := 12, attributes := #[] }, { accessFlags := 74, nameIndex := 175, descriptorIndex := 176, attributes := #[] }, { accessFlags := 10, nameIndex := 491, descriptorIndex := 222, attributes := #[] }, { accessFlags := 74, nameIndex := 29, descriptorIndex := 30, attributes := #[] }, { accessFlags := 74, nameIndex := 154, descriptorIndex := 155, attributes := #[] }, { accessFlags := 10, nameIndex := 217, descriptorIndex := 218, attributes := #[] }, { accessFlags := 10, nameIndex := 221, descriptorIndex := 222, attributes := #[] }, { accessFlags := 8, nameIndex := 562, descriptorIndex := 563, attributes := #[] }])
  fields := #[{ name := "in", type := (.object "java/io/InputStream"), accessFlags := 25, slot := 0, constantValue := 0 }, { name := "out", type := (.object "java/io/PrintStream"), accessFlags := 25, slot := 1, constantValue := 0 }, { name := "err", type := (.object "java/io/PrintStream"), accessFlags := 25, slot := 2, constantValue := 0 }, { name := "initialIn", type := (.object "java/io/InputStream"), accessFlags := 10, slot := 3, constantValue := 0 }, { name := "NEVER", type := .int, accessFlags := 26, slot := 4, constantValue := 0 }, { name := "MAYBE", type := .int, accessFlags := 26, slot := 5, constantValue := 0 }, { name := "allowSecurityManager", type := .int, accessFlags := 10, slot := 6, constantValue := 0 }, { name := "security", type := (.object "java/lang/SecurityManager"), accessFlags := 74, slot := 7, constantValue := 0 }, { name := "notSupportedJnuEncoding", type := (.object "java/lang/String"), accessFlags := 10, slot := 8, constantValue := 0 }, { name := "cons", type := (.object "java/io/Console"), accessFlags := 74, slot := 9, constantValue := 0 }, { name := "initialErrStream", type := (.object "java/io/PrintStream"), accessFlags := 74, slot := 10, constantValue := 0 }, { name := "props", type := (.object "java/util/Properties"), accessFlags := 10, slot := 11, constantValue := 0 }, { name := "lineSeparator", type := (.object "java/lang/String"), accessFlags := 10, slot := 12, constantValue := 0 }, { name := "bootLayer", type := (.object "java/lang/ModuleLayer"), accessFlags := 8, slot := 13, constantValue := 0 }]
  methods := #[k6m0, k6m1]
  instanceTypes := #[]
  staticTypes := #[(.object "java/io/InputStream"), (.object "java/io/PrintStream"), (.object "java/io/PrintStream"), (.object "java/io/InputStream"), .int, .int, .int, (.object "java/lang/SecurityManager"), (.object "java/lang/String"), (.object "java/io/Console"), (.object "java/io/PrintStream"), (.object "java/util/Properties"), (.object "java/lang/String"), (.object "java/lang/ModuleLayer")]
  resolved := Array.replicate 834 none
  statics := none }

def pool7 : Array CpInfo := pool [(1, .methodref 2 3), (0, .class_ 4), (0, .nameAndType 5 6), (0, u "java/lang/Object"), (0, u "<init>"), (0, u "()V"), (0, .class_ 8), (0, u "java/lang/Record")] 13

def k7c0 : Code := { maxStack := 1, maxLocals := 1, code := jdk_30_method_1_code, exceptionTable := #[], attributes := #[] }
def k7m0 : Method := { name := "<init>", desc := "()V", sig := { parameters := [], returnType := none }, accessFlags := 4, code := some k7c0 }
/-- java/lang/Record -/
def k7 : Class := { plain "java/lang/Record" (some 0) with
  accessFlags := 1057
  interfaces := #[]
  cf := some (fileOf pool7 7 #[] #[{ accessFlags := 4, nameIndex := 5, descriptorIndex := 6, attributes := #[] }] 1057 2 #[] #[])
  fields := #[]
  methods := #[k7m0]
  instanceTypes := #[]
  staticTypes := #[]
  resolved := Array.replicate 22 none
  statics := none }

def pool8 : Array CpInfo := pool [(1, .class_ 2), (0, u "com/example/primalcap/primalcap/Optimum"), (0, .methodref 4 5), (0, .class_ 6), (0, .nameAndType 7 8), (0, u "java/lang/Record"), (0, u "<init>"), (0, u "()V"), (0, .fieldref 10 11), (0, .class_ 12), (0, .nameAndType 13 14), (0, u "com/example/primalcap/primalcap/Optimum$Network"), (0, u "flows"), (0, u "Lcom/example/primalcap/primalcap/MinCostFlow;"), (0, .fieldref 10 16), (0, .nameAndType 17 18), (0, u "soldOutright"), (0, u "[J"), (0, .methodref 20 21), (0, .class_ 18), (0, .nameAndType 22 23), (0, u "clone"), (0, u "()Ljava/lang/Object;"), (0, .methodref 25 26), (0, .class_ 27), (0, .nameAndType 28 29), (0, u "com/example/primalcap/primalcap/MinCostFlow"), (0, u "edges"), (0, u "()I"), (0, .methodref 25 31), (0, .nameAndType 32 33), (0, u "head"), (0, u "(I)I"), (0, .methodref 25 35), (0, .nameAndType 36 37), (0, u "cost"), (0, u "(I)J"), (0, .methodref 25 39), (0, .nameAndType 40 37), (0, u "flow"), (12, u "(Lcom/example/primalcap/primalcap/MinCostFlow;[J)V"), (3, u "boughtAt"), (0, u "()[J")] 27

def k8c0 : Code := { maxStack := 2, maxLocals := 3, code := prog_27_method_1_code, exceptionTable := #[], attributes := #[] }
def k8m0 : Method := { name := "<init>", desc := "(Lcom/example/primalcap/primalcap/MinCostFlow;[J)V", sig := { parameters := [(.object "com/example/primalcap/primalcap/MinCostFlow"), (.array .long)], returnType := none }, accessFlags := 0, code := some k8c0 }
def k8c1 : Code := { maxStack := 6, maxLocals := 3, code := prog_27_method_2_code, exceptionTable := #[], attributes := #[] }
def k8m1 : Method := { name := "boughtAt", desc := "()[J", sig := { parameters := [], returnType := some (.array .long) }, accessFlags := 0, code := some k8c1 }
/-- com/example/primalcap/primalcap/Optimum$Network -/
def k8 : Class := { plain "com/example/primalcap/primalcap/Optimum$Network" (some 7) with
  accessFlags := 48
  interfaces := #[]
  cf := some (fileOf pool8 10 #[.nestHost 1] #[{ accessFlags := 0, nameIndex := 7, descriptorIndex := 53, attributes := #[] }, { accessFlags := 0, nameIndex := 57, descriptorIndex := 58, attributes := #[] }] 48 4 #[] #[{ accessFlags := 18, nameIndex := 13, descriptorIndex := 14, attributes := #[] }, { accessFlags := 18, nameIndex := 17, descriptorIndex := 18, attributes := #[] }])
  fields := #[{ name := "flows", type := (.object "com/example/primalcap/primalcap/MinCostFlow"), accessFlags := 18, slot := 0, constantValue := 0 }, { name := "soldOutright", type := (.array .long), accessFlags := 18, slot := 1, constantValue := 0 }]
  methods := #[k8m0, k8m1]
  instanceTypes := #[(.object "com/example/primalcap/primalcap/MinCostFlow"), (.array .long)]
  staticTypes := #[]
  resolved := Array.replicate 86 none
  statics := none }

def pool9 : Array CpInfo := pool [(1, .class_ 2), (0, u "java/lang/Cloneable"), (0, .class_ 4), (0, u "java/lang/Object")] 2

/-- java/lang/Cloneable -/
def k9 : Class := { plain "java/lang/Cloneable" (some 0) with
  accessFlags := 1537
  interfaces := #[]
  cf := some (fileOf pool9 1 #[] #[] 1537 3 #[] #[])
  fields := #[]
  methods := #[]
  instanceTypes := #[]
  staticTypes := #[]
  resolved := Array.replicate 7 none
  statics := none }

def pool10 : Array CpInfo := pool [(1, u "java/io/Serializable"), (0, .class_ 1), (0, u "java/lang/Object"), (0, .class_ 3)] 3

/-- java/io/Serializable -/
def k10 : Class := { plain "java/io/Serializable" (some 0) with
  accessFlags := 1537
  interfaces := #[]
  cf := some (fileOf pool10 2 #[] #[] 1537 4 #[] #[])
  fields := #[]
  methods := #[]
  instanceTypes := #[]
  staticTypes := #[]
  resolved := Array.replicate 8 none
  statics := none }

/-- the primitive byte -/
def k11 : Class := { plain "byte" none with kind := .primitive 'B', accessFlags := 0x411 }
/-- [B -/
def k12 : Class := { plain "[B" (some 0) with kind := .array 11 .byte, interfaces := #[9, 10], accessFlags := 1041 }

/-- the primitive int -/
def k13 : Class := { plain "int" none with kind := .primitive 'I', accessFlags := 0x411 }
/-- [I -/
def k14 : Class := { plain "[I" (some 0) with kind := .array 13 .int, interfaces := #[9, 10], accessFlags := 1041 }

/-- the primitive long -/
def k15 : Class := { plain "long" none with kind := .primitive 'J', accessFlags := 0x411 }
/-- [J -/
def k16 : Class := { plain "[J" (some 0) with kind := .array 15 .long, interfaces := #[9, 10], accessFlags := 1041 }

def heap : Heap := #[]
def classes : Array Class := #[k0, k1, k2, k3, k4, k5, k6, k7, k8, k9, k10, k11, k12, k13, k14, k15, k16]
def interned : List (Array UInt16 × Addr) := []
def slotsUsed : Nat := 0
def theMethod : MethodId := ⟨1, 1⟩
def args0 : Array Value := #[.int 5, .long 8, .long 9, .long 10, .long 11]
def aboutOver (below : List Frame) : State where
  vm := { classes := classes, interned := interned.toArray }
  heap := heap
  slotsUsed := slotsUsed
  threads := #[{ frames := .invoking theMethod args0 :: below }]
def below0 : List Frame := [.native { method := ⟨0, 0⟩, args := #[] }]
def about1 : State := aboutOver below0
def p0 : Program := .bare "" "" ""
def e0 : Env := launch0.env 0 0 0
theorem w_frames : about1.frames = Frame.invoking theMethod args0 :: below0 := rfl
set_option maxRecDepth 65536 in
theorem w_args : argsFit about1.vm theMethod args0 = true := by decide +kernel
set_option maxRecDepth 65536 in
theorem w_heap : heapFits about1 = true := by decide +kernel
set_option maxRecDepth 65536 in
theorem w_runnable : about1.curStatus? = some .runnable := by decide +kernel
set_option maxRecDepth 65536 in
theorem w_alone : about1.alone = true := by decide +kernel
set_option maxRecDepth 65536 in
theorem w_named : about1.methodNamed? x = some theMethod := by decide +kernel
set_option maxRecDepth 65536 in
theorem w_hears : about1.hears theMethod below0 = true := by decide +kernel
set_option maxRecDepth 65536 in
theorem w_ripe : about1.ripe theMethod args0 below0 = true := by decide +kernel
theorem w_running : about1.status = .running := rfl
set_option maxRecDepth 65536 in
theorem w_room : about1.hasRoom e0.platform room_1 = true :=
  launch0.hasRoom_least _ room_1 (by decide +kernel) (by decide +kernel) (by decide +kernel) (by decide +kernel) (by decide +kernel) (by decide +kernel)
theorem allAtoms_all (ts : List Jvm.Cond) (a : Array Jvm.Value) (st : Jvm.State) : (allAtoms ts).before a st = ts.all (fun c => c.before a st) := by
  induction ts with
  | nil => rfl
  | cons c t ih =>
    show (Jvm.Cond.and c (allAtoms t)).before a st = _
    rw [Jvm.Cond.before_and, ih, List.all_cons]
def words1 : List Jvm.Cond := Jvm.Cond.code x code maxLocals ret :: tables_1
/-- a 'code' word, met by the world's own term for the bytes: nothing is compared byte by byte -/
theorem code_word {y : MethodName} {bytes : ByteArray} {mx : Nat} {rt : Option FieldType} {a : Array Value} {s : State} {m : MethodId} {meth : Method} {c : Code} (h1 : s.methodNamed? y = some m) (h2 : s.vm.method? m = some meth) (h3 : meth.code = some c) (h4 : c.code = bytes)
    (h5 : (c.maxLocals == mx && c.exceptionTable.isEmpty && decide (c.maxStack ≤ mostOperands) && decide (meth.sig.returnType = rt) && !meth.locks && decide (parseMethodDescriptor y.desc = some meth.sig)) = true) : (Jvm.Cond.code y bytes mx rt).before a s = true := by
  simp only [Bool.and_eq_true, beq_iff_eq, Bool.not_eq_true', decide_eq_true_eq] at h5
  obtain ⟨⟨⟨⟨⟨g1, g2⟩, g3⟩, g4⟩, g5⟩, g6⟩ := h5
  simp [Cond.before, Cond.holds, Cond.value, h1, h2, h3, h4, g1, g2, g3, g4, g5, g6]
def isCode : Jvm.Cond → Bool
  | .code _ _ _ _ => true
  | _ => false
theorem all_split {L : List Jvm.Cond} {P : Jvm.Cond → Bool} (h1 : L.all (fun c => isCode c || P c) = true) (h2 : ∀ c ∈ L.filter isCode, P c = true) : L.all P = true := by
  refine List.all_eq_true.mpr fun c hc => ?_
  have h := List.all_eq_true.mp h1 c hc
  rcases Bool.eq_false_or_eq_true (isCode c) with hi | hi
  · exact h2 c (List.mem_filter.mpr ⟨hc, hi⟩)
  · simpa [hi] using h
set_option maxRecDepth 65536 in
theorem w_c0 : (Jvm.Cond.code x code maxLocals ret).before args0 about1 = true := code_word (m := ⟨1, 1⟩) (meth := k1m1) (c := k1c1) (by decide +kernel) rfl rfl rfl (by decide +kernel)
set_option maxRecDepth 65536 in
theorem w_c1 : (Jvm.Cond.code ({ cls := "com/example/primalcap/primalcap/MinCostFlow", name := "<init>", desc := "(I)V" } : Jvm.MethodName) prog_20_method_1_code (2 : Nat) (Option.none : Option Jvm.ClassFile.FieldType)).before args0 about1 = true := code_word (m := ⟨2, 0⟩) (meth := k2m0) (c := k2c0) (by decide +kernel) rfl rfl rfl (by decide +kernel)
set_option maxRecDepth 65536 in
theorem w_c2 : (Jvm.Cond.code ({ cls := "java/lang/Object", name := "<init>", desc := "()V" } : Jvm.MethodName) object_method_1_code (1 : Nat) (Option.none : Option Jvm.ClassFile.FieldType)).before args0 about1 = true := code_word (m := ⟨0, 0⟩) (meth := k0m0) (c := k0c0) (by decide +kernel) rfl rfl rfl (by decide +kernel)
set_option maxRecDepth 65536 in
theorem w_c3 : (Jvm.Cond.code ({ cls := "com/example/primalcap/primalcap/MinCostFlow", name := "addEdge", desc := "(IIJJ)I" } : Jvm.MethodName) prog_20_method_3_code (8 : Nat) (Option.some Jvm.ClassFile.FieldType.int)).before args0 about1 = true := code_word (m := ⟨2, 1⟩) (meth := k2m1) (c := k2c1) (by decide +kernel) rfl rfl rfl (by decide +kernel)
set_option maxRecDepth 65536 in
theorem w_c4 : (Jvm.Cond.code ({ cls := "com/example/primalcap/primalcap/MinCostFlow$Refinements", name := "<init>", desc := "(Lcom/example/primalcap/primalcap/MinCostFlow;)V" } : Jvm.MethodName) prog_21_method_1_code (9 : Nat) (Option.none : Option Jvm.ClassFile.FieldType)).before args0 about1 = true := code_word (m := ⟨3, 0⟩) (meth := k3m0) (c := k3c0) (by decide +kernel) rfl rfl rfl (by decide +kernel)
set_option maxRecDepth 65536 in
theorem w_c5 : (Jvm.Cond.code ({ cls := "java/util/Arrays", name := "copyOf", desc := "([II)[I" } : Jvm.MethodName) jdk_65_method_123_code (3 : Nat) (Option.some (Jvm.ClassFile.FieldType.array Jvm.ClassFile.FieldType.int))).before args0 about1 = true := code_word (m := ⟨4, 1⟩) (meth := k4m1) (c := k4c1) (by decide +kernel) rfl rfl rfl (by decide +kernel)
set_option maxRecDepth 65536 in
theorem w_c6 : (Jvm.Cond.code ({ cls := "java/lang/Math", name := "min", desc := "(II)I" } : Jvm.MethodName) jdk_29_method_69_code (2 : Nat) (Option.some Jvm.ClassFile.FieldType.int)).before args0 about1 = true := code_word (m := ⟨5, 5⟩) (meth := k5m5) (c := k5c5) (by decide +kernel) rfl rfl rfl (by decide +kernel)
set_option maxRecDepth 65536 in
theorem w_c7 : (Jvm.Cond.code ({ cls := "java/lang/Math", name := "multiplyExact", desc := "(JJ)J" } : Jvm.MethodName) jdk_29_method_30_code (10 : Nat) (Option.some Jvm.ClassFile.FieldType.long)).before args0 about1 = true := code_word (m := ⟨5, 2⟩) (meth := k5m2) (c := k5c2) (by decide +kernel) rfl rfl rfl (by decide +kernel)
set_option maxRecDepth 65536 in
theorem w_c8 : (Jvm.Cond.code ({ cls := "java/lang/Math", name := "abs", desc := "(J)J" } : Jvm.MethodName) jdk_29_method_61_code (2 : Nat) (Option.some Jvm.ClassFile.FieldType.long)).before args0 about1 = true := code_word (m := ⟨5, 3⟩) (meth := k5m3) (c := k5c3) (by decide +kernel) rfl rfl rfl (by decide +kernel)
set_option maxRecDepth 65536 in
theorem w_c9 : (Jvm.Cond.code ({ cls := "java/lang/Math", name := "max", desc := "(JJ)J" } : Jvm.MethodName) jdk_29_method_66_code (4 : Nat) (Option.some Jvm.ClassFile.FieldType.long)).before args0 about1 = true := code_word (m := ⟨5, 4⟩) (meth := k5m4) (c := k5c4) (by decide +kernel) rfl rfl rfl (by decide +kernel)
set_option maxRecDepth 65536 in
theorem w_c10 : (Jvm.Cond.code ({ cls := "java/lang/Math", name := "addExact", desc := "(JJ)J" } : Jvm.MethodName) jdk_29_method_25_code (6 : Nat) (Option.some Jvm.ClassFile.FieldType.long)).before args0 about1 = true := code_word (m := ⟨5, 1⟩) (meth := k5m1) (c := k5c1) (by decide +kernel) rfl rfl rfl (by decide +kernel)
set_option maxRecDepth 65536 in
theorem w_c11 : (Jvm.Cond.code ({ cls := "com/example/primalcap/primalcap/MinCostFlow$Refinements", name := "run", desc := "()V" } : Jvm.MethodName) prog_21_method_2_code (4 : Nat) (Option.none : Option Jvm.ClassFile.FieldType)).before args0 about1 = true := code_word (m := ⟨3, 1⟩) (meth := k3m1) (c := k3c1) (by decide +kernel) rfl rfl rfl (by decide +kernel)
set_option maxRecDepth 65536 in
theorem w_c12 : (Jvm.Cond.code ({ cls := "com/example/primalcap/primalcap/MinCostFlow$Refinements", name := "refine", desc := "(J)V" } : Jvm.MethodName) prog_21_method_4_code (5 : Nat) (Option.none : Option Jvm.ClassFile.FieldType)).before args0 about1 = true := code_word (m := ⟨3, 3⟩) (meth := k3m3) (c := k3c3) (by decide +kernel) rfl rfl rfl (by decide +kernel)
set_option maxRecDepth 65536 in
theorem w_c13 : (Jvm.Cond.code ({ cls := "com/example/primalcap/primalcap/Optimum$Network", name := "<init>", desc := "(Lcom/example/primalcap/primalcap/MinCostFlow;[J)V" } : Jvm.MethodName) prog_27_method_1_code (3 : Nat) (Option.none : Option Jvm.ClassFile.FieldType)).before args0 about1 = true := code_word (m := ⟨8, 0⟩) (meth := k8m0) (c := k8c0) (by decide +kernel) rfl rfl rfl (by decide +kernel)
set_option maxRecDepth 65536 in
theorem w_c14 : (Jvm.Cond.code ({ cls := "java/lang/Record", name := "<init>", desc := "()V" } : Jvm.MethodName) jdk_30_method_1_code (1 : Nat) (Option.none : Option Jvm.ClassFile.FieldType)).before args0 about1 = true := code_word (m := ⟨7, 0⟩) (meth := k7m0) (c := k7c0) (by decide +kernel) rfl rfl rfl (by decide +kernel)
set_option maxRecDepth 65536 in
theorem w_c15 : (Jvm.Cond.code ({ cls := "com/example/primalcap/primalcap/Optimum$Network", name := "boughtAt", desc := "()[J" } : Jvm.MethodName) prog_27_method_2_code (3 : Nat) (Option.some (Jvm.ClassFile.FieldType.array Jvm.ClassFile.FieldType.long))).before args0 about1 = true := code_word (m := ⟨8, 1⟩) (meth := k8m1) (c := k8c1) (by decide +kernel) rfl rfl rfl (by decide +kernel)
set_option maxRecDepth 65536 in
theorem w_c16 : (Jvm.Cond.code ({ cls := "com/example/primalcap/primalcap/MinCostFlow", name := "edges", desc := "()I" } : Jvm.MethodName) prog_20_method_5_code (1 : Nat) (Option.some Jvm.ClassFile.FieldType.int)).before args0 about1 = true := code_word (m := ⟨2, 2⟩) (meth := k2m2) (c := k2c2) (by decide +kernel) rfl rfl rfl (by decide +kernel)
set_option maxRecDepth 65536 in
theorem w_c17 : (Jvm.Cond.code ({ cls := "com/example/primalcap/primalcap/MinCostFlow", name := "head", desc := "(I)I" } : Jvm.MethodName) prog_20_method_7_code (2 : Nat) (Option.some Jvm.ClassFile.FieldType.int)).before args0 about1 = true := code_word (m := ⟨2, 3⟩) (meth := k2m3) (c := k2c3) (by decide +kernel) rfl rfl rfl (by decide +kernel)
set_option maxRecDepth 65536 in
theorem w_c18 : (Jvm.Cond.code ({ cls := "com/example/primalcap/primalcap/MinCostFlow", name := "cost", desc := "(I)J" } : Jvm.MethodName) prog_20_method_9_code (2 : Nat) (Option.some Jvm.ClassFile.FieldType.long)).before args0 about1 = true := code_word (m := ⟨2, 4⟩) (meth := k2m4) (c := k2c4) (by decide +kernel) rfl rfl rfl (by decide +kernel)
set_option maxRecDepth 65536 in
theorem w_c19 : (Jvm.Cond.code ({ cls := "com/example/primalcap/primalcap/MinCostFlow", name := "flow", desc := "(I)J" } : Jvm.MethodName) prog_20_method_10_code (2 : Nat) (Option.some Jvm.ClassFile.FieldType.long)).before args0 about1 = true := code_word (m := ⟨2, 5⟩) (meth := k2m5) (c := k2c5) (by decide +kernel) rfl rfl rfl (by decide +kernel)
set_option maxRecDepth 65536 in
theorem w_c20 : (Jvm.Cond.code ({ cls := "java/lang/Math", name := "min", desc := "(JJ)J" } : Jvm.MethodName) jdk_29_method_70_code (4 : Nat) (Option.some Jvm.ClassFile.FieldType.long)).before args0 about1 = true := code_word (m := ⟨5, 6⟩) (meth := k5m6) (c := k5c6) (by decide +kernel) rfl rfl rfl (by decide +kernel)
set_option maxRecDepth 65536 in
theorem w_c21 : (Jvm.Cond.code ({ cls := "com/example/primalcap/primalcap/MinCostFlow$Refinements", name := "reducedCost", desc := "(II)J" } : Jvm.MethodName) prog_21_method_3_code (3 : Nat) (Option.some Jvm.ClassFile.FieldType.long)).before args0 about1 = true := code_word (m := ⟨3, 2⟩) (meth := k3m2) (c := k3c2) (by decide +kernel) rfl rfl rfl (by decide +kernel)
set_option maxRecDepth 65536 in
theorem w_c22 : (Jvm.Cond.code ({ cls := "com/example/primalcap/primalcap/MinCostFlow$Refinements", name := "push", desc := "(IIJ)V" } : Jvm.MethodName) prog_21_method_7_code (5 : Nat) (Option.none : Option Jvm.ClassFile.FieldType)).before args0 about1 = true := code_word (m := ⟨3, 6⟩) (meth := k3m6) (c := k3c6) (by decide +kernel) rfl rfl rfl (by decide +kernel)
set_option maxRecDepth 65536 in
theorem w_c23 : (Jvm.Cond.code ({ cls := "com/example/primalcap/primalcap/MinCostFlow$Refinements", name := "enqueue", desc := "(I)V" } : Jvm.MethodName) prog_21_method_8_code (2 : Nat) (Option.none : Option Jvm.ClassFile.FieldType)).before args0 about1 = true := code_word (m := ⟨3, 7⟩) (meth := k3m7) (c := k3c7) (by decide +kernel) rfl rfl rfl (by decide +kernel)
set_option maxRecDepth 65536 in
theorem w_c24 : (Jvm.Cond.code ({ cls := "com/example/primalcap/primalcap/MinCostFlow$Refinements", name := "discharge", desc := "(IJ)V" } : Jvm.MethodName) prog_21_method_5_code (8 : Nat) (Option.none : Option Jvm.ClassFile.FieldType)).before args0 about1 = true := code_word (m := ⟨3, 4⟩) (meth := k3m4) (c := k3c4) (by decide +kernel) rfl rfl rfl (by decide +kernel)
set_option maxRecDepth 65536 in
theorem w_c25 : (Jvm.Cond.code ({ cls := "com/example/primalcap/primalcap/MinCostFlow$Refinements", name := "relabel", desc := "(IJ)V" } : Jvm.MethodName) prog_21_method_6_code (7 : Nat) (Option.none : Option Jvm.ClassFile.FieldType)).before args0 about1 = true := code_word (m := ⟨3, 5⟩) (meth := k3m5) (c := k3c5) (by decide +kernel) rfl rfl rfl (by decide +kernel)
def codes1 : List Jvm.Cond := [Jvm.Cond.code x code maxLocals ret, Jvm.Cond.code ({ cls := "com/example/primalcap/primalcap/MinCostFlow", name := "<init>", desc := "(I)V" } : Jvm.MethodName) prog_20_method_1_code (2 : Nat) (Option.none : Option Jvm.ClassFile.FieldType), Jvm.Cond.code ({ cls := "java/lang/Object", name := "<init>", desc := "()V" } : Jvm.MethodName) object_method_1_code (1 : Nat) (Option.none : Option Jvm.ClassFile.FieldType), Jvm.Cond.code ({ cls := "com/example/primalcap/primalcap/MinCostFlow", name := "addEdge", desc := "(IIJJ)I" } : Jvm.MethodName) prog_20_method_3_code (8 : Nat) (Option.some Jvm.ClassFile.FieldType.int), Jvm.Cond.code ({ cls := "com/example/primalcap/primalcap/MinCostFlow$Refinements", name := "<init>", desc := "(Lcom/example/primalcap/primalcap/MinCostFlow;)V" } : Jvm.MethodName) prog_21_method_1_code (9 : Nat) (Option.none : Option Jvm.ClassFile.FieldType), Jvm.Cond.code ({ cls := "java/util/Arrays", name := "copyOf", desc := "([II)[I" } : Jvm.MethodName) jdk_65_method_123_code (3 : Nat) (Option.some (Jvm.ClassFile.FieldType.array Jvm.ClassFile.FieldType.int)), Jvm.Cond.code ({ cls := "java/lang/Math", name := "min", desc := "(II)I" } : Jvm.MethodName) jdk_29_method_69_code (2 : Nat) (Option.some Jvm.ClassFile.FieldType.int), Jvm.Cond.code ({ cls := "java/lang/Math", name := "multiplyExact", desc := "(JJ)J" } : Jvm.MethodName) jdk_29_method_30_code (10 : Nat) (Option.some Jvm.ClassFile.FieldType.long), Jvm.Cond.code ({ cls := "java/lang/Math", name := "abs", desc := "(J)J" } : Jvm.MethodName) jdk_29_method_61_code (2 : Nat) (Option.some Jvm.ClassFile.FieldType.long), Jvm.Cond.code ({ cls := "java/lang/Math", name := "max", desc := "(JJ)J" } : Jvm.MethodName) jdk_29_method_66_code (4 : Nat) (Option.some Jvm.ClassFile.FieldType.long), Jvm.Cond.code ({ cls := "java/lang/Math", name := "addExact", desc := "(JJ)J" } : Jvm.MethodName) jdk_29_method_25_code (6 : Nat) (Option.some Jvm.ClassFile.FieldType.long), Jvm.Cond.code ({ cls := "com/example/primalcap/primalcap/MinCostFlow$Refinements", name := "run", desc := "()V" } : Jvm.MethodName) prog_21_method_2_code (4 : Nat) (Option.none : Option Jvm.ClassFile.FieldType), Jvm.Cond.code ({ cls := "com/example/primalcap/primalcap/MinCostFlow$Refinements", name := "refine", desc := "(J)V" } : Jvm.MethodName) prog_21_method_4_code (5 : Nat) (Option.none : Option Jvm.ClassFile.FieldType), Jvm.Cond.code ({ cls := "com/example/primalcap/primalcap/Optimum$Network", name := "<init>", desc := "(Lcom/example/primalcap/primalcap/MinCostFlow;[J)V" } : Jvm.MethodName) prog_27_method_1_code (3 : Nat) (Option.none : Option Jvm.ClassFile.FieldType), Jvm.Cond.code ({ cls := "java/lang/Record", name := "<init>", desc := "()V" } : Jvm.MethodName) jdk_30_method_1_code (1 : Nat) (Option.none : Option Jvm.ClassFile.FieldType), Jvm.Cond.code ({ cls := "com/example/primalcap/primalcap/Optimum$Network", name := "boughtAt", desc := "()[J" } : Jvm.MethodName) prog_27_method_2_code (3 : Nat) (Option.some (Jvm.ClassFile.FieldType.array Jvm.ClassFile.FieldType.long)), Jvm.Cond.code ({ cls := "com/example/primalcap/primalcap/MinCostFlow", name := "edges", desc := "()I" } : Jvm.MethodName) prog_20_method_5_code (1 : Nat) (Option.some Jvm.ClassFile.FieldType.int), Jvm.Cond.code ({ cls := "com/example/primalcap/primalcap/MinCostFlow", name := "head", desc := "(I)I" } : Jvm.MethodName) prog_20_method_7_code (2 : Nat) (Option.some Jvm.ClassFile.FieldType.int), Jvm.Cond.code ({ cls := "com/example/primalcap/primalcap/MinCostFlow", name := "cost", desc := "(I)J" } : Jvm.MethodName) prog_20_method_9_code (2 : Nat) (Option.some Jvm.ClassFile.FieldType.long), Jvm.Cond.code ({ cls := "com/example/primalcap/primalcap/MinCostFlow", name := "flow", desc := "(I)J" } : Jvm.MethodName) prog_20_method_10_code (2 : Nat) (Option.some Jvm.ClassFile.FieldType.long), Jvm.Cond.code ({ cls := "java/lang/Math", name := "min", desc := "(JJ)J" } : Jvm.MethodName) jdk_29_method_70_code (4 : Nat) (Option.some Jvm.ClassFile.FieldType.long), Jvm.Cond.code ({ cls := "com/example/primalcap/primalcap/MinCostFlow$Refinements", name := "reducedCost", desc := "(II)J" } : Jvm.MethodName) prog_21_method_3_code (3 : Nat) (Option.some Jvm.ClassFile.FieldType.long), Jvm.Cond.code ({ cls := "com/example/primalcap/primalcap/MinCostFlow$Refinements", name := "push", desc := "(IIJ)V" } : Jvm.MethodName) prog_21_method_7_code (5 : Nat) (Option.none : Option Jvm.ClassFile.FieldType), Jvm.Cond.code ({ cls := "com/example/primalcap/primalcap/MinCostFlow$Refinements", name := "enqueue", desc := "(I)V" } : Jvm.MethodName) prog_21_method_8_code (2 : Nat) (Option.none : Option Jvm.ClassFile.FieldType), Jvm.Cond.code ({ cls := "com/example/primalcap/primalcap/MinCostFlow$Refinements", name := "discharge", desc := "(IJ)V" } : Jvm.MethodName) prog_21_method_5_code (8 : Nat) (Option.none : Option Jvm.ClassFile.FieldType), Jvm.Cond.code ({ cls := "com/example/primalcap/primalcap/MinCostFlow$Refinements", name := "relabel", desc := "(IJ)V" } : Jvm.MethodName) prog_21_method_6_code (7 : Nat) (Option.none : Option Jvm.ClassFile.FieldType)]
set_option maxRecDepth 65536 in
theorem codes_eq : words1.filter isCode = codes1 := rfl
theorem w_codes : ∀ c ∈ words1.filter isCode, c.before args0 about1 = true := by
  rw [codes_eq]
  intro c hc
  simp only [codes1, List.mem_cons, List.not_mem_nil, or_false] at hc
  rcases hc with rfl | rfl | rfl | rfl | rfl | rfl | rfl | rfl | rfl | rfl | rfl | rfl | rfl | rfl | rfl | rfl | rfl | rfl | rfl | rfl | rfl | rfl | rfl | rfl | rfl | rfl
  · exact w_c0
  · exact w_c1
  · exact w_c2
  · exact w_c3
  · exact w_c4
  · exact w_c5
  · exact w_c6
  · exact w_c7
  · exact w_c8
  · exact w_c9
  · exact w_c10
  · exact w_c11
  · exact w_c12
  · exact w_c13
  · exact w_c14
  · exact w_c15
  · exact w_c16
  · exact w_c17
  · exact w_c18
  · exact w_c19
  · exact w_c20
  · exact w_c21
  · exact w_c22
  · exact w_c23
  · exact w_c24
  · exact w_c25
set_option maxRecDepth 65536 in
theorem w_t1 : (words1.take 24).all (fun c => isCode c || c.before args0 about1) = true := by decide +kernel
set_option maxRecDepth 65536 in
theorem w_t2 : ((words1.drop 24).take 24).all (fun c => isCode c || c.before args0 about1) = true := by decide +kernel
set_option maxRecDepth 65536 in
theorem w_t3 : (((words1.drop 24).drop 24).take 24).all (fun c => isCode c || c.before args0 about1) = true := by decide +kernel
set_option maxRecDepth 65536 in
theorem w_t4 : ((((words1.drop 24).drop 24).drop 24).take 24).all (fun c => isCode c || c.before args0 about1) = true := by decide +kernel
set_option maxRecDepth 65536 in
theorem w_t5 : (((((words1.drop 24).drop 24).drop 24).drop 24).take 24).all (fun c => isCode c || c.before args0 about1) = true := by decide +kernel
set_option maxRecDepth 65536 in
theorem w_t6 : ((((((words1.drop 24).drop 24).drop 24).drop 24).drop 24).take 24).all (fun c => isCode c || c.before args0 about1) = true := by decide +kernel
set_option maxRecDepth 65536 in
theorem w_t7 : (((((((words1.drop 24).drop 24).drop 24).drop 24).drop 24).drop 24).take 24).all (fun c => isCode c || c.before args0 about1) = true := by decide +kernel
set_option maxRecDepth 65536 in
theorem w_t8 : ((((((((words1.drop 24).drop 24).drop 24).drop 24).drop 24).drop 24).drop 24).take 24).all (fun c => isCode c || c.before args0 about1) = true := by decide +kernel
set_option maxRecDepth 65536 in
theorem w_t9 : ((((((((words1.drop 24).drop 24).drop 24).drop 24).drop 24).drop 24).drop 24).drop 24).all (fun c => isCode c || c.before args0 about1) = true := by decide +kernel
theorem w_tables : (allAtoms (Jvm.Cond.code x code maxLocals ret :: tables_1)).before args0 about1 = true := by
  rw [allAtoms_all]
  show words1.all (fun c => c.before args0 about1) = true
  refine all_split ?_ w_codes
  rw [← List.take_append_drop 24 words1, List.all_append, w_t1, ← List.take_append_drop 24 (words1.drop 24), List.all_append, w_t2, ← List.take_append_drop 24 ((words1.drop 24).drop 24), List.all_append, w_t3, ← List.take_append_drop 24 (((words1.drop 24).drop 24).drop 24), List.all_append, w_t4, ← List.take_append_drop 24 ((((words1.drop 24).drop 24).drop 24).drop 24), List.all_append, w_t5, ← List.take_append_drop 24 (((((words1.drop 24).drop 24).drop 24).drop 24).drop 24), List.all_append, w_t6, ← List.take_append_drop 24 ((((((words1.drop 24).drop 24).drop 24).drop 24).drop 24).drop 24), List.all_append, w_t7, ← List.take_append_drop 24 (((((((words1.drop 24).drop 24).drop 24).drop 24).drop 24).drop 24).drop 24), List.all_append, w_t8, w_t9]
  rfl
set_option maxRecDepth 65536 in
theorem w_case : (Jvm.Cond.and given_1 narrow_1).before args0 about1 = true := by decide +kernel
theorem w_applies : (headSpec (Jvm.Cond.code x code maxLocals ret :: tables_1) room_1).applies x e0.platform about1 = true :=
  (Spec.applies_iff w_frames).mpr ⟨w_running, w_runnable, w_alone, w_named, w_hears, w_ripe, w_room, w_tables⟩
theorem atStart : AtStart classFile x code maxLocals ret World_1 tables_1 room_1 Calls_1 rest_1 Pre_1 launch0 p0 e0 about1 theMethod args0 below0 :=
  ⟨lists_1, trivial, launch0.admits_env _ _ _, launch0.least_env, fairChoices_fair.cas, fairChoices_fair.clock, w_frames, w_args, w_heap, w_applies, trivial, trivial, w_case⟩
end start1
theorem witness_1 : WitnessClaimed_1 := ⟨start1.p0, start1.e0, start1.about1, start1.theMethod, start1.args0, start1.below0, start1.atStart⟩
end Jvm.Pilot.@@N@@
