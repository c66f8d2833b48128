import JvmDerived
import JvmDerived.Pilot.@@N@@Statement
import JvmDerived.Pilot.@@N@@Code
set_option linter.unusedVariables false
set_option linter.unusedSimpArgs false
namespace Jvm.OwnKit
open Jvm Jvm.ClassFile Sem Op Lib Jvm.Free Jvm.Stand Jvm.LawKit Jvm.RoadKit Bundle
/-- what is fixed in one body's walk: program, launch, environment, room, state at the call, method, arguments, frames below, its record, its code, the old addresses that it may write -/
abbrev Wk : Type := Program × Launch × Env × Room × State × MethodId × Array Value × List Frame × Method × Code × List Addr
abbrev Wk.p (W : Wk) : Program := W.1
abbrev Wk.l (W : Wk) : Launch := W.2.1
abbrev Wk.e (W : Wk) : Env := W.2.2.1
abbrev Wk.R (W : Wk) : Room := W.2.2.2.1
abbrev Wk.s (W : Wk) : State := W.2.2.2.2.1
abbrev Wk.m (W : Wk) : MethodId := W.2.2.2.2.2.1
abbrev Wk.args (W : Wk) : Array Value := W.2.2.2.2.2.2.1
abbrev Wk.below (W : Wk) : List Frame := W.2.2.2.2.2.2.2.1
abbrev Wk.meth (W : Wk) : Method := W.2.2.2.2.2.2.2.2.1
abbrev Wk.c (W : Wk) : Code := W.2.2.2.2.2.2.2.2.2.1
abbrev Wk.ws (W : Wk) : List Addr := W.2.2.2.2.2.2.2.2.2.2
/-- an address that may be written: a named old one, or a new one -/
def Pw (W : Wk) (a : Addr) : Prop := a ∈ W.ws ∨ W.s.heap.size ≤ a
abbrev Sta0 (W : Wk) (T : State) (locs : List Loc) (k n : Nat) : Prop := Stand W.p W.l W.e W.R W.s W.m W.args W.below W.meth W.c T locs k n
abbrev Stp (W : Wk) (S t : State) : Prop := Steps W.p.tables W.e W.below S t
def Sd (W : Wk) (T : State) (h : Heap) (k n : Nat) : Prop := ∃ locs, Sta0 W T locs k n ∧ T.heap = h ∧ ∀ y ∈ locs, Pw W y.base
/-- from S the body comes to its end, returning what Q says -/
def Out (W : Wk) (Q : Option Value → Heap → Prop) (S : State) : Prop := ∃ s₂ o, Stp W S s₂ ∧ s₂.status = .running ∧ Ended s₂ W.below o ∧ ∃ v L, o = .returned v ∧ (Q v s₂.heap ∧ ∀ y ∈ L, Pw W y.base) ∧ FrameEnd W.s o s₂ L W.R.cells W.R.slots
/-- from every state that stands here over the heap h, the body comes to its end as Q says -/
def Go (W : Wk) (Q : Option Value → Heap → Prop) (h : Heap) (k n pc : Nat) (L : Array Slot) (S : List Value) : Prop := ∀ T, Sd W T h k n → Out W Q (T.setTop (mkF W.m pc L S))
def Cx (W : Wk) (Z : State) (R : Room) (own : String) (code : ByteArray) (mx : Nat) (ret : Option FieldType) (nm : String) (ws : List Addr) (h0 : Heap) : Prop :=
  W.p.tables.exec = Jvm.exec ∧ Z.Warmed39 W.s.vm ∧ W.s.vm.findClass own = some W.m.cls ∧ W.c.code = code ∧ W.c.maxLocals = mx ∧ W.meth.sig.returnType = ret ∧ W.meth.locks = false ∧ W.meth.name = nm ∧ W.R = R ∧ W.ws = ws ∧ W.s.heap = h0
/-- a body's contract at the heap h: ws: the old addresses that it may write -/
def Con (l : Launch) (Z : State) (w0 : List Jvm.Cond) (y : MethodName) (bytes : ByteArray) (mx : Nat) (ret : Option FieldType) (rm : Room) (as : Array Value) (h : Heap) (ws : List Addr) (Q : Option Value → Heap → Prop) : Prop :=
  MetFree l y (head1 (Jvm.Cond.code y bytes mx ret :: w0) rm) (fun a U => a = as ∧ Z.Warmed39 U.vm ∧ U.heap = h) (fun _ _ _ _ _ => True)
    (fun _ U o U' => ∃ v L, o = .returned v ∧ (Q v U'.heap ∧ ∀ y ∈ L, y.base ∈ ws ∨ h.size ≤ y.base) ∧ FrameEnd U o U' L rm.cells rm.slots)
/-- a truth value as an int -/
def b2i (P : Prop) [Decidable P] : Int32 := if P then 1 else 0
theorem b2i_pos {P : Prop} [Decidable P] (h : P) : b2i P = 1 := if_pos h
theorem b2i_neg {P : Prop} [Decidable P] (h : ¬ P) : b2i P = 0 := if_neg h
theorem b2i_iff {P Q : Prop} [Decidable P] [Decidable Q] (h : P ↔ Q) : b2i P = b2i Q := by by_cases q : Q <;> simp [b2i, h, q]
theorem b2i_toInt (P : Prop) [Decidable P] : (b2i P).toInt = if P then 1 else 0 := by unfold b2i; split <;> rfl
theorem b2i_one {P : Prop} [Decidable P] : b2i P = 1 ↔ P := by unfold b2i; split <;> simp [*]
theorem b2i_zero {P : Prop} [Decidable P] : b2i P = 0 ↔ ¬ P := by unfold b2i; split <;> simp [*]
theorem nar_b2i (P : Prop) [Decidable P] : nar .boolean (b2i P) = b2i P := by unfold b2i; split <;> rfl
theorem b2i_inj {P Q : Prop} [Decidable P] [Decidable Q] : b2i P = b2i Q ↔ (P ↔ Q) := by unfold b2i; split <;> split <;> simp [*]
theorem ref_cat {v : Value} (h : v.isRef = true) : v.category = 1 := by cases v <;> simp [Value.isRef] at h ⊢ <;> rfl
theorem narrow_ref {t : FieldType} {v : Value} (h : v.isRef = true) : narrow t v = v := by cases v <;> simp [Value.isRef] at h <;> cases t <;> rfl
theorem fits_b2i (P : Prop) [Decidable P] : fits .boolean (.int (b2i P)) = true := by unfold b2i; split <;> rfl
theorem fits_ref0 {t : FieldType} {v : Value} (h : v.isRef = true) (ht : refKind t = true := by rfl) : fits t v = true := by cases v <;> simp [Value.isRef] at h <;> cases t <;> simp_all [refKind, fits]
section Facts
variable {Z : State} {h h' : Heap} {a b : Addr} {C : String} {ws : List Addr}
/-- an object of the class C: its fields (declaring class, name, descriptor, value) -/
def Ob (Z : State) (h : Heap) (a : Addr) (C : String) (fs : List (String × String × String × Value)) : Prop :=
  Exa Z h a C ∧ (∀ f ∈ fs, Fld Z h a f.1 f.2.1 f.2.2.1 f.2.2.2) ∧ (fs.map fun f => RoadKit.slotOf Z f.1 f.2.1 f.2.2.1).Nodup
variable {fs fs' : List (String × String × String × Value)} {o n d : String} {v old : Value} {i : Nat}
theorem Ob.exa (O : Ob Z h a C fs) : Exa Z h a C := O.1
theorem Ob.lt (O : Ob Z h a C fs) : a < h.size := O.1.lt
theorem Ob.get (O : Ob Z h a C fs) (hi : fs[i]? = some (o, n, d, v)) : Fld Z h a o n d v := O.2.1 _ (List.mem_of_getElem? hi)
theorem Ob.keep (O : Ob Z h a C fs) (K : Keep h h' ws) (q : a ∉ ws) : Ob Z h' a C fs := ⟨O.1.keep K, fun f hf => (O.2.1 f hf).keep K q, O.2.2⟩
theorem Ob.ext (O : Ob Z h a C fs) (E : Ext h h') : Ob Z h' a C fs := ⟨O.1.ext E, fun f hf => (O.2.1 f hf).ext E, O.2.2⟩
theorem Ob.other (O : Ob Z h b C fs) {sl : Nat} (W : Wr h h' a sl v) (q : b ≠ a) : Ob Z h' b C fs := O.keep (Keep.of_wr W) (ninS q nin0)
theorem Ob.put (O : Ob Z h a C fs) (hi : fs[i]? = some (o, n, d, old)) (W : Wr h h' a (RoadKit.slotOf Z o n d) v) : Ob Z h' a C (fs.set i (o, n, d, v)) := by
  obtain ⟨E, F, N⟩ := O
  have hlt : i < fs.length := (List.getElem?_eq_some_iff.mp hi).1
  have hm : (fs.set i (o, n, d, v)).map (fun f => RoadKit.slotOf Z f.1 f.2.1 f.2.2.1) = fs.map (fun f => RoadKit.slotOf Z f.1 f.2.1 f.2.2.1) := by
    rw [List.map_set]
    have e : (fs.map fun f => RoadKit.slotOf Z f.1 f.2.1 f.2.2.1)[i]? = some (RoadKit.slotOf Z o n d) := by rw [List.getElem?_map, hi]; rfl
    obtain ⟨hl, he⟩ := List.getElem?_eq_some_iff.mp e
    have q := List.set_getElem_self hl
    rw [he] at q
    exact q
  refine ⟨E.wr W, fun f hf => ?_, by rw [hm]; exact N⟩
  obtain ⟨j, hj⟩ := List.mem_iff_getElem?.mp hf
  by_cases e : j = i
  · subst e
    rw [List.getElem?_set_self hlt] at hj
    cases hj
    exact (F _ (List.mem_of_getElem? hi)).same W
  · rw [List.getElem?_set_ne (Ne.symm e)] at hj
    refine (F f (List.mem_of_getElem? hj)).other W (Or.inr fun q => ?_)
    have e1 : (fs.map fun f => RoadKit.slotOf Z f.1 f.2.1 f.2.2.1)[j]? = some (RoadKit.slotOf Z f.1 f.2.1 f.2.2.1) := by rw [List.getElem?_map, hj]; rfl
    have e2 : (fs.map fun f => RoadKit.slotOf Z f.1 f.2.1 f.2.2.1)[i]? = some (RoadKit.slotOf Z o n d) := by rw [List.getElem?_map, hi]; rfl
    rw [q] at e1
    obtain ⟨l1, q1⟩ := List.getElem?_eq_some_iff.mp e1
    obtain ⟨l2, q2⟩ := List.getElem?_eq_some_iff.mp e2
    exact e ((List.getElem_inj N).mp (q1.trans q2.symm))
/-- an array: its components -/
def Ar (Z : State) (h : Heap) (a : Addr) (ty : FieldType) (vs : List Value) : Prop := ∃ c : Cell, Arr Z h a c ty ∧ c.slots.toList = vs
/-- ... of references to objects of the class C -/
def ArR (Z : State) (h : Heap) (a : Addr) (C : String) (vs : List Value) : Prop := ∃ c : Cell, Arr Z h a c (.object C) ∧ c.slots.toList = vs ∧ Ovr Z c.cls C
variable {ty : FieldType} {vs : List Value}
theorem Ar.lt (A : Ar Z h a ty vs) : a < h.size := A.elim fun _ q => q.1.lt
theorem Ar.keep (A : Ar Z h a ty vs) (K : Keep h h' ws) (q : a ∉ ws) : Ar Z h' a ty vs := by obtain ⟨c, A, e⟩ := A; exact ⟨c, ⟨K.2.1 a c A.1 q, A.2⟩, e⟩
theorem Ar.ext (A : Ar Z h a ty vs) (E : Ext h h') : Ar Z h' a ty vs := by obtain ⟨c, A, e⟩ := A; exact ⟨c, A.ext E, e⟩
theorem ArR.lt (A : ArR Z h a C vs) : a < h.size := A.elim fun _ q => q.1.lt
theorem ArR.keep (A : ArR Z h a C vs) (K : Keep h h' ws) (q : a ∉ ws) : ArR Z h' a C vs := by obtain ⟨c, A, e⟩ := A; exact ⟨c, ⟨K.2.1 a c A.1 q, A.2⟩, e⟩
theorem ArR.ext (A : ArR Z h a C vs) (E : Ext h h') : ArR Z h' a C vs := by obtain ⟨c, A, e⟩ := A; exact ⟨c, A.ext E, e⟩
/-- a static's value; st: the address of its class's statics -/
def StA (Z : State) (h : Heap) (st : Addr) (C n d : String) (v : Value) : Prop := ∃ (cf i : Nat) (k : Class) (f : Field) (cell : Cell), Z.fieldFound? C n d = some (cf, k, i, f) ∧ f.isStatic = true ∧ k.init = .initialized ∧ k.statics = some st ∧ h[st]? = some cell ∧ cell.vm.isStatics = true ∧ cell.slots[f.slot]? = some v
theorem StA.sta {st : Addr} {C n d : String} {v : Value} (F : StA Z h st C n d v) : Sta Z h C n d v := by
  obtain ⟨cf, i, k, f, cell, h1, h2, h3, h4, r⟩ := F
  exact ⟨cf, i, k, f, st, cell, h1, h2, h3, h4, r⟩
theorem StA.of {C n d : String} {v : Value} (F : Sta Z h C n d v) : ∃ st, StA Z h st C n d v := by
  obtain ⟨cf, i, k, f, st, cell, r⟩ := F
  exact ⟨st, cf, i, k, f, cell, r⟩
theorem StA.lt {st : Addr} {C n d : String} {v : Value} (F : StA Z h st C n d v) : st < h.size := by
  obtain ⟨cf, i, k, f, cell, h1, h2, h3, h4, h5, r⟩ := F
  exact (Array.getElem?_eq_some_iff.mp h5).1
theorem StA.keep {st : Addr} {C n d : String} {v : Value} (F : StA Z h st C n d v) (K : Keep h h' ws) (q : st ∉ ws) : StA Z h' st C n d v := by
  obtain ⟨cf, i, k, f, cell, h1, h2, h3, h4, h5, r⟩ := F
  exact ⟨cf, i, k, f, cell, h1, h2, h3, h4, K.2.1 st cell h5 q, r⟩
theorem StA.ext {st : Addr} {C n d : String} {v : Value} (F : StA Z h st C n d v) (E : Ext h h') : StA Z h' st C n d v := by
  obtain ⟨cf, i, k, f, cell, h1, h2, h3, h4, h5, r⟩ := F
  exact ⟨cf, i, k, f, cell, h1, h2, h3, h4, E.2 _ _ h5, r⟩
theorem static_ref {Z : State} {C n d : String} {args : Array Value} {ty : FieldType} (q : (Cond.arrayOf (Term.static C n d) ty).value args Z none Z [] = some true) : ∃ a, (Term.static C n d).eval args Z none [] Z = some (.ref a) := by
  cases e : (Term.static C n d).eval args Z none [] Z with
  | none => simp [Cond.value, e] at q
  | some v =>
    cases v with
    | ref a => exact ⟨a, rfl⟩
    | _ => simp [Cond.value, e] at q
theorem nin1 (q : b ≠ a) : b ∉ [a] := ninS q nin0
theorem clamp_of {j : Int32} {i : Nat} (hj : j.toInt = i) : j.toNatClampNeg = i := by
  show j.toInt.toNat = i
  omega
theorem nneg_of {j : Int32} {i : Nat} (hj : j.toInt = i) : ¬ j < 0 := by
  rw [Int32.lt_iff_toInt_lt, hj]
  show ¬ ((i : Int) < 0)
  omega
theorem in_of {j : Int32} {i : Nat} {c : Cell} (hj : j.toInt = i) (hi : i < c.slots.toList.length) : ¬ (j < 0 ∨ c.slots.size ≤ j.toNatClampNeg) := by
  rw [clamp_of hj]
  rintro (q | q)
  · exact nneg_of hj q
  · rw [Array.length_toList] at hi; omega
theorem set_toList (c : Cell) (i : Nat) (v : Value) : (c.setSlot i v).slots.toList = c.slots.toList.set i v := by
  show (c.slots.setIfInBounds i v).toList = _
  rw [Array.toList_setIfInBounds]
theorem Ar.put {c : Cell} (A : Arr Z h a c ty) (e : c.slots.toList = vs) {j : Int32} {i : Nat} (hj : j.toInt = i) (W : Wr h h' a j.toNatClampNeg v) : Ar Z h' a ty (vs.set i v) := by
  refine ⟨_, A.same W, ?_⟩
  rw [clamp_of hj, set_toList, e]
theorem map_getI {l : List Int32} {i : Nat} (hi : i < l.length) : (l.map Value.int)[i]? = some (.int (l.getD i 0)) := by
  rw [List.getElem?_map, List.getElem?_eq_getElem hi, List.getD_eq_getElem?_getD, List.getElem?_eq_getElem hi]; rfl
theorem map_getJ {l : List Int64} {i : Nat} (hi : i < l.length) : (l.map Value.long)[i]? = some (.long (l.getD i 0)) := by
  rw [List.getElem?_map, List.getElem?_eq_getElem hi, List.getD_eq_getElem?_getD, List.getElem?_eq_getElem hi]; rfl
theorem map_setI (l : List Int32) (i : Nat) (x : Int32) : (l.map Value.int).set i (.int x) = (l.set i x).map Value.int := by rw [List.map_set]
theorem map_setJ (l : List Int64) (i : Nat) (x : Int64) : (l.map Value.long).set i (.long x) = (l.set i x).map Value.long := by rw [List.map_set]
theorem nat32 {n : Nat} (h : n < 2147483648) : n.toInt32.toInt = n := by
  show (Int32.ofNat n).toInt = n
  rw [Int32.toInt_ofNat_of_lt (by omega)]
theorem keep_of_same {s t : State} {L : List Loc} {k n : Nat} {ws : List Addr} (H : s.sameButNew t L k n) (hL : ∀ y ∈ L, y.base ∈ ws ∨ s.heap.size ≤ y.base) : Keep s.heap t.heap ws := by
  obtain ⟨-, h1, -, -, -, h5⟩ := H
  have lt : ∀ (x : Addr) (c : Cell), s.heap[x]? = some c → x < s.heap.size := fun x c q => (Array.getElem?_eq_some_iff.mp q).1
  refine ⟨h1, fun x c q r => ?_, fun x c q => ?_⟩
  · obtain ⟨c', e1, e2, e3, e4⟩ := h5 x c q
    have hs : c'.slots = c.slots := by
      refine Array.ext_getElem? fun i => e4 i fun hm => ?_
      rcases hL _ hm with z | z
      · exact r z
      · exact absurd (lt x c q) (Nat.not_lt.mpr z)
    rw [e1, e2, hs]
  · obtain ⟨c', e1, e2, e3, -⟩ := h5 x c q
    exact ⟨c', e1, by rw [e2], by rw [e2], e3⟩
end Facts
section Steps0
variable {W : Wk} {Z : State} {R : Room} {own nm : String} {code : ByteArray} {mx : Nat} {ret : Option FieldType} {wsx : List Addr} {hx0 : Heap} {Q : Option Value → Heap → Prop} {h : Heap} {k n pc pc' pc1 pc2 : Nat} {L L' : Array Slot} {S S' : List Value} {a0 : Array Value}
theorem Cx.x (C : Cx W Z R own code mx ret nm wsx hx0) : W.p.tables.exec = Jvm.exec := C.1
theorem Cx.z (C : Cx W Z R own code mx ret nm wsx hx0) : Z.Warmed39 W.s.vm := C.2.1
theorem Cx.o (C : Cx W Z R own code mx ret nm wsx hx0) : W.s.vm.findClass own = some W.m.cls := C.2.2.1
theorem Cx.b (C : Cx W Z R own code mx ret nm wsx hx0) {r : Except ClassFile.DecodeError (ClassFile.Instr × Nat)} (hd : decode code pc = r) : decode W.c.code pc = r := hb C.2.2.2.1 hd
theorem Cx.ml (C : Cx W Z R own code mx ret nm wsx hx0) : W.c.maxLocals = mx := C.2.2.2.2.1
theorem Cx.rt (C : Cx W Z R own code mx ret nm wsx hx0) : W.meth.sig.returnType = ret := C.2.2.2.2.2.1
theorem Cx.lk (C : Cx W Z R own code mx ret nm wsx hx0) : W.meth.locks = false := C.2.2.2.2.2.2.1
theorem Cx.nme (C : Cx W Z R own code mx ret nm wsx hx0) : W.meth.name = nm := C.2.2.2.2.2.2.2.1
theorem Cx.r (C : Cx W Z R own code mx ret nm wsx hx0) : W.R = R := C.2.2.2.2.2.2.2.2.1
theorem Cx.ws (C : Cx W Z R own code mx ret nm wsx hx0) : W.ws = wsx := C.2.2.2.2.2.2.2.2.2.1
theorem Cx.h0 (C : Cx W Z R own code mx ret nm wsx hx0) : W.s.heap = hx0 := C.2.2.2.2.2.2.2.2.2.2
theorem Cx.old (C : Cx W Z R own code mx ret nm wsx hx0) {a : Addr} (q : a ∈ wsx) : Pw W a := Or.inl (C.ws ▸ q)
theorem Cx.new (C : Cx W Z R own code mx ret nm wsx hx0) {a : Addr} (q : hx0.size ≤ a) : Pw W a := Or.inr (C.h0 ▸ q)
theorem Out.st {S S' : State} (f : ∀ t, Stp W S' t → Stp W S t) (g : Out W Q S') : Out W Q S := by
  obtain ⟨s2, o, q, r⟩ := g
  exact ⟨s2, o, f _ q, r⟩
theorem Go.st (f : ∀ T locs, Sta0 W T locs k n → T.heap = h → ∀ t, Stp W (T.setTop (mkF W.m pc' L' S')) t → Stp W (T.setTop (mkF W.m pc L S)) t) (g : Go W Q h k n pc' L' S') : Go W Q h k n pc L S := fun T hT => by
  obtain ⟨locs, X, e, N⟩ := hT
  exact Out.st (f T locs X e) (g T ⟨locs, X, e, N⟩)
theorem Go.same {k' n' : Nat} (g : Go W Q h k n pc L S) (e1 : k' = k) (e2 : n' = n) : Go W Q h k' n' pc L S := by subst e1 e2; exact g
theorem Go.more {k' n' : Nat} (g : Go W Q h k' n' pc L S) (e1 : k ≤ k') (e2 : n ≤ n') : Go W Q h k n pc L S := fun T hT => by
  obtain ⟨locs, X, e, N⟩ := hT
  exact g T ⟨locs, ⟨X.admits, X.cas, X.clock, X.frames, X.room, X.hears, X.method, X.code, X.here, X.tail, X.warmed, X.limits, X.bytes, X.same.mono e1 e2⟩, e, N⟩
theorem Go.cell (g : hx0.size ≤ h.size → Go W Q h k n pc L S) (C : Cx W Z R own code mx ret nm wsx hx0) : Go W Q h k n pc L S := fun T hT => by
  obtain ⟨locs, X, e, N⟩ := hT
  have q : W.s.heap.size ≤ T.heap.size := X.same.2.1
  rw [C.h0, e] at q
  exact g q T ⟨locs, X, e, N⟩

theorem g_iadd (C : Cx W Z R own code mx ret nm wsx hx0) {x y : Int32} (hd : decode code pc = .ok (.iadd, 1)) (hp : pc + 1 = pc') (g : Go W Q h k n pc' L (.int (x + y) :: S)) : Go W Q h k n pc L (.int y :: .int x :: S) := by
  subst hp
  exact g.st fun T locs X e t kk => XS.iadd (g := mkF W.m pc L (.int y :: .int x :: S)) X.here C.x rfl (C.b hd) rfl kk
theorem g_isub (C : Cx W Z R own code mx ret nm wsx hx0) {x y : Int32} (hd : decode code pc = .ok (.isub, 1)) (hp : pc + 1 = pc') (g : Go W Q h k n pc' L (.int (x - y) :: S)) : Go W Q h k n pc L (.int y :: .int x :: S) := by
  subst hp
  exact g.st fun T locs X e t kk => XS.isub (g := mkF W.m pc L (.int y :: .int x :: S)) X.here C.x rfl (C.b hd) rfl kk
theorem g_imul (C : Cx W Z R own code mx ret nm wsx hx0) {x y : Int32} (hd : decode code pc = .ok (.imul, 1)) (hp : pc + 1 = pc') (g : Go W Q h k n pc' L (.int (x * y) :: S)) : Go W Q h k n pc L (.int y :: .int x :: S) := by
  subst hp
  exact g.st fun T locs X e t kk => XS.imul (g := mkF W.m pc L (.int y :: .int x :: S)) X.here C.x rfl (C.b hd) rfl kk
theorem g_iand (C : Cx W Z R own code mx ret nm wsx hx0) {x y : Int32} (hd : decode code pc = .ok (.iand, 1)) (hp : pc + 1 = pc') (g : Go W Q h k n pc' L (.int (x &&& y) :: S)) : Go W Q h k n pc L (.int y :: .int x :: S) := by
  subst hp
  exact g.st fun T locs X e t kk => XS.iand (g := mkF W.m pc L (.int y :: .int x :: S)) X.here C.x rfl (C.b hd) rfl kk
theorem g_ior (C : Cx W Z R own code mx ret nm wsx hx0) {x y : Int32} (hd : decode code pc = .ok (.ior, 1)) (hp : pc + 1 = pc') (g : Go W Q h k n pc' L (.int (x ||| y) :: S)) : Go W Q h k n pc L (.int y :: .int x :: S) := by
  subst hp
  exact g.st fun T locs X e t kk => XS.ior (g := mkF W.m pc L (.int y :: .int x :: S)) X.here C.x rfl (C.b hd) rfl kk
theorem g_ixor (C : Cx W Z R own code mx ret nm wsx hx0) {x y : Int32} (hd : decode code pc = .ok (.ixor, 1)) (hp : pc + 1 = pc') (g : Go W Q h k n pc' L (.int (x ^^^ y) :: S)) : Go W Q h k n pc L (.int y :: .int x :: S) := by
  subst hp
  exact g.st fun T locs X e t kk => XS.ixor (g := mkF W.m pc L (.int y :: .int x :: S)) X.here C.x rfl (C.b hd) rfl kk
theorem g_ishl (C : Cx W Z R own code mx ret nm wsx hx0) {x y : Int32} (hd : decode code pc = .ok (.ishl, 1)) (hp : pc + 1 = pc') (g : Go W Q h k n pc' L (.int (x <<< (y &&& 31)) :: S)) : Go W Q h k n pc L (.int y :: .int x :: S) := by
  subst hp
  exact g.st fun T locs X e t kk => XS.ishl (g := mkF W.m pc L (.int y :: .int x :: S)) X.here C.x rfl (C.b hd) rfl kk
theorem g_ishr (C : Cx W Z R own code mx ret nm wsx hx0) {x y : Int32} (hd : decode code pc = .ok (.ishr, 1)) (hp : pc + 1 = pc') (g : Go W Q h k n pc' L (.int (x >>> (y &&& 31)) :: S)) : Go W Q h k n pc L (.int y :: .int x :: S) := by
  subst hp
  exact g.st fun T locs X e t kk => XS.ishr (g := mkF W.m pc L (.int y :: .int x :: S)) X.here C.x rfl (C.b hd) rfl kk
theorem g_iushr (C : Cx W Z R own code mx ret nm wsx hx0) {x y : Int32} (hd : decode code pc = .ok (.iushr, 1)) (hp : pc + 1 = pc') (g : Go W Q h k n pc' L (.int ((x.toUInt32 >>> (y &&& 31).toUInt32).toInt32) :: S)) : Go W Q h k n pc L (.int y :: .int x :: S) := by
  subst hp
  exact g.st fun T locs X e t kk => XS.iushr (g := mkF W.m pc L (.int y :: .int x :: S)) X.here C.x rfl (C.b hd) rfl kk
theorem g_ladd (C : Cx W Z R own code mx ret nm wsx hx0) {x y : Int64} (hd : decode code pc = .ok (.ladd, 1)) (hp : pc + 1 = pc') (g : Go W Q h k n pc' L (.long (x + y) :: S)) : Go W Q h k n pc L (.long y :: .long x :: S) := by
  subst hp
  exact g.st fun T locs X e t kk => XS.ladd (g := mkF W.m pc L (.long y :: .long x :: S)) X.here C.x rfl (C.b hd) rfl kk
theorem g_lsub (C : Cx W Z R own code mx ret nm wsx hx0) {x y : Int64} (hd : decode code pc = .ok (.lsub, 1)) (hp : pc + 1 = pc') (g : Go W Q h k n pc' L (.long (x - y) :: S)) : Go W Q h k n pc L (.long y :: .long x :: S) := by
  subst hp
  exact g.st fun T locs X e t kk => XS.lsub (g := mkF W.m pc L (.long y :: .long x :: S)) X.here C.x rfl (C.b hd) rfl kk
theorem g_lmul (C : Cx W Z R own code mx ret nm wsx hx0) {x y : Int64} (hd : decode code pc = .ok (.lmul, 1)) (hp : pc + 1 = pc') (g : Go W Q h k n pc' L (.long (x * y) :: S)) : Go W Q h k n pc L (.long y :: .long x :: S) := by
  subst hp
  exact g.st fun T locs X e t kk => XS.lmul (g := mkF W.m pc L (.long y :: .long x :: S)) X.here C.x rfl (C.b hd) rfl kk
theorem g_land (C : Cx W Z R own code mx ret nm wsx hx0) {x y : Int64} (hd : decode code pc = .ok (.land, 1)) (hp : pc + 1 = pc') (g : Go W Q h k n pc' L (.long (x &&& y) :: S)) : Go W Q h k n pc L (.long y :: .long x :: S) := by
  subst hp
  exact g.st fun T locs X e t kk => XS.land (g := mkF W.m pc L (.long y :: .long x :: S)) X.here C.x rfl (C.b hd) rfl kk
theorem g_lor (C : Cx W Z R own code mx ret nm wsx hx0) {x y : Int64} (hd : decode code pc = .ok (.lor, 1)) (hp : pc + 1 = pc') (g : Go W Q h k n pc' L (.long (x ||| y) :: S)) : Go W Q h k n pc L (.long y :: .long x :: S) := by
  subst hp
  exact g.st fun T locs X e t kk => XS.lor (g := mkF W.m pc L (.long y :: .long x :: S)) X.here C.x rfl (C.b hd) rfl kk
theorem g_lxor (C : Cx W Z R own code mx ret nm wsx hx0) {x y : Int64} (hd : decode code pc = .ok (.lxor, 1)) (hp : pc + 1 = pc') (g : Go W Q h k n pc' L (.long (x ^^^ y) :: S)) : Go W Q h k n pc L (.long y :: .long x :: S) := by
  subst hp
  exact g.st fun T locs X e t kk => XS.lxor (g := mkF W.m pc L (.long y :: .long x :: S)) X.here C.x rfl (C.b hd) rfl kk
theorem g_lshl (C : Cx W Z R own code mx ret nm wsx hx0) {x : Int64} {y : Int32} (hd : decode code pc = .ok (.lshl, 1)) (hp : pc + 1 = pc') (g : Go W Q h k n pc' L (.long (x <<< (y &&& 0x3f).toInt64) :: S)) : Go W Q h k n pc L (.int y :: .long x :: S) := by
  subst hp
  exact g.st fun T locs X e t kk => XS.lshl (g := mkF W.m pc L (.int y :: .long x :: S)) X.here C.x rfl (C.b hd) rfl kk
theorem g_lshr (C : Cx W Z R own code mx ret nm wsx hx0) {x : Int64} {y : Int32} (hd : decode code pc = .ok (.lshr, 1)) (hp : pc + 1 = pc') (g : Go W Q h k n pc' L (.long (x >>> (y &&& 0x3f).toInt64) :: S)) : Go W Q h k n pc L (.int y :: .long x :: S) := by
  subst hp
  exact g.st fun T locs X e t kk => XS.lshr (g := mkF W.m pc L (.int y :: .long x :: S)) X.here C.x rfl (C.b hd) rfl kk
theorem g_lushr (C : Cx W Z R own code mx ret nm wsx hx0) {x : Int64} {y : Int32} (hd : decode code pc = .ok (.lushr, 1)) (hp : pc + 1 = pc') (g : Go W Q h k n pc' L (.long ((x.toUInt64 >>> (y &&& 0x3f).toInt64.toUInt64).toInt64) :: S)) : Go W Q h k n pc L (.int y :: .long x :: S) := by
  subst hp
  exact g.st fun T locs X e t kk => XS.lushr (g := mkF W.m pc L (.int y :: .long x :: S)) X.here C.x rfl (C.b hd) rfl kk
theorem g_idiv (C : Cx W Z R own code mx ret nm wsx hx0) {x y : Int32} (hd : decode code pc = .ok (.idiv, 1)) (hp : pc + 1 = pc') (hy : y ≠ 0) (g : Go W Q h k n pc' L (.int (x / y) :: S)) : Go W Q h k n pc L (.int y :: .int x :: S) := by
  subst hp
  exact g.st fun T locs X e t kk => XS.idiv (g := mkF W.m pc L (.int y :: .int x :: S)) X.here C.x rfl (C.b hd) rfl hy kk
theorem g_irem (C : Cx W Z R own code mx ret nm wsx hx0) {x y : Int32} (hd : decode code pc = .ok (.irem, 1)) (hp : pc + 1 = pc') (hy : y ≠ 0) (g : Go W Q h k n pc' L (.int (x % y) :: S)) : Go W Q h k n pc L (.int y :: .int x :: S) := by
  subst hp
  exact g.st fun T locs X e t kk => iremM (g := mkF W.m pc L (.int y :: .int x :: S)) X C.x rfl (C.b hd) rfl hy kk
theorem g_ldiv (C : Cx W Z R own code mx ret nm wsx hx0) {x y : Int64} (hd : decode code pc = .ok (.ldiv, 1)) (hp : pc + 1 = pc') (hy : y ≠ 0) (g : Go W Q h k n pc' L (.long (x / y) :: S)) : Go W Q h k n pc L (.long y :: .long x :: S) := by
  subst hp
  exact g.st fun T locs X e t kk => XS.ldiv (g := mkF W.m pc L (.long y :: .long x :: S)) X.here C.x rfl (C.b hd) rfl hy kk
theorem g_lrem (C : Cx W Z R own code mx ret nm wsx hx0) {x y : Int64} (hd : decode code pc = .ok (.lrem, 1)) (hp : pc + 1 = pc') (hy : y ≠ 0) (g : Go W Q h k n pc' L (.long (x % y) :: S)) : Go W Q h k n pc L (.long y :: .long x :: S) := by
  subst hp
  rw [← lrem_mod] at g
  exact g.st fun T locs X e t kk => XS.lrem (g := mkF W.m pc L (.long y :: .long x :: S)) X.here C.x rfl (C.b hd) rfl hy kk
theorem g_ineg (C : Cx W Z R own code mx ret nm wsx hx0) {x : Int32} (hd : decode code pc = .ok (.ineg, 1)) (hp : pc + 1 = pc') (g : Go W Q h k n pc' L (.int (-x) :: S)) : Go W Q h k n pc L (.int x :: S) := by
  subst hp
  exact g.st fun T locs X e t kk => XS.ineg (g := mkF W.m pc L (.int x :: S)) X.here C.x rfl (C.b hd) rfl kk
theorem g_lneg (C : Cx W Z R own code mx ret nm wsx hx0) {x : Int64} (hd : decode code pc = .ok (.lneg, 1)) (hp : pc + 1 = pc') (g : Go W Q h k n pc' L (.long (-x) :: S)) : Go W Q h k n pc L (.long x :: S) := by
  subst hp
  exact g.st fun T locs X e t kk => XS.lneg (g := mkF W.m pc L (.long x :: S)) X.here C.x rfl (C.b hd) rfl kk
theorem g_i2l (C : Cx W Z R own code mx ret nm wsx hx0) {x : Int32} (hd : decode code pc = .ok (.i2l, 1)) (hp : pc + 1 = pc') (g : Go W Q h k n pc' L (.long (x.toInt64) :: S)) : Go W Q h k n pc L (.int x :: S) := by
  subst hp
  exact g.st fun T locs X e t kk => XS.i2l (g := mkF W.m pc L (.int x :: S)) X.here C.x rfl (C.b hd) rfl kk
theorem g_l2i (C : Cx W Z R own code mx ret nm wsx hx0) {x : Int64} (hd : decode code pc = .ok (.l2i, 1)) (hp : pc + 1 = pc') (g : Go W Q h k n pc' L (.int (x.toInt32) :: S)) : Go W Q h k n pc L (.long x :: S) := by
  subst hp
  exact g.st fun T locs X e t kk => XS.l2i (g := mkF W.m pc L (.long x :: S)) X.here C.x rfl (C.b hd) rfl kk
theorem g_i2b (C : Cx W Z R own code mx ret nm wsx hx0) {x : Int32} (hd : decode code pc = .ok (.i2b, 1)) (hp : pc + 1 = pc') (g : Go W Q h k n pc' L (.int (x.toInt8.toInt32) :: S)) : Go W Q h k n pc L (.int x :: S) := by
  subst hp
  exact g.st fun T locs X e t kk => XS.i2b (g := mkF W.m pc L (.int x :: S)) X.here C.x rfl (C.b hd) rfl kk
theorem g_i2c (C : Cx W Z R own code mx ret nm wsx hx0) {x : Int32} (hd : decode code pc = .ok (.i2c, 1)) (hp : pc + 1 = pc') (g : Go W Q h k n pc' L (.int (x.toUInt32.toUInt16.toUInt32.toInt32) :: S)) : Go W Q h k n pc L (.int x :: S) := by
  subst hp
  exact g.st fun T locs X e t kk => XS.i2c (g := mkF W.m pc L (.int x :: S)) X.here C.x rfl (C.b hd) rfl kk
theorem g_i2s (C : Cx W Z R own code mx ret nm wsx hx0) {x : Int32} (hd : decode code pc = .ok (.i2s, 1)) (hp : pc + 1 = pc') (g : Go W Q h k n pc' L (.int (x.toInt16.toInt32) :: S)) : Go W Q h k n pc L (.int x :: S) := by
  subst hp
  exact g.st fun T locs X e t kk => XS.i2s (g := mkF W.m pc L (.int x :: S)) X.here C.x rfl (C.b hd) rfl kk
theorem g_iconst (C : Cx W Z R own code mx ret nm wsx hx0) {i : Int} {z : Int32} (hd : decode code pc = .ok (.iconst i, 1)) (hp : pc + 1 = pc') (hz : Int32.ofInt i = z) (g : Go W Q h k n pc' L (.int z :: S)) : Go W Q h k n pc L S := by
  subst hp hz
  exact g.st fun T locs X e t kk => XS.iconst (g := mkF W.m pc L S) X.here C.x rfl (C.b hd) kk
theorem g_bipush (C : Cx W Z R own code mx ret nm wsx hx0) {i : Int} {z : Int32} (hd : decode code pc = .ok (.bipush i, 2)) (hp : pc + 2 = pc') (hz : (Int8.ofInt i).toInt32 = z) (g : Go W Q h k n pc' L (.int z :: S)) : Go W Q h k n pc L S := by
  subst hp hz
  exact g.st fun T locs X e t kk => XS.bipush (g := mkF W.m pc L S) X.here C.x rfl (C.b hd) kk
theorem g_sipush (C : Cx W Z R own code mx ret nm wsx hx0) {i : Int} {z : Int32} (hd : decode code pc = .ok (.sipush i, 3)) (hp : pc + 3 = pc') (hz : (Int16.ofInt i).toInt32 = z) (g : Go W Q h k n pc' L (.int z :: S)) : Go W Q h k n pc L S := by
  subst hp hz
  exact g.st fun T locs X e t kk => XS.sipush (g := mkF W.m pc L S) X.here C.x rfl (C.b hd) kk
theorem g_lconst (C : Cx W Z R own code mx ret nm wsx hx0) {i : Fin 2} {z : Int64} (hd : decode code pc = .ok (.lconst i, 1)) (hp : pc + 1 = pc') (hz : Int64.ofNat i = z) (g : Go W Q h k n pc' L (.long z :: S)) : Go W Q h k n pc L S := by
  subst hp hz
  exact g.st fun T locs X e t kk => XS.lconst (g := mkF W.m pc L S) X.here C.x rfl (C.b hd) kk
theorem g_aconst_null (C : Cx W Z R own code mx ret nm wsx hx0)  (hd : decode code pc = .ok (.aconst_null, 1)) (hp : pc + 1 = pc') (g : Go W Q h k n pc' L (.null :: S)) : Go W Q h k n pc L (S) := by
  subst hp
  exact g.st fun T locs X e t kk => XS.aconstNull (g := mkF W.m pc L (S)) X.here C.x rfl (C.b hd) kk
theorem g_dup (C : Cx W Z R own code mx ret nm wsx hx0) {x : Value} (hd : decode code pc = .ok (.dup, 1)) (hp : pc + 1 = pc') (hc : x.category = 1) (g : Go W Q h k n pc' L (x :: x :: S)) : Go W Q h k n pc L (x :: S) := by
  subst hp
  exact g.st fun T locs X e t kk => XS.dup (g := mkF W.m pc L (x :: S)) X.here C.x rfl (C.b hd) rfl hc kk
theorem g_dup_x1 (C : Cx W Z R own code mx ret nm wsx hx0) {x y : Value} (hd : decode code pc = .ok (.dup_x1, 1)) (hp : pc + 1 = pc') (hc : x.category = 1) (hc' : y.category = 1) (g : Go W Q h k n pc' L (x :: y :: x :: S)) : Go W Q h k n pc L (x :: y :: S) := by
  subst hp
  exact g.st fun T locs X e t kk => XS.dupX1 (g := mkF W.m pc L (x :: y :: S)) X.here C.x rfl (C.b hd) rfl hc hc' kk
theorem dupX2s {tb : Tables} [Ours tb] {e : Env} {below : List Frame} {T target : State} {m : MethodId} {c : Code} {g : JFrame} (h : At T m c below) (hx : tb.exec = Jvm.exec) (hg : g.method = m) {x y z : Value} {rest : List Value} (hd : decode c.code g.pc = .ok (.dup_x2, 1)) (hs : g.stack = x :: y :: z :: rest) (hc : x.category = 1) (hc' : y.category = 1) (hc'' : z.category = 1)
    (hr : Steps tb e below (T.setTop { g with pc := g.pc + 1, stack := x :: y :: z :: x :: rest }) target) : Steps tb e below (T.setTop g) target := by
  subst hg
  jvm_step h [h.top, hx, hd, hs, hc, hc', hc'']
  exact hr
theorem g_dup_x2 (C : Cx W Z R own code mx ret nm wsx hx0) {x y z : Value} (hd : decode code pc = .ok (.dup_x2, 1)) (hp : pc + 1 = pc') (hc : x.category = 1) (hc' : y.category = 1) (hc'' : z.category = 1) (g : Go W Q h k n pc' L (x :: y :: z :: x :: S)) : Go W Q h k n pc L (x :: y :: z :: S) := by
  subst hp
  exact g.st fun T locs X e t kk => dupX2s (g := mkF W.m pc L (x :: y :: z :: S)) X.here C.x rfl (C.b hd) rfl hc hc' hc'' kk
theorem g_dup2 (C : Cx W Z R own code mx ret nm wsx hx0) {x y : Value} (hd : decode code pc = .ok (.dup2, 1)) (hp : pc + 1 = pc') (hc : x.category = 1) (hc' : y.category = 1) (g : Go W Q h k n pc' L (x :: y :: x :: y :: S)) : Go W Q h k n pc L (x :: y :: S) := by
  subst hp
  exact g.st fun T locs X e t kk => XT.dup2 (g := mkF W.m pc L (x :: y :: S)) X.here C.x rfl (C.b hd) rfl hc hc' kk
theorem g_dup2L (C : Cx W Z R own code mx ret nm wsx hx0) {x : Int64} (hd : decode code pc = .ok (.dup2, 1)) (hp : pc + 1 = pc') (g : Go W Q h k n pc' L (.long x :: .long x :: S)) : Go W Q h k n pc L (.long x :: S) := by
  subst hp
  exact g.st fun T locs X e t kk => XT.dup2L (g := mkF W.m pc L (.long x :: S)) X.here C.x rfl (C.b hd) rfl kk
theorem g_pop (C : Cx W Z R own code mx ret nm wsx hx0) {x : Value} (hd : decode code pc = .ok (.pop, 1)) (hp : pc + 1 = pc') (hc : x.category = 1) (g : Go W Q h k n pc' L (S)) : Go W Q h k n pc L (x :: S) := by
  subst hp
  exact g.st fun T locs X e t kk => XS.pop (g := mkF W.m pc L (x :: S)) X.here C.x rfl (C.b hd) rfl hc kk
theorem g_iload (C : Cx W Z R own code mx ret nm wsx hx0) {i : Nat} {x : Int32} (hd : decode code pc = .ok (.iload i, 2)) (hp : pc + 2 = pc') (hl : L[i]? = some (.val (.int x))) (g : Go W Q h k n pc' L (.int x :: S)) : Go W Q h k n pc L (S) := by
  subst hp
  exact g.st fun T locs X e t kk => XS.iload (g := mkF W.m pc L (S)) X.here C.x rfl (C.b hd) hl kk
theorem g_iloadN (C : Cx W Z R own code mx ret nm wsx hx0) {i : Fin 4} {x : Int32} (hd : decode code pc = .ok (.iload_n i, 1)) (hp : pc + 1 = pc') (hl : L[i.val]? = some (.val (.int x))) (g : Go W Q h k n pc' L (.int x :: S)) : Go W Q h k n pc L (S) := by
  subst hp
  exact g.st fun T locs X e t kk => XS.iloadN (g := mkF W.m pc L (S)) X.here C.x rfl (C.b hd) hl kk
theorem g_lload (C : Cx W Z R own code mx ret nm wsx hx0) {i : Nat} {x : Int64} (hd : decode code pc = .ok (.lload i, 2)) (hp : pc + 2 = pc') (hl : L[i]? = some (.val (.long x))) (g : Go W Q h k n pc' L (.long x :: S)) : Go W Q h k n pc L (S) := by
  subst hp
  exact g.st fun T locs X e t kk => XS.lload (g := mkF W.m pc L (S)) X.here C.x rfl (C.b hd) hl kk
theorem g_lloadN (C : Cx W Z R own code mx ret nm wsx hx0) {i : Fin 4} {x : Int64} (hd : decode code pc = .ok (.lload_n i, 1)) (hp : pc + 1 = pc') (hl : L[i.val]? = some (.val (.long x))) (g : Go W Q h k n pc' L (.long x :: S)) : Go W Q h k n pc L (S) := by
  subst hp
  exact g.st fun T locs X e t kk => XS.lloadN (g := mkF W.m pc L (S)) X.here C.x rfl (C.b hd) hl kk
theorem g_aload (C : Cx W Z R own code mx ret nm wsx hx0) {i : Nat} {x : Value} (hd : decode code pc = .ok (.aload i, 2)) (hp : pc + 2 = pc') (hl : L[i]? = some (.val x)) (hv : x.isRef = true) (g : Go W Q h k n pc' L (x :: S)) : Go W Q h k n pc L (S) := by
  subst hp
  exact g.st fun T locs X e t kk => XS.aload (g := mkF W.m pc L (S)) X.here C.x rfl (C.b hd) hl hv kk
theorem g_istore (C : Cx W Z R own code mx ret nm wsx hx0) {i : Nat} {x : Int32} (hd : decode code pc = .ok (.istore i, 2)) (hp : pc + 2 = pc') (hl : storeLocals L i (.int x) = some L') (g : Go W Q h k n pc' L' (S)) : Go W Q h k n pc L (.int x :: S) := by
  subst hp
  exact g.st fun T locs X e t kk => XS.istore (g := mkF W.m pc L (.int x :: S)) X.here C.x rfl (C.b hd) rfl hl kk
theorem g_lstore (C : Cx W Z R own code mx ret nm wsx hx0) {i : Nat} {x : Int64} (hd : decode code pc = .ok (.lstore i, 2)) (hp : pc + 2 = pc') (hl : storeLocals L i (.long x) = some L') (g : Go W Q h k n pc' L' (S)) : Go W Q h k n pc L (.long x :: S) := by
  subst hp
  exact g.st fun T locs X e t kk => XS.lstore (g := mkF W.m pc L (.long x :: S)) X.here C.x rfl (C.b hd) rfl hl kk
theorem g_astore (C : Cx W Z R own code mx ret nm wsx hx0) {i : Nat} {x : Value} (hd : decode code pc = .ok (.astore i, 2)) (hp : pc + 2 = pc') (hv : x.isRef = true) (hl : storeLocals L i x = some L') (g : Go W Q h k n pc' L' (S)) : Go W Q h k n pc L (x :: S) := by
  subst hp
  exact g.st fun T locs X e t kk => XS.astore (g := mkF W.m pc L (x :: S)) X.here C.x rfl (C.b hd) rfl hv hl kk
theorem g_aloadN (C : Cx W Z R own code mx ret nm wsx hx0) {i : Fin 4} {x : Value} (hd : decode code pc = .ok (.aload_n i, 1)) (hp : pc + 1 = pc') (hl : L[i.val]? = some (.val x)) (hv : x.isRef = true) (g : Go W Q h k n pc' L (x :: S)) : Go W Q h k n pc L (S) := by
  subst hp
  exact g.st fun T locs X e t kk => XS.aloadN (g := mkF W.m pc L (S)) X.here C.x rfl (C.b hd) hl hv kk
theorem g_istoreN (C : Cx W Z R own code mx ret nm wsx hx0) {i : Fin 4} {x : Int32} (hd : decode code pc = .ok (.istore_n i, 1)) (hp : pc + 1 = pc') (hl : storeLocals L i.val (.int x) = some L') (g : Go W Q h k n pc' L' (S)) : Go W Q h k n pc L (.int x :: S) := by
  subst hp
  exact g.st fun T locs X e t kk => XS.istoreN (g := mkF W.m pc L (.int x :: S)) X.here C.x rfl (C.b hd) rfl hl kk
theorem g_lstoreN (C : Cx W Z R own code mx ret nm wsx hx0) {i : Fin 4} {x : Int64} (hd : decode code pc = .ok (.lstore_n i, 1)) (hp : pc + 1 = pc') (hl : storeLocals L i.val (.long x) = some L') (g : Go W Q h k n pc' L' (S)) : Go W Q h k n pc L (.long x :: S) := by
  subst hp
  exact g.st fun T locs X e t kk => XS.lstoreN (g := mkF W.m pc L (.long x :: S)) X.here C.x rfl (C.b hd) rfl hl kk
theorem g_astoreN (C : Cx W Z R own code mx ret nm wsx hx0) {i : Fin 4} {x : Value} (hd : decode code pc = .ok (.astore_n i, 1)) (hp : pc + 1 = pc') (hv : x.isRef = true) (hl : storeLocals L i.val x = some L') (g : Go W Q h k n pc' L' (S)) : Go W Q h k n pc L (x :: S) := by
  subst hp
  exact g.st fun T locs X e t kk => XS.astoreN (g := mkF W.m pc L (x :: S)) X.here C.x rfl (C.b hd) rfl hv hl kk
theorem g_iinc (C : Cx W Z R own code mx ret nm wsx hx0) {i : Nat} {cst : Int} {x z : Int32} (hd : decode code pc = .ok (.iinc i cst, 3)) (hp : pc + 3 = pc') (hl : L[i]? = some (.val (.int x))) (hz : x + Int32.ofInt cst = z) (hl' : storeLocals L i (.int z) = some L') (g : Go W Q h k n pc' L' (S)) : Go W Q h k n pc L (S) := by
  subst hp
  exact g.st fun T locs X e t kk => XS.iinc (g := mkF W.m pc L (S)) X.here C.x rfl (C.b hd) hl (hz ▸ hl') kk
theorem g_goto (C : Cx W Z R own code mx ret nm wsx hx0) {o : Int} (hd : decode code pc = .ok (.goto o, 3)) (ho : 0 ≤ (pc : Int) + o) (hp : ((pc : Int) + o).toNat = pc') (g : Go W Q h k n pc' L S) : Go W Q h k n pc L S :=
  g.st fun T locs X e t kk => XS.goto (g := mkF W.m pc L S) X.here C.x rfl rfl (C.b hd) ho hp kk
theorem g_ldcI (C : Cx W Z R own code mx ret nm wsx hx0) {i : Nat} {z : Int32} (hd : decode code pc = .ok (.ldc i, 2)) (hp : pc + 2 = pc') (w : (Jvm.Cond.constant own i z).before a0 Z = true) (g : Go W Q h k n pc' L (.int z :: S)) : Go W Q h k n pc L S := by
  subst hp
  exact g.st fun T locs X e t kk => X.ldcInt C.x C.o (mvT C.z w) (g := mkF W.m pc L S) rfl (C.b hd) t kk
theorem g_ldcwI (C : Cx W Z R own code mx ret nm wsx hx0) {i : Nat} {z : Int32} (hd : decode code pc = .ok (.ldc_w i, 3)) (hp : pc + 3 = pc') (w : (Jvm.Cond.constant own i z).before a0 Z = true) (g : Go W Q h k n pc' L (.int z :: S)) : Go W Q h k n pc L S := by
  subst hp
  exact g.st fun T locs X e t kk => X.ldcwInt C.x C.o (mvT C.z w) (g := mkF W.m pc L S) rfl (C.b hd) t kk
theorem g_ldc2L (C : Cx W Z R own code mx ret nm wsx hx0) {i : Nat} {z : Int64} (hd : decode code pc = .ok (.ldc2_w i, 3)) (hp : pc + 3 = pc') (w : (Jvm.Cond.constantLong own i z).before a0 Z = true) (g : Go W Q h k n pc' L (.long z :: S)) : Go W Q h k n pc L S := by
  subst hp
  exact g.st fun T locs X e t kk => X.ldc2Long C.x C.o (mvT C.z w) (g := mkF W.m pc L S) rfl (C.b hd) t kk
theorem g_ldcF (C : Cx W Z R own code mx ret nm wsx hx0) {i : Nat} {z : UInt32} (hd : decode code pc = .ok (.ldc i, 2)) (hp : pc + 2 = pc') (w : (Jvm.Cond.constantFloat own i z).before a0 Z = true) (g : Go W Q h k n pc' L (.float z :: S)) : Go W Q h k n pc L S := by
  subst hp
  obtain ⟨kk, cf, hk, hcf, hcp⟩ := Cond.constantFloat_spec C.o (mvT (args := #[]) C.z w)
  exact g.st fun T locs X e t kt => X.ldcFloat C.x hk hcf hcp (g := mkF W.m pc L S) rfl (C.b hd) t kt
/-- what a branch asks of two integers -/
def icp : ClassFile.Cond → Int → Int → Prop
  | .eq, x, y => x = y
  | .ne, x, y => ¬ x = y
  | .lt, x, y => x < y
  | .ge, x, y => y ≤ x
  | .gt, x, y => y < x
  | .le, x, y => x ≤ y
instance instIcp : (cd : ClassFile.Cond) → (x y : Int) → Decidable (icp cd x y)
  | .eq, x, y => inferInstanceAs (Decidable (x = y))
  | .ne, x, y => inferInstanceAs (Decidable (¬ x = y))
  | .lt, x, y => inferInstanceAs (Decidable (x < y))
  | .ge, x, y => inferInstanceAs (Decidable (y ≤ x))
  | .gt, x, y => inferInstanceAs (Decidable (y < x))
  | .le, x, y => inferInstanceAs (Decidable (x ≤ y))
theorem icp_eq (cd : ClassFile.Cond) (x y : Int32) : if_icmp.holds cd x y = decide (icp cd x.toInt y.toInt) := by
  rw [Bool.eq_iff_iff, decide_eq_true_iff]
  cases cd <;> simp [if_icmp.holds, icp, Int32.lt_iff_toInt_lt, Int32.le_iff_toInt_le, Int32.toInt_inj]
theorem icp_long (cd : ClassFile.Cond) (x y : Int64) : ifCond.holds cd (lcmpW x y) = decide (icp cd x.toInt y.toInt) := by
  rw [if0, icp_eq, Bool.eq_iff_iff, decide_eq_true_iff, decide_eq_true_iff]
  have c := c_lcmp x y
  have z : (0 : Int32).toInt = 0 := rfl
  rw [z]
  rcases Int.lt_trichotomy x.toInt y.toInt with q | q | q
  · rw [c.1 q]; cases cd <;> simp only [icp] <;> omega
  · rw [c.2.1 q]; cases cd <;> simp only [icp] <;> first | omega | simp [q]
  · rw [c.2.2 q]; cases cd <;> simp only [icp] <;> omega

theorem g_icmpY (C : Cx W Z R own code mx ret nm wsx hx0) {cd : ClassFile.Cond} {o : Int} {x y : Int32} {xi yi : Int} (hd : decode code pc = .ok (.if_icmp cd o, 3)) (ho : 0 ≤ (pc : Int) + o) (hp1 : ((pc : Int) + o).toNat = pc1) (hx : x.toInt = xi) (hy : y.toInt = yi) (q : icp cd xi yi) (g : Go W Q h k n pc1 L S) : Go W Q h k n pc L (.int y :: .int x :: S) := by
  subst hx hy
  exact g.st fun T locs X e t kk => XS.icmpYes (g := mkF W.m pc L (.int y :: .int x :: S)) X.here C.x rfl rfl (C.b hd) rfl ((icp_eq cd x y).trans (decide_eq_true q)) ho hp1 kk
theorem g_icmpN (C : Cx W Z R own code mx ret nm wsx hx0) {cd : ClassFile.Cond} {o : Int} {x y : Int32} {xi yi : Int} (hd : decode code pc = .ok (.if_icmp cd o, 3)) (hp2 : pc + 3 = pc2) (hx : x.toInt = xi) (hy : y.toInt = yi) (q : ¬ (icp cd xi yi)) (g : Go W Q h k n pc2 L S) : Go W Q h k n pc L (.int y :: .int x :: S) := by
  subst hx hy hp2
  exact g.st fun T locs X e t kk => XS.icmpNo (g := mkF W.m pc L (.int y :: .int x :: S)) X.here C.x rfl (C.b hd) rfl ((icp_eq cd x y).trans (decide_eq_false q)) kk
theorem g_icmp (C : Cx W Z R own code mx ret nm wsx hx0) {cd : ClassFile.Cond} {o : Int} {x y : Int32} {xi yi : Int} (hd : decode code pc = .ok (.if_icmp cd o, 3)) (ho : 0 ≤ (pc : Int) + o) (hp1 : ((pc : Int) + o).toNat = pc1) (hp2 : pc + 3 = pc2) (hx : x.toInt = xi) (hy : y.toInt = yi) (g1 : icp cd xi yi → Go W Q h k n pc1 L S) (g2 : ¬ (icp cd xi yi) → Go W Q h k n pc2 L S) : Go W Q h k n pc L (.int y :: .int x :: S) := by
  by_cases q : icp cd xi yi
  · exact g_icmpY C hd ho hp1 hx hy q (g1 q)
  · exact g_icmpN C hd hp2 hx hy q (g2 q)
theorem g_ifY (C : Cx W Z R own code mx ret nm wsx hx0) {cd : ClassFile.Cond} {o : Int} {x : Int32} {xi : Int} (hd : decode code pc = .ok (.ifCond cd o, 3)) (ho : 0 ≤ (pc : Int) + o) (hp1 : ((pc : Int) + o).toNat = pc1) (hx : x.toInt = xi) (q : icp cd xi 0) (g : Go W Q h k n pc1 L S) : Go W Q h k n pc L (.int x :: S) := by
  subst hx
  exact g.st fun T locs X e t kk => XS.ifYes (g := mkF W.m pc L (.int x :: S)) X.here C.x rfl rfl (C.b hd) rfl ((if0 cd x).trans ((icp_eq cd x 0).trans (decide_eq_true q))) ho hp1 kk
theorem g_ifN (C : Cx W Z R own code mx ret nm wsx hx0) {cd : ClassFile.Cond} {o : Int} {x : Int32} {xi : Int} (hd : decode code pc = .ok (.ifCond cd o, 3)) (hp2 : pc + 3 = pc2) (hx : x.toInt = xi) (q : ¬ (icp cd xi 0)) (g : Go W Q h k n pc2 L S) : Go W Q h k n pc L (.int x :: S) := by
  subst hx hp2
  exact g.st fun T locs X e t kk => XS.ifNo (g := mkF W.m pc L (.int x :: S)) X.here C.x rfl (C.b hd) rfl ((if0 cd x).trans ((icp_eq cd x 0).trans (decide_eq_false q))) kk
theorem g_if (C : Cx W Z R own code mx ret nm wsx hx0) {cd : ClassFile.Cond} {o : Int} {x : Int32} {xi : Int} (hd : decode code pc = .ok (.ifCond cd o, 3)) (ho : 0 ≤ (pc : Int) + o) (hp1 : ((pc : Int) + o).toNat = pc1) (hp2 : pc + 3 = pc2) (hx : x.toInt = xi) (g1 : icp cd xi 0 → Go W Q h k n pc1 L S) (g2 : ¬ (icp cd xi 0) → Go W Q h k n pc2 L S) : Go W Q h k n pc L (.int x :: S) := by
  by_cases q : icp cd xi 0
  · exact g_ifY C hd ho hp1 hx q (g1 q)
  · exact g_ifN C hd hp2 hx q (g2 q)
/-- lcmp and the branch behind it -/
theorem g_lcmpY (C : Cx W Z R own code mx ret nm wsx hx0) {cd : ClassFile.Cond} {o : Int} {x y : Int64} {xi yi : Int} (hd : decode code pc = .ok (.lcmp, 1)) (hd' : decode code pc' = .ok (.ifCond cd o, 3)) (hp : pc + 1 = pc') (ho : 0 ≤ (pc' : Int) + o) (hp1 : ((pc' : Int) + o).toNat = pc1) (hx : x.toInt = xi) (hy : y.toInt = yi) (q : icp cd xi yi) (g : Go W Q h k n pc1 L S) : Go W Q h k n pc L (.long y :: .long x :: S) := by
  subst hp hx hy
  have g' : Go W Q h k n (pc + 1) L (.int (lcmpW x y) :: S) := g.st fun T locs X e t kk => XS.ifYes (g := mkF W.m (pc + 1) L (.int (lcmpW x y) :: S)) X.here C.x rfl rfl (C.b hd') rfl ((icp_long cd x y).trans (decide_eq_true q)) ho hp1 kk
  exact g'.st fun T locs X e t kk => XS.lcmp (g := mkF W.m pc L (.long y :: .long x :: S)) X.here C.x rfl (C.b hd) rfl kk
theorem g_lcmpN (C : Cx W Z R own code mx ret nm wsx hx0) {cd : ClassFile.Cond} {o : Int} {x y : Int64} {xi yi : Int} (hd : decode code pc = .ok (.lcmp, 1)) (hd' : decode code pc' = .ok (.ifCond cd o, 3)) (hp : pc + 1 = pc') (hp2 : pc' + 3 = pc2) (hx : x.toInt = xi) (hy : y.toInt = yi) (q : ¬ icp cd xi yi) (g : Go W Q h k n pc2 L S) : Go W Q h k n pc L (.long y :: .long x :: S) := by
  subst hp hx hy hp2
  have g' : Go W Q h k n (pc + 1) L (.int (lcmpW x y) :: S) := g.st fun T locs X e t kk => XS.ifNo (g := mkF W.m (pc + 1) L (.int (lcmpW x y) :: S)) X.here C.x rfl (C.b hd') rfl ((icp_long cd x y).trans (decide_eq_false q)) kk
  exact g'.st fun T locs X e t kk => XS.lcmp (g := mkF W.m pc L (.long y :: .long x :: S)) X.here C.x rfl (C.b hd) rfl kk
theorem g_lcmp (C : Cx W Z R own code mx ret nm wsx hx0) {cd : ClassFile.Cond} {o : Int} {x y : Int64} {xi yi : Int} (hd : decode code pc = .ok (.lcmp, 1)) (hd' : decode code pc' = .ok (.ifCond cd o, 3)) (hp : pc + 1 = pc') (ho : 0 ≤ (pc' : Int) + o) (hp1 : ((pc' : Int) + o).toNat = pc1) (hp2 : pc' + 3 = pc2) (hx : x.toInt = xi) (hy : y.toInt = yi) (g1 : icp cd xi yi → Go W Q h k n pc1 L S) (g2 : ¬ icp cd xi yi → Go W Q h k n pc2 L S) : Go W Q h k n pc L (.long y :: .long x :: S) := by
  by_cases q : icp cd xi yi
  · exact g_lcmpY C hd hd' hp ho hp1 hx hy q (g1 q)
  · exact g_lcmpN C hd hd' hp hp2 hx hy q (g2 q)
theorem icp_b0 {P : Prop} [Decidable P] : icp .eq (b2i P).toInt 0 ↔ ¬ P := by
  show (b2i P).toInt = 0 ↔ ¬ P
  rw [b2i_toInt]; split <;> simp [*]
theorem icp_b1 {P : Prop} [Decidable P] : icp .ne (b2i P).toInt 0 ↔ P := by
  show ¬ (b2i P).toInt = 0 ↔ P
  rw [b2i_toInt]; split <;> simp [*]
/-- ifeq on a truth value -/
theorem g_ifeqb (C : Cx W Z R own code mx ret nm wsx hx0) {o : Int} {x : Int32} {P : Prop} [Decidable P] (hd : decode code pc = .ok (.ifCond .eq o, 3)) (ho : 0 ≤ (pc : Int) + o) (hp1 : ((pc : Int) + o).toNat = pc1) (hp2 : pc + 3 = pc2) (hx : x = b2i P) (g1 : ¬ P → Go W Q h k n pc1 L S) (g2 : P → Go W Q h k n pc2 L S) : Go W Q h k n pc L (.int x :: S) := by
  subst hx
  exact g_if C hd ho hp1 hp2 rfl (fun q => g1 (icp_b0.mp q)) (fun q => g2 (Decidable.not_not.mp fun z => q (icp_b0.mpr z)))
/-- ifne on a truth value -/
theorem g_ifneb (C : Cx W Z R own code mx ret nm wsx hx0) {o : Int} {x : Int32} {P : Prop} [Decidable P] (hd : decode code pc = .ok (.ifCond .ne o, 3)) (ho : 0 ≤ (pc : Int) + o) (hp1 : ((pc : Int) + o).toNat = pc1) (hp2 : pc + 3 = pc2) (hx : x = b2i P) (g1 : P → Go W Q h k n pc1 L S) (g2 : ¬ P → Go W Q h k n pc2 L S) : Go W Q h k n pc L (.int x :: S) := by
  subst hx
  exact g_if C hd ho hp1 hp2 rfl (fun q => g1 (icp_b1.mp q)) (fun q => g2 fun z => q (icp_b1.mpr z))
theorem g_icmpbeq (C : Cx W Z R own code mx ret nm wsx hx0) {o : Int} {x y : Int32} {P P' : Prop} [Decidable P] [Decidable P'] (hd : decode code pc = .ok (.if_icmp .eq o, 3)) (ho : 0 ≤ (pc : Int) + o) (hp1 : ((pc : Int) + o).toNat = pc1) (hp2 : pc + 3 = pc2) (hx : x = b2i P) (hy : y = b2i P') (g1 : (P ↔ P') → Go W Q h k n pc1 L S) (g2 : ¬ (P ↔ P') → Go W Q h k n pc2 L S) : Go W Q h k n pc L (.int y :: .int x :: S) := by
  subst hx hy
  exact g_icmp C hd ho hp1 hp2 rfl rfl (fun q => g1 (b2i_inj.mp (Int32.toInt_inj.mp q))) (fun q => g2 fun z => q (congrArg Int32.toInt (b2i_inj.mpr z)))
theorem g_icmpbne (C : Cx W Z R own code mx ret nm wsx hx0) {o : Int} {x y : Int32} {P P' : Prop} [Decidable P] [Decidable P'] (hd : decode code pc = .ok (.if_icmp .ne o, 3)) (ho : 0 ≤ (pc : Int) + o) (hp1 : ((pc : Int) + o).toNat = pc1) (hp2 : pc + 3 = pc2) (hx : x = b2i P) (hy : y = b2i P') (g1 : ¬ (P ↔ P') → Go W Q h k n pc1 L S) (g2 : (P ↔ P') → Go W Q h k n pc2 L S) : Go W Q h k n pc L (.int y :: .int x :: S) := by
  subst hx hy
  exact g_icmp C hd ho hp1 hp2 rfl rfl (fun q => g1 fun z => q (congrArg Int32.toInt (b2i_inj.mpr z))) (fun q => g2 (b2i_inj.mp (Int32.toInt_inj.mp (Decidable.not_not.mp q))))
theorem isRef_cases {v : Value} (hv : v.isRef = true) (h0 : v ≠ .null) : ∃ b, v = .ref b := by
  rcases ref_cases hv with q | q
  · exact absurd q h0
  · exact q
theorem g_ifnonnull (C : Cx W Z R own code mx ret nm wsx hx0) {o : Int} {v : Value} (hd : decode code pc = .ok (.ifnonnull o, 3)) (ho : 0 ≤ (pc : Int) + o) (hp1 : ((pc : Int) + o).toNat = pc1) (hp2 : pc + 3 = pc2) (hv : v.isRef = true) (g1 : v ≠ .null → Go W Q h k n pc1 L S) (g2 : v = .null → Go W Q h k n pc2 L S) : Go W Q h k n pc L (v :: S) := by
  by_cases q : v = .null
  · have g := g2 q
    subst q hp2
    exact g.st fun T locs X e t kk => XS.ifnonnullNo (g := mkF W.m pc L (.null :: S)) X.here C.x rfl (C.b hd) rfl kk
  · have g := g1 q
    obtain ⟨b, rfl⟩ := isRef_cases hv q
    exact g.st fun T locs X e t kk => XS.ifnonnullYes (g := mkF W.m pc L (.ref b :: S)) X.here C.x rfl rfl (C.b hd) rfl ho hp1 kk
theorem g_ifnull (C : Cx W Z R own code mx ret nm wsx hx0) {o : Int} {v : Value} (hd : decode code pc = .ok (.ifnull o, 3)) (ho : 0 ≤ (pc : Int) + o) (hp1 : ((pc : Int) + o).toNat = pc1) (hp2 : pc + 3 = pc2) (hv : v.isRef = true) (g1 : v = .null → Go W Q h k n pc1 L S) (g2 : v ≠ .null → Go W Q h k n pc2 L S) : Go W Q h k n pc L (v :: S) := by
  by_cases q : v = .null
  · have g := g1 q
    subst q
    exact g.st fun T locs X e t kk => XS.ifnullYes (g := mkF W.m pc L (.null :: S)) X.here C.x rfl rfl (C.b hd) rfl ho hp1 kk
  · have g := g2 q
    obtain ⟨b, rfl⟩ := isRef_cases hv q
    subst hp2
    exact g.st fun T locs X e t kk => XS.ifnullNo (g := mkF W.m pc L (.ref b :: S)) X.here C.x rfl (C.b hd) rfl kk
theorem g_acmpne (C : Cx W Z R own code mx ret nm wsx hx0) {o : Int} {v w : Value} (hd : decode code pc = .ok (.if_acmp .ne o, 3)) (ho : 0 ≤ (pc : Int) + o) (hp1 : ((pc : Int) + o).toNat = pc1) (hp2 : pc + 3 = pc2) (hv : v.isRef = true) (hw : w.isRef = true) (g1 : v ≠ w → Go W Q h k n pc1 L S) (g2 : v = w → Go W Q h k n pc2 L S) : Go W Q h k n pc L (w :: v :: S) := by
  by_cases q : v = w
  · exact (g2 q).st fun T locs X e t kk => Jvm.RoadKit.acmp (g := mkF W.m pc L (w :: v :: S)) X C.x rfl hv hw (same := true) rfl (C.b hd) rfl (decide_eq_true q) ho (by rw [← hp2]; rfl) kk
  · exact (g1 q).st fun T locs X e t kk => Jvm.RoadKit.acmp (g := mkF W.m pc L (w :: v :: S)) X C.x rfl hv hw (same := false) rfl (C.b hd) rfl (decide_eq_false q) ho hp1.symm kk
theorem g_acmpeq (C : Cx W Z R own code mx ret nm wsx hx0) {o : Int} {v w : Value} (hd : decode code pc = .ok (.if_acmp .eq o, 3)) (ho : 0 ≤ (pc : Int) + o) (hp1 : ((pc : Int) + o).toNat = pc1) (hp2 : pc + 3 = pc2) (hv : v.isRef = true) (hw : w.isRef = true) (g1 : v = w → Go W Q h k n pc1 L S) (g2 : v ≠ w → Go W Q h k n pc2 L S) : Go W Q h k n pc L (w :: v :: S) := by
  by_cases q : v = w
  · exact (g1 q).st fun T locs X e t kk => Jvm.RoadKit.acmp (g := mkF W.m pc L (w :: v :: S)) X C.x rfl hv hw (same := true) rfl (C.b hd) rfl (decide_eq_true q) ho hp1.symm kk
  · exact (g2 q).st fun T locs X e t kk => Jvm.RoadKit.acmp (g := mkF W.m pc L (w :: v :: S)) X C.x rfl hv hw (same := false) rfl (C.b hd) rfl (decide_eq_false q) ho (by rw [← hp2]; rfl) kk

/-! fields, objects, arrays -/
theorem g_getL (C : Cx W Z R own code mx ret nm wsx hx0) {i : Nat} {R0 O f d host : String} {a : Addr} {v : Value} (hd : decode code pc = .ok (.getfield i, 3)) (hp : pc + 3 = pc') (w : (Jvm.Cond.fieldLink own i R0 f d).before a0 Z = true ∨ (Jvm.Cond.fieldLinkNest own i R0 f d host).before a0 Z = true) (via : Via Z R0 O f d) (F : Fld Z h a O f d v) (g : Go W Q h k n pc' L (v :: S)) : Go W Q h k n pc L (.ref a :: S) := fun T hT => by
  obtain ⟨locs, X, e, N⟩ := hT
  subst hp
  obtain ⟨T', X', e', st⟩ := getF X C.x C.z C.o w via e F (g := mkF W.m pc L (.ref a :: S)) rfl rfl (C.b hd)
  exact Out.st st (g T' ⟨locs, X', e', N⟩)
theorem g_getO (C : Cx W Z R own code mx ret nm wsx hx0) {i j : Nat} {O f d Cl : String} {a : Addr} {v : Value} {fs : List (String × String × String × Value)} (hd : decode code pc = .ok (.getfield i, 3)) (hp : pc + 3 = pc') (w : (Jvm.Cond.fieldLink own i O f d).before a0 Z = true) (F : Ob Z h a Cl fs) (hj : fs[j]? = some (O, f, d, v)) (g : Go W Q h k n pc' L (v :: S)) : Go W Q h k n pc L (.ref a :: S) :=
  g_getL (host := "") C hd hp (Or.inl w) Via.refl (F.get hj) g
theorem pw_size (C : Cx W Z R own code mx ret nm wsx hx0) {T : State} {locs : List Loc} (X : Sta0 W T locs k n) (e : T.heap = h) : Pw W h.size := by
  have q : W.s.heap.size ≤ T.heap.size := X.same.2.1
  rw [e] at q
  exact Or.inr q
theorem g_putO (C : Cx W Z R own code mx ret nm wsx hx0) {i j kk : Nat} {R0 O f d Cl : String} {ty : FieldType} {a : Addr} {v v' old : Value} {fs fs' : List (String × String × String × Value)} (hd : decode code pc = .ok (.putfield i, 3)) (hp : pc + 3 = pc') (w : (Jvm.Cond.fieldLink own i R0 f d).before a0 Z = true) (via : Via Z R0 O f d) (F : Ob Z h a Cl fs) (hj : fs[j]? = some (O, f, d, old))
    (Lw : (Jvm.Cond.lays Cl O f d).before a0 Z = true ∨ ((Jvm.Cond.laysFinal Cl O f d).before a0 Z = true ∧ own = O ∧ nm = "<init>")) (wi : (Jvm.Cond.instantiable Cl kk).before a0 Z = true) (hty : parseFieldDescriptor d = some ty) (hn : narrow ty v = v') (hf : fits ty v' = true) (hset : fs.set j (O, f, d, v') = fs') (q : Pw W a)
    (g : ∀ h', Ob Z h' a Cl fs' → Keep h h' [a] → Go W Q h' k n pc' L S) : Go W Q h k n pc L (v :: .ref a :: S) := fun T hT => by
  obtain ⟨locs, X, e, N⟩ := hT
  subst hp hset
  obtain ⟨T', h', X', e', Wx, st⟩ := putFN X C.x C.z C.o w via e (F.get hj) F.1 (Lw.imp id fun z => ⟨z.1, z.2.1, C.nme.trans z.2.2⟩) wi hty hn hf (g := mkF W.m pc L (v :: .ref a :: S)) rfl rfl (C.b hd)
  refine Out.st st (g h' (F.put hj Wx) (Keep.of_wr Wx) T' ⟨_, X', e', fun y hy => ?_⟩)
  rcases List.mem_append.mp hy with z | z
  · exact N y z
  · cases List.mem_singleton.mp z; exact q
theorem g_new (C : Cx W Z R own code mx ret nm wsx hx0) {i nn : Nat} {Cl : String} (hd : decode code pc = .ok (.new i, 3)) (hp : pc + 3 = pc') (w : (Jvm.Cond.classLink own i Cl).before a0 Z = true) (wi : (Jvm.Cond.instantiable Cl nn).before a0 Z = true) (wz : (Jvm.Cond.initialized Cl).before a0 Z = true) {k' n' : Nat} (hk : k + 1 = k') (hn : n + nn = n') (hc : k' ≤ R.cells) (hs : n' ≤ R.slots)
    (g : ∀ (h' : Heap) (a : Addr), a = h.size → Ext h h' → Exa Z h' a Cl → (∀ {O f d : String} {ty : FieldType}, Laid Z a0 Cl O f d → parseFieldDescriptor d = some ty → Fld Z h' a O f d (defaultValue ty)) → Pw W a → Go W Q h' k' n' pc' L (.ref a :: S)) : Go W Q h k n pc L S := fun T hT => by
  obtain ⟨locs, X, e, N⟩ := hT
  subst hp hk hn
  obtain ⟨T', h', X', e', E, A, D, -, st⟩ := newO X C.x C.z C.o w wi wz e (g := mkF W.m pc L S) rfl (C.b hd) (by rw [C.r]; exact hc) (by rw [C.r]; exact hs)
  exact Out.st st (g h' h.size rfl E A D (pw_size C X e) T' ⟨locs, X', e', N⟩)
theorem def_list (ty : FieldType) (cA : ClassId) {z : Int32} {len : Nat} (hz : z.toInt = len) : (newA cA ty z).slots.toList = List.replicate len (defaultValue ty) := by
  show (Array.replicate z.toNatClampNeg (defaultValue ty)).toList = _
  rw [clamp_of hz, Array.toList_replicate]
theorem g_newarray (C : Cx W Z R own code mx ret nm wsx hx0) {aty : ArrayType} {ty : FieldType} {z : Int32} {len cap : Nat} (hd : decode code pc = .ok (.newarray aty, 2)) (hp : pc + 2 = pc') (hty : newarray.typeOf aty = ty) (w : (Jvm.Cond.arrayClass ty).before a0 Z = true) (hz : z.toInt = len) (hcap : len ≤ cap) (hb8 : cap * 8 ≤ 536870912) {k' n' : Nat} (hk : k + 1 = k') (hn : n + cap = n') (hc : k' ≤ R.cells) (hs : n' ≤ R.slots)
    (g : ∀ (h' : Heap) (a : Addr), a = h.size → Ext h h' → Ar Z h' a ty (List.replicate len (defaultValue ty)) → Pw W a → Go W Q h' k' n' pc' L (.ref a :: S)) : Go W Q h k n pc L (.int z :: S) := fun T hT => by
  obtain ⟨locs, X, e, N⟩ := hT
  subst hp hty hk hn
  obtain ⟨T', h', cA, X', e', E, A, st⟩ := newP X C.x C.z w e (g := mkF W.m pc L (.int z :: S)) rfl (C.b hd) rfl (nneg_of hz) (cap := cap) (by rw [clamp_of hz]; exact hcap) hb8 (by rw [C.r]; exact hc) (by rw [C.r]; exact hs)
  exact Out.st st (g h' h.size rfl E ⟨_, A, def_list _ _ hz⟩ (pw_size C X e) T' ⟨locs, X', e', N⟩)
theorem g_anewarray (C : Cx W Z R own code mx ret nm wsx hx0) {i : Nat} {Cl : String} {z : Int32} {len cap : Nat} (hd : decode code pc = .ok (.anewarray i, 3)) (hp : pc + 3 = pc') (w : (Jvm.Cond.classLink own i Cl).before a0 Z = true) (w2 : (Jvm.Cond.arrayOver (.object Cl)).before a0 Z = true) (hz : z.toInt = len) (hcap : len ≤ cap) (hb8 : cap * 8 ≤ 536870912) {k' n' : Nat} (hk : k + 1 = k') (hn : n + cap = n') (hc : k' ≤ R.cells) (hs : n' ≤ R.slots)
    (g : ∀ (h' : Heap) (a : Addr), a = h.size → Ext h h' → ArR Z h' a Cl (List.replicate len .null) → Pw W a → Go W Q h' k' n' pc' L (.ref a :: S)) : Go W Q h k n pc L (.int z :: S) := fun T hT => by
  obtain ⟨locs, X, e, N⟩ := hT
  subst hp hk hn
  obtain ⟨T', h', cA, X', e', E, A, O, st⟩ := newR X C.x C.z C.o w w2 e (g := mkF W.m pc L (.int z :: S)) rfl (C.b hd) rfl (nneg_of hz) (cap := cap) (by rw [clamp_of hz]; exact hcap) hb8 (by rw [C.r]; exact hc) (by rw [C.r]; exact hs)
  exact Out.st st (g h' h.size rfl E ⟨_, A, def_list _ _ hz, O⟩ (pw_size C X e) T' ⟨locs, X', e', N⟩)
theorem g_arraylength (C : Cx W Z R own code mx ret nm wsx hx0) {a : Addr} {ty : FieldType} {vs : List Value} {z : Int32} (hd : decode code pc = .ok (.arraylength, 1)) (hp : pc + 1 = pc') (A : Ar Z h a ty vs) (hz : vs.length.toInt32 = z) (g : Go W Q h k n pc' L (.int z :: S)) : Go W Q h k n pc L (.ref a :: S) := by
  subst hp hz
  obtain ⟨c, A, e⟩ := A
  rw [← e, Array.length_toList] at g
  exact g.st fun T locs X eT t kk => X.arraylength C.x (by rw [eT]; exact A.1) (State.isArrayOf_alike C.z.alike A.2.1) (g := mkF W.m pc L (.ref a :: S)) rfl rfl (C.b hd) t kk
theorem g_arraylengthR (C : Cx W Z R own code mx ret nm wsx hx0) {a : Addr} {Cl : String} {vs : List Value} {z : Int32} (hd : decode code pc = .ok (.arraylength, 1)) (hp : pc + 1 = pc') (A : ArR Z h a Cl vs) (hz : vs.length.toInt32 = z) (g : Go W Q h k n pc' L (.int z :: S)) : Go W Q h k n pc L (.ref a :: S) := by
  obtain ⟨c, A, e, -⟩ := A
  exact g_arraylength C hd hp ⟨c, A, e⟩ hz g

theorem g_iaload (C : Cx W Z R own code mx ret nm wsx hx0) {a : Addr} {vs : List Value} {v : Value} {j : Int32} {i : Nat} (hd : decode code pc = .ok (.iaload, 1)) (hp : pc + 1 = pc') (A : Ar Z h a .int vs) (hj : j.toInt = i) (hv : vs[i]? = some v) (g : Go W Q h k n pc' L (v :: S)) : Go W Q h k n pc L (.int j :: .ref a :: S) := by
  subst hp
  obtain ⟨c, A, e⟩ := A
  subst e
  have hi := (List.getElem?_eq_some_iff.mp hv).1
  exact g.st fun T locs X eT t kk => X.iaload C.x (by rw [eT]; exact A.1) (State.isArrayOf_alike C.z.alike A.2.1) A.2.2 (in_of hj hi) (by rw [clamp_of hj, ← Array.getElem?_toList]; exact hv) (g := mkF W.m pc L (.int j :: .ref a :: S)) rfl rfl (C.b hd) t kk
theorem g_laload (C : Cx W Z R own code mx ret nm wsx hx0) {a : Addr} {vs : List Value} {v : Value} {j : Int32} {i : Nat} (hd : decode code pc = .ok (.laload, 1)) (hp : pc + 1 = pc') (A : Ar Z h a .long vs) (hj : j.toInt = i) (hv : vs[i]? = some v) (g : Go W Q h k n pc' L (v :: S)) : Go W Q h k n pc L (.int j :: .ref a :: S) := by
  subst hp
  obtain ⟨c, A, e⟩ := A
  subst e
  have hi := (List.getElem?_eq_some_iff.mp hv).1
  exact g.st fun T locs X eT t kk => X.laload C.x (by rw [eT]; exact A.1) (State.isArrayOf_alike C.z.alike A.2.1) A.2.2 (in_of hj hi) (by rw [clamp_of hj, ← Array.getElem?_toList]; exact hv) (g := mkF W.m pc L (.int j :: .ref a :: S)) rfl rfl (C.b hd) t kk
theorem g_caload (C : Cx W Z R own code mx ret nm wsx hx0) {a : Addr} {vs : List Value} {v : Value} {j : Int32} {i : Nat} (hd : decode code pc = .ok (.caload, 1)) (hp : pc + 1 = pc') (A : Ar Z h a .char vs) (hj : j.toInt = i) (hv : vs[i]? = some v) (g : Go W Q h k n pc' L (v :: S)) : Go W Q h k n pc L (.int j :: .ref a :: S) := by
  subst hp
  obtain ⟨c, A, e⟩ := A
  subst e
  have hi := (List.getElem?_eq_some_iff.mp hv).1
  exact g.st fun T locs X eT t kk => X.caload C.x (by rw [eT]; exact A.1) (State.isArrayOf_alike C.z.alike A.2.1) A.2.2 (in_of hj hi) (by rw [clamp_of hj, ← Array.getElem?_toList]; exact hv) (g := mkF W.m pc L (.int j :: .ref a :: S)) rfl rfl (C.b hd) t kk
theorem g_baload (C : Cx W Z R own code mx ret nm wsx hx0) {a : Addr} {vs : List Value} {v : Value} {j : Int32} {i : Nat} (hd : decode code pc = .ok (.baload, 1)) (hp : pc + 1 = pc') (A : Ar Z h a .byte vs) (hj : j.toInt = i) (hv : vs[i]? = some v) (g : Go W Q h k n pc' L (v :: S)) : Go W Q h k n pc L (.int j :: .ref a :: S) := by
  subst hp
  obtain ⟨c, A, e⟩ := A
  subst e
  have hi := (List.getElem?_eq_some_iff.mp hv).1
  exact g.st fun T locs X eT t kk => X.baloadBytes C.x (by rw [eT]; exact A.1) (State.isArrayOf_alike C.z.alike A.2.1) A.2.2 (in_of hj hi) (by rw [clamp_of hj, ← Array.getElem?_toList]; exact hv) (g := mkF W.m pc L (.int j :: .ref a :: S)) rfl rfl (C.b hd) t kk
theorem g_zaload (C : Cx W Z R own code mx ret nm wsx hx0) {a : Addr} {vs : List Value} {v : Value} {j : Int32} {i : Nat} (hd : decode code pc = .ok (.baload, 1)) (hp : pc + 1 = pc') (A : Ar Z h a .boolean vs) (hj : j.toInt = i) (hv : vs[i]? = some v) (g : Go W Q h k n pc' L (v :: S)) : Go W Q h k n pc L (.int j :: .ref a :: S) := by
  subst hp
  obtain ⟨c, A, e⟩ := A
  subst e
  have hi := (List.getElem?_eq_some_iff.mp hv).1
  exact g.st fun T locs X eT t kk => X.baloadBooleans C.x (by rw [eT]; exact A.1) (State.isArrayOf_alike C.z.alike A.2.1) A.2.2 (in_of hj hi) (by rw [clamp_of hj, ← Array.getElem?_toList]; exact hv) (g := mkF W.m pc L (.int j :: .ref a :: S)) rfl rfl (C.b hd) t kk
theorem g_aaload (C : Cx W Z R own code mx ret nm wsx hx0) {a : Addr} {Cl : String} {vs : List Value} {v : Value} {j : Int32} {i : Nat} (hd : decode code pc = .ok (.aaload, 1)) (hp : pc + 1 = pc') (A : ArR Z h a Cl vs) (hj : j.toInt = i) (hv : vs[i]? = some v) (g : Go W Q h k n pc' L (v :: S)) : Go W Q h k n pc L (.int j :: .ref a :: S) := by
  subst hp
  obtain ⟨c, A, e, -⟩ := A
  subst e
  have hi := (List.getElem?_eq_some_iff.mp hv).1
  exact g.st fun T locs X eT t kk => X.aaload C.x (by rw [eT]; exact A.1) (State.isArrayOf_alike C.z.alike A.2.1) rfl A.2.2 (in_of hj hi) (by rw [clamp_of hj, ← Array.getElem?_toList]; exact hv) (g := mkF W.m pc L (.int j :: .ref a :: S)) rfl rfl (C.b hd) t kk
theorem g_iastore (C : Cx W Z R own code mx ret nm wsx hx0) {a : Addr} {vs vs' : List Value} {x : Int32} {j : Int32} {i : Nat} (hd : decode code pc = .ok (.iastore, 1)) (hp : pc + 1 = pc') (A : Ar Z h a .int vs) (hj : j.toInt = i) (hi : i < vs.length) (hset : vs.set i (.int x) = vs') (q : Pw W a) (g : ∀ h', Ar Z h' a .int vs' → Keep h h' [a] → Go W Q h' k n pc' L S) : Go W Q h k n pc L (.int x :: .int j :: .ref a :: S) := fun T hT => by
  obtain ⟨locs, X, e, N⟩ := hT
  subst hp hset
  obtain ⟨c, A, ec⟩ := A
  obtain ⟨T', h', X', e', Wx, st⟩ := stI X C.x C.z e A (in_of hj (ec ▸ hi)) (g := mkF W.m pc L (.int x :: .int j :: .ref a :: S)) rfl rfl (C.b hd)
  refine Out.st st (g h' (Ar.put A ec hj Wx) (Keep.of_wr Wx) T' ⟨_, X', e', fun y hy => ?_⟩)
  rcases List.mem_append.mp hy with z | z
  · exact N y z
  · cases List.mem_singleton.mp z; exact q
theorem g_lastore (C : Cx W Z R own code mx ret nm wsx hx0) {a : Addr} {vs vs' : List Value} {x : Int64} {j : Int32} {i : Nat} (hd : decode code pc = .ok (.lastore, 1)) (hp : pc + 1 = pc') (A : Ar Z h a .long vs) (hj : j.toInt = i) (hi : i < vs.length) (hset : vs.set i (.long x) = vs') (q : Pw W a) (g : ∀ h', Ar Z h' a .long vs' → Keep h h' [a] → Go W Q h' k n pc' L S) : Go W Q h k n pc L (.long x :: .int j :: .ref a :: S) := fun T hT => by
  obtain ⟨locs, X, e, N⟩ := hT
  subst hp hset
  obtain ⟨c, A, ec⟩ := A
  obtain ⟨T', h', X', e', Wx, st⟩ := stJ X C.x C.z e A (in_of hj (ec ▸ hi)) (g := mkF W.m pc L (.long x :: .int j :: .ref a :: S)) rfl rfl (C.b hd)
  refine Out.st st (g h' (Ar.put A ec hj Wx) (Keep.of_wr Wx) T' ⟨_, X', e', fun y hy => ?_⟩)
  rcases List.mem_append.mp hy with z | z
  · exact N y z
  · cases List.mem_singleton.mp z; exact q
theorem g_castore (C : Cx W Z R own code mx ret nm wsx hx0) {a : Addr} {vs vs' : List Value} {x : Int32} {j : Int32} {i : Nat} (hd : decode code pc = .ok (.castore, 1)) (hp : pc + 1 = pc') (A : Ar Z h a .char vs) (hj : j.toInt = i) (hi : i < vs.length) (hset : vs.set i (.int (nar .char x)) = vs') (q : Pw W a) (g : ∀ h', Ar Z h' a .char vs' → Keep h h' [a] → Go W Q h' k n pc' L S) : Go W Q h k n pc L (.int x :: .int j :: .ref a :: S) := fun T hT => by
  obtain ⟨locs, X, e, N⟩ := hT
  subst hp hset
  obtain ⟨c, A, ec⟩ := A
  obtain ⟨T', h', X', e', Wx, st⟩ := stC X C.x C.z e A (in_of hj (ec ▸ hi)) (g := mkF W.m pc L (.int x :: .int j :: .ref a :: S)) rfl rfl (C.b hd)
  refine Out.st st (g h' (Ar.put A ec hj Wx) (Keep.of_wr Wx) T' ⟨_, X', e', fun y hy => ?_⟩)
  rcases List.mem_append.mp hy with z | z
  · exact N y z
  · cases List.mem_singleton.mp z; exact q
theorem g_bastore (C : Cx W Z R own code mx ret nm wsx hx0) {a : Addr} {vs vs' : List Value} {x : Int32} {j : Int32} {i : Nat} (hd : decode code pc = .ok (.bastore, 1)) (hp : pc + 1 = pc') (A : Ar Z h a .byte vs) (hj : j.toInt = i) (hi : i < vs.length) (hset : vs.set i (.int (nar .byte x)) = vs') (q : Pw W a) (g : ∀ h', Ar Z h' a .byte vs' → Keep h h' [a] → Go W Q h' k n pc' L S) : Go W Q h k n pc L (.int x :: .int j :: .ref a :: S) := fun T hT => by
  obtain ⟨locs, X, e, N⟩ := hT
  subst hp hset
  obtain ⟨c, A, ec⟩ := A
  obtain ⟨T', h', X', e', Wx, st⟩ := stB X C.x C.z e A (in_of hj (ec ▸ hi)) (g := mkF W.m pc L (.int x :: .int j :: .ref a :: S)) rfl rfl (C.b hd)
  refine Out.st st (g h' (Ar.put A ec hj Wx) (Keep.of_wr Wx) T' ⟨_, X', e', fun y hy => ?_⟩)
  rcases List.mem_append.mp hy with z | z
  · exact N y z
  · cases List.mem_singleton.mp z; exact q
theorem g_zastore (C : Cx W Z R own code mx ret nm wsx hx0) {a : Addr} {vs vs' : List Value} {x : Int32} {j : Int32} {i : Nat} (hd : decode code pc = .ok (.bastore, 1)) (hp : pc + 1 = pc') (A : Ar Z h a .boolean vs) (hj : j.toInt = i) (hi : i < vs.length) (hset : vs.set i (.int (nar .boolean x)) = vs') (q : Pw W a) (g : ∀ h', Ar Z h' a .boolean vs' → Keep h h' [a] → Go W Q h' k n pc' L S) : Go W Q h k n pc L (.int x :: .int j :: .ref a :: S) := fun T hT => by
  obtain ⟨locs, X, e, N⟩ := hT
  subst hp hset
  obtain ⟨c, A, ec⟩ := A
  obtain ⟨T', h', X', e', Wx, st⟩ := stZ X C.x C.z e A (in_of hj (ec ▸ hi)) (g := mkF W.m pc L (.int x :: .int j :: .ref a :: S)) rfl rfl (C.b hd)
  refine Out.st st (g h' (Ar.put A ec hj Wx) (Keep.of_wr Wx) T' ⟨_, X', e', fun y hy => ?_⟩)
  rcases List.mem_append.mp hy with z | z
  · exact N y z
  · cases List.mem_singleton.mp z; exact q
theorem ArR.put {Z : State} {h h' : Heap} {a : Addr} {Cl : String} {vs : List Value} {v : Value} {c : Cell} (A : Arr Z h a c (.object Cl)) (e : c.slots.toList = vs) (O : Ovr Z c.cls Cl) {j : Int32} {i : Nat} (hj : j.toInt = i) (W : Wr h h' a j.toNatClampNeg v) : ArR Z h' a Cl (vs.set i v) := by
  refine ⟨_, A.same W, ?_, O⟩
  rw [clamp_of hj, set_toList, e]
theorem g_aastore (C : Cx W Z R own code mx ret nm wsx hx0) {a : Addr} {Cl : String} {vs vs' : List Value} {v : Value} {j : Int32} {i : Nat} (hd : decode code pc = .ok (.aastore, 1)) (hp : pc + 1 = pc') (A : ArR Z h a Cl vs) (hj : j.toInt = i) (hi : i < vs.length) (hset : vs.set i v = vs') (hv : v = .null ∨ ∃ y, v = .ref y ∧ Exa Z h y Cl) (q : Pw W a) (g : ∀ h', ArR Z h' a Cl vs' → Keep h h' [a] → Go W Q h' k n pc' L S) : Go W Q h k n pc L (v :: .int j :: .ref a :: S) := fun T hT => by
  obtain ⟨locs, X, e, N⟩ := hT
  subst hp hset
  obtain ⟨c, A, ec, O⟩ := A
  have F : Sto Z h a v := by
    rcases hv with rfl | ⟨y, rfl, E⟩
    · exact Or.inl rfl
    · exact Sto.of A O (Ins.self E)
  obtain ⟨T', h', X', e', Wx, st⟩ := stR X C.x C.z e A (in_of hj (ec ▸ hi)) rfl F (g := mkF W.m pc L (v :: .int j :: .ref a :: S)) rfl rfl (C.b hd)
  refine Out.st st (g h' (ArR.put A ec O hj Wx) (Keep.of_wr Wx) T' ⟨_, X', e', fun y hy => ?_⟩)
  rcases List.mem_append.mp hy with z | z
  · exact N y z
  · cases List.mem_singleton.mp z; exact q
/-! returns -/
theorem g_end (C : Cx W Z R own code mx ret nm wsx hx0) {v : Option Value} (hv : ret = none → v = none) (hc : k ≤ R.cells) (hs : n ≤ R.slots) (q : Q v h)
    (st : ∀ T locs, Sta0 W T locs k n → ∀ fs, (∀ (f : JFrame) (acts : List Action), f.method = W.m → f.locked = none → f.entered = [] → (doReturn W.e (T.setTop f) acts v).1 = T.setFrames fs) → Stp W (T.setTop (mkF W.m pc L S)) (T.setFrames fs)) : Go W Q h k n pc L S := fun T hT => by
  obtain ⟨locs, X, e, N⟩ := hT
  obtain ⟨fs, hr, hrun, hended, hW, hsame⟩ := X.leave (v := v) (fun z => hv (C.rt ▸ z)) C.lk
  refine ⟨_, _, st T locs X fs hr, hrun, hended, v, locs, rfl, ⟨?_, N⟩, ⟨_, rfl⟩, hW, hsame.mono (by rw [C.r]; exact hc) (by rw [C.r]; exact hs)⟩
  show Q v T.heap
  rw [e]; exact q
theorem g_return (C : Cx W Z R own code mx none nm wsx hx0) (hd : decode code pc = .ok (.return_, 1)) (hc : k ≤ R.cells) (hs : n ≤ R.slots) (q : Q none h) : Go W Q h k n pc L [] :=
  g_end C (fun _ => rfl) hc hs q fun T locs X fs hr => X.returnOut C.x C.rt (C.b hd) hr
theorem g_retN {ty0 : FieldType} (C : Cx W Z R own code mx (some ty0) nm wsx hx0) {z : Int32} (ht : ty0 = .boolean ∨ ty0 = .byte ∨ ty0 = .char ∨ ty0 = .short) (hd : decode code pc = .ok (.ireturn, 1)) (hc : k ≤ R.cells) (hs : n ≤ R.slots) (q : Q (some (.int (nar ty0 z))) h) : Go W Q h k n pc L (.int z :: S) :=
  g_end C nofun hc hs q fun T locs X fs hr => retN X C.x C.rt ht (C.b hd) hr
theorem g_retI (C : Cx W Z R own code mx (some .int) nm wsx hx0) {z : Int32} (hd : decode code pc = .ok (.ireturn, 1)) (hc : k ≤ R.cells) (hs : n ≤ R.slots) (q : Q (some (.int z)) h) : Go W Q h k n pc L (.int z :: S) :=
  g_end C nofun hc hs q fun T locs X fs hr => retOut X C.x C.rt rfl (Or.inl ⟨rfl, Or.inl rfl, z, rfl⟩) (C.b hd) hr
theorem g_retL (C : Cx W Z R own code mx (some .long) nm wsx hx0) {z : Int64} (hd : decode code pc = .ok (.lreturn, 1)) (hc : k ≤ R.cells) (hs : n ≤ R.slots) (q : Q (some (.long z)) h) : Go W Q h k n pc L (.long z :: S) :=
  g_end C nofun hc hs q fun T locs X fs hr => retOut X C.x C.rt rfl (Or.inr (Or.inl ⟨rfl, rfl, z, rfl⟩)) (C.b hd) hr
theorem g_retA {ty0 : FieldType} (C : Cx W Z R own code mx (some ty0) nm wsx hx0) {v : Value} (ht : ty0.isReference = true) (hn : narrow ty0 v = v) (hv : v.isRef = true) (hd : decode code pc = .ok (.areturn, 1)) (hc : k ≤ R.cells) (hs : n ≤ R.slots) (q : Q (some v) h) : Go W Q h k n pc L (v :: S) :=
  g_end C nofun hc hs q fun T locs X fs hr => retOut X C.x C.rt hn (Or.inr (Or.inr (Or.inr (Or.inr ⟨rfl, ht, hv⟩)))) (C.b hd) hr
/-! calls -/
theorem g_initO (C : Cx W Z R own code mx ret nm wsx hx0) {i : Nat} {a : Addr} (hd : decode code pc = .ok (.invokespecial i, 3)) (hp : pc + 3 = pc') (w1 : (Jvm.Cond.methodLink own i Lib.objectInit).before a0 Z = true) (w2 : (Jvm.Cond.instanceMethod Lib.objectInit).before a0 Z = true) (w3 : (Jvm.Cond.code Lib.objectInit Jvm.Pilot.@@N@@.object_method_1_code 1 none).before a0 Z = true) (hL : L.size = mx) (hf : 1 ≤ R.frames) (hl : (S.map fun v => v.category).sum + 12 ≤ R.locals) (g : Go W Q h k n pc' L S) : Go W Q h k n pc L (.ref a :: S) := fun T hT => by
  obtain ⟨locs, X, e, N⟩ := hT
  subst hp
  obtain ⟨T', X', e', st⟩ := initO X C.x C.z C.o w1 w2 w3 e (g := mkF W.m pc L (.ref a :: S)) rfl (by rw [C.ml]; exact hL) rfl (C.b hd) (by rw [C.r]; exact hf) (W := (S.map fun v => v.category).sum) (by show 2 * 0 + _ ≤ _; omega) (by rw [C.r]; exact hl)
  exact Out.st st (g T' ⟨locs, X', e', N⟩)
theorem post_call {T T' : State} {locs L' : List Loc} {k' n' : Nat} {ws : List Addr} (X : Sta0 W T locs k n) (e : T.heap = h) (N : ∀ y ∈ locs, Pw W y.base) (hws : ∀ a ∈ ws, Pw W a) (hL : ∀ y ∈ L', y.base ∈ ws ∨ h.size ≤ y.base) : ∀ y ∈ locs ++ L', Pw W y.base := fun y hy => by
  rcases List.mem_append.mp hy with z | z
  · exact N y z
  · rcases hL y z with q | q
    · exact hws _ q
    · have r : W.s.heap.size ≤ T.heap.size := X.same.2.1
      rw [e] at r
      exact Or.inr (Nat.le_trans r q)
/-- the contract, with what it keeps -/
theorem Con.keeps {l : Launch} {w0 : List Jvm.Cond} {y : MethodName} {bytes : ByteArray} {ret' : Option FieldType} {rm : Room} {as : Array Value} {ws : List Addr} {Q' : Option Value → Heap → Prop} {mx' : Nat} (M : Con l Z w0 y bytes mx' ret' rm as h ws Q') :
    MetFree l y (head1 (Jvm.Cond.code y bytes mx' ret' :: w0) rm) (fun a U => a = as ∧ Z.Warmed39 U.vm ∧ U.heap = h) (fun _ _ _ _ _ => True)
      (fun _ U o U' => ∃ v L, o = .returned v ∧ (Q' v U'.heap ∧ (∀ y ∈ L, y.base ∈ ws ∨ h.size ≤ y.base) ∧ Keep h U'.heap ws) ∧ FrameEnd U o U' L rm.cells rm.slots) := by
  intro p e ha hc hk s m args below hf happ hP hK
  obtain ⟨nn, o, h1, h2, h3, v, L, rfl, ⟨hq, hL⟩, hF⟩ := M p e ha hc hk s m args below hf happ hP hK
  refine ⟨nn, _, h1, h2, h3, v, L, rfl, ⟨hq, hL, ?_⟩, hF⟩
  obtain ⟨rfl, -, rfl⟩ := hP
  have K := keep_of_same hF.2.2 hL
  exact K
theorem g_static (C : Cx W Z R own code mx ret nm wsx hx0) {i : Nat} {y : MethodName} {bytes : ByteArray} {mx' : Nat} {ret' : Option FieldType} {rm : Room} {as : List Value} {ws : List Addr} {Q' : Option Value → Heap → Prop} {S0 : List Value} (hd : decode code pc = .ok (.invokestatic i, 3)) (hp : pc + 3 = pc')
    (w1 : (Jvm.Cond.methodLink own i y).before a0 Z = true) (w2 : (Jvm.Cond.static y).before a0 Z = true) (w3 : (Jvm.Cond.initialized y.cls).before a0 Z = true) (w4 : (Jvm.Cond.code y bytes mx' ret').before a0 Z = true) (hy : y.cls ≠ "java/lang/invoke/MethodHandle" ∧ y.cls ≠ "java/lang/invoke/VarHandle")
    (hlen : ∀ sig, parseMethodDescriptor y.desc = some sig → as.length = sig.parameters.length) (M : Con W.l Z [] y bytes mx' ret' rm as.toArray h ws Q') (hS : S0 = as.reverse ++ S) (hL : L.size = mx) (hf : rm.frames + 1 ≤ R.frames) (hl : (S.map fun v => v.category).sum + (mx' + 11) + rm.locals ≤ R.locals) {k' n' : Nat} (hk : k + rm.cells = k') (hn : n + rm.slots = n') (hc : k' ≤ R.cells) (hs : n' ≤ R.slots) (hws : ∀ a ∈ ws, Pw W a)
    (g : ∀ v h', Q' v h' → Keep h h' ws → Go W Q h' k' n' pc' L (v.toList ++ S)) : Go W Q h k n pc L S0 := fun T hT => by
  obtain ⟨locs, X, e, N⟩ := hT
  subst hp hS hk hn
  obtain ⟨v, _, ⟨T', L1, k1, n1⟩, -, X', ⟨L2, ⟨hQ, hL2, hK⟩, l1, y1, z1⟩, st⟩ := Jvm.LawKit.callS X C.x (y := y) C.o (mvT C.z w1) (mvT C.z w2) (mvT C.z w3) (mvT C.z w4) hy (backOf (R := W.R) (W := (S.map fun v => v.category).sum) (Q := fun v h' L => Q' v h' ∧ (∀ y ∈ L, y.base ∈ ws ∨ h.size ≤ y.base) ∧ Keep h h' ws) M.keeps C.z w4 w3 (by rw [C.r]; exact hf) (by rw [C.r]; exact hl)) (g := mkF W.m pc L (as.reverse ++ S)) rfl (by rw [C.ml]; exact hL) (argsL := as) (rest := S) hlen rfl (by show 2 * 0 + _ ≤ _; omega) (C.b hd) (fun _ _ => ⟨rfl, e, by rw [C.r]; exact hc, by rw [C.r]; exact hs⟩)
  dsimp only [Pt.U, Pt.locs, Pt.cells, Pt.slots] at X' l1 y1 z1 st hQ hK
  subst l1 y1 z1
  exact Out.st st (g v T'.heap hQ hK T' ⟨_, X', rfl, post_call (T' := T') (k' := 0) (n' := 0) X e N hws hL2⟩)
theorem g_special (C : Cx W Z R own code mx ret nm wsx hx0) {i : Nat} {y : MethodName} {bytes : ByteArray} {mx' : Nat} {rm : Room} {as : List Value} {ws : List Addr} {Q' : Option Value → Heap → Prop} {S0 : List Value} {a : Addr} (hd : decode code pc = .ok (.invokespecial i, 3)) (hp : pc + 3 = pc') (hy1 : y.name = "<init>")
    (w1 : (Jvm.Cond.methodLink own i y).before a0 Z = true) (w2 : (Jvm.Cond.instanceMethod y).before a0 Z = true) (w3 : (Jvm.Cond.initialized y.cls).before a0 Z = true) (w4 : (Jvm.Cond.code y bytes mx' none).before a0 Z = true) (hy : y.cls ≠ "java/lang/invoke/MethodHandle" ∧ y.cls ≠ "java/lang/invoke/VarHandle")
    (hlen : ∀ sig, parseMethodDescriptor y.desc = some sig → as.length = sig.parameters.length) (M : Con W.l Z [] y bytes mx' none rm (.ref a :: as).toArray h ws Q') (hS : S0 = as.reverse ++ .ref a :: S) (hL : L.size = mx) (hf : rm.frames + 1 ≤ R.frames) (hl : (S.map fun v => v.category).sum + (mx' + 11) + rm.locals ≤ R.locals) {k' n' : Nat} (hk : k + rm.cells = k') (hn : n + rm.slots = n') (hc : k' ≤ R.cells) (hs : n' ≤ R.slots) (hws : ∀ a ∈ ws, Pw W a)
    (g : ∀ v h', Q' v h' → Keep h h' ws → Go W Q h' k' n' pc' L (v.toList ++ S)) : Go W Q h k n pc L S0 := fun T hT => by
  obtain ⟨locs, X, e, N⟩ := hT
  subst hp hS hk hn
  obtain ⟨v, _, ⟨T', L1, k1, n1⟩, -, X', ⟨L2, ⟨hQ, hL2, hK⟩, l1, y1, z1⟩, st⟩ := X.specialBack C.x (y := y) hy1 C.o (mvT C.z w1) (mvT C.z w2) (mvT C.z w4) hy (backOf (R := W.R) (W := (S.map fun v => v.category).sum) (Q := fun v h' L => Q' v h' ∧ (∀ y ∈ L, y.base ∈ ws ∨ h.size ≤ y.base) ∧ Keep h h' ws) M.keeps C.z w4 w3 (by rw [C.r]; exact hf) (by rw [C.r]; exact hl)) (g := mkF W.m pc L (as.reverse ++ .ref a :: S)) rfl (by rw [C.ml]; exact hL) (Steps.refl _) (a := a) (argsL := as) (rest := S) hlen rfl (by show 2 * 0 + _ ≤ _; omega) (C.b hd) (fun _ _ => ⟨rfl, e, by rw [C.r]; exact hc, by rw [C.r]; exact hs⟩)
  dsimp only [Pt.U, Pt.locs, Pt.cells, Pt.slots] at X' l1 y1 z1 st hQ hK
  subst l1 y1 z1
  exact Out.st (fun t z => st.trans z) (g v T'.heap hQ hK T' ⟨_, X', rfl, post_call (T' := T') (k' := 0) (n' := 0) X e N hws hL2⟩)
theorem g_virtual (C : Cx W Z R own code mx ret nm wsx hx0) {i : Nat} {y : MethodName} {bytes : ByteArray} {mx' : Nat} {ret' : Option FieldType} {rm : Room} {as : List Value} {ws : List Addr} {Q' : Option Value → Heap → Prop} {S0 : List Value} {a : Addr} {Cl : String} (hd : decode code pc = .ok (.invokevirtual i, 3)) (hp : pc + 3 = pc')
    (w1 : (Jvm.Cond.methodLink own i y).before a0 Z = true) (w2 : (Jvm.Cond.instanceMethod y).before a0 Z = true) (w3 : (Jvm.Cond.initialized y.cls).before a0 Z = true) (w4 : (Jvm.Cond.code y bytes mx' ret').before a0 Z = true) (w5 : (Jvm.Cond.declares y).before a0 Z = true) (w6 : (Jvm.Cond.selects Cl y y).before a0 Z = true) (hy : y.cls ≠ "java/lang/invoke/MethodHandle" ∧ y.cls ≠ "java/lang/invoke/VarHandle") (hE : Exa Z h a Cl)
    (hlen : ∀ sig, parseMethodDescriptor y.desc = some sig → as.length = sig.parameters.length) (M : Con W.l Z [] y bytes mx' ret' rm (.ref a :: as).toArray h ws Q') (hS : S0 = as.reverse ++ .ref a :: S) (hL : L.size = mx) (hf : rm.frames + 1 ≤ R.frames) (hl : (S.map fun v => v.category).sum + (mx' + 11) + rm.locals ≤ R.locals) {k' n' : Nat} (hk : k + rm.cells = k') (hn : n + rm.slots = n') (hc : k' ≤ R.cells) (hs : n' ≤ R.slots) (hws : ∀ a ∈ ws, Pw W a)
    (g : ∀ v h', Q' v h' → Keep h h' ws → Go W Q h' k' n' pc' L (v.toList ++ S)) : Go W Q h k n pc L S0 := fun T hT => by
  obtain ⟨locs, X, e, N⟩ := hT
  subst hp hS hk hn
  obtain ⟨cq, kq, qa, qb, qc⟩ := isOf C.z e hE
  obtain ⟨v, _, ⟨T', L1, k1, n1⟩, -, X', ⟨L2, ⟨hQ, hL2, hK⟩, l1, y1, z1⟩, st⟩ := X.virtualBack C.x (y := y) (z := y) C.o (mvT C.z w1) (mvT C.z w5) (notFace_of_selects (args := #[]) (mvT C.z w6)) (mvT C.z w6) (mvT C.z w2) hy (backOf (R := W.R) (W := (S.map fun v => v.category).sum) (Q := fun v h' L => Q' v h' ∧ (∀ y ∈ L, y.base ∈ ws ∨ h.size ≤ y.base) ∧ Keep h h' ws) M.keeps C.z w4 w3 (by rw [C.r]; exact hf) (by rw [C.r]; exact hl)) qa qc (g := mkF W.m pc L (as.reverse ++ .ref a :: S)) rfl (by rw [C.ml]; exact hL) (Steps.refl _) (argsL := as) (rest := S) hlen rfl (by show 2 * 0 + _ ≤ _; omega) (C.b hd) (fun _ _ => ⟨rfl, e, by rw [C.r]; exact hc, by rw [C.r]; exact hs⟩)
  dsimp only [Pt.U, Pt.locs, Pt.cells, Pt.slots] at X' l1 y1 z1 st hQ hK
  subst l1 y1 z1
  exact Out.st (fun t z => st.trans z) (g v T'.heap hQ hK T' ⟨_, X', rfl, post_call (T' := T') (k' := 0) (n' := 0) X e N hws hL2⟩)
theorem g_getstatic (C : Cx W Z R own code mx ret nm wsx hx0) {i : Nat} {st : Addr} {Cs f d : String} {v : Value} (hd : decode code pc = .ok (.getstatic i, 3)) (hp : pc + 3 = pc') (w : (Jvm.Cond.fieldLink own i Cs f d).before a0 Z = true) (F : StA Z h st Cs f d v) (g : Go W Q h k n pc' L (v :: S)) : Go W Q h k n pc L S := fun T hT => by
  obtain ⟨locs, X, e, N⟩ := hT
  subst hp
  obtain ⟨T', X', e', st'⟩ := getS (host := "") X C.x C.z C.o w Via.refl e F.sta (g := mkF W.m pc L S) rfl (C.b hd)
  exact Out.st (fun t z => st' _ z) (g T' ⟨_, X', e', N⟩)
/-- a private method -/
theorem g_private (C : Cx W Z R own code mx ret nm wsx hx0) {i : Nat} {y : MethodName} {bytes : ByteArray} {mx' : Nat} {ret' : Option FieldType} {rm : Room} {as : List Value} {ws : List Addr} {Q' : Option Value → Heap → Prop} {S0 : List Value} {a : Addr} {Cl : String} {nI : Nat} (hd : decode code pc = .ok (.invokevirtual i, 3)) (hp : pc + 3 = pc')
    (w1 : (Jvm.Cond.methodLink own i y).before a0 Z = true) (w2 : (Jvm.Cond.instanceMethod y).before a0 Z = true) (w3 : (Jvm.Cond.initialized y.cls).before a0 Z = true) (w4 : (Jvm.Cond.code y bytes mx' ret').before a0 Z = true) (w5 : (Jvm.Cond.privateMethod y).before a0 Z = true) (w6 : (Jvm.Cond.instantiable y.cls nI).before a0 Z = true) (hy : y.cls ≠ "java/lang/invoke/MethodHandle" ∧ y.cls ≠ "java/lang/invoke/VarHandle") (hE : Exa Z h a Cl)
    (hlen : ∀ sig, parseMethodDescriptor y.desc = some sig → as.length = sig.parameters.length) (M : Con W.l Z [] y bytes mx' ret' rm (.ref a :: as).toArray h ws Q') (hS : S0 = as.reverse ++ .ref a :: S) (hL : L.size = mx) (hf : rm.frames + 1 ≤ R.frames) (hl : (S.map fun v => v.category).sum + (mx' + 11) + rm.locals ≤ R.locals) {k' n' : Nat} (hk : k + rm.cells = k') (hn : n + rm.slots = n') (hc : k' ≤ R.cells) (hs : n' ≤ R.slots) (hws : ∀ a ∈ ws, Pw W a)
    (g : ∀ v h', Q' v h' → Keep h h' ws → Go W Q h' k' n' pc' L (v.toList ++ S)) : Go W Q h k n pc L S0 := fun T hT => by
  obtain ⟨locs, X, e, N⟩ := hT
  subst hp hS hk hn
  obtain ⟨cq, kq, qa, qb, cellq, qc1, qc2, qc3⟩ := isOf C.z e hE
  obtain ⟨cI, kI, i1, i2, -, i4, -⟩ := Cond.instantiable_spec (args := #[]) (idx := []) (mvT C.z w6)
  have hP := Cond.privateMethod_at (args := #[]) (mvT C.z w5)
  obtain ⟨v, _, ⟨T', L1, k1, n1⟩, -, X', ⟨L2, ⟨hQ, hL2, hK⟩, l1, y1, z1⟩, st⟩ := X.privateBack C.x (y := y) C.o (mvT C.z w1) (mvT C.z w2) (Stand.selects_self_of_private i1 i2 (Bool.or_eq_false_iff.mp i4).1 hP (mvT C.z w2) hy) hP (mvT C.z w4) hy (backOf (R := W.R) (W := (S.map fun v => v.category).sum) (Q := fun v h' L => Q' v h' ∧ (∀ y ∈ L, y.base ∈ ws ∨ h.size ≤ y.base) ∧ Keep h h' ws) M.keeps C.z w4 w3 (by rw [C.r]; exact hf) (by rw [C.r]; exact hl)) (g := mkF W.m pc L (as.reverse ++ .ref a :: S)) rfl (by rw [C.ml]; exact hL) (Steps.refl _) qc1 (fun q c => by rw [c] at qc3; cases qc3) (argsL := as) (rest := S) hlen rfl (by show 2 * 0 + _ ≤ _; omega) (C.b hd) (fun _ _ => ⟨rfl, e, by rw [C.r]; exact hc, by rw [C.r]; exact hs⟩)
  dsimp only [Pt.U, Pt.locs, Pt.cells, Pt.slots] at X' l1 y1 z1 st hQ hK
  subst l1 y1 z1
  exact Out.st (fun t z => st.trans z) (g v T'.heap hQ hK T' ⟨_, X', rfl, post_call (T' := T') (k' := 0) (n' := 0) X e N hws hL2⟩)
theorem g_staticP (C : Cx W Z R own code mx ret nm wsx hx0) {i : Nat} {y : MethodName} {bytes : ByteArray} {mx' : Nat} {ret' : Option FieldType} {rm : Room} {as : List Value} {r : Option Value} {S0 S1 : List Value} (hd : decode code pc = .ok (.invokestatic i, 3)) (hp : pc + 3 = pc')
    (w1 : (Jvm.Cond.methodLink own i y).before a0 Z = true) (w2 : (Jvm.Cond.static y).before a0 Z = true) (w3 : (Jvm.Cond.initialized y.cls).before a0 Z = true) (w4 : (Jvm.Cond.code y bytes mx' ret').before a0 Z = true) (hy : y.cls ≠ "java/lang/invoke/MethodHandle" ∧ y.cls ≠ "java/lang/invoke/VarHandle")
    (hlen : ∀ sig, parseMethodDescriptor y.desc = some sig → as.length = sig.parameters.length) (M : Con W.l Z [] y bytes mx' ret' rm as.toArray h [] (fun v h' => v = r ∧ h' = h)) (hS : S0 = as.reverse ++ S) (hL : L.size = mx) (hf : rm.frames + 1 ≤ R.frames) (hl : (S.map fun v => v.category).sum + (mx' + 11) + rm.locals ≤ R.locals) {k' n' : Nat} (hk : k + rm.cells = k') (hn : n + rm.slots = n') (hc : k' ≤ R.cells) (hs : n' ≤ R.slots) (hS1 : r.toList ++ S = S1)
    (g : Go W Q h k' n' pc' L S1) : Go W Q h k n pc L S0 :=
  g_static C hd hp w1 w2 w3 w4 hy hlen M hS hL hf hl hk hn hc hs all0 fun v h' q K => by
    obtain ⟨rfl, rfl⟩ := q
    rw [hS1]; exact g
theorem g_virtualP (C : Cx W Z R own code mx ret nm wsx hx0) {i : Nat} {y : MethodName} {bytes : ByteArray} {mx' : Nat} {ret' : Option FieldType} {rm : Room} {as : List Value} {r : Option Value} {S0 S1 : List Value} {a : Addr} {Cl : String} (hd : decode code pc = .ok (.invokevirtual i, 3)) (hp : pc + 3 = pc')
    (w1 : (Jvm.Cond.methodLink own i y).before a0 Z = true) (w2 : (Jvm.Cond.instanceMethod y).before a0 Z = true) (w3 : (Jvm.Cond.initialized y.cls).before a0 Z = true) (w4 : (Jvm.Cond.code y bytes mx' ret').before a0 Z = true) (w5 : (Jvm.Cond.declares y).before a0 Z = true) (w6 : (Jvm.Cond.selects Cl y y).before a0 Z = true) (hy : y.cls ≠ "java/lang/invoke/MethodHandle" ∧ y.cls ≠ "java/lang/invoke/VarHandle") (hE : Exa Z h a Cl)
    (hlen : ∀ sig, parseMethodDescriptor y.desc = some sig → as.length = sig.parameters.length) (M : Con W.l Z [] y bytes mx' ret' rm (.ref a :: as).toArray h [] (fun v h' => v = r ∧ h' = h)) (hS : S0 = as.reverse ++ .ref a :: S) (hL : L.size = mx) (hf : rm.frames + 1 ≤ R.frames) (hl : (S.map fun v => v.category).sum + (mx' + 11) + rm.locals ≤ R.locals) {k' n' : Nat} (hk : k + rm.cells = k') (hn : n + rm.slots = n') (hc : k' ≤ R.cells) (hs : n' ≤ R.slots) (hS1 : r.toList ++ S = S1)
    (g : Go W Q h k' n' pc' L S1) : Go W Q h k n pc L S0 :=
  g_virtual C hd hp w1 w2 w3 w4 w5 w6 hy hE hlen M hS hL hf hl hk hn hc hs all0 fun v h' q K => by
    obtain ⟨rfl, rfl⟩ := q
    rw [hS1]; exact g
theorem g_privateP (C : Cx W Z R own code mx ret nm wsx hx0) {i : Nat} {y : MethodName} {bytes : ByteArray} {mx' : Nat} {ret' : Option FieldType} {rm : Room} {as : List Value} {r : Option Value} {S0 S1 : List Value} {a : Addr} {Cl : String} {nI : Nat} (hd : decode code pc = .ok (.invokevirtual i, 3)) (hp : pc + 3 = pc')
    (w1 : (Jvm.Cond.methodLink own i y).before a0 Z = true) (w2 : (Jvm.Cond.instanceMethod y).before a0 Z = true) (w3 : (Jvm.Cond.initialized y.cls).before a0 Z = true) (w4 : (Jvm.Cond.code y bytes mx' ret').before a0 Z = true) (w5 : (Jvm.Cond.privateMethod y).before a0 Z = true) (w6 : (Jvm.Cond.instantiable y.cls nI).before a0 Z = true) (hy : y.cls ≠ "java/lang/invoke/MethodHandle" ∧ y.cls ≠ "java/lang/invoke/VarHandle") (hE : Exa Z h a Cl)
    (hlen : ∀ sig, parseMethodDescriptor y.desc = some sig → as.length = sig.parameters.length) (M : Con W.l Z [] y bytes mx' ret' rm (.ref a :: as).toArray h [] (fun v h' => v = r ∧ h' = h)) (hS : S0 = as.reverse ++ .ref a :: S) (hL : L.size = mx) (hf : rm.frames + 1 ≤ R.frames) (hl : (S.map fun v => v.category).sum + (mx' + 11) + rm.locals ≤ R.locals) {k' n' : Nat} (hk : k + rm.cells = k') (hn : n + rm.slots = n') (hc : k' ≤ R.cells) (hs : n' ≤ R.slots) (hS1 : r.toList ++ S = S1)
    (g : Go W Q h k' n' pc' L S1) : Go W Q h k n pc L S0 :=
  g_private C hd hp w1 w2 w3 w4 w5 w6 hy hE hlen M hS hL hf hl hk hn hc hs all0 fun v h' q K => by
    obtain ⟨rfl, rfl⟩ := q
    rw [hS1]; exact g
theorem g_nameI {x : Int32} (g : ∀ z : Int32, z = x → Go W Q h k n pc L (.int z :: S)) : Go W Q h k n pc L (.int x :: S) := g x rfl
theorem g_nameJ {x : Int64} (g : ∀ z : Int64, z = x → Go W Q h k n pc L (.long z :: S)) : Go W Q h k n pc L (.long x :: S) := g x rfl
/-! a body's contract out of its walk -/
theorem locals_of {as : List Value} {mx0 : Nat} {Ls : List Slot} (h : (as.flatMap fun v => if v.category = 2 then [.val v, .second] else [.val v]) ++ List.replicate (mx0 - (as.flatMap fun v => if v.category = 2 then [.val v, .second] else [Slot.val v]).length) .unset = Ls) : argsToLocals as.toArray mx0 = Ls.toArray := by
  have e : ∀ (l : List Value) (acc : Array Slot), (l.foldl (fun acc v => if v.category = 2 then (acc.push (.val v)).push .second else acc.push (.val v)) acc) = acc ++ (l.flatMap fun v => if v.category = 2 then [.val v, .second] else [Slot.val v]).toArray := by
    intro l
    induction l with
    | nil => intro acc; simp
    | cons v l ih =>
      intro acc
      rw [List.foldl_cons, ih, List.flatMap_cons]
      split <;> simp
  subst h
  simp only [argsToLocals, List.foldl_toArray', e]
  simp
theorem Con.of_go {l : Launch} {w0 : List Jvm.Cond} {y : MethodName} {bytes : ByteArray} {ret' : Option FieldType} {rm : Room} {as : Array Value} {ws : List Addr} {Q' : Option Value → Heap → Prop} {mx' : Nat} {L0 : Array Slot} (hpl : plainFor y = true) (hL : argsToLocals as mx' = L0)
    (body : ∀ (W : Wk) (Q : Option Value → Heap → Prop), Q = Q' → W.l = l → Cx W Z rm y.cls bytes mx' ret' y.name ws h → Go W Q h 0 0 0 L0 []) : Con l Z w0 y bytes mx' ret' rm as h ws Q' := by
  refine MetFree.of_bodySF hpl hisR ?_
  intro p e s m args below meth c s₁ Bd hml0 hP hK
  obtain ⟨rfl, hZ, rfl⟩ := hP
  subst hL
  have X0 : Stand p l e rm s m args below meth c s₁ [] 0 0 := Stand.of_body Bd
  have e0 : s₁.heap = s.heap := by rw [Bd.state]; rfl
  obtain ⟨s2, o, h1, h2, h3, v, L, h4, ⟨h5, h6⟩, h7⟩ := body (p, l, e, rm, s, m, args, below, meth, c, ws) _ rfl rfl ⟨Bd.exec, hZ, findClass_of_methodNamed Bd.named, Bd.bytes, hml0, Bd.returns, Bd.notSynchronized, (name_of_methodNamed Bd.named Bd.method).1, rfl, rfl, rfl⟩ s₁ ⟨[], X0, e0, fun _ q => nomatch q⟩
  exact ⟨s2, o, h1, h2, h3, v, L, h4, ⟨h5, h6⟩, h7⟩
end Steps0
end Jvm.OwnKit
namespace Jvm.OwnKit
open Jvm.RoadKit
/-- parents ps, depths D: the six first entries are a tree -/
def Tree (ps : List Int32) (D : Nat → Nat) : Prop := ps.length = 16 ∧ ∀ m, m < 6 → ((ps.getD m 0).toInt < 0 ∧ D m = 0) ∨ ∃ q, q < 6 ∧ (ps.getD m 0).toInt = (q : Nat) ∧ D m = D q + 1
theorem inc1 {x : Int32} {a : Nat} (h : x.toInt = a) (l : a ≤ 100) : (x + 1).toInt = (a + 1 : Nat) := by
  have y1 := c_iadd x 1
  have y2 := rng32 (x + 1)
  have y3 : (1 : Int32).toInt = 1 := rfl
  rw [y3] at y1
  omega
theorem tree_of {p2 p3 p4 p5 e2 e3 e4 e5 : Int32} {a2 a3 a4 a5 : Nat} (h2 : p2.toInt = a2) (h3 : p3.toInt = a3) (h4 : p4.toInt = a4) (h5 : p5.toInt = a5) (b2 : a2 < 2) (b3 : a3 < 3) (b4 : a4 < 4) (b5 : a5 < 5)
    (q2 : e2 = ([0, 1, 0, 0, 0, 0] : List Int32).getD a2 0 + 1) (q3 : e3 = ([0, 1, e2, 0, 0, 0] : List Int32).getD a3 0 + 1) (q4 : e4 = ([0, 1, e2, e3, 0, 0] : List Int32).getD a4 0 + 1) (q5 : e5 = ([0, 1, e2, e3, e4, 0] : List Int32).getD a5 0 + 1) :
    ∃ D : Nat → Nat, Tree [-1, 0, p2, p3, p4, p5, 0, 0, 0, 0, 0, 0, 0, 0, 0, 0] D ∧ ∀ m, m < 6 → (([0, 1, e2, e3, e4, e5] : List Int32).getD m 0).toInt = D m := by
  have z0 : (0 : Int32).toInt = (0 : Nat) := rfl
  have z1 : (1 : Int32).toInt = (1 : Nat) := rfl
  obtain ⟨d2, f2, g2⟩ : ∃ d2 : Nat, e2.toInt = d2 ∧ (a2 = 0 ∧ d2 = 1 ∨ a2 = 1 ∧ d2 = 2) := by
    rcases (by omega : a2 = 0 ∨ a2 = 1) with rfl | rfl
    · exact ⟨1, by rw [q2]; exact inc1 z0 (by omega), Or.inl ⟨rfl, rfl⟩⟩
    · exact ⟨2, by rw [q2]; exact inc1 z1 (by omega), Or.inr ⟨rfl, rfl⟩⟩
  obtain ⟨d3, f3, g3⟩ : ∃ d3 : Nat, e3.toInt = d3 ∧ (a3 = 0 ∧ d3 = 1 ∨ a3 = 1 ∧ d3 = 2 ∨ a3 = 2 ∧ d3 = d2 + 1) := by
    rcases (by omega : a3 = 0 ∨ a3 = 1 ∨ a3 = 2) with rfl | rfl | rfl
    · exact ⟨1, by rw [q3]; exact inc1 z0 (by omega), Or.inl ⟨rfl, rfl⟩⟩
    · exact ⟨2, by rw [q3]; exact inc1 z1 (by omega), Or.inr (Or.inl ⟨rfl, rfl⟩)⟩
    · exact ⟨d2 + 1, by rw [q3]; exact inc1 f2 (by omega), Or.inr (Or.inr ⟨rfl, rfl⟩)⟩
  obtain ⟨d4, f4, g4⟩ : ∃ d4 : Nat, e4.toInt = d4 ∧ (a4 = 0 ∧ d4 = 1 ∨ a4 = 1 ∧ d4 = 2 ∨ a4 = 2 ∧ d4 = d2 + 1 ∨ a4 = 3 ∧ d4 = d3 + 1) := by
    rcases (by omega : a4 = 0 ∨ a4 = 1 ∨ a4 = 2 ∨ a4 = 3) with rfl | rfl | rfl | rfl
    · exact ⟨1, by rw [q4]; exact inc1 z0 (by omega), Or.inl ⟨rfl, rfl⟩⟩
    · exact ⟨2, by rw [q4]; exact inc1 z1 (by omega), Or.inr (Or.inl ⟨rfl, rfl⟩)⟩
    · exact ⟨d2 + 1, by rw [q4]; exact inc1 f2 (by omega), Or.inr (Or.inr (Or.inl ⟨rfl, rfl⟩))⟩
    · exact ⟨d3 + 1, by rw [q4]; exact inc1 f3 (by omega), Or.inr (Or.inr (Or.inr ⟨rfl, rfl⟩))⟩
  obtain ⟨d5, f5, g5⟩ : ∃ d5 : Nat, e5.toInt = d5 ∧ (a5 = 0 ∧ d5 = 1 ∨ a5 = 1 ∧ d5 = 2 ∨ a5 = 2 ∧ d5 = d2 + 1 ∨ a5 = 3 ∧ d5 = d3 + 1 ∨ a5 = 4 ∧ d5 = d4 + 1) := by
    rcases (by omega : a5 = 0 ∨ a5 = 1 ∨ a5 = 2 ∨ a5 = 3 ∨ a5 = 4) with rfl | rfl | rfl | rfl | rfl
    · exact ⟨1, by rw [q5]; exact inc1 z0 (by omega), Or.inl ⟨rfl, rfl⟩⟩
    · exact ⟨2, by rw [q5]; exact inc1 z1 (by omega), Or.inr (Or.inl ⟨rfl, rfl⟩)⟩
    · exact ⟨d2 + 1, by rw [q5]; exact inc1 f2 (by omega), Or.inr (Or.inr (Or.inl ⟨rfl, rfl⟩))⟩
    · exact ⟨d3 + 1, by rw [q5]; exact inc1 f3 (by omega), Or.inr (Or.inr (Or.inr (Or.inl ⟨rfl, rfl⟩)))⟩
    · exact ⟨d4 + 1, by rw [q5]; exact inc1 f4 (by omega), Or.inr (Or.inr (Or.inr (Or.inr ⟨rfl, rfl⟩)))⟩
  clear q2 q3 q4 q5
  let D : Nat → Nat := fun m => ([0, 1, d2, d3, d4, d5] : List Nat).getD m 0
  have D0 : D 0 = 0 := rfl
  have D1 : D 1 = 1 := rfl
  have D2 : D 2 = d2 := rfl
  have D3 : D 3 = d3 := rfl
  have D4 : D 4 = d4 := rfl
  have D5 : D 5 = d5 := rfl
  refine ⟨D, ⟨rfl, fun m hm => ?_⟩, fun m hm => ?_⟩
  · rcases (by omega : m = 0 ∨ m = 1 ∨ m = 2 ∨ m = 3 ∨ m = 4 ∨ m = 5) with rfl | rfl | rfl | rfl | rfl | rfl
    · exact Or.inl ⟨(by decide : (-1 : Int32).toInt < 0), rfl⟩
    · exact Or.inr ⟨0, by omega, rfl, rfl⟩
    · refine Or.inr ⟨a2, by omega, h2, ?_⟩
      rcases g2 with ⟨rfl, e⟩ | ⟨rfl, e⟩ <;> omega
    · refine Or.inr ⟨a3, by omega, h3, ?_⟩
      rcases g3 with ⟨rfl, e⟩ | ⟨rfl, e⟩ | ⟨rfl, e⟩ <;> omega
    · refine Or.inr ⟨a4, by omega, h4, ?_⟩
      rcases g4 with ⟨rfl, e⟩ | ⟨rfl, e⟩ | ⟨rfl, e⟩ | ⟨rfl, e⟩ <;> omega
    · refine Or.inr ⟨a5, by omega, h5, ?_⟩
      rcases g5 with ⟨rfl, e⟩ | ⟨rfl, e⟩ | ⟨rfl, e⟩ | ⟨rfl, e⟩ | ⟨rfl, e⟩ <;> omega
  · rcases (by omega : m = 0 ∨ m = 1 ∨ m = 2 ∨ m = 3 ∨ m = 4 ∨ m = 5) with rfl | rfl | rfl | rfl | rfl | rfl
    · rfl
    · rfl
    · exact f2
    · exact f3
    · exact f4
    · exact f5
end Jvm.OwnKit
namespace Jvm.Pilot.@@N@@
open Jvm Jvm.ClassFile Sem Op Lib Jvm.Free Jvm.Stand Jvm.LawKit Jvm.RoadKit Jvm.OwnKit Bundle Jvm.Pilot.@@N@@.Jvm.D
theorem pd_0 : parseMethodDescriptor "()V" = some ⟨[], none⟩ := by decide +kernel
theorem pd_1 : parseMethodDescriptor "(Lcom/example/infinite_marking/infinitemarking/analysis/TreeQuotient;)V" = some ⟨[(.object "com/example/infinite_marking/infinitemarking/analysis/TreeQuotient")], none⟩ := by decide +kernel
theorem pd_2 : parseMethodDescriptor "(IILcom/example/infinite_marking/infinitemarking/model/Transition;)V" = some ⟨[.int, .int, (.object "com/example/infinite_marking/infinitemarking/model/Transition")], none⟩ := by decide +kernel
theorem pd_3 : parseMethodDescriptor "(II)Z" = some ⟨[.int, .int], some .boolean⟩ := by decide +kernel
theorem d1_0 : decode prog_50_method_1_code 0 = .ok (.aload_n 0, 1) := by decide +kernel
theorem d1_1 : decode prog_50_method_1_code 1 = .ok (.invokespecial 1, 3) := by decide +kernel
theorem d1_4 : decode prog_50_method_1_code 4 = .ok (.aload_n 0, 1) := by decide +kernel
theorem d1_5 : decode prog_50_method_1_code 5 = .ok (.bipush 16, 2) := by decide +kernel
theorem d1_7 : decode prog_50_method_1_code 7 = .ok (.newarray .int, 2) := by decide +kernel
theorem d1_9 : decode prog_50_method_1_code 9 = .ok (.putfield 7, 3) := by decide +kernel
theorem d1_12 : decode prog_50_method_1_code 12 = .ok (.aload_n 0, 1) := by decide +kernel
theorem d1_13 : decode prog_50_method_1_code 13 = .ok (.bipush 16, 2) := by decide +kernel
theorem d1_15 : decode prog_50_method_1_code 15 = .ok (.newarray .int, 2) := by decide +kernel
theorem d1_17 : decode prog_50_method_1_code 17 = .ok (.putfield 13, 3) := by decide +kernel
theorem d1_20 : decode prog_50_method_1_code 20 = .ok (.aload_n 0, 1) := by decide +kernel
theorem d1_21 : decode prog_50_method_1_code 21 = .ok (.bipush 16, 2) := by decide +kernel
theorem d1_23 : decode prog_50_method_1_code 23 = .ok (.anewarray 16, 3) := by decide +kernel
theorem d1_26 : decode prog_50_method_1_code 26 = .ok (.putfield 18, 3) := by decide +kernel
theorem d1_29 : decode prog_50_method_1_code 29 = .ok (.aload_n 0, 1) := by decide +kernel
theorem d1_30 : decode prog_50_method_1_code 30 = .ok (.bipush 16, 2) := by decide +kernel
theorem d1_32 : decode prog_50_method_1_code 32 = .ok (.newarray .int, 2) := by decide +kernel
theorem d1_34 : decode prog_50_method_1_code 34 = .ok (.putfield 22, 3) := by decide +kernel
theorem d1_37 : decode prog_50_method_1_code 37 = .ok (.aload_n 0, 1) := by decide +kernel
theorem d1_38 : decode prog_50_method_1_code 38 = .ok (.bipush 16, 2) := by decide +kernel
theorem d1_40 : decode prog_50_method_1_code 40 = .ok (.anewarray 16, 3) := by decide +kernel
theorem d1_43 : decode prog_50_method_1_code 43 = .ok (.putfield 25, 3) := by decide +kernel
theorem d1_46 : decode prog_50_method_1_code 46 = .ok (.aload_n 0, 1) := by decide +kernel
theorem d1_47 : decode prog_50_method_1_code 47 = .ok (.bipush 16, 2) := by decide +kernel
theorem d1_49 : decode prog_50_method_1_code 49 = .ok (.newarray .int, 2) := by decide +kernel
theorem d1_51 : decode prog_50_method_1_code 51 = .ok (.putfield 28, 3) := by decide +kernel
theorem d1_54 : decode prog_50_method_1_code 54 = .ok (.aload_n 0, 1) := by decide +kernel
theorem d1_55 : decode prog_50_method_1_code 55 = .ok (.new 31, 3) := by decide +kernel
theorem d1_58 : decode prog_50_method_1_code 58 = .ok (.dup, 1) := by decide +kernel
theorem d1_59 : decode prog_50_method_1_code 59 = .ok (.invokespecial 33, 3) := by decide +kernel
theorem d1_62 : decode prog_50_method_1_code 62 = .ok (.putfield 34, 3) := by decide +kernel
theorem d1_65 : decode prog_50_method_1_code 65 = .ok (.aload_n 0, 1) := by decide +kernel
theorem d1_66 : decode prog_50_method_1_code 66 = .ok (.new 38, 3) := by decide +kernel
theorem d1_69 : decode prog_50_method_1_code 69 = .ok (.dup, 1) := by decide +kernel
theorem d1_70 : decode prog_50_method_1_code 70 = .ok (.invokespecial 40, 3) := by decide +kernel
theorem d1_73 : decode prog_50_method_1_code 73 = .ok (.putfield 41, 3) := by decide +kernel
theorem d1_76 : decode prog_50_method_1_code 76 = .ok (.aload_n 0, 1) := by decide +kernel
theorem d1_77 : decode prog_50_method_1_code 77 = .ok (.new 38, 3) := by decide +kernel
theorem d1_80 : decode prog_50_method_1_code 80 = .ok (.dup, 1) := by decide +kernel
theorem d1_81 : decode prog_50_method_1_code 81 = .ok (.invokespecial 40, 3) := by decide +kernel
theorem d1_84 : decode prog_50_method_1_code 84 = .ok (.putfield 45, 3) := by decide +kernel
theorem d1_87 : decode prog_50_method_1_code 87 = .ok (.aload_n 0, 1) := by decide +kernel
theorem d1_88 : decode prog_50_method_1_code 88 = .ok (.aload_n 1, 1) := by decide +kernel
theorem d1_89 : decode prog_50_method_1_code 89 = .ok (.putfield 48, 3) := by decide +kernel
theorem d1_92 : decode prog_50_method_1_code 92 = .ok (.return_, 1) := by decide +kernel
theorem d3_0 : decode jdk_38_method_2_code 0 = .ok (.aload_n 0, 1) := by decide +kernel
theorem d3_1 : decode jdk_38_method_2_code 1 = .ok (.invokespecial 1, 3) := by decide +kernel
theorem d3_4 : decode jdk_38_method_2_code 4 = .ok (.aload_n 0, 1) := by decide +kernel
theorem d3_5 : decode jdk_38_method_2_code 5 = .ok (.getstatic 39, 3) := by decide +kernel
theorem d3_8 : decode jdk_38_method_2_code 8 = .ok (.putfield 9, 3) := by decide +kernel
theorem d3_11 : decode jdk_38_method_2_code 11 = .ok (.return_, 1) := by decide +kernel
theorem d4_0 : decode jdk_39_method_1_code 0 = .ok (.aload_n 0, 1) := by decide +kernel
theorem d4_1 : decode jdk_39_method_1_code 1 = .ok (.invokespecial 1, 3) := by decide +kernel
theorem d4_4 : decode jdk_39_method_1_code 4 = .ok (.aload_n 0, 1) := by decide +kernel
theorem d4_5 : decode jdk_39_method_1_code 5 = .ok (.iconst 0, 1) := by decide +kernel
theorem d4_6 : decode jdk_39_method_1_code 6 = .ok (.putfield 7, 3) := by decide +kernel
theorem d4_9 : decode jdk_39_method_1_code 9 = .ok (.return_, 1) := by decide +kernel
theorem d5_0 : decode jdk_22_method_1_code 0 = .ok (.aload_n 0, 1) := by decide +kernel
theorem d5_1 : decode jdk_22_method_1_code 1 = .ok (.invokespecial 1, 3) := by decide +kernel
theorem d5_4 : decode jdk_22_method_1_code 4 = .ok (.return_, 1) := by decide +kernel
theorem d6_0 : decode jdk_69_method_7_code 0 = .ok (.aload_n 0, 1) := by decide +kernel
theorem d6_1 : decode jdk_69_method_7_code 1 = .ok (.invokespecial 43, 3) := by decide +kernel
theorem d6_4 : decode jdk_69_method_7_code 4 = .ok (.aload_n 0, 1) := by decide +kernel
theorem d6_5 : decode jdk_69_method_7_code 5 = .ok (.ldc 92, 2) := by decide +kernel
theorem d6_7 : decode jdk_69_method_7_code 7 = .ok (.putfield 81, 3) := by decide +kernel
theorem d6_10 : decode jdk_69_method_7_code 10 = .ok (.return_, 1) := by decide +kernel
theorem d7_0 : decode jdk_71_method_1_code 0 = .ok (.aload_n 0, 1) := by decide +kernel
theorem d7_1 : decode jdk_71_method_1_code 1 = .ok (.invokespecial 1, 3) := by decide +kernel
theorem d7_4 : decode jdk_71_method_1_code 4 = .ok (.return_, 1) := by decide +kernel
theorem d8_0 : decode prog_50_method_2_code 0 = .ok (.aload_n 0, 1) := by decide +kernel
theorem d8_1 : decode prog_50_method_2_code 1 = .ok (.getfield 52, 3) := by decide +kernel
theorem d8_4 : decode prog_50_method_2_code 4 = .ok (.aload_n 0, 1) := by decide +kernel
theorem d8_5 : decode prog_50_method_2_code 5 = .ok (.getfield 7, 3) := by decide +kernel
theorem d8_8 : decode prog_50_method_2_code 8 = .ok (.arraylength, 1) := by decide +kernel
theorem d8_9 : decode prog_50_method_2_code 9 = .ok (.if_icmp .ne 60, 3) := by decide +kernel
theorem d8_12 : decode prog_50_method_2_code 12 = .ok (.aload_n 0, 1) := by decide +kernel
theorem d8_13 : decode prog_50_method_2_code 13 = .ok (.aload_n 0, 1) := by decide +kernel
theorem d8_14 : decode prog_50_method_2_code 14 = .ok (.getfield 7, 3) := by decide +kernel
theorem d8_17 : decode prog_50_method_2_code 17 = .ok (.aload_n 0, 1) := by decide +kernel
theorem d8_18 : decode prog_50_method_2_code 18 = .ok (.getfield 52, 3) := by decide +kernel
theorem d8_21 : decode prog_50_method_2_code 21 = .ok (.invokestatic 56, 3) := by decide +kernel
theorem d8_24 : decode prog_50_method_2_code 24 = .ok (.invokestatic 60, 3) := by decide +kernel
theorem d8_27 : decode prog_50_method_2_code 27 = .ok (.putfield 7, 3) := by decide +kernel
theorem d8_30 : decode prog_50_method_2_code 30 = .ok (.aload_n 0, 1) := by decide +kernel
theorem d8_31 : decode prog_50_method_2_code 31 = .ok (.aload_n 0, 1) := by decide +kernel
theorem d8_32 : decode prog_50_method_2_code 32 = .ok (.getfield 13, 3) := by decide +kernel
theorem d8_35 : decode prog_50_method_2_code 35 = .ok (.aload_n 0, 1) := by decide +kernel
theorem d8_36 : decode prog_50_method_2_code 36 = .ok (.getfield 52, 3) := by decide +kernel
theorem d8_39 : decode prog_50_method_2_code 39 = .ok (.invokestatic 56, 3) := by decide +kernel
theorem d8_42 : decode prog_50_method_2_code 42 = .ok (.invokestatic 60, 3) := by decide +kernel
theorem d8_45 : decode prog_50_method_2_code 45 = .ok (.putfield 13, 3) := by decide +kernel
theorem d8_48 : decode prog_50_method_2_code 48 = .ok (.aload_n 0, 1) := by decide +kernel
theorem d8_49 : decode prog_50_method_2_code 49 = .ok (.aload_n 0, 1) := by decide +kernel
theorem d8_50 : decode prog_50_method_2_code 50 = .ok (.getfield 18, 3) := by decide +kernel
theorem d8_53 : decode prog_50_method_2_code 53 = .ok (.aload_n 0, 1) := by decide +kernel
theorem d8_54 : decode prog_50_method_2_code 54 = .ok (.getfield 52, 3) := by decide +kernel
theorem d8_57 : decode prog_50_method_2_code 57 = .ok (.invokestatic 56, 3) := by decide +kernel
theorem d8_60 : decode prog_50_method_2_code 60 = .ok (.invokestatic 66, 3) := by decide +kernel
theorem d8_63 : decode prog_50_method_2_code 63 = .ok (.checkcast 69, 3) := by decide +kernel
theorem d8_66 : decode prog_50_method_2_code 66 = .ok (.putfield 18, 3) := by decide +kernel
theorem d8_69 : decode prog_50_method_2_code 69 = .ok (.aload_n 0, 1) := by decide +kernel
theorem d8_70 : decode prog_50_method_2_code 70 = .ok (.getfield 7, 3) := by decide +kernel
theorem d8_73 : decode prog_50_method_2_code 73 = .ok (.aload_n 0, 1) := by decide +kernel
theorem d8_74 : decode prog_50_method_2_code 74 = .ok (.getfield 52, 3) := by decide +kernel
theorem d8_77 : decode prog_50_method_2_code 77 = .ok (.iload_n 1, 1) := by decide +kernel
theorem d8_78 : decode prog_50_method_2_code 78 = .ok (.iastore, 1) := by decide +kernel
theorem d8_79 : decode prog_50_method_2_code 79 = .ok (.aload_n 0, 1) := by decide +kernel
theorem d8_80 : decode prog_50_method_2_code 80 = .ok (.getfield 13, 3) := by decide +kernel
theorem d8_83 : decode prog_50_method_2_code 83 = .ok (.aload_n 0, 1) := by decide +kernel
theorem d8_84 : decode prog_50_method_2_code 84 = .ok (.getfield 52, 3) := by decide +kernel
theorem d8_87 : decode prog_50_method_2_code 87 = .ok (.iload_n 2, 1) := by decide +kernel
theorem d8_88 : decode prog_50_method_2_code 88 = .ok (.iastore, 1) := by decide +kernel
theorem d8_89 : decode prog_50_method_2_code 89 = .ok (.aload_n 0, 1) := by decide +kernel
theorem d8_90 : decode prog_50_method_2_code 90 = .ok (.getfield 18, 3) := by decide +kernel
theorem d8_93 : decode prog_50_method_2_code 93 = .ok (.aload_n 0, 1) := by decide +kernel
theorem d8_94 : decode prog_50_method_2_code 94 = .ok (.getfield 52, 3) := by decide +kernel
theorem d8_97 : decode prog_50_method_2_code 97 = .ok (.aload_n 3, 1) := by decide +kernel
theorem d8_98 : decode prog_50_method_2_code 98 = .ok (.aastore, 1) := by decide +kernel
theorem d8_99 : decode prog_50_method_2_code 99 = .ok (.aload_n 0, 1) := by decide +kernel
theorem d8_100 : decode prog_50_method_2_code 100 = .ok (.dup, 1) := by decide +kernel
theorem d8_101 : decode prog_50_method_2_code 101 = .ok (.getfield 52, 3) := by decide +kernel
theorem d8_104 : decode prog_50_method_2_code 104 = .ok (.iconst 1, 1) := by decide +kernel
theorem d8_105 : decode prog_50_method_2_code 105 = .ok (.iadd, 1) := by decide +kernel
theorem d8_106 : decode prog_50_method_2_code 106 = .ok (.putfield 52, 3) := by decide +kernel
theorem d8_109 : decode prog_50_method_2_code 109 = .ok (.return_, 1) := by decide +kernel
theorem d9_0 : decode prog_50_method_12_code 0 = .ok (.iload_n 1, 1) := by decide +kernel
theorem d9_1 : decode prog_50_method_12_code 1 = .ok (.istore_n 3, 1) := by decide +kernel
theorem d9_2 : decode prog_50_method_12_code 2 = .ok (.iconst 0, 1) := by decide +kernel
theorem d9_3 : decode prog_50_method_12_code 3 = .ok (.istore 4, 2) := by decide +kernel
theorem d9_5 : decode prog_50_method_12_code 5 = .ok (.iload 4, 2) := by decide +kernel
theorem d9_7 : decode prog_50_method_12_code 7 = .ok (.iload_n 2, 1) := by decide +kernel
theorem d9_8 : decode prog_50_method_12_code 8 = .ok (.if_icmp .ge 25, 3) := by decide +kernel
theorem d9_11 : decode prog_50_method_12_code 11 = .ok (.aload_n 0, 1) := by decide +kernel
theorem d9_12 : decode prog_50_method_12_code 12 = .ok (.getfield 13, 3) := by decide +kernel
theorem d9_15 : decode prog_50_method_12_code 15 = .ok (.iload_n 3, 1) := by decide +kernel
theorem d9_16 : decode prog_50_method_12_code 16 = .ok (.iaload, 1) := by decide +kernel
theorem d9_17 : decode prog_50_method_12_code 17 = .ok (.ifCond .lt 16, 3) := by decide +kernel
theorem d9_20 : decode prog_50_method_12_code 20 = .ok (.aload_n 0, 1) := by decide +kernel
theorem d9_21 : decode prog_50_method_12_code 21 = .ok (.getfield 13, 3) := by decide +kernel
theorem d9_24 : decode prog_50_method_12_code 24 = .ok (.iload_n 3, 1) := by decide +kernel
theorem d9_25 : decode prog_50_method_12_code 25 = .ok (.iaload, 1) := by decide +kernel
theorem d9_26 : decode prog_50_method_12_code 26 = .ok (.istore_n 3, 1) := by decide +kernel
theorem d9_27 : decode prog_50_method_12_code 27 = .ok (.iinc 4 1, 3) := by decide +kernel
theorem d9_30 : decode prog_50_method_12_code 30 = .ok (.goto (-25), 3) := by decide +kernel
theorem d9_33 : decode prog_50_method_12_code 33 = .ok (.aload_n 0, 1) := by decide +kernel
theorem d9_34 : decode prog_50_method_12_code 34 = .ok (.getfield 13, 3) := by decide +kernel
theorem d9_37 : decode prog_50_method_12_code 37 = .ok (.iload_n 3, 1) := by decide +kernel
theorem d9_38 : decode prog_50_method_12_code 38 = .ok (.iaload, 1) := by decide +kernel
theorem d9_39 : decode prog_50_method_12_code 39 = .ok (.ifCond .ge 7, 3) := by decide +kernel
theorem d9_42 : decode prog_50_method_12_code 42 = .ok (.iconst 1, 1) := by decide +kernel
theorem d9_43 : decode prog_50_method_12_code 43 = .ok (.goto 4, 3) := by decide +kernel
theorem d9_46 : decode prog_50_method_12_code 46 = .ok (.iconst 0, 1) := by decide +kernel
theorem d9_47 : decode prog_50_method_12_code 47 = .ok (.ireturn, 1) := by decide +kernel
set_option maxHeartbeats 4000000 in
theorem dis_0 (Z : State) (a0 : Array Value) (hw : ∀ d ∈ tables_1, d.before a0 Z = true) : ([RoadKit.slotOf Z "java/util/AbstractList" "modCount" "I", RoadKit.slotOf Z "java/util/ArrayList" "elementData" "[Ljava/lang/Object;"] : List Nat).Nodup := by
  simp only [List.nodup_cons, List.mem_cons, List.not_mem_nil, or_false, not_or, not_false_eq_true, List.nodup_nil, and_true]
  exact RoadKit.slot_ne (Or.inl (hw _ (List.mem_of_getElem? (i := 44) rfl))) (Or.inl (hw _ (List.mem_of_getElem? (i := 47) rfl))) (by decide) (t := .int) (t' := (.array (.object "java/lang/Object"))) (by decide) (by decide)
theorem dis_1 (Z : State) (a0 : Array Value) (hw : ∀ d ∈ tables_1, d.before a0 Z = true) : ([RoadKit.slotOf Z "java/util/HashMap" "loadFactor" "F"] : List Nat).Nodup := by
  simp
set_option maxHeartbeats 4000000 in
theorem dis_2 (Z : State) (a0 : Array Value) (hw : ∀ d ∈ tables_1, d.before a0 Z = true) : ([RoadKit.slotOf Z "com/example/infinite_marking/infinitemarking/analysis/Region" "nodes" "[I", RoadKit.slotOf Z "com/example/infinite_marking/infinitemarking/analysis/Region" "parents" "[I", RoadKit.slotOf Z "com/example/infinite_marking/infinitemarking/analysis/Region" "vias" "[Lcom/example/infinite_marking/infinitemarking/model/Transition;", RoadKit.slotOf Z "com/example/infinite_marking/infinitemarking/analysis/Region" "sources" "[I", RoadKit.slotOf Z "com/example/infinite_marking/infinitemarking/analysis/Region" "steps" "[Lcom/example/infinite_marking/infinitemarking/model/Transition;", RoadKit.slotOf Z "com/example/infinite_marking/infinitemarking/analysis/Region" "targets" "[I", RoadKit.slotOf Z "com/example/infinite_marking/infinitemarking/analysis/Region" "exits" "Ljava/util/List;", RoadKit.slotOf Z "com/example/infinite_marking/infinitemarking/analysis/Region" "byCount" "Ljava/util/Map;", RoadKit.slotOf Z "com/example/infinite_marking/infinitemarking/analysis/Region" "leading" "Ljava/util/Map;", RoadKit.slotOf Z "com/example/infinite_marking/infinitemarking/analysis/Region" "quotient" "Lcom/example/infinite_marking/infinitemarking/analysis/TreeQuotient;", RoadKit.slotOf Z "com/example/infinite_marking/infinitemarking/analysis/Region" "size" "I"] : List Nat).Nodup := by
  simp only [List.nodup_cons, List.mem_cons, List.not_mem_nil, or_false, not_or, not_false_eq_true, List.nodup_nil, and_true]
  exact ⟨⟨RoadKit.slot_ne (Or.inl (hw _ (List.mem_of_getElem? (i := 11) rfl))) (Or.inl (hw _ (List.mem_of_getElem? (i := 13) rfl))) (by decide) (t := (.array .int)) (t' := (.array .int)) (by decide) (by decide), RoadKit.slot_ne (Or.inl (hw _ (List.mem_of_getElem? (i := 11) rfl))) (Or.inl (hw _ (List.mem_of_getElem? (i := 17) rfl))) (by decide) (t := (.array .int)) (t' := (.array (.object "com/example/infinite_marking/infinitemarking/model/Transition"))) (by decide) (by decide), RoadKit.slot_ne (Or.inl (hw _ (List.mem_of_getElem? (i := 11) rfl))) (Or.inl (hw _ (List.mem_of_getElem? (i := 19) rfl))) (by decide) (t := (.array .int)) (t' := (.array .int)) (by decide) (by decide), RoadKit.slot_ne (Or.inl (hw _ (List.mem_of_getElem? (i := 11) rfl))) (Or.inl (hw _ (List.mem_of_getElem? (i := 21) rfl))) (by decide) (t := (.array .int)) (t' := (.array (.object "com/example/infinite_marking/infinitemarking/model/Transition"))) (by decide) (by decide), RoadKit.slot_ne (Or.inl (hw _ (List.mem_of_getElem? (i := 11) rfl))) (Or.inl (hw _ (List.mem_of_getElem? (i := 23) rfl))) (by decide) (t := (.array .int)) (t' := (.array .int)) (by decide) (by decide), RoadKit.slot_ne (Or.inl (hw _ (List.mem_of_getElem? (i := 11) rfl))) (Or.inr (hw _ (List.mem_of_getElem? (i := 49) rfl))) (by decide) (t := (.array .int)) (t' := (.object "java/util/List")) (by decide) (by decide), RoadKit.slot_ne (Or.inl (hw _ (List.mem_of_getElem? (i := 11) rfl))) (Or.inr (hw _ (List.mem_of_getElem? (i := 67) rfl))) (by decide) (t := (.array .int)) (t' := (.object "java/util/Map")) (by decide) (by decide), RoadKit.slot_ne (Or.inl (hw _ (List.mem_of_getElem? (i := 11) rfl))) (Or.inr (hw _ (List.mem_of_getElem? (i := 69) rfl))) (by decide) (t := (.array .int)) (t' := (.object "java/util/Map")) (by decide) (by decide), RoadKit.slot_ne (Or.inl (hw _ (List.mem_of_getElem? (i := 11) rfl))) (Or.inr (hw _ (List.mem_of_getElem? (i := 71) rfl))) (by decide) (t := (.array .int)) (t' := (.object "com/example/infinite_marking/infinitemarking/analysis/TreeQuotient")) (by decide) (by decide), RoadKit.slot_ne (Or.inl (hw _ (List.mem_of_getElem? (i := 11) rfl))) (Or.inl (hw _ (List.mem_of_getElem? (i := 78) rfl))) (by decide) (t := (.array .int)) (t' := .int) (by decide) (by decide)⟩, ⟨RoadKit.slot_ne (Or.inl (hw _ (List.mem_of_getElem? (i := 13) rfl))) (Or.inl (hw _ (List.mem_of_getElem? (i := 17) rfl))) (by decide) (t := (.array .int)) (t' := (.array (.object "com/example/infinite_marking/infinitemarking/model/Transition"))) (by decide) (by decide), RoadKit.slot_ne (Or.inl (hw _ (List.mem_of_getElem? (i := 13) rfl))) (Or.inl (hw _ (List.mem_of_getElem? (i := 19) rfl))) (by decide) (t := (.array .int)) (t' := (.array .int)) (by decide) (by decide), RoadKit.slot_ne (Or.inl (hw _ (List.mem_of_getElem? (i := 13) rfl))) (Or.inl (hw _ (List.mem_of_getElem? (i := 21) rfl))) (by decide) (t := (.array .int)) (t' := (.array (.object "com/example/infinite_marking/infinitemarking/model/Transition"))) (by decide) (by decide), RoadKit.slot_ne (Or.inl (hw _ (List.mem_of_getElem? (i := 13) rfl))) (Or.inl (hw _ (List.mem_of_getElem? (i := 23) rfl))) (by decide) (t := (.array .int)) (t' := (.array .int)) (by decide) (by decide), RoadKit.slot_ne (Or.inl (hw _ (List.mem_of_getElem? (i := 13) rfl))) (Or.inr (hw _ (List.mem_of_getElem? (i := 49) rfl))) (by decide) (t := (.array .int)) (t' := (.object "java/util/List")) (by decide) (by decide), RoadKit.slot_ne (Or.inl (hw _ (List.mem_of_getElem? (i := 13) rfl))) (Or.inr (hw _ (List.mem_of_getElem? (i := 67) rfl))) (by decide) (t := (.array .int)) (t' := (.object "java/util/Map")) (by decide) (by decide), RoadKit.slot_ne (Or.inl (hw _ (List.mem_of_getElem? (i := 13) rfl))) (Or.inr (hw _ (List.mem_of_getElem? (i := 69) rfl))) (by decide) (t := (.array .int)) (t' := (.object "java/util/Map")) (by decide) (by decide), RoadKit.slot_ne (Or.inl (hw _ (List.mem_of_getElem? (i := 13) rfl))) (Or.inr (hw _ (List.mem_of_getElem? (i := 71) rfl))) (by decide) (t := (.array .int)) (t' := (.object "com/example/infinite_marking/infinitemarking/analysis/TreeQuotient")) (by decide) (by decide), RoadKit.slot_ne (Or.inl (hw _ (List.mem_of_getElem? (i := 13) rfl))) (Or.inl (hw _ (List.mem_of_getElem? (i := 78) rfl))) (by decide) (t := (.array .int)) (t' := .int) (by decide) (by decide)⟩, ⟨RoadKit.slot_ne (Or.inl (hw _ (List.mem_of_getElem? (i := 17) rfl))) (Or.inl (hw _ (List.mem_of_getElem? (i := 19) rfl))) (by decide) (t := (.array (.object "com/example/infinite_marking/infinitemarking/model/Transition"))) (t' := (.array .int)) (by decide) (by decide), RoadKit.slot_ne (Or.inl (hw _ (List.mem_of_getElem? (i := 17) rfl))) (Or.inl (hw _ (List.mem_of_getElem? (i := 21) rfl))) (by decide) (t := (.array (.object "com/example/infinite_marking/infinitemarking/model/Transition"))) (t' := (.array (.object "com/example/infinite_marking/infinitemarking/model/Transition"))) (by decide) (by decide), RoadKit.slot_ne (Or.inl (hw _ (List.mem_of_getElem? (i := 17) rfl))) (Or.inl (hw _ (List.mem_of_getElem? (i := 23) rfl))) (by decide) (t := (.array (.object "com/example/infinite_marking/infinitemarking/model/Transition"))) (t' := (.array .int)) (by decide) (by decide), RoadKit.slot_ne (Or.inl (hw _ (List.mem_of_getElem? (i := 17) rfl))) (Or.inr (hw _ (List.mem_of_getElem? (i := 49) rfl))) (by decide) (t := (.array (.object "com/example/infinite_marking/infinitemarking/model/Transition"))) (t' := (.object "java/util/List")) (by decide) (by decide), RoadKit.slot_ne (Or.inl (hw _ (List.mem_of_getElem? (i := 17) rfl))) (Or.inr (hw _ (List.mem_of_getElem? (i := 67) rfl))) (by decide) (t := (.array (.object "com/example/infinite_marking/infinitemarking/model/Transition"))) (t' := (.object "java/util/Map")) (by decide) (by decide), RoadKit.slot_ne (Or.inl (hw _ (List.mem_of_getElem? (i := 17) rfl))) (Or.inr (hw _ (List.mem_of_getElem? (i := 69) rfl))) (by decide) (t := (.array (.object "com/example/infinite_marking/infinitemarking/model/Transition"))) (t' := (.object "java/util/Map")) (by decide) (by decide), RoadKit.slot_ne (Or.inl (hw _ (List.mem_of_getElem? (i := 17) rfl))) (Or.inr (hw _ (List.mem_of_getElem? (i := 71) rfl))) (by decide) (t := (.array (.object "com/example/infinite_marking/infinitemarking/model/Transition"))) (t' := (.object "com/example/infinite_marking/infinitemarking/analysis/TreeQuotient")) (by decide) (by decide), RoadKit.slot_ne (Or.inl (hw _ (List.mem_of_getElem? (i := 17) rfl))) (Or.inl (hw _ (List.mem_of_getElem? (i := 78) rfl))) (by decide) (t := (.array (.object "com/example/infinite_marking/infinitemarking/model/Transition"))) (t' := .int) (by decide) (by decide)⟩, ⟨RoadKit.slot_ne (Or.inl (hw _ (List.mem_of_getElem? (i := 19) rfl))) (Or.inl (hw _ (List.mem_of_getElem? (i := 21) rfl))) (by decide) (t := (.array .int)) (t' := (.array (.object "com/example/infinite_marking/infinitemarking/model/Transition"))) (by decide) (by decide), RoadKit.slot_ne (Or.inl (hw _ (List.mem_of_getElem? (i := 19) rfl))) (Or.inl (hw _ (List.mem_of_getElem? (i := 23) rfl))) (by decide) (t := (.array .int)) (t' := (.array .int)) (by decide) (by decide), RoadKit.slot_ne (Or.inl (hw _ (List.mem_of_getElem? (i := 19) rfl))) (Or.inr (hw _ (List.mem_of_getElem? (i := 49) rfl))) (by decide) (t := (.array .int)) (t' := (.object "java/util/List")) (by decide) (by decide), RoadKit.slot_ne (Or.inl (hw _ (List.mem_of_getElem? (i := 19) rfl))) (Or.inr (hw _ (List.mem_of_getElem? (i := 67) rfl))) (by decide) (t := (.array .int)) (t' := (.object "java/util/Map")) (by decide) (by decide), RoadKit.slot_ne (Or.inl (hw _ (List.mem_of_getElem? (i := 19) rfl))) (Or.inr (hw _ (List.mem_of_getElem? (i := 69) rfl))) (by decide) (t := (.array .int)) (t' := (.object "java/util/Map")) (by decide) (by decide), RoadKit.slot_ne (Or.inl (hw _ (List.mem_of_getElem? (i := 19) rfl))) (Or.inr (hw _ (List.mem_of_getElem? (i := 71) rfl))) (by decide) (t := (.array .int)) (t' := (.object "com/example/infinite_marking/infinitemarking/analysis/TreeQuotient")) (by decide) (by decide), RoadKit.slot_ne (Or.inl (hw _ (List.mem_of_getElem? (i := 19) rfl))) (Or.inl (hw _ (List.mem_of_getElem? (i := 78) rfl))) (by decide) (t := (.array .int)) (t' := .int) (by decide) (by decide)⟩, ⟨RoadKit.slot_ne (Or.inl (hw _ (List.mem_of_getElem? (i := 21) rfl))) (Or.inl (hw _ (List.mem_of_getElem? (i := 23) rfl))) (by decide) (t := (.array (.object "com/example/infinite_marking/infinitemarking/model/Transition"))) (t' := (.array .int)) (by decide) (by decide), RoadKit.slot_ne (Or.inl (hw _ (List.mem_of_getElem? (i := 21) rfl))) (Or.inr (hw _ (List.mem_of_getElem? (i := 49) rfl))) (by decide) (t := (.array (.object "com/example/infinite_marking/infinitemarking/model/Transition"))) (t' := (.object "java/util/List")) (by decide) (by decide), RoadKit.slot_ne (Or.inl (hw _ (List.mem_of_getElem? (i := 21) rfl))) (Or.inr (hw _ (List.mem_of_getElem? (i := 67) rfl))) (by decide) (t := (.array (.object "com/example/infinite_marking/infinitemarking/model/Transition"))) (t' := (.object "java/util/Map")) (by decide) (by decide), RoadKit.slot_ne (Or.inl (hw _ (List.mem_of_getElem? (i := 21) rfl))) (Or.inr (hw _ (List.mem_of_getElem? (i := 69) rfl))) (by decide) (t := (.array (.object "com/example/infinite_marking/infinitemarking/model/Transition"))) (t' := (.object "java/util/Map")) (by decide) (by decide), RoadKit.slot_ne (Or.inl (hw _ (List.mem_of_getElem? (i := 21) rfl))) (Or.inr (hw _ (List.mem_of_getElem? (i := 71) rfl))) (by decide) (t := (.array (.object "com/example/infinite_marking/infinitemarking/model/Transition"))) (t' := (.object "com/example/infinite_marking/infinitemarking/analysis/TreeQuotient")) (by decide) (by decide), RoadKit.slot_ne (Or.inl (hw _ (List.mem_of_getElem? (i := 21) rfl))) (Or.inl (hw _ (List.mem_of_getElem? (i := 78) rfl))) (by decide) (t := (.array (.object "com/example/infinite_marking/infinitemarking/model/Transition"))) (t' := .int) (by decide) (by decide)⟩, ⟨RoadKit.slot_ne (Or.inl (hw _ (List.mem_of_getElem? (i := 23) rfl))) (Or.inr (hw _ (List.mem_of_getElem? (i := 49) rfl))) (by decide) (t := (.array .int)) (t' := (.object "java/util/List")) (by decide) (by decide), RoadKit.slot_ne (Or.inl (hw _ (List.mem_of_getElem? (i := 23) rfl))) (Or.inr (hw _ (List.mem_of_getElem? (i := 67) rfl))) (by decide) (t := (.array .int)) (t' := (.object "java/util/Map")) (by decide) (by decide), RoadKit.slot_ne (Or.inl (hw _ (List.mem_of_getElem? (i := 23) rfl))) (Or.inr (hw _ (List.mem_of_getElem? (i := 69) rfl))) (by decide) (t := (.array .int)) (t' := (.object "java/util/Map")) (by decide) (by decide), RoadKit.slot_ne (Or.inl (hw _ (List.mem_of_getElem? (i := 23) rfl))) (Or.inr (hw _ (List.mem_of_getElem? (i := 71) rfl))) (by decide) (t := (.array .int)) (t' := (.object "com/example/infinite_marking/infinitemarking/analysis/TreeQuotient")) (by decide) (by decide), RoadKit.slot_ne (Or.inl (hw _ (List.mem_of_getElem? (i := 23) rfl))) (Or.inl (hw _ (List.mem_of_getElem? (i := 78) rfl))) (by decide) (t := (.array .int)) (t' := .int) (by decide) (by decide)⟩, ⟨RoadKit.slot_ne (Or.inr (hw _ (List.mem_of_getElem? (i := 49) rfl))) (Or.inr (hw _ (List.mem_of_getElem? (i := 67) rfl))) (by decide) (t := (.object "java/util/List")) (t' := (.object "java/util/Map")) (by decide) (by decide), RoadKit.slot_ne (Or.inr (hw _ (List.mem_of_getElem? (i := 49) rfl))) (Or.inr (hw _ (List.mem_of_getElem? (i := 69) rfl))) (by decide) (t := (.object "java/util/List")) (t' := (.object "java/util/Map")) (by decide) (by decide), RoadKit.slot_ne (Or.inr (hw _ (List.mem_of_getElem? (i := 49) rfl))) (Or.inr (hw _ (List.mem_of_getElem? (i := 71) rfl))) (by decide) (t := (.object "java/util/List")) (t' := (.object "com/example/infinite_marking/infinitemarking/analysis/TreeQuotient")) (by decide) (by decide), RoadKit.slot_ne (Or.inr (hw _ (List.mem_of_getElem? (i := 49) rfl))) (Or.inl (hw _ (List.mem_of_getElem? (i := 78) rfl))) (by decide) (t := (.object "java/util/List")) (t' := .int) (by decide) (by decide)⟩, ⟨RoadKit.slot_ne (Or.inr (hw _ (List.mem_of_getElem? (i := 67) rfl))) (Or.inr (hw _ (List.mem_of_getElem? (i := 69) rfl))) (by decide) (t := (.object "java/util/Map")) (t' := (.object "java/util/Map")) (by decide) (by decide), RoadKit.slot_ne (Or.inr (hw _ (List.mem_of_getElem? (i := 67) rfl))) (Or.inr (hw _ (List.mem_of_getElem? (i := 71) rfl))) (by decide) (t := (.object "java/util/Map")) (t' := (.object "com/example/infinite_marking/infinitemarking/analysis/TreeQuotient")) (by decide) (by decide), RoadKit.slot_ne (Or.inr (hw _ (List.mem_of_getElem? (i := 67) rfl))) (Or.inl (hw _ (List.mem_of_getElem? (i := 78) rfl))) (by decide) (t := (.object "java/util/Map")) (t' := .int) (by decide) (by decide)⟩, ⟨RoadKit.slot_ne (Or.inr (hw _ (List.mem_of_getElem? (i := 69) rfl))) (Or.inr (hw _ (List.mem_of_getElem? (i := 71) rfl))) (by decide) (t := (.object "java/util/Map")) (t' := (.object "com/example/infinite_marking/infinitemarking/analysis/TreeQuotient")) (by decide) (by decide), RoadKit.slot_ne (Or.inr (hw _ (List.mem_of_getElem? (i := 69) rfl))) (Or.inl (hw _ (List.mem_of_getElem? (i := 78) rfl))) (by decide) (t := (.object "java/util/Map")) (t' := .int) (by decide) (by decide)⟩, RoadKit.slot_ne (Or.inr (hw _ (List.mem_of_getElem? (i := 71) rfl))) (Or.inl (hw _ (List.mem_of_getElem? (i := 78) rfl))) (by decide) (t := (.object "com/example/infinite_marking/infinitemarking/analysis/TreeQuotient")) (t' := .int) (by decide) (by decide)⟩
set_option maxRecDepth 65536 in
set_option maxHeartbeats 2000000 in
theorem con_abs (l : Launch) (Z : State) (a0 : Array Value) (hw : ∀ d ∈ tables_1, d.before a0 Z = true) (a : Addr) (h : Heap)  :
    Con l Z [] (⟨"java/util/AbstractMap", "<init>", "()V"⟩ : MethodName) jdk_71_method_1_code 1 none ({ frames := 1, cells := 0, slots := 0, locals := 12 } : Room) #[(.ref a)] h [] (fun v h' => v = none ∧ h = h') := by
  refine Con.of_go (L0 := #[.val (.ref a)]) (plainFor_of_name (by first | (simp [plainName, overriddenIn]; done) | decide +kernel)) (locals_of rfl) fun W Q hQ hl C => ?_
  subst hl
  refine g_aloadN (pc' := 1) C d7_0 rfl rfl rfl ?_
  refine g_initO (pc' := 4) C d7_1 rfl (hw _ (List.mem_of_getElem? (i := 62) rfl)) (hw _ (List.mem_of_getElem? (i := 8) rfl)) (hw _ (List.mem_of_getElem? (i := 9) rfl)) rfl (by decide) (Nat.le_of_ble_eq_true rfl) ?_
  refine g_return C d7_4 (by decide) (by decide) ?_
  subst hQ
  exact ⟨rfl, rfl⟩
set_option maxRecDepth 65536 in
set_option maxHeartbeats 2000000 in
theorem con_ac (l : Launch) (Z : State) (a0 : Array Value) (hw : ∀ d ∈ tables_1, d.before a0 Z = true) (a : Addr) (h : Heap)  :
    Con l Z [] (⟨"java/util/AbstractCollection", "<init>", "()V"⟩ : MethodName) jdk_22_method_1_code 1 none ({ frames := 1, cells := 0, slots := 0, locals := 12 } : Room) #[(.ref a)] h [] (fun v h' => v = none ∧ h = h') := by
  refine Con.of_go (L0 := #[.val (.ref a)]) (plainFor_of_name (by first | (simp [plainName, overriddenIn]; done) | decide +kernel)) (locals_of rfl) fun W Q hQ hl C => ?_
  subst hl
  refine g_aloadN (pc' := 1) C d5_0 rfl rfl rfl ?_
  refine g_initO (pc' := 4) C d5_1 rfl (hw _ (List.mem_of_getElem? (i := 42) rfl)) (hw _ (List.mem_of_getElem? (i := 8) rfl)) (hw _ (List.mem_of_getElem? (i := 9) rfl)) rfl (by decide) (Nat.le_of_ble_eq_true rfl) ?_
  refine g_return C d5_4 (by decide) (by decide) ?_
  subst hQ
  exact ⟨rfl, rfl⟩
set_option maxRecDepth 65536 in
set_option maxHeartbeats 2000000 in
theorem con_hm (l : Launch) (Z : State) (a0 : Array Value) (hw : ∀ d ∈ tables_1, d.before a0 Z = true) (a : Addr) (h : Heap) (O : Ob Z h a "java/util/HashMap" [("java/util/HashMap", "loadFactor", "F", (.float (0 : UInt32)))]) :
    Con l Z [] (⟨"java/util/HashMap", "<init>", "()V"⟩ : MethodName) jdk_69_method_7_code 1 none ({ frames := 2, cells := 0, slots := 0, locals := 24 } : Room) #[(.ref a)] h [a] (fun v h' => v = none ∧ True) := by
  refine Con.of_go (L0 := #[.val (.ref a)]) (plainFor_of_name (by first | (simp [plainName, overriddenIn]; done) | decide +kernel)) (locals_of rfl) fun W Q hQ hl C => ?_
  subst hl
  refine g_aloadN (pc' := 1) C d6_0 rfl rfl rfl ?_
  refine g_special (y := (⟨"java/util/AbstractMap", "<init>", "()V"⟩ : MethodName)) (a := a) (pc' := 4) (k' := 0) (n' := 0) (S := []) (as := []) C d6_1 rfl rfl (hw _ (List.mem_of_getElem? (i := 56) rfl)) (hw _ (List.mem_of_getElem? (i := 57) rfl)) (hw _ (List.mem_of_getElem? (i := 60) rfl)) (hw _ (List.mem_of_getElem? (i := 61) rfl)) (by decide) (lenOf pd_0 rfl) (con_abs W.l Z a0 hw a h) rfl rfl (Nat.le_of_ble_eq_true rfl) (Nat.le_of_ble_eq_true rfl) rfl rfl (Nat.le_of_ble_eq_true rfl) (Nat.le_of_ble_eq_true rfl) all0 fun vh1 h1 qh1 Kh1 => ?_
  obtain ⟨rfl, eh⟩ := qh1
  subst eh
  show Go W Q h 0 0 4 #[.val (.ref a)] []
  refine g_aloadN (pc' := 5) C d6_4 rfl rfl rfl ?_
  refine g_ldcF (pc' := 7) C d6_5 rfl (hw _ (List.mem_of_getElem? (i := 63) rfl)) ?_
  refine g_putO (pc' := 10) (j := 0) (ty := .float) (v' := (.float (1061158912 : UInt32))) (fs' := [("java/util/HashMap", "loadFactor", "F", (.float (1061158912 : UInt32)))]) C d6_7 rfl (hw _ (List.mem_of_getElem? (i := 64) rfl)) Via.refl O rfl (Or.inr ⟨(hw _ (List.mem_of_getElem? (i := 65) rfl)), rfl, rfl⟩) (hw _ (List.mem_of_getElem? (i := 51) rfl)) (by decide) rfl rfl rfl (C.old (List.mem_cons_self ..)) fun h2 O Kh2 => ?_
  refine g_return C d6_10 (by decide) (by decide) ?_
  subst hQ
  exact ⟨rfl, trivial⟩
set_option maxRecDepth 65536 in
set_option maxHeartbeats 2000000 in
theorem con_abl (l : Launch) (Z : State) (a0 : Array Value) (hw : ∀ d ∈ tables_1, d.before a0 Z = true) (a : Addr) (h : Heap) (O : Ob Z h a "java/util/ArrayList" [("java/util/AbstractList", "modCount", "I", (.int (0 : Int32))), ("java/util/ArrayList", "elementData", "[Ljava/lang/Object;", .null)]) :
    Con l Z [] (⟨"java/util/AbstractList", "<init>", "()V"⟩ : MethodName) jdk_39_method_1_code 1 none ({ frames := 2, cells := 0, slots := 0, locals := 24 } : Room) #[(.ref a)] h [a] (fun v h' => v = none ∧ Ob Z h' a "java/util/ArrayList" [("java/util/AbstractList", "modCount", "I", (.int (0 : Int32))), ("java/util/ArrayList", "elementData", "[Ljava/lang/Object;", .null)]) := by
  refine Con.of_go (L0 := #[.val (.ref a)]) (plainFor_of_name (by first | (simp [plainName, overriddenIn]; done) | decide +kernel)) (locals_of rfl) fun W Q hQ hl C => ?_
  subst hl
  refine g_aloadN (pc' := 1) C d4_0 rfl rfl rfl ?_
  refine g_special (y := (⟨"java/util/AbstractCollection", "<init>", "()V"⟩ : MethodName)) (a := a) (pc' := 4) (k' := 0) (n' := 0) (S := []) (as := []) C d4_1 rfl rfl (hw _ (List.mem_of_getElem? (i := 36) rfl)) (hw _ (List.mem_of_getElem? (i := 37) rfl)) (hw _ (List.mem_of_getElem? (i := 40) rfl)) (hw _ (List.mem_of_getElem? (i := 41) rfl)) (by decide) (lenOf pd_0 rfl) (con_ac W.l Z a0 hw a h) rfl rfl (Nat.le_of_ble_eq_true rfl) (Nat.le_of_ble_eq_true rfl) rfl rfl (Nat.le_of_ble_eq_true rfl) (Nat.le_of_ble_eq_true rfl) all0 fun vh1 h1 qh1 Kh1 => ?_
  obtain ⟨rfl, eh⟩ := qh1
  subst eh
  show Go W Q h 0 0 4 #[.val (.ref a)] []
  refine g_aloadN (pc' := 5) C d4_4 rfl rfl rfl ?_
  refine g_iconst (pc' := 6) (z := (0 : Int32)) C d4_5 rfl rfl ?_
  refine g_putO (pc' := 9) (j := 0) (ty := .int) (v' := (.int (0 : Int32))) (fs' := [("java/util/AbstractList", "modCount", "I", (.int (0 : Int32))), ("java/util/ArrayList", "elementData", "[Ljava/lang/Object;", .null)]) C d4_6 rfl (hw _ (List.mem_of_getElem? (i := 43) rfl)) Via.refl O rfl (Or.inl (hw _ (List.mem_of_getElem? (i := 44) rfl))) (hw _ (List.mem_of_getElem? (i := 25) rfl)) (by decide) rfl rfl rfl (C.old (List.mem_cons_self ..)) fun h2 O Kh2 => ?_
  refine g_return C d4_9 (by decide) (by decide) ?_
  subst hQ
  exact ⟨rfl, O⟩
set_option maxRecDepth 65536 in
set_option maxHeartbeats 2000000 in
theorem con_al (l : Launch) (Z : State) (a0 : Array Value) (hw : ∀ d ∈ tables_1, d.before a0 Z = true) (a st ee : Addr) (nst : st ≠ a) (h : Heap) (O : Ob Z h a "java/util/ArrayList" [("java/util/AbstractList", "modCount", "I", (.int (0 : Int32))), ("java/util/ArrayList", "elementData", "[Ljava/lang/Object;", .null)]) (F : StA Z h st "java/util/ArrayList" "DEFAULTCAPACITY_EMPTY_ELEMENTDATA" "[Ljava/lang/Object;" (.ref ee)) :
    Con l Z [] (⟨"java/util/ArrayList", "<init>", "()V"⟩ : MethodName) jdk_38_method_2_code 1 none ({ frames := 3, cells := 0, slots := 0, locals := 36 } : Room) #[(.ref a)] h [a] (fun v h' => v = none ∧ True) := by
  refine Con.of_go (L0 := #[.val (.ref a)]) (plainFor_of_name (by first | (simp [plainName, overriddenIn]; done) | decide +kernel)) (locals_of rfl) fun W Q hQ hl C => ?_
  subst hl
  refine g_aloadN (pc' := 1) C d3_0 rfl rfl rfl ?_
  refine g_special (y := (⟨"java/util/AbstractList", "<init>", "()V"⟩ : MethodName)) (a := a) (pc' := 4) (k' := 0) (n' := 0) (S := []) (as := []) C d3_1 rfl rfl (hw _ (List.mem_of_getElem? (i := 30) rfl)) (hw _ (List.mem_of_getElem? (i := 31) rfl)) (hw _ (List.mem_of_getElem? (i := 34) rfl)) (hw _ (List.mem_of_getElem? (i := 35) rfl)) (by decide) (lenOf pd_0 rfl) (con_abl W.l Z a0 hw a h O) rfl rfl (Nat.le_of_ble_eq_true rfl) (Nat.le_of_ble_eq_true rfl) rfl rfl (Nat.le_of_ble_eq_true rfl) (Nat.le_of_ble_eq_true rfl) (allS (C.old (List.mem_cons_self ..)) all0) fun vh1 h1 qh1 Kh1 => ?_
  obtain ⟨rfl, O⟩ := qh1
  replace F := F.keep Kh1 (ninS nst nin0)
  show Go W Q h1 0 0 4 #[.val (.ref a)] []
  refine g_aloadN (pc' := 5) C d3_4 rfl rfl rfl ?_
  refine g_getstatic (pc' := 8) C d3_5 rfl (hw _ (List.mem_of_getElem? (i := 45) rfl)) F ?_
  refine g_putO (pc' := 11) (j := 1) (ty := (.array (.object "java/lang/Object"))) (v' := (.ref ee)) (fs' := [("java/util/AbstractList", "modCount", "I", (.int (0 : Int32))), ("java/util/ArrayList", "elementData", "[Ljava/lang/Object;", (.ref ee))]) C d3_8 rfl (hw _ (List.mem_of_getElem? (i := 46) rfl)) Via.refl O rfl (Or.inl (hw _ (List.mem_of_getElem? (i := 47) rfl))) (hw _ (List.mem_of_getElem? (i := 25) rfl)) (by decide) rfl rfl rfl (C.old (List.mem_cons_self ..)) fun h2 O Kh2 => ?_
  replace F := F.keep Kh2 (ninS nst nin0)
  refine g_return C d3_11 (by decide) (by decide) ?_
  subst hQ
  exact ⟨rfl, trivial⟩
set_option maxRecDepth 65536 in
set_option maxHeartbeats 2000000 in
theorem con_init (l : Launch) (Z : State) (a0 : Array Value) (hw : ∀ d ∈ tables_1, d.before a0 Z = true) (a st ee : Addr) (nst : st ≠ a) (h : Heap) (O : Ob Z h a "com/example/infinite_marking/infinitemarking/analysis/Region" [("com/example/infinite_marking/infinitemarking/analysis/Region", "nodes", "[I", .null), ("com/example/infinite_marking/infinitemarking/analysis/Region", "parents", "[I", .null), ("com/example/infinite_marking/infinitemarking/analysis/Region", "vias", "[Lcom/example/infinite_marking/infinitemarking/model/Transition;", .null), ("com/example/infinite_marking/infinitemarking/analysis/Region", "sources", "[I", .null), ("com/example/infinite_marking/infinitemarking/analysis/Region", "steps", "[Lcom/example/infinite_marking/infinitemarking/model/Transition;", .null), ("com/example/infinite_marking/infinitemarking/analysis/Region", "targets", "[I", .null), ("com/example/infinite_marking/infinitemarking/analysis/Region", "exits", "Ljava/util/List;", .null), ("com/example/infinite_marking/infinitemarking/analysis/Region", "byCount", "Ljava/util/Map;", .null), ("com/example/infinite_marking/infinitemarking/analysis/Region", "leading", "Ljava/util/Map;", .null), ("com/example/infinite_marking/infinitemarking/analysis/Region", "quotient", "Lcom/example/infinite_marking/infinitemarking/analysis/TreeQuotient;", .null), ("com/example/infinite_marking/infinitemarking/analysis/Region", "size", "I", (.int (0 : Int32)))]) (F : StA Z h st "java/util/ArrayList" "DEFAULTCAPACITY_EMPTY_ELEMENTDATA" "[Ljava/lang/Object;" (.ref ee)) :
    Con l Z [] (⟨"com/example/infinite_marking/infinitemarking/analysis/Region", "<init>", "(Lcom/example/infinite_marking/infinitemarking/analysis/TreeQuotient;)V"⟩ : MethodName) prog_50_method_1_code 2 none ({ frames := 4, cells := 9, slots := 115, locals := 50 } : Room) #[(.ref a), .null] h [a] (fun v h' => v = none ∧ ∃ b1 b2 b3 b4 b5 b6 e1 e2 e3 : Addr, h.size ≤ b1 ∧ h.size ≤ b2 ∧ h.size ≤ b3 ∧ a ≠ b1 ∧ a ≠ b2 ∧ a ≠ b3 ∧ b1 ≠ b2 ∧ b1 ≠ b3 ∧ b2 ≠ b3 ∧ Ob Z h' a "com/example/infinite_marking/infinitemarking/analysis/Region" [("com/example/infinite_marking/infinitemarking/analysis/Region", "nodes", "[I", (.ref b1)), ("com/example/infinite_marking/infinitemarking/analysis/Region", "parents", "[I", (.ref b2)), ("com/example/infinite_marking/infinitemarking/analysis/Region", "vias", "[Lcom/example/infinite_marking/infinitemarking/model/Transition;", (.ref b3)), ("com/example/infinite_marking/infinitemarking/analysis/Region", "sources", "[I", (.ref b4)), ("com/example/infinite_marking/infinitemarking/analysis/Region", "steps", "[Lcom/example/infinite_marking/infinitemarking/model/Transition;", (.ref b5)), ("com/example/infinite_marking/infinitemarking/analysis/Region", "targets", "[I", (.ref b6)), ("com/example/infinite_marking/infinitemarking/analysis/Region", "exits", "Ljava/util/List;", (.ref e1)), ("com/example/infinite_marking/infinitemarking/analysis/Region", "byCount", "Ljava/util/Map;", (.ref e2)), ("com/example/infinite_marking/infinitemarking/analysis/Region", "leading", "Ljava/util/Map;", (.ref e3)), ("com/example/infinite_marking/infinitemarking/analysis/Region", "quotient", "Lcom/example/infinite_marking/infinitemarking/analysis/TreeQuotient;", .null), ("com/example/infinite_marking/infinitemarking/analysis/Region", "size", "I", (.int (0 : Int32)))] ∧ Ar Z h' b1 .int [(.int (0 : Int32)), (.int (0 : Int32)), (.int (0 : Int32)), (.int (0 : Int32)), (.int (0 : Int32)), (.int (0 : Int32)), (.int (0 : Int32)), (.int (0 : Int32)), (.int (0 : Int32)), (.int (0 : Int32)), (.int (0 : Int32)), (.int (0 : Int32)), (.int (0 : Int32)), (.int (0 : Int32)), (.int (0 : Int32)), (.int (0 : Int32))] ∧ Ar Z h' b2 .int [(.int (0 : Int32)), (.int (0 : Int32)), (.int (0 : Int32)), (.int (0 : Int32)), (.int (0 : Int32)), (.int (0 : Int32)), (.int (0 : Int32)), (.int (0 : Int32)), (.int (0 : Int32)), (.int (0 : Int32)), (.int (0 : Int32)), (.int (0 : Int32)), (.int (0 : Int32)), (.int (0 : Int32)), (.int (0 : Int32)), (.int (0 : Int32))] ∧ ArR Z h' b3 "com/example/infinite_marking/infinitemarking/model/Transition" [.null, .null, .null, .null, .null, .null, .null, .null, .null, .null, .null, .null, .null, .null, .null, .null]) := by
  refine Con.of_go (L0 := #[.val (.ref a), .val .null]) (plainFor_of_name (by first | (simp [plainName, overriddenIn]; done) | decide +kernel)) (locals_of rfl) fun W Q hQ hl C => ?_
  subst hl
  have z0 : h.size ≤ h.size := Nat.le_refl _
  refine g_aloadN (pc' := 1) C d1_0 rfl rfl rfl ?_
  refine g_initO (pc' := 4) C d1_1 rfl (hw _ (List.mem_of_getElem? (i := 7) rfl)) (hw _ (List.mem_of_getElem? (i := 8) rfl)) (hw _ (List.mem_of_getElem? (i := 9) rfl)) rfl (by decide) (Nat.le_of_ble_eq_true rfl) ?_
  refine g_aloadN (pc' := 5) C d1_4 rfl rfl rfl ?_
  refine g_bipush (pc' := 7) (z := (16 : Int32)) C d1_5 rfl rfl ?_
  refine g_newarray (pc' := 9) (ty := .int) (len := 16) (cap := 16) (k' := 1) (n' := 16) C d1_7 rfl rfl (hw _ (List.mem_of_getElem? (i := 0) rfl)) rfl (by decide) (by decide) rfl rfl (by decide) (by decide) fun h1 a1 e_a1 Eh1 Aa1 w_a1 => ?_
  have n_a_a1 : a ≠ a1 := by rw [e_a1]; exact Nat.ne_of_lt O.lt
  have n_st_a1 : st ≠ a1 := by rw [e_a1]; exact Nat.ne_of_lt F.lt
  replace O := O.ext Eh1
  replace F := F.ext Eh1
  replace Aa1 : Ar Z h1 a1 .int [(.int (0 : Int32)), (.int (0 : Int32)), (.int (0 : Int32)), (.int (0 : Int32)), (.int (0 : Int32)), (.int (0 : Int32)), (.int (0 : Int32)), (.int (0 : Int32)), (.int (0 : Int32)), (.int (0 : Int32)), (.int (0 : Int32)), (.int (0 : Int32)), (.int (0 : Int32)), (.int (0 : Int32)), (.int (0 : Int32)), (.int (0 : Int32))] := Aa1
  have g_a1 : h.size ≤ a1 := by rw [e_a1]; exact z0
  have z_h1 : h.size ≤ h1.size := Nat.le_trans z0 Eh1.1
  refine g_putO (pc' := 12) (j := 0) (ty := (.array .int)) (v' := (.ref a1)) (fs' := [("com/example/infinite_marking/infinitemarking/analysis/Region", "nodes", "[I", (.ref a1)), ("com/example/infinite_marking/infinitemarking/analysis/Region", "parents", "[I", .null), ("com/example/infinite_marking/infinitemarking/analysis/Region", "vias", "[Lcom/example/infinite_marking/infinitemarking/model/Transition;", .null), ("com/example/infinite_marking/infinitemarking/analysis/Region", "sources", "[I", .null), ("com/example/infinite_marking/infinitemarking/analysis/Region", "steps", "[Lcom/example/infinite_marking/infinitemarking/model/Transition;", .null), ("com/example/infinite_marking/infinitemarking/analysis/Region", "targets", "[I", .null), ("com/example/infinite_marking/infinitemarking/analysis/Region", "exits", "Ljava/util/List;", .null), ("com/example/infinite_marking/infinitemarking/analysis/Region", "byCount", "Ljava/util/Map;", .null), ("com/example/infinite_marking/infinitemarking/analysis/Region", "leading", "Ljava/util/Map;", .null), ("com/example/infinite_marking/infinitemarking/analysis/Region", "quotient", "Lcom/example/infinite_marking/infinitemarking/analysis/TreeQuotient;", .null), ("com/example/infinite_marking/infinitemarking/analysis/Region", "size", "I", (.int (0 : Int32)))]) C d1_9 rfl (hw _ (List.mem_of_getElem? (i := 10) rfl)) Via.refl O rfl (Or.inl (hw _ (List.mem_of_getElem? (i := 11) rfl))) (hw _ (List.mem_of_getElem? (i := 2) rfl)) (by decide) rfl rfl rfl (C.old (List.mem_cons_self ..)) fun h2 O Kh2 => ?_
  replace F := F.keep Kh2 (ninS nst nin0)
  replace Aa1 := Aa1.keep Kh2 (ninS (Ne.symm n_a_a1) nin0)
  have z_h2 : h.size ≤ h2.size := Nat.le_trans z_h1 Kh2.1
  refine g_aloadN (pc' := 13) C d1_12 rfl rfl rfl ?_
  refine g_bipush (pc' := 15) (z := (16 : Int32)) C d1_13 rfl rfl ?_
  refine g_newarray (pc' := 17) (ty := .int) (len := 16) (cap := 16) (k' := 2) (n' := 32) C d1_15 rfl rfl (hw _ (List.mem_of_getElem? (i := 0) rfl)) rfl (by decide) (by decide) rfl rfl (by decide) (by decide) fun h3 a2 e_a2 Eh3 Aa2 w_a2 => ?_
  have n_a_a2 : a ≠ a2 := by rw [e_a2]; exact Nat.ne_of_lt O.lt
  have n_st_a2 : st ≠ a2 := by rw [e_a2]; exact Nat.ne_of_lt F.lt
  have n_a1_a2 : a1 ≠ a2 := by rw [e_a2]; exact Nat.ne_of_lt Aa1.lt
  replace O := O.ext Eh3
  replace F := F.ext Eh3
  replace Aa1 := Aa1.ext Eh3
  replace Aa2 : Ar Z h3 a2 .int [(.int (0 : Int32)), (.int (0 : Int32)), (.int (0 : Int32)), (.int (0 : Int32)), (.int (0 : Int32)), (.int (0 : Int32)), (.int (0 : Int32)), (.int (0 : Int32)), (.int (0 : Int32)), (.int (0 : Int32)), (.int (0 : Int32)), (.int (0 : Int32)), (.int (0 : Int32)), (.int (0 : Int32)), (.int (0 : Int32)), (.int (0 : Int32))] := Aa2
  have g_a2 : h.size ≤ a2 := by rw [e_a2]; exact z_h2
  have z_h3 : h.size ≤ h3.size := Nat.le_trans z_h2 Eh3.1
  refine g_putO (pc' := 20) (j := 1) (ty := (.array .int)) (v' := (.ref a2)) (fs' := [("com/example/infinite_marking/infinitemarking/analysis/Region", "nodes", "[I", (.ref a1)), ("com/example/infinite_marking/infinitemarking/analysis/Region", "parents", "[I", (.ref a2)), ("com/example/infinite_marking/infinitemarking/analysis/Region", "vias", "[Lcom/example/infinite_marking/infinitemarking/model/Transition;", .null), ("com/example/infinite_marking/infinitemarking/analysis/Region", "sources", "[I", .null), ("com/example/infinite_marking/infinitemarking/analysis/Region", "steps", "[Lcom/example/infinite_marking/infinitemarking/model/Transition;", .null), ("com/example/infinite_marking/infinitemarking/analysis/Region", "targets", "[I", .null), ("com/example/infinite_marking/infinitemarking/analysis/Region", "exits", "Ljava/util/List;", .null), ("com/example/infinite_marking/infinitemarking/analysis/Region", "byCount", "Ljava/util/Map;", .null), ("com/example/infinite_marking/infinitemarking/analysis/Region", "leading", "Ljava/util/Map;", .null), ("com/example/infinite_marking/infinitemarking/analysis/Region", "quotient", "Lcom/example/infinite_marking/infinitemarking/analysis/TreeQuotient;", .null), ("com/example/infinite_marking/infinitemarking/analysis/Region", "size", "I", (.int (0 : Int32)))]) C d1_17 rfl (hw _ (List.mem_of_getElem? (i := 12) rfl)) Via.refl O rfl (Or.inl (hw _ (List.mem_of_getElem? (i := 13) rfl))) (hw _ (List.mem_of_getElem? (i := 2) rfl)) (by decide) rfl rfl rfl (C.old (List.mem_cons_self ..)) fun h4 O Kh4 => ?_
  replace F := F.keep Kh4 (ninS nst nin0)
  replace Aa1 := Aa1.keep Kh4 (ninS (Ne.symm n_a_a1) nin0)
  replace Aa2 := Aa2.keep Kh4 (ninS (Ne.symm n_a_a2) nin0)
  have z_h4 : h.size ≤ h4.size := Nat.le_trans z_h3 Kh4.1
  refine g_aloadN (pc' := 21) C d1_20 rfl rfl rfl ?_
  refine g_bipush (pc' := 23) (z := (16 : Int32)) C d1_21 rfl rfl ?_
  refine g_anewarray (pc' := 26) (len := 16) (cap := 16) (k' := 3) (n' := 48) C d1_23 rfl (hw _ (List.mem_of_getElem? (i := 14) rfl)) (hw _ (List.mem_of_getElem? (i := 15) rfl)) rfl (by decide) (by decide) rfl rfl (by decide) (by decide) fun h5 a3 e_a3 Eh5 Aa3 w_a3 => ?_
  have n_a_a3 : a ≠ a3 := by rw [e_a3]; exact Nat.ne_of_lt O.lt
  have n_st_a3 : st ≠ a3 := by rw [e_a3]; exact Nat.ne_of_lt F.lt
  have n_a1_a3 : a1 ≠ a3 := by rw [e_a3]; exact Nat.ne_of_lt Aa1.lt
  have n_a2_a3 : a2 ≠ a3 := by rw [e_a3]; exact Nat.ne_of_lt Aa2.lt
  replace O := O.ext Eh5
  replace F := F.ext Eh5
  replace Aa1 := Aa1.ext Eh5
  replace Aa2 := Aa2.ext Eh5
  replace Aa3 : ArR Z h5 a3 "com/example/infinite_marking/infinitemarking/model/Transition" [.null, .null, .null, .null, .null, .null, .null, .null, .null, .null, .null, .null, .null, .null, .null, .null] := Aa3
  have g_a3 : h.size ≤ a3 := by rw [e_a3]; exact z_h4
  have z_h5 : h.size ≤ h5.size := Nat.le_trans z_h4 Eh5.1
  refine g_putO (pc' := 29) (j := 2) (ty := (.array (.object "com/example/infinite_marking/infinitemarking/model/Transition"))) (v' := (.ref a3)) (fs' := [("com/example/infinite_marking/infinitemarking/analysis/Region", "nodes", "[I", (.ref a1)), ("com/example/infinite_marking/infinitemarking/analysis/Region", "parents", "[I", (.ref a2)), ("com/example/infinite_marking/infinitemarking/analysis/Region", "vias", "[Lcom/example/infinite_marking/infinitemarking/model/Transition;", (.ref a3)), ("com/example/infinite_marking/infinitemarking/analysis/Region", "sources", "[I", .null), ("com/example/infinite_marking/infinitemarking/analysis/Region", "steps", "[Lcom/example/infinite_marking/infinitemarking/model/Transition;", .null), ("com/example/infinite_marking/infinitemarking/analysis/Region", "targets", "[I", .null), ("com/example/infinite_marking/infinitemarking/analysis/Region", "exits", "Ljava/util/List;", .null), ("com/example/infinite_marking/infinitemarking/analysis/Region", "byCount", "Ljava/util/Map;", .null), ("com/example/infinite_marking/infinitemarking/analysis/Region", "leading", "Ljava/util/Map;", .null), ("com/example/infinite_marking/infinitemarking/analysis/Region", "quotient", "Lcom/example/infinite_marking/infinitemarking/analysis/TreeQuotient;", .null), ("com/example/infinite_marking/infinitemarking/analysis/Region", "size", "I", (.int (0 : Int32)))]) C d1_26 rfl (hw _ (List.mem_of_getElem? (i := 16) rfl)) Via.refl O rfl (Or.inl (hw _ (List.mem_of_getElem? (i := 17) rfl))) (hw _ (List.mem_of_getElem? (i := 2) rfl)) (by decide) rfl rfl rfl (C.old (List.mem_cons_self ..)) fun h6 O Kh6 => ?_
  replace F := F.keep Kh6 (ninS nst nin0)
  replace Aa1 := Aa1.keep Kh6 (ninS (Ne.symm n_a_a1) nin0)
  replace Aa2 := Aa2.keep Kh6 (ninS (Ne.symm n_a_a2) nin0)
  replace Aa3 := Aa3.keep Kh6 (ninS (Ne.symm n_a_a3) nin0)
  have z_h6 : h.size ≤ h6.size := Nat.le_trans z_h5 Kh6.1
  refine g_aloadN (pc' := 30) C d1_29 rfl rfl rfl ?_
  refine g_bipush (pc' := 32) (z := (16 : Int32)) C d1_30 rfl rfl ?_
  refine g_newarray (pc' := 34) (ty := .int) (len := 16) (cap := 16) (k' := 4) (n' := 64) C d1_32 rfl rfl (hw _ (List.mem_of_getElem? (i := 0) rfl)) rfl (by decide) (by decide) rfl rfl (by decide) (by decide) fun h7 a4 e_a4 Eh7 Aa4 w_a4 => ?_
  have n_a_a4 : a ≠ a4 := by rw [e_a4]; exact Nat.ne_of_lt O.lt
  have n_st_a4 : st ≠ a4 := by rw [e_a4]; exact Nat.ne_of_lt F.lt
  have n_a1_a4 : a1 ≠ a4 := by rw [e_a4]; exact Nat.ne_of_lt Aa1.lt
  have n_a2_a4 : a2 ≠ a4 := by rw [e_a4]; exact Nat.ne_of_lt Aa2.lt
  have n_a3_a4 : a3 ≠ a4 := by rw [e_a4]; exact Nat.ne_of_lt Aa3.lt
  replace O := O.ext Eh7
  replace F := F.ext Eh7
  replace Aa1 := Aa1.ext Eh7
  replace Aa2 := Aa2.ext Eh7
  replace Aa3 := Aa3.ext Eh7
  replace Aa4 : Ar Z h7 a4 .int [(.int (0 : Int32)), (.int (0 : Int32)), (.int (0 : Int32)), (.int (0 : Int32)), (.int (0 : Int32)), (.int (0 : Int32)), (.int (0 : Int32)), (.int (0 : Int32)), (.int (0 : Int32)), (.int (0 : Int32)), (.int (0 : Int32)), (.int (0 : Int32)), (.int (0 : Int32)), (.int (0 : Int32)), (.int (0 : Int32)), (.int (0 : Int32))] := Aa4
  refine g_putO (pc' := 37) (j := 3) (ty := (.array .int)) (v' := (.ref a4)) (fs' := [("com/example/infinite_marking/infinitemarking/analysis/Region", "nodes", "[I", (.ref a1)), ("com/example/infinite_marking/infinitemarking/analysis/Region", "parents", "[I", (.ref a2)), ("com/example/infinite_marking/infinitemarking/analysis/Region", "vias", "[Lcom/example/infinite_marking/infinitemarking/model/Transition;", (.ref a3)), ("com/example/infinite_marking/infinitemarking/analysis/Region", "sources", "[I", (.ref a4)), ("com/example/infinite_marking/infinitemarking/analysis/Region", "steps", "[Lcom/example/infinite_marking/infinitemarking/model/Transition;", .null), ("com/example/infinite_marking/infinitemarking/analysis/Region", "targets", "[I", .null), ("com/example/infinite_marking/infinitemarking/analysis/Region", "exits", "Ljava/util/List;", .null), ("com/example/infinite_marking/infinitemarking/analysis/Region", "byCount", "Ljava/util/Map;", .null), ("com/example/infinite_marking/infinitemarking/analysis/Region", "leading", "Ljava/util/Map;", .null), ("com/example/infinite_marking/infinitemarking/analysis/Region", "quotient", "Lcom/example/infinite_marking/infinitemarking/analysis/TreeQuotient;", .null), ("com/example/infinite_marking/infinitemarking/analysis/Region", "size", "I", (.int (0 : Int32)))]) C d1_34 rfl (hw _ (List.mem_of_getElem? (i := 18) rfl)) Via.refl O rfl (Or.inl (hw _ (List.mem_of_getElem? (i := 19) rfl))) (hw _ (List.mem_of_getElem? (i := 2) rfl)) (by decide) rfl rfl rfl (C.old (List.mem_cons_self ..)) fun h8 O Kh8 => ?_
  replace F := F.keep Kh8 (ninS nst nin0)
  replace Aa1 := Aa1.keep Kh8 (ninS (Ne.symm n_a_a1) nin0)
  replace Aa2 := Aa2.keep Kh8 (ninS (Ne.symm n_a_a2) nin0)
  replace Aa3 := Aa3.keep Kh8 (ninS (Ne.symm n_a_a3) nin0)
  replace Aa4 := Aa4.keep Kh8 (ninS (Ne.symm n_a_a4) nin0)
  refine g_aloadN (pc' := 38) C d1_37 rfl rfl rfl ?_
  refine g_bipush (pc' := 40) (z := (16 : Int32)) C d1_38 rfl rfl ?_
  refine g_anewarray (pc' := 43) (len := 16) (cap := 16) (k' := 5) (n' := 80) C d1_40 rfl (hw _ (List.mem_of_getElem? (i := 14) rfl)) (hw _ (List.mem_of_getElem? (i := 15) rfl)) rfl (by decide) (by decide) rfl rfl (by decide) (by decide) fun h9 a5 e_a5 Eh9 Aa5 w_a5 => ?_
  have n_a_a5 : a ≠ a5 := by rw [e_a5]; exact Nat.ne_of_lt O.lt
  have n_st_a5 : st ≠ a5 := by rw [e_a5]; exact Nat.ne_of_lt F.lt
  have n_a1_a5 : a1 ≠ a5 := by rw [e_a5]; exact Nat.ne_of_lt Aa1.lt
  have n_a2_a5 : a2 ≠ a5 := by rw [e_a5]; exact Nat.ne_of_lt Aa2.lt
  have n_a3_a5 : a3 ≠ a5 := by rw [e_a5]; exact Nat.ne_of_lt Aa3.lt
  have n_a4_a5 : a4 ≠ a5 := by rw [e_a5]; exact Nat.ne_of_lt Aa4.lt
  replace O := O.ext Eh9
  replace F := F.ext Eh9
  replace Aa1 := Aa1.ext Eh9
  replace Aa2 := Aa2.ext Eh9
  replace Aa3 := Aa3.ext Eh9
  replace Aa4 := Aa4.ext Eh9
  replace Aa5 : ArR Z h9 a5 "com/example/infinite_marking/infinitemarking/model/Transition" [.null, .null, .null, .null, .null, .null, .null, .null, .null, .null, .null, .null, .null, .null, .null, .null] := Aa5
  refine g_putO (pc' := 46) (j := 4) (ty := (.array (.object "com/example/infinite_marking/infinitemarking/model/Transition"))) (v' := (.ref a5)) (fs' := [("com/example/infinite_marking/infinitemarking/analysis/Region", "nodes", "[I", (.ref a1)), ("com/example/infinite_marking/infinitemarking/analysis/Region", "parents", "[I", (.ref a2)), ("com/example/infinite_marking/infinitemarking/analysis/Region", "vias", "[Lcom/example/infinite_marking/infinitemarking/model/Transition;", (.ref a3)), ("com/example/infinite_marking/infinitemarking/analysis/Region", "sources", "[I", (.ref a4)), ("com/example/infinite_marking/infinitemarking/analysis/Region", "steps", "[Lcom/example/infinite_marking/infinitemarking/model/Transition;", (.ref a5)), ("com/example/infinite_marking/infinitemarking/analysis/Region", "targets", "[I", .null), ("com/example/infinite_marking/infinitemarking/analysis/Region", "exits", "Ljava/util/List;", .null), ("com/example/infinite_marking/infinitemarking/analysis/Region", "byCount", "Ljava/util/Map;", .null), ("com/example/infinite_marking/infinitemarking/analysis/Region", "leading", "Ljava/util/Map;", .null), ("com/example/infinite_marking/infinitemarking/analysis/Region", "quotient", "Lcom/example/infinite_marking/infinitemarking/analysis/TreeQuotient;", .null), ("com/example/infinite_marking/infinitemarking/analysis/Region", "size", "I", (.int (0 : Int32)))]) C d1_43 rfl (hw _ (List.mem_of_getElem? (i := 20) rfl)) Via.refl O rfl (Or.inl (hw _ (List.mem_of_getElem? (i := 21) rfl))) (hw _ (List.mem_of_getElem? (i := 2) rfl)) (by decide) rfl rfl rfl (C.old (List.mem_cons_self ..)) fun h10 O Kh10 => ?_
  replace F := F.keep Kh10 (ninS nst nin0)
  replace Aa1 := Aa1.keep Kh10 (ninS (Ne.symm n_a_a1) nin0)
  replace Aa2 := Aa2.keep Kh10 (ninS (Ne.symm n_a_a2) nin0)
  replace Aa3 := Aa3.keep Kh10 (ninS (Ne.symm n_a_a3) nin0)
  replace Aa4 := Aa4.keep Kh10 (ninS (Ne.symm n_a_a4) nin0)
  replace Aa5 := Aa5.keep Kh10 (ninS (Ne.symm n_a_a5) nin0)
  refine g_aloadN (pc' := 47) C d1_46 rfl rfl rfl ?_
  refine g_bipush (pc' := 49) (z := (16 : Int32)) C d1_47 rfl rfl ?_
  refine g_newarray (pc' := 51) (ty := .int) (len := 16) (cap := 16) (k' := 6) (n' := 96) C d1_49 rfl rfl (hw _ (List.mem_of_getElem? (i := 0) rfl)) rfl (by decide) (by decide) rfl rfl (by decide) (by decide) fun h11 a6 e_a6 Eh11 Aa6 w_a6 => ?_
  have n_a_a6 : a ≠ a6 := by rw [e_a6]; exact Nat.ne_of_lt O.lt
  have n_st_a6 : st ≠ a6 := by rw [e_a6]; exact Nat.ne_of_lt F.lt
  have n_a1_a6 : a1 ≠ a6 := by rw [e_a6]; exact Nat.ne_of_lt Aa1.lt
  have n_a2_a6 : a2 ≠ a6 := by rw [e_a6]; exact Nat.ne_of_lt Aa2.lt
  have n_a3_a6 : a3 ≠ a6 := by rw [e_a6]; exact Nat.ne_of_lt Aa3.lt
  have n_a4_a6 : a4 ≠ a6 := by rw [e_a6]; exact Nat.ne_of_lt Aa4.lt
  have n_a5_a6 : a5 ≠ a6 := by rw [e_a6]; exact Nat.ne_of_lt Aa5.lt
  replace O := O.ext Eh11
  replace F := F.ext Eh11
  replace Aa1 := Aa1.ext Eh11
  replace Aa2 := Aa2.ext Eh11
  replace Aa3 := Aa3.ext Eh11
  replace Aa4 := Aa4.ext Eh11
  replace Aa5 := Aa5.ext Eh11
  replace Aa6 : Ar Z h11 a6 .int [(.int (0 : Int32)), (.int (0 : Int32)), (.int (0 : Int32)), (.int (0 : Int32)), (.int (0 : Int32)), (.int (0 : Int32)), (.int (0 : Int32)), (.int (0 : Int32)), (.int (0 : Int32)), (.int (0 : Int32)), (.int (0 : Int32)), (.int (0 : Int32)), (.int (0 : Int32)), (.int (0 : Int32)), (.int (0 : Int32)), (.int (0 : Int32))] := Aa6
  refine g_putO (pc' := 54) (j := 5) (ty := (.array .int)) (v' := (.ref a6)) (fs' := [("com/example/infinite_marking/infinitemarking/analysis/Region", "nodes", "[I", (.ref a1)), ("com/example/infinite_marking/infinitemarking/analysis/Region", "parents", "[I", (.ref a2)), ("com/example/infinite_marking/infinitemarking/analysis/Region", "vias", "[Lcom/example/infinite_marking/infinitemarking/model/Transition;", (.ref a3)), ("com/example/infinite_marking/infinitemarking/analysis/Region", "sources", "[I", (.ref a4)), ("com/example/infinite_marking/infinitemarking/analysis/Region", "steps", "[Lcom/example/infinite_marking/infinitemarking/model/Transition;", (.ref a5)), ("com/example/infinite_marking/infinitemarking/analysis/Region", "targets", "[I", (.ref a6)), ("com/example/infinite_marking/infinitemarking/analysis/Region", "exits", "Ljava/util/List;", .null), ("com/example/infinite_marking/infinitemarking/analysis/Region", "byCount", "Ljava/util/Map;", .null), ("com/example/infinite_marking/infinitemarking/analysis/Region", "leading", "Ljava/util/Map;", .null), ("com/example/infinite_marking/infinitemarking/analysis/Region", "quotient", "Lcom/example/infinite_marking/infinitemarking/analysis/TreeQuotient;", .null), ("com/example/infinite_marking/infinitemarking/analysis/Region", "size", "I", (.int (0 : Int32)))]) C d1_51 rfl (hw _ (List.mem_of_getElem? (i := 22) rfl)) Via.refl O rfl (Or.inl (hw _ (List.mem_of_getElem? (i := 23) rfl))) (hw _ (List.mem_of_getElem? (i := 2) rfl)) (by decide) rfl rfl rfl (C.old (List.mem_cons_self ..)) fun h12 O Kh12 => ?_
  replace F := F.keep Kh12 (ninS nst nin0)
  replace Aa1 := Aa1.keep Kh12 (ninS (Ne.symm n_a_a1) nin0)
  replace Aa2 := Aa2.keep Kh12 (ninS (Ne.symm n_a_a2) nin0)
  replace Aa3 := Aa3.keep Kh12 (ninS (Ne.symm n_a_a3) nin0)
  replace Aa4 := Aa4.keep Kh12 (ninS (Ne.symm n_a_a4) nin0)
  replace Aa5 := Aa5.keep Kh12 (ninS (Ne.symm n_a_a5) nin0)
  replace Aa6 := Aa6.keep Kh12 (ninS (Ne.symm n_a_a6) nin0)
  refine g_aloadN (pc' := 55) C d1_54 rfl rfl rfl ?_
  refine g_new (pc' := 58) (k' := 7) (n' := 99) C d1_55 rfl (hw _ (List.mem_of_getElem? (i := 24) rfl)) (hw _ (List.mem_of_getElem? (i := 25) rfl)) (hw _ (List.mem_of_getElem? (i := 26) rfl)) rfl rfl (by decide) (by decide) fun h13 a7 e_a7 Eh13 Xa7 Da7 w_a7 => ?_
  have n_a_a7 : a ≠ a7 := by rw [e_a7]; exact Nat.ne_of_lt O.lt
  have n_st_a7 : st ≠ a7 := by rw [e_a7]; exact Nat.ne_of_lt F.lt
  have n_a1_a7 : a1 ≠ a7 := by rw [e_a7]; exact Nat.ne_of_lt Aa1.lt
  have n_a2_a7 : a2 ≠ a7 := by rw [e_a7]; exact Nat.ne_of_lt Aa2.lt
  have n_a3_a7 : a3 ≠ a7 := by rw [e_a7]; exact Nat.ne_of_lt Aa3.lt
  have n_a4_a7 : a4 ≠ a7 := by rw [e_a7]; exact Nat.ne_of_lt Aa4.lt
  have n_a5_a7 : a5 ≠ a7 := by rw [e_a7]; exact Nat.ne_of_lt Aa5.lt
  have n_a6_a7 : a6 ≠ a7 := by rw [e_a7]; exact Nat.ne_of_lt Aa6.lt
  replace O := O.ext Eh13
  replace F := F.ext Eh13
  replace Aa1 := Aa1.ext Eh13
  replace Aa2 := Aa2.ext Eh13
  replace Aa3 := Aa3.ext Eh13
  replace Aa4 := Aa4.ext Eh13
  replace Aa5 := Aa5.ext Eh13
  replace Aa6 := Aa6.ext Eh13
  have Oa7 : Ob Z h13 a7 "java/util/ArrayList" [("java/util/AbstractList", "modCount", "I", (.int (0 : Int32))), ("java/util/ArrayList", "elementData", "[Ljava/lang/Object;", .null)] := ⟨Xa7, by
    simp only [List.forall_mem_cons, List.not_mem_nil, false_implies, implies_true, and_true]
    exact ⟨Da7 (Or.inl (hw _ (List.mem_of_getElem? (i := 44) rfl))) (ty := .int) (by decide), Da7 (Or.inl (hw _ (List.mem_of_getElem? (i := 47) rfl))) (ty := (.array (.object "java/lang/Object"))) (by decide)⟩, dis_0 Z a0 hw⟩
  refine g_dup (pc' := 59) C d1_58 rfl rfl ?_
  refine g_special (y := (⟨"java/util/ArrayList", "<init>", "()V"⟩ : MethodName)) (a := a7) (pc' := 62) (k' := 7) (n' := 99) (S := [(.ref a7), (.ref a)]) (as := []) C d1_59 rfl rfl (hw _ (List.mem_of_getElem? (i := 27) rfl)) (hw _ (List.mem_of_getElem? (i := 28) rfl)) (hw _ (List.mem_of_getElem? (i := 26) rfl)) (hw _ (List.mem_of_getElem? (i := 29) rfl)) (by decide) (lenOf pd_0 rfl) (con_al W.l Z a0 hw a7 st ee n_st_a7 h13 Oa7 F) rfl rfl (Nat.le_of_ble_eq_true rfl) (Nat.le_of_ble_eq_true rfl) rfl rfl (Nat.le_of_ble_eq_true rfl) (Nat.le_of_ble_eq_true rfl) (allS w_a7 all0) fun vh14 h14 qh14 Kh14 => ?_
  obtain ⟨rfl, -⟩ := qh14
  replace O := O.keep Kh14 (ninS n_a_a7 nin0)
  replace F := F.keep Kh14 (ninS n_st_a7 nin0)
  replace Aa1 := Aa1.keep Kh14 (ninS n_a1_a7 nin0)
  replace Aa2 := Aa2.keep Kh14 (ninS n_a2_a7 nin0)
  replace Aa3 := Aa3.keep Kh14 (ninS n_a3_a7 nin0)
  replace Aa4 := Aa4.keep Kh14 (ninS n_a4_a7 nin0)
  replace Aa5 := Aa5.keep Kh14 (ninS n_a5_a7 nin0)
  replace Aa6 := Aa6.keep Kh14 (ninS n_a6_a7 nin0)
  show Go W Q h14 7 99 62 #[.val (.ref a), .val .null] [(.ref a7), (.ref a)]
  refine g_putO (pc' := 65) (j := 6) (ty := (.object "java/util/List")) (v' := (.ref a7)) (fs' := [("com/example/infinite_marking/infinitemarking/analysis/Region", "nodes", "[I", (.ref a1)), ("com/example/infinite_marking/infinitemarking/analysis/Region", "parents", "[I", (.ref a2)), ("com/example/infinite_marking/infinitemarking/analysis/Region", "vias", "[Lcom/example/infinite_marking/infinitemarking/model/Transition;", (.ref a3)), ("com/example/infinite_marking/infinitemarking/analysis/Region", "sources", "[I", (.ref a4)), ("com/example/infinite_marking/infinitemarking/analysis/Region", "steps", "[Lcom/example/infinite_marking/infinitemarking/model/Transition;", (.ref a5)), ("com/example/infinite_marking/infinitemarking/analysis/Region", "targets", "[I", (.ref a6)), ("com/example/infinite_marking/infinitemarking/analysis/Region", "exits", "Ljava/util/List;", (.ref a7)), ("com/example/infinite_marking/infinitemarking/analysis/Region", "byCount", "Ljava/util/Map;", .null), ("com/example/infinite_marking/infinitemarking/analysis/Region", "leading", "Ljava/util/Map;", .null), ("com/example/infinite_marking/infinitemarking/analysis/Region", "quotient", "Lcom/example/infinite_marking/infinitemarking/analysis/TreeQuotient;", .null), ("com/example/infinite_marking/infinitemarking/analysis/Region", "size", "I", (.int (0 : Int32)))]) C d1_62 rfl (hw _ (List.mem_of_getElem? (i := 48) rfl)) Via.refl O rfl (Or.inr ⟨(hw _ (List.mem_of_getElem? (i := 49) rfl)), rfl, rfl⟩) (hw _ (List.mem_of_getElem? (i := 2) rfl)) (by decide) rfl rfl rfl (C.old (List.mem_cons_self ..)) fun h15 O Kh15 => ?_
  replace F := F.keep Kh15 (ninS nst nin0)
  replace Aa1 := Aa1.keep Kh15 (ninS (Ne.symm n_a_a1) nin0)
  replace Aa2 := Aa2.keep Kh15 (ninS (Ne.symm n_a_a2) nin0)
  replace Aa3 := Aa3.keep Kh15 (ninS (Ne.symm n_a_a3) nin0)
  replace Aa4 := Aa4.keep Kh15 (ninS (Ne.symm n_a_a4) nin0)
  replace Aa5 := Aa5.keep Kh15 (ninS (Ne.symm n_a_a5) nin0)
  replace Aa6 := Aa6.keep Kh15 (ninS (Ne.symm n_a_a6) nin0)
  refine g_aloadN (pc' := 66) C d1_65 rfl rfl rfl ?_
  refine g_new (pc' := 69) (k' := 8) (n' := 107) C d1_66 rfl (hw _ (List.mem_of_getElem? (i := 50) rfl)) (hw _ (List.mem_of_getElem? (i := 51) rfl)) (hw _ (List.mem_of_getElem? (i := 52) rfl)) rfl rfl (by decide) (by decide) fun h16 a8 e_a8 Eh16 Xa8 Da8 w_a8 => ?_
  have n_a_a8 : a ≠ a8 := by rw [e_a8]; exact Nat.ne_of_lt O.lt
  have n_st_a8 : st ≠ a8 := by rw [e_a8]; exact Nat.ne_of_lt F.lt
  have n_a1_a8 : a1 ≠ a8 := by rw [e_a8]; exact Nat.ne_of_lt Aa1.lt
  have n_a2_a8 : a2 ≠ a8 := by rw [e_a8]; exact Nat.ne_of_lt Aa2.lt
  have n_a3_a8 : a3 ≠ a8 := by rw [e_a8]; exact Nat.ne_of_lt Aa3.lt
  have n_a4_a8 : a4 ≠ a8 := by rw [e_a8]; exact Nat.ne_of_lt Aa4.lt
  have n_a5_a8 : a5 ≠ a8 := by rw [e_a8]; exact Nat.ne_of_lt Aa5.lt
  have n_a6_a8 : a6 ≠ a8 := by rw [e_a8]; exact Nat.ne_of_lt Aa6.lt
  replace O := O.ext Eh16
  replace F := F.ext Eh16
  replace Aa1 := Aa1.ext Eh16
  replace Aa2 := Aa2.ext Eh16
  replace Aa3 := Aa3.ext Eh16
  replace Aa4 := Aa4.ext Eh16
  replace Aa5 := Aa5.ext Eh16
  replace Aa6 := Aa6.ext Eh16
  have Oa8 : Ob Z h16 a8 "java/util/HashMap" [("java/util/HashMap", "loadFactor", "F", (.float (0 : UInt32)))] := ⟨Xa8, by
    simp only [List.forall_mem_cons, List.not_mem_nil, false_implies, implies_true, and_true]
    exact Da8 (Or.inr (hw _ (List.mem_of_getElem? (i := 65) rfl))) (ty := .float) (by decide), dis_1 Z a0 hw⟩
  refine g_dup (pc' := 70) C d1_69 rfl rfl ?_
  refine g_special (y := (⟨"java/util/HashMap", "<init>", "()V"⟩ : MethodName)) (a := a8) (pc' := 73) (k' := 8) (n' := 107) (S := [(.ref a8), (.ref a)]) (as := []) C d1_70 rfl rfl (hw _ (List.mem_of_getElem? (i := 53) rfl)) (hw _ (List.mem_of_getElem? (i := 54) rfl)) (hw _ (List.mem_of_getElem? (i := 52) rfl)) (hw _ (List.mem_of_getElem? (i := 55) rfl)) (by decide) (lenOf pd_0 rfl) (con_hm W.l Z a0 hw a8 h16 Oa8) rfl rfl (Nat.le_of_ble_eq_true rfl) (Nat.le_of_ble_eq_true rfl) rfl rfl (Nat.le_of_ble_eq_true rfl) (Nat.le_of_ble_eq_true rfl) (allS w_a8 all0) fun vh17 h17 qh17 Kh17 => ?_
  obtain ⟨rfl, -⟩ := qh17
  replace O := O.keep Kh17 (ninS n_a_a8 nin0)
  replace F := F.keep Kh17 (ninS n_st_a8 nin0)
  replace Aa1 := Aa1.keep Kh17 (ninS n_a1_a8 nin0)
  replace Aa2 := Aa2.keep Kh17 (ninS n_a2_a8 nin0)
  replace Aa3 := Aa3.keep Kh17 (ninS n_a3_a8 nin0)
  replace Aa4 := Aa4.keep Kh17 (ninS n_a4_a8 nin0)
  replace Aa5 := Aa5.keep Kh17 (ninS n_a5_a8 nin0)
  replace Aa6 := Aa6.keep Kh17 (ninS n_a6_a8 nin0)
  show Go W Q h17 8 107 73 #[.val (.ref a), .val .null] [(.ref a8), (.ref a)]
  refine g_putO (pc' := 76) (j := 7) (ty := (.object "java/util/Map")) (v' := (.ref a8)) (fs' := [("com/example/infinite_marking/infinitemarking/analysis/Region", "nodes", "[I", (.ref a1)), ("com/example/infinite_marking/infinitemarking/analysis/Region", "parents", "[I", (.ref a2)), ("com/example/infinite_marking/infinitemarking/analysis/Region", "vias", "[Lcom/example/infinite_marking/infinitemarking/model/Transition;", (.ref a3)), ("com/example/infinite_marking/infinitemarking/analysis/Region", "sources", "[I", (.ref a4)), ("com/example/infinite_marking/infinitemarking/analysis/Region", "steps", "[Lcom/example/infinite_marking/infinitemarking/model/Transition;", (.ref a5)), ("com/example/infinite_marking/infinitemarking/analysis/Region", "targets", "[I", (.ref a6)), ("com/example/infinite_marking/infinitemarking/analysis/Region", "exits", "Ljava/util/List;", (.ref a7)), ("com/example/infinite_marking/infinitemarking/analysis/Region", "byCount", "Ljava/util/Map;", (.ref a8)), ("com/example/infinite_marking/infinitemarking/analysis/Region", "leading", "Ljava/util/Map;", .null), ("com/example/infinite_marking/infinitemarking/analysis/Region", "quotient", "Lcom/example/infinite_marking/infinitemarking/analysis/TreeQuotient;", .null), ("com/example/infinite_marking/infinitemarking/analysis/Region", "size", "I", (.int (0 : Int32)))]) C d1_73 rfl (hw _ (List.mem_of_getElem? (i := 66) rfl)) Via.refl O rfl (Or.inr ⟨(hw _ (List.mem_of_getElem? (i := 67) rfl)), rfl, rfl⟩) (hw _ (List.mem_of_getElem? (i := 2) rfl)) (by decide) rfl rfl rfl (C.old (List.mem_cons_self ..)) fun h18 O Kh18 => ?_
  replace F := F.keep Kh18 (ninS nst nin0)
  replace Aa1 := Aa1.keep Kh18 (ninS (Ne.symm n_a_a1) nin0)
  replace Aa2 := Aa2.keep Kh18 (ninS (Ne.symm n_a_a2) nin0)
  replace Aa3 := Aa3.keep Kh18 (ninS (Ne.symm n_a_a3) nin0)
  replace Aa4 := Aa4.keep Kh18 (ninS (Ne.symm n_a_a4) nin0)
  replace Aa5 := Aa5.keep Kh18 (ninS (Ne.symm n_a_a5) nin0)
  replace Aa6 := Aa6.keep Kh18 (ninS (Ne.symm n_a_a6) nin0)
  refine g_aloadN (pc' := 77) C d1_76 rfl rfl rfl ?_
  refine g_new (pc' := 80) (k' := 9) (n' := 115) C d1_77 rfl (hw _ (List.mem_of_getElem? (i := 50) rfl)) (hw _ (List.mem_of_getElem? (i := 51) rfl)) (hw _ (List.mem_of_getElem? (i := 52) rfl)) rfl rfl (by decide) (by decide) fun h19 a9 e_a9 Eh19 Xa9 Da9 w_a9 => ?_
  have n_a_a9 : a ≠ a9 := by rw [e_a9]; exact Nat.ne_of_lt O.lt
  have n_st_a9 : st ≠ a9 := by rw [e_a9]; exact Nat.ne_of_lt F.lt
  have n_a1_a9 : a1 ≠ a9 := by rw [e_a9]; exact Nat.ne_of_lt Aa1.lt
  have n_a2_a9 : a2 ≠ a9 := by rw [e_a9]; exact Nat.ne_of_lt Aa2.lt
  have n_a3_a9 : a3 ≠ a9 := by rw [e_a9]; exact Nat.ne_of_lt Aa3.lt
  have n_a4_a9 : a4 ≠ a9 := by rw [e_a9]; exact Nat.ne_of_lt Aa4.lt
  have n_a5_a9 : a5 ≠ a9 := by rw [e_a9]; exact Nat.ne_of_lt Aa5.lt
  have n_a6_a9 : a6 ≠ a9 := by rw [e_a9]; exact Nat.ne_of_lt Aa6.lt
  replace O := O.ext Eh19
  replace F := F.ext Eh19
  replace Aa1 := Aa1.ext Eh19
  replace Aa2 := Aa2.ext Eh19
  replace Aa3 := Aa3.ext Eh19
  replace Aa4 := Aa4.ext Eh19
  replace Aa5 := Aa5.ext Eh19
  replace Aa6 := Aa6.ext Eh19
  have Oa9 : Ob Z h19 a9 "java/util/HashMap" [("java/util/HashMap", "loadFactor", "F", (.float (0 : UInt32)))] := ⟨Xa9, by
    simp only [List.forall_mem_cons, List.not_mem_nil, false_implies, implies_true, and_true]
    exact Da9 (Or.inr (hw _ (List.mem_of_getElem? (i := 65) rfl))) (ty := .float) (by decide), dis_1 Z a0 hw⟩
  refine g_dup (pc' := 81) C d1_80 rfl rfl ?_
  refine g_special (y := (⟨"java/util/HashMap", "<init>", "()V"⟩ : MethodName)) (a := a9) (pc' := 84) (k' := 9) (n' := 115) (S := [(.ref a9), (.ref a)]) (as := []) C d1_81 rfl rfl (hw _ (List.mem_of_getElem? (i := 53) rfl)) (hw _ (List.mem_of_getElem? (i := 54) rfl)) (hw _ (List.mem_of_getElem? (i := 52) rfl)) (hw _ (List.mem_of_getElem? (i := 55) rfl)) (by decide) (lenOf pd_0 rfl) (con_hm W.l Z a0 hw a9 h19 Oa9) rfl rfl (Nat.le_of_ble_eq_true rfl) (Nat.le_of_ble_eq_true rfl) rfl rfl (Nat.le_of_ble_eq_true rfl) (Nat.le_of_ble_eq_true rfl) (allS w_a9 all0) fun vh20 h20 qh20 Kh20 => ?_
  obtain ⟨rfl, -⟩ := qh20
  replace O := O.keep Kh20 (ninS n_a_a9 nin0)
  replace F := F.keep Kh20 (ninS n_st_a9 nin0)
  replace Aa1 := Aa1.keep Kh20 (ninS n_a1_a9 nin0)
  replace Aa2 := Aa2.keep Kh20 (ninS n_a2_a9 nin0)
  replace Aa3 := Aa3.keep Kh20 (ninS n_a3_a9 nin0)
  replace Aa4 := Aa4.keep Kh20 (ninS n_a4_a9 nin0)
  replace Aa5 := Aa5.keep Kh20 (ninS n_a5_a9 nin0)
  replace Aa6 := Aa6.keep Kh20 (ninS n_a6_a9 nin0)
  show Go W Q h20 9 115 84 #[.val (.ref a), .val .null] [(.ref a9), (.ref a)]
  refine g_putO (pc' := 87) (j := 8) (ty := (.object "java/util/Map")) (v' := (.ref a9)) (fs' := [("com/example/infinite_marking/infinitemarking/analysis/Region", "nodes", "[I", (.ref a1)), ("com/example/infinite_marking/infinitemarking/analysis/Region", "parents", "[I", (.ref a2)), ("com/example/infinite_marking/infinitemarking/analysis/Region", "vias", "[Lcom/example/infinite_marking/infinitemarking/model/Transition;", (.ref a3)), ("com/example/infinite_marking/infinitemarking/analysis/Region", "sources", "[I", (.ref a4)), ("com/example/infinite_marking/infinitemarking/analysis/Region", "steps", "[Lcom/example/infinite_marking/infinitemarking/model/Transition;", (.ref a5)), ("com/example/infinite_marking/infinitemarking/analysis/Region", "targets", "[I", (.ref a6)), ("com/example/infinite_marking/infinitemarking/analysis/Region", "exits", "Ljava/util/List;", (.ref a7)), ("com/example/infinite_marking/infinitemarking/analysis/Region", "byCount", "Ljava/util/Map;", (.ref a8)), ("com/example/infinite_marking/infinitemarking/analysis/Region", "leading", "Ljava/util/Map;", (.ref a9)), ("com/example/infinite_marking/infinitemarking/analysis/Region", "quotient", "Lcom/example/infinite_marking/infinitemarking/analysis/TreeQuotient;", .null), ("com/example/infinite_marking/infinitemarking/analysis/Region", "size", "I", (.int (0 : Int32)))]) C d1_84 rfl (hw _ (List.mem_of_getElem? (i := 68) rfl)) Via.refl O rfl (Or.inr ⟨(hw _ (List.mem_of_getElem? (i := 69) rfl)), rfl, rfl⟩) (hw _ (List.mem_of_getElem? (i := 2) rfl)) (by decide) rfl rfl rfl (C.old (List.mem_cons_self ..)) fun h21 O Kh21 => ?_
  replace F := F.keep Kh21 (ninS nst nin0)
  replace Aa1 := Aa1.keep Kh21 (ninS (Ne.symm n_a_a1) nin0)
  replace Aa2 := Aa2.keep Kh21 (ninS (Ne.symm n_a_a2) nin0)
  replace Aa3 := Aa3.keep Kh21 (ninS (Ne.symm n_a_a3) nin0)
  replace Aa4 := Aa4.keep Kh21 (ninS (Ne.symm n_a_a4) nin0)
  replace Aa5 := Aa5.keep Kh21 (ninS (Ne.symm n_a_a5) nin0)
  replace Aa6 := Aa6.keep Kh21 (ninS (Ne.symm n_a_a6) nin0)
  refine g_aloadN (pc' := 88) C d1_87 rfl rfl rfl ?_
  refine g_aloadN (pc' := 89) C d1_88 rfl rfl rfl ?_
  refine g_putO (pc' := 92) (j := 9) (ty := (.object "com/example/infinite_marking/infinitemarking/analysis/TreeQuotient")) (v' := .null) (fs' := [("com/example/infinite_marking/infinitemarking/analysis/Region", "nodes", "[I", (.ref a1)), ("com/example/infinite_marking/infinitemarking/analysis/Region", "parents", "[I", (.ref a2)), ("com/example/infinite_marking/infinitemarking/analysis/Region", "vias", "[Lcom/example/infinite_marking/infinitemarking/model/Transition;", (.ref a3)), ("com/example/infinite_marking/infinitemarking/analysis/Region", "sources", "[I", (.ref a4)), ("com/example/infinite_marking/infinitemarking/analysis/Region", "steps", "[Lcom/example/infinite_marking/infinitemarking/model/Transition;", (.ref a5)), ("com/example/infinite_marking/infinitemarking/analysis/Region", "targets", "[I", (.ref a6)), ("com/example/infinite_marking/infinitemarking/analysis/Region", "exits", "Ljava/util/List;", (.ref a7)), ("com/example/infinite_marking/infinitemarking/analysis/Region", "byCount", "Ljava/util/Map;", (.ref a8)), ("com/example/infinite_marking/infinitemarking/analysis/Region", "leading", "Ljava/util/Map;", (.ref a9)), ("com/example/infinite_marking/infinitemarking/analysis/Region", "quotient", "Lcom/example/infinite_marking/infinitemarking/analysis/TreeQuotient;", .null), ("com/example/infinite_marking/infinitemarking/analysis/Region", "size", "I", (.int (0 : Int32)))]) C d1_89 rfl (hw _ (List.mem_of_getElem? (i := 70) rfl)) Via.refl O rfl (Or.inr ⟨(hw _ (List.mem_of_getElem? (i := 71) rfl)), rfl, rfl⟩) (hw _ (List.mem_of_getElem? (i := 2) rfl)) (by decide) rfl rfl rfl (C.old (List.mem_cons_self ..)) fun h22 O Kh22 => ?_
  replace F := F.keep Kh22 (ninS nst nin0)
  replace Aa1 := Aa1.keep Kh22 (ninS (Ne.symm n_a_a1) nin0)
  replace Aa2 := Aa2.keep Kh22 (ninS (Ne.symm n_a_a2) nin0)
  replace Aa3 := Aa3.keep Kh22 (ninS (Ne.symm n_a_a3) nin0)
  replace Aa4 := Aa4.keep Kh22 (ninS (Ne.symm n_a_a4) nin0)
  replace Aa5 := Aa5.keep Kh22 (ninS (Ne.symm n_a_a5) nin0)
  replace Aa6 := Aa6.keep Kh22 (ninS (Ne.symm n_a_a6) nin0)
  refine g_return C d1_92 (by decide) (by decide) ?_
  subst hQ
  exact ⟨rfl, a1, a2, a3, a4, a5, a6, a7, a8, a9, g_a1, g_a2, g_a3, n_a_a1, n_a_a2, n_a_a3, n_a1_a2, n_a1_a3, n_a2_a3, O, Aa1, Aa2, Aa3⟩
set_option maxRecDepth 65536 in
set_option maxHeartbeats 2000000 in
theorem con_add (l : Launch) (Z : State) (a0 : Array Value) (hw : ∀ d ∈ tables_1, d.before a0 Z = true) (a b1 b2 b3 b4 b5 b6 e1 e2 e3 : Addr) (n x y : Int32) (i : Nat) (xs ps ts : List Value) (hn : n.toInt = i) (hi : i < 16) (l1 : xs.length = 16) (l2 : ps.length = 16) (l3 : ts.length = 16) (q01 : a ≠ b1) (q02 : a ≠ b2) (q03 : a ≠ b3) (q12 : b1 ≠ b2) (q13 : b1 ≠ b3) (q23 : b2 ≠ b3) (h : Heap) (O : Ob Z h a "com/example/infinite_marking/infinitemarking/analysis/Region" [("com/example/infinite_marking/infinitemarking/analysis/Region", "nodes", "[I", (.ref b1)), ("com/example/infinite_marking/infinitemarking/analysis/Region", "parents", "[I", (.ref b2)), ("com/example/infinite_marking/infinitemarking/analysis/Region", "vias", "[Lcom/example/infinite_marking/infinitemarking/model/Transition;", (.ref b3)), ("com/example/infinite_marking/infinitemarking/analysis/Region", "sources", "[I", (.ref b4)), ("com/example/infinite_marking/infinitemarking/analysis/Region", "steps", "[Lcom/example/infinite_marking/infinitemarking/model/Transition;", (.ref b5)), ("com/example/infinite_marking/infinitemarking/analysis/Region", "targets", "[I", (.ref b6)), ("com/example/infinite_marking/infinitemarking/analysis/Region", "exits", "Ljava/util/List;", (.ref e1)), ("com/example/infinite_marking/infinitemarking/analysis/Region", "byCount", "Ljava/util/Map;", (.ref e2)), ("com/example/infinite_marking/infinitemarking/analysis/Region", "leading", "Ljava/util/Map;", (.ref e3)), ("com/example/infinite_marking/infinitemarking/analysis/Region", "quotient", "Lcom/example/infinite_marking/infinitemarking/analysis/TreeQuotient;", .null), ("com/example/infinite_marking/infinitemarking/analysis/Region", "size", "I", (.int n))]) (A1 : Ar Z h b1 .int xs) (A2 : Ar Z h b2 .int ps) (A3 : ArR Z h b3 "com/example/infinite_marking/infinitemarking/model/Transition" ts) :
    Con l Z [] (⟨"com/example/infinite_marking/infinitemarking/analysis/Region", "add", "(IILcom/example/infinite_marking/infinitemarking/model/Transition;)V"⟩ : MethodName) prog_50_method_2_code 4 none ({ frames := 0, cells := 0, slots := 0, locals := 0 } : Room) #[(.ref a), (.int x), (.int y), .null] h [a, b1, b2, b3] (fun v h' => v = none ∧ Ob Z h' a "com/example/infinite_marking/infinitemarking/analysis/Region" [("com/example/infinite_marking/infinitemarking/analysis/Region", "nodes", "[I", (.ref b1)), ("com/example/infinite_marking/infinitemarking/analysis/Region", "parents", "[I", (.ref b2)), ("com/example/infinite_marking/infinitemarking/analysis/Region", "vias", "[Lcom/example/infinite_marking/infinitemarking/model/Transition;", (.ref b3)), ("com/example/infinite_marking/infinitemarking/analysis/Region", "sources", "[I", (.ref b4)), ("com/example/infinite_marking/infinitemarking/analysis/Region", "steps", "[Lcom/example/infinite_marking/infinitemarking/model/Transition;", (.ref b5)), ("com/example/infinite_marking/infinitemarking/analysis/Region", "targets", "[I", (.ref b6)), ("com/example/infinite_marking/infinitemarking/analysis/Region", "exits", "Ljava/util/List;", (.ref e1)), ("com/example/infinite_marking/infinitemarking/analysis/Region", "byCount", "Ljava/util/Map;", (.ref e2)), ("com/example/infinite_marking/infinitemarking/analysis/Region", "leading", "Ljava/util/Map;", (.ref e3)), ("com/example/infinite_marking/infinitemarking/analysis/Region", "quotient", "Lcom/example/infinite_marking/infinitemarking/analysis/TreeQuotient;", .null), ("com/example/infinite_marking/infinitemarking/analysis/Region", "size", "I", (.int (n + 1)))] ∧ Ar Z h' b1 .int (xs.set i (.int x)) ∧ Ar Z h' b2 .int (ps.set i (.int y)) ∧ ArR Z h' b3 "com/example/infinite_marking/infinitemarking/model/Transition" (ts.set i .null)) := by
  refine Con.of_go (L0 := #[.val (.ref a), .val (.int x), .val (.int y), .val .null]) (plainFor_of_name (by first | (simp [plainName, overriddenIn]; done) | decide +kernel)) (locals_of rfl) fun W Q hQ hl C => ?_
  subst hl
  refine g_aloadN (pc' := 1) C d8_0 rfl rfl rfl ?_
  refine g_getO (pc' := 4) (j := 10) C d8_1 rfl (hw _ (List.mem_of_getElem? (i := 77) rfl)) O rfl ?_
  refine g_aloadN (pc' := 5) C d8_4 rfl rfl rfl ?_
  refine g_getO (pc' := 8) (j := 0) C d8_5 rfl (hw _ (List.mem_of_getElem? (i := 10) rfl)) O rfl ?_
  refine g_arraylength (pc' := 9) (z := (16 : Int32)) C d8_8 rfl A1 (by rw [l1]; rfl) ?_
  refine g_icmp (xi := n.toInt) (yi := (16)) (pc1 := 69) (pc2 := 12) C d8_9 (by decide) rfl rfl rfl rfl (fun (c9 : ¬ (n.toInt = (16))) => ?_) (fun (c9 : ¬ (¬ (n.toInt = (16)))) => ?_)
  ·
    refine g_aloadN (pc' := 70) C d8_69 rfl rfl rfl ?_
    refine g_getO (pc' := 73) (j := 0) C d8_70 rfl (hw _ (List.mem_of_getElem? (i := 10) rfl)) O rfl ?_
    refine g_aloadN (pc' := 74) C d8_73 rfl rfl rfl ?_
    refine g_getO (pc' := 77) (j := 10) C d8_74 rfl (hw _ (List.mem_of_getElem? (i := 77) rfl)) O rfl ?_
    refine g_iloadN (pc' := 78) C d8_77 rfl rfl ?_
    refine g_iastore (pc' := 79) (i := i) C d8_78 rfl A1 hn (by omega) rfl (C.old (List.mem_of_getElem? (i := 1) rfl)) fun h1 A1 Kh1 => ?_
    replace O := O.keep Kh1 (ninS q01 nin0)
    replace A2 := A2.keep Kh1 (ninS (Ne.symm q12) nin0)
    replace A3 := A3.keep Kh1 (ninS (Ne.symm q13) nin0)
    refine g_aloadN (pc' := 80) C d8_79 rfl rfl rfl ?_
    refine g_getO (pc' := 83) (j := 1) C d8_80 rfl (hw _ (List.mem_of_getElem? (i := 12) rfl)) O rfl ?_
    refine g_aloadN (pc' := 84) C d8_83 rfl rfl rfl ?_
    refine g_getO (pc' := 87) (j := 10) C d8_84 rfl (hw _ (List.mem_of_getElem? (i := 77) rfl)) O rfl ?_
    refine g_iloadN (pc' := 88) C d8_87 rfl rfl ?_
    refine g_iastore (pc' := 89) (i := i) C d8_88 rfl A2 hn (by omega) rfl (C.old (List.mem_of_getElem? (i := 2) rfl)) fun h2 A2 Kh2 => ?_
    replace O := O.keep Kh2 (ninS q02 nin0)
    replace A1 := A1.keep Kh2 (ninS q12 nin0)
    replace A3 := A3.keep Kh2 (ninS (Ne.symm q23) nin0)
    refine g_aloadN (pc' := 90) C d8_89 rfl rfl rfl ?_
    refine g_getO (pc' := 93) (j := 2) C d8_90 rfl (hw _ (List.mem_of_getElem? (i := 16) rfl)) O rfl ?_
    refine g_aloadN (pc' := 94) C d8_93 rfl rfl rfl ?_
    refine g_getO (pc' := 97) (j := 10) C d8_94 rfl (hw _ (List.mem_of_getElem? (i := 77) rfl)) O rfl ?_
    refine g_aloadN (pc' := 98) C d8_97 rfl rfl rfl ?_
    refine g_aastore (pc' := 99) (i := i) C d8_98 rfl A3 hn (by omega) rfl (Or.inl rfl) (C.old (List.mem_of_getElem? (i := 3) rfl)) fun h3 A3 Kh3 => ?_
    replace O := O.keep Kh3 (ninS q03 nin0)
    replace A1 := A1.keep Kh3 (ninS q13 nin0)
    replace A2 := A2.keep Kh3 (ninS q23 nin0)
    refine g_aloadN (pc' := 100) C d8_99 rfl rfl rfl ?_
    refine g_dup (pc' := 101) C d8_100 rfl rfl ?_
    refine g_getO (pc' := 104) (j := 10) C d8_101 rfl (hw _ (List.mem_of_getElem? (i := 77) rfl)) O rfl ?_
    refine g_iconst (pc' := 105) (z := (1 : Int32)) C d8_104 rfl rfl ?_
    refine g_iadd (pc' := 106) C d8_105 rfl ?_
    refine g_putO (pc' := 109) (j := 10) (ty := .int) (v' := (.int (n + (1 : Int32)))) (fs' := [("com/example/infinite_marking/infinitemarking/analysis/Region", "nodes", "[I", (.ref b1)), ("com/example/infinite_marking/infinitemarking/analysis/Region", "parents", "[I", (.ref b2)), ("com/example/infinite_marking/infinitemarking/analysis/Region", "vias", "[Lcom/example/infinite_marking/infinitemarking/model/Transition;", (.ref b3)), ("com/example/infinite_marking/infinitemarking/analysis/Region", "sources", "[I", (.ref b4)), ("com/example/infinite_marking/infinitemarking/analysis/Region", "steps", "[Lcom/example/infinite_marking/infinitemarking/model/Transition;", (.ref b5)), ("com/example/infinite_marking/infinitemarking/analysis/Region", "targets", "[I", (.ref b6)), ("com/example/infinite_marking/infinitemarking/analysis/Region", "exits", "Ljava/util/List;", (.ref e1)), ("com/example/infinite_marking/infinitemarking/analysis/Region", "byCount", "Ljava/util/Map;", (.ref e2)), ("com/example/infinite_marking/infinitemarking/analysis/Region", "leading", "Ljava/util/Map;", (.ref e3)), ("com/example/infinite_marking/infinitemarking/analysis/Region", "quotient", "Lcom/example/infinite_marking/infinitemarking/analysis/TreeQuotient;", .null), ("com/example/infinite_marking/infinitemarking/analysis/Region", "size", "I", (.int (n + (1 : Int32))))]) C d8_106 rfl (hw _ (List.mem_of_getElem? (i := 77) rfl)) Via.refl O rfl (Or.inl (hw _ (List.mem_of_getElem? (i := 78) rfl))) (hw _ (List.mem_of_getElem? (i := 2) rfl)) (by decide) rfl rfl rfl (C.old (List.mem_of_getElem? (i := 0) rfl)) fun h4 O Kh4 => ?_
    replace A1 := A1.keep Kh4 (ninS (Ne.symm q01) nin0)
    replace A2 := A2.keep Kh4 (ninS (Ne.symm q02) nin0)
    replace A3 := A3.keep Kh4 (ninS (Ne.symm q03) nin0)
    refine g_return C d8_109 (by decide) (by decide) ?_
    subst hQ
    exact ⟨rfl, O, A1, A2, A3⟩
  ·
    replace c9 : n.toInt = (16) := Decidable.not_not.mp c9
    exfalso; omega
set_option maxRecDepth 65536 in
set_option maxHeartbeats 2000000 in
theorem con_within (l : Launch) (Z : State) (a0 : Array Value) (hw : ∀ d ∈ tables_1, d.before a0 Z = true) (a b1 b2 b3 b4 b5 b6 e1 e2 e3 : Addr) (n x y : Int32) (ps : List Int32) (D : Nat → Nat) (tr : Tree ps D) (m0 : Nat) (hx : x.toInt = m0) (hm0 : m0 < 6) (hy : 0 ≤ y.toInt) (h : Heap) (O : Ob Z h a "com/example/infinite_marking/infinitemarking/analysis/Region" [("com/example/infinite_marking/infinitemarking/analysis/Region", "nodes", "[I", (.ref b1)), ("com/example/infinite_marking/infinitemarking/analysis/Region", "parents", "[I", (.ref b2)), ("com/example/infinite_marking/infinitemarking/analysis/Region", "vias", "[Lcom/example/infinite_marking/infinitemarking/model/Transition;", (.ref b3)), ("com/example/infinite_marking/infinitemarking/analysis/Region", "sources", "[I", (.ref b4)), ("com/example/infinite_marking/infinitemarking/analysis/Region", "steps", "[Lcom/example/infinite_marking/infinitemarking/model/Transition;", (.ref b5)), ("com/example/infinite_marking/infinitemarking/analysis/Region", "targets", "[I", (.ref b6)), ("com/example/infinite_marking/infinitemarking/analysis/Region", "exits", "Ljava/util/List;", (.ref e1)), ("com/example/infinite_marking/infinitemarking/analysis/Region", "byCount", "Ljava/util/Map;", (.ref e2)), ("com/example/infinite_marking/infinitemarking/analysis/Region", "leading", "Ljava/util/Map;", (.ref e3)), ("com/example/infinite_marking/infinitemarking/analysis/Region", "quotient", "Lcom/example/infinite_marking/infinitemarking/analysis/TreeQuotient;", .null), ("com/example/infinite_marking/infinitemarking/analysis/Region", "size", "I", (.int n))]) (A2 : Ar Z h b2 .int (ps.map Value.int)) :
    Con l Z [] (⟨"com/example/infinite_marking/infinitemarking/analysis/Region", "isWithin", "(II)Z"⟩ : MethodName) prog_50_method_12_code 5 (some .boolean) ({ frames := 0, cells := 0, slots := 0, locals := 0 } : Room) #[(.ref a), (.int x), (.int y)] h [] (fun v h' => v = some (.int (b2i ((D m0 : Int) ≤ y.toInt))) ∧ h' = h) := by
  refine Con.of_go (L0 := #[.val (.ref a), .val (.int x), .val (.int y), .unset, .unset]) (plainFor_of_name (by first | (simp [plainName, overriddenIn]; done) | decide +kernel)) (locals_of rfl) fun W Q hQ hl C => ?_
  subst hl
  have loop : ∀ (r : Nat) (z s : Int32) (m t : Nat), z.toInt = m → m < 6 → s.toInt = t → D m0 = D m + t → (t : Int) + r = y.toInt → Go W Q h 0 0 5 #[.val (.ref a), .val (.int x), .val (.int y), .val (.int z), .val (.int s)] [] := by
    intro r
    induction r with
    | zero =>
      intro z s m t gz gm gs gd gr
      have x3 := c_iadd s 1
      have x4 : (1 : Int32).toInt = 1 := rfl
      have x5 := rng32 (s + 1)
      have x6 := y.toInt_lt
      rw [x4] at x3
      rcases tr.2 m gm with ⟨e, d0⟩ | ⟨q, hq, e, d0⟩
      ·
        refine g_iload (pc' := 7) C d9_5 rfl rfl ?_
        refine g_iloadN (pc' := 8) C d9_7 rfl rfl ?_
        refine g_icmp (xi := s.toInt) (yi := y.toInt) (pc1 := 33) (pc2 := 11) C d9_8 (by decide) rfl rfl rfl rfl (fun (c8 : y.toInt ≤ s.toInt) => ?_) (fun (c8 : ¬ (y.toInt ≤ s.toInt)) => ?_)
        ·
          refine g_aloadN (pc' := 34) C d9_33 rfl rfl rfl ?_
          refine g_getO (pc' := 37) (j := 1) C d9_34 rfl (hw _ (List.mem_of_getElem? (i := 12) rfl)) O rfl ?_
          refine g_iloadN (pc' := 38) C d9_37 rfl rfl ?_
          refine g_iaload (pc' := 39) (i := m) C d9_38 rfl A2 gz (map_getI (by rw [tr.1]; omega)) ?_
          refine g_if (xi := (ps.getD m 0).toInt) (pc1 := 46) (pc2 := 42) C d9_39 (by decide) rfl rfl rfl (fun (c39 : 0 ≤ (ps.getD m 0).toInt) => ?_) (fun (c39 : ¬ (0 ≤ (ps.getD m 0).toInt)) => ?_)
          ·
            exfalso; omega
          ·
            refine g_iconst (pc' := 43) (z := (1 : Int32)) C d9_42 rfl rfl ?_
            refine g_goto C d9_43 (by decide) (pc' := 47) rfl ?_
            refine g_retN C (by simp) d9_47 (by decide) (by decide) ?_
            subst hQ
            exact ⟨congrArg (fun z => some (Value.int z)) (b2i_pos (by omega) : b2i ((D m0 : Int) ≤ y.toInt) = 1).symm, rfl⟩
        ·
          exfalso; omega
      ·
        refine g_iload (pc' := 7) C d9_5 rfl rfl ?_
        refine g_iloadN (pc' := 8) C d9_7 rfl rfl ?_
        refine g_icmp (xi := s.toInt) (yi := y.toInt) (pc1 := 33) (pc2 := 11) C d9_8 (by decide) rfl rfl rfl rfl (fun (c8 : y.toInt ≤ s.toInt) => ?_) (fun (c8 : ¬ (y.toInt ≤ s.toInt)) => ?_)
        ·
          refine g_aloadN (pc' := 34) C d9_33 rfl rfl rfl ?_
          refine g_getO (pc' := 37) (j := 1) C d9_34 rfl (hw _ (List.mem_of_getElem? (i := 12) rfl)) O rfl ?_
          refine g_iloadN (pc' := 38) C d9_37 rfl rfl ?_
          refine g_iaload (pc' := 39) (i := m) C d9_38 rfl A2 gz (map_getI (by rw [tr.1]; omega)) ?_
          refine g_if (xi := (ps.getD m 0).toInt) (pc1 := 46) (pc2 := 42) C d9_39 (by decide) rfl rfl rfl (fun (c39 : 0 ≤ (ps.getD m 0).toInt) => ?_) (fun (c39 : ¬ (0 ≤ (ps.getD m 0).toInt)) => ?_)
          ·
            refine g_iconst (pc' := 47) (z := (0 : Int32)) C d9_46 rfl rfl ?_
            refine g_retN C (by simp) d9_47 (by decide) (by decide) ?_
            subst hQ
            exact ⟨congrArg (fun z => some (Value.int z)) (b2i_neg (by omega) : b2i ((D m0 : Int) ≤ y.toInt) = 0).symm, rfl⟩
          ·
            exfalso; omega
        ·
          exfalso; omega
    | succ r ih =>
      intro z s m t gz gm gs gd gr
      have x3 := c_iadd s 1
      have x4 : (1 : Int32).toInt = 1 := rfl
      have x5 := rng32 (s + 1)
      have x6 := y.toInt_lt
      rw [x4] at x3
      rcases tr.2 m gm with ⟨e, d0⟩ | ⟨q, hq, e, d0⟩
      ·
        refine g_iload (pc' := 7) C d9_5 rfl rfl ?_
        refine g_iloadN (pc' := 8) C d9_7 rfl rfl ?_
        refine g_icmp (xi := s.toInt) (yi := y.toInt) (pc1 := 33) (pc2 := 11) C d9_8 (by decide) rfl rfl rfl rfl (fun (c8 : y.toInt ≤ s.toInt) => ?_) (fun (c8 : ¬ (y.toInt ≤ s.toInt)) => ?_)
        ·
          exfalso; omega
        ·
          refine g_aloadN (pc' := 12) C d9_11 rfl rfl rfl ?_
          refine g_getO (pc' := 15) (j := 1) C d9_12 rfl (hw _ (List.mem_of_getElem? (i := 12) rfl)) O rfl ?_
          refine g_iloadN (pc' := 16) C d9_15 rfl rfl ?_
          refine g_iaload (pc' := 17) (i := m) C d9_16 rfl A2 gz (map_getI (by rw [tr.1]; omega)) ?_
          refine g_if (xi := (ps.getD m 0).toInt) (pc1 := 33) (pc2 := 20) C d9_17 (by decide) rfl rfl rfl (fun (c17 : (ps.getD m 0).toInt < 0) => ?_) (fun (c17 : ¬ ((ps.getD m 0).toInt < 0)) => ?_)
          ·
            refine g_aloadN (pc' := 34) C d9_33 rfl rfl rfl ?_
            refine g_getO (pc' := 37) (j := 1) C d9_34 rfl (hw _ (List.mem_of_getElem? (i := 12) rfl)) O rfl ?_
            refine g_iloadN (pc' := 38) C d9_37 rfl rfl ?_
            refine g_iaload (pc' := 39) (i := m) C d9_38 rfl A2 gz (map_getI (by rw [tr.1]; omega)) ?_
            refine g_if (xi := (ps.getD m 0).toInt) (pc1 := 46) (pc2 := 42) C d9_39 (by decide) rfl rfl rfl (fun (c39 : 0 ≤ (ps.getD m 0).toInt) => ?_) (fun (c39 : ¬ (0 ≤ (ps.getD m 0).toInt)) => ?_)
            ·
              exfalso; omega
            ·
              refine g_iconst (pc' := 43) (z := (1 : Int32)) C d9_42 rfl rfl ?_
              refine g_goto C d9_43 (by decide) (pc' := 47) rfl ?_
              refine g_retN C (by simp) d9_47 (by decide) (by decide) ?_
              subst hQ
              exact ⟨congrArg (fun z => some (Value.int z)) (b2i_pos (by omega) : b2i ((D m0 : Int) ≤ y.toInt) = 1).symm, rfl⟩
          ·
            exfalso; omega
      ·
        refine g_iload (pc' := 7) C d9_5 rfl rfl ?_
        refine g_iloadN (pc' := 8) C d9_7 rfl rfl ?_
        refine g_icmp (xi := s.toInt) (yi := y.toInt) (pc1 := 33) (pc2 := 11) C d9_8 (by decide) rfl rfl rfl rfl (fun (c8 : y.toInt ≤ s.toInt) => ?_) (fun (c8 : ¬ (y.toInt ≤ s.toInt)) => ?_)
        ·
          exfalso; omega
        ·
          refine g_aloadN (pc' := 12) C d9_11 rfl rfl rfl ?_
          refine g_getO (pc' := 15) (j := 1) C d9_12 rfl (hw _ (List.mem_of_getElem? (i := 12) rfl)) O rfl ?_
          refine g_iloadN (pc' := 16) C d9_15 rfl rfl ?_
          refine g_iaload (pc' := 17) (i := m) C d9_16 rfl A2 gz (map_getI (by rw [tr.1]; omega)) ?_
          refine g_if (xi := (ps.getD m 0).toInt) (pc1 := 33) (pc2 := 20) C d9_17 (by decide) rfl rfl rfl (fun (c17 : (ps.getD m 0).toInt < 0) => ?_) (fun (c17 : ¬ ((ps.getD m 0).toInt < 0)) => ?_)
          ·
            exfalso; omega
          ·
            refine g_aloadN (pc' := 21) C d9_20 rfl rfl rfl ?_
            refine g_getO (pc' := 24) (j := 1) C d9_21 rfl (hw _ (List.mem_of_getElem? (i := 12) rfl)) O rfl ?_
            refine g_iloadN (pc' := 25) C d9_24 rfl rfl ?_
            refine g_iaload (pc' := 26) (i := m) C d9_25 rfl A2 gz (map_getI (by rw [tr.1]; omega)) ?_
            refine g_istoreN (pc' := 27) (L' := #[.val (.ref a), .val (.int x), .val (.int y), .val (.int (ps.getD m 0)), .val (.int s)]) C d9_26 rfl rfl ?_
            refine g_iinc (pc' := 30) (z := (s + (1 : Int32))) (L' := #[.val (.ref a), .val (.int x), .val (.int y), .val (.int (ps.getD m 0)), .val (.int (s + (1 : Int32)))]) C d9_27 rfl rfl rfl rfl ?_
            refine g_goto C d9_30 (by decide) (pc' := 5) rfl ?_
            exact ih _ _ q (t + 1) e hq (by omega) (by omega) (by omega)
  refine g_iloadN (pc' := 1) C d9_0 rfl rfl ?_
  refine g_istoreN (pc' := 2) (L' := #[.val (.ref a), .val (.int x), .val (.int y), .val (.int x), .unset]) C d9_1 rfl rfl ?_
  refine g_iconst (pc' := 3) (z := (0 : Int32)) C d9_2 rfl rfl ?_
  refine g_istore (pc' := 5) (L' := #[.val (.ref a), .val (.int x), .val (.int y), .val (.int x), .val (.int (0 : Int32))]) C d9_3 rfl rfl ?_
  exact loop y.toInt.toNat x 0 m0 0 hx hm0 rfl (by omega) (by omega)
set_option maxRecDepth 65536 in
set_option maxHeartbeats 2000000 in
theorem con_0 (l : Launch) (Z : State) (a0 : Array Value) (hw : ∀ d ∈ tables_1, d.before a0 Z = true) (p0 p1 p2 : Int32) (st ee : Addr) (h : Heap) (F : StA Z h st "java/util/ArrayList" "DEFAULTCAPACITY_EMPTY_ELEMENTDATA" "[Ljava/lang/Object;" (.ref ee)) :
    Con l Z tables_1 x code maxLocals ret room_1 #[(.int p0), (.int p1), (.int p2)] h [] (fun v _ => v = some (.int 1)) := by
  refine Con.of_go (L0 := #[.val (.int p0), .val (.int p1), .val (.int p2), .unset, .unset, .unset, .unset, .unset, .unset, .unset, .unset]) (plainFor_of_name (by first | (simp [plainName, overriddenIn]; done) | decide +kernel)) (locals_of rfl) fun W Q hQ hl C => ?_
  subst hl
  refine g_iloadN (pc' := 1) C at_0 rfl rfl ?_
  refine g_iconst (pc' := 2) (z := (1 : Int32)) C at_1 rfl rfl ?_
  refine g_iand (pc' := 3) C at_2 rfl ?_
  refine g_nameI fun i1 e_i1 => ?_
  refine g_istoreN (pc' := 4) (L' := #[.val (.int p0), .val (.int p1), .val (.int p2), .val (.int i1), .unset, .unset, .unset, .unset, .unset, .unset, .unset]) C at_3 rfl rfl ?_
  refine g_iloadN (pc' := 5) C at_4 rfl rfl ?_
  refine g_iconst (pc' := 6) (z := (1 : Int32)) C at_5 rfl rfl ?_
  refine g_iushr (pc' := 7) C at_6 rfl ?_
  refine g_iconst (pc' := 8) (z := (3 : Int32)) C at_7 rfl rfl ?_
  refine g_iand (pc' := 9) C at_8 rfl ?_
  refine g_iconst (pc' := 10) (z := (3 : Int32)) C at_9 rfl rfl ?_
  refine g_irem (pc' := 11) C at_10 rfl (by decide) ?_
  refine g_nameI fun i2 e_i2 => ?_
  refine g_istore (pc' := 13) (L' := #[.val (.int p0), .val (.int p1), .val (.int p2), .val (.int i1), .val (.int i2), .unset, .unset, .unset, .unset, .unset, .unset]) C at_11 rfl rfl ?_
  refine g_iloadN (pc' := 14) C at_13 rfl rfl ?_
  refine g_iconst (pc' := 15) (z := (3 : Int32)) C at_14 rfl rfl ?_
  refine g_iushr (pc' := 16) C at_15 rfl ?_
  refine g_iconst (pc' := 17) (z := (3 : Int32)) C at_16 rfl rfl ?_
  refine g_iand (pc' := 18) C at_17 rfl ?_
  refine g_nameI fun i3 e_i3 => ?_
  refine g_istore (pc' := 20) (L' := #[.val (.int p0), .val (.int p1), .val (.int p2), .val (.int i1), .val (.int i2), .val (.int i3), .unset, .unset, .unset, .unset, .unset]) C at_18 rfl rfl ?_
  refine g_iloadN (pc' := 21) C at_20 rfl rfl ?_
  refine g_iconst (pc' := 22) (z := (5 : Int32)) C at_21 rfl rfl ?_
  refine g_iushr (pc' := 23) C at_22 rfl ?_
  refine g_bipush (pc' := 25) (z := (7 : Int32)) C at_23 rfl rfl ?_
  refine g_iand (pc' := 26) C at_25 rfl ?_
  refine g_iconst (pc' := 27) (z := (5 : Int32)) C at_26 rfl rfl ?_
  refine g_irem (pc' := 28) C at_27 rfl (by decide) ?_
  refine g_nameI fun i4 e_i4 => ?_
  refine g_istore (pc' := 30) (L' := #[.val (.int p0), .val (.int p1), .val (.int p2), .val (.int i1), .val (.int i2), .val (.int i3), .val (.int i4), .unset, .unset, .unset, .unset]) C at_28 rfl rfl ?_
  have m2 := c_mask p0 1 1 (by decide) (by decide)
  rw [← e_i1] at m2
  have n3 := c_mask ((p0.toUInt32 >>> ((1 : Int32) &&& 31).toUInt32).toInt32) 3 2 (by decide) (by decide)
  have m3 := (c_irem (((p0.toUInt32 >>> ((1 : Int32) &&& 31).toUInt32).toInt32) &&& 3) 3 3 rfl).1 (by omega)
  rw [← e_i2] at m3
  have m4 := c_mask ((p0.toUInt32 >>> ((3 : Int32) &&& 31).toUInt32).toInt32) 3 2 (by decide) (by decide)
  rw [← e_i3] at m4
  have n5 := c_mask ((p0.toUInt32 >>> ((5 : Int32) &&& 31).toUInt32).toInt32) 7 3 (by decide) (by decide)
  have m5 := (c_irem (((p0.toUInt32 >>> ((5 : Int32) &&& 31).toUInt32).toInt32) &&& 7) 5 5 rfl).1 (by omega)
  rw [← e_i4] at m5
  obtain ⟨kn2, hh2, b2'⟩ : ∃ m : Nat, i1.toInt = m ∧ m < 2 := ⟨i1.toInt.toNat, by omega, by omega⟩
  obtain ⟨kn3, hh3, b3'⟩ : ∃ m : Nat, i2.toInt = m ∧ m < 3 := ⟨i2.toInt.toNat, by omega, by omega⟩
  obtain ⟨kn4, hh4, b4'⟩ : ∃ m : Nat, i3.toInt = m ∧ m < 4 := ⟨i3.toInt.toNat, by omega, by omega⟩
  obtain ⟨kn5, hh5, b5'⟩ : ∃ m : Nat, i4.toInt = m ∧ m < 5 := ⟨i4.toInt.toNat, by omega, by omega⟩
  refine g_bipush (pc' := 32) (z := (6 : Int32)) C at_30 rfl rfl ?_
  refine g_newarray (pc' := 34) (ty := .int) (len := 6) (cap := 6) (k' := 1) (n' := 6) C at_32 rfl rfl (hw _ (List.mem_of_getElem? (i := 0) rfl)) rfl (by decide) (by decide) rfl rfl (by decide) (by decide) fun h1 a5 e_a5 Eh1 Aa5 w_a5 => ?_
  have n_st_a5 : st ≠ a5 := by rw [e_a5]; exact Nat.ne_of_lt F.lt
  replace F := F.ext Eh1
  replace Aa5 : Ar Z h1 a5 .int [(.int (0 : Int32)), (.int (0 : Int32)), (.int (0 : Int32)), (.int (0 : Int32)), (.int (0 : Int32)), (.int (0 : Int32))] := Aa5
  refine g_astore (pc' := 36) (L' := #[.val (.int p0), .val (.int p1), .val (.int p2), .val (.int i1), .val (.int i2), .val (.int i3), .val (.int i4), .val (.ref a5), .unset, .unset, .unset]) C at_34 rfl rfl rfl ?_
  refine g_aload (pc' := 38) C at_36 rfl rfl rfl ?_
  refine g_iconst (pc' := 39) (z := (0 : Int32)) C at_38 rfl rfl ?_
  refine g_iconst (pc' := 40) (z := (0 : Int32)) C at_39 rfl rfl ?_
  refine g_iastore (pc' := 41) (i := 0) (vs' := [(.int (0 : Int32)), (.int (0 : Int32)), (.int (0 : Int32)), (.int (0 : Int32)), (.int (0 : Int32)), (.int (0 : Int32))]) C at_40 rfl Aa5 rfl (Nat.le_of_ble_eq_true rfl) rfl w_a5 fun h2 Aa5 Kh2 => ?_
  replace F := F.keep Kh2 (ninS n_st_a5 nin0)
  refine g_aload (pc' := 43) C at_41 rfl rfl rfl ?_
  refine g_iconst (pc' := 44) (z := (1 : Int32)) C at_43 rfl rfl ?_
  refine g_iconst (pc' := 45) (z := (1 : Int32)) C at_44 rfl rfl ?_
  refine g_iastore (pc' := 46) (i := 1) (vs' := [(.int (0 : Int32)), (.int (1 : Int32)), (.int (0 : Int32)), (.int (0 : Int32)), (.int (0 : Int32)), (.int (0 : Int32))]) C at_45 rfl Aa5 rfl (Nat.le_of_ble_eq_true rfl) rfl w_a5 fun h3 Aa5 Kh3 => ?_
  replace F := F.keep Kh3 (ninS n_st_a5 nin0)
  refine g_aload (pc' := 48) C at_46 rfl rfl rfl ?_
  refine g_iconst (pc' := 49) (z := (2 : Int32)) C at_48 rfl rfl ?_
  refine g_aload (pc' := 51) C at_49 rfl rfl rfl ?_
  refine g_iloadN (pc' := 52) C at_51 rfl rfl ?_
  refine g_iaload (pc' := 53) (i := kn2) C at_52 rfl (show Ar Z h3 a5 .int (([(0 : Int32), (1 : Int32), (0 : Int32), (0 : Int32), (0 : Int32), (0 : Int32)] : List Int32).map Value.int) from Aa5) hh2 (map_getI (by have := b2'; show _ < 6; omega)) ?_
  refine g_iconst (pc' := 54) (z := (1 : Int32)) C at_53 rfl rfl ?_
  refine g_iadd (pc' := 55) C at_54 rfl ?_
  refine g_nameI fun i6 e_i6 => ?_
  refine g_iastore (pc' := 56) (i := 2) (vs' := [(.int (0 : Int32)), (.int (1 : Int32)), (.int i6), (.int (0 : Int32)), (.int (0 : Int32)), (.int (0 : Int32))]) C at_55 rfl Aa5 rfl (Nat.le_of_ble_eq_true rfl) rfl w_a5 fun h4 Aa5 Kh4 => ?_
  replace F := F.keep Kh4 (ninS n_st_a5 nin0)
  refine g_aload (pc' := 58) C at_56 rfl rfl rfl ?_
  refine g_iconst (pc' := 59) (z := (3 : Int32)) C at_58 rfl rfl ?_
  refine g_aload (pc' := 61) C at_59 rfl rfl rfl ?_
  refine g_iload (pc' := 63) C at_61 rfl rfl ?_
  refine g_iaload (pc' := 64) (i := kn3) C at_63 rfl (show Ar Z h4 a5 .int (([(0 : Int32), (1 : Int32), i6, (0 : Int32), (0 : Int32), (0 : Int32)] : List Int32).map Value.int) from Aa5) hh3 (map_getI (by have := b3'; show _ < 6; omega)) ?_
  refine g_iconst (pc' := 65) (z := (1 : Int32)) C at_64 rfl rfl ?_
  refine g_iadd (pc' := 66) C at_65 rfl ?_
  refine g_nameI fun i7 e_i7 => ?_
  refine g_iastore (pc' := 67) (i := 3) (vs' := [(.int (0 : Int32)), (.int (1 : Int32)), (.int i6), (.int i7), (.int (0 : Int32)), (.int (0 : Int32))]) C at_66 rfl Aa5 rfl (Nat.le_of_ble_eq_true rfl) rfl w_a5 fun h5 Aa5 Kh5 => ?_
  replace F := F.keep Kh5 (ninS n_st_a5 nin0)
  refine g_aload (pc' := 69) C at_67 rfl rfl rfl ?_
  refine g_iconst (pc' := 70) (z := (4 : Int32)) C at_69 rfl rfl ?_
  refine g_aload (pc' := 72) C at_70 rfl rfl rfl ?_
  refine g_iload (pc' := 74) C at_72 rfl rfl ?_
  refine g_iaload (pc' := 75) (i := kn4) C at_74 rfl (show Ar Z h5 a5 .int (([(0 : Int32), (1 : Int32), i6, i7, (0 : Int32), (0 : Int32)] : List Int32).map Value.int) from Aa5) hh4 (map_getI (by have := b4'; show _ < 6; omega)) ?_
  refine g_iconst (pc' := 76) (z := (1 : Int32)) C at_75 rfl rfl ?_
  refine g_iadd (pc' := 77) C at_76 rfl ?_
  refine g_nameI fun i8 e_i8 => ?_
  refine g_iastore (pc' := 78) (i := 4) (vs' := [(.int (0 : Int32)), (.int (1 : Int32)), (.int i6), (.int i7), (.int i8), (.int (0 : Int32))]) C at_77 rfl Aa5 rfl (Nat.le_of_ble_eq_true rfl) rfl w_a5 fun h6 Aa5 Kh6 => ?_
  replace F := F.keep Kh6 (ninS n_st_a5 nin0)
  refine g_aload (pc' := 80) C at_78 rfl rfl rfl ?_
  refine g_iconst (pc' := 81) (z := (5 : Int32)) C at_80 rfl rfl ?_
  refine g_aload (pc' := 83) C at_81 rfl rfl rfl ?_
  refine g_iload (pc' := 85) C at_83 rfl rfl ?_
  refine g_iaload (pc' := 86) (i := kn5) C at_85 rfl (show Ar Z h6 a5 .int (([(0 : Int32), (1 : Int32), i6, i7, i8, (0 : Int32)] : List Int32).map Value.int) from Aa5) hh5 (map_getI (by have := b5'; show _ < 6; omega)) ?_
  refine g_iconst (pc' := 87) (z := (1 : Int32)) C at_86 rfl rfl ?_
  refine g_iadd (pc' := 88) C at_87 rfl ?_
  refine g_nameI fun i9 e_i9 => ?_
  refine g_iastore (pc' := 89) (i := 5) (vs' := [(.int (0 : Int32)), (.int (1 : Int32)), (.int i6), (.int i7), (.int i8), (.int i9)]) C at_88 rfl Aa5 rfl (Nat.le_of_ble_eq_true rfl) rfl w_a5 fun h7 Aa5 Kh7 => ?_
  replace F := F.keep Kh7 (ninS n_st_a5 nin0)
  refine g_new (pc' := 92) (k' := 2) (n' := 22) C at_89 rfl (hw _ (List.mem_of_getElem? (i := 1) rfl)) (hw _ (List.mem_of_getElem? (i := 2) rfl)) (hw _ (List.mem_of_getElem? (i := 3) rfl)) rfl rfl (by decide) (by decide) fun h8 a10 e_a10 Eh8 Xa10 Da10 w_a10 => ?_
  have n_st_a10 : st ≠ a10 := by rw [e_a10]; exact Nat.ne_of_lt F.lt
  have n_a5_a10 : a5 ≠ a10 := by rw [e_a10]; exact Nat.ne_of_lt Aa5.lt
  replace F := F.ext Eh8
  replace Aa5 := Aa5.ext Eh8
  have Oa10 : Ob Z h8 a10 "com/example/infinite_marking/infinitemarking/analysis/Region" [("com/example/infinite_marking/infinitemarking/analysis/Region", "nodes", "[I", .null), ("com/example/infinite_marking/infinitemarking/analysis/Region", "parents", "[I", .null), ("com/example/infinite_marking/infinitemarking/analysis/Region", "vias", "[Lcom/example/infinite_marking/infinitemarking/model/Transition;", .null), ("com/example/infinite_marking/infinitemarking/analysis/Region", "sources", "[I", .null), ("com/example/infinite_marking/infinitemarking/analysis/Region", "steps", "[Lcom/example/infinite_marking/infinitemarking/model/Transition;", .null), ("com/example/infinite_marking/infinitemarking/analysis/Region", "targets", "[I", .null), ("com/example/infinite_marking/infinitemarking/analysis/Region", "exits", "Ljava/util/List;", .null), ("com/example/infinite_marking/infinitemarking/analysis/Region", "byCount", "Ljava/util/Map;", .null), ("com/example/infinite_marking/infinitemarking/analysis/Region", "leading", "Ljava/util/Map;", .null), ("com/example/infinite_marking/infinitemarking/analysis/Region", "quotient", "Lcom/example/infinite_marking/infinitemarking/analysis/TreeQuotient;", .null), ("com/example/infinite_marking/infinitemarking/analysis/Region", "size", "I", (.int (0 : Int32)))] := ⟨Xa10, by
    simp only [List.forall_mem_cons, List.not_mem_nil, false_implies, implies_true, and_true]
    exact ⟨Da10 (Or.inl (hw _ (List.mem_of_getElem? (i := 11) rfl))) (ty := (.array .int)) (by decide), Da10 (Or.inl (hw _ (List.mem_of_getElem? (i := 13) rfl))) (ty := (.array .int)) (by decide), Da10 (Or.inl (hw _ (List.mem_of_getElem? (i := 17) rfl))) (ty := (.array (.object "com/example/infinite_marking/infinitemarking/model/Transition"))) (by decide), Da10 (Or.inl (hw _ (List.mem_of_getElem? (i := 19) rfl))) (ty := (.array .int)) (by decide), Da10 (Or.inl (hw _ (List.mem_of_getElem? (i := 21) rfl))) (ty := (.array (.object "com/example/infinite_marking/infinitemarking/model/Transition"))) (by decide), Da10 (Or.inl (hw _ (List.mem_of_getElem? (i := 23) rfl))) (ty := (.array .int)) (by decide), Da10 (Or.inr (hw _ (List.mem_of_getElem? (i := 49) rfl))) (ty := (.object "java/util/List")) (by decide), Da10 (Or.inr (hw _ (List.mem_of_getElem? (i := 67) rfl))) (ty := (.object "java/util/Map")) (by decide), Da10 (Or.inr (hw _ (List.mem_of_getElem? (i := 69) rfl))) (ty := (.object "java/util/Map")) (by decide), Da10 (Or.inr (hw _ (List.mem_of_getElem? (i := 71) rfl))) (ty := (.object "com/example/infinite_marking/infinitemarking/analysis/TreeQuotient")) (by decide), Da10 (Or.inl (hw _ (List.mem_of_getElem? (i := 78) rfl))) (ty := .int) (by decide)⟩, dis_2 Z a0 hw⟩
  have ltd : a5 < h8.size := Aa5.lt
  have lts : st < h8.size := F.lt
  have SZ : h.size ≤ h8.size := Nat.le_trans Eh1.1 (Nat.le_trans Kh2.1 (Nat.le_trans Kh3.1 (Nat.le_trans Kh4.1 (Nat.le_trans Kh5.1 (Nat.le_trans Kh6.1 (Nat.le_trans Kh7.1 Eh8.1))))))
  refine g_dup (pc' := 93) C at_92 rfl rfl ?_
  refine g_aconst_null (pc' := 94) C at_93 rfl ?_
  refine g_special (y := (⟨"com/example/infinite_marking/infinitemarking/analysis/Region", "<init>", "(Lcom/example/infinite_marking/infinitemarking/analysis/TreeQuotient;)V"⟩ : MethodName)) (a := a10) (pc' := 97) (k' := 11) (n' := 137) (S := [(.ref a10)]) (as := [.null]) C at_94 rfl rfl (hw _ (List.mem_of_getElem? (i := 4) rfl)) (hw _ (List.mem_of_getElem? (i := 5) rfl)) (hw _ (List.mem_of_getElem? (i := 3) rfl)) (hw _ (List.mem_of_getElem? (i := 6) rfl)) (by decide) (lenOf pd_1 rfl) (con_init W.l Z a0 hw a10 st ee n_st_a10 h8 Oa10 F) rfl rfl (Nat.le_of_ble_eq_true rfl) (Nat.le_of_ble_eq_true rfl) rfl rfl (Nat.le_of_ble_eq_true rfl) (Nat.le_of_ble_eq_true rfl) (allS w_a10 all0) fun vh9 h9 qh9 Kh9 => ?_
  obtain ⟨rfl, b1, b2, b3, b4, b5, b6, e1, e2, e3, g1, g2, g3, q01, q02, q03, q12, q13, q23, Oa10, A1, A2, A3⟩ := qh9
  replace F := F.keep Kh9 (ninS n_st_a10 nin0)
  replace Aa5 := Aa5.keep Kh9 (ninS n_a5_a10 nin0)
  show Go W Q h9 11 137 97 #[.val (.int p0), .val (.int p1), .val (.int p2), .val (.int i1), .val (.int i2), .val (.int i3), .val (.int i4), .val (.ref a5), .unset, .unset, .unset] [(.ref a10)]
  have w_b1 : Pw W b1 := C.new (Nat.le_trans SZ g1)
  have n_d_b1 : a5 ≠ b1 := Nat.ne_of_lt (Nat.lt_of_lt_of_le (ltd : a5 < _) g1)
  have w_b2 : Pw W b2 := C.new (Nat.le_trans SZ g2)
  have n_d_b2 : a5 ≠ b2 := Nat.ne_of_lt (Nat.lt_of_lt_of_le (ltd : a5 < _) g2)
  have w_b3 : Pw W b3 := C.new (Nat.le_trans SZ g3)
  have n_d_b3 : a5 ≠ b3 := Nat.ne_of_lt (Nat.lt_of_lt_of_le (ltd : a5 < _) g3)
  have n_s_b1 : st ≠ b1 := Nat.ne_of_lt (Nat.lt_of_lt_of_le lts g1)
  have n_s_b2 : st ≠ b2 := Nat.ne_of_lt (Nat.lt_of_lt_of_le lts g2)
  have n_s_b3 : st ≠ b3 := Nat.ne_of_lt (Nat.lt_of_lt_of_le lts g3)
  refine g_astore (pc' := 99) (L' := #[.val (.int p0), .val (.int p1), .val (.int p2), .val (.int i1), .val (.int i2), .val (.int i3), .val (.int i4), .val (.ref a5), .val (.ref a10), .unset, .unset]) C at_97 rfl rfl rfl ?_
  refine g_aload (pc' := 101) C at_99 rfl rfl rfl ?_
  refine g_iconst (pc' := 102) (z := (0 : Int32)) C at_101 rfl rfl ?_
  refine g_iconst (pc' := 103) (z := (-1 : Int32)) C at_102 rfl rfl ?_
  refine g_aconst_null (pc' := 104) C at_103 rfl ?_
  refine g_virtual (y := (⟨"com/example/infinite_marking/infinitemarking/analysis/Region", "add", "(IILcom/example/infinite_marking/infinitemarking/model/Transition;)V"⟩ : MethodName)) (a := a10) (pc' := 107) (k' := 11) (n' := 137) (S := []) (as := [(.int (0 : Int32)), (.int (-1 : Int32)), .null]) C at_104 rfl (hw _ (List.mem_of_getElem? (i := 72) rfl)) (hw _ (List.mem_of_getElem? (i := 74) rfl)) (hw _ (List.mem_of_getElem? (i := 3) rfl)) (hw _ (List.mem_of_getElem? (i := 76) rfl)) (hw _ (List.mem_of_getElem? (i := 73) rfl)) (hw _ (List.mem_of_getElem? (i := 75) rfl)) (by decide) Oa10.1 (lenOf pd_2 rfl) (con_add W.l Z a0 hw a10 b1 b2 b3 b4 b5 b6 e1 e2 e3 (0 : Int32) (0 : Int32) (-1 : Int32) 0 _ _ _ rfl (Nat.le_of_ble_eq_true rfl) rfl rfl rfl q01 q02 q03 q12 q13 q23 h9 Oa10 A1 A2 A3) rfl rfl (Nat.le_of_ble_eq_true rfl) (Nat.le_of_ble_eq_true rfl) rfl rfl (Nat.le_of_ble_eq_true rfl) (Nat.le_of_ble_eq_true rfl) (allS w_a10 (allS w_b1 (allS w_b2 (allS w_b3 all0)))) fun vh10 h10 qh10 Kh10 => ?_
  obtain ⟨rfl, Oa10, A1, A2, A3⟩ := qh10
  replace F := F.keep Kh10 (ninS n_st_a10 (ninS n_s_b1 (ninS n_s_b2 (ninS n_s_b3 nin0))))
  replace Aa5 := Aa5.keep Kh10 (ninS n_a5_a10 (ninS n_d_b1 (ninS n_d_b2 (ninS n_d_b3 nin0))))
  replace Oa10 : Ob Z h10 a10 "com/example/infinite_marking/infinitemarking/analysis/Region" [("com/example/infinite_marking/infinitemarking/analysis/Region", "nodes", "[I", (.ref b1)), ("com/example/infinite_marking/infinitemarking/analysis/Region", "parents", "[I", (.ref b2)), ("com/example/infinite_marking/infinitemarking/analysis/Region", "vias", "[Lcom/example/infinite_marking/infinitemarking/model/Transition;", (.ref b3)), ("com/example/infinite_marking/infinitemarking/analysis/Region", "sources", "[I", (.ref b4)), ("com/example/infinite_marking/infinitemarking/analysis/Region", "steps", "[Lcom/example/infinite_marking/infinitemarking/model/Transition;", (.ref b5)), ("com/example/infinite_marking/infinitemarking/analysis/Region", "targets", "[I", (.ref b6)), ("com/example/infinite_marking/infinitemarking/analysis/Region", "exits", "Ljava/util/List;", (.ref e1)), ("com/example/infinite_marking/infinitemarking/analysis/Region", "byCount", "Ljava/util/Map;", (.ref e2)), ("com/example/infinite_marking/infinitemarking/analysis/Region", "leading", "Ljava/util/Map;", (.ref e3)), ("com/example/infinite_marking/infinitemarking/analysis/Region", "quotient", "Lcom/example/infinite_marking/infinitemarking/analysis/TreeQuotient;", .null), ("com/example/infinite_marking/infinitemarking/analysis/Region", "size", "I", (.int (1 : Int32)))] := Oa10
  replace A1 : Ar Z h10 b1 .int [(.int (0 : Int32)), (.int (0 : Int32)), (.int (0 : Int32)), (.int (0 : Int32)), (.int (0 : Int32)), (.int (0 : Int32)), (.int (0 : Int32)), (.int (0 : Int32)), (.int (0 : Int32)), (.int (0 : Int32)), (.int (0 : Int32)), (.int (0 : Int32)), (.int (0 : Int32)), (.int (0 : Int32)), (.int (0 : Int32)), (.int (0 : Int32))] := A1
  replace A2 : Ar Z h10 b2 .int [(.int (-1 : Int32)), (.int (0 : Int32)), (.int (0 : Int32)), (.int (0 : Int32)), (.int (0 : Int32)), (.int (0 : Int32)), (.int (0 : Int32)), (.int (0 : Int32)), (.int (0 : Int32)), (.int (0 : Int32)), (.int (0 : Int32)), (.int (0 : Int32)), (.int (0 : Int32)), (.int (0 : Int32)), (.int (0 : Int32)), (.int (0 : Int32))] := A2
  replace A3 : ArR Z h10 b3 "com/example/infinite_marking/infinitemarking/model/Transition" [.null, .null, .null, .null, .null, .null, .null, .null, .null, .null, .null, .null, .null, .null, .null, .null] := A3
  show Go W Q h10 11 137 107 #[.val (.int p0), .val (.int p1), .val (.int p2), .val (.int i1), .val (.int i2), .val (.int i3), .val (.int i4), .val (.ref a5), .val (.ref a10), .unset, .unset] []
  refine g_aload (pc' := 109) C at_107 rfl rfl rfl ?_
  refine g_iconst (pc' := 110) (z := (1 : Int32)) C at_109 rfl rfl ?_
  refine g_iconst (pc' := 111) (z := (0 : Int32)) C at_110 rfl rfl ?_
  refine g_aconst_null (pc' := 112) C at_111 rfl ?_
  refine g_virtual (y := (⟨"com/example/infinite_marking/infinitemarking/analysis/Region", "add", "(IILcom/example/infinite_marking/infinitemarking/model/Transition;)V"⟩ : MethodName)) (a := a10) (pc' := 115) (k' := 11) (n' := 137) (S := []) (as := [(.int (1 : Int32)), (.int (0 : Int32)), .null]) C at_112 rfl (hw _ (List.mem_of_getElem? (i := 72) rfl)) (hw _ (List.mem_of_getElem? (i := 74) rfl)) (hw _ (List.mem_of_getElem? (i := 3) rfl)) (hw _ (List.mem_of_getElem? (i := 76) rfl)) (hw _ (List.mem_of_getElem? (i := 73) rfl)) (hw _ (List.mem_of_getElem? (i := 75) rfl)) (by decide) Oa10.1 (lenOf pd_2 rfl) (con_add W.l Z a0 hw a10 b1 b2 b3 b4 b5 b6 e1 e2 e3 (1 : Int32) (1 : Int32) (0 : Int32) 1 _ _ _ rfl (Nat.le_of_ble_eq_true rfl) rfl rfl rfl q01 q02 q03 q12 q13 q23 h10 Oa10 A1 A2 A3) rfl rfl (Nat.le_of_ble_eq_true rfl) (Nat.le_of_ble_eq_true rfl) rfl rfl (Nat.le_of_ble_eq_true rfl) (Nat.le_of_ble_eq_true rfl) (allS w_a10 (allS w_b1 (allS w_b2 (allS w_b3 all0)))) fun vh11 h11 qh11 Kh11 => ?_
  obtain ⟨rfl, Oa10, A1, A2, A3⟩ := qh11
  replace F := F.keep Kh11 (ninS n_st_a10 (ninS n_s_b1 (ninS n_s_b2 (ninS n_s_b3 nin0))))
  replace Aa5 := Aa5.keep Kh11 (ninS n_a5_a10 (ninS n_d_b1 (ninS n_d_b2 (ninS n_d_b3 nin0))))
  replace Oa10 : Ob Z h11 a10 "com/example/infinite_marking/infinitemarking/analysis/Region" [("com/example/infinite_marking/infinitemarking/analysis/Region", "nodes", "[I", (.ref b1)), ("com/example/infinite_marking/infinitemarking/analysis/Region", "parents", "[I", (.ref b2)), ("com/example/infinite_marking/infinitemarking/analysis/Region", "vias", "[Lcom/example/infinite_marking/infinitemarking/model/Transition;", (.ref b3)), ("com/example/infinite_marking/infinitemarking/analysis/Region", "sources", "[I", (.ref b4)), ("com/example/infinite_marking/infinitemarking/analysis/Region", "steps", "[Lcom/example/infinite_marking/infinitemarking/model/Transition;", (.ref b5)), ("com/example/infinite_marking/infinitemarking/analysis/Region", "targets", "[I", (.ref b6)), ("com/example/infinite_marking/infinitemarking/analysis/Region", "exits", "Ljava/util/List;", (.ref e1)), ("com/example/infinite_marking/infinitemarking/analysis/Region", "byCount", "Ljava/util/Map;", (.ref e2)), ("com/example/infinite_marking/infinitemarking/analysis/Region", "leading", "Ljava/util/Map;", (.ref e3)), ("com/example/infinite_marking/infinitemarking/analysis/Region", "quotient", "Lcom/example/infinite_marking/infinitemarking/analysis/TreeQuotient;", .null), ("com/example/infinite_marking/infinitemarking/analysis/Region", "size", "I", (.int (2 : Int32)))] := Oa10
  replace A1 : Ar Z h11 b1 .int [(.int (0 : Int32)), (.int (1 : Int32)), (.int (0 : Int32)), (.int (0 : Int32)), (.int (0 : Int32)), (.int (0 : Int32)), (.int (0 : Int32)), (.int (0 : Int32)), (.int (0 : Int32)), (.int (0 : Int32)), (.int (0 : Int32)), (.int (0 : Int32)), (.int (0 : Int32)), (.int (0 : Int32)), (.int (0 : Int32)), (.int (0 : Int32))] := A1
  replace A2 : Ar Z h11 b2 .int [(.int (-1 : Int32)), (.int (0 : Int32)), (.int (0 : Int32)), (.int (0 : Int32)), (.int (0 : Int32)), (.int (0 : Int32)), (.int (0 : Int32)), (.int (0 : Int32)), (.int (0 : Int32)), (.int (0 : Int32)), (.int (0 : Int32)), (.int (0 : Int32)), (.int (0 : Int32)), (.int (0 : Int32)), (.int (0 : Int32)), (.int (0 : Int32))] := A2
  replace A3 : ArR Z h11 b3 "com/example/infinite_marking/infinitemarking/model/Transition" [.null, .null, .null, .null, .null, .null, .null, .null, .null, .null, .null, .null, .null, .null, .null, .null] := A3
  show Go W Q h11 11 137 115 #[.val (.int p0), .val (.int p1), .val (.int p2), .val (.int i1), .val (.int i2), .val (.int i3), .val (.int i4), .val (.ref a5), .val (.ref a10), .unset, .unset] []
  refine g_aload (pc' := 117) C at_115 rfl rfl rfl ?_
  refine g_iconst (pc' := 118) (z := (2 : Int32)) C at_117 rfl rfl ?_
  refine g_iloadN (pc' := 119) C at_118 rfl rfl ?_
  refine g_aconst_null (pc' := 120) C at_119 rfl ?_
  refine g_virtual (y := (⟨"com/example/infinite_marking/infinitemarking/analysis/Region", "add", "(IILcom/example/infinite_marking/infinitemarking/model/Transition;)V"⟩ : MethodName)) (a := a10) (pc' := 123) (k' := 11) (n' := 137) (S := []) (as := [(.int (2 : Int32)), (.int i1), .null]) C at_120 rfl (hw _ (List.mem_of_getElem? (i := 72) rfl)) (hw _ (List.mem_of_getElem? (i := 74) rfl)) (hw _ (List.mem_of_getElem? (i := 3) rfl)) (hw _ (List.mem_of_getElem? (i := 76) rfl)) (hw _ (List.mem_of_getElem? (i := 73) rfl)) (hw _ (List.mem_of_getElem? (i := 75) rfl)) (by decide) Oa10.1 (lenOf pd_2 rfl) (con_add W.l Z a0 hw a10 b1 b2 b3 b4 b5 b6 e1 e2 e3 (2 : Int32) (2 : Int32) i1 2 _ _ _ rfl (Nat.le_of_ble_eq_true rfl) rfl rfl rfl q01 q02 q03 q12 q13 q23 h11 Oa10 A1 A2 A3) rfl rfl (Nat.le_of_ble_eq_true rfl) (Nat.le_of_ble_eq_true rfl) rfl rfl (Nat.le_of_ble_eq_true rfl) (Nat.le_of_ble_eq_true rfl) (allS w_a10 (allS w_b1 (allS w_b2 (allS w_b3 all0)))) fun vh12 h12 qh12 Kh12 => ?_
  obtain ⟨rfl, Oa10, A1, A2, A3⟩ := qh12
  replace F := F.keep Kh12 (ninS n_st_a10 (ninS n_s_b1 (ninS n_s_b2 (ninS n_s_b3 nin0))))
  replace Aa5 := Aa5.keep Kh12 (ninS n_a5_a10 (ninS n_d_b1 (ninS n_d_b2 (ninS n_d_b3 nin0))))
  replace Oa10 : Ob Z h12 a10 "com/example/infinite_marking/infinitemarking/analysis/Region" [("com/example/infinite_marking/infinitemarking/analysis/Region", "nodes", "[I", (.ref b1)), ("com/example/infinite_marking/infinitemarking/analysis/Region", "parents", "[I", (.ref b2)), ("com/example/infinite_marking/infinitemarking/analysis/Region", "vias", "[Lcom/example/infinite_marking/infinitemarking/model/Transition;", (.ref b3)), ("com/example/infinite_marking/infinitemarking/analysis/Region", "sources", "[I", (.ref b4)), ("com/example/infinite_marking/infinitemarking/analysis/Region", "steps", "[Lcom/example/infinite_marking/infinitemarking/model/Transition;", (.ref b5)), ("com/example/infinite_marking/infinitemarking/analysis/Region", "targets", "[I", (.ref b6)), ("com/example/infinite_marking/infinitemarking/analysis/Region", "exits", "Ljava/util/List;", (.ref e1)), ("com/example/infinite_marking/infinitemarking/analysis/Region", "byCount", "Ljava/util/Map;", (.ref e2)), ("com/example/infinite_marking/infinitemarking/analysis/Region", "leading", "Ljava/util/Map;", (.ref e3)), ("com/example/infinite_marking/infinitemarking/analysis/Region", "quotient", "Lcom/example/infinite_marking/infinitemarking/analysis/TreeQuotient;", .null), ("com/example/infinite_marking/infinitemarking/analysis/Region", "size", "I", (.int (3 : Int32)))] := Oa10
  replace A1 : Ar Z h12 b1 .int [(.int (0 : Int32)), (.int (1 : Int32)), (.int (2 : Int32)), (.int (0 : Int32)), (.int (0 : Int32)), (.int (0 : Int32)), (.int (0 : Int32)), (.int (0 : Int32)), (.int (0 : Int32)), (.int (0 : Int32)), (.int (0 : Int32)), (.int (0 : Int32)), (.int (0 : Int32)), (.int (0 : Int32)), (.int (0 : Int32)), (.int (0 : Int32))] := A1
  replace A2 : Ar Z h12 b2 .int [(.int (-1 : Int32)), (.int (0 : Int32)), (.int i1), (.int (0 : Int32)), (.int (0 : Int32)), (.int (0 : Int32)), (.int (0 : Int32)), (.int (0 : Int32)), (.int (0 : Int32)), (.int (0 : Int32)), (.int (0 : Int32)), (.int (0 : Int32)), (.int (0 : Int32)), (.int (0 : Int32)), (.int (0 : Int32)), (.int (0 : Int32))] := A2
  replace A3 : ArR Z h12 b3 "com/example/infinite_marking/infinitemarking/model/Transition" [.null, .null, .null, .null, .null, .null, .null, .null, .null, .null, .null, .null, .null, .null, .null, .null] := A3
  show Go W Q h12 11 137 123 #[.val (.int p0), .val (.int p1), .val (.int p2), .val (.int i1), .val (.int i2), .val (.int i3), .val (.int i4), .val (.ref a5), .val (.ref a10), .unset, .unset] []
  refine g_aload (pc' := 125) C at_123 rfl rfl rfl ?_
  refine g_iconst (pc' := 126) (z := (3 : Int32)) C at_125 rfl rfl ?_
  refine g_iload (pc' := 128) C at_126 rfl rfl ?_
  refine g_aconst_null (pc' := 129) C at_128 rfl ?_
  refine g_virtual (y := (⟨"com/example/infinite_marking/infinitemarking/analysis/Region", "add", "(IILcom/example/infinite_marking/infinitemarking/model/Transition;)V"⟩ : MethodName)) (a := a10) (pc' := 132) (k' := 11) (n' := 137) (S := []) (as := [(.int (3 : Int32)), (.int i2), .null]) C at_129 rfl (hw _ (List.mem_of_getElem? (i := 72) rfl)) (hw _ (List.mem_of_getElem? (i := 74) rfl)) (hw _ (List.mem_of_getElem? (i := 3) rfl)) (hw _ (List.mem_of_getElem? (i := 76) rfl)) (hw _ (List.mem_of_getElem? (i := 73) rfl)) (hw _ (List.mem_of_getElem? (i := 75) rfl)) (by decide) Oa10.1 (lenOf pd_2 rfl) (con_add W.l Z a0 hw a10 b1 b2 b3 b4 b5 b6 e1 e2 e3 (3 : Int32) (3 : Int32) i2 3 _ _ _ rfl (Nat.le_of_ble_eq_true rfl) rfl rfl rfl q01 q02 q03 q12 q13 q23 h12 Oa10 A1 A2 A3) rfl rfl (Nat.le_of_ble_eq_true rfl) (Nat.le_of_ble_eq_true rfl) rfl rfl (Nat.le_of_ble_eq_true rfl) (Nat.le_of_ble_eq_true rfl) (allS w_a10 (allS w_b1 (allS w_b2 (allS w_b3 all0)))) fun vh13 h13 qh13 Kh13 => ?_
  obtain ⟨rfl, Oa10, A1, A2, A3⟩ := qh13
  replace F := F.keep Kh13 (ninS n_st_a10 (ninS n_s_b1 (ninS n_s_b2 (ninS n_s_b3 nin0))))
  replace Aa5 := Aa5.keep Kh13 (ninS n_a5_a10 (ninS n_d_b1 (ninS n_d_b2 (ninS n_d_b3 nin0))))
  replace Oa10 : Ob Z h13 a10 "com/example/infinite_marking/infinitemarking/analysis/Region" [("com/example/infinite_marking/infinitemarking/analysis/Region", "nodes", "[I", (.ref b1)), ("com/example/infinite_marking/infinitemarking/analysis/Region", "parents", "[I", (.ref b2)), ("com/example/infinite_marking/infinitemarking/analysis/Region", "vias", "[Lcom/example/infinite_marking/infinitemarking/model/Transition;", (.ref b3)), ("com/example/infinite_marking/infinitemarking/analysis/Region", "sources", "[I", (.ref b4)), ("com/example/infinite_marking/infinitemarking/analysis/Region", "steps", "[Lcom/example/infinite_marking/infinitemarking/model/Transition;", (.ref b5)), ("com/example/infinite_marking/infinitemarking/analysis/Region", "targets", "[I", (.ref b6)), ("com/example/infinite_marking/infinitemarking/analysis/Region", "exits", "Ljava/util/List;", (.ref e1)), ("com/example/infinite_marking/infinitemarking/analysis/Region", "byCount", "Ljava/util/Map;", (.ref e2)), ("com/example/infinite_marking/infinitemarking/analysis/Region", "leading", "Ljava/util/Map;", (.ref e3)), ("com/example/infinite_marking/infinitemarking/analysis/Region", "quotient", "Lcom/example/infinite_marking/infinitemarking/analysis/TreeQuotient;", .null), ("com/example/infinite_marking/infinitemarking/analysis/Region", "size", "I", (.int (4 : Int32)))] := Oa10
  replace A1 : Ar Z h13 b1 .int [(.int (0 : Int32)), (.int (1 : Int32)), (.int (2 : Int32)), (.int (3 : Int32)), (.int (0 : Int32)), (.int (0 : Int32)), (.int (0 : Int32)), (.int (0 : Int32)), (.int (0 : Int32)), (.int (0 : Int32)), (.int (0 : Int32)), (.int (0 : Int32)), (.int (0 : Int32)), (.int (0 : Int32)), (.int (0 : Int32)), (.int (0 : Int32))] := A1
  replace A2 : Ar Z h13 b2 .int [(.int (-1 : Int32)), (.int (0 : Int32)), (.int i1), (.int i2), (.int (0 : Int32)), (.int (0 : Int32)), (.int (0 : Int32)), (.int (0 : Int32)), (.int (0 : Int32)), (.int (0 : Int32)), (.int (0 : Int32)), (.int (0 : Int32)), (.int (0 : Int32)), (.int (0 : Int32)), (.int (0 : Int32)), (.int (0 : Int32))] := A2
  replace A3 : ArR Z h13 b3 "com/example/infinite_marking/infinitemarking/model/Transition" [.null, .null, .null, .null, .null, .null, .null, .null, .null, .null, .null, .null, .null, .null, .null, .null] := A3
  show Go W Q h13 11 137 132 #[.val (.int p0), .val (.int p1), .val (.int p2), .val (.int i1), .val (.int i2), .val (.int i3), .val (.int i4), .val (.ref a5), .val (.ref a10), .unset, .unset] []
  refine g_aload (pc' := 134) C at_132 rfl rfl rfl ?_
  refine g_iconst (pc' := 135) (z := (4 : Int32)) C at_134 rfl rfl ?_
  refine g_iload (pc' := 137) C at_135 rfl rfl ?_
  refine g_aconst_null (pc' := 138) C at_137 rfl ?_
  refine g_virtual (y := (⟨"com/example/infinite_marking/infinitemarking/analysis/Region", "add", "(IILcom/example/infinite_marking/infinitemarking/model/Transition;)V"⟩ : MethodName)) (a := a10) (pc' := 141) (k' := 11) (n' := 137) (S := []) (as := [(.int (4 : Int32)), (.int i3), .null]) C at_138 rfl (hw _ (List.mem_of_getElem? (i := 72) rfl)) (hw _ (List.mem_of_getElem? (i := 74) rfl)) (hw _ (List.mem_of_getElem? (i := 3) rfl)) (hw _ (List.mem_of_getElem? (i := 76) rfl)) (hw _ (List.mem_of_getElem? (i := 73) rfl)) (hw _ (List.mem_of_getElem? (i := 75) rfl)) (by decide) Oa10.1 (lenOf pd_2 rfl) (con_add W.l Z a0 hw a10 b1 b2 b3 b4 b5 b6 e1 e2 e3 (4 : Int32) (4 : Int32) i3 4 _ _ _ rfl (Nat.le_of_ble_eq_true rfl) rfl rfl rfl q01 q02 q03 q12 q13 q23 h13 Oa10 A1 A2 A3) rfl rfl (Nat.le_of_ble_eq_true rfl) (Nat.le_of_ble_eq_true rfl) rfl rfl (Nat.le_of_ble_eq_true rfl) (Nat.le_of_ble_eq_true rfl) (allS w_a10 (allS w_b1 (allS w_b2 (allS w_b3 all0)))) fun vh14 h14 qh14 Kh14 => ?_
  obtain ⟨rfl, Oa10, A1, A2, A3⟩ := qh14
  replace F := F.keep Kh14 (ninS n_st_a10 (ninS n_s_b1 (ninS n_s_b2 (ninS n_s_b3 nin0))))
  replace Aa5 := Aa5.keep Kh14 (ninS n_a5_a10 (ninS n_d_b1 (ninS n_d_b2 (ninS n_d_b3 nin0))))
  replace Oa10 : Ob Z h14 a10 "com/example/infinite_marking/infinitemarking/analysis/Region" [("com/example/infinite_marking/infinitemarking/analysis/Region", "nodes", "[I", (.ref b1)), ("com/example/infinite_marking/infinitemarking/analysis/Region", "parents", "[I", (.ref b2)), ("com/example/infinite_marking/infinitemarking/analysis/Region", "vias", "[Lcom/example/infinite_marking/infinitemarking/model/Transition;", (.ref b3)), ("com/example/infinite_marking/infinitemarking/analysis/Region", "sources", "[I", (.ref b4)), ("com/example/infinite_marking/infinitemarking/analysis/Region", "steps", "[Lcom/example/infinite_marking/infinitemarking/model/Transition;", (.ref b5)), ("com/example/infinite_marking/infinitemarking/analysis/Region", "targets", "[I", (.ref b6)), ("com/example/infinite_marking/infinitemarking/analysis/Region", "exits", "Ljava/util/List;", (.ref e1)), ("com/example/infinite_marking/infinitemarking/analysis/Region", "byCount", "Ljava/util/Map;", (.ref e2)), ("com/example/infinite_marking/infinitemarking/analysis/Region", "leading", "Ljava/util/Map;", (.ref e3)), ("com/example/infinite_marking/infinitemarking/analysis/Region", "quotient", "Lcom/example/infinite_marking/infinitemarking/analysis/TreeQuotient;", .null), ("com/example/infinite_marking/infinitemarking/analysis/Region", "size", "I", (.int (5 : Int32)))] := Oa10
  replace A1 : Ar Z h14 b1 .int [(.int (0 : Int32)), (.int (1 : Int32)), (.int (2 : Int32)), (.int (3 : Int32)), (.int (4 : Int32)), (.int (0 : Int32)), (.int (0 : Int32)), (.int (0 : Int32)), (.int (0 : Int32)), (.int (0 : Int32)), (.int (0 : Int32)), (.int (0 : Int32)), (.int (0 : Int32)), (.int (0 : Int32)), (.int (0 : Int32)), (.int (0 : Int32))] := A1
  replace A2 : Ar Z h14 b2 .int [(.int (-1 : Int32)), (.int (0 : Int32)), (.int i1), (.int i2), (.int i3), (.int (0 : Int32)), (.int (0 : Int32)), (.int (0 : Int32)), (.int (0 : Int32)), (.int (0 : Int32)), (.int (0 : Int32)), (.int (0 : Int32)), (.int (0 : Int32)), (.int (0 : Int32)), (.int (0 : Int32)), (.int (0 : Int32))] := A2
  replace A3 : ArR Z h14 b3 "com/example/infinite_marking/infinitemarking/model/Transition" [.null, .null, .null, .null, .null, .null, .null, .null, .null, .null, .null, .null, .null, .null, .null, .null] := A3
  show Go W Q h14 11 137 141 #[.val (.int p0), .val (.int p1), .val (.int p2), .val (.int i1), .val (.int i2), .val (.int i3), .val (.int i4), .val (.ref a5), .val (.ref a10), .unset, .unset] []
  refine g_aload (pc' := 143) C at_141 rfl rfl rfl ?_
  refine g_iconst (pc' := 144) (z := (5 : Int32)) C at_143 rfl rfl ?_
  refine g_iload (pc' := 146) C at_144 rfl rfl ?_
  refine g_aconst_null (pc' := 147) C at_146 rfl ?_
  refine g_virtual (y := (⟨"com/example/infinite_marking/infinitemarking/analysis/Region", "add", "(IILcom/example/infinite_marking/infinitemarking/model/Transition;)V"⟩ : MethodName)) (a := a10) (pc' := 150) (k' := 11) (n' := 137) (S := []) (as := [(.int (5 : Int32)), (.int i4), .null]) C at_147 rfl (hw _ (List.mem_of_getElem? (i := 72) rfl)) (hw _ (List.mem_of_getElem? (i := 74) rfl)) (hw _ (List.mem_of_getElem? (i := 3) rfl)) (hw _ (List.mem_of_getElem? (i := 76) rfl)) (hw _ (List.mem_of_getElem? (i := 73) rfl)) (hw _ (List.mem_of_getElem? (i := 75) rfl)) (by decide) Oa10.1 (lenOf pd_2 rfl) (con_add W.l Z a0 hw a10 b1 b2 b3 b4 b5 b6 e1 e2 e3 (5 : Int32) (5 : Int32) i4 5 _ _ _ rfl (Nat.le_of_ble_eq_true rfl) rfl rfl rfl q01 q02 q03 q12 q13 q23 h14 Oa10 A1 A2 A3) rfl rfl (Nat.le_of_ble_eq_true rfl) (Nat.le_of_ble_eq_true rfl) rfl rfl (Nat.le_of_ble_eq_true rfl) (Nat.le_of_ble_eq_true rfl) (allS w_a10 (allS w_b1 (allS w_b2 (allS w_b3 all0)))) fun vh15 h15 qh15 Kh15 => ?_
  obtain ⟨rfl, Oa10, A1, A2, A3⟩ := qh15
  replace F := F.keep Kh15 (ninS n_st_a10 (ninS n_s_b1 (ninS n_s_b2 (ninS n_s_b3 nin0))))
  replace Aa5 := Aa5.keep Kh15 (ninS n_a5_a10 (ninS n_d_b1 (ninS n_d_b2 (ninS n_d_b3 nin0))))
  replace Oa10 : Ob Z h15 a10 "com/example/infinite_marking/infinitemarking/analysis/Region" [("com/example/infinite_marking/infinitemarking/analysis/Region", "nodes", "[I", (.ref b1)), ("com/example/infinite_marking/infinitemarking/analysis/Region", "parents", "[I", (.ref b2)), ("com/example/infinite_marking/infinitemarking/analysis/Region", "vias", "[Lcom/example/infinite_marking/infinitemarking/model/Transition;", (.ref b3)), ("com/example/infinite_marking/infinitemarking/analysis/Region", "sources", "[I", (.ref b4)), ("com/example/infinite_marking/infinitemarking/analysis/Region", "steps", "[Lcom/example/infinite_marking/infinitemarking/model/Transition;", (.ref b5)), ("com/example/infinite_marking/infinitemarking/analysis/Region", "targets", "[I", (.ref b6)), ("com/example/infinite_marking/infinitemarking/analysis/Region", "exits", "Ljava/util/List;", (.ref e1)), ("com/example/infinite_marking/infinitemarking/analysis/Region", "byCount", "Ljava/util/Map;", (.ref e2)), ("com/example/infinite_marking/infinitemarking/analysis/Region", "leading", "Ljava/util/Map;", (.ref e3)), ("com/example/infinite_marking/infinitemarking/analysis/Region", "quotient", "Lcom/example/infinite_marking/infinitemarking/analysis/TreeQuotient;", .null), ("com/example/infinite_marking/infinitemarking/analysis/Region", "size", "I", (.int (6 : Int32)))] := Oa10
  replace A1 : Ar Z h15 b1 .int [(.int (0 : Int32)), (.int (1 : Int32)), (.int (2 : Int32)), (.int (3 : Int32)), (.int (4 : Int32)), (.int (5 : Int32)), (.int (0 : Int32)), (.int (0 : Int32)), (.int (0 : Int32)), (.int (0 : Int32)), (.int (0 : Int32)), (.int (0 : Int32)), (.int (0 : Int32)), (.int (0 : Int32)), (.int (0 : Int32)), (.int (0 : Int32))] := A1
  replace A2 : Ar Z h15 b2 .int [(.int (-1 : Int32)), (.int (0 : Int32)), (.int i1), (.int i2), (.int i3), (.int i4), (.int (0 : Int32)), (.int (0 : Int32)), (.int (0 : Int32)), (.int (0 : Int32)), (.int (0 : Int32)), (.int (0 : Int32)), (.int (0 : Int32)), (.int (0 : Int32)), (.int (0 : Int32)), (.int (0 : Int32))] := A2
  replace A3 : ArR Z h15 b3 "com/example/infinite_marking/infinitemarking/model/Transition" [.null, .null, .null, .null, .null, .null, .null, .null, .null, .null, .null, .null, .null, .null, .null, .null] := A3
  show Go W Q h15 11 137 150 #[.val (.int p0), .val (.int p1), .val (.int p2), .val (.int i1), .val (.int i2), .val (.int i3), .val (.int i4), .val (.ref a5), .val (.ref a10), .unset, .unset] []
  refine g_iloadN (pc' := 151) C at_150 rfl rfl ?_
  refine g_ldcI (pc' := 153) C at_151 rfl (hw _ (List.mem_of_getElem? (i := 79) rfl)) ?_
  refine g_iand (pc' := 154) C at_153 rfl ?_
  refine g_bipush (pc' := 156) (z := (6 : Int32)) C at_154 rfl rfl ?_
  refine g_irem (pc' := 157) C at_156 rfl (by decide) ?_
  refine g_nameI fun i11 e_i11 => ?_
  refine g_istore (pc' := 159) (L' := #[.val (.int p0), .val (.int p1), .val (.int p2), .val (.int i1), .val (.int i2), .val (.int i3), .val (.int i4), .val (.ref a5), .val (.ref a10), .val (.int i11), .unset]) C at_157 rfl rfl ?_
  refine g_iloadN (pc' := 160) C at_159 rfl rfl ?_
  refine g_ldcI (pc' := 162) C at_160 rfl (hw _ (List.mem_of_getElem? (i := 79) rfl)) ?_
  refine g_iand (pc' := 163) C at_162 rfl ?_
  refine g_nameI fun i12 e_i12 => ?_
  refine g_istore (pc' := 165) (L' := #[.val (.int p0), .val (.int p1), .val (.int p2), .val (.int i1), .val (.int i2), .val (.int i3), .val (.int i4), .val (.ref a5), .val (.ref a10), .val (.int i11), .val (.int i12)]) C at_163 rfl rfl ?_
  have m6 := c_mask p1 2147483647 31 (by decide) (by decide)
  have m7 := (c_irem (p1 &&& 2147483647) 6 6 rfl).1 (by omega)
  rw [← e_i11] at m7
  obtain ⟨kn6, hh6, b6'⟩ : ∃ m : Nat, i11.toInt = m ∧ m < 6 := ⟨i11.toInt.toNat, by omega, by omega⟩
  have m8 := c_mask p2 2147483647 31 (by decide) (by decide)
  rw [← e_i12] at m8
  have m9 : 0 ≤ i12.toInt := by omega
  obtain ⟨D, tr, hD⟩ := tree_of hh2 hh3 hh4 hh5 b2' b3' b4' b5' e_i6 e_i7 e_i8 e_i9
  refine g_aload (pc' := 167) C at_165 rfl rfl rfl ?_
  refine g_iload (pc' := 169) C at_167 rfl rfl ?_
  refine g_iload (pc' := 171) C at_169 rfl rfl ?_
  refine g_virtualP (y := (⟨"com/example/infinite_marking/infinitemarking/analysis/Region", "isWithin", "(II)Z"⟩ : MethodName)) (a := a10) (pc' := 174) (k' := 11) (n' := 137) (S := []) (as := [(.int i11), (.int i12)]) C at_171 rfl (hw _ (List.mem_of_getElem? (i := 80) rfl)) (hw _ (List.mem_of_getElem? (i := 82) rfl)) (hw _ (List.mem_of_getElem? (i := 3) rfl)) (hw _ (List.mem_of_getElem? (i := 84) rfl)) (hw _ (List.mem_of_getElem? (i := 81) rfl)) (hw _ (List.mem_of_getElem? (i := 83) rfl)) (by decide) Oa10.1 (lenOf pd_3 rfl) (con_within W.l Z a0 hw a10 b1 b2 b3 b4 b5 b6 e1 e2 e3 6 i11 i12 _ D tr kn6 hh6 b6' m9 h15 Oa10 A2) rfl rfl (Nat.le_of_ble_eq_true rfl) (Nat.le_of_ble_eq_true rfl) rfl rfl (Nat.le_of_ble_eq_true rfl) (Nat.le_of_ble_eq_true rfl) (S1 := [(.int (b2i ((D kn6 : Int) ≤ i12.toInt)))]) rfl ?_
  refine g_aload (pc' := 176) C at_174 rfl rfl rfl ?_
  refine g_iload (pc' := 178) C at_176 rfl rfl ?_
  refine g_iaload (pc' := 179) (i := kn6) C at_178 rfl (show Ar Z h15 a5 .int (([(0 : Int32), (1 : Int32), i6, i7, i8, i9] : List Int32).map Value.int) from Aa5) hh6 (map_getI (by show _ < 6; omega)) ?_
  have hD6 := hD kn6 b6'
  refine g_iload (pc' := 181) C at_179 rfl rfl ?_
  suffices K_181 : ∀ (Bz13 : Bool) (z13 : Int32), Bz13 = decide (¬ (i12.toInt < (([(0 : Int32), (1 : Int32), i6, i7, i8, i9] : List Int32).getD kn6 0).toInt)) → z13 = b2i (Bz13 = true) → Go W Q h15 11 137 189 #[.val (.int p0), .val (.int p1), .val (.int p2), .val (.int i1), .val (.int i2), .val (.int i3), .val (.int i4), .val (.ref a5), .val (.ref a10), .val (.int i11), .val (.int i12)] [(.int z13), (.int (b2i ((D kn6 : Int) ≤ i12.toInt)))] by
    refine g_icmp (xi := (([(0 : Int32), (1 : Int32), i6, i7, i8, i9] : List Int32).getD kn6 0).toInt) (yi := i12.toInt) (pc1 := 188) (pc2 := 184) C at_181 (by decide) rfl rfl rfl rfl (fun (c181 : i12.toInt < (([(0 : Int32), (1 : Int32), i6, i7, i8, i9] : List Int32).getD kn6 0).toInt) => ?_) (fun (c181 : ¬ (i12.toInt < (([(0 : Int32), (1 : Int32), i6, i7, i8, i9] : List Int32).getD kn6 0).toInt)) => ?_)
    ·
      refine g_iconst (pc' := 189) (z := (0 : Int32)) C at_188 rfl rfl ?_
      exact K_181 (decide (¬ (i12.toInt < (([(0 : Int32), (1 : Int32), i6, i7, i8, i9] : List Int32).getD kn6 0).toInt))) (0 : Int32) rfl ((rfl : (0 : Int32) = b2i False).trans (b2i_iff ((iff_false_intro (fun y => y c181)).symm.trans decide_eq_true_iff.symm)))
    ·
      refine g_iconst (pc' := 185) (z := (1 : Int32)) C at_184 rfl rfl ?_
      refine g_goto C at_185 (by decide) (pc' := 189) rfl ?_
      exact K_181 (decide (¬ (i12.toInt < (([(0 : Int32), (1 : Int32), i6, i7, i8, i9] : List Int32).getD kn6 0).toInt))) (1 : Int32) rfl ((rfl : (1 : Int32) = b2i True).trans (b2i_iff ((iff_true_intro c181).symm.trans decide_eq_true_iff.symm)))
  intro Bz13 z13 bd_z13 e_z13
  have b_z13 : Bz13 = true ↔ (¬ (i12.toInt < (([(0 : Int32), (1 : Int32), i6, i7, i8, i9] : List Int32).getD kn6 0).toInt)) := by rw [bd_z13]; exact decide_eq_true_iff
  suffices K_189 : ∀ z14 : Int32, z14 = b2i (((D kn6 : Int) ≤ i12.toInt) ↔ (Bz13 = true)) → Go W Q h15 11 137 197 #[.val (.int p0), .val (.int p1), .val (.int p2), .val (.int i1), .val (.int i2), .val (.int i3), .val (.int i4), .val (.ref a5), .val (.ref a10), .val (.int i11), .val (.int i12)] [(.int z14)] by
    refine g_icmpbne (pc1 := 196) (pc2 := 192) C at_189 (by decide) rfl rfl rfl e_z13 (fun (c189 : ¬ (((D kn6 : Int) ≤ i12.toInt) ↔ (Bz13 = true))) => ?_) (fun (c189 : ((D kn6 : Int) ≤ i12.toInt) ↔ (Bz13 = true)) => ?_)
    ·
      refine g_iconst (pc' := 197) (z := (0 : Int32)) C at_196 rfl rfl ?_
      exact K_189 (0 : Int32) ((rfl : (0 : Int32) = b2i False).trans (b2i_iff (iff_false_intro c189).symm))
    ·
      refine g_iconst (pc' := 193) (z := (1 : Int32)) C at_192 rfl rfl ?_
      refine g_goto C at_193 (by decide) (pc' := 197) rfl ?_
      exact K_189 (1 : Int32) ((rfl : (1 : Int32) = b2i True).trans (b2i_iff (iff_true_intro c189).symm))
  intro z14 e_z14
  refine g_retN C (by simp) at_197 (by decide) (by decide) ?_
  subst hQ
  refine congrArg (fun z => some (Value.int z)) (?_ : nar .boolean z14 = 1)
  rw [e_z14, nar_b2i]
  refine b2i_pos ?_
  rw [b_z13, hD6]
  omega
set_option maxRecDepth 65536 in
set_option maxHeartbeats 2000000 in
theorem comes_1 {Post : Tables → Env → Array Value → State → Outcome → State → Prop} (hpost : ∀ tb e args s v u, (limb_1_1.after args s (.returned v) u = true ∧ limb_1_2.after args s (.returned v) u = true ∧ True) → FrameEnd s (.returned v) u (Jvm.fieldLocs frame_1_writes args s ++ Jvm.arrayLocs frame_1_arrays args s ++ Jvm.staticLocs frame_1_statics s) 32 384 → Post tb e args s (.returned v) u) :
    ArmFor flags0 classFile x code maxLocals ret World_1 tables_1 room_1 Calls_1 rest_1 Pre_1 Post := by
  intro l hfl _ _ p e ha hc hk s m args below hf hA hF happ hP
  obtain ⟨hcalls, hrest, hpre⟩ := hP
  obtain ⟨-, -, -, hnamed, -, -, -, hat⟩ := (Spec.applies_iff hf).mp happ
  obtain ⟨hg, hn⟩ := and_e (Cond.before_iff.mp (show (Jvm.Cond.and given_1 narrow_1).before args s = true from hpre))
  obtain ⟨g1, g2⟩ := and_e hg
  obtain ⟨g3, g4⟩ := and_e g2
  obtain ⟨g5, g6⟩ := and_e g4
  obtain ⟨w0, w1, w2, rfl⟩ : ∃ w0 w1 w2 : Value, args = #[w0, w1, w2] := by
    have hs : args.size = 3 := by simpa [Cond.value, given_1] using g1
    obtain ⟨L⟩ := args
    match L, hs with
    | [w0, w1, w2], _ => exact ⟨w0, w1, w2, rfl⟩
  have hw := fun d (hd : d ∈ tables_1) => atoms_spec (ws := Jvm.Cond.code x code maxLocals ret :: tables_1) hat d (List.mem_cons_of_mem _ hd)
  obtain ⟨i0, ei0⟩ := is_v g3
  obtain rfl : w0 = (.int i0) := Option.some.inj ei0
  obtain ⟨i1, ei1⟩ := is_v g5
  obtain rfl : w1 = (.int i1) := Option.some.inj ei1
  obtain ⟨i2, ei2⟩ := is_v g6
  obtain rfl : w2 = (.int i2) := Option.some.inj ei2
  have hr := show rest_1_c.before _ s = true from hrest
  obtain ⟨r1, hr⟩ := and_e (Cond.before_iff.mp hr)
  obtain ⟨r2, hr⟩ := and_e hr
  obtain ⟨r3, hr⟩ := and_e hr
  obtain ⟨r4, hr⟩ := and_e hr
  obtain ⟨r5, hr⟩ := and_e hr
  obtain ⟨r6, hr⟩ := and_e hr
  obtain ⟨r7, hr⟩ := and_e hr
  obtain ⟨ee, ev⟩ := static_ref r7
  obtain ⟨st, F⟩ := StA.of (Sta.start ev (Or.inr ⟨(hw _ (List.mem_of_getElem? (i := 26) rfl)), Cond.before_iff.mpr r3⟩))
  obtain ⟨n, o, h1, h2, h3, _, L, rfl, ⟨rfl, N⟩, hq⟩ := con_0 l s _ hw i0 i1 i2 st ee s.heap F p e ha hc hk s m _ below hf ((Spec.applies_iff_loose hf).mp happ).1 ⟨rfl, State.Warmed39.refl s, rfl⟩ trivial
  refine ⟨n, _, h1, h2, h3, hpost _ _ _ _ _ _ ⟨Cond.after_iff.mpr rfl, Cond.after_iff.mpr (eq_i res_at (Term.int_eval (1)) rfl), trivial⟩ ⟨hq.1, hq.2.1, (hq.2.2.sift fun y hy => Or.inr ((N y hy).resolve_left (fun q => nomatch q))).mono (by decide) (by decide)⟩⟩
theorem main_1_1 : Claimed_1_1 := comes_1 fun _ _ _ _ _ _ h hF => ⟨h.1, hF⟩
theorem main_1_2 : Claimed_1_2 := comes_1 fun _ _ _ _ _ _ h hF => ⟨h.2.1, hF⟩
end Jvm.Pilot.@@N@@
namespace Jvm.Pilot.@@N@@
open Jvm Jvm.ClassFile Sem Op Lib Jvm.Free Jvm.Stand Jvm.Pilot.@@N@@.Jvm.D
/-! MADE BY PROGRAM (witnessworld.py) out of the Statement's table words and the real class files: 23 classes; the members and pool entries that the words name. The judged class is class 1, her method 1. -/
namespace start1
open Jvm.ClassFile
def u (s : String) : CpInfo := .utf8 (stringToUtf16 s)
/-- a pool by its gaps: so many unusable entries, then the entry; so many at the end -/
def gap : Nat → List CpInfo → List CpInfo
  | 0, r => r
  | n + 1, r => .unusable :: gap n r
def poolList (es : List (Nat × CpInfo)) (last : Nat) : List CpInfo := es.foldr (fun e r => gap e.1 (e.2 :: r)) (gap last [])
def pool (es : List (Nat × CpInfo)) (last : Nat) : Array CpInfo := ⟨poolList es last⟩
def fileOf (pool : Array CpInfo) (this : Nat) (attrs : Array Attribute := #[]) (ms : Array MethodInfo := #[]) (fl : Nat := 33) (sup : Nat := 0) (ifs : Array Nat := #[]) (fds : Array FieldInfo := #[]) : ClassFile where
  minorVersion := 0
  majorVersion := 65
  constantPool := pool
  accessFlags := fl
  thisClass := this
  superClass := sup
  interfaces := ifs
  fields := fds
  methods := ms
  attributes := attrs
def plain (name : String) (sup : Option ClassId) : Class where
  name := name
  kind := .ordinary
  loader := none
  accessFlags := 33
  super := sup
  interfaces := #[]
  cf := none
  fields := #[]
  methods := #[]
  instanceTypes := #[]
  staticTypes := #[]
  resolved := #[]
  callSites := []
  init := .initialized
  statics := none
  mirror := none

def pool0 : Array CpInfo := pool [(5, u "<init>"), (0, u "()V"), (1, .class_ 10), (1, u "java/lang/Object")] 113

def k0c0 : Code := { maxStack := 0, maxLocals := 1, code := object_method_1_code, exceptionTable := #[], attributes := #[] }
def k0m0 : Method := { name := "<init>", desc := "()V", sig := { parameters := [], returnType := none }, accessFlags := 1, code := some k0c0 }
/-- java/lang/Object -/
def k0 : Class := { plain "java/lang/Object" none with
  accessFlags := 33
  interfaces := #[]
  cf := some (fileOf pool0 8 #[] #[{ accessFlags := 1, nameIndex := 5, descriptorIndex := 6, attributes := #[] }] 33 0 #[] #[])
  fields := #[]
  methods := #[k0m0]
  instanceTypes := #[]
  staticTypes := #[]
  resolved := Array.replicate 124 none
  statics := none }

def pool1 : Array CpInfo := pool [(2, .class_ 4), (1, u "java/lang/Object"), (0, u "<init>"), (0, u "()V"), (0, .class_ 8), (0, u "com/example/infinite_marking/infinitemarking/analysis/Region"), (0, .methodref 7 10), (0, .nameAndType 5 11), (0, u "(Lcom/example/infinite_marking/infinitemarking/analysis/TreeQuotient;)V"), (0, .methodref 7 13), (0, .nameAndType 14 15), (0, u "add"), (0, u "(IILcom/example/infinite_marking/infinitemarking/model/Transition;)V"), (0, .integer 2147483647), (0, .methodref 7 18), (0, .nameAndType 19 20), (0, u "isWithin"), (0, u "(II)Z"), (0, .class_ 22), (0, u "com/example/infinite_marking/infinitemarking/analysis/RegionIsWithinPinLaw"), (2, u "law"), (0, u "(III)Z")] 5

def k1m0 : Method := { name := "<init>", desc := "()V", sig := { parameters := [], returnType := none }, accessFlags := 1, code := none }
def k1c1 : Code := { maxStack := 4, maxLocals := 11, code := code, exceptionTable := #[], attributes := #[] }
def k1m1 : Method := { name := "law", desc := "(III)Z", sig := { parameters := [.int, .int, .int], returnType := some .boolean }, accessFlags := 9, code := some k1c1 }
/-- com/example/infinite_marking/infinitemarking/analysis/RegionIsWithinPinLaw -/
def k1 : Class := { plain "com/example/infinite_marking/infinitemarking/analysis/RegionIsWithinPinLaw" (some 0) with
  accessFlags := 49
  interfaces := #[]
  cf := some (fileOf pool1 21 #[] #[{ accessFlags := 1, nameIndex := 5, descriptorIndex := 6, attributes := #[] }, { accessFlags := 9, nameIndex := 25, descriptorIndex := 26, attributes := #[] }] 49 2 #[] #[])
  fields := #[]
  methods := #[k1m0, k1m1]
  instanceTypes := #[]
  staticTypes := #[]
  resolved := Array.replicate 32 none
  statics := none }

def pool2 : Array CpInfo := pool [(1, .methodref 2 3), (0, .class_ 4), (0, .nameAndType 5 6), (0, u "java/lang/Object"), (0, u "<init>"), (0, u "()V"), (0, .fieldref 8 9), (0, .class_ 10), (0, .nameAndType 11 12), (0, u "com/example/infinite_marking/infinitemarking/analysis/Region"), (0, u "nodes"), (0, u "[I"), (0, .fieldref 8 14), (0, .nameAndType 15 12), (0, u "parents"), (0, .class_ 17), (0, u "com/example/infinite_marking/infinitemarking/model/Transition"), (0, .fieldref 8 19), (0, .nameAndType 20 21), (0, u "vias"), (0, u "[Lcom/example/infinite_marking/infinitemarking/model/Transition;"), (0, .fieldref 8 23), (0, .nameAndType 24 12), (0, u "sources"), (0, .fieldref 8 26), (0, .nameAndType 27 21), (0, u "steps"), (0, .fieldref 8 29), (0, .nameAndType 30 12), (0, u "targets"), (0, .class_ 32), (0, u "java/util/ArrayList"), (0, .methodref 31 3), (0, .fieldref 8 35), (0, .nameAndType 36 37), (0, u "exits"), (0, u "Ljava/util/List;"), (0, .class_ 39), (0, u "java/util/HashMap"), (0, .methodref 38 3), (0, .fieldref 8 42), (0, .nameAndType 43 44), (0, u "byCount"), (0, u "Ljava/util/Map;"), (0, .fieldref 8 46), (0, .nameAndType 47 44), (0, u "leading"), (0, .fieldref 8 49), (0, .nameAndType 50 51), (0, u "quotient"), (0, u "Lcom/example/infinite_marking/infinitemarking/analysis/TreeQuotient;"), (0, .fieldref 8 53), (0, .nameAndType 54 55), (0, u "size"), (0, u "I"), (16, u "edgeCount"), (0, .class_ 74), (0, u "com/example/infinite_marking/infinitemarking/analysis/Region$Exit"), (7, u "add"), (67, u "(II)Z"), (2, u "lastRanking"), (0, u "Lcom/example/infinite_marking/infinitemarking/analysis/Region$Ranking;"), (1, .class_ 158), (1, u "com/example/infinite_marking/infinitemarking/analysis/Region$Ranking"), (12, u "components"), (12, u "successors"), (7, u "predecessors"), (8, u "[[I"), (59, u "(Lcom/example/infinite_marking/infinitemarking/analysis/TreeQuotient;)V"), (2, u "(IILcom/example/infinite_marking/infinitemarking/model/Transition;)V"), (11, u "isWithin")] 67

def k2c0 : Code := { maxStack := 3, maxLocals := 2, code := prog_50_method_1_code, exceptionTable := #[], attributes := #[] }
def k2m0 : Method := { name := "<init>", desc := "(Lcom/example/infinite_marking/infinitemarking/analysis/TreeQuotient;)V", sig := { parameters := [(.object "com/example/infinite_marking/infinitemarking/analysis/TreeQuotient")], returnType := none }, accessFlags := 0, code := some k2c0 }
def k2c1 : Code := { maxStack := 3, maxLocals := 4, code := prog_50_method_2_code, exceptionTable := #[], attributes := #[] }
def k2m1 : Method := { name := "add", desc := "(IILcom/example/infinite_marking/infinitemarking/model/Transition;)V", sig := { parameters := [.int, .int, (.object "com/example/infinite_marking/infinitemarking/model/Transition")], returnType := none }, accessFlags := 0, code := some k2c1 }
def k2c2 : Code := { maxStack := 2, maxLocals := 5, code := prog_50_method_12_code, exceptionTable := #[], attributes := #[] }
def k2m2 : Method := { name := "isWithin", desc := "(II)Z", sig := { parameters := [.int, .int], returnType := some .boolean }, accessFlags := 0, code := some k2c2 }
/-- com/example/infinite_marking/infinitemarking/analysis/Region -/
def k2 : Class := { plain "com/example/infinite_marking/infinitemarking/analysis/Region" (some 0) with
  accessFlags := 48
  interfaces := #[]
  cf := some (fileOf pool2 8 #[.nestMembers #[73, 156]] #[{ accessFlags := 0, nameIndex := 5, descriptorIndex := 261, attributes := #[] }, { accessFlags := 0, nameIndex := 82, descriptorIndex := 264, attributes := #[] }, { accessFlags := 0, nameIndex := 276, descriptorIndex := 150, attributes := #[] }] 48 2 #[] #[{ accessFlags := 18, nameIndex := 50, descriptorIndex := 51, attributes := #[] }, { accessFlags := 2, nameIndex := 11, descriptorIndex := 12, attributes := #[] }, { accessFlags := 2, nameIndex := 15, descriptorIndex := 12, attributes := #[] }, { accessFlags := 2, nameIndex := 20, descriptorIndex := 21, attributes := #[] }, { accessFlags := 2, nameIndex := 54, descriptorIndex := 55, attributes := #[] }, { accessFlags := 2, nameIndex := 24, descriptorIndex := 12, attributes := #[] }, { accessFlags := 2, nameIndex := 27, descriptorIndex := 21, attributes := #[] }, { accessFlags := 2, nameIndex := 30, descriptorIndex := 12, attributes := #[] }, { accessFlags := 2, nameIndex := 72, descriptorIndex := 55, attributes := #[] }, { accessFlags := 18, nameIndex := 36, descriptorIndex := 37, attributes := #[] }, { accessFlags := 18, nameIndex := 43, descriptorIndex := 44, attributes := #[] }, { accessFlags := 2, nameIndex := 153, descriptorIndex := 154, attributes := #[] }, { accessFlags := 2, nameIndex := 171, descriptorIndex := 12, attributes := #[] }, { accessFlags := 2, nameIndex := 192, descriptorIndex := 201, attributes := #[] }, { accessFlags := 2, nameIndex := 184, descriptorIndex := 201, attributes := #[] }, { accessFlags := 18, nameIndex := 47, descriptorIndex := 44, attributes := #[] }])
  fields := #[{ name := "quotient", type := (.object "com/example/infinite_marking/infinitemarking/analysis/TreeQuotient"), accessFlags := 18, slot := 0, constantValue := 0 }, { name := "nodes", type := (.array .int), accessFlags := 2, slot := 1, constantValue := 0 }, { name := "parents", type := (.array .int), accessFlags := 2, slot := 2, constantValue := 0 }, { name := "vias", type := (.array (.object "com/example/infinite_marking/infinitemarking/model/Transition")), accessFlags := 2, slot := 3, constantValue := 0 }, { name := "size", type := .int, accessFlags := 2, slot := 4, constantValue := 0 }, { name := "sources", type := (.array .int), accessFlags := 2, slot := 5, constantValue := 0 }, { name := "steps", type := (.array (.object "com/example/infinite_marking/infinitemarking/model/Transition")), accessFlags := 2, slot := 6, constantValue := 0 }, { name := "targets", type := (.array .int), accessFlags := 2, slot := 7, constantValue := 0 }, { name := "edgeCount", type := .int, accessFlags := 2, slot := 8, constantValue := 0 }, { name := "exits", type := (.object "java/util/List"), accessFlags := 18, slot := 9, constantValue := 0 }, { name := "byCount", type := (.object "java/util/Map"), accessFlags := 18, slot := 10, constantValue := 0 }, { name := "lastRanking", type := (.object "com/example/infinite_marking/infinitemarking/analysis/Region$Ranking"), accessFlags := 2, slot := 11, constantValue := 0 }, { name := "components", type := (.array .int), accessFlags := 2, slot := 12, constantValue := 0 }, { name := "predecessors", type := (.array (.array .int)), accessFlags := 2, slot := 13, constantValue := 0 }, { name := "successors", type := (.array (.array .int)), accessFlags := 2, slot := 14, constantValue := 0 }, { name := "leading", type := (.object "java/util/Map"), accessFlags := 18, slot := 15, constantValue := 0 }]
  methods := #[k2m0, k2m1, k2m2]
  instanceTypes := #[(.object "com/example/infinite_marking/infinitemarking/analysis/TreeQuotient"), (.array .int), (.array .int), (.array (.object "com/example/infinite_marking/infinitemarking/model/Transition")), .int, (.array .int), (.array (.object "com/example/infinite_marking/infinitemarking/model/Transition")), (.array .int), .int, (.object "java/util/List"), (.object "java/util/Map"), (.object "com/example/infinite_marking/infinitemarking/analysis/Region$Ranking"), (.array .int), (.array (.array .int)), (.array (.array .int)), (.object "java/util/Map")]
  staticTypes := #[]
  resolved := Array.replicate 344 none
  statics := none }

def pool3 : Array CpInfo := pool [(2, .class_ 4), (1, u "java/lang/Object"), (3, u "name"), (9, .class_ 20), (1, u "com/example/infinite_marking/infinitemarking/model/Transition"), (0, u "Ljava/lang/String;"), (1, u "pre"), (4, u "Lcom/example/infinite_marking/infinitemarking/model/Marking;"), (1, u "post"), (8, u "arcPlaces"), (0, u "[I")] 53

/-- com/example/infinite_marking/infinitemarking/model/Transition -/
def k3 : Class := { plain "com/example/infinite_marking/infinitemarking/model/Transition" (some 0) with
  accessFlags := 49
  interfaces := #[]
  cf := some (fileOf pool3 18 #[] #[] 49 2 #[] #[{ accessFlags := 18, nameIndex := 8, descriptorIndex := 21, attributes := #[] }, { accessFlags := 18, nameIndex := 23, descriptorIndex := 28, attributes := #[] }, { accessFlags := 18, nameIndex := 30, descriptorIndex := 28, attributes := #[] }, { accessFlags := 18, nameIndex := 39, descriptorIndex := 40, attributes := #[] }])
  fields := #[{ name := "name", type := (.object "java/lang/String"), accessFlags := 18, slot := 0, constantValue := 0 }, { name := "pre", type := (.object "com/example/infinite_marking/infinitemarking/model/Marking"), accessFlags := 18, slot := 1, constantValue := 0 }, { name := "post", type := (.object "com/example/infinite_marking/infinitemarking/model/Marking"), accessFlags := 18, slot := 2, constantValue := 0 }, { name := "arcPlaces", type := (.array .int), accessFlags := 18, slot := 3, constantValue := 0 }]
  methods := #[]
  instanceTypes := #[(.object "java/lang/String"), (.object "com/example/infinite_marking/infinitemarking/model/Marking"), (.object "com/example/infinite_marking/infinitemarking/model/Marking"), (.array .int)]
  staticTypes := #[]
  resolved := Array.replicate 94 none
  statics := none }

def pool4 : Array CpInfo := pool [(8, .class_ 10), (1, u "java/lang/Iterable"), (24, .class_ 36), (0, u "java/lang/Object")] 25

/-- java/lang/Iterable -/
def k4 : Class := { plain "java/lang/Iterable" (some 0) with
  accessFlags := 1537
  interfaces := #[]
  cf := some (fileOf pool4 8 #[] #[] 1537 35 #[] #[])
  fields := #[]
  methods := #[]
  instanceTypes := #[]
  staticTypes := #[]
  resolved := Array.replicate 62 none
  statics := none }

def pool5 : Array CpInfo := pool [(10, .class_ 12), (1, u "java/util/Collection"), (47, .class_ 61), (0, u "java/lang/Object"), (0, .class_ 63), (0, u "java/lang/Iterable")] 51

/-- java/util/Collection -/
def k5 : Class := { plain "java/util/Collection" (some 0) with
  accessFlags := 1537
  interfaces := #[4]
  cf := some (fileOf pool5 10 #[] #[] 1537 60 #[62] #[])
  fields := #[]
  methods := #[]
  instanceTypes := #[]
  staticTypes := #[]
  resolved := Array.replicate 115 none
  statics := none }

def pool6 : Array CpInfo := pool [(1, .methodref 2 3), (0, .class_ 4), (0, .nameAndType 5 6), (0, u "java/lang/Object"), (0, u "<init>"), (0, u "()V"), (1, .class_ 10), (1, u "java/util/AbstractCollection"), (66, .class_ 78), (0, u "java/util/Collection")] 81

def k6c0 : Code := { maxStack := 1, maxLocals := 1, code := jdk_22_method_1_code, exceptionTable := #[], attributes := #[] }
def k6m0 : Method := { name := "<init>", desc := "()V", sig := { parameters := [], returnType := none }, accessFlags := 4, code := some k6c0 }
/-- java/util/AbstractCollection -/
def k6 : Class := { plain "java/util/AbstractCollection" (some 0) with
  accessFlags := 1057
  interfaces := #[5]
  cf := some (fileOf pool6 8 #[] #[{ accessFlags := 4, nameIndex := 5, descriptorIndex := 6, attributes := #[] }] 1057 2 #[77] #[])
  fields := #[]
  methods := #[k6m0]
  instanceTypes := #[]
  staticTypes := #[]
  resolved := Array.replicate 160 none
  statics := none }

def pool7 : Array CpInfo := pool [(8, .class_ 10), (1, u "java/util/SequencedCollection"), (15, .class_ 27), (0, u "java/lang/Object"), (0, .class_ 29), (0, u "java/util/Collection")] 27

/-- java/util/SequencedCollection -/
def k7 : Class := { plain "java/util/SequencedCollection" (some 0) with
  accessFlags := 1537
  interfaces := #[5]
  cf := some (fileOf pool7 8 #[] #[] 1537 26 #[28] #[])
  fields := #[]
  methods := #[]
  instanceTypes := #[]
  staticTypes := #[]
  resolved := Array.replicate 57 none
  statics := none }

def pool8 : Array CpInfo := pool [(8, .class_ 10), (1, u "java/util/List"), (92, .class_ 104), (0, u "java/lang/Object"), (15, .class_ 121), (0, u "java/util/SequencedCollection")] 129

/-- java/util/List -/
def k8 : Class := { plain "java/util/List" (some 0) with
  accessFlags := 1537
  interfaces := #[7]
  cf := some (fileOf pool8 8 #[] #[] 1537 103 #[120] #[])
  fields := #[]
  methods := #[]
  instanceTypes := #[]
  staticTypes := #[]
  resolved := Array.replicate 251 none
  statics := none }

def pool9 : Array CpInfo := pool [(1, .methodref 2 3), (0, .class_ 4), (0, .nameAndType 5 6), (0, u "java/util/AbstractCollection"), (0, u "<init>"), (0, u "()V"), (0, .fieldref 8 9), (0, .class_ 10), (0, .nameAndType 11 12), (0, u "java/util/AbstractList"), (0, u "modCount"), (0, u "I"), (64, .class_ 78), (0, u "java/util/AbstractList$Itr"), (3, .class_ 83), (0, u "java/util/AbstractList$ListItr"), (9, .class_ 94), (0, u "java/util/AbstractList$RandomAccessSubList"), (3, .class_ 99), (0, u "java/util/AbstractList$SubList"), (33, .class_ 134), (0, u "java/util/List"), (73, .class_ 209), (0, u "java/util/AbstractList$SubList$1"), (0, .class_ 211), (0, u "java/util/AbstractList$RandomAccessSpliterator")] 6

def k9c0 : Code := { maxStack := 2, maxLocals := 1, code := jdk_39_method_1_code, exceptionTable := #[], attributes := #[] }
def k9m0 : Method := { name := "<init>", desc := "()V", sig := { parameters := [], returnType := none }, accessFlags := 4, code := some k9c0 }
/-- java/util/AbstractList -/
def k9 : Class := { plain "java/util/AbstractList" (some 6) with
  accessFlags := 1057
  interfaces := #[8]
  cf := some (fileOf pool9 8 #[.nestMembers #[93, 98, 208, 210, 82, 77]] #[{ accessFlags := 4, nameIndex := 5, descriptorIndex := 6, attributes := #[] }] 1057 2 #[133] #[{ accessFlags := 132, nameIndex := 11, descriptorIndex := 12, attributes := #[] }])
  fields := #[{ name := "modCount", type := .int, accessFlags := 132, slot := 0, constantValue := 0 }]
  methods := #[k9m0]
  instanceTypes := #[.int]
  staticTypes := #[]
  resolved := Array.replicate 218 none
  statics := none }

def pool10 : Array CpInfo := pool [(1, .class_ 2), (0, u "java/util/RandomAccess"), (0, .class_ 4), (0, u "java/lang/Object")] 2

/-- java/util/RandomAccess -/
def k10 : Class := { plain "java/util/RandomAccess" (some 0) with
  accessFlags := 1537
  interfaces := #[]
  cf := some (fileOf pool10 1 #[] #[] 1537 3 #[] #[])
  fields := #[]
  methods := #[]
  instanceTypes := #[]
  staticTypes := #[]
  resolved := Array.replicate 7 none
  statics := none }

def pool11 : Array CpInfo := pool [(1, .class_ 2), (0, u "java/lang/Cloneable"), (0, .class_ 4), (0, u "java/lang/Object")] 2

/-- java/lang/Cloneable -/
def k11 : Class := { plain "java/lang/Cloneable" (some 0) with
  accessFlags := 1537
  interfaces := #[]
  cf := some (fileOf pool11 1 #[] #[] 1537 3 #[] #[])
  fields := #[]
  methods := #[]
  instanceTypes := #[]
  staticTypes := #[]
  resolved := Array.replicate 7 none
  statics := none }

def pool12 : Array CpInfo := pool [(1, .class_ 2), (0, u "java/io/Serializable"), (0, .class_ 4), (0, u "java/lang/Object")] 2

/-- java/io/Serializable -/
def k12 : Class := { plain "java/io/Serializable" (some 0) with
  accessFlags := 1537
  interfaces := #[]
  cf := some (fileOf pool12 1 #[] #[] 1537 3 #[] #[])
  fields := #[]
  methods := #[]
  instanceTypes := #[]
  staticTypes := #[]
  resolved := Array.replicate 7 none
  statics := none }

def pool13 : Array CpInfo := pool [(1, .methodref 2 3), (0, .class_ 4), (0, .nameAndType 5 6), (0, u "java/util/AbstractList"), (0, u "<init>"), (0, u "()V"), (2, .fieldref 10 11), (0, .class_ 12), (0, .nameAndType 13 14), (0, u "java/util/ArrayList"), (0, u "elementData"), (0, u "[Ljava/lang/Object;"), (2, u "EMPTY_ELEMENTDATA"), (21, .fieldref 10 40), (0, .nameAndType 41 14), (0, u "DEFAULTCAPACITY_EMPTY_ELEMENTDATA"), (8, u "size"), (0, u "I"), (96, .class_ 149), (0, u "java/util/List"), (112, .class_ 263), (0, u "java/util/ArrayList$ListItr"), (3, .class_ 268), (0, u "java/util/ArrayList$Itr"), (7, .class_ 277), (0, u "java/util/ArrayList$SubList"), (12, .class_ 291), (0, u "java/util/ArrayList$ArrayListSpliterator"), (37, .class_ 330), (0, u "java/util/RandomAccess"), (0, .class_ 332), (0, u "java/lang/Cloneable"), (0, .class_ 334), (0, u "java/io/Serializable"), (0, u "serialVersionUID"), (0, u "J"), (3, u "DEFAULT_CAPACITY"), (159, .class_ 501), (0, u "java/util/ArrayList$SubList$2"), (0, .class_ 503), (0, u "java/util/ArrayList$SubList$1")] 5

def k13c0 : Code := { maxStack := 2, maxLocals := 1, code := jdk_38_method_2_code, exceptionTable := #[], attributes := #[] }
def k13m0 : Method := { name := "<init>", desc := "()V", sig := { parameters := [], returnType := none }, accessFlags := 1, code := some k13c0 }
/-- java/util/ArrayList -/
def k13 : Class := { plain "java/util/ArrayList" (some 9) with
  accessFlags := 33
  interfaces := #[8, 10, 11, 12]
  cf := some (fileOf pool13 10 #[.nestMembers #[290, 276, 500, 502, 262, 267]] #[{ accessFlags := 1, nameIndex := 5, descriptorIndex := 6, attributes := #[] }] 33 2 #[148, 329, 331, 333] #[{ accessFlags := 26, nameIndex := 335, descriptorIndex := 336, attributes := #[] }, { accessFlags := 26, nameIndex := 340, descriptorIndex := 51, attributes := #[] }, { accessFlags := 26, nameIndex := 17, descriptorIndex := 14, attributes := #[] }, { accessFlags := 26, nameIndex := 41, descriptorIndex := 14, attributes := #[] }, { accessFlags := 128, nameIndex := 13, descriptorIndex := 14, attributes := #[] }, { accessFlags := 2, nameIndex := 50, descriptorIndex := 51, attributes := #[] }])
  fields := #[{ name := "serialVersionUID", type := .long, accessFlags := 26, slot := 0, constantValue := 0 }, { name := "DEFAULT_CAPACITY", type := .int, accessFlags := 26, slot := 1, constantValue := 0 }, { name := "EMPTY_ELEMENTDATA", type := (.array (.object "java/lang/Object")), accessFlags := 26, slot := 2, constantValue := 0 }, { name := "DEFAULTCAPACITY_EMPTY_ELEMENTDATA", type := (.array (.object "java/lang/Object")), accessFlags := 26, slot := 3, constantValue := 0 }, { name := "elementData", type := (.array (.object "java/lang/Object")), accessFlags := 128, slot := 1, constantValue := 0 }, { name := "size", type := .int, accessFlags := 2, slot := 2, constantValue := 0 }]
  methods := #[k13m0]
  instanceTypes := #[.int, (.array (.object "java/lang/Object")), .int]
  staticTypes := #[.long, .int, (.array (.object "java/lang/Object")), (.array (.object "java/lang/Object"))]
  resolved := Array.replicate 509 none
  statics := some 0 }

def pool14 : Array CpInfo := pool [(2, .class_ 4), (1, u "java/util/Map"), (31, .class_ 37), (0, u "java/util/Map$Entry"), (55, .class_ 94), (0, u "java/lang/Object")] 168

/-- java/util/Map -/
def k14 : Class := { plain "java/util/Map" (some 0) with
  accessFlags := 1537
  interfaces := #[]
  cf := some (fileOf pool14 2 #[.nestMembers #[36]] #[] 1537 93 #[] #[])
  fields := #[]
  methods := #[]
  instanceTypes := #[]
  staticTypes := #[]
  resolved := Array.replicate 263 none
  statics := none }

def pool15 : Array CpInfo := pool [(1, .methodref 2 3), (0, .class_ 4), (0, .nameAndType 5 6), (0, u "java/lang/Object"), (0, u "<init>"), (0, u "()V"), (1, .class_ 10), (1, u "java/util/AbstractMap"), (42, .class_ 54), (0, u "java/util/Map"), (9, u "keySet"), (0, u "Ljava/util/Set;"), (0, .class_ 67), (0, u "java/util/AbstractMap$1"), (5, u "values"), (0, u "Ljava/util/Collection;"), (0, .class_ 76), (0, u "java/util/AbstractMap$2"), (104, .class_ 182), (0, u "java/util/AbstractMap$ViewCollection"), (0, .class_ 184), (0, u "java/util/AbstractMap$SimpleImmutableEntry"), (0, .class_ 186), (0, u "java/util/AbstractMap$SimpleEntry"), (0, .class_ 188), (0, u "java/util/AbstractMap$2$1"), (0, .class_ 190), (0, u "java/util/AbstractMap$1$1")] 5

def k15c0 : Code := { maxStack := 1, maxLocals := 1, code := jdk_71_method_1_code, exceptionTable := #[], attributes := #[] }
def k15m0 : Method := { name := "<init>", desc := "()V", sig := { parameters := [], returnType := none }, accessFlags := 4, code := some k15c0 }
/-- java/util/AbstractMap -/
def k15 : Class := { plain "java/util/AbstractMap" (some 0) with
  accessFlags := 1057
  interfaces := #[14]
  cf := some (fileOf pool15 8 #[.nestMembers #[181, 183, 185, 75, 187, 66, 189]] #[{ accessFlags := 4, nameIndex := 5, descriptorIndex := 6, attributes := #[] }] 1057 2 #[53] #[{ accessFlags := 128, nameIndex := 64, descriptorIndex := 65, attributes := #[] }, { accessFlags := 128, nameIndex := 73, descriptorIndex := 74, attributes := #[] }])
  fields := #[{ name := "keySet", type := (.object "java/util/Set"), accessFlags := 128, slot := 0, constantValue := 0 }, { name := "values", type := (.object "java/util/Collection"), accessFlags := 128, slot := 1, constantValue := 0 }]
  methods := #[k15m0]
  instanceTypes := #[(.object "java/util/Set"), (.object "java/util/Collection")]
  staticTypes := #[]
  resolved := Array.replicate 196 none
  statics := none }

def pool16 : Array CpInfo := pool [(40, .class_ 41), (0, u "java/util/HashMap"), (1, .methodref 44 45), (0, .class_ 46), (0, .nameAndType 47 48), (0, u "java/util/AbstractMap"), (0, u "<init>"), (0, u "()V"), (32, .fieldref 40 82), (0, .nameAndType 83 84), (0, u "loadFactor"), (0, u "F"), (5, u "threshold"), (0, u "I"), (0, .float 1061158912), (8, .class_ 103), (1, u "java/util/Map"), (0, u "size"), (2, u "table"), (0, u "[Ljava/util/HashMap$Node;"), (14, u "entrySet"), (39, .class_ 165), (1, u "java/util/HashMap$Node"), (14, .class_ 181), (0, u "java/util/HashMap$TreeNode"), (22, u "modCount"), (37, u "Ljava/util/Set;"), (0, .class_ 244), (0, u "java/util/HashMap$KeySet"), (18, .class_ 264), (0, u "java/util/HashMap$Values"), (3, .class_ 269), (0, u "java/util/HashMap$EntrySet"), (76, .class_ 348), (1, u "java/util/HashMap$UnsafeHolder"), (43, .class_ 393), (0, u "java/lang/Cloneable"), (0, .class_ 395), (0, u "java/io/Serializable"), (0, u "serialVersionUID"), (0, u "J"), (3, u "DEFAULT_INITIAL_CAPACITY"), (1, u "MAXIMUM_CAPACITY"), (0, u "DEFAULT_LOAD_FACTOR"), (0, u "TREEIFY_THRESHOLD"), (1, u "UNTREEIFY_THRESHOLD"), (1, u "MIN_TREEIFY_CAPACITY"), (186, .class_ 597), (0, u "java/util/HashMap$EntrySpliterator"), (0, .class_ 599), (0, u "java/util/HashMap$ValueSpliterator"), (0, .class_ 601), (0, u "java/util/HashMap$KeySpliterator"), (0, .class_ 603), (0, u "java/util/HashMap$HashMapSpliterator"), (0, .class_ 605), (0, u "java/util/HashMap$EntryIterator"), (0, .class_ 607), (0, u "java/util/HashMap$ValueIterator"), (0, .class_ 609), (0, u "java/util/HashMap$KeyIterator"), (0, .class_ 611), (0, u "java/util/HashMap$HashIterator")] 17

def k16c0 : Code := { maxStack := 2, maxLocals := 1, code := jdk_69_method_7_code, exceptionTable := #[], attributes := #[] }
def k16m0 : Method := { name := "<init>", desc := "()V", sig := { parameters := [], returnType := none }, accessFlags := 1, code := some k16c0 }
/-- java/util/HashMap -/
def k16 : Class := { plain "java/util/HashMap" (some 15) with
  accessFlags := 33
  interfaces := #[14, 11, 12]
  cf := some (fileOf pool16 40 #[.nestMembers #[180, 596, 598, 600, 602, 604, 606, 608, 610, 346, 268, 263, 243, 163]] #[{ accessFlags := 1, nameIndex := 47, descriptorIndex := 48, attributes := #[] }] 33 44 #[101, 392, 394] #[{ accessFlags := 26, nameIndex := 396, descriptorIndex := 397, attributes := #[] }, { accessFlags := 24, nameIndex := 401, descriptorIndex := 91, attributes := #[] }, { accessFlags := 24, nameIndex := 403, descriptorIndex := 91, attributes := #[] }, { accessFlags := 24, nameIndex := 404, descriptorIndex := 84, attributes := #[] }, { accessFlags := 24, nameIndex := 405, descriptorIndex := 91, attributes := #[] }, { accessFlags := 24, nameIndex := 407, descriptorIndex := 91, attributes := #[] }, { accessFlags := 24, nameIndex := 409, descriptorIndex := 91, attributes := #[] }, { accessFlags := 128, nameIndex := 107, descriptorIndex := 108, attributes := #[] }, { accessFlags := 128, nameIndex := 123, descriptorIndex := 242, attributes := #[] }, { accessFlags := 128, nameIndex := 104, descriptorIndex := 91, attributes := #[] }, { accessFlags := 128, nameIndex := 204, descriptorIndex := 91, attributes := #[] }, { accessFlags := 0, nameIndex := 90, descriptorIndex := 91, attributes := #[] }, { accessFlags := 16, nameIndex := 83, descriptorIndex := 84, attributes := #[] }])
  fields := #[{ name := "serialVersionUID", type := .long, accessFlags := 26, slot := 0, constantValue := 0 }, { name := "DEFAULT_INITIAL_CAPACITY", type := .int, accessFlags := 24, slot := 1, constantValue := 0 }, { name := "MAXIMUM_CAPACITY", type := .int, accessFlags := 24, slot := 2, constantValue := 0 }, { name := "DEFAULT_LOAD_FACTOR", type := .float, accessFlags := 24, slot := 3, constantValue := 0 }, { name := "TREEIFY_THRESHOLD", type := .int, accessFlags := 24, slot := 4, constantValue := 0 }, { name := "UNTREEIFY_THRESHOLD", type := .int, accessFlags := 24, slot := 5, constantValue := 0 }, { name := "MIN_TREEIFY_CAPACITY", type := .int, accessFlags := 24, slot := 6, constantValue := 0 }, { name := "table", type := (.array (.object "java/util/HashMap$Node")), accessFlags := 128, slot := 2, constantValue := 0 }, { name := "entrySet", type := (.object "java/util/Set"), accessFlags := 128, slot := 3, constantValue := 0 }, { name := "size", type := .int, accessFlags := 128, slot := 4, constantValue := 0 }, { name := "modCount", type := .int, accessFlags := 128, slot := 5, constantValue := 0 }, { name := "threshold", type := .int, accessFlags := 0, slot := 6, constantValue := 0 }, { name := "loadFactor", type := .float, accessFlags := 16, slot := 7, constantValue := 0 }]
  methods := #[k16m0]
  instanceTypes := #[(.object "java/util/Set"), (.object "java/util/Collection"), (.array (.object "java/util/HashMap$Node")), (.object "java/util/Set"), .int, .int, .int, .float]
  staticTypes := #[.long, .int, .int, .float, .int, .int, .int]
  resolved := Array.replicate 629 none
  statics := none }

/-- the primitive byte -/
def k17 : Class := { plain "byte" none with kind := .primitive 'B', accessFlags := 0x411 }
/-- [B -/
def k18 : Class := { plain "[B" (some 0) with kind := .array 17 .byte, interfaces := #[11, 12], accessFlags := 1041 }

/-- the primitive int -/
def k19 : Class := { plain "int" none with kind := .primitive 'I', accessFlags := 0x411 }
/-- [I -/
def k20 : Class := { plain "[I" (some 0) with kind := .array 19 .int, interfaces := #[11, 12], accessFlags := 1041 }

/-- [Lcom/example/infinite_marking/infinitemarking/model/Transition; -/
def k21 : Class := { plain "[Lcom/example/infinite_marking/infinitemarking/model/Transition;" (some 0) with kind := .array 3 (.object "com/example/infinite_marking/infinitemarking/model/Transition"), interfaces := #[11, 12], accessFlags := 1041 }

/-- [Ljava/lang/Object; -/
def k22 : Class := { plain "[Ljava/lang/Object;" (some 0) with kind := .array 0 (.object "java/lang/Object"), interfaces := #[11, 12], accessFlags := 1041 }

def heap : Heap := #[{ cls := 13, slots := #[.long 0, .int 0, .ref 1, .ref 2], vm := .statics 13 },
  { cls := 22, slots := #[], vm := .none },
  { cls := 22, slots := #[], vm := .none }]
def classes : Array Class := #[k0, k1, k2, k3, k4, k5, k6, k7, k8, k9, k10, k11, k12, k13, k14, k15, k16, k17, k18, k19, k20, k21, k22]
def interned : List (Array UInt16 × Addr) := []
def slotsUsed : Nat := 4
def theMethod : MethodId := ⟨1, 1⟩
def args0 : Array Value := #[.int 77, .int 5, .int 2]
def aboutOver (below : List Frame) : State where
  vm := { classes := classes, interned := interned.toArray }
  heap := heap
  slotsUsed := slotsUsed
  threads := #[{ frames := .invoking theMethod args0 :: below }]
def below0 : List Frame := [.native { method := ⟨0, 0⟩, args := #[] }]
def about1 : State := aboutOver below0
def p0 : Program := .bare "" "" ""
def e0 : Env := launch0.env 0 0 0
theorem w_frames : about1.frames = Frame.invoking theMethod args0 :: below0 := rfl
set_option maxRecDepth 65536 in
theorem w_args : argsFit about1.vm theMethod args0 = true := by decide +kernel
set_option maxRecDepth 65536 in
theorem w_heap : heapFits about1 = true := by decide +kernel
set_option maxRecDepth 65536 in
theorem w_runnable : about1.curStatus? = some .runnable := by decide +kernel
set_option maxRecDepth 65536 in
theorem w_alone : about1.alone = true := by decide +kernel
set_option maxRecDepth 65536 in
theorem w_named : about1.methodNamed? x = some theMethod := by decide +kernel
set_option maxRecDepth 65536 in
theorem w_hears : about1.hears theMethod below0 = true := by decide +kernel
set_option maxRecDepth 65536 in
theorem w_ripe : about1.ripe theMethod args0 below0 = true := by decide +kernel
theorem w_running : about1.status = .running := rfl
set_option maxRecDepth 65536 in
theorem w_room : about1.hasRoom e0.platform room_1 = true :=
  launch0.hasRoom_least _ room_1 (by decide +kernel) (by decide +kernel) (by decide +kernel) (by decide +kernel) (by decide +kernel) (by decide +kernel)
theorem allAtoms_all (ts : List Jvm.Cond) (a : Array Jvm.Value) (st : Jvm.State) : (allAtoms ts).before a st = ts.all (fun c => c.before a st) := by
  induction ts with
  | nil => rfl
  | cons c t ih =>
    show (Jvm.Cond.and c (allAtoms t)).before a st = _
    rw [Jvm.Cond.before_and, ih, List.all_cons]
def words1 : List Jvm.Cond := Jvm.Cond.code x code maxLocals ret :: tables_1
/-- a 'code' word, met by the world's own term for the bytes: nothing is compared byte by byte -/
theorem code_word {y : MethodName} {bytes : ByteArray} {mx : Nat} {rt : Option FieldType} {a : Array Value} {s : State} {m : MethodId} {meth : Method} {c : Code} (h1 : s.methodNamed? y = some m) (h2 : s.vm.method? m = some meth) (h3 : meth.code = some c) (h4 : c.code = bytes)
    (h5 : (c.maxLocals == mx && c.exceptionTable.isEmpty && decide (c.maxStack ≤ mostOperands) && decide (meth.sig.returnType = rt) && !meth.locks && decide (parseMethodDescriptor y.desc = some meth.sig)) = true) : (Jvm.Cond.code y bytes mx rt).before a s = true := by
  simp only [Bool.and_eq_true, beq_iff_eq, Bool.not_eq_true', decide_eq_true_eq] at h5
  obtain ⟨⟨⟨⟨⟨g1, g2⟩, g3⟩, g4⟩, g5⟩, g6⟩ := h5
  simp [Cond.before, Cond.holds, Cond.value, h1, h2, h3, h4, g1, g2, g3, g4, g5, g6]
def isCode : Jvm.Cond → Bool
  | .code _ _ _ _ => true
  | _ => false
theorem all_split {L : List Jvm.Cond} {P : Jvm.Cond → Bool} (h1 : L.all (fun c => isCode c || P c) = true) (h2 : ∀ c ∈ L.filter isCode, P c = true) : L.all P = true := by
  refine List.all_eq_true.mpr fun c hc => ?_
  have h := List.all_eq_true.mp h1 c hc
  rcases Bool.eq_false_or_eq_true (isCode c) with hi | hi
  · exact h2 c (List.mem_filter.mpr ⟨hc, hi⟩)
  · simpa [hi] using h
set_option maxRecDepth 65536 in
theorem w_c0 : (Jvm.Cond.code x code maxLocals ret).before args0 about1 = true := code_word (m := ⟨1, 1⟩) (meth := k1m1) (c := k1c1) (by decide +kernel) rfl rfl rfl (by decide +kernel)
set_option maxRecDepth 65536 in
theorem w_c1 : (Jvm.Cond.code ({ cls := "com/example/infinite_marking/infinitemarking/analysis/Region", name := "<init>", desc := "(Lcom/example/infinite_marking/infinitemarking/analysis/TreeQuotient;)V" } : Jvm.MethodName) prog_50_method_1_code (2 : Nat) (Option.none : Option Jvm.ClassFile.FieldType)).before args0 about1 = true := code_word (m := ⟨2, 0⟩) (meth := k2m0) (c := k2c0) (by decide +kernel) rfl rfl rfl (by decide +kernel)
set_option maxRecDepth 65536 in
theorem w_c2 : (Jvm.Cond.code ({ cls := "java/lang/Object", name := "<init>", desc := "()V" } : Jvm.MethodName) object_method_1_code (1 : Nat) (Option.none : Option Jvm.ClassFile.FieldType)).before args0 about1 = true := code_word (m := ⟨0, 0⟩) (meth := k0m0) (c := k0c0) (by decide +kernel) rfl rfl rfl (by decide +kernel)
set_option maxRecDepth 65536 in
theorem w_c3 : (Jvm.Cond.code ({ cls := "java/util/ArrayList", name := "<init>", desc := "()V" } : Jvm.MethodName) jdk_38_method_2_code (1 : Nat) (Option.none : Option Jvm.ClassFile.FieldType)).before args0 about1 = true := code_word (m := ⟨13, 0⟩) (meth := k13m0) (c := k13c0) (by decide +kernel) rfl rfl rfl (by decide +kernel)
set_option maxRecDepth 65536 in
theorem w_c4 : (Jvm.Cond.code ({ cls := "java/util/AbstractList", name := "<init>", desc := "()V" } : Jvm.MethodName) jdk_39_method_1_code (1 : Nat) (Option.none : Option Jvm.ClassFile.FieldType)).before args0 about1 = true := code_word (m := ⟨9, 0⟩) (meth := k9m0) (c := k9c0) (by decide +kernel) rfl rfl rfl (by decide +kernel)
set_option maxRecDepth 65536 in
theorem w_c5 : (Jvm.Cond.code ({ cls := "java/util/AbstractCollection", name := "<init>", desc := "()V" } : Jvm.MethodName) jdk_22_method_1_code (1 : Nat) (Option.none : Option Jvm.ClassFile.FieldType)).before args0 about1 = true := code_word (m := ⟨6, 0⟩) (meth := k6m0) (c := k6c0) (by decide +kernel) rfl rfl rfl (by decide +kernel)
set_option maxRecDepth 65536 in
theorem w_c6 : (Jvm.Cond.code ({ cls := "java/util/HashMap", name := "<init>", desc := "()V" } : Jvm.MethodName) jdk_69_method_7_code (1 : Nat) (Option.none : Option Jvm.ClassFile.FieldType)).before args0 about1 = true := code_word (m := ⟨16, 0⟩) (meth := k16m0) (c := k16c0) (by decide +kernel) rfl rfl rfl (by decide +kernel)
set_option maxRecDepth 65536 in
theorem w_c7 : (Jvm.Cond.code ({ cls := "java/util/AbstractMap", name := "<init>", desc := "()V" } : Jvm.MethodName) jdk_71_method_1_code (1 : Nat) (Option.none : Option Jvm.ClassFile.FieldType)).before args0 about1 = true := code_word (m := ⟨15, 0⟩) (meth := k15m0) (c := k15c0) (by decide +kernel) rfl rfl rfl (by decide +kernel)
set_option maxRecDepth 65536 in
theorem w_c8 : (Jvm.Cond.code ({ cls := "com/example/infinite_marking/infinitemarking/analysis/Region", name := "add", desc := "(IILcom/example/infinite_marking/infinitemarking/model/Transition;)V" } : Jvm.MethodName) prog_50_method_2_code (4 : Nat) (Option.none : Option Jvm.ClassFile.FieldType)).before args0 about1 = true := code_word (m := ⟨2, 1⟩) (meth := k2m1) (c := k2c1) (by decide +kernel) rfl rfl rfl (by decide +kernel)
set_option maxRecDepth 65536 in
theorem w_c9 : (Jvm.Cond.code ({ cls := "com/example/infinite_marking/infinitemarking/analysis/Region", name := "isWithin", desc := "(II)Z" } : Jvm.MethodName) prog_50_method_12_code (5 : Nat) (Option.some Jvm.ClassFile.FieldType.boolean)).before args0 about1 = true := code_word (m := ⟨2, 2⟩) (meth := k2m2) (c := k2c2) (by decide +kernel) rfl rfl rfl (by decide +kernel)
def codes1 : List Jvm.Cond := [Jvm.Cond.code x code maxLocals ret, Jvm.Cond.code ({ cls := "com/example/infinite_marking/infinitemarking/analysis/Region", name := "<init>", desc := "(Lcom/example/infinite_marking/infinitemarking/analysis/TreeQuotient;)V" } : Jvm.MethodName) prog_50_method_1_code (2 : Nat) (Option.none : Option Jvm.ClassFile.FieldType), Jvm.Cond.code ({ cls := "java/lang/Object", name := "<init>", desc := "()V" } : Jvm.MethodName) object_method_1_code (1 : Nat) (Option.none : Option Jvm.ClassFile.FieldType), Jvm.Cond.code ({ cls := "java/util/ArrayList", name := "<init>", desc := "()V" } : Jvm.MethodName) jdk_38_method_2_code (1 : Nat) (Option.none : Option Jvm.ClassFile.FieldType), Jvm.Cond.code ({ cls := "java/util/AbstractList", name := "<init>", desc := "()V" } : Jvm.MethodName) jdk_39_method_1_code (1 : Nat) (Option.none : Option Jvm.ClassFile.FieldType), Jvm.Cond.code ({ cls := "java/util/AbstractCollection", name := "<init>", desc := "()V" } : Jvm.MethodName) jdk_22_method_1_code (1 : Nat) (Option.none : Option Jvm.ClassFile.FieldType), Jvm.Cond.code ({ cls := "java/util/HashMap", name := "<init>", desc := "()V" } : Jvm.MethodName) jdk_69_method_7_code (1 : Nat) (Option.none : Option Jvm.ClassFile.FieldType), Jvm.Cond.code ({ cls := "java/util/AbstractMap", name := "<init>", desc := "()V" } : Jvm.MethodName) jdk_71_method_1_code (1 : Nat) (Option.none : Option Jvm.ClassFile.FieldType), Jvm.Cond.code ({ cls := "com/example/infinite_marking/infinitemarking/analysis/Region", name := "add", desc := "(IILcom/example/infinite_marking/infinitemarking/model/Transition;)V" } : Jvm.MethodName) prog_50_method_2_code (4 : Nat) (Option.none : Option Jvm.ClassFile.FieldType), Jvm.Cond.code ({ cls := "com/example/infinite_marking/infinitemarking/analysis/Region", name := "isWithin", desc := "(II)Z" } : Jvm.MethodName) prog_50_method_12_code (5 : Nat) (Option.some Jvm.ClassFile.FieldType.boolean)]
set_option maxRecDepth 65536 in
theorem codes_eq : words1.filter isCode = codes1 := rfl
theorem w_codes : ∀ c ∈ words1.filter isCode, c.before args0 about1 = true := by
  rw [codes_eq]
  intro c hc
  simp only [codes1, List.mem_cons, List.not_mem_nil, or_false] at hc
  rcases hc with rfl | rfl | rfl | rfl | rfl | rfl | rfl | rfl | rfl | rfl
  · exact w_c0
  · exact w_c1
  · exact w_c2
  · exact w_c3
  · exact w_c4
  · exact w_c5
  · exact w_c6
  · exact w_c7
  · exact w_c8
  · exact w_c9
set_option maxRecDepth 65536 in
theorem w_t1 : (words1.take 24).all (fun c => isCode c || c.before args0 about1) = true := by decide +kernel
set_option maxRecDepth 65536 in
theorem w_t2 : ((words1.drop 24).take 24).all (fun c => isCode c || c.before args0 about1) = true := by decide +kernel
set_option maxRecDepth 65536 in
theorem w_t3 : (((words1.drop 24).drop 24).take 24).all (fun c => isCode c || c.before args0 about1) = true := by decide +kernel
set_option maxRecDepth 65536 in
theorem w_t4 : (((words1.drop 24).drop 24).drop 24).all (fun c => isCode c || c.before args0 about1) = true := by decide +kernel
theorem w_tables : (allAtoms (Jvm.Cond.code x code maxLocals ret :: tables_1)).before args0 about1 = true := by
  rw [allAtoms_all]
  show words1.all (fun c => c.before args0 about1) = true
  refine all_split ?_ w_codes
  rw [← List.take_append_drop 24 words1, List.all_append, w_t1, ← List.take_append_drop 24 (words1.drop 24), List.all_append, w_t2, ← List.take_append_drop 24 ((words1.drop 24).drop 24), List.all_append, w_t3, w_t4]
  rfl
set_option maxRecDepth 65536 in
theorem w_rest : rest_1_c.before args0 about1 = true := by decide +kernel
set_option maxRecDepth 65536 in
theorem w_case : (Jvm.Cond.and given_1 narrow_1).before args0 about1 = true := by decide +kernel
theorem w_applies : (headSpec (Jvm.Cond.code x code maxLocals ret :: tables_1) room_1).applies x e0.platform about1 = true :=
  (Spec.applies_iff w_frames).mpr ⟨w_running, w_runnable, w_alone, w_named, w_hears, w_ripe, w_room, w_tables⟩
theorem atStart : AtStart classFile x code maxLocals ret World_1 tables_1 room_1 Calls_1 rest_1 Pre_1 launch0 p0 e0 about1 theMethod args0 below0 :=
  ⟨lists_1, trivial, launch0.admits_env _ _ _, launch0.least_env, fairChoices_fair.cas, fairChoices_fair.clock, w_frames, w_args, w_heap, w_applies, trivial, w_rest, w_case⟩
end start1
theorem witness_1 : WitnessClaimed_1 := ⟨start1.p0, start1.e0, start1.about1, start1.theMethod, start1.args0, start1.below0, start1.atStart⟩
end Jvm.Pilot.@@N@@
