import JvmDerived
import JvmDerived.Pilot.@@N@@Statement
import JvmDerived.Pilot.@@N@@Code
set_option linter.unusedVariables false
set_option linter.unusedSimpArgs false
namespace Jvm.OwnKit
open Jvm Jvm.ClassFile Sem Op Lib Jvm.Free Jvm.Stand Jvm.LawKit Jvm.RoadKit Bundle
/-- what is fixed in one body's walk: program, launch, environment, room, state at the call, method, arguments, frames below, its record, its code, the old addresses that it may write -/
abbrev Wk : Type := Program × Launch × Env × Room × State × MethodId × Array Value × List Frame × Method × Code × List Addr
abbrev Wk.p (W : Wk) : Program := W.1
abbrev Wk.l (W : Wk) : Launch := W.2.1
abbrev Wk.e (W : Wk) : Env := W.2.2.1
abbrev Wk.R (W : Wk) : Room := W.2.2.2.1
abbrev Wk.s (W : Wk) : State := W.2.2.2.2.1
abbrev Wk.m (W : Wk) : MethodId := W.2.2.2.2.2.1
abbrev Wk.args (W : Wk) : Array Value := W.2.2.2.2.2.2.1
abbrev Wk.below (W : Wk) : List Frame := W.2.2.2.2.2.2.2.1
abbrev Wk.meth (W : Wk) : Method := W.2.2.2.2.2.2.2.2.1
abbrev Wk.c (W : Wk) : Code := W.2.2.2.2.2.2.2.2.2.1
abbrev Wk.ws (W : Wk) : List Addr := W.2.2.2.2.2.2.2.2.2.2
/-- an address that may be written: a named old one, or a new one -/
def Pw (W : Wk) (a : Addr) : Prop := a ∈ W.ws ∨ W.s.heap.size ≤ a
abbrev Sta0 (W : Wk) (T : State) (locs : List Loc) (k n : Nat) : Prop := Stand W.p W.l W.e W.R W.s W.m W.args W.below W.meth W.c T locs k n
abbrev Stp (W : Wk) (S t : State) : Prop := Steps W.p.tables W.e W.below S t
def Sd (W : Wk) (T : State) (h : Heap) (k n : Nat) : Prop := ∃ locs, Sta0 W T locs k n ∧ T.heap = h ∧ ∀ y ∈ locs, Pw W y.base
/-- from S the body comes to its end, returning what Q says -/
def Out (W : Wk) (Q : Option Value → Heap → Prop) (S : State) : Prop := ∃ s₂ o, Stp W S s₂ ∧ s₂.status = .running ∧ Ended s₂ W.below o ∧ ∃ v L, o = .returned v ∧ (Q v s₂.heap ∧ ∀ y ∈ L, Pw W y.base) ∧ FrameEnd W.s o s₂ L W.R.cells W.R.slots
/-- from every state that stands here over the heap h, the body comes to its end as Q says -/
def Go (W : Wk) (Q : Option Value → Heap → Prop) (h : Heap) (k n pc : Nat) (L : Array Slot) (S : List Value) : Prop := ∀ T, Sd W T h k n → Out W Q (T.setTop (mkF W.m pc L S))
def Cx (W : Wk) (Z : State) (R : Room) (own : String) (code : ByteArray) (mx : Nat) (ret : Option FieldType) (nm : String) (ws : List Addr) (h0 : Heap) : Prop :=
  W.p.tables.exec = Jvm.exec ∧ Z.Warmed39 W.s.vm ∧ W.s.vm.findClass own = some W.m.cls ∧ W.c.code = code ∧ W.c.maxLocals = mx ∧ W.meth.sig.returnType = ret ∧ W.meth.locks = false ∧ W.meth.name = nm ∧ W.R = R ∧ W.ws = ws ∧ W.s.heap = h0
/-- a body's contract at the heap h: ws: the old addresses that it may write -/
def Con (l : Launch) (Z : State) (w0 : List Jvm.Cond) (y : MethodName) (bytes : ByteArray) (mx : Nat) (ret : Option FieldType) (rm : Room) (as : Array Value) (h : Heap) (ws : List Addr) (Q : Option Value → Heap → Prop) : Prop :=
  MetFree l y (head1 (Jvm.Cond.code y bytes mx ret :: w0) rm) (fun a U => a = as ∧ Z.Warmed39 U.vm ∧ U.heap = h) (fun _ _ _ _ _ => True)
    (fun _ U o U' => ∃ v L, o = .returned v ∧ (Q v U'.heap ∧ ∀ y ∈ L, y.base ∈ ws ∨ h.size ≤ y.base) ∧ FrameEnd U o U' L rm.cells rm.slots)
/-- a truth value as an int -/
def b2i (P : Prop) [Decidable P] : Int32 := if P then 1 else 0
theorem b2i_pos {P : Prop} [Decidable P] (h : P) : b2i P = 1 := if_pos h
theorem b2i_neg {P : Prop} [Decidable P] (h : ¬ P) : b2i P = 0 := if_neg h
theorem b2i_iff {P Q : Prop} [Decidable P] [Decidable Q] (h : P ↔ Q) : b2i P = b2i Q := by by_cases q : Q <;> simp [b2i, h, q]
theorem b2i_toInt (P : Prop) [Decidable P] : (b2i P).toInt = if P then 1 else 0 := by unfold b2i; split <;> rfl
theorem b2i_one {P : Prop} [Decidable P] : b2i P = 1 ↔ P := by unfold b2i; split <;> simp [*]
theorem b2i_zero {P : Prop} [Decidable P] : b2i P = 0 ↔ ¬ P := by unfold b2i; split <;> simp [*]
theorem nar_b2i (P : Prop) [Decidable P] : nar .boolean (b2i P) = b2i P := by unfold b2i; split <;> rfl
theorem b2i_inj {P Q : Prop} [Decidable P] [Decidable Q] : b2i P = b2i Q ↔ (P ↔ Q) := by unfold b2i; split <;> split <;> simp [*]
theorem ref_cat {v : Value} (h : v.isRef = true) : v.category = 1 := by cases v <;> simp [Value.isRef] at h ⊢ <;> rfl
theorem narrow_ref {t : FieldType} {v : Value} (h : v.isRef = true) : narrow t v = v := by cases v <;> simp [Value.isRef] at h <;> cases t <;> rfl
theorem fits_b2i (P : Prop) [Decidable P] : fits .boolean (.int (b2i P)) = true := by unfold b2i; split <;> rfl
theorem fits_ref0 {t : FieldType} {v : Value} (h : v.isRef = true) (ht : refKind t = true := by rfl) : fits t v = true := by cases v <;> simp [Value.isRef] at h <;> cases t <;> simp_all [refKind, fits]
section Facts
variable {Z : State} {h h' : Heap} {a b : Addr} {C : String} {ws : List Addr}
/-- an object of the class C: its fields (declaring class, name, descriptor, value) -/
def Ob (Z : State) (h : Heap) (a : Addr) (C : String) (fs : List (String × String × String × Value)) : Prop :=
  Exa Z h a C ∧ (∀ f ∈ fs, Fld Z h a f.1 f.2.1 f.2.2.1 f.2.2.2) ∧ (fs.map fun f => RoadKit.slotOf Z f.1 f.2.1 f.2.2.1).Nodup
variable {fs fs' : List (String × String × String × Value)} {o n d : String} {v old : Value} {i : Nat}
theorem Ob.exa (O : Ob Z h a C fs) : Exa Z h a C := O.1
theorem Ob.lt (O : Ob Z h a C fs) : a < h.size := O.1.lt
theorem Ob.get (O : Ob Z h a C fs) (hi : fs[i]? = some (o, n, d, v)) : Fld Z h a o n d v := O.2.1 _ (List.mem_of_getElem? hi)
theorem Ob.keep (O : Ob Z h a C fs) (K : Keep h h' ws) (q : a ∉ ws) : Ob Z h' a C fs := ⟨O.1.keep K, fun f hf => (O.2.1 f hf).keep K q, O.2.2⟩
theorem Ob.ext (O : Ob Z h a C fs) (E : Ext h h') : Ob Z h' a C fs := ⟨O.1.ext E, fun f hf => (O.2.1 f hf).ext E, O.2.2⟩
theorem Ob.other (O : Ob Z h b C fs) {sl : Nat} (W : Wr h h' a sl v) (q : b ≠ a) : Ob Z h' b C fs := O.keep (Keep.of_wr W) (ninS q nin0)
theorem Ob.put (O : Ob Z h a C fs) (hi : fs[i]? = some (o, n, d, old)) (W : Wr h h' a (RoadKit.slotOf Z o n d) v) : Ob Z h' a C (fs.set i (o, n, d, v)) := by
  obtain ⟨E, F, N⟩ := O
  have hlt : i < fs.length := (List.getElem?_eq_some_iff.mp hi).1
  have hm : (fs.set i (o, n, d, v)).map (fun f => RoadKit.slotOf Z f.1 f.2.1 f.2.2.1) = fs.map (fun f => RoadKit.slotOf Z f.1 f.2.1 f.2.2.1) := by
    rw [List.map_set]
    have e : (fs.map fun f => RoadKit.slotOf Z f.1 f.2.1 f.2.2.1)[i]? = some (RoadKit.slotOf Z o n d) := by rw [List.getElem?_map, hi]; rfl
    obtain ⟨hl, he⟩ := List.getElem?_eq_some_iff.mp e
    have q := List.set_getElem_self hl
    rw [he] at q
    exact q
  refine ⟨E.wr W, fun f hf => ?_, by rw [hm]; exact N⟩
  obtain ⟨j, hj⟩ := List.mem_iff_getElem?.mp hf
  by_cases e : j = i
  · subst e
    rw [List.getElem?_set_self hlt] at hj
    cases hj
    exact (F _ (List.mem_of_getElem? hi)).same W
  · rw [List.getElem?_set_ne (Ne.symm e)] at hj
    refine (F f (List.mem_of_getElem? hj)).other W (Or.inr fun q => ?_)
    have e1 : (fs.map fun f => RoadKit.slotOf Z f.1 f.2.1 f.2.2.1)[j]? = some (RoadKit.slotOf Z f.1 f.2.1 f.2.2.1) := by rw [List.getElem?_map, hj]; rfl
    have e2 : (fs.map fun f => RoadKit.slotOf Z f.1 f.2.1 f.2.2.1)[i]? = some (RoadKit.slotOf Z o n d) := by rw [List.getElem?_map, hi]; rfl
    rw [q] at e1
    obtain ⟨l1, q1⟩ := List.getElem?_eq_some_iff.mp e1
    obtain ⟨l2, q2⟩ := List.getElem?_eq_some_iff.mp e2
    exact e ((List.getElem_inj N).mp (q1.trans q2.symm))
/-- an array: its components -/
def Ar (Z : State) (h : Heap) (a : Addr) (ty : FieldType) (vs : List Value) : Prop := ∃ c : Cell, Arr Z h a c ty ∧ c.slots.toList = vs
/-- ... of references to objects of the class C -/
def ArR (Z : State) (h : Heap) (a : Addr) (C : String) (vs : List Value) : Prop := ∃ c : Cell, Arr Z h a c (.object C) ∧ c.slots.toList = vs ∧ Ovr Z c.cls C
variable {ty : FieldType} {vs : List Value}
theorem Ar.lt (A : Ar Z h a ty vs) : a < h.size := A.elim fun _ q => q.1.lt
theorem Ar.keep (A : Ar Z h a ty vs) (K : Keep h h' ws) (q : a ∉ ws) : Ar Z h' a ty vs := by obtain ⟨c, A, e⟩ := A; exact ⟨c, ⟨K.2.1 a c A.1 q, A.2⟩, e⟩
theorem Ar.ext (A : Ar Z h a ty vs) (E : Ext h h') : Ar Z h' a ty vs := by obtain ⟨c, A, e⟩ := A; exact ⟨c, A.ext E, e⟩
theorem ArR.lt (A : ArR Z h a C vs) : a < h.size := A.elim fun _ q => q.1.lt
theorem ArR.keep (A : ArR Z h a C vs) (K : Keep h h' ws) (q : a ∉ ws) : ArR Z h' a C vs := by obtain ⟨c, A, e⟩ := A; exact ⟨c, ⟨K.2.1 a c A.1 q, A.2⟩, e⟩
theorem ArR.ext (A : ArR Z h a C vs) (E : Ext h h') : ArR Z h' a C vs := by obtain ⟨c, A, e⟩ := A; exact ⟨c, A.ext E, e⟩
theorem nin1 (q : b ≠ a) : b ∉ [a] := ninS q nin0
theorem clamp_of {j : Int32} {i : Nat} (hj : j.toInt = i) : j.toNatClampNeg = i := by
  show j.toInt.toNat = i
  omega
theorem nneg_of {j : Int32} {i : Nat} (hj : j.toInt = i) : ¬ j < 0 := by
  rw [Int32.lt_iff_toInt_lt, hj]
  show ¬ ((i : Int) < 0)
  omega
theorem in_of {j : Int32} {i : Nat} {c : Cell} (hj : j.toInt = i) (hi : i < c.slots.toList.length) : ¬ (j < 0 ∨ c.slots.size ≤ j.toNatClampNeg) := by
  rw [clamp_of hj]
  rintro (q | q)
  · exact nneg_of hj q
  · rw [Array.length_toList] at hi; omega
theorem set_toList (c : Cell) (i : Nat) (v : Value) : (c.setSlot i v).slots.toList = c.slots.toList.set i v := by
  show (c.slots.setIfInBounds i v).toList = _
  rw [Array.toList_setIfInBounds]
theorem Ar.put {c : Cell} (A : Arr Z h a c ty) (e : c.slots.toList = vs) {j : Int32} {i : Nat} (hj : j.toInt = i) (W : Wr h h' a j.toNatClampNeg v) : Ar Z h' a ty (vs.set i v) := by
  refine ⟨_, A.same W, ?_⟩
  rw [clamp_of hj, set_toList, e]
theorem map_getI {l : List Int32} {i : Nat} (hi : i < l.length) : (l.map Value.int)[i]? = some (.int (l.getD i 0)) := by
  rw [List.getElem?_map, List.getElem?_eq_getElem hi, List.getD_eq_getElem?_getD, List.getElem?_eq_getElem hi]; rfl
theorem map_getJ {l : List Int64} {i : Nat} (hi : i < l.length) : (l.map Value.long)[i]? = some (.long (l.getD i 0)) := by
  rw [List.getElem?_map, List.getElem?_eq_getElem hi, List.getD_eq_getElem?_getD, List.getElem?_eq_getElem hi]; rfl
theorem map_setI (l : List Int32) (i : Nat) (x : Int32) : (l.map Value.int).set i (.int x) = (l.set i x).map Value.int := by rw [List.map_set]
theorem map_setJ (l : List Int64) (i : Nat) (x : Int64) : (l.map Value.long).set i (.long x) = (l.set i x).map Value.long := by rw [List.map_set]
theorem nat32 {n : Nat} (h : n < 2147483648) : n.toInt32.toInt = n := by
  show (Int32.ofNat n).toInt = n
  rw [Int32.toInt_ofNat_of_lt (by omega)]
theorem keep_of_same {s t : State} {L : List Loc} {k n : Nat} {ws : List Addr} (H : s.sameButNew t L k n) (hL : ∀ y ∈ L, y.base ∈ ws ∨ s.heap.size ≤ y.base) : Keep s.heap t.heap ws := by
  obtain ⟨-, h1, -, -, -, h5⟩ := H
  have lt : ∀ (x : Addr) (c : Cell), s.heap[x]? = some c → x < s.heap.size := fun x c q => (Array.getElem?_eq_some_iff.mp q).1
  refine ⟨h1, fun x c q r => ?_, fun x c q => ?_⟩
  · obtain ⟨c', e1, e2, e3, e4⟩ := h5 x c q
    have hs : c'.slots = c.slots := by
      refine Array.ext_getElem? fun i => e4 i fun hm => ?_
      rcases hL _ hm with z | z
      · exact r z
      · exact absurd (lt x c q) (Nat.not_lt.mpr z)
    rw [e1, e2, hs]
  · obtain ⟨c', e1, e2, e3, -⟩ := h5 x c q
    exact ⟨c', e1, by rw [e2], by rw [e2], e3⟩
end Facts
section Steps0
variable {W : Wk} {Z : State} {R : Room} {own nm : String} {code : ByteArray} {mx : Nat} {ret : Option FieldType} {wsx : List Addr} {hx0 : Heap} {Q : Option Value → Heap → Prop} {h : Heap} {k n pc pc' pc1 pc2 : Nat} {L L' : Array Slot} {S S' : List Value} {a0 : Array Value}
theorem Cx.x (C : Cx W Z R own code mx ret nm wsx hx0) : W.p.tables.exec = Jvm.exec := C.1
theorem Cx.z (C : Cx W Z R own code mx ret nm wsx hx0) : Z.Warmed39 W.s.vm := C.2.1
theorem Cx.o (C : Cx W Z R own code mx ret nm wsx hx0) : W.s.vm.findClass own = some W.m.cls := C.2.2.1
theorem Cx.b (C : Cx W Z R own code mx ret nm wsx hx0) {r : Except ClassFile.DecodeError (ClassFile.Instr × Nat)} (hd : decode code pc = r) : decode W.c.code pc = r := hb C.2.2.2.1 hd
theorem Cx.ml (C : Cx W Z R own code mx ret nm wsx hx0) : W.c.maxLocals = mx := C.2.2.2.2.1
theorem Cx.rt (C : Cx W Z R own code mx ret nm wsx hx0) : W.meth.sig.returnType = ret := C.2.2.2.2.2.1
theorem Cx.lk (C : Cx W Z R own code mx ret nm wsx hx0) : W.meth.locks = false := C.2.2.2.2.2.2.1
theorem Cx.nme (C : Cx W Z R own code mx ret nm wsx hx0) : W.meth.name = nm := C.2.2.2.2.2.2.2.1
theorem Cx.r (C : Cx W Z R own code mx ret nm wsx hx0) : W.R = R := C.2.2.2.2.2.2.2.2.1
theorem Cx.ws (C : Cx W Z R own code mx ret nm wsx hx0) : W.ws = wsx := C.2.2.2.2.2.2.2.2.2.1
theorem Cx.h0 (C : Cx W Z R own code mx ret nm wsx hx0) : W.s.heap = hx0 := C.2.2.2.2.2.2.2.2.2.2
theorem Cx.old (C : Cx W Z R own code mx ret nm wsx hx0) {a : Addr} (q : a ∈ wsx) : Pw W a := Or.inl (C.ws ▸ q)
theorem Cx.new (C : Cx W Z R own code mx ret nm wsx hx0) {a : Addr} (q : hx0.size ≤ a) : Pw W a := Or.inr (C.h0 ▸ q)
theorem Out.st {S S' : State} (f : ∀ t, Stp W S' t → Stp W S t) (g : Out W Q S') : Out W Q S := by
  obtain ⟨s2, o, q, r⟩ := g
  exact ⟨s2, o, f _ q, r⟩
theorem Go.st (f : ∀ T locs, Sta0 W T locs k n → T.heap = h → ∀ t, Stp W (T.setTop (mkF W.m pc' L' S')) t → Stp W (T.setTop (mkF W.m pc L S)) t) (g : Go W Q h k n pc' L' S') : Go W Q h k n pc L S := fun T hT => by
  obtain ⟨locs, X, e, N⟩ := hT
  exact Out.st (f T locs X e) (g T ⟨locs, X, e, N⟩)
theorem Go.same {k' n' : Nat} (g : Go W Q h k n pc L S) (e1 : k' = k) (e2 : n' = n) : Go W Q h k' n' pc L S := by subst e1 e2; exact g
theorem Go.more {k' n' : Nat} (g : Go W Q h k' n' pc L S) (e1 : k ≤ k') (e2 : n ≤ n') : Go W Q h k n pc L S := fun T hT => by
  obtain ⟨locs, X, e, N⟩ := hT
  exact g T ⟨locs, ⟨X.admits, X.cas, X.clock, X.frames, X.room, X.hears, X.method, X.code, X.here, X.tail, X.warmed, X.limits, X.bytes, X.same.mono e1 e2⟩, e, N⟩
theorem Go.cell (g : hx0.size ≤ h.size → Go W Q h k n pc L S) (C : Cx W Z R own code mx ret nm wsx hx0) : Go W Q h k n pc L S := fun T hT => by
  obtain ⟨locs, X, e, N⟩ := hT
  have q : W.s.heap.size ≤ T.heap.size := X.same.2.1
  rw [C.h0, e] at q
  exact g q T ⟨locs, X, e, N⟩

theorem g_iadd (C : Cx W Z R own code mx ret nm wsx hx0) {x y : Int32} (hd : decode code pc = .ok (.iadd, 1)) (hp : pc + 1 = pc') (g : Go W Q h k n pc' L (.int (x + y) :: S)) : Go W Q h k n pc L (.int y :: .int x :: S) := by
  subst hp
  exact g.st fun T locs X e t kk => XS.iadd (g := mkF W.m pc L (.int y :: .int x :: S)) X.here C.x rfl (C.b hd) rfl kk
theorem g_isub (C : Cx W Z R own code mx ret nm wsx hx0) {x y : Int32} (hd : decode code pc = .ok (.isub, 1)) (hp : pc + 1 = pc') (g : Go W Q h k n pc' L (.int (x - y) :: S)) : Go W Q h k n pc L (.int y :: .int x :: S) := by
  subst hp
  exact g.st fun T locs X e t kk => XS.isub (g := mkF W.m pc L (.int y :: .int x :: S)) X.here C.x rfl (C.b hd) rfl kk
theorem g_imul (C : Cx W Z R own code mx ret nm wsx hx0) {x y : Int32} (hd : decode code pc = .ok (.imul, 1)) (hp : pc + 1 = pc') (g : Go W Q h k n pc' L (.int (x * y) :: S)) : Go W Q h k n pc L (.int y :: .int x :: S) := by
  subst hp
  exact g.st fun T locs X e t kk => XS.imul (g := mkF W.m pc L (.int y :: .int x :: S)) X.here C.x rfl (C.b hd) rfl kk
theorem g_iand (C : Cx W Z R own code mx ret nm wsx hx0) {x y : Int32} (hd : decode code pc = .ok (.iand, 1)) (hp : pc + 1 = pc') (g : Go W Q h k n pc' L (.int (x &&& y) :: S)) : Go W Q h k n pc L (.int y :: .int x :: S) := by
  subst hp
  exact g.st fun T locs X e t kk => XS.iand (g := mkF W.m pc L (.int y :: .int x :: S)) X.here C.x rfl (C.b hd) rfl kk
theorem g_ior (C : Cx W Z R own code mx ret nm wsx hx0) {x y : Int32} (hd : decode code pc = .ok (.ior, 1)) (hp : pc + 1 = pc') (g : Go W Q h k n pc' L (.int (x ||| y) :: S)) : Go W Q h k n pc L (.int y :: .int x :: S) := by
  subst hp
  exact g.st fun T locs X e t kk => XS.ior (g := mkF W.m pc L (.int y :: .int x :: S)) X.here C.x rfl (C.b hd) rfl kk
theorem g_ixor (C : Cx W Z R own code mx ret nm wsx hx0) {x y : Int32} (hd : decode code pc = .ok (.ixor, 1)) (hp : pc + 1 = pc') (g : Go W Q h k n pc' L (.int (x ^^^ y) :: S)) : Go W Q h k n pc L (.int y :: .int x :: S) := by
  subst hp
  exact g.st fun T locs X e t kk => XS.ixor (g := mkF W.m pc L (.int y :: .int x :: S)) X.here C.x rfl (C.b hd) rfl kk
theorem g_ishl (C : Cx W Z R own code mx ret nm wsx hx0) {x y : Int32} (hd : decode code pc = .ok (.ishl, 1)) (hp : pc + 1 = pc') (g : Go W Q h k n pc' L (.int (x <<< (y &&& 31)) :: S)) : Go W Q h k n pc L (.int y :: .int x :: S) := by
  subst hp
  exact g.st fun T locs X e t kk => XS.ishl (g := mkF W.m pc L (.int y :: .int x :: S)) X.here C.x rfl (C.b hd) rfl kk
theorem g_ishr (C : Cx W Z R own code mx ret nm wsx hx0) {x y : Int32} (hd : decode code pc = .ok (.ishr, 1)) (hp : pc + 1 = pc') (g : Go W Q h k n pc' L (.int (x >>> (y &&& 31)) :: S)) : Go W Q h k n pc L (.int y :: .int x :: S) := by
  subst hp
  exact g.st fun T locs X e t kk => XS.ishr (g := mkF W.m pc L (.int y :: .int x :: S)) X.here C.x rfl (C.b hd) rfl kk
theorem g_iushr (C : Cx W Z R own code mx ret nm wsx hx0) {x y : Int32} (hd : decode code pc = .ok (.iushr, 1)) (hp : pc + 1 = pc') (g : Go W Q h k n pc' L (.int ((x.toUInt32 >>> (y &&& 31).toUInt32).toInt32) :: S)) : Go W Q h k n pc L (.int y :: .int x :: S) := by
  subst hp
  exact g.st fun T locs X e t kk => XS.iushr (g := mkF W.m pc L (.int y :: .int x :: S)) X.here C.x rfl (C.b hd) rfl kk
theorem g_ladd (C : Cx W Z R own code mx ret nm wsx hx0) {x y : Int64} (hd : decode code pc = .ok (.ladd, 1)) (hp : pc + 1 = pc') (g : Go W Q h k n pc' L (.long (x + y) :: S)) : Go W Q h k n pc L (.long y :: .long x :: S) := by
  subst hp
  exact g.st fun T locs X e t kk => XS.ladd (g := mkF W.m pc L (.long y :: .long x :: S)) X.here C.x rfl (C.b hd) rfl kk
theorem g_lsub (C : Cx W Z R own code mx ret nm wsx hx0) {x y : Int64} (hd : decode code pc = .ok (.lsub, 1)) (hp : pc + 1 = pc') (g : Go W Q h k n pc' L (.long (x - y) :: S)) : Go W Q h k n pc L (.long y :: .long x :: S) := by
  subst hp
  exact g.st fun T locs X e t kk => XS.lsub (g := mkF W.m pc L (.long y :: .long x :: S)) X.here C.x rfl (C.b hd) rfl kk
theorem g_lmul (C : Cx W Z R own code mx ret nm wsx hx0) {x y : Int64} (hd : decode code pc = .ok (.lmul, 1)) (hp : pc + 1 = pc') (g : Go W Q h k n pc' L (.long (x * y) :: S)) : Go W Q h k n pc L (.long y :: .long x :: S) := by
  subst hp
  exact g.st fun T locs X e t kk => XS.lmul (g := mkF W.m pc L (.long y :: .long x :: S)) X.here C.x rfl (C.b hd) rfl kk
theorem g_land (C : Cx W Z R own code mx ret nm wsx hx0) {x y : Int64} (hd : decode code pc = .ok (.land, 1)) (hp : pc + 1 = pc') (g : Go W Q h k n pc' L (.long (x &&& y) :: S)) : Go W Q h k n pc L (.long y :: .long x :: S) := by
  subst hp
  exact g.st fun T locs X e t kk => XS.land (g := mkF W.m pc L (.long y :: .long x :: S)) X.here C.x rfl (C.b hd) rfl kk
theorem g_lor (C : Cx W Z R own code mx ret nm wsx hx0) {x y : Int64} (hd : decode code pc = .ok (.lor, 1)) (hp : pc + 1 = pc') (g : Go W Q h k n pc' L (.long (x ||| y) :: S)) : Go W Q h k n pc L (.long y :: .long x :: S) := by
  subst hp
  exact g.st fun T locs X e t kk => XS.lor (g := mkF W.m pc L (.long y :: .long x :: S)) X.here C.x rfl (C.b hd) rfl kk
theorem g_lxor (C : Cx W Z R own code mx ret nm wsx hx0) {x y : Int64} (hd : decode code pc = .ok (.lxor, 1)) (hp : pc + 1 = pc') (g : Go W Q h k n pc' L (.long (x ^^^ y) :: S)) : Go W Q h k n pc L (.long y :: .long x :: S) := by
  subst hp
  exact g.st fun T locs X e t kk => XS.lxor (g := mkF W.m pc L (.long y :: .long x :: S)) X.here C.x rfl (C.b hd) rfl kk
theorem g_lshl (C : Cx W Z R own code mx ret nm wsx hx0) {x : Int64} {y : Int32} (hd : decode code pc = .ok (.lshl, 1)) (hp : pc + 1 = pc') (g : Go W Q h k n pc' L (.long (x <<< (y &&& 0x3f).toInt64) :: S)) : Go W Q h k n pc L (.int y :: .long x :: S) := by
  subst hp
  exact g.st fun T locs X e t kk => XS.lshl (g := mkF W.m pc L (.int y :: .long x :: S)) X.here C.x rfl (C.b hd) rfl kk
theorem g_lshr (C : Cx W Z R own code mx ret nm wsx hx0) {x : Int64} {y : Int32} (hd : decode code pc = .ok (.lshr, 1)) (hp : pc + 1 = pc') (g : Go W Q h k n pc' L (.long (x >>> (y &&& 0x3f).toInt64) :: S)) : Go W Q h k n pc L (.int y :: .long x :: S) := by
  subst hp
  exact g.st fun T locs X e t kk => XS.lshr (g := mkF W.m pc L (.int y :: .long x :: S)) X.here C.x rfl (C.b hd) rfl kk
theorem g_lushr (C : Cx W Z R own code mx ret nm wsx hx0) {x : Int64} {y : Int32} (hd : decode code pc = .ok (.lushr, 1)) (hp : pc + 1 = pc') (g : Go W Q h k n pc' L (.long ((x.toUInt64 >>> (y &&& 0x3f).toInt64.toUInt64).toInt64) :: S)) : Go W Q h k n pc L (.int y :: .long x :: S) := by
  subst hp
  exact g.st fun T locs X e t kk => XS.lushr (g := mkF W.m pc L (.int y :: .long x :: S)) X.here C.x rfl (C.b hd) rfl kk
theorem g_idiv (C : Cx W Z R own code mx ret nm wsx hx0) {x y : Int32} (hd : decode code pc = .ok (.idiv, 1)) (hp : pc + 1 = pc') (hy : y ≠ 0) (g : Go W Q h k n pc' L (.int (x / y) :: S)) : Go W Q h k n pc L (.int y :: .int x :: S) := by
  subst hp
  exact g.st fun T locs X e t kk => XS.idiv (g := mkF W.m pc L (.int y :: .int x :: S)) X.here C.x rfl (C.b hd) rfl hy kk
theorem g_irem (C : Cx W Z R own code mx ret nm wsx hx0) {x y : Int32} (hd : decode code pc = .ok (.irem, 1)) (hp : pc + 1 = pc') (hy : y ≠ 0) (g : Go W Q h k n pc' L (.int (x % y) :: S)) : Go W Q h k n pc L (.int y :: .int x :: S) := by
  subst hp
  exact g.st fun T locs X e t kk => iremM (g := mkF W.m pc L (.int y :: .int x :: S)) X C.x rfl (C.b hd) rfl hy kk
theorem g_ldiv (C : Cx W Z R own code mx ret nm wsx hx0) {x y : Int64} (hd : decode code pc = .ok (.ldiv, 1)) (hp : pc + 1 = pc') (hy : y ≠ 0) (g : Go W Q h k n pc' L (.long (x / y) :: S)) : Go W Q h k n pc L (.long y :: .long x :: S) := by
  subst hp
  exact g.st fun T locs X e t kk => XS.ldiv (g := mkF W.m pc L (.long y :: .long x :: S)) X.here C.x rfl (C.b hd) rfl hy kk
theorem g_lrem (C : Cx W Z R own code mx ret nm wsx hx0) {x y : Int64} (hd : decode code pc = .ok (.lrem, 1)) (hp : pc + 1 = pc') (hy : y ≠ 0) (g : Go W Q h k n pc' L (.long (x % y) :: S)) : Go W Q h k n pc L (.long y :: .long x :: S) := by
  subst hp
  rw [← lrem_mod] at g
  exact g.st fun T locs X e t kk => XS.lrem (g := mkF W.m pc L (.long y :: .long x :: S)) X.here C.x rfl (C.b hd) rfl hy kk
theorem g_ineg (C : Cx W Z R own code mx ret nm wsx hx0) {x : Int32} (hd : decode code pc = .ok (.ineg, 1)) (hp : pc + 1 = pc') (g : Go W Q h k n pc' L (.int (-x) :: S)) : Go W Q h k n pc L (.int x :: S) := by
  subst hp
  exact g.st fun T locs X e t kk => XS.ineg (g := mkF W.m pc L (.int x :: S)) X.here C.x rfl (C.b hd) rfl kk
theorem g_lneg (C : Cx W Z R own code mx ret nm wsx hx0) {x : Int64} (hd : decode code pc = .ok (.lneg, 1)) (hp : pc + 1 = pc') (g : Go W Q h k n pc' L (.long (-x) :: S)) : Go W Q h k n pc L (.long x :: S) := by
  subst hp
  exact g.st fun T locs X e t kk => XS.lneg (g := mkF W.m pc L (.long x :: S)) X.here C.x rfl (C.b hd) rfl kk
theorem g_i2l (C : Cx W Z R own code mx ret nm wsx hx0) {x : Int32} (hd : decode code pc = .ok (.i2l, 1)) (hp : pc + 1 = pc') (g : Go W Q h k n pc' L (.long (x.toInt64) :: S)) : Go W Q h k n pc L (.int x :: S) := by
  subst hp
  exact g.st fun T locs X e t kk => XS.i2l (g := mkF W.m pc L (.int x :: S)) X.here C.x rfl (C.b hd) rfl kk
theorem g_l2i (C : Cx W Z R own code mx ret nm wsx hx0) {x : Int64} (hd : decode code pc = .ok (.l2i, 1)) (hp : pc + 1 = pc') (g : Go W Q h k n pc' L (.int (x.toInt32) :: S)) : Go W Q h k n pc L (.long x :: S) := by
  subst hp
  exact g.st fun T locs X e t kk => XS.l2i (g := mkF W.m pc L (.long x :: S)) X.here C.x rfl (C.b hd) rfl kk
theorem g_i2b (C : Cx W Z R own code mx ret nm wsx hx0) {x : Int32} (hd : decode code pc = .ok (.i2b, 1)) (hp : pc + 1 = pc') (g : Go W Q h k n pc' L (.int (x.toInt8.toInt32) :: S)) : Go W Q h k n pc L (.int x :: S) := by
  subst hp
  exact g.st fun T locs X e t kk => XS.i2b (g := mkF W.m pc L (.int x :: S)) X.here C.x rfl (C.b hd) rfl kk
theorem g_i2c (C : Cx W Z R own code mx ret nm wsx hx0) {x : Int32} (hd : decode code pc = .ok (.i2c, 1)) (hp : pc + 1 = pc') (g : Go W Q h k n pc' L (.int (x.toUInt32.toUInt16.toUInt32.toInt32) :: S)) : Go W Q h k n pc L (.int x :: S) := by
  subst hp
  exact g.st fun T locs X e t kk => XS.i2c (g := mkF W.m pc L (.int x :: S)) X.here C.x rfl (C.b hd) rfl kk
theorem g_i2s (C : Cx W Z R own code mx ret nm wsx hx0) {x : Int32} (hd : decode code pc = .ok (.i2s, 1)) (hp : pc + 1 = pc') (g : Go W Q h k n pc' L (.int (x.toInt16.toInt32) :: S)) : Go W Q h k n pc L (.int x :: S) := by
  subst hp
  exact g.st fun T locs X e t kk => XS.i2s (g := mkF W.m pc L (.int x :: S)) X.here C.x rfl (C.b hd) rfl kk
theorem g_iconst (C : Cx W Z R own code mx ret nm wsx hx0) {i : Int} {z : Int32} (hd : decode code pc = .ok (.iconst i, 1)) (hp : pc + 1 = pc') (hz : Int32.ofInt i = z) (g : Go W Q h k n pc' L (.int z :: S)) : Go W Q h k n pc L S := by
  subst hp hz
  exact g.st fun T locs X e t kk => XS.iconst (g := mkF W.m pc L S) X.here C.x rfl (C.b hd) kk
theorem g_bipush (C : Cx W Z R own code mx ret nm wsx hx0) {i : Int} {z : Int32} (hd : decode code pc = .ok (.bipush i, 2)) (hp : pc + 2 = pc') (hz : (Int8.ofInt i).toInt32 = z) (g : Go W Q h k n pc' L (.int z :: S)) : Go W Q h k n pc L S := by
  subst hp hz
  exact g.st fun T locs X e t kk => XS.bipush (g := mkF W.m pc L S) X.here C.x rfl (C.b hd) kk
theorem g_sipush (C : Cx W Z R own code mx ret nm wsx hx0) {i : Int} {z : Int32} (hd : decode code pc = .ok (.sipush i, 3)) (hp : pc + 3 = pc') (hz : (Int16.ofInt i).toInt32 = z) (g : Go W Q h k n pc' L (.int z :: S)) : Go W Q h k n pc L S := by
  subst hp hz
  exact g.st fun T locs X e t kk => XS.sipush (g := mkF W.m pc L S) X.here C.x rfl (C.b hd) kk
theorem g_lconst (C : Cx W Z R own code mx ret nm wsx hx0) {i : Fin 2} {z : Int64} (hd : decode code pc = .ok (.lconst i, 1)) (hp : pc + 1 = pc') (hz : Int64.ofNat i = z) (g : Go W Q h k n pc' L (.long z :: S)) : Go W Q h k n pc L S := by
  subst hp hz
  exact g.st fun T locs X e t kk => XS.lconst (g := mkF W.m pc L S) X.here C.x rfl (C.b hd) kk
theorem g_aconst_null (C : Cx W Z R own code mx ret nm wsx hx0)  (hd : decode code pc = .ok (.aconst_null, 1)) (hp : pc + 1 = pc') (g : Go W Q h k n pc' L (.null :: S)) : Go W Q h k n pc L (S) := by
  subst hp
  exact g.st fun T locs X e t kk => XS.aconstNull (g := mkF W.m pc L (S)) X.here C.x rfl (C.b hd) kk
theorem g_dup (C : Cx W Z R own code mx ret nm wsx hx0) {x : Value} (hd : decode code pc = .ok (.dup, 1)) (hp : pc + 1 = pc') (hc : x.category = 1) (g : Go W Q h k n pc' L (x :: x :: S)) : Go W Q h k n pc L (x :: S) := by
  subst hp
  exact g.st fun T locs X e t kk => XS.dup (g := mkF W.m pc L (x :: S)) X.here C.x rfl (C.b hd) rfl hc kk
theorem g_dup_x1 (C : Cx W Z R own code mx ret nm wsx hx0) {x y : Value} (hd : decode code pc = .ok (.dup_x1, 1)) (hp : pc + 1 = pc') (hc : x.category = 1) (hc' : y.category = 1) (g : Go W Q h k n pc' L (x :: y :: x :: S)) : Go W Q h k n pc L (x :: y :: S) := by
  subst hp
  exact g.st fun T locs X e t kk => XS.dupX1 (g := mkF W.m pc L (x :: y :: S)) X.here C.x rfl (C.b hd) rfl hc hc' kk
theorem dupX2s {tb : Tables} [Ours tb] {e : Env} {below : List Frame} {T target : State} {m : MethodId} {c : Code} {g : JFrame} (h : At T m c below) (hx : tb.exec = Jvm.exec) (hg : g.method = m) {x y z : Value} {rest : List Value} (hd : decode c.code g.pc = .ok (.dup_x2, 1)) (hs : g.stack = x :: y :: z :: rest) (hc : x.category = 1) (hc' : y.category = 1) (hc'' : z.category = 1)
    (hr : Steps tb e below (T.setTop { g with pc := g.pc + 1, stack := x :: y :: z :: x :: rest }) target) : Steps tb e below (T.setTop g) target := by
  subst hg
  jvm_step h [h.top, hx, hd, hs, hc, hc', hc'']
  exact hr
theorem g_dup_x2 (C : Cx W Z R own code mx ret nm wsx hx0) {x y z : Value} (hd : decode code pc = .ok (.dup_x2, 1)) (hp : pc + 1 = pc') (hc : x.category = 1) (hc' : y.category = 1) (hc'' : z.category = 1) (g : Go W Q h k n pc' L (x :: y :: z :: x :: S)) : Go W Q h k n pc L (x :: y :: z :: S) := by
  subst hp
  exact g.st fun T locs X e t kk => dupX2s (g := mkF W.m pc L (x :: y :: z :: S)) X.here C.x rfl (C.b hd) rfl hc hc' hc'' kk
theorem g_dup2 (C : Cx W Z R own code mx ret nm wsx hx0) {x y : Value} (hd : decode code pc = .ok (.dup2, 1)) (hp : pc + 1 = pc') (hc : x.category = 1) (hc' : y.category = 1) (g : Go W Q h k n pc' L (x :: y :: x :: y :: S)) : Go W Q h k n pc L (x :: y :: S) := by
  subst hp
  exact g.st fun T locs X e t kk => XT.dup2 (g := mkF W.m pc L (x :: y :: S)) X.here C.x rfl (C.b hd) rfl hc hc' kk
theorem g_dup2L (C : Cx W Z R own code mx ret nm wsx hx0) {x : Int64} (hd : decode code pc = .ok (.dup2, 1)) (hp : pc + 1 = pc') (g : Go W Q h k n pc' L (.long x :: .long x :: S)) : Go W Q h k n pc L (.long x :: S) := by
  subst hp
  exact g.st fun T locs X e t kk => XT.dup2L (g := mkF W.m pc L (.long x :: S)) X.here C.x rfl (C.b hd) rfl kk
theorem g_pop (C : Cx W Z R own code mx ret nm wsx hx0) {x : Value} (hd : decode code pc = .ok (.pop, 1)) (hp : pc + 1 = pc') (hc : x.category = 1) (g : Go W Q h k n pc' L (S)) : Go W Q h k n pc L (x :: S) := by
  subst hp
  exact g.st fun T locs X e t kk => XS.pop (g := mkF W.m pc L (x :: S)) X.here C.x rfl (C.b hd) rfl hc kk
theorem g_iload (C : Cx W Z R own code mx ret nm wsx hx0) {i : Nat} {x : Int32} (hd : decode code pc = .ok (.iload i, 2)) (hp : pc + 2 = pc') (hl : L[i]? = some (.val (.int x))) (g : Go W Q h k n pc' L (.int x :: S)) : Go W Q h k n pc L (S) := by
  subst hp
  exact g.st fun T locs X e t kk => XS.iload (g := mkF W.m pc L (S)) X.here C.x rfl (C.b hd) hl kk
theorem g_iloadN (C : Cx W Z R own code mx ret nm wsx hx0) {i : Fin 4} {x : Int32} (hd : decode code pc = .ok (.iload_n i, 1)) (hp : pc + 1 = pc') (hl : L[i.val]? = some (.val (.int x))) (g : Go W Q h k n pc' L (.int x :: S)) : Go W Q h k n pc L (S) := by
  subst hp
  exact g.st fun T locs X e t kk => XS.iloadN (g := mkF W.m pc L (S)) X.here C.x rfl (C.b hd) hl kk
theorem g_lload (C : Cx W Z R own code mx ret nm wsx hx0) {i : Nat} {x : Int64} (hd : decode code pc = .ok (.lload i, 2)) (hp : pc + 2 = pc') (hl : L[i]? = some (.val (.long x))) (g : Go W Q h k n pc' L (.long x :: S)) : Go W Q h k n pc L (S) := by
  subst hp
  exact g.st fun T locs X e t kk => XS.lload (g := mkF W.m pc L (S)) X.here C.x rfl (C.b hd) hl kk
theorem g_lloadN (C : Cx W Z R own code mx ret nm wsx hx0) {i : Fin 4} {x : Int64} (hd : decode code pc = .ok (.lload_n i, 1)) (hp : pc + 1 = pc') (hl : L[i.val]? = some (.val (.long x))) (g : Go W Q h k n pc' L (.long x :: S)) : Go W Q h k n pc L (S) := by
  subst hp
  exact g.st fun T locs X e t kk => XS.lloadN (g := mkF W.m pc L (S)) X.here C.x rfl (C.b hd) hl kk
theorem g_aload (C : Cx W Z R own code mx ret nm wsx hx0) {i : Nat} {x : Value} (hd : decode code pc = .ok (.aload i, 2)) (hp : pc + 2 = pc') (hl : L[i]? = some (.val x)) (hv : x.isRef = true) (g : Go W Q h k n pc' L (x :: S)) : Go W Q h k n pc L (S) := by
  subst hp
  exact g.st fun T locs X e t kk => XS.aload (g := mkF W.m pc L (S)) X.here C.x rfl (C.b hd) hl hv kk
theorem g_istore (C : Cx W Z R own code mx ret nm wsx hx0) {i : Nat} {x : Int32} (hd : decode code pc = .ok (.istore i, 2)) (hp : pc + 2 = pc') (hl : storeLocals L i (.int x) = some L') (g : Go W Q h k n pc' L' (S)) : Go W Q h k n pc L (.int x :: S) := by
  subst hp
  exact g.st fun T locs X e t kk => XS.istore (g := mkF W.m pc L (.int x :: S)) X.here C.x rfl (C.b hd) rfl hl kk
theorem g_lstore (C : Cx W Z R own code mx ret nm wsx hx0) {i : Nat} {x : Int64} (hd : decode code pc = .ok (.lstore i, 2)) (hp : pc + 2 = pc') (hl : storeLocals L i (.long x) = some L') (g : Go W Q h k n pc' L' (S)) : Go W Q h k n pc L (.long x :: S) := by
  subst hp
  exact g.st fun T locs X e t kk => XS.lstore (g := mkF W.m pc L (.long x :: S)) X.here C.x rfl (C.b hd) rfl hl kk
theorem g_astore (C : Cx W Z R own code mx ret nm wsx hx0) {i : Nat} {x : Value} (hd : decode code pc = .ok (.astore i, 2)) (hp : pc + 2 = pc') (hv : x.isRef = true) (hl : storeLocals L i x = some L') (g : Go W Q h k n pc' L' (S)) : Go W Q h k n pc L (x :: S) := by
  subst hp
  exact g.st fun T locs X e t kk => XS.astore (g := mkF W.m pc L (x :: S)) X.here C.x rfl (C.b hd) rfl hv hl kk
theorem g_aloadN (C : Cx W Z R own code mx ret nm wsx hx0) {i : Fin 4} {x : Value} (hd : decode code pc = .ok (.aload_n i, 1)) (hp : pc + 1 = pc') (hl : L[i.val]? = some (.val x)) (hv : x.isRef = true) (g : Go W Q h k n pc' L (x :: S)) : Go W Q h k n pc L (S) := by
  subst hp
  exact g.st fun T locs X e t kk => XS.aloadN (g := mkF W.m pc L (S)) X.here C.x rfl (C.b hd) hl hv kk
theorem g_istoreN (C : Cx W Z R own code mx ret nm wsx hx0) {i : Fin 4} {x : Int32} (hd : decode code pc = .ok (.istore_n i, 1)) (hp : pc + 1 = pc') (hl : storeLocals L i.val (.int x) = some L') (g : Go W Q h k n pc' L' (S)) : Go W Q h k n pc L (.int x :: S) := by
  subst hp
  exact g.st fun T locs X e t kk => XS.istoreN (g := mkF W.m pc L (.int x :: S)) X.here C.x rfl (C.b hd) rfl hl kk
theorem g_lstoreN (C : Cx W Z R own code mx ret nm wsx hx0) {i : Fin 4} {x : Int64} (hd : decode code pc = .ok (.lstore_n i, 1)) (hp : pc + 1 = pc') (hl : storeLocals L i.val (.long x) = some L') (g : Go W Q h k n pc' L' (S)) : Go W Q h k n pc L (.long x :: S) := by
  subst hp
  exact g.st fun T locs X e t kk => XS.lstoreN (g := mkF W.m pc L (.long x :: S)) X.here C.x rfl (C.b hd) rfl hl kk
theorem g_astoreN (C : Cx W Z R own code mx ret nm wsx hx0) {i : Fin 4} {x : Value} (hd : decode code pc = .ok (.astore_n i, 1)) (hp : pc + 1 = pc') (hv : x.isRef = true) (hl : storeLocals L i.val x = some L') (g : Go W Q h k n pc' L' (S)) : Go W Q h k n pc L (x :: S) := by
  subst hp
  exact g.st fun T locs X e t kk => XS.astoreN (g := mkF W.m pc L (x :: S)) X.here C.x rfl (C.b hd) rfl hv hl kk
theorem g_iinc (C : Cx W Z R own code mx ret nm wsx hx0) {i : Nat} {cst : Int} {x z : Int32} (hd : decode code pc = .ok (.iinc i cst, 3)) (hp : pc + 3 = pc') (hl : L[i]? = some (.val (.int x))) (hz : x + Int32.ofInt cst = z) (hl' : storeLocals L i (.int z) = some L') (g : Go W Q h k n pc' L' (S)) : Go W Q h k n pc L (S) := by
  subst hp
  exact g.st fun T locs X e t kk => XS.iinc (g := mkF W.m pc L (S)) X.here C.x rfl (C.b hd) hl (hz ▸ hl') kk
theorem g_goto (C : Cx W Z R own code mx ret nm wsx hx0) {o : Int} (hd : decode code pc = .ok (.goto o, 3)) (ho : 0 ≤ (pc : Int) + o) (hp : ((pc : Int) + o).toNat = pc') (g : Go W Q h k n pc' L S) : Go W Q h k n pc L S :=
  g.st fun T locs X e t kk => XS.goto (g := mkF W.m pc L S) X.here C.x rfl rfl (C.b hd) ho hp kk
theorem g_ldcI (C : Cx W Z R own code mx ret nm wsx hx0) {i : Nat} {z : Int32} (hd : decode code pc = .ok (.ldc i, 2)) (hp : pc + 2 = pc') (w : (Jvm.Cond.constant own i z).before a0 Z = true) (g : Go W Q h k n pc' L (.int z :: S)) : Go W Q h k n pc L S := by
  subst hp
  exact g.st fun T locs X e t kk => X.ldcInt C.x C.o (mvT C.z w) (g := mkF W.m pc L S) rfl (C.b hd) t kk
theorem g_ldcwI (C : Cx W Z R own code mx ret nm wsx hx0) {i : Nat} {z : Int32} (hd : decode code pc = .ok (.ldc_w i, 3)) (hp : pc + 3 = pc') (w : (Jvm.Cond.constant own i z).before a0 Z = true) (g : Go W Q h k n pc' L (.int z :: S)) : Go W Q h k n pc L S := by
  subst hp
  exact g.st fun T locs X e t kk => X.ldcwInt C.x C.o (mvT C.z w) (g := mkF W.m pc L S) rfl (C.b hd) t kk
theorem g_ldc2L (C : Cx W Z R own code mx ret nm wsx hx0) {i : Nat} {z : Int64} (hd : decode code pc = .ok (.ldc2_w i, 3)) (hp : pc + 3 = pc') (w : (Jvm.Cond.constantLong own i z).before a0 Z = true) (g : Go W Q h k n pc' L (.long z :: S)) : Go W Q h k n pc L S := by
  subst hp
  exact g.st fun T locs X e t kk => X.ldc2Long C.x C.o (mvT C.z w) (g := mkF W.m pc L S) rfl (C.b hd) t kk
theorem g_ldcF (C : Cx W Z R own code mx ret nm wsx hx0) {i : Nat} {z : UInt32} (hd : decode code pc = .ok (.ldc i, 2)) (hp : pc + 2 = pc') (w : (Jvm.Cond.constantFloat own i z).before a0 Z = true) (g : Go W Q h k n pc' L (.float z :: S)) : Go W Q h k n pc L S := by
  subst hp
  obtain ⟨kk, cf, hk, hcf, hcp⟩ := Cond.constantFloat_spec C.o (mvT (args := #[]) C.z w)
  exact g.st fun T locs X e t kt => X.ldcFloat C.x hk hcf hcp (g := mkF W.m pc L S) rfl (C.b hd) t kt
/-- what a branch asks of two integers -/
def icp : ClassFile.Cond → Int → Int → Prop
  | .eq, x, y => x = y
  | .ne, x, y => ¬ x = y
  | .lt, x, y => x < y
  | .ge, x, y => y ≤ x
  | .gt, x, y => y < x
  | .le, x, y => x ≤ y
instance instIcp : (cd : ClassFile.Cond) → (x y : Int) → Decidable (icp cd x y)
  | .eq, x, y => inferInstanceAs (Decidable (x = y))
  | .ne, x, y => inferInstanceAs (Decidable (¬ x = y))
  | .lt, x, y => inferInstanceAs (Decidable (x < y))
  | .ge, x, y => inferInstanceAs (Decidable (y ≤ x))
  | .gt, x, y => inferInstanceAs (Decidable (y < x))
  | .le, x, y => inferInstanceAs (Decidable (x ≤ y))
theorem icp_eq (cd : ClassFile.Cond) (x y : Int32) : if_icmp.holds cd x y = decide (icp cd x.toInt y.toInt) := by
  rw [Bool.eq_iff_iff, decide_eq_true_iff]
  cases cd <;> simp [if_icmp.holds, icp, Int32.lt_iff_toInt_lt, Int32.le_iff_toInt_le, Int32.toInt_inj]
theorem icp_long (cd : ClassFile.Cond) (x y : Int64) : ifCond.holds cd (lcmpW x y) = decide (icp cd x.toInt y.toInt) := by
  rw [if0, icp_eq, Bool.eq_iff_iff, decide_eq_true_iff, decide_eq_true_iff]
  have c := c_lcmp x y
  have z : (0 : Int32).toInt = 0 := rfl
  rw [z]
  rcases Int.lt_trichotomy x.toInt y.toInt with q | q | q
  · rw [c.1 q]; cases cd <;> simp only [icp] <;> omega
  · rw [c.2.1 q]; cases cd <;> simp only [icp] <;> first | omega | simp [q]
  · rw [c.2.2 q]; cases cd <;> simp only [icp] <;> omega

theorem g_icmpY (C : Cx W Z R own code mx ret nm wsx hx0) {cd : ClassFile.Cond} {o : Int} {x y : Int32} {xi yi : Int} (hd : decode code pc = .ok (.if_icmp cd o, 3)) (ho : 0 ≤ (pc : Int) + o) (hp1 : ((pc : Int) + o).toNat = pc1) (hx : x.toInt = xi) (hy : y.toInt = yi) (q : icp cd xi yi) (g : Go W Q h k n pc1 L S) : Go W Q h k n pc L (.int y :: .int x :: S) := by
  subst hx hy
  exact g.st fun T locs X e t kk => XS.icmpYes (g := mkF W.m pc L (.int y :: .int x :: S)) X.here C.x rfl rfl (C.b hd) rfl ((icp_eq cd x y).trans (decide_eq_true q)) ho hp1 kk
theorem g_icmpN (C : Cx W Z R own code mx ret nm wsx hx0) {cd : ClassFile.Cond} {o : Int} {x y : Int32} {xi yi : Int} (hd : decode code pc = .ok (.if_icmp cd o, 3)) (hp2 : pc + 3 = pc2) (hx : x.toInt = xi) (hy : y.toInt = yi) (q : ¬ (icp cd xi yi)) (g : Go W Q h k n pc2 L S) : Go W Q h k n pc L (.int y :: .int x :: S) := by
  subst hx hy hp2
  exact g.st fun T locs X e t kk => XS.icmpNo (g := mkF W.m pc L (.int y :: .int x :: S)) X.here C.x rfl (C.b hd) rfl ((icp_eq cd x y).trans (decide_eq_false q)) kk
theorem g_icmp (C : Cx W Z R own code mx ret nm wsx hx0) {cd : ClassFile.Cond} {o : Int} {x y : Int32} {xi yi : Int} (hd : decode code pc = .ok (.if_icmp cd o, 3)) (ho : 0 ≤ (pc : Int) + o) (hp1 : ((pc : Int) + o).toNat = pc1) (hp2 : pc + 3 = pc2) (hx : x.toInt = xi) (hy : y.toInt = yi) (g1 : icp cd xi yi → Go W Q h k n pc1 L S) (g2 : ¬ (icp cd xi yi) → Go W Q h k n pc2 L S) : Go W Q h k n pc L (.int y :: .int x :: S) := by
  by_cases q : icp cd xi yi
  · exact g_icmpY C hd ho hp1 hx hy q (g1 q)
  · exact g_icmpN C hd hp2 hx hy q (g2 q)
theorem g_ifY (C : Cx W Z R own code mx ret nm wsx hx0) {cd : ClassFile.Cond} {o : Int} {x : Int32} {xi : Int} (hd : decode code pc = .ok (.ifCond cd o, 3)) (ho : 0 ≤ (pc : Int) + o) (hp1 : ((pc : Int) + o).toNat = pc1) (hx : x.toInt = xi) (q : icp cd xi 0) (g : Go W Q h k n pc1 L S) : Go W Q h k n pc L (.int x :: S) := by
  subst hx
  exact g.st fun T locs X e t kk => XS.ifYes (g := mkF W.m pc L (.int x :: S)) X.here C.x rfl rfl (C.b hd) rfl ((if0 cd x).trans ((icp_eq cd x 0).trans (decide_eq_true q))) ho hp1 kk
theorem g_ifN (C : Cx W Z R own code mx ret nm wsx hx0) {cd : ClassFile.Cond} {o : Int} {x : Int32} {xi : Int} (hd : decode code pc = .ok (.ifCond cd o, 3)) (hp2 : pc + 3 = pc2) (hx : x.toInt = xi) (q : ¬ (icp cd xi 0)) (g : Go W Q h k n pc2 L S) : Go W Q h k n pc L (.int x :: S) := by
  subst hx hp2
  exact g.st fun T locs X e t kk => XS.ifNo (g := mkF W.m pc L (.int x :: S)) X.here C.x rfl (C.b hd) rfl ((if0 cd x).trans ((icp_eq cd x 0).trans (decide_eq_false q))) kk
theorem g_if (C : Cx W Z R own code mx ret nm wsx hx0) {cd : ClassFile.Cond} {o : Int} {x : Int32} {xi : Int} (hd : decode code pc = .ok (.ifCond cd o, 3)) (ho : 0 ≤ (pc : Int) + o) (hp1 : ((pc : Int) + o).toNat = pc1) (hp2 : pc + 3 = pc2) (hx : x.toInt = xi) (g1 : icp cd xi 0 → Go W Q h k n pc1 L S) (g2 : ¬ (icp cd xi 0) → Go W Q h k n pc2 L S) : Go W Q h k n pc L (.int x :: S) := by
  by_cases q : icp cd xi 0
  · exact g_ifY C hd ho hp1 hx q (g1 q)
  · exact g_ifN C hd hp2 hx q (g2 q)
/-- lcmp and the branch behind it -/
theorem g_lcmpY (C : Cx W Z R own code mx ret nm wsx hx0) {cd : ClassFile.Cond} {o : Int} {x y : Int64} {xi yi : Int} (hd : decode code pc = .ok (.lcmp, 1)) (hd' : decode code pc' = .ok (.ifCond cd o, 3)) (hp : pc + 1 = pc') (ho : 0 ≤ (pc' : Int) + o) (hp1 : ((pc' : Int) + o).toNat = pc1) (hx : x.toInt = xi) (hy : y.toInt = yi) (q : icp cd xi yi) (g : Go W Q h k n pc1 L S) : Go W Q h k n pc L (.long y :: .long x :: S) := by
  subst hp hx hy
  have g' : Go W Q h k n (pc + 1) L (.int (lcmpW x y) :: S) := g.st fun T locs X e t kk => XS.ifYes (g := mkF W.m (pc + 1) L (.int (lcmpW x y) :: S)) X.here C.x rfl rfl (C.b hd') rfl ((icp_long cd x y).trans (decide_eq_true q)) ho hp1 kk
  exact g'.st fun T locs X e t kk => XS.lcmp (g := mkF W.m pc L (.long y :: .long x :: S)) X.here C.x rfl (C.b hd) rfl kk
theorem g_lcmpN (C : Cx W Z R own code mx ret nm wsx hx0) {cd : ClassFile.Cond} {o : Int} {x y : Int64} {xi yi : Int} (hd : decode code pc = .ok (.lcmp, 1)) (hd' : decode code pc' = .ok (.ifCond cd o, 3)) (hp : pc + 1 = pc') (hp2 : pc' + 3 = pc2) (hx : x.toInt = xi) (hy : y.toInt = yi) (q : ¬ icp cd xi yi) (g : Go W Q h k n pc2 L S) : Go W Q h k n pc L (.long y :: .long x :: S) := by
  subst hp hx hy hp2
  have g' : Go W Q h k n (pc + 1) L (.int (lcmpW x y) :: S) := g.st fun T locs X e t kk => XS.ifNo (g := mkF W.m (pc + 1) L (.int (lcmpW x y) :: S)) X.here C.x rfl (C.b hd') rfl ((icp_long cd x y).trans (decide_eq_false q)) kk
  exact g'.st fun T locs X e t kk => XS.lcmp (g := mkF W.m pc L (.long y :: .long x :: S)) X.here C.x rfl (C.b hd) rfl kk
theorem g_lcmp (C : Cx W Z R own code mx ret nm wsx hx0) {cd : ClassFile.Cond} {o : Int} {x y : Int64} {xi yi : Int} (hd : decode code pc = .ok (.lcmp, 1)) (hd' : decode code pc' = .ok (.ifCond cd o, 3)) (hp : pc + 1 = pc') (ho : 0 ≤ (pc' : Int) + o) (hp1 : ((pc' : Int) + o).toNat = pc1) (hp2 : pc' + 3 = pc2) (hx : x.toInt = xi) (hy : y.toInt = yi) (g1 : icp cd xi yi → Go W Q h k n pc1 L S) (g2 : ¬ icp cd xi yi → Go W Q h k n pc2 L S) : Go W Q h k n pc L (.long y :: .long x :: S) := by
  by_cases q : icp cd xi yi
  · exact g_lcmpY C hd hd' hp ho hp1 hx hy q (g1 q)
  · exact g_lcmpN C hd hd' hp hp2 hx hy q (g2 q)
theorem icp_b0 {P : Prop} [Decidable P] : icp .eq (b2i P).toInt 0 ↔ ¬ P := by
  show (b2i P).toInt = 0 ↔ ¬ P
  rw [b2i_toInt]; split <;> simp [*]
theorem icp_b1 {P : Prop} [Decidable P] : icp .ne (b2i P).toInt 0 ↔ P := by
  show ¬ (b2i P).toInt = 0 ↔ P
  rw [b2i_toInt]; split <;> simp [*]
/-- ifeq on a truth value -/
theorem g_ifeqb (C : Cx W Z R own code mx ret nm wsx hx0) {o : Int} {x : Int32} {P : Prop} [Decidable P] (hd : decode code pc = .ok (.ifCond .eq o, 3)) (ho : 0 ≤ (pc : Int) + o) (hp1 : ((pc : Int) + o).toNat = pc1) (hp2 : pc + 3 = pc2) (hx : x = b2i P) (g1 : ¬ P → Go W Q h k n pc1 L S) (g2 : P → Go W Q h k n pc2 L S) : Go W Q h k n pc L (.int x :: S) := by
  subst hx
  exact g_if C hd ho hp1 hp2 rfl (fun q => g1 (icp_b0.mp q)) (fun q => g2 (Decidable.not_not.mp fun z => q (icp_b0.mpr z)))
/-- ifne on a truth value -/
theorem g_ifneb (C : Cx W Z R own code mx ret nm wsx hx0) {o : Int} {x : Int32} {P : Prop} [Decidable P] (hd : decode code pc = .ok (.ifCond .ne o, 3)) (ho : 0 ≤ (pc : Int) + o) (hp1 : ((pc : Int) + o).toNat = pc1) (hp2 : pc + 3 = pc2) (hx : x = b2i P) (g1 : P → Go W Q h k n pc1 L S) (g2 : ¬ P → Go W Q h k n pc2 L S) : Go W Q h k n pc L (.int x :: S) := by
  subst hx
  exact g_if C hd ho hp1 hp2 rfl (fun q => g1 (icp_b1.mp q)) (fun q => g2 fun z => q (icp_b1.mpr z))
theorem g_icmpbeq (C : Cx W Z R own code mx ret nm wsx hx0) {o : Int} {x y : Int32} {P P' : Prop} [Decidable P] [Decidable P'] (hd : decode code pc = .ok (.if_icmp .eq o, 3)) (ho : 0 ≤ (pc : Int) + o) (hp1 : ((pc : Int) + o).toNat = pc1) (hp2 : pc + 3 = pc2) (hx : x = b2i P) (hy : y = b2i P') (g1 : (P ↔ P') → Go W Q h k n pc1 L S) (g2 : ¬ (P ↔ P') → Go W Q h k n pc2 L S) : Go W Q h k n pc L (.int y :: .int x :: S) := by
  subst hx hy
  exact g_icmp C hd ho hp1 hp2 rfl rfl (fun q => g1 (b2i_inj.mp (Int32.toInt_inj.mp q))) (fun q => g2 fun z => q (congrArg Int32.toInt (b2i_inj.mpr z)))
theorem g_icmpbne (C : Cx W Z R own code mx ret nm wsx hx0) {o : Int} {x y : Int32} {P P' : Prop} [Decidable P] [Decidable P'] (hd : decode code pc = .ok (.if_icmp .ne o, 3)) (ho : 0 ≤ (pc : Int) + o) (hp1 : ((pc : Int) + o).toNat = pc1) (hp2 : pc + 3 = pc2) (hx : x = b2i P) (hy : y = b2i P') (g1 : ¬ (P ↔ P') → Go W Q h k n pc1 L S) (g2 : (P ↔ P') → Go W Q h k n pc2 L S) : Go W Q h k n pc L (.int y :: .int x :: S) := by
  subst hx hy
  exact g_icmp C hd ho hp1 hp2 rfl rfl (fun q => g1 fun z => q (congrArg Int32.toInt (b2i_inj.mpr z))) (fun q => g2 (b2i_inj.mp (Int32.toInt_inj.mp (Decidable.not_not.mp q))))
theorem isRef_cases {v : Value} (hv : v.isRef = true) (h0 : v ≠ .null) : ∃ b, v = .ref b := by
  rcases ref_cases hv with q | q
  · exact absurd q h0
  · exact q
theorem g_ifnonnull (C : Cx W Z R own code mx ret nm wsx hx0) {o : Int} {v : Value} (hd : decode code pc = .ok (.ifnonnull o, 3)) (ho : 0 ≤ (pc : Int) + o) (hp1 : ((pc : Int) + o).toNat = pc1) (hp2 : pc + 3 = pc2) (hv : v.isRef = true) (g1 : v ≠ .null → Go W Q h k n pc1 L S) (g2 : v = .null → Go W Q h k n pc2 L S) : Go W Q h k n pc L (v :: S) := by
  by_cases q : v = .null
  · have g := g2 q
    subst q hp2
    exact g.st fun T locs X e t kk => XS.ifnonnullNo (g := mkF W.m pc L (.null :: S)) X.here C.x rfl (C.b hd) rfl kk
  · have g := g1 q
    obtain ⟨b, rfl⟩ := isRef_cases hv q
    exact g.st fun T locs X e t kk => XS.ifnonnullYes (g := mkF W.m pc L (.ref b :: S)) X.here C.x rfl rfl (C.b hd) rfl ho hp1 kk
theorem g_ifnull (C : Cx W Z R own code mx ret nm wsx hx0) {o : Int} {v : Value} (hd : decode code pc = .ok (.ifnull o, 3)) (ho : 0 ≤ (pc : Int) + o) (hp1 : ((pc : Int) + o).toNat = pc1) (hp2 : pc + 3 = pc2) (hv : v.isRef = true) (g1 : v = .null → Go W Q h k n pc1 L S) (g2 : v ≠ .null → Go W Q h k n pc2 L S) : Go W Q h k n pc L (v :: S) := by
  by_cases q : v = .null
  · have g := g1 q
    subst q
    exact g.st fun T locs X e t kk => XS.ifnullYes (g := mkF W.m pc L (.null :: S)) X.here C.x rfl rfl (C.b hd) rfl ho hp1 kk
  · have g := g2 q
    obtain ⟨b, rfl⟩ := isRef_cases hv q
    subst hp2
    exact g.st fun T locs X e t kk => XS.ifnullNo (g := mkF W.m pc L (.ref b :: S)) X.here C.x rfl (C.b hd) rfl kk
theorem g_acmpne (C : Cx W Z R own code mx ret nm wsx hx0) {o : Int} {v w : Value} (hd : decode code pc = .ok (.if_acmp .ne o, 3)) (ho : 0 ≤ (pc : Int) + o) (hp1 : ((pc : Int) + o).toNat = pc1) (hp2 : pc + 3 = pc2) (hv : v.isRef = true) (hw : w.isRef = true) (g1 : v ≠ w → Go W Q h k n pc1 L S) (g2 : v = w → Go W Q h k n pc2 L S) : Go W Q h k n pc L (w :: v :: S) := by
  by_cases q : v = w
  · exact (g2 q).st fun T locs X e t kk => Jvm.RoadKit.acmp (g := mkF W.m pc L (w :: v :: S)) X C.x rfl hv hw (same := true) rfl (C.b hd) rfl (decide_eq_true q) ho (by rw [← hp2]; rfl) kk
  · exact (g1 q).st fun T locs X e t kk => Jvm.RoadKit.acmp (g := mkF W.m pc L (w :: v :: S)) X C.x rfl hv hw (same := false) rfl (C.b hd) rfl (decide_eq_false q) ho hp1.symm kk
theorem g_acmpeq (C : Cx W Z R own code mx ret nm wsx hx0) {o : Int} {v w : Value} (hd : decode code pc = .ok (.if_acmp .eq o, 3)) (ho : 0 ≤ (pc : Int) + o) (hp1 : ((pc : Int) + o).toNat = pc1) (hp2 : pc + 3 = pc2) (hv : v.isRef = true) (hw : w.isRef = true) (g1 : v = w → Go W Q h k n pc1 L S) (g2 : v ≠ w → Go W Q h k n pc2 L S) : Go W Q h k n pc L (w :: v :: S) := by
  by_cases q : v = w
  · exact (g1 q).st fun T locs X e t kk => Jvm.RoadKit.acmp (g := mkF W.m pc L (w :: v :: S)) X C.x rfl hv hw (same := true) rfl (C.b hd) rfl (decide_eq_true q) ho hp1.symm kk
  · exact (g2 q).st fun T locs X e t kk => Jvm.RoadKit.acmp (g := mkF W.m pc L (w :: v :: S)) X C.x rfl hv hw (same := false) rfl (C.b hd) rfl (decide_eq_false q) ho (by rw [← hp2]; rfl) kk

/-! fields, objects, arrays -/
theorem g_getL (C : Cx W Z R own code mx ret nm wsx hx0) {i : Nat} {R0 O f d host : String} {a : Addr} {v : Value} (hd : decode code pc = .ok (.getfield i, 3)) (hp : pc + 3 = pc') (w : (Jvm.Cond.fieldLink own i R0 f d).before a0 Z = true ∨ (Jvm.Cond.fieldLinkNest own i R0 f d host).before a0 Z = true) (via : Via Z R0 O f d) (F : Fld Z h a O f d v) (g : Go W Q h k n pc' L (v :: S)) : Go W Q h k n pc L (.ref a :: S) := fun T hT => by
  obtain ⟨locs, X, e, N⟩ := hT
  subst hp
  obtain ⟨T', X', e', st⟩ := getF X C.x C.z C.o w via e F (g := mkF W.m pc L (.ref a :: S)) rfl rfl (C.b hd)
  exact Out.st st (g T' ⟨locs, X', e', N⟩)
theorem g_getO (C : Cx W Z R own code mx ret nm wsx hx0) {i j : Nat} {O f d Cl : String} {a : Addr} {v : Value} {fs : List (String × String × String × Value)} (hd : decode code pc = .ok (.getfield i, 3)) (hp : pc + 3 = pc') (w : (Jvm.Cond.fieldLink own i O f d).before a0 Z = true) (F : Ob Z h a Cl fs) (hj : fs[j]? = some (O, f, d, v)) (g : Go W Q h k n pc' L (v :: S)) : Go W Q h k n pc L (.ref a :: S) :=
  g_getL (host := "") C hd hp (Or.inl w) Via.refl (F.get hj) g
theorem pw_size (C : Cx W Z R own code mx ret nm wsx hx0) {T : State} {locs : List Loc} (X : Sta0 W T locs k n) (e : T.heap = h) : Pw W h.size := by
  have q : W.s.heap.size ≤ T.heap.size := X.same.2.1
  rw [e] at q
  exact Or.inr q
theorem g_putO (C : Cx W Z R own code mx ret nm wsx hx0) {i j kk : Nat} {R0 O f d Cl : String} {ty : FieldType} {a : Addr} {v v' old : Value} {fs fs' : List (String × String × String × Value)} (hd : decode code pc = .ok (.putfield i, 3)) (hp : pc + 3 = pc') (w : (Jvm.Cond.fieldLink own i R0 f d).before a0 Z = true) (via : Via Z R0 O f d) (F : Ob Z h a Cl fs) (hj : fs[j]? = some (O, f, d, old))
    (Lw : (Jvm.Cond.lays Cl O f d).before a0 Z = true ∨ ((Jvm.Cond.laysFinal Cl O f d).before a0 Z = true ∧ own = O ∧ nm = "<init>")) (wi : (Jvm.Cond.instantiable Cl kk).before a0 Z = true) (hty : parseFieldDescriptor d = some ty) (hn : narrow ty v = v') (hf : fits ty v' = true) (hset : fs.set j (O, f, d, v') = fs') (q : Pw W a)
    (g : ∀ h', Ob Z h' a Cl fs' → Keep h h' [a] → Go W Q h' k n pc' L S) : Go W Q h k n pc L (v :: .ref a :: S) := fun T hT => by
  obtain ⟨locs, X, e, N⟩ := hT
  subst hp hset
  obtain ⟨T', h', X', e', Wx, st⟩ := putFN X C.x C.z C.o w via e (F.get hj) F.1 (Lw.imp id fun z => ⟨z.1, z.2.1, C.nme.trans z.2.2⟩) wi hty hn hf (g := mkF W.m pc L (v :: .ref a :: S)) rfl rfl (C.b hd)
  refine Out.st st (g h' (F.put hj Wx) (Keep.of_wr Wx) T' ⟨_, X', e', fun y hy => ?_⟩)
  rcases List.mem_append.mp hy with z | z
  · exact N y z
  · cases List.mem_singleton.mp z; exact q
theorem g_new (C : Cx W Z R own code mx ret nm wsx hx0) {i nn : Nat} {Cl : String} (hd : decode code pc = .ok (.new i, 3)) (hp : pc + 3 = pc') (w : (Jvm.Cond.classLink own i Cl).before a0 Z = true) (wi : (Jvm.Cond.instantiable Cl nn).before a0 Z = true) (wz : (Jvm.Cond.initialized Cl).before a0 Z = true) {k' n' : Nat} (hk : k + 1 = k') (hn : n + nn = n') (hc : k' ≤ R.cells) (hs : n' ≤ R.slots)
    (g : ∀ (h' : Heap) (a : Addr), a = h.size → Ext h h' → Exa Z h' a Cl → (∀ {O f d : String} {ty : FieldType}, Laid Z a0 Cl O f d → parseFieldDescriptor d = some ty → Fld Z h' a O f d (defaultValue ty)) → Pw W a → Go W Q h' k' n' pc' L (.ref a :: S)) : Go W Q h k n pc L S := fun T hT => by
  obtain ⟨locs, X, e, N⟩ := hT
  subst hp hk hn
  obtain ⟨T', h', X', e', E, A, D, -, st⟩ := newO X C.x C.z C.o w wi wz e (g := mkF W.m pc L S) rfl (C.b hd) (by rw [C.r]; exact hc) (by rw [C.r]; exact hs)
  exact Out.st st (g h' h.size rfl E A D (pw_size C X e) T' ⟨locs, X', e', N⟩)
theorem def_list (ty : FieldType) (cA : ClassId) {z : Int32} {len : Nat} (hz : z.toInt = len) : (newA cA ty z).slots.toList = List.replicate len (defaultValue ty) := by
  show (Array.replicate z.toNatClampNeg (defaultValue ty)).toList = _
  rw [clamp_of hz, Array.toList_replicate]
theorem g_newarray (C : Cx W Z R own code mx ret nm wsx hx0) {aty : ArrayType} {ty : FieldType} {z : Int32} {len cap : Nat} (hd : decode code pc = .ok (.newarray aty, 2)) (hp : pc + 2 = pc') (hty : newarray.typeOf aty = ty) (w : (Jvm.Cond.arrayClass ty).before a0 Z = true) (hz : z.toInt = len) (hcap : len ≤ cap) (hb8 : cap * 8 ≤ 536870912) {k' n' : Nat} (hk : k + 1 = k') (hn : n + cap = n') (hc : k' ≤ R.cells) (hs : n' ≤ R.slots)
    (g : ∀ (h' : Heap) (a : Addr), a = h.size → Ext h h' → Ar Z h' a ty (List.replicate len (defaultValue ty)) → Pw W a → Go W Q h' k' n' pc' L (.ref a :: S)) : Go W Q h k n pc L (.int z :: S) := fun T hT => by
  obtain ⟨locs, X, e, N⟩ := hT
  subst hp hty hk hn
  obtain ⟨T', h', cA, X', e', E, A, st⟩ := newP X C.x C.z w e (g := mkF W.m pc L (.int z :: S)) rfl (C.b hd) rfl (nneg_of hz) (cap := cap) (by rw [clamp_of hz]; exact hcap) hb8 (by rw [C.r]; exact hc) (by rw [C.r]; exact hs)
  exact Out.st st (g h' h.size rfl E ⟨_, A, def_list _ _ hz⟩ (pw_size C X e) T' ⟨locs, X', e', N⟩)
theorem g_anewarray (C : Cx W Z R own code mx ret nm wsx hx0) {i : Nat} {Cl : String} {z : Int32} {len cap : Nat} (hd : decode code pc = .ok (.anewarray i, 3)) (hp : pc + 3 = pc') (w : (Jvm.Cond.classLink own i Cl).before a0 Z = true) (w2 : (Jvm.Cond.arrayOver (.object Cl)).before a0 Z = true) (hz : z.toInt = len) (hcap : len ≤ cap) (hb8 : cap * 8 ≤ 536870912) {k' n' : Nat} (hk : k + 1 = k') (hn : n + cap = n') (hc : k' ≤ R.cells) (hs : n' ≤ R.slots)
    (g : ∀ (h' : Heap) (a : Addr), a = h.size → Ext h h' → ArR Z h' a Cl (List.replicate len .null) → Pw W a → Go W Q h' k' n' pc' L (.ref a :: S)) : Go W Q h k n pc L (.int z :: S) := fun T hT => by
  obtain ⟨locs, X, e, N⟩ := hT
  subst hp hk hn
  obtain ⟨T', h', cA, X', e', E, A, O, st⟩ := newR X C.x C.z C.o w w2 e (g := mkF W.m pc L (.int z :: S)) rfl (C.b hd) rfl (nneg_of hz) (cap := cap) (by rw [clamp_of hz]; exact hcap) hb8 (by rw [C.r]; exact hc) (by rw [C.r]; exact hs)
  exact Out.st st (g h' h.size rfl E ⟨_, A, def_list _ _ hz, O⟩ (pw_size C X e) T' ⟨locs, X', e', N⟩)
theorem g_arraylength (C : Cx W Z R own code mx ret nm wsx hx0) {a : Addr} {ty : FieldType} {vs : List Value} {z : Int32} (hd : decode code pc = .ok (.arraylength, 1)) (hp : pc + 1 = pc') (A : Ar Z h a ty vs) (hz : vs.length.toInt32 = z) (g : Go W Q h k n pc' L (.int z :: S)) : Go W Q h k n pc L (.ref a :: S) := by
  subst hp hz
  obtain ⟨c, A, e⟩ := A
  rw [← e, Array.length_toList] at g
  exact g.st fun T locs X eT t kk => X.arraylength C.x (by rw [eT]; exact A.1) (State.isArrayOf_alike C.z.alike A.2.1) (g := mkF W.m pc L (.ref a :: S)) rfl rfl (C.b hd) t kk
theorem g_arraylengthR (C : Cx W Z R own code mx ret nm wsx hx0) {a : Addr} {Cl : String} {vs : List Value} {z : Int32} (hd : decode code pc = .ok (.arraylength, 1)) (hp : pc + 1 = pc') (A : ArR Z h a Cl vs) (hz : vs.length.toInt32 = z) (g : Go W Q h k n pc' L (.int z :: S)) : Go W Q h k n pc L (.ref a :: S) := by
  obtain ⟨c, A, e, -⟩ := A
  exact g_arraylength C hd hp ⟨c, A, e⟩ hz g

theorem g_iaload (C : Cx W Z R own code mx ret nm wsx hx0) {a : Addr} {vs : List Value} {v : Value} {j : Int32} {i : Nat} (hd : decode code pc = .ok (.iaload, 1)) (hp : pc + 1 = pc') (A : Ar Z h a .int vs) (hj : j.toInt = i) (hv : vs[i]? = some v) (g : Go W Q h k n pc' L (v :: S)) : Go W Q h k n pc L (.int j :: .ref a :: S) := by
  subst hp
  obtain ⟨c, A, e⟩ := A
  subst e
  have hi := (List.getElem?_eq_some_iff.mp hv).1
  exact g.st fun T locs X eT t kk => X.iaload C.x (by rw [eT]; exact A.1) (State.isArrayOf_alike C.z.alike A.2.1) A.2.2 (in_of hj hi) (by rw [clamp_of hj, ← Array.getElem?_toList]; exact hv) (g := mkF W.m pc L (.int j :: .ref a :: S)) rfl rfl (C.b hd) t kk
theorem g_laload (C : Cx W Z R own code mx ret nm wsx hx0) {a : Addr} {vs : List Value} {v : Value} {j : Int32} {i : Nat} (hd : decode code pc = .ok (.laload, 1)) (hp : pc + 1 = pc') (A : Ar Z h a .long vs) (hj : j.toInt = i) (hv : vs[i]? = some v) (g : Go W Q h k n pc' L (v :: S)) : Go W Q h k n pc L (.int j :: .ref a :: S) := by
  subst hp
  obtain ⟨c, A, e⟩ := A
  subst e
  have hi := (List.getElem?_eq_some_iff.mp hv).1
  exact g.st fun T locs X eT t kk => X.laload C.x (by rw [eT]; exact A.1) (State.isArrayOf_alike C.z.alike A.2.1) A.2.2 (in_of hj hi) (by rw [clamp_of hj, ← Array.getElem?_toList]; exact hv) (g := mkF W.m pc L (.int j :: .ref a :: S)) rfl rfl (C.b hd) t kk
theorem g_caload (C : Cx W Z R own code mx ret nm wsx hx0) {a : Addr} {vs : List Value} {v : Value} {j : Int32} {i : Nat} (hd : decode code pc = .ok (.caload, 1)) (hp : pc + 1 = pc') (A : Ar Z h a .char vs) (hj : j.toInt = i) (hv : vs[i]? = some v) (g : Go W Q h k n pc' L (v :: S)) : Go W Q h k n pc L (.int j :: .ref a :: S) := by
  subst hp
  obtain ⟨c, A, e⟩ := A
  subst e
  have hi := (List.getElem?_eq_some_iff.mp hv).1
  exact g.st fun T locs X eT t kk => X.caload C.x (by rw [eT]; exact A.1) (State.isArrayOf_alike C.z.alike A.2.1) A.2.2 (in_of hj hi) (by rw [clamp_of hj, ← Array.getElem?_toList]; exact hv) (g := mkF W.m pc L (.int j :: .ref a :: S)) rfl rfl (C.b hd) t kk
theorem g_baload (C : Cx W Z R own code mx ret nm wsx hx0) {a : Addr} {vs : List Value} {v : Value} {j : Int32} {i : Nat} (hd : decode code pc = .ok (.baload, 1)) (hp : pc + 1 = pc') (A : Ar Z h a .byte vs) (hj : j.toInt = i) (hv : vs[i]? = some v) (g : Go W Q h k n pc' L (v :: S)) : Go W Q h k n pc L (.int j :: .ref a :: S) := by
  subst hp
  obtain ⟨c, A, e⟩ := A
  subst e
  have hi := (List.getElem?_eq_some_iff.mp hv).1
  exact g.st fun T locs X eT t kk => X.baloadBytes C.x (by rw [eT]; exact A.1) (State.isArrayOf_alike C.z.alike A.2.1) A.2.2 (in_of hj hi) (by rw [clamp_of hj, ← Array.getElem?_toList]; exact hv) (g := mkF W.m pc L (.int j :: .ref a :: S)) rfl rfl (C.b hd) t kk
theorem g_zaload (C : Cx W Z R own code mx ret nm wsx hx0) {a : Addr} {vs : List Value} {v : Value} {j : Int32} {i : Nat} (hd : decode code pc = .ok (.baload, 1)) (hp : pc + 1 = pc') (A : Ar Z h a .boolean vs) (hj : j.toInt = i) (hv : vs[i]? = some v) (g : Go W Q h k n pc' L (v :: S)) : Go W Q h k n pc L (.int j :: .ref a :: S) := by
  subst hp
  obtain ⟨c, A, e⟩ := A
  subst e
  have hi := (List.getElem?_eq_some_iff.mp hv).1
  exact g.st fun T locs X eT t kk => X.baloadBooleans C.x (by rw [eT]; exact A.1) (State.isArrayOf_alike C.z.alike A.2.1) A.2.2 (in_of hj hi) (by rw [clamp_of hj, ← Array.getElem?_toList]; exact hv) (g := mkF W.m pc L (.int j :: .ref a :: S)) rfl rfl (C.b hd) t kk
theorem g_aaload (C : Cx W Z R own code mx ret nm wsx hx0) {a : Addr} {Cl : String} {vs : List Value} {v : Value} {j : Int32} {i : Nat} (hd : decode code pc = .ok (.aaload, 1)) (hp : pc + 1 = pc') (A : ArR Z h a Cl vs) (hj : j.toInt = i) (hv : vs[i]? = some v) (g : Go W Q h k n pc' L (v :: S)) : Go W Q h k n pc L (.int j :: .ref a :: S) := by
  subst hp
  obtain ⟨c, A, e, -⟩ := A
  subst e
  have hi := (List.getElem?_eq_some_iff.mp hv).1
  exact g.st fun T locs X eT t kk => X.aaload C.x (by rw [eT]; exact A.1) (State.isArrayOf_alike C.z.alike A.2.1) rfl A.2.2 (in_of hj hi) (by rw [clamp_of hj, ← Array.getElem?_toList]; exact hv) (g := mkF W.m pc L (.int j :: .ref a :: S)) rfl rfl (C.b hd) t kk
theorem g_iastore (C : Cx W Z R own code mx ret nm wsx hx0) {a : Addr} {vs vs' : List Value} {x : Int32} {j : Int32} {i : Nat} (hd : decode code pc = .ok (.iastore, 1)) (hp : pc + 1 = pc') (A : Ar Z h a .int vs) (hj : j.toInt = i) (hi : i < vs.length) (hset : vs.set i (.int x) = vs') (q : Pw W a) (g : ∀ h', Ar Z h' a .int vs' → Keep h h' [a] → Go W Q h' k n pc' L S) : Go W Q h k n pc L (.int x :: .int j :: .ref a :: S) := fun T hT => by
  obtain ⟨locs, X, e, N⟩ := hT
  subst hp hset
  obtain ⟨c, A, ec⟩ := A
  obtain ⟨T', h', X', e', Wx, st⟩ := stI X C.x C.z e A (in_of hj (ec ▸ hi)) (g := mkF W.m pc L (.int x :: .int j :: .ref a :: S)) rfl rfl (C.b hd)
  refine Out.st st (g h' (Ar.put A ec hj Wx) (Keep.of_wr Wx) T' ⟨_, X', e', fun y hy => ?_⟩)
  rcases List.mem_append.mp hy with z | z
  · exact N y z
  · cases List.mem_singleton.mp z; exact q
theorem g_lastore (C : Cx W Z R own code mx ret nm wsx hx0) {a : Addr} {vs vs' : List Value} {x : Int64} {j : Int32} {i : Nat} (hd : decode code pc = .ok (.lastore, 1)) (hp : pc + 1 = pc') (A : Ar Z h a .long vs) (hj : j.toInt = i) (hi : i < vs.length) (hset : vs.set i (.long x) = vs') (q : Pw W a) (g : ∀ h', Ar Z h' a .long vs' → Keep h h' [a] → Go W Q h' k n pc' L S) : Go W Q h k n pc L (.long x :: .int j :: .ref a :: S) := fun T hT => by
  obtain ⟨locs, X, e, N⟩ := hT
  subst hp hset
  obtain ⟨c, A, ec⟩ := A
  obtain ⟨T', h', X', e', Wx, st⟩ := stJ X C.x C.z e A (in_of hj (ec ▸ hi)) (g := mkF W.m pc L (.long x :: .int j :: .ref a :: S)) rfl rfl (C.b hd)
  refine Out.st st (g h' (Ar.put A ec hj Wx) (Keep.of_wr Wx) T' ⟨_, X', e', fun y hy => ?_⟩)
  rcases List.mem_append.mp hy with z | z
  · exact N y z
  · cases List.mem_singleton.mp z; exact q
theorem g_castore (C : Cx W Z R own code mx ret nm wsx hx0) {a : Addr} {vs vs' : List Value} {x : Int32} {j : Int32} {i : Nat} (hd : decode code pc = .ok (.castore, 1)) (hp : pc + 1 = pc') (A : Ar Z h a .char vs) (hj : j.toInt = i) (hi : i < vs.length) (hset : vs.set i (.int (nar .char x)) = vs') (q : Pw W a) (g : ∀ h', Ar Z h' a .char vs' → Keep h h' [a] → Go W Q h' k n pc' L S) : Go W Q h k n pc L (.int x :: .int j :: .ref a :: S) := fun T hT => by
  obtain ⟨locs, X, e, N⟩ := hT
  subst hp hset
  obtain ⟨c, A, ec⟩ := A
  obtain ⟨T', h', X', e', Wx, st⟩ := stC X C.x C.z e A (in_of hj (ec ▸ hi)) (g := mkF W.m pc L (.int x :: .int j :: .ref a :: S)) rfl rfl (C.b hd)
  refine Out.st st (g h' (Ar.put A ec hj Wx) (Keep.of_wr Wx) T' ⟨_, X', e', fun y hy => ?_⟩)
  rcases List.mem_append.mp hy with z | z
  · exact N y z
  · cases List.mem_singleton.mp z; exact q
theorem g_bastore (C : Cx W Z R own code mx ret nm wsx hx0) {a : Addr} {vs vs' : List Value} {x : Int32} {j : Int32} {i : Nat} (hd : decode code pc = .ok (.bastore, 1)) (hp : pc + 1 = pc') (A : Ar Z h a .byte vs) (hj : j.toInt = i) (hi : i < vs.length) (hset : vs.set i (.int (nar .byte x)) = vs') (q : Pw W a) (g : ∀ h', Ar Z h' a .byte vs' → Keep h h' [a] → Go W Q h' k n pc' L S) : Go W Q h k n pc L (.int x :: .int j :: .ref a :: S) := fun T hT => by
  obtain ⟨locs, X, e, N⟩ := hT
  subst hp hset
  obtain ⟨c, A, ec⟩ := A
  obtain ⟨T', h', X', e', Wx, st⟩ := stB X C.x C.z e A (in_of hj (ec ▸ hi)) (g := mkF W.m pc L (.int x :: .int j :: .ref a :: S)) rfl rfl (C.b hd)
  refine Out.st st (g h' (Ar.put A ec hj Wx) (Keep.of_wr Wx) T' ⟨_, X', e', fun y hy => ?_⟩)
  rcases List.mem_append.mp hy with z | z
  · exact N y z
  · cases List.mem_singleton.mp z; exact q
theorem g_zastore (C : Cx W Z R own code mx ret nm wsx hx0) {a : Addr} {vs vs' : List Value} {x : Int32} {j : Int32} {i : Nat} (hd : decode code pc = .ok (.bastore, 1)) (hp : pc + 1 = pc') (A : Ar Z h a .boolean vs) (hj : j.toInt = i) (hi : i < vs.length) (hset : vs.set i (.int (nar .boolean x)) = vs') (q : Pw W a) (g : ∀ h', Ar Z h' a .boolean vs' → Keep h h' [a] → Go W Q h' k n pc' L S) : Go W Q h k n pc L (.int x :: .int j :: .ref a :: S) := fun T hT => by
  obtain ⟨locs, X, e, N⟩ := hT
  subst hp hset
  obtain ⟨c, A, ec⟩ := A
  obtain ⟨T', h', X', e', Wx, st⟩ := stZ X C.x C.z e A (in_of hj (ec ▸ hi)) (g := mkF W.m pc L (.int x :: .int j :: .ref a :: S)) rfl rfl (C.b hd)
  refine Out.st st (g h' (Ar.put A ec hj Wx) (Keep.of_wr Wx) T' ⟨_, X', e', fun y hy => ?_⟩)
  rcases List.mem_append.mp hy with z | z
  · exact N y z
  · cases List.mem_singleton.mp z; exact q
theorem ArR.put {Z : State} {h h' : Heap} {a : Addr} {Cl : String} {vs : List Value} {v : Value} {c : Cell} (A : Arr Z h a c (.object Cl)) (e : c.slots.toList = vs) (O : Ovr Z c.cls Cl) {j : Int32} {i : Nat} (hj : j.toInt = i) (W : Wr h h' a j.toNatClampNeg v) : ArR Z h' a Cl (vs.set i v) := by
  refine ⟨_, A.same W, ?_, O⟩
  rw [clamp_of hj, set_toList, e]
theorem g_aastore (C : Cx W Z R own code mx ret nm wsx hx0) {a : Addr} {Cl : String} {vs vs' : List Value} {v : Value} {j : Int32} {i : Nat} (hd : decode code pc = .ok (.aastore, 1)) (hp : pc + 1 = pc') (A : ArR Z h a Cl vs) (hj : j.toInt = i) (hi : i < vs.length) (hset : vs.set i v = vs') (hv : v = .null ∨ ∃ y, v = .ref y ∧ Exa Z h y Cl) (q : Pw W a) (g : ∀ h', ArR Z h' a Cl vs' → Keep h h' [a] → Go W Q h' k n pc' L S) : Go W Q h k n pc L (v :: .int j :: .ref a :: S) := fun T hT => by
  obtain ⟨locs, X, e, N⟩ := hT
  subst hp hset
  obtain ⟨c, A, ec, O⟩ := A
  have F : Sto Z h a v := by
    rcases hv with rfl | ⟨y, rfl, E⟩
    · exact Or.inl rfl
    · exact Sto.of A O (Ins.self E)
  obtain ⟨T', h', X', e', Wx, st⟩ := stR X C.x C.z e A (in_of hj (ec ▸ hi)) rfl F (g := mkF W.m pc L (v :: .int j :: .ref a :: S)) rfl rfl (C.b hd)
  refine Out.st st (g h' (ArR.put A ec O hj Wx) (Keep.of_wr Wx) T' ⟨_, X', e', fun y hy => ?_⟩)
  rcases List.mem_append.mp hy with z | z
  · exact N y z
  · cases List.mem_singleton.mp z; exact q
/-! returns -/
theorem g_end (C : Cx W Z R own code mx ret nm wsx hx0) {v : Option Value} (hv : ret = none → v = none) (hc : k ≤ R.cells) (hs : n ≤ R.slots) (q : Q v h)
    (st : ∀ T locs, Sta0 W T locs k n → ∀ fs, (∀ (f : JFrame) (acts : List Action), f.method = W.m → f.locked = none → f.entered = [] → (doReturn W.e (T.setTop f) acts v).1 = T.setFrames fs) → Stp W (T.setTop (mkF W.m pc L S)) (T.setFrames fs)) : Go W Q h k n pc L S := fun T hT => by
  obtain ⟨locs, X, e, N⟩ := hT
  obtain ⟨fs, hr, hrun, hended, hW, hsame⟩ := X.leave (v := v) (fun z => hv (C.rt ▸ z)) C.lk
  refine ⟨_, _, st T locs X fs hr, hrun, hended, v, locs, rfl, ⟨?_, N⟩, ⟨_, rfl⟩, hW, hsame.mono (by rw [C.r]; exact hc) (by rw [C.r]; exact hs)⟩
  show Q v T.heap
  rw [e]; exact q
theorem g_return (C : Cx W Z R own code mx none nm wsx hx0) (hd : decode code pc = .ok (.return_, 1)) (hc : k ≤ R.cells) (hs : n ≤ R.slots) (q : Q none h) : Go W Q h k n pc L [] :=
  g_end C (fun _ => rfl) hc hs q fun T locs X fs hr => X.returnOut C.x C.rt (C.b hd) hr
theorem g_retN {ty0 : FieldType} (C : Cx W Z R own code mx (some ty0) nm wsx hx0) {z : Int32} (ht : ty0 = .boolean ∨ ty0 = .byte ∨ ty0 = .char ∨ ty0 = .short) (hd : decode code pc = .ok (.ireturn, 1)) (hc : k ≤ R.cells) (hs : n ≤ R.slots) (q : Q (some (.int (nar ty0 z))) h) : Go W Q h k n pc L (.int z :: S) :=
  g_end C nofun hc hs q fun T locs X fs hr => retN X C.x C.rt ht (C.b hd) hr
theorem g_retI (C : Cx W Z R own code mx (some .int) nm wsx hx0) {z : Int32} (hd : decode code pc = .ok (.ireturn, 1)) (hc : k ≤ R.cells) (hs : n ≤ R.slots) (q : Q (some (.int z)) h) : Go W Q h k n pc L (.int z :: S) :=
  g_end C nofun hc hs q fun T locs X fs hr => retOut X C.x C.rt rfl (Or.inl ⟨rfl, Or.inl rfl, z, rfl⟩) (C.b hd) hr
theorem g_retL (C : Cx W Z R own code mx (some .long) nm wsx hx0) {z : Int64} (hd : decode code pc = .ok (.lreturn, 1)) (hc : k ≤ R.cells) (hs : n ≤ R.slots) (q : Q (some (.long z)) h) : Go W Q h k n pc L (.long z :: S) :=
  g_end C nofun hc hs q fun T locs X fs hr => retOut X C.x C.rt rfl (Or.inr (Or.inl ⟨rfl, rfl, z, rfl⟩)) (C.b hd) hr
theorem g_retA {ty0 : FieldType} (C : Cx W Z R own code mx (some ty0) nm wsx hx0) {v : Value} (ht : ty0.isReference = true) (hn : narrow ty0 v = v) (hv : v.isRef = true) (hd : decode code pc = .ok (.areturn, 1)) (hc : k ≤ R.cells) (hs : n ≤ R.slots) (q : Q (some v) h) : Go W Q h k n pc L (v :: S) :=
  g_end C nofun hc hs q fun T locs X fs hr => retOut X C.x C.rt hn (Or.inr (Or.inr (Or.inr (Or.inr ⟨rfl, ht, hv⟩)))) (C.b hd) hr
/-! calls -/
theorem g_initO (C : Cx W Z R own code mx ret nm wsx hx0) {i : Nat} {a : Addr} (hd : decode code pc = .ok (.invokespecial i, 3)) (hp : pc + 3 = pc') (w1 : (Jvm.Cond.methodLink own i Lib.objectInit).before a0 Z = true) (w2 : (Jvm.Cond.instanceMethod Lib.objectInit).before a0 Z = true) (w3 : (Jvm.Cond.code Lib.objectInit Jvm.Pilot.@@N@@.object_method_1_code 1 none).before a0 Z = true) (hL : L.size = mx) (hf : 1 ≤ R.frames) (hl : (S.map fun v => v.category).sum + 12 ≤ R.locals) (g : Go W Q h k n pc' L S) : Go W Q h k n pc L (.ref a :: S) := fun T hT => by
  obtain ⟨locs, X, e, N⟩ := hT
  subst hp
  obtain ⟨T', X', e', st⟩ := initO X C.x C.z C.o w1 w2 w3 e (g := mkF W.m pc L (.ref a :: S)) rfl (by rw [C.ml]; exact hL) rfl (C.b hd) (by rw [C.r]; exact hf) (W := (S.map fun v => v.category).sum) (by show 2 * 0 + _ ≤ _; omega) (by rw [C.r]; exact hl)
  exact Out.st st (g T' ⟨locs, X', e', N⟩)
theorem post_call {T T' : State} {locs L' : List Loc} {k' n' : Nat} {ws : List Addr} (X : Sta0 W T locs k n) (e : T.heap = h) (N : ∀ y ∈ locs, Pw W y.base) (hws : ∀ a ∈ ws, Pw W a) (hL : ∀ y ∈ L', y.base ∈ ws ∨ h.size ≤ y.base) : ∀ y ∈ locs ++ L', Pw W y.base := fun y hy => by
  rcases List.mem_append.mp hy with z | z
  · exact N y z
  · rcases hL y z with q | q
    · exact hws _ q
    · have r : W.s.heap.size ≤ T.heap.size := X.same.2.1
      rw [e] at r
      exact Or.inr (Nat.le_trans r q)
/-- the contract, with what it keeps -/
theorem Con.keeps {l : Launch} {w0 : List Jvm.Cond} {y : MethodName} {bytes : ByteArray} {ret' : Option FieldType} {rm : Room} {as : Array Value} {ws : List Addr} {Q' : Option Value → Heap → Prop} {mx' : Nat} (M : Con l Z w0 y bytes mx' ret' rm as h ws Q') :
    MetFree l y (head1 (Jvm.Cond.code y bytes mx' ret' :: w0) rm) (fun a U => a = as ∧ Z.Warmed39 U.vm ∧ U.heap = h) (fun _ _ _ _ _ => True)
      (fun _ U o U' => ∃ v L, o = .returned v ∧ (Q' v U'.heap ∧ (∀ y ∈ L, y.base ∈ ws ∨ h.size ≤ y.base) ∧ Keep h U'.heap ws) ∧ FrameEnd U o U' L rm.cells rm.slots) := by
  intro p e ha hc hk s m args below hf happ hP hK
  obtain ⟨nn, o, h1, h2, h3, v, L, rfl, ⟨hq, hL⟩, hF⟩ := M p e ha hc hk s m args below hf happ hP hK
  refine ⟨nn, _, h1, h2, h3, v, L, rfl, ⟨hq, hL, ?_⟩, hF⟩
  obtain ⟨rfl, -, rfl⟩ := hP
  have K := keep_of_same hF.2.2 hL
  exact K
theorem g_static (C : Cx W Z R own code mx ret nm wsx hx0) {i : Nat} {y : MethodName} {bytes : ByteArray} {mx' : Nat} {ret' : Option FieldType} {rm : Room} {as : List Value} {ws : List Addr} {Q' : Option Value → Heap → Prop} {S0 : List Value} (hd : decode code pc = .ok (.invokestatic i, 3)) (hp : pc + 3 = pc')
    (w1 : (Jvm.Cond.methodLink own i y).before a0 Z = true) (w2 : (Jvm.Cond.static y).before a0 Z = true) (w3 : (Jvm.Cond.initialized y.cls).before a0 Z = true) (w4 : (Jvm.Cond.code y bytes mx' ret').before a0 Z = true) (hy : y.cls ≠ "java/lang/invoke/MethodHandle" ∧ y.cls ≠ "java/lang/invoke/VarHandle")
    (hlen : ∀ sig, parseMethodDescriptor y.desc = some sig → as.length = sig.parameters.length) (M : Con W.l Z [] y bytes mx' ret' rm as.toArray h ws Q') (hS : S0 = as.reverse ++ S) (hL : L.size = mx) (hf : rm.frames + 1 ≤ R.frames) (hl : (S.map fun v => v.category).sum + (mx' + 11) + rm.locals ≤ R.locals) {k' n' : Nat} (hk : k + rm.cells = k') (hn : n + rm.slots = n') (hc : k' ≤ R.cells) (hs : n' ≤ R.slots) (hws : ∀ a ∈ ws, Pw W a)
    (g : ∀ v h', Q' v h' → Keep h h' ws → Go W Q h' k' n' pc' L (v.toList ++ S)) : Go W Q h k n pc L S0 := fun T hT => by
  obtain ⟨locs, X, e, N⟩ := hT
  subst hp hS hk hn
  obtain ⟨v, _, ⟨T', L1, k1, n1⟩, -, X', ⟨L2, ⟨hQ, hL2, hK⟩, l1, y1, z1⟩, st⟩ := Jvm.LawKit.callS X C.x (y := y) C.o (mvT C.z w1) (mvT C.z w2) (mvT C.z w3) (mvT C.z w4) hy (backOf (R := W.R) (W := (S.map fun v => v.category).sum) (Q := fun v h' L => Q' v h' ∧ (∀ y ∈ L, y.base ∈ ws ∨ h.size ≤ y.base) ∧ Keep h h' ws) M.keeps C.z w4 w3 (by rw [C.r]; exact hf) (by rw [C.r]; exact hl)) (g := mkF W.m pc L (as.reverse ++ S)) rfl (by rw [C.ml]; exact hL) (argsL := as) (rest := S) hlen rfl (by show 2 * 0 + _ ≤ _; omega) (C.b hd) (fun _ _ => ⟨rfl, e, by rw [C.r]; exact hc, by rw [C.r]; exact hs⟩)
  dsimp only [Pt.U, Pt.locs, Pt.cells, Pt.slots] at X' l1 y1 z1 st hQ hK
  subst l1 y1 z1
  exact Out.st st (g v T'.heap hQ hK T' ⟨_, X', rfl, post_call (T' := T') (k' := 0) (n' := 0) X e N hws hL2⟩)
theorem g_special (C : Cx W Z R own code mx ret nm wsx hx0) {i : Nat} {y : MethodName} {bytes : ByteArray} {mx' : Nat} {rm : Room} {as : List Value} {ws : List Addr} {Q' : Option Value → Heap → Prop} {S0 : List Value} {a : Addr} (hd : decode code pc = .ok (.invokespecial i, 3)) (hp : pc + 3 = pc') (hy1 : y.name = "<init>")
    (w1 : (Jvm.Cond.methodLink own i y).before a0 Z = true) (w2 : (Jvm.Cond.instanceMethod y).before a0 Z = true) (w3 : (Jvm.Cond.initialized y.cls).before a0 Z = true) (w4 : (Jvm.Cond.code y bytes mx' none).before a0 Z = true) (hy : y.cls ≠ "java/lang/invoke/MethodHandle" ∧ y.cls ≠ "java/lang/invoke/VarHandle")
    (hlen : ∀ sig, parseMethodDescriptor y.desc = some sig → as.length = sig.parameters.length) (M : Con W.l Z [] y bytes mx' none rm (.ref a :: as).toArray h ws Q') (hS : S0 = as.reverse ++ .ref a :: S) (hL : L.size = mx) (hf : rm.frames + 1 ≤ R.frames) (hl : (S.map fun v => v.category).sum + (mx' + 11) + rm.locals ≤ R.locals) {k' n' : Nat} (hk : k + rm.cells = k') (hn : n + rm.slots = n') (hc : k' ≤ R.cells) (hs : n' ≤ R.slots) (hws : ∀ a ∈ ws, Pw W a)
    (g : ∀ v h', Q' v h' → Keep h h' ws → Go W Q h' k' n' pc' L (v.toList ++ S)) : Go W Q h k n pc L S0 := fun T hT => by
  obtain ⟨locs, X, e, N⟩ := hT
  subst hp hS hk hn
  obtain ⟨v, _, ⟨T', L1, k1, n1⟩, -, X', ⟨L2, ⟨hQ, hL2, hK⟩, l1, y1, z1⟩, st⟩ := X.specialBack C.x (y := y) hy1 C.o (mvT C.z w1) (mvT C.z w2) (mvT C.z w4) hy (backOf (R := W.R) (W := (S.map fun v => v.category).sum) (Q := fun v h' L => Q' v h' ∧ (∀ y ∈ L, y.base ∈ ws ∨ h.size ≤ y.base) ∧ Keep h h' ws) M.keeps C.z w4 w3 (by rw [C.r]; exact hf) (by rw [C.r]; exact hl)) (g := mkF W.m pc L (as.reverse ++ .ref a :: S)) rfl (by rw [C.ml]; exact hL) (Steps.refl _) (a := a) (argsL := as) (rest := S) hlen rfl (by show 2 * 0 + _ ≤ _; omega) (C.b hd) (fun _ _ => ⟨rfl, e, by rw [C.r]; exact hc, by rw [C.r]; exact hs⟩)
  dsimp only [Pt.U, Pt.locs, Pt.cells, Pt.slots] at X' l1 y1 z1 st hQ hK
  subst l1 y1 z1
  exact Out.st (fun t z => st.trans z) (g v T'.heap hQ hK T' ⟨_, X', rfl, post_call (T' := T') (k' := 0) (n' := 0) X e N hws hL2⟩)
theorem g_virtual (C : Cx W Z R own code mx ret nm wsx hx0) {i : Nat} {y : MethodName} {bytes : ByteArray} {mx' : Nat} {ret' : Option FieldType} {rm : Room} {as : List Value} {ws : List Addr} {Q' : Option Value → Heap → Prop} {S0 : List Value} {a : Addr} {Cl : String} (hd : decode code pc = .ok (.invokevirtual i, 3)) (hp : pc + 3 = pc')
    (w1 : (Jvm.Cond.methodLink own i y).before a0 Z = true) (w2 : (Jvm.Cond.instanceMethod y).before a0 Z = true) (w3 : (Jvm.Cond.initialized y.cls).before a0 Z = true) (w4 : (Jvm.Cond.code y bytes mx' ret').before a0 Z = true) (w5 : (Jvm.Cond.declares y).before a0 Z = true) (w6 : (Jvm.Cond.selects Cl y y).before a0 Z = true) (hy : y.cls ≠ "java/lang/invoke/MethodHandle" ∧ y.cls ≠ "java/lang/invoke/VarHandle") (hE : Exa Z h a Cl)
    (hlen : ∀ sig, parseMethodDescriptor y.desc = some sig → as.length = sig.parameters.length) (M : Con W.l Z [] y bytes mx' ret' rm (.ref a :: as).toArray h ws Q') (hS : S0 = as.reverse ++ .ref a :: S) (hL : L.size = mx) (hf : rm.frames + 1 ≤ R.frames) (hl : (S.map fun v => v.category).sum + (mx' + 11) + rm.locals ≤ R.locals) {k' n' : Nat} (hk : k + rm.cells = k') (hn : n + rm.slots = n') (hc : k' ≤ R.cells) (hs : n' ≤ R.slots) (hws : ∀ a ∈ ws, Pw W a)
    (g : ∀ v h', Q' v h' → Keep h h' ws → Go W Q h' k' n' pc' L (v.toList ++ S)) : Go W Q h k n pc L S0 := fun T hT => by
  obtain ⟨locs, X, e, N⟩ := hT
  subst hp hS hk hn
  obtain ⟨cq, kq, qa, qb, qc⟩ := isOf C.z e hE
  obtain ⟨v, _, ⟨T', L1, k1, n1⟩, -, X', ⟨L2, ⟨hQ, hL2, hK⟩, l1, y1, z1⟩, st⟩ := X.virtualBack C.x (y := y) (z := y) C.o (mvT C.z w1) (mvT C.z w5) (notFace_of_selects (args := #[]) (mvT C.z w6)) (mvT C.z w6) (mvT C.z w2) hy (backOf (R := W.R) (W := (S.map fun v => v.category).sum) (Q := fun v h' L => Q' v h' ∧ (∀ y ∈ L, y.base ∈ ws ∨ h.size ≤ y.base) ∧ Keep h h' ws) M.keeps C.z w4 w3 (by rw [C.r]; exact hf) (by rw [C.r]; exact hl)) qa qc (g := mkF W.m pc L (as.reverse ++ .ref a :: S)) rfl (by rw [C.ml]; exact hL) (Steps.refl _) (argsL := as) (rest := S) hlen rfl (by show 2 * 0 + _ ≤ _; omega) (C.b hd) (fun _ _ => ⟨rfl, e, by rw [C.r]; exact hc, by rw [C.r]; exact hs⟩)
  dsimp only [Pt.U, Pt.locs, Pt.cells, Pt.slots] at X' l1 y1 z1 st hQ hK
  subst l1 y1 z1
  exact Out.st (fun t z => st.trans z) (g v T'.heap hQ hK T' ⟨_, X', rfl, post_call (T' := T') (k' := 0) (n' := 0) X e N hws hL2⟩)
/-- a private method -/
theorem g_private (C : Cx W Z R own code mx ret nm wsx hx0) {i : Nat} {y : MethodName} {bytes : ByteArray} {mx' : Nat} {ret' : Option FieldType} {rm : Room} {as : List Value} {ws : List Addr} {Q' : Option Value → Heap → Prop} {S0 : List Value} {a : Addr} {Cl : String} {nI : Nat} (hd : decode code pc = .ok (.invokevirtual i, 3)) (hp : pc + 3 = pc')
    (w1 : (Jvm.Cond.methodLink own i y).before a0 Z = true) (w2 : (Jvm.Cond.instanceMethod y).before a0 Z = true) (w3 : (Jvm.Cond.initialized y.cls).before a0 Z = true) (w4 : (Jvm.Cond.code y bytes mx' ret').before a0 Z = true) (w5 : (Jvm.Cond.privateMethod y).before a0 Z = true) (w6 : (Jvm.Cond.instantiable y.cls nI).before a0 Z = true) (hy : y.cls ≠ "java/lang/invoke/MethodHandle" ∧ y.cls ≠ "java/lang/invoke/VarHandle") (hE : Exa Z h a Cl)
    (hlen : ∀ sig, parseMethodDescriptor y.desc = some sig → as.length = sig.parameters.length) (M : Con W.l Z [] y bytes mx' ret' rm (.ref a :: as).toArray h ws Q') (hS : S0 = as.reverse ++ .ref a :: S) (hL : L.size = mx) (hf : rm.frames + 1 ≤ R.frames) (hl : (S.map fun v => v.category).sum + (mx' + 11) + rm.locals ≤ R.locals) {k' n' : Nat} (hk : k + rm.cells = k') (hn : n + rm.slots = n') (hc : k' ≤ R.cells) (hs : n' ≤ R.slots) (hws : ∀ a ∈ ws, Pw W a)
    (g : ∀ v h', Q' v h' → Keep h h' ws → Go W Q h' k' n' pc' L (v.toList ++ S)) : Go W Q h k n pc L S0 := fun T hT => by
  obtain ⟨locs, X, e, N⟩ := hT
  subst hp hS hk hn
  obtain ⟨cq, kq, qa, qb, cellq, qc1, qc2, qc3⟩ := isOf C.z e hE
  obtain ⟨cI, kI, i1, i2, -, i4, -⟩ := Cond.instantiable_spec (args := #[]) (idx := []) (mvT C.z w6)
  have hP := Cond.privateMethod_at (args := #[]) (mvT C.z w5)
  obtain ⟨v, _, ⟨T', L1, k1, n1⟩, -, X', ⟨L2, ⟨hQ, hL2, hK⟩, l1, y1, z1⟩, st⟩ := X.privateBack C.x (y := y) C.o (mvT C.z w1) (mvT C.z w2) (Stand.selects_self_of_private i1 i2 (Bool.or_eq_false_iff.mp i4).1 hP (mvT C.z w2) hy) hP (mvT C.z w4) hy (backOf (R := W.R) (W := (S.map fun v => v.category).sum) (Q := fun v h' L => Q' v h' ∧ (∀ y ∈ L, y.base ∈ ws ∨ h.size ≤ y.base) ∧ Keep h h' ws) M.keeps C.z w4 w3 (by rw [C.r]; exact hf) (by rw [C.r]; exact hl)) (g := mkF W.m pc L (as.reverse ++ .ref a :: S)) rfl (by rw [C.ml]; exact hL) (Steps.refl _) qc1 (fun q c => by rw [c] at qc3; cases qc3) (argsL := as) (rest := S) hlen rfl (by show 2 * 0 + _ ≤ _; omega) (C.b hd) (fun _ _ => ⟨rfl, e, by rw [C.r]; exact hc, by rw [C.r]; exact hs⟩)
  dsimp only [Pt.U, Pt.locs, Pt.cells, Pt.slots] at X' l1 y1 z1 st hQ hK
  subst l1 y1 z1
  exact Out.st (fun t z => st.trans z) (g v T'.heap hQ hK T' ⟨_, X', rfl, post_call (T' := T') (k' := 0) (n' := 0) X e N hws hL2⟩)
theorem g_staticP (C : Cx W Z R own code mx ret nm wsx hx0) {i : Nat} {y : MethodName} {bytes : ByteArray} {mx' : Nat} {ret' : Option FieldType} {rm : Room} {as : List Value} {r : Option Value} {S0 S1 : List Value} (hd : decode code pc = .ok (.invokestatic i, 3)) (hp : pc + 3 = pc')
    (w1 : (Jvm.Cond.methodLink own i y).before a0 Z = true) (w2 : (Jvm.Cond.static y).before a0 Z = true) (w3 : (Jvm.Cond.initialized y.cls).before a0 Z = true) (w4 : (Jvm.Cond.code y bytes mx' ret').before a0 Z = true) (hy : y.cls ≠ "java/lang/invoke/MethodHandle" ∧ y.cls ≠ "java/lang/invoke/VarHandle")
    (hlen : ∀ sig, parseMethodDescriptor y.desc = some sig → as.length = sig.parameters.length) (M : Con W.l Z [] y bytes mx' ret' rm as.toArray h [] (fun v h' => v = r ∧ h' = h)) (hS : S0 = as.reverse ++ S) (hL : L.size = mx) (hf : rm.frames + 1 ≤ R.frames) (hl : (S.map fun v => v.category).sum + (mx' + 11) + rm.locals ≤ R.locals) {k' n' : Nat} (hk : k + rm.cells = k') (hn : n + rm.slots = n') (hc : k' ≤ R.cells) (hs : n' ≤ R.slots) (hS1 : r.toList ++ S = S1)
    (g : Go W Q h k' n' pc' L S1) : Go W Q h k n pc L S0 :=
  g_static C hd hp w1 w2 w3 w4 hy hlen M hS hL hf hl hk hn hc hs all0 fun v h' q K => by
    obtain ⟨rfl, rfl⟩ := q
    rw [hS1]; exact g
theorem g_virtualP (C : Cx W Z R own code mx ret nm wsx hx0) {i : Nat} {y : MethodName} {bytes : ByteArray} {mx' : Nat} {ret' : Option FieldType} {rm : Room} {as : List Value} {r : Option Value} {S0 S1 : List Value} {a : Addr} {Cl : String} (hd : decode code pc = .ok (.invokevirtual i, 3)) (hp : pc + 3 = pc')
    (w1 : (Jvm.Cond.methodLink own i y).before a0 Z = true) (w2 : (Jvm.Cond.instanceMethod y).before a0 Z = true) (w3 : (Jvm.Cond.initialized y.cls).before a0 Z = true) (w4 : (Jvm.Cond.code y bytes mx' ret').before a0 Z = true) (w5 : (Jvm.Cond.declares y).before a0 Z = true) (w6 : (Jvm.Cond.selects Cl y y).before a0 Z = true) (hy : y.cls ≠ "java/lang/invoke/MethodHandle" ∧ y.cls ≠ "java/lang/invoke/VarHandle") (hE : Exa Z h a Cl)
    (hlen : ∀ sig, parseMethodDescriptor y.desc = some sig → as.length = sig.parameters.length) (M : Con W.l Z [] y bytes mx' ret' rm (.ref a :: as).toArray h [] (fun v h' => v = r ∧ h' = h)) (hS : S0 = as.reverse ++ .ref a :: S) (hL : L.size = mx) (hf : rm.frames + 1 ≤ R.frames) (hl : (S.map fun v => v.category).sum + (mx' + 11) + rm.locals ≤ R.locals) {k' n' : Nat} (hk : k + rm.cells = k') (hn : n + rm.slots = n') (hc : k' ≤ R.cells) (hs : n' ≤ R.slots) (hS1 : r.toList ++ S = S1)
    (g : Go W Q h k' n' pc' L S1) : Go W Q h k n pc L S0 :=
  g_virtual C hd hp w1 w2 w3 w4 w5 w6 hy hE hlen M hS hL hf hl hk hn hc hs all0 fun v h' q K => by
    obtain ⟨rfl, rfl⟩ := q
    rw [hS1]; exact g
theorem g_privateP (C : Cx W Z R own code mx ret nm wsx hx0) {i : Nat} {y : MethodName} {bytes : ByteArray} {mx' : Nat} {ret' : Option FieldType} {rm : Room} {as : List Value} {r : Option Value} {S0 S1 : List Value} {a : Addr} {Cl : String} {nI : Nat} (hd : decode code pc = .ok (.invokevirtual i, 3)) (hp : pc + 3 = pc')
    (w1 : (Jvm.Cond.methodLink own i y).before a0 Z = true) (w2 : (Jvm.Cond.instanceMethod y).before a0 Z = true) (w3 : (Jvm.Cond.initialized y.cls).before a0 Z = true) (w4 : (Jvm.Cond.code y bytes mx' ret').before a0 Z = true) (w5 : (Jvm.Cond.privateMethod y).before a0 Z = true) (w6 : (Jvm.Cond.instantiable y.cls nI).before a0 Z = true) (hy : y.cls ≠ "java/lang/invoke/MethodHandle" ∧ y.cls ≠ "java/lang/invoke/VarHandle") (hE : Exa Z h a Cl)
    (hlen : ∀ sig, parseMethodDescriptor y.desc = some sig → as.length = sig.parameters.length) (M : Con W.l Z [] y bytes mx' ret' rm (.ref a :: as).toArray h [] (fun v h' => v = r ∧ h' = h)) (hS : S0 = as.reverse ++ .ref a :: S) (hL : L.size = mx) (hf : rm.frames + 1 ≤ R.frames) (hl : (S.map fun v => v.category).sum + (mx' + 11) + rm.locals ≤ R.locals) {k' n' : Nat} (hk : k + rm.cells = k') (hn : n + rm.slots = n') (hc : k' ≤ R.cells) (hs : n' ≤ R.slots) (hS1 : r.toList ++ S = S1)
    (g : Go W Q h k' n' pc' L S1) : Go W Q h k n pc L S0 :=
  g_private C hd hp w1 w2 w3 w4 w5 w6 hy hE hlen M hS hL hf hl hk hn hc hs all0 fun v h' q K => by
    obtain ⟨rfl, rfl⟩ := q
    rw [hS1]; exact g
theorem g_nameI {x : Int32} (g : ∀ z : Int32, z = x → Go W Q h k n pc L (.int z :: S)) : Go W Q h k n pc L (.int x :: S) := g x rfl
theorem g_nameJ {x : Int64} (g : ∀ z : Int64, z = x → Go W Q h k n pc L (.long z :: S)) : Go W Q h k n pc L (.long x :: S) := g x rfl
/-! a body's contract out of its walk -/
theorem locals_of {as : List Value} {mx0 : Nat} {Ls : List Slot} (h : (as.flatMap fun v => if v.category = 2 then [.val v, .second] else [.val v]) ++ List.replicate (mx0 - (as.flatMap fun v => if v.category = 2 then [.val v, .second] else [Slot.val v]).length) .unset = Ls) : argsToLocals as.toArray mx0 = Ls.toArray := by
  have e : ∀ (l : List Value) (acc : Array Slot), (l.foldl (fun acc v => if v.category = 2 then (acc.push (.val v)).push .second else acc.push (.val v)) acc) = acc ++ (l.flatMap fun v => if v.category = 2 then [.val v, .second] else [Slot.val v]).toArray := by
    intro l
    induction l with
    | nil => intro acc; simp
    | cons v l ih =>
      intro acc
      rw [List.foldl_cons, ih, List.flatMap_cons]
      split <;> simp
  subst h
  simp only [argsToLocals, List.foldl_toArray', e]
  simp
theorem Con.of_go {l : Launch} {w0 : List Jvm.Cond} {y : MethodName} {bytes : ByteArray} {ret' : Option FieldType} {rm : Room} {as : Array Value} {ws : List Addr} {Q' : Option Value → Heap → Prop} {mx' : Nat} {L0 : Array Slot} (hpl : plainFor y = true) (hL : argsToLocals as mx' = L0)
    (body : ∀ (W : Wk) (Q : Option Value → Heap → Prop), Q = Q' → W.l = l → Cx W Z rm y.cls bytes mx' ret' y.name ws h → Go W Q h 0 0 0 L0 []) : Con l Z w0 y bytes mx' ret' rm as h ws Q' := by
  refine MetFree.of_bodySF hpl hisR ?_
  intro p e s m args below meth c s₁ Bd hml0 hP hK
  obtain ⟨rfl, hZ, rfl⟩ := hP
  subst hL
  have X0 : Stand p l e rm s m args below meth c s₁ [] 0 0 := Stand.of_body Bd
  have e0 : s₁.heap = s.heap := by rw [Bd.state]; rfl
  obtain ⟨s2, o, h1, h2, h3, v, L, h4, ⟨h5, h6⟩, h7⟩ := body (p, l, e, rm, s, m, args, below, meth, c, ws) _ rfl rfl ⟨Bd.exec, hZ, findClass_of_methodNamed Bd.named, Bd.bytes, hml0, Bd.returns, Bd.notSynchronized, (name_of_methodNamed Bd.named Bd.method).1, rfl, rfl, rfl⟩ s₁ ⟨[], X0, e0, fun _ q => nomatch q⟩
  exact ⟨s2, o, h1, h2, h3, v, L, h4, ⟨h5, h6⟩, h7⟩
end Steps0
end Jvm.OwnKit
namespace Jvm.Pilot.@@N@@
open Jvm Jvm.ClassFile Sem Op Lib Jvm.Free Jvm.Stand Jvm.LawKit Jvm.RoadKit Jvm.OwnKit Bundle Jvm.Pilot.@@N@@.Jvm.D
theorem pd_0 : parseMethodDescriptor "(II)V" = some ⟨[.int, .int], none⟩ := by decide +kernel
theorem pd_1 : parseMethodDescriptor "(II)Z" = some ⟨[.int, .int], some .boolean⟩ := by decide +kernel
theorem pd_2 : parseMethodDescriptor "([II)V" = some ⟨[(.array .int), .int], none⟩ := by decide +kernel
theorem pd_3 : parseMethodDescriptor "(I)V" = some ⟨[.int], none⟩ := by decide +kernel
theorem pd_4 : parseMethodDescriptor "(II)I" = some ⟨[.int, .int], some .int⟩ := by decide +kernel
theorem pd_5 : parseMethodDescriptor "(I)Z" = some ⟨[.int], some .boolean⟩ := by decide +kernel
theorem pd_6 : parseMethodDescriptor "()I" = some ⟨[], some .int⟩ := by decide +kernel
theorem d1_0 : decode prog_95_method_1_code 0 = .ok (.aload_n 0, 1) := by decide +kernel
theorem d1_1 : decode prog_95_method_1_code 1 = .ok (.invokespecial 1, 3) := by decide +kernel
theorem d1_4 : decode prog_95_method_1_code 4 = .ok (.aload_n 0, 1) := by decide +kernel
theorem d1_5 : decode prog_95_method_1_code 5 = .ok (.iload_n 1, 1) := by decide +kernel
theorem d1_6 : decode prog_95_method_1_code 6 = .ok (.newarray .int, 2) := by decide +kernel
theorem d1_8 : decode prog_95_method_1_code 8 = .ok (.putfield 7, 3) := by decide +kernel
theorem d1_11 : decode prog_95_method_1_code 11 = .ok (.aload_n 0, 1) := by decide +kernel
theorem d1_12 : decode prog_95_method_1_code 12 = .ok (.iload_n 1, 1) := by decide +kernel
theorem d1_13 : decode prog_95_method_1_code 13 = .ok (.newarray .int, 2) := by decide +kernel
theorem d1_15 : decode prog_95_method_1_code 15 = .ok (.putfield 13, 3) := by decide +kernel
theorem d1_18 : decode prog_95_method_1_code 18 = .ok (.aload_n 0, 1) := by decide +kernel
theorem d1_19 : decode prog_95_method_1_code 19 = .ok (.getfield 13, 3) := by decide +kernel
theorem d1_22 : decode prog_95_method_1_code 22 = .ok (.iconst (-1), 1) := by decide +kernel
theorem d1_23 : decode prog_95_method_1_code 23 = .ok (.invokestatic 16, 3) := by decide +kernel
theorem d1_26 : decode prog_95_method_1_code 26 = .ok (.aload_n 0, 1) := by decide +kernel
theorem d1_27 : decode prog_95_method_1_code 27 = .ok (.iload_n 1, 1) := by decide +kernel
theorem d1_28 : decode prog_95_method_1_code 28 = .ok (.newarray .int, 2) := by decide +kernel
theorem d1_30 : decode prog_95_method_1_code 30 = .ok (.putfield 22, 3) := by decide +kernel
theorem d1_33 : decode prog_95_method_1_code 33 = .ok (.return_, 1) := by decide +kernel
theorem d3_0 : decode jdk_65_method_103_code 0 = .ok (.iconst 0, 1) := by decide +kernel
theorem d3_1 : decode jdk_65_method_103_code 1 = .ok (.istore_n 2, 1) := by decide +kernel
theorem d3_2 : decode jdk_65_method_103_code 2 = .ok (.aload_n 0, 1) := by decide +kernel
theorem d3_3 : decode jdk_65_method_103_code 3 = .ok (.arraylength, 1) := by decide +kernel
theorem d3_4 : decode jdk_65_method_103_code 4 = .ok (.istore_n 3, 1) := by decide +kernel
theorem d3_5 : decode jdk_65_method_103_code 5 = .ok (.iload_n 2, 1) := by decide +kernel
theorem d3_6 : decode jdk_65_method_103_code 6 = .ok (.iload_n 3, 1) := by decide +kernel
theorem d3_7 : decode jdk_65_method_103_code 7 = .ok (.if_icmp .ge 13, 3) := by decide +kernel
theorem d3_10 : decode jdk_65_method_103_code 10 = .ok (.aload_n 0, 1) := by decide +kernel
theorem d3_11 : decode jdk_65_method_103_code 11 = .ok (.iload_n 2, 1) := by decide +kernel
theorem d3_12 : decode jdk_65_method_103_code 12 = .ok (.iload_n 1, 1) := by decide +kernel
theorem d3_13 : decode jdk_65_method_103_code 13 = .ok (.iastore, 1) := by decide +kernel
theorem d3_14 : decode jdk_65_method_103_code 14 = .ok (.iinc 2 1, 3) := by decide +kernel
theorem d3_17 : decode jdk_65_method_103_code 17 = .ok (.goto (-12), 3) := by decide +kernel
theorem d3_20 : decode jdk_65_method_103_code 20 = .ok (.return_, 1) := by decide +kernel
theorem d4_0 : decode jdk_29_method_69_code 0 = .ok (.iload_n 0, 1) := by decide +kernel
theorem d4_1 : decode jdk_29_method_69_code 1 = .ok (.iload_n 1, 1) := by decide +kernel
theorem d4_2 : decode jdk_29_method_69_code 2 = .ok (.if_icmp .gt 7, 3) := by decide +kernel
theorem d4_5 : decode jdk_29_method_69_code 5 = .ok (.iload_n 0, 1) := by decide +kernel
theorem d4_6 : decode jdk_29_method_69_code 6 = .ok (.goto 4, 3) := by decide +kernel
theorem d4_9 : decode jdk_29_method_69_code 9 = .ok (.iload_n 1, 1) := by decide +kernel
theorem d4_10 : decode jdk_29_method_69_code 10 = .ok (.ireturn, 1) := by decide +kernel
theorem d5_0 : decode prog_95_method_2_code 0 = .ok (.aload_n 0, 1) := by decide +kernel
theorem d5_1 : decode prog_95_method_2_code 1 = .ok (.getfield 13, 3) := by decide +kernel
theorem d5_4 : decode prog_95_method_2_code 4 = .ok (.iload_n 1, 1) := by decide +kernel
theorem d5_5 : decode prog_95_method_2_code 5 = .ok (.iaload, 1) := by decide +kernel
theorem d5_6 : decode prog_95_method_2_code 6 = .ok (.ifCond .lt 7, 3) := by decide +kernel
theorem d5_9 : decode prog_95_method_2_code 9 = .ok (.iconst 1, 1) := by decide +kernel
theorem d5_10 : decode prog_95_method_2_code 10 = .ok (.goto 4, 3) := by decide +kernel
theorem d5_13 : decode prog_95_method_2_code 13 = .ok (.iconst 0, 1) := by decide +kernel
theorem d5_14 : decode prog_95_method_2_code 14 = .ok (.ireturn, 1) := by decide +kernel
theorem d6_0 : decode prog_95_method_3_code 0 = .ok (.aload_n 0, 1) := by decide +kernel
theorem d6_1 : decode prog_95_method_3_code 1 = .ok (.getfield 22, 3) := by decide +kernel
theorem d6_4 : decode prog_95_method_3_code 4 = .ok (.iload_n 1, 1) := by decide +kernel
theorem d6_5 : decode prog_95_method_3_code 5 = .ok (.iload_n 2, 1) := by decide +kernel
theorem d6_6 : decode prog_95_method_3_code 6 = .ok (.iastore, 1) := by decide +kernel
theorem d6_7 : decode prog_95_method_3_code 7 = .ok (.aload_n 0, 1) := by decide +kernel
theorem d6_8 : decode prog_95_method_3_code 8 = .ok (.getfield 7, 3) := by decide +kernel
theorem d6_11 : decode prog_95_method_3_code 11 = .ok (.aload_n 0, 1) := by decide +kernel
theorem d6_12 : decode prog_95_method_3_code 12 = .ok (.getfield 25, 3) := by decide +kernel
theorem d6_15 : decode prog_95_method_3_code 15 = .ok (.iload_n 1, 1) := by decide +kernel
theorem d6_16 : decode prog_95_method_3_code 16 = .ok (.iastore, 1) := by decide +kernel
theorem d6_17 : decode prog_95_method_3_code 17 = .ok (.aload_n 0, 1) := by decide +kernel
theorem d6_18 : decode prog_95_method_3_code 18 = .ok (.getfield 13, 3) := by decide +kernel
theorem d6_21 : decode prog_95_method_3_code 21 = .ok (.iload_n 1, 1) := by decide +kernel
theorem d6_22 : decode prog_95_method_3_code 22 = .ok (.aload_n 0, 1) := by decide +kernel
theorem d6_23 : decode prog_95_method_3_code 23 = .ok (.getfield 25, 3) := by decide +kernel
theorem d6_26 : decode prog_95_method_3_code 26 = .ok (.iastore, 1) := by decide +kernel
theorem d6_27 : decode prog_95_method_3_code 27 = .ok (.aload_n 0, 1) := by decide +kernel
theorem d6_28 : decode prog_95_method_3_code 28 = .ok (.dup, 1) := by decide +kernel
theorem d6_29 : decode prog_95_method_3_code 29 = .ok (.getfield 25, 3) := by decide +kernel
theorem d6_32 : decode prog_95_method_3_code 32 = .ok (.iconst 1, 1) := by decide +kernel
theorem d6_33 : decode prog_95_method_3_code 33 = .ok (.iadd, 1) := by decide +kernel
theorem d6_34 : decode prog_95_method_3_code 34 = .ok (.putfield 25, 3) := by decide +kernel
theorem d6_37 : decode prog_95_method_3_code 37 = .ok (.aload_n 0, 1) := by decide +kernel
theorem d6_38 : decode prog_95_method_3_code 38 = .ok (.aload_n 0, 1) := by decide +kernel
theorem d6_39 : decode prog_95_method_3_code 39 = .ok (.getfield 25, 3) := by decide +kernel
theorem d6_42 : decode prog_95_method_3_code 42 = .ok (.iconst 1, 1) := by decide +kernel
theorem d6_43 : decode prog_95_method_3_code 43 = .ok (.isub, 1) := by decide +kernel
theorem d6_44 : decode prog_95_method_3_code 44 = .ok (.invokevirtual 29, 3) := by decide +kernel
theorem d6_47 : decode prog_95_method_3_code 47 = .ok (.return_, 1) := by decide +kernel
theorem d7_0 : decode prog_95_method_7_code 0 = .ok (.aload_n 0, 1) := by decide +kernel
theorem d7_1 : decode prog_95_method_7_code 1 = .ok (.getfield 7, 3) := by decide +kernel
theorem d7_4 : decode prog_95_method_7_code 4 = .ok (.iload_n 1, 1) := by decide +kernel
theorem d7_5 : decode prog_95_method_7_code 5 = .ok (.iaload, 1) := by decide +kernel
theorem d7_6 : decode prog_95_method_7_code 6 = .ok (.istore_n 2, 1) := by decide +kernel
theorem d7_7 : decode prog_95_method_7_code 7 = .ok (.iload_n 1, 1) := by decide +kernel
theorem d7_8 : decode prog_95_method_7_code 8 = .ok (.ifCond .le 42, 3) := by decide +kernel
theorem d7_11 : decode prog_95_method_7_code 11 = .ok (.iload_n 1, 1) := by decide +kernel
theorem d7_12 : decode prog_95_method_7_code 12 = .ok (.iconst 1, 1) := by decide +kernel
theorem d7_13 : decode prog_95_method_7_code 13 = .ok (.isub, 1) := by decide +kernel
theorem d7_14 : decode prog_95_method_7_code 14 = .ok (.iconst 2, 1) := by decide +kernel
theorem d7_15 : decode prog_95_method_7_code 15 = .ok (.idiv, 1) := by decide +kernel
theorem d7_16 : decode prog_95_method_7_code 16 = .ok (.istore_n 3, 1) := by decide +kernel
theorem d7_17 : decode prog_95_method_7_code 17 = .ok (.aload_n 0, 1) := by decide +kernel
theorem d7_18 : decode prog_95_method_7_code 18 = .ok (.iload_n 2, 1) := by decide +kernel
theorem d7_19 : decode prog_95_method_7_code 19 = .ok (.aload_n 0, 1) := by decide +kernel
theorem d7_20 : decode prog_95_method_7_code 20 = .ok (.getfield 7, 3) := by decide +kernel
theorem d7_23 : decode prog_95_method_7_code 23 = .ok (.iload_n 3, 1) := by decide +kernel
theorem d7_24 : decode prog_95_method_7_code 24 = .ok (.iaload, 1) := by decide +kernel
theorem d7_25 : decode prog_95_method_7_code 25 = .ok (.invokevirtual 40, 3) := by decide +kernel
theorem d7_28 : decode prog_95_method_7_code 28 = .ok (.ifCond .ne 6, 3) := by decide +kernel
theorem d7_31 : decode prog_95_method_7_code 31 = .ok (.goto 19, 3) := by decide +kernel
theorem d7_34 : decode prog_95_method_7_code 34 = .ok (.aload_n 0, 1) := by decide +kernel
theorem d7_35 : decode prog_95_method_7_code 35 = .ok (.aload_n 0, 1) := by decide +kernel
theorem d7_36 : decode prog_95_method_7_code 36 = .ok (.getfield 7, 3) := by decide +kernel
theorem d7_39 : decode prog_95_method_7_code 39 = .ok (.iload_n 3, 1) := by decide +kernel
theorem d7_40 : decode prog_95_method_7_code 40 = .ok (.iaload, 1) := by decide +kernel
theorem d7_41 : decode prog_95_method_7_code 41 = .ok (.iload_n 1, 1) := by decide +kernel
theorem d7_42 : decode prog_95_method_7_code 42 = .ok (.invokevirtual 36, 3) := by decide +kernel
theorem d7_45 : decode prog_95_method_7_code 45 = .ok (.iload_n 3, 1) := by decide +kernel
theorem d7_46 : decode prog_95_method_7_code 46 = .ok (.istore_n 1, 1) := by decide +kernel
theorem d7_47 : decode prog_95_method_7_code 47 = .ok (.goto (-40), 3) := by decide +kernel
theorem d7_50 : decode prog_95_method_7_code 50 = .ok (.aload_n 0, 1) := by decide +kernel
theorem d7_51 : decode prog_95_method_7_code 51 = .ok (.iload_n 2, 1) := by decide +kernel
theorem d7_52 : decode prog_95_method_7_code 52 = .ok (.iload_n 1, 1) := by decide +kernel
theorem d7_53 : decode prog_95_method_7_code 53 = .ok (.invokevirtual 36, 3) := by decide +kernel
theorem d7_56 : decode prog_95_method_7_code 56 = .ok (.return_, 1) := by decide +kernel
theorem d8_0 : decode prog_95_method_9_code 0 = .ok (.aload_n 0, 1) := by decide +kernel
theorem d8_1 : decode prog_95_method_9_code 1 = .ok (.getfield 7, 3) := by decide +kernel
theorem d8_4 : decode prog_95_method_9_code 4 = .ok (.iload_n 2, 1) := by decide +kernel
theorem d8_5 : decode prog_95_method_9_code 5 = .ok (.iload_n 1, 1) := by decide +kernel
theorem d8_6 : decode prog_95_method_9_code 6 = .ok (.iastore, 1) := by decide +kernel
theorem d8_7 : decode prog_95_method_9_code 7 = .ok (.aload_n 0, 1) := by decide +kernel
theorem d8_8 : decode prog_95_method_9_code 8 = .ok (.getfield 13, 3) := by decide +kernel
theorem d8_11 : decode prog_95_method_9_code 11 = .ok (.iload_n 1, 1) := by decide +kernel
theorem d8_12 : decode prog_95_method_9_code 12 = .ok (.iload_n 2, 1) := by decide +kernel
theorem d8_13 : decode prog_95_method_9_code 13 = .ok (.iastore, 1) := by decide +kernel
theorem d8_14 : decode prog_95_method_9_code 14 = .ok (.return_, 1) := by decide +kernel
theorem d9_0 : decode prog_95_method_10_code 0 = .ok (.aload_n 0, 1) := by decide +kernel
theorem d9_1 : decode prog_95_method_10_code 1 = .ok (.getfield 22, 3) := by decide +kernel
theorem d9_4 : decode prog_95_method_10_code 4 = .ok (.iload_n 1, 1) := by decide +kernel
theorem d9_5 : decode prog_95_method_10_code 5 = .ok (.iaload, 1) := by decide +kernel
theorem d9_6 : decode prog_95_method_10_code 6 = .ok (.aload_n 0, 1) := by decide +kernel
theorem d9_7 : decode prog_95_method_10_code 7 = .ok (.getfield 22, 3) := by decide +kernel
theorem d9_10 : decode prog_95_method_10_code 10 = .ok (.iload_n 2, 1) := by decide +kernel
theorem d9_11 : decode prog_95_method_10_code 11 = .ok (.iaload, 1) := by decide +kernel
theorem d9_12 : decode prog_95_method_10_code 12 = .ok (.if_icmp .lt 23, 3) := by decide +kernel
theorem d9_15 : decode prog_95_method_10_code 15 = .ok (.aload_n 0, 1) := by decide +kernel
theorem d9_16 : decode prog_95_method_10_code 16 = .ok (.getfield 22, 3) := by decide +kernel
theorem d9_19 : decode prog_95_method_10_code 19 = .ok (.iload_n 1, 1) := by decide +kernel
theorem d9_20 : decode prog_95_method_10_code 20 = .ok (.iaload, 1) := by decide +kernel
theorem d9_21 : decode prog_95_method_10_code 21 = .ok (.aload_n 0, 1) := by decide +kernel
theorem d9_22 : decode prog_95_method_10_code 22 = .ok (.getfield 22, 3) := by decide +kernel
theorem d9_25 : decode prog_95_method_10_code 25 = .ok (.iload_n 2, 1) := by decide +kernel
theorem d9_26 : decode prog_95_method_10_code 26 = .ok (.iaload, 1) := by decide +kernel
theorem d9_27 : decode prog_95_method_10_code 27 = .ok (.if_icmp .ne 12, 3) := by decide +kernel
theorem d9_30 : decode prog_95_method_10_code 30 = .ok (.iload_n 1, 1) := by decide +kernel
theorem d9_31 : decode prog_95_method_10_code 31 = .ok (.iload_n 2, 1) := by decide +kernel
theorem d9_32 : decode prog_95_method_10_code 32 = .ok (.if_icmp .ge 7, 3) := by decide +kernel
theorem d9_35 : decode prog_95_method_10_code 35 = .ok (.iconst 1, 1) := by decide +kernel
theorem d9_36 : decode prog_95_method_10_code 36 = .ok (.goto 4, 3) := by decide +kernel
theorem d9_39 : decode prog_95_method_10_code 39 = .ok (.iconst 0, 1) := by decide +kernel
theorem d9_40 : decode prog_95_method_10_code 40 = .ok (.ireturn, 1) := by decide +kernel
theorem d10_0 : decode prog_95_method_5_code 0 = .ok (.aload_n 0, 1) := by decide +kernel
theorem d10_1 : decode prog_95_method_5_code 1 = .ok (.getfield 7, 3) := by decide +kernel
theorem d10_4 : decode prog_95_method_5_code 4 = .ok (.iconst 0, 1) := by decide +kernel
theorem d10_5 : decode prog_95_method_5_code 5 = .ok (.iaload, 1) := by decide +kernel
theorem d10_6 : decode prog_95_method_5_code 6 = .ok (.istore_n 1, 1) := by decide +kernel
theorem d10_7 : decode prog_95_method_5_code 7 = .ok (.aload_n 0, 1) := by decide +kernel
theorem d10_8 : decode prog_95_method_5_code 8 = .ok (.getfield 13, 3) := by decide +kernel
theorem d10_11 : decode prog_95_method_5_code 11 = .ok (.iload_n 1, 1) := by decide +kernel
theorem d10_12 : decode prog_95_method_5_code 12 = .ok (.iconst (-1), 1) := by decide +kernel
theorem d10_13 : decode prog_95_method_5_code 13 = .ok (.iastore, 1) := by decide +kernel
theorem d10_14 : decode prog_95_method_5_code 14 = .ok (.aload_n 0, 1) := by decide +kernel
theorem d10_15 : decode prog_95_method_5_code 15 = .ok (.dup, 1) := by decide +kernel
theorem d10_16 : decode prog_95_method_5_code 16 = .ok (.getfield 25, 3) := by decide +kernel
theorem d10_19 : decode prog_95_method_5_code 19 = .ok (.iconst 1, 1) := by decide +kernel
theorem d10_20 : decode prog_95_method_5_code 20 = .ok (.isub, 1) := by decide +kernel
theorem d10_21 : decode prog_95_method_5_code 21 = .ok (.putfield 25, 3) := by decide +kernel
theorem d10_24 : decode prog_95_method_5_code 24 = .ok (.aload_n 0, 1) := by decide +kernel
theorem d10_25 : decode prog_95_method_5_code 25 = .ok (.getfield 25, 3) := by decide +kernel
theorem d10_28 : decode prog_95_method_5_code 28 = .ok (.ifCond .le 22, 3) := by decide +kernel
theorem d10_31 : decode prog_95_method_5_code 31 = .ok (.aload_n 0, 1) := by decide +kernel
theorem d10_32 : decode prog_95_method_5_code 32 = .ok (.aload_n 0, 1) := by decide +kernel
theorem d10_33 : decode prog_95_method_5_code 33 = .ok (.getfield 7, 3) := by decide +kernel
theorem d10_36 : decode prog_95_method_5_code 36 = .ok (.aload_n 0, 1) := by decide +kernel
theorem d10_37 : decode prog_95_method_5_code 37 = .ok (.getfield 25, 3) := by decide +kernel
theorem d10_40 : decode prog_95_method_5_code 40 = .ok (.iaload, 1) := by decide +kernel
theorem d10_41 : decode prog_95_method_5_code 41 = .ok (.iconst 0, 1) := by decide +kernel
theorem d10_42 : decode prog_95_method_5_code 42 = .ok (.invokevirtual 36, 3) := by decide +kernel
theorem d10_45 : decode prog_95_method_5_code 45 = .ok (.aload_n 0, 1) := by decide +kernel
theorem d10_46 : decode prog_95_method_5_code 46 = .ok (.iconst 0, 1) := by decide +kernel
theorem d10_47 : decode prog_95_method_5_code 47 = .ok (.invokevirtual 33, 3) := by decide +kernel
theorem d10_50 : decode prog_95_method_5_code 50 = .ok (.iload_n 1, 1) := by decide +kernel
theorem d10_51 : decode prog_95_method_5_code 51 = .ok (.ireturn, 1) := by decide +kernel
theorem d11_0 : decode prog_95_method_8_code 0 = .ok (.aload_n 0, 1) := by decide +kernel
theorem d11_1 : decode prog_95_method_8_code 1 = .ok (.getfield 7, 3) := by decide +kernel
theorem d11_4 : decode prog_95_method_8_code 4 = .ok (.iload_n 1, 1) := by decide +kernel
theorem d11_5 : decode prog_95_method_8_code 5 = .ok (.iaload, 1) := by decide +kernel
theorem d11_6 : decode prog_95_method_8_code 6 = .ok (.istore_n 2, 1) := by decide +kernel
theorem d11_7 : decode prog_95_method_8_code 7 = .ok (.iconst 2, 1) := by decide +kernel
theorem d11_8 : decode prog_95_method_8_code 8 = .ok (.iload_n 1, 1) := by decide +kernel
theorem d11_9 : decode prog_95_method_8_code 9 = .ok (.imul, 1) := by decide +kernel
theorem d11_10 : decode prog_95_method_8_code 10 = .ok (.iconst 1, 1) := by decide +kernel
theorem d11_11 : decode prog_95_method_8_code 11 = .ok (.iadd, 1) := by decide +kernel
theorem d11_12 : decode prog_95_method_8_code 12 = .ok (.aload_n 0, 1) := by decide +kernel
theorem d11_13 : decode prog_95_method_8_code 13 = .ok (.getfield 25, 3) := by decide +kernel
theorem d11_16 : decode prog_95_method_8_code 16 = .ok (.if_icmp .ge 76, 3) := by decide +kernel
theorem d11_19 : decode prog_95_method_8_code 19 = .ok (.iconst 2, 1) := by decide +kernel
theorem d11_20 : decode prog_95_method_8_code 20 = .ok (.iload_n 1, 1) := by decide +kernel
theorem d11_21 : decode prog_95_method_8_code 21 = .ok (.imul, 1) := by decide +kernel
theorem d11_22 : decode prog_95_method_8_code 22 = .ok (.iconst 1, 1) := by decide +kernel
theorem d11_23 : decode prog_95_method_8_code 23 = .ok (.iadd, 1) := by decide +kernel
theorem d11_24 : decode prog_95_method_8_code 24 = .ok (.istore_n 3, 1) := by decide +kernel
theorem d11_25 : decode prog_95_method_8_code 25 = .ok (.iload_n 3, 1) := by decide +kernel
theorem d11_26 : decode prog_95_method_8_code 26 = .ok (.iconst 1, 1) := by decide +kernel
theorem d11_27 : decode prog_95_method_8_code 27 = .ok (.iadd, 1) := by decide +kernel
theorem d11_28 : decode prog_95_method_8_code 28 = .ok (.aload_n 0, 1) := by decide +kernel
theorem d11_29 : decode prog_95_method_8_code 29 = .ok (.getfield 25, 3) := by decide +kernel
theorem d11_32 : decode prog_95_method_8_code 32 = .ok (.if_icmp .ge 27, 3) := by decide +kernel
theorem d11_35 : decode prog_95_method_8_code 35 = .ok (.aload_n 0, 1) := by decide +kernel
theorem d11_36 : decode prog_95_method_8_code 36 = .ok (.aload_n 0, 1) := by decide +kernel
theorem d11_37 : decode prog_95_method_8_code 37 = .ok (.getfield 7, 3) := by decide +kernel
theorem d11_40 : decode prog_95_method_8_code 40 = .ok (.iload_n 3, 1) := by decide +kernel
theorem d11_41 : decode prog_95_method_8_code 41 = .ok (.iconst 1, 1) := by decide +kernel
theorem d11_42 : decode prog_95_method_8_code 42 = .ok (.iadd, 1) := by decide +kernel
theorem d11_43 : decode prog_95_method_8_code 43 = .ok (.iaload, 1) := by decide +kernel
theorem d11_44 : decode prog_95_method_8_code 44 = .ok (.aload_n 0, 1) := by decide +kernel
theorem d11_45 : decode prog_95_method_8_code 45 = .ok (.getfield 7, 3) := by decide +kernel
theorem d11_48 : decode prog_95_method_8_code 48 = .ok (.iload_n 3, 1) := by decide +kernel
theorem d11_49 : decode prog_95_method_8_code 49 = .ok (.iaload, 1) := by decide +kernel
theorem d11_50 : decode prog_95_method_8_code 50 = .ok (.invokevirtual 40, 3) := by decide +kernel
theorem d11_53 : decode prog_95_method_8_code 53 = .ok (.ifCond .eq 6, 3) := by decide +kernel
theorem d11_56 : decode prog_95_method_8_code 56 = .ok (.iinc 3 1, 3) := by decide +kernel
theorem d11_59 : decode prog_95_method_8_code 59 = .ok (.aload_n 0, 1) := by decide +kernel
theorem d11_60 : decode prog_95_method_8_code 60 = .ok (.aload_n 0, 1) := by decide +kernel
theorem d11_61 : decode prog_95_method_8_code 61 = .ok (.getfield 7, 3) := by decide +kernel
theorem d11_64 : decode prog_95_method_8_code 64 = .ok (.iload_n 3, 1) := by decide +kernel
theorem d11_65 : decode prog_95_method_8_code 65 = .ok (.iaload, 1) := by decide +kernel
theorem d11_66 : decode prog_95_method_8_code 66 = .ok (.iload_n 2, 1) := by decide +kernel
theorem d11_67 : decode prog_95_method_8_code 67 = .ok (.invokevirtual 40, 3) := by decide +kernel
theorem d11_70 : decode prog_95_method_8_code 70 = .ok (.ifCond .ne 6, 3) := by decide +kernel
theorem d11_73 : decode prog_95_method_8_code 73 = .ok (.goto 19, 3) := by decide +kernel
theorem d11_76 : decode prog_95_method_8_code 76 = .ok (.aload_n 0, 1) := by decide +kernel
theorem d11_77 : decode prog_95_method_8_code 77 = .ok (.aload_n 0, 1) := by decide +kernel
theorem d11_78 : decode prog_95_method_8_code 78 = .ok (.getfield 7, 3) := by decide +kernel
theorem d11_81 : decode prog_95_method_8_code 81 = .ok (.iload_n 3, 1) := by decide +kernel
theorem d11_82 : decode prog_95_method_8_code 82 = .ok (.iaload, 1) := by decide +kernel
theorem d11_83 : decode prog_95_method_8_code 83 = .ok (.iload_n 1, 1) := by decide +kernel
theorem d11_84 : decode prog_95_method_8_code 84 = .ok (.invokevirtual 36, 3) := by decide +kernel
theorem d11_87 : decode prog_95_method_8_code 87 = .ok (.iload_n 3, 1) := by decide +kernel
theorem d11_88 : decode prog_95_method_8_code 88 = .ok (.istore_n 1, 1) := by decide +kernel
theorem d11_89 : decode prog_95_method_8_code 89 = .ok (.goto (-82), 3) := by decide +kernel
theorem d11_92 : decode prog_95_method_8_code 92 = .ok (.aload_n 0, 1) := by decide +kernel
theorem d11_93 : decode prog_95_method_8_code 93 = .ok (.iload_n 2, 1) := by decide +kernel
theorem d11_94 : decode prog_95_method_8_code 94 = .ok (.iload_n 1, 1) := by decide +kernel
theorem d11_95 : decode prog_95_method_8_code 95 = .ok (.invokevirtual 36, 3) := by decide +kernel
theorem d11_98 : decode prog_95_method_8_code 98 = .ok (.return_, 1) := by decide +kernel
set_option maxHeartbeats 4000000 in
theorem dis_0 (Z : State) (a0 : Array Value) (hw : ∀ d ∈ tables_1, d.before a0 Z = true) : ([RoadKit.slotOf Z "com/example/triplecore/triplecore/query/PatternQueue" "heap" "[I", RoadKit.slotOf Z "com/example/triplecore/triplecore/query/PatternQueue" "places" "[I", RoadKit.slotOf Z "com/example/triplecore/triplecore/query/PatternQueue" "counts" "[I", RoadKit.slotOf Z "com/example/triplecore/triplecore/query/PatternQueue" "size" "I"] : List Nat).Nodup := by
  simp only [List.nodup_cons, List.mem_cons, List.not_mem_nil, or_false, not_or, not_false_eq_true, List.nodup_nil, and_true]
  exact ⟨⟨RoadKit.slot_ne (Or.inr (hw _ (List.mem_of_getElem? (i := 11) rfl))) (Or.inr (hw _ (List.mem_of_getElem? (i := 13) rfl))) (by decide) (t := (.array .int)) (t' := (.array .int)) (by decide) (by decide), RoadKit.slot_ne (Or.inr (hw _ (List.mem_of_getElem? (i := 11) rfl))) (Or.inr (hw _ (List.mem_of_getElem? (i := 19) rfl))) (by decide) (t := (.array .int)) (t' := (.array .int)) (by decide) (by decide), RoadKit.slot_ne (Or.inr (hw _ (List.mem_of_getElem? (i := 11) rfl))) (Or.inl (hw _ (List.mem_of_getElem? (i := 35) rfl))) (by decide) (t := (.array .int)) (t' := .int) (by decide) (by decide)⟩, ⟨RoadKit.slot_ne (Or.inr (hw _ (List.mem_of_getElem? (i := 13) rfl))) (Or.inr (hw _ (List.mem_of_getElem? (i := 19) rfl))) (by decide) (t := (.array .int)) (t' := (.array .int)) (by decide) (by decide), RoadKit.slot_ne (Or.inr (hw _ (List.mem_of_getElem? (i := 13) rfl))) (Or.inl (hw _ (List.mem_of_getElem? (i := 35) rfl))) (by decide) (t := (.array .int)) (t' := .int) (by decide) (by decide)⟩, RoadKit.slot_ne (Or.inr (hw _ (List.mem_of_getElem? (i := 19) rfl))) (Or.inl (hw _ (List.mem_of_getElem? (i := 35) rfl))) (by decide) (t := (.array .int)) (t' := .int) (by decide) (by decide)⟩
theorem ll3 (x : List Value) {i : Nat} {v : Value} : (x.set i v).length = x.length := List.length_set
def G_e (x0 x1 x2 l0 l1 l2 : Int32) : Prop := (l0 = -1 ∧ l1 = -1 ∧ l2 = -1)
def G_0 (x0 x1 x2 l0 l1 l2 : Int32) : Prop := (x0 = 0 ∧ l0 = 0 ∧ l1 = -1 ∧ l2 = -1)
def G_1 (x0 x1 x2 l0 l1 l2 : Int32) : Prop := (x0 = 1 ∧ l0 = -1 ∧ l1 = 0 ∧ l2 = -1)
def G_2 (x0 x1 x2 l0 l1 l2 : Int32) : Prop := (x0 = 2 ∧ l0 = -1 ∧ l1 = -1 ∧ l2 = 0)
def G_01 (x0 x1 x2 l0 l1 l2 : Int32) : Prop := (x0 = 0 ∧ x1 = 1 ∧ l0 = 0 ∧ l1 = 1 ∧ l2 = -1) ∨ (x0 = 1 ∧ x1 = 0 ∧ l0 = 1 ∧ l1 = 0 ∧ l2 = -1)
def G_02 (x0 x1 x2 l0 l1 l2 : Int32) : Prop := (x0 = 0 ∧ x1 = 2 ∧ l0 = 0 ∧ l1 = -1 ∧ l2 = 1) ∨ (x0 = 2 ∧ x1 = 0 ∧ l0 = 1 ∧ l1 = -1 ∧ l2 = 0)
def G_12 (x0 x1 x2 l0 l1 l2 : Int32) : Prop := (x0 = 1 ∧ x1 = 2 ∧ l0 = -1 ∧ l1 = 0 ∧ l2 = 1) ∨ (x0 = 2 ∧ x1 = 1 ∧ l0 = -1 ∧ l1 = 1 ∧ l2 = 0)
def G_012 (x0 x1 x2 l0 l1 l2 : Int32) : Prop := (x0 = 0 ∧ x1 = 1 ∧ x2 = 2 ∧ l0 = 0 ∧ l1 = 1 ∧ l2 = 2) ∨ (x0 = 0 ∧ x1 = 2 ∧ x2 = 1 ∧ l0 = 0 ∧ l1 = 2 ∧ l2 = 1) ∨ (x0 = 1 ∧ x1 = 0 ∧ x2 = 2 ∧ l0 = 1 ∧ l1 = 0 ∧ l2 = 2) ∨ (x0 = 1 ∧ x1 = 2 ∧ x2 = 0 ∧ l0 = 2 ∧ l1 = 0 ∧ l2 = 1) ∨ (x0 = 2 ∧ x1 = 0 ∧ x2 = 1 ∧ l0 = 1 ∧ l1 = 2 ∧ l2 = 0) ∨ (x0 = 2 ∧ x1 = 1 ∧ x2 = 0 ∧ l0 = 2 ∧ l1 = 1 ∧ l2 = 0)
def PQ (Z : State) (h : Heap) (a b1 b2 b3 : Addr) (n : Int32) (G : Int32 → Int32 → Int32 → Int32 → Int32 → Int32 → Prop) : Prop := ∃ x0 x1 x2 l0 l1 l2 c0 c1 c2 : Int32, G x0 x1 x2 l0 l1 l2 ∧ Ob Z h a "com/example/triplecore/triplecore/query/PatternQueue" [("com/example/triplecore/triplecore/query/PatternQueue", "heap", "[I", (.ref b1)), ("com/example/triplecore/triplecore/query/PatternQueue", "places", "[I", (.ref b2)), ("com/example/triplecore/triplecore/query/PatternQueue", "counts", "[I", (.ref b3)), ("com/example/triplecore/triplecore/query/PatternQueue", "size", "I", (.int n))] ∧ Ar Z h b1 .int [.int x0, .int x1, .int x2] ∧ Ar Z h b2 .int [.int l0, .int l1, .int l2] ∧ Ar Z h b3 .int [.int c0, .int c1, .int c2]
theorem PQ.exa {Z : State} {h : Heap} {a b1 b2 b3 : Addr} {n : Int32} {G : Int32 → Int32 → Int32 → Int32 → Int32 → Int32 → Prop} (B : PQ Z h a b1 b2 b3 n G) : Exa Z h a "com/example/triplecore/triplecore/query/PatternQueue" := by
  obtain ⟨x0, x1, x2, l0, l1, l2, c0, c1, c2, g, O, A1, A2, A3⟩ := B
  exact O.1
set_option maxRecDepth 65536 in
set_option maxHeartbeats 2000000 in
theorem con_move (l : Launch) (Z : State) (a0 : Array Value) (hw : ∀ d ∈ tables_1, d.before a0 Z = true) (a b1 b2 b3 : Addr) (n p k : Int32) (i j : Nat) (xs pl : List Value) (hp : p.toInt = i) (hk : k.toInt = j) (hi : i < pl.length) (hj : j < xs.length) (q01 : a ≠ b1) (q02 : a ≠ b2) (q03 : a ≠ b3) (q12 : b1 ≠ b2) (q13 : b1 ≠ b3) (q23 : b2 ≠ b3) (h : Heap) (O : Ob Z h a "com/example/triplecore/triplecore/query/PatternQueue" [("com/example/triplecore/triplecore/query/PatternQueue", "heap", "[I", (.ref b1)), ("com/example/triplecore/triplecore/query/PatternQueue", "places", "[I", (.ref b2)), ("com/example/triplecore/triplecore/query/PatternQueue", "counts", "[I", (.ref b3)), ("com/example/triplecore/triplecore/query/PatternQueue", "size", "I", (.int n))]) (A1 : Ar Z h b1 .int xs) (A2 : Ar Z h b2 .int pl) :
    Con l Z [] (⟨"com/example/triplecore/triplecore/query/PatternQueue", "move", "(II)V"⟩ : MethodName) prog_95_method_9_code 3 none ({ frames := 0, cells := 0, slots := 0, locals := 0 } : Room) #[(.ref a), (.int p), (.int k)] h [b1, b2] (fun v h' => v = none ∧ Ar Z h' b1 .int (xs.set j (.int p)) ∧ Ar Z h' b2 .int (pl.set i (.int k))) := by
  refine Con.of_go (L0 := #[.val (.ref a), .val (.int p), .val (.int k)]) (plainFor_of_name (by first | (simp [plainName, overriddenIn]; done) | decide +kernel)) (locals_of rfl) fun W Q hQ hl C => ?_
  subst hl
  refine g_aloadN (pc' := 1) C d8_0 rfl rfl rfl ?_
  refine g_getO (pc' := 4) (j := 0) C d8_1 rfl (hw _ (List.mem_of_getElem? (i := 10) rfl)) O rfl ?_
  refine g_iloadN (pc' := 5) C d8_4 rfl rfl ?_
  refine g_iloadN (pc' := 6) C d8_5 rfl rfl ?_
  refine g_iastore (pc' := 7) (i := j) C d8_6 rfl A1 hk hj rfl (C.old (List.mem_of_getElem? (i := 0) rfl)) fun h1 A1 Kh1 => ?_
  replace O := O.keep Kh1 (ninS q01 nin0)
  replace A2 := A2.keep Kh1 (ninS (Ne.symm q12) nin0)
  refine g_aloadN (pc' := 8) C d8_7 rfl rfl rfl ?_
  refine g_getO (pc' := 11) (j := 1) C d8_8 rfl (hw _ (List.mem_of_getElem? (i := 12) rfl)) O rfl ?_
  refine g_iloadN (pc' := 12) C d8_11 rfl rfl ?_
  refine g_iloadN (pc' := 13) C d8_12 rfl rfl ?_
  refine g_iastore (pc' := 14) (i := i) C d8_13 rfl A2 hp hi rfl (C.old (List.mem_of_getElem? (i := 1) rfl)) fun h2 A2 Kh2 => ?_
  replace O := O.keep Kh2 (ninS q02 nin0)
  replace A1 := A1.keep Kh2 (ninS q12 nin0)
  refine g_return C d8_14 (by decide) (by decide) ?_
  subst hQ
  exact ⟨rfl, A1, A2⟩
set_option maxRecDepth 65536 in
set_option maxHeartbeats 2000000 in
theorem con_before (l : Launch) (Z : State) (a0 : Array Value) (hw : ∀ d ∈ tables_1, d.before a0 Z = true) (a b1 b2 b3 : Addr) (n x y u w : Int32) (i j : Nat) (ct : List Value) (hx : x.toInt = i) (hy : y.toInt = j) (hu : ct[i]? = some (.int u)) (hv : ct[j]? = some (.int w)) (h : Heap) (O : Ob Z h a "com/example/triplecore/triplecore/query/PatternQueue" [("com/example/triplecore/triplecore/query/PatternQueue", "heap", "[I", (.ref b1)), ("com/example/triplecore/triplecore/query/PatternQueue", "places", "[I", (.ref b2)), ("com/example/triplecore/triplecore/query/PatternQueue", "counts", "[I", (.ref b3)), ("com/example/triplecore/triplecore/query/PatternQueue", "size", "I", (.int n))]) (A3 : Ar Z h b3 .int ct) :
    Con l Z [] (⟨"com/example/triplecore/triplecore/query/PatternQueue", "before", "(II)Z"⟩ : MethodName) prog_95_method_10_code 3 (some .boolean) ({ frames := 0, cells := 0, slots := 0, locals := 0 } : Room) #[(.ref a), (.int x), (.int y)] h [] (fun v h' => v = some (.int (b2i (u.toInt < w.toInt ∨ u.toInt = w.toInt ∧ x.toInt < y.toInt))) ∧ h' = h) := by
  refine Con.of_go (L0 := #[.val (.ref a), .val (.int x), .val (.int y)]) (plainFor_of_name (by first | (simp [plainName, overriddenIn]; done) | decide +kernel)) (locals_of rfl) fun W Q hQ hl C => ?_
  subst hl
  refine g_aloadN (pc' := 1) C d9_0 rfl rfl rfl ?_
  refine g_getO (pc' := 4) (j := 2) C d9_1 rfl (hw _ (List.mem_of_getElem? (i := 18) rfl)) O rfl ?_
  refine g_iloadN (pc' := 5) C d9_4 rfl rfl ?_
  refine g_iaload (pc' := 6) C d9_5 rfl A3 hx hu ?_
  refine g_aloadN (pc' := 7) C d9_6 rfl rfl rfl ?_
  refine g_getO (pc' := 10) (j := 2) C d9_7 rfl (hw _ (List.mem_of_getElem? (i := 18) rfl)) O rfl ?_
  refine g_iloadN (pc' := 11) C d9_10 rfl rfl ?_
  refine g_iaload (pc' := 12) C d9_11 rfl A3 hy hv ?_
  refine g_icmp (xi := u.toInt) (yi := w.toInt) (pc1 := 35) (pc2 := 15) C d9_12 (by decide) rfl rfl rfl rfl (fun (c12 : u.toInt < w.toInt) => ?_) (fun (c12 : ¬ (u.toInt < w.toInt)) => ?_)
  ·
    refine g_iconst (pc' := 36) (z := (1 : Int32)) C d9_35 rfl rfl ?_
    refine g_goto C d9_36 (by decide) (pc' := 40) rfl ?_
    refine g_retN C (by simp) d9_40 (by decide) (by decide) ?_
    subst hQ
    exact ⟨congrArg (fun z => some (Value.int z)) (b2i_pos (by omega) : b2i (u.toInt < w.toInt ∨ u.toInt = w.toInt ∧ x.toInt < y.toInt) = 1).symm, rfl⟩
  ·
    refine g_aloadN (pc' := 16) C d9_15 rfl rfl rfl ?_
    refine g_getO (pc' := 19) (j := 2) C d9_16 rfl (hw _ (List.mem_of_getElem? (i := 18) rfl)) O rfl ?_
    refine g_iloadN (pc' := 20) C d9_19 rfl rfl ?_
    refine g_iaload (pc' := 21) C d9_20 rfl A3 hx hu ?_
    refine g_aloadN (pc' := 22) C d9_21 rfl rfl rfl ?_
    refine g_getO (pc' := 25) (j := 2) C d9_22 rfl (hw _ (List.mem_of_getElem? (i := 18) rfl)) O rfl ?_
    refine g_iloadN (pc' := 26) C d9_25 rfl rfl ?_
    refine g_iaload (pc' := 27) C d9_26 rfl A3 hy hv ?_
    refine g_icmp (xi := u.toInt) (yi := w.toInt) (pc1 := 39) (pc2 := 30) C d9_27 (by decide) rfl rfl rfl rfl (fun (c27 : ¬ (u.toInt = w.toInt)) => ?_) (fun (c27 : ¬ (¬ (u.toInt = w.toInt))) => ?_)
    ·
      refine g_iconst (pc' := 40) (z := (0 : Int32)) C d9_39 rfl rfl ?_
      refine g_retN C (by simp) d9_40 (by decide) (by decide) ?_
      subst hQ
      exact ⟨congrArg (fun z => some (Value.int z)) (b2i_neg (by omega) : b2i (u.toInt < w.toInt ∨ u.toInt = w.toInt ∧ x.toInt < y.toInt) = 0).symm, rfl⟩
    ·
      replace c27 : u.toInt = w.toInt := Decidable.not_not.mp c27
      refine g_iloadN (pc' := 31) C d9_30 rfl rfl ?_
      refine g_iloadN (pc' := 32) C d9_31 rfl rfl ?_
      refine g_icmp (xi := x.toInt) (yi := y.toInt) (pc1 := 39) (pc2 := 35) C d9_32 (by decide) rfl rfl rfl rfl (fun (c32 : y.toInt ≤ x.toInt) => ?_) (fun (c32 : ¬ (y.toInt ≤ x.toInt)) => ?_)
      ·
        refine g_iconst (pc' := 40) (z := (0 : Int32)) C d9_39 rfl rfl ?_
        refine g_retN C (by simp) d9_40 (by decide) (by decide) ?_
        subst hQ
        exact ⟨congrArg (fun z => some (Value.int z)) (b2i_neg (by omega) : b2i (u.toInt < w.toInt ∨ u.toInt = w.toInt ∧ x.toInt < y.toInt) = 0).symm, rfl⟩
      ·
        refine g_iconst (pc' := 36) (z := (1 : Int32)) C d9_35 rfl rfl ?_
        refine g_goto C d9_36 (by decide) (pc' := 40) rfl ?_
        refine g_retN C (by simp) d9_40 (by decide) (by decide) ?_
        subst hQ
        exact ⟨congrArg (fun z => some (Value.int z)) (b2i_pos (by omega) : b2i (u.toInt < w.toInt ∨ u.toInt = w.toInt ∧ x.toInt < y.toInt) = 1).symm, rfl⟩
set_option maxRecDepth 65536 in
set_option maxHeartbeats 2000000 in
theorem con_up0 (l : Launch) (Z : State) (a0 : Array Value) (hw : ∀ d ∈ tables_1, d.before a0 Z = true) (a b1 b2 b3 : Addr) (n x0 x1 x2 u w : Int32) (i j : Nat) (pl ct : List Value) (hx : x0.toInt = i) (hy : x0.toInt = j) (hi : i < pl.length) (hj : j < pl.length) (hu : ct[i]? = some (.int u)) (hv : ct[j]? = some (.int w)) (q01 : a ≠ b1) (q02 : a ≠ b2) (q03 : a ≠ b3) (q12 : b1 ≠ b2) (q13 : b1 ≠ b3) (q23 : b2 ≠ b3) (h : Heap) (O : Ob Z h a "com/example/triplecore/triplecore/query/PatternQueue" [("com/example/triplecore/triplecore/query/PatternQueue", "heap", "[I", (.ref b1)), ("com/example/triplecore/triplecore/query/PatternQueue", "places", "[I", (.ref b2)), ("com/example/triplecore/triplecore/query/PatternQueue", "counts", "[I", (.ref b3)), ("com/example/triplecore/triplecore/query/PatternQueue", "size", "I", (.int n))]) (A1 : Ar Z h b1 .int [.int x0, .int x1, .int x2]) (A2 : Ar Z h b2 .int pl) (A3 : Ar Z h b3 .int ct) :
    Con l Z [] (⟨"com/example/triplecore/triplecore/query/PatternQueue", "up", "(I)V"⟩ : MethodName) prog_95_method_7_code 4 none ({ frames := 1, cells := 0, slots := 0, locals := 14 } : Room) #[(.ref a), (.int (0 : Int32))] h [b1, b2] (fun v h' => v = none ∧ (Ar Z h' b1 .int [.int x0, .int x1, .int x2] ∧ Ar Z h' b2 .int (pl.set i (.int 0)))) := by
  refine Con.of_go (L0 := #[.val (.ref a), .val (.int (0 : Int32)), .unset, .unset]) (plainFor_of_name (by first | (simp [plainName, overriddenIn]; done) | decide +kernel)) (locals_of rfl) fun W Q hQ hl C => ?_
  subst hl
  refine g_aloadN (pc' := 1) C d7_0 rfl rfl rfl ?_
  refine g_getO (pc' := 4) (j := 0) C d7_1 rfl (hw _ (List.mem_of_getElem? (i := 10) rfl)) O rfl ?_
  refine g_iloadN (pc' := 5) C d7_4 rfl rfl ?_
  refine g_iaload (pc' := 6) (i := 0) C d7_5 rfl A1 rfl rfl ?_
  refine g_istoreN (pc' := 7) (L' := #[.val (.ref a), .val (.int (0 : Int32)), .val (.int x0), .unset]) C d7_6 rfl rfl ?_
  refine g_iloadN (pc' := 8) C d7_7 rfl rfl ?_
  refine g_ifY (xi := 0) (pc1 := 50) C d7_8 (by decide) rfl rfl (by decide) ?_
  refine g_aloadN (pc' := 51) C d7_50 rfl rfl rfl ?_
  refine g_iloadN (pc' := 52) C d7_51 rfl rfl ?_
  refine g_iloadN (pc' := 53) C d7_52 rfl rfl ?_
  refine g_private (y := (⟨"com/example/triplecore/triplecore/query/PatternQueue", "move", "(II)V"⟩ : MethodName)) (a := a) (pc' := 56) (k' := 0) (n' := 0) (S := []) (as := [(.int x0), (.int (0 : Int32))]) C d7_53 rfl (hw _ (List.mem_of_getElem? (i := 40) rfl)) (hw _ (List.mem_of_getElem? (i := 41) rfl)) (hw _ (List.mem_of_getElem? (i := 2) rfl)) (hw _ (List.mem_of_getElem? (i := 43) rfl)) (hw _ (List.mem_of_getElem? (i := 42) rfl)) (hw _ (List.mem_of_getElem? (i := 1) rfl)) (by decide) O.1 (lenOf pd_0 rfl) (con_move W.l Z a0 hw a b1 b2 b3 n x0 (0 : Int32) i 0 _ _ hx rfl hi (Nat.le_of_ble_eq_true rfl) q01 q02 q03 q12 q13 q23 h O A1 A2) rfl rfl (Nat.le_of_ble_eq_true rfl) (Nat.le_of_ble_eq_true rfl) rfl rfl (Nat.le_of_ble_eq_true rfl) (Nat.le_of_ble_eq_true rfl) (allS (C.old (List.mem_of_getElem? (i := 0) rfl)) (allS (C.old (List.mem_of_getElem? (i := 1) rfl)) all0)) fun vhu01 hu01 qhu01 Khu01 => ?_
  obtain ⟨rfl, A1, A2⟩ := qhu01
  replace O := O.keep Khu01 (ninS q01 (ninS q02 nin0))
  replace A3 := A3.keep Khu01 (ninS (Ne.symm q13) (ninS (Ne.symm q23) nin0))
  show Go W Q hu01 0 0 56 #[.val (.ref a), .val (.int (0 : Int32)), .val (.int x0), .unset] []
  replace A1 : Ar Z hu01 b1 .int [(.int x0), (.int x1), (.int x2)] := A1
  refine g_return C d7_56 (by decide) (by decide) ?_
  subst hQ
  exact ⟨rfl, A1, A2⟩
set_option maxRecDepth 65536 in
set_option maxHeartbeats 2000000 in
theorem con_up1 (l : Launch) (Z : State) (a0 : Array Value) (hw : ∀ d ∈ tables_1, d.before a0 Z = true) (a b1 b2 b3 : Addr) (n x0 x1 x2 u w : Int32) (i j : Nat) (pl ct : List Value) (hx : x1.toInt = i) (hy : x0.toInt = j) (hi : i < pl.length) (hj : j < pl.length) (hu : ct[i]? = some (.int u)) (hv : ct[j]? = some (.int w)) (q01 : a ≠ b1) (q02 : a ≠ b2) (q03 : a ≠ b3) (q12 : b1 ≠ b2) (q13 : b1 ≠ b3) (q23 : b2 ≠ b3) (h : Heap) (O : Ob Z h a "com/example/triplecore/triplecore/query/PatternQueue" [("com/example/triplecore/triplecore/query/PatternQueue", "heap", "[I", (.ref b1)), ("com/example/triplecore/triplecore/query/PatternQueue", "places", "[I", (.ref b2)), ("com/example/triplecore/triplecore/query/PatternQueue", "counts", "[I", (.ref b3)), ("com/example/triplecore/triplecore/query/PatternQueue", "size", "I", (.int n))]) (A1 : Ar Z h b1 .int [.int x0, .int x1, .int x2]) (A2 : Ar Z h b2 .int pl) (A3 : Ar Z h b3 .int ct) :
    Con l Z [] (⟨"com/example/triplecore/triplecore/query/PatternQueue", "up", "(I)V"⟩ : MethodName) prog_95_method_7_code 4 none ({ frames := 1, cells := 0, slots := 0, locals := 14 } : Room) #[(.ref a), (.int (1 : Int32))] h [b1, b2] (fun v h' => v = none ∧ (Ar Z h' b1 .int [.int x0, .int x1, .int x2] ∧ Ar Z h' b2 .int (pl.set i (.int 1))) ∨ v = none ∧ (Ar Z h' b1 .int [.int x1, .int x0, .int x2] ∧ Ar Z h' b2 .int ((pl.set j (.int 1)).set i (.int 0)))) := by
  refine Con.of_go (L0 := #[.val (.ref a), .val (.int (1 : Int32)), .unset, .unset]) (plainFor_of_name (by first | (simp [plainName, overriddenIn]; done) | decide +kernel)) (locals_of rfl) fun W Q hQ hl C => ?_
  subst hl
  refine g_aloadN (pc' := 1) C d7_0 rfl rfl rfl ?_
  refine g_getO (pc' := 4) (j := 0) C d7_1 rfl (hw _ (List.mem_of_getElem? (i := 10) rfl)) O rfl ?_
  refine g_iloadN (pc' := 5) C d7_4 rfl rfl ?_
  refine g_iaload (pc' := 6) (i := 1) C d7_5 rfl A1 rfl rfl ?_
  refine g_istoreN (pc' := 7) (L' := #[.val (.ref a), .val (.int (1 : Int32)), .val (.int x1), .unset]) C d7_6 rfl rfl ?_
  refine g_iloadN (pc' := 8) C d7_7 rfl rfl ?_
  refine g_ifN (xi := 1) (pc2 := 11) C d7_8 rfl rfl (by decide) ?_
  refine g_iloadN (pc' := 12) C d7_11 rfl rfl ?_
  refine g_iconst (pc' := 13) (z := (1 : Int32)) C d7_12 rfl rfl ?_
  refine g_isub (pc' := 14) C d7_13 rfl ?_
  show Go W Q h 0 0 14 #[.val (.ref a), .val (.int (1 : Int32)), .val (.int x1), .unset] [(.int (0 : Int32))]
  refine g_iconst (pc' := 15) (z := (2 : Int32)) C d7_14 rfl rfl ?_
  refine g_idiv (pc' := 16) C d7_15 rfl (by decide) ?_
  show Go W Q h 0 0 16 #[.val (.ref a), .val (.int (1 : Int32)), .val (.int x1), .unset] [(.int (0 : Int32))]
  refine g_istoreN (pc' := 17) (L' := #[.val (.ref a), .val (.int (1 : Int32)), .val (.int x1), .val (.int (0 : Int32))]) C d7_16 rfl rfl ?_
  refine g_aloadN (pc' := 18) C d7_17 rfl rfl rfl ?_
  refine g_iloadN (pc' := 19) C d7_18 rfl rfl ?_
  refine g_aloadN (pc' := 20) C d7_19 rfl rfl rfl ?_
  refine g_getO (pc' := 23) (j := 0) C d7_20 rfl (hw _ (List.mem_of_getElem? (i := 10) rfl)) O rfl ?_
  refine g_iloadN (pc' := 24) C d7_23 rfl rfl ?_
  refine g_iaload (pc' := 25) (i := 0) C d7_24 rfl A1 rfl rfl ?_
  refine g_privateP (y := (⟨"com/example/triplecore/triplecore/query/PatternQueue", "before", "(II)Z"⟩ : MethodName)) (a := a) (pc' := 28) (k' := 0) (n' := 0) (S := []) (as := [(.int x1), (.int x0)]) C d7_25 rfl (hw _ (List.mem_of_getElem? (i := 44) rfl)) (hw _ (List.mem_of_getElem? (i := 45) rfl)) (hw _ (List.mem_of_getElem? (i := 2) rfl)) (hw _ (List.mem_of_getElem? (i := 47) rfl)) (hw _ (List.mem_of_getElem? (i := 46) rfl)) (hw _ (List.mem_of_getElem? (i := 1) rfl)) (by decide) O.1 (lenOf pd_1 rfl) (con_before W.l Z a0 hw a b1 b2 b3 n x1 x0 u w i j ct hx hy hu hv h O A3) rfl rfl (Nat.le_of_ble_eq_true rfl) (Nat.le_of_ble_eq_true rfl) rfl rfl (Nat.le_of_ble_eq_true rfl) (Nat.le_of_ble_eq_true rfl) (S1 := [(.int (b2i (u.toInt < w.toInt ∨ u.toInt = w.toInt ∧ x1.toInt < x0.toInt)))]) rfl ?_
  refine g_ifneb (pc1 := 34) (pc2 := 31) C d7_28 (by decide) rfl rfl rfl (fun (cu128 : u.toInt < w.toInt ∨ u.toInt = w.toInt ∧ x1.toInt < x0.toInt) => ?_) (fun (cu128 : ¬ (u.toInt < w.toInt ∨ u.toInt = w.toInt ∧ x1.toInt < x0.toInt)) => ?_)
  ·
    refine g_aloadN (pc' := 35) C d7_34 rfl rfl rfl ?_
    refine g_aloadN (pc' := 36) C d7_35 rfl rfl rfl ?_
    refine g_getO (pc' := 39) (j := 0) C d7_36 rfl (hw _ (List.mem_of_getElem? (i := 10) rfl)) O rfl ?_
    refine g_iloadN (pc' := 40) C d7_39 rfl rfl ?_
    refine g_iaload (pc' := 41) (i := 0) C d7_40 rfl A1 rfl rfl ?_
    refine g_iloadN (pc' := 42) C d7_41 rfl rfl ?_
    refine g_private (y := (⟨"com/example/triplecore/triplecore/query/PatternQueue", "move", "(II)V"⟩ : MethodName)) (a := a) (pc' := 45) (k' := 0) (n' := 0) (S := []) (as := [(.int x0), (.int (1 : Int32))]) C d7_42 rfl (hw _ (List.mem_of_getElem? (i := 40) rfl)) (hw _ (List.mem_of_getElem? (i := 41) rfl)) (hw _ (List.mem_of_getElem? (i := 2) rfl)) (hw _ (List.mem_of_getElem? (i := 43) rfl)) (hw _ (List.mem_of_getElem? (i := 42) rfl)) (hw _ (List.mem_of_getElem? (i := 1) rfl)) (by decide) O.1 (lenOf pd_0 rfl) (con_move W.l Z a0 hw a b1 b2 b3 n x0 (1 : Int32) j 1 _ _ hy rfl hj (Nat.le_of_ble_eq_true rfl) q01 q02 q03 q12 q13 q23 h O A1 A2) rfl rfl (Nat.le_of_ble_eq_true rfl) (Nat.le_of_ble_eq_true rfl) rfl rfl (Nat.le_of_ble_eq_true rfl) (Nat.le_of_ble_eq_true rfl) (allS (C.old (List.mem_of_getElem? (i := 0) rfl)) (allS (C.old (List.mem_of_getElem? (i := 1) rfl)) all0)) fun vhu11 hu11 qhu11 Khu11 => ?_
    obtain ⟨rfl, A1, A2⟩ := qhu11
    replace O := O.keep Khu11 (ninS q01 (ninS q02 nin0))
    replace A3 := A3.keep Khu11 (ninS (Ne.symm q13) (ninS (Ne.symm q23) nin0))
    show Go W Q hu11 0 0 45 #[.val (.ref a), .val (.int (1 : Int32)), .val (.int x1), .val (.int (0 : Int32))] []
    replace A1 : Ar Z hu11 b1 .int [(.int x0), (.int x0), (.int x2)] := A1
    refine g_iloadN (pc' := 46) C d7_45 rfl rfl ?_
    refine g_istoreN (pc' := 47) (L' := #[.val (.ref a), .val (.int (0 : Int32)), .val (.int x1), .val (.int (0 : Int32))]) C d7_46 rfl rfl ?_
    refine g_goto C d7_47 (by decide) (pc' := 7) rfl ?_
    refine g_iloadN (pc' := 8) C d7_7 rfl rfl ?_
    refine g_ifY (xi := 0) (pc1 := 50) C d7_8 (by decide) rfl rfl (by decide) ?_
    refine g_aloadN (pc' := 51) C d7_50 rfl rfl rfl ?_
    refine g_iloadN (pc' := 52) C d7_51 rfl rfl ?_
    refine g_iloadN (pc' := 53) C d7_52 rfl rfl ?_
    refine g_private (y := (⟨"com/example/triplecore/triplecore/query/PatternQueue", "move", "(II)V"⟩ : MethodName)) (a := a) (pc' := 56) (k' := 0) (n' := 0) (S := []) (as := [(.int x1), (.int (0 : Int32))]) C d7_53 rfl (hw _ (List.mem_of_getElem? (i := 40) rfl)) (hw _ (List.mem_of_getElem? (i := 41) rfl)) (hw _ (List.mem_of_getElem? (i := 2) rfl)) (hw _ (List.mem_of_getElem? (i := 43) rfl)) (hw _ (List.mem_of_getElem? (i := 42) rfl)) (hw _ (List.mem_of_getElem? (i := 1) rfl)) (by decide) O.1 (lenOf pd_0 rfl) (con_move W.l Z a0 hw a b1 b2 b3 n x1 (0 : Int32) i 0 _ _ hx rfl (by rw [ll3]; exact hi) (Nat.le_of_ble_eq_true rfl) q01 q02 q03 q12 q13 q23 hu11 O A1 A2) rfl rfl (Nat.le_of_ble_eq_true rfl) (Nat.le_of_ble_eq_true rfl) rfl rfl (Nat.le_of_ble_eq_true rfl) (Nat.le_of_ble_eq_true rfl) (allS (C.old (List.mem_of_getElem? (i := 0) rfl)) (allS (C.old (List.mem_of_getElem? (i := 1) rfl)) all0)) fun vhu12 hu12 qhu12 Khu12 => ?_
    obtain ⟨rfl, A1, A2⟩ := qhu12
    replace O := O.keep Khu12 (ninS q01 (ninS q02 nin0))
    replace A3 := A3.keep Khu12 (ninS (Ne.symm q13) (ninS (Ne.symm q23) nin0))
    show Go W Q hu12 0 0 56 #[.val (.ref a), .val (.int (0 : Int32)), .val (.int x1), .val (.int (0 : Int32))] []
    replace A1 : Ar Z hu12 b1 .int [(.int x1), (.int x0), (.int x2)] := A1
    refine g_return C d7_56 (by decide) (by decide) ?_
    subst hQ
    exact Or.inr ⟨rfl, A1, A2⟩
  ·
    refine g_goto C d7_31 (by decide) (pc' := 50) rfl ?_
    refine g_aloadN (pc' := 51) C d7_50 rfl rfl rfl ?_
    refine g_iloadN (pc' := 52) C d7_51 rfl rfl ?_
    refine g_iloadN (pc' := 53) C d7_52 rfl rfl ?_
    refine g_private (y := (⟨"com/example/triplecore/triplecore/query/PatternQueue", "move", "(II)V"⟩ : MethodName)) (a := a) (pc' := 56) (k' := 0) (n' := 0) (S := []) (as := [(.int x1), (.int (1 : Int32))]) C d7_53 rfl (hw _ (List.mem_of_getElem? (i := 40) rfl)) (hw _ (List.mem_of_getElem? (i := 41) rfl)) (hw _ (List.mem_of_getElem? (i := 2) rfl)) (hw _ (List.mem_of_getElem? (i := 43) rfl)) (hw _ (List.mem_of_getElem? (i := 42) rfl)) (hw _ (List.mem_of_getElem? (i := 1) rfl)) (by decide) O.1 (lenOf pd_0 rfl) (con_move W.l Z a0 hw a b1 b2 b3 n x1 (1 : Int32) i 1 _ _ hx rfl hi (Nat.le_of_ble_eq_true rfl) q01 q02 q03 q12 q13 q23 h O A1 A2) rfl rfl (Nat.le_of_ble_eq_true rfl) (Nat.le_of_ble_eq_true rfl) rfl rfl (Nat.le_of_ble_eq_true rfl) (Nat.le_of_ble_eq_true rfl) (allS (C.old (List.mem_of_getElem? (i := 0) rfl)) (allS (C.old (List.mem_of_getElem? (i := 1) rfl)) all0)) fun vhu13 hu13 qhu13 Khu13 => ?_
    obtain ⟨rfl, A1, A2⟩ := qhu13
    replace O := O.keep Khu13 (ninS q01 (ninS q02 nin0))
    replace A3 := A3.keep Khu13 (ninS (Ne.symm q13) (ninS (Ne.symm q23) nin0))
    show Go W Q hu13 0 0 56 #[.val (.ref a), .val (.int (1 : Int32)), .val (.int x1), .val (.int (0 : Int32))] []
    replace A1 : Ar Z hu13 b1 .int [(.int x0), (.int x1), (.int x2)] := A1
    refine g_return C d7_56 (by decide) (by decide) ?_
    subst hQ
    exact Or.inl ⟨rfl, A1, A2⟩
set_option maxRecDepth 65536 in
set_option maxHeartbeats 2000000 in
theorem con_up2 (l : Launch) (Z : State) (a0 : Array Value) (hw : ∀ d ∈ tables_1, d.before a0 Z = true) (a b1 b2 b3 : Addr) (n x0 x1 x2 u w : Int32) (i j : Nat) (pl ct : List Value) (hx : x2.toInt = i) (hy : x0.toInt = j) (hi : i < pl.length) (hj : j < pl.length) (hu : ct[i]? = some (.int u)) (hv : ct[j]? = some (.int w)) (q01 : a ≠ b1) (q02 : a ≠ b2) (q03 : a ≠ b3) (q12 : b1 ≠ b2) (q13 : b1 ≠ b3) (q23 : b2 ≠ b3) (h : Heap) (O : Ob Z h a "com/example/triplecore/triplecore/query/PatternQueue" [("com/example/triplecore/triplecore/query/PatternQueue", "heap", "[I", (.ref b1)), ("com/example/triplecore/triplecore/query/PatternQueue", "places", "[I", (.ref b2)), ("com/example/triplecore/triplecore/query/PatternQueue", "counts", "[I", (.ref b3)), ("com/example/triplecore/triplecore/query/PatternQueue", "size", "I", (.int n))]) (A1 : Ar Z h b1 .int [.int x0, .int x1, .int x2]) (A2 : Ar Z h b2 .int pl) (A3 : Ar Z h b3 .int ct) :
    Con l Z [] (⟨"com/example/triplecore/triplecore/query/PatternQueue", "up", "(I)V"⟩ : MethodName) prog_95_method_7_code 4 none ({ frames := 1, cells := 0, slots := 0, locals := 14 } : Room) #[(.ref a), (.int (2 : Int32))] h [b1, b2] (fun v h' => v = none ∧ (Ar Z h' b1 .int [.int x0, .int x1, .int x2] ∧ Ar Z h' b2 .int (pl.set i (.int 2))) ∨ v = none ∧ (Ar Z h' b1 .int [.int x2, .int x1, .int x0] ∧ Ar Z h' b2 .int ((pl.set j (.int 2)).set i (.int 0)))) := by
  refine Con.of_go (L0 := #[.val (.ref a), .val (.int (2 : Int32)), .unset, .unset]) (plainFor_of_name (by first | (simp [plainName, overriddenIn]; done) | decide +kernel)) (locals_of rfl) fun W Q hQ hl C => ?_
  subst hl
  refine g_aloadN (pc' := 1) C d7_0 rfl rfl rfl ?_
  refine g_getO (pc' := 4) (j := 0) C d7_1 rfl (hw _ (List.mem_of_getElem? (i := 10) rfl)) O rfl ?_
  refine g_iloadN (pc' := 5) C d7_4 rfl rfl ?_
  refine g_iaload (pc' := 6) (i := 2) C d7_5 rfl A1 rfl rfl ?_
  refine g_istoreN (pc' := 7) (L' := #[.val (.ref a), .val (.int (2 : Int32)), .val (.int x2), .unset]) C d7_6 rfl rfl ?_
  refine g_iloadN (pc' := 8) C d7_7 rfl rfl ?_
  refine g_ifN (xi := 2) (pc2 := 11) C d7_8 rfl rfl (by decide) ?_
  refine g_iloadN (pc' := 12) C d7_11 rfl rfl ?_
  refine g_iconst (pc' := 13) (z := (1 : Int32)) C d7_12 rfl rfl ?_
  refine g_isub (pc' := 14) C d7_13 rfl ?_
  show Go W Q h 0 0 14 #[.val (.ref a), .val (.int (2 : Int32)), .val (.int x2), .unset] [(.int (1 : Int32))]
  refine g_iconst (pc' := 15) (z := (2 : Int32)) C d7_14 rfl rfl ?_
  refine g_idiv (pc' := 16) C d7_15 rfl (by decide) ?_
  show Go W Q h 0 0 16 #[.val (.ref a), .val (.int (2 : Int32)), .val (.int x2), .unset] [(.int (0 : Int32))]
  refine g_istoreN (pc' := 17) (L' := #[.val (.ref a), .val (.int (2 : Int32)), .val (.int x2), .val (.int (0 : Int32))]) C d7_16 rfl rfl ?_
  refine g_aloadN (pc' := 18) C d7_17 rfl rfl rfl ?_
  refine g_iloadN (pc' := 19) C d7_18 rfl rfl ?_
  refine g_aloadN (pc' := 20) C d7_19 rfl rfl rfl ?_
  refine g_getO (pc' := 23) (j := 0) C d7_20 rfl (hw _ (List.mem_of_getElem? (i := 10) rfl)) O rfl ?_
  refine g_iloadN (pc' := 24) C d7_23 rfl rfl ?_
  refine g_iaload (pc' := 25) (i := 0) C d7_24 rfl A1 rfl rfl ?_
  refine g_privateP (y := (⟨"com/example/triplecore/triplecore/query/PatternQueue", "before", "(II)Z"⟩ : MethodName)) (a := a) (pc' := 28) (k' := 0) (n' := 0) (S := []) (as := [(.int x2), (.int x0)]) C d7_25 rfl (hw _ (List.mem_of_getElem? (i := 44) rfl)) (hw _ (List.mem_of_getElem? (i := 45) rfl)) (hw _ (List.mem_of_getElem? (i := 2) rfl)) (hw _ (List.mem_of_getElem? (i := 47) rfl)) (hw _ (List.mem_of_getElem? (i := 46) rfl)) (hw _ (List.mem_of_getElem? (i := 1) rfl)) (by decide) O.1 (lenOf pd_1 rfl) (con_before W.l Z a0 hw a b1 b2 b3 n x2 x0 u w i j ct hx hy hu hv h O A3) rfl rfl (Nat.le_of_ble_eq_true rfl) (Nat.le_of_ble_eq_true rfl) rfl rfl (Nat.le_of_ble_eq_true rfl) (Nat.le_of_ble_eq_true rfl) (S1 := [(.int (b2i (u.toInt < w.toInt ∨ u.toInt = w.toInt ∧ x2.toInt < x0.toInt)))]) rfl ?_
  refine g_ifneb (pc1 := 34) (pc2 := 31) C d7_28 (by decide) rfl rfl rfl (fun (cu228 : u.toInt < w.toInt ∨ u.toInt = w.toInt ∧ x2.toInt < x0.toInt) => ?_) (fun (cu228 : ¬ (u.toInt < w.toInt ∨ u.toInt = w.toInt ∧ x2.toInt < x0.toInt)) => ?_)
  ·
    refine g_aloadN (pc' := 35) C d7_34 rfl rfl rfl ?_
    refine g_aloadN (pc' := 36) C d7_35 rfl rfl rfl ?_
    refine g_getO (pc' := 39) (j := 0) C d7_36 rfl (hw _ (List.mem_of_getElem? (i := 10) rfl)) O rfl ?_
    refine g_iloadN (pc' := 40) C d7_39 rfl rfl ?_
    refine g_iaload (pc' := 41) (i := 0) C d7_40 rfl A1 rfl rfl ?_
    refine g_iloadN (pc' := 42) C d7_41 rfl rfl ?_
    refine g_private (y := (⟨"com/example/triplecore/triplecore/query/PatternQueue", "move", "(II)V"⟩ : MethodName)) (a := a) (pc' := 45) (k' := 0) (n' := 0) (S := []) (as := [(.int x0), (.int (2 : Int32))]) C d7_42 rfl (hw _ (List.mem_of_getElem? (i := 40) rfl)) (hw _ (List.mem_of_getElem? (i := 41) rfl)) (hw _ (List.mem_of_getElem? (i := 2) rfl)) (hw _ (List.mem_of_getElem? (i := 43) rfl)) (hw _ (List.mem_of_getElem? (i := 42) rfl)) (hw _ (List.mem_of_getElem? (i := 1) rfl)) (by decide) O.1 (lenOf pd_0 rfl) (con_move W.l Z a0 hw a b1 b2 b3 n x0 (2 : Int32) j 2 _ _ hy rfl hj (Nat.le_of_ble_eq_true rfl) q01 q02 q03 q12 q13 q23 h O A1 A2) rfl rfl (Nat.le_of_ble_eq_true rfl) (Nat.le_of_ble_eq_true rfl) rfl rfl (Nat.le_of_ble_eq_true rfl) (Nat.le_of_ble_eq_true rfl) (allS (C.old (List.mem_of_getElem? (i := 0) rfl)) (allS (C.old (List.mem_of_getElem? (i := 1) rfl)) all0)) fun vhu21 hu21 qhu21 Khu21 => ?_
    obtain ⟨rfl, A1, A2⟩ := qhu21
    replace O := O.keep Khu21 (ninS q01 (ninS q02 nin0))
    replace A3 := A3.keep Khu21 (ninS (Ne.symm q13) (ninS (Ne.symm q23) nin0))
    show Go W Q hu21 0 0 45 #[.val (.ref a), .val (.int (2 : Int32)), .val (.int x2), .val (.int (0 : Int32))] []
    replace A1 : Ar Z hu21 b1 .int [(.int x0), (.int x1), (.int x0)] := A1
    refine g_iloadN (pc' := 46) C d7_45 rfl rfl ?_
    refine g_istoreN (pc' := 47) (L' := #[.val (.ref a), .val (.int (0 : Int32)), .val (.int x2), .val (.int (0 : Int32))]) C d7_46 rfl rfl ?_
    refine g_goto C d7_47 (by decide) (pc' := 7) rfl ?_
    refine g_iloadN (pc' := 8) C d7_7 rfl rfl ?_
    refine g_ifY (xi := 0) (pc1 := 50) C d7_8 (by decide) rfl rfl (by decide) ?_
    refine g_aloadN (pc' := 51) C d7_50 rfl rfl rfl ?_
    refine g_iloadN (pc' := 52) C d7_51 rfl rfl ?_
    refine g_iloadN (pc' := 53) C d7_52 rfl rfl ?_
    refine g_private (y := (⟨"com/example/triplecore/triplecore/query/PatternQueue", "move", "(II)V"⟩ : MethodName)) (a := a) (pc' := 56) (k' := 0) (n' := 0) (S := []) (as := [(.int x2), (.int (0 : Int32))]) C d7_53 rfl (hw _ (List.mem_of_getElem? (i := 40) rfl)) (hw _ (List.mem_of_getElem? (i := 41) rfl)) (hw _ (List.mem_of_getElem? (i := 2) rfl)) (hw _ (List.mem_of_getElem? (i := 43) rfl)) (hw _ (List.mem_of_getElem? (i := 42) rfl)) (hw _ (List.mem_of_getElem? (i := 1) rfl)) (by decide) O.1 (lenOf pd_0 rfl) (con_move W.l Z a0 hw a b1 b2 b3 n x2 (0 : Int32) i 0 _ _ hx rfl (by rw [ll3]; exact hi) (Nat.le_of_ble_eq_true rfl) q01 q02 q03 q12 q13 q23 hu21 O A1 A2) rfl rfl (Nat.le_of_ble_eq_true rfl) (Nat.le_of_ble_eq_true rfl) rfl rfl (Nat.le_of_ble_eq_true rfl) (Nat.le_of_ble_eq_true rfl) (allS (C.old (List.mem_of_getElem? (i := 0) rfl)) (allS (C.old (List.mem_of_getElem? (i := 1) rfl)) all0)) fun vhu22 hu22 qhu22 Khu22 => ?_
    obtain ⟨rfl, A1, A2⟩ := qhu22
    replace O := O.keep Khu22 (ninS q01 (ninS q02 nin0))
    replace A3 := A3.keep Khu22 (ninS (Ne.symm q13) (ninS (Ne.symm q23) nin0))
    show Go W Q hu22 0 0 56 #[.val (.ref a), .val (.int (0 : Int32)), .val (.int x2), .val (.int (0 : Int32))] []
    replace A1 : Ar Z hu22 b1 .int [(.int x2), (.int x1), (.int x0)] := A1
    refine g_return C d7_56 (by decide) (by decide) ?_
    subst hQ
    exact Or.inr ⟨rfl, A1, A2⟩
  ·
    refine g_goto C d7_31 (by decide) (pc' := 50) rfl ?_
    refine g_aloadN (pc' := 51) C d7_50 rfl rfl rfl ?_
    refine g_iloadN (pc' := 52) C d7_51 rfl rfl ?_
    refine g_iloadN (pc' := 53) C d7_52 rfl rfl ?_
    refine g_private (y := (⟨"com/example/triplecore/triplecore/query/PatternQueue", "move", "(II)V"⟩ : MethodName)) (a := a) (pc' := 56) (k' := 0) (n' := 0) (S := []) (as := [(.int x2), (.int (2 : Int32))]) C d7_53 rfl (hw _ (List.mem_of_getElem? (i := 40) rfl)) (hw _ (List.mem_of_getElem? (i := 41) rfl)) (hw _ (List.mem_of_getElem? (i := 2) rfl)) (hw _ (List.mem_of_getElem? (i := 43) rfl)) (hw _ (List.mem_of_getElem? (i := 42) rfl)) (hw _ (List.mem_of_getElem? (i := 1) rfl)) (by decide) O.1 (lenOf pd_0 rfl) (con_move W.l Z a0 hw a b1 b2 b3 n x2 (2 : Int32) i 2 _ _ hx rfl hi (Nat.le_of_ble_eq_true rfl) q01 q02 q03 q12 q13 q23 h O A1 A2) rfl rfl (Nat.le_of_ble_eq_true rfl) (Nat.le_of_ble_eq_true rfl) rfl rfl (Nat.le_of_ble_eq_true rfl) (Nat.le_of_ble_eq_true rfl) (allS (C.old (List.mem_of_getElem? (i := 0) rfl)) (allS (C.old (List.mem_of_getElem? (i := 1) rfl)) all0)) fun vhu23 hu23 qhu23 Khu23 => ?_
    obtain ⟨rfl, A1, A2⟩ := qhu23
    replace O := O.keep Khu23 (ninS q01 (ninS q02 nin0))
    replace A3 := A3.keep Khu23 (ninS (Ne.symm q13) (ninS (Ne.symm q23) nin0))
    show Go W Q hu23 0 0 56 #[.val (.ref a), .val (.int (2 : Int32)), .val (.int x2), .val (.int (0 : Int32))] []
    replace A1 : Ar Z hu23 b1 .int [(.int x0), (.int x1), (.int x2)] := A1
    refine g_return C d7_56 (by decide) (by decide) ?_
    subst hQ
    exact Or.inl ⟨rfl, A1, A2⟩
set_option maxRecDepth 65536 in
set_option maxHeartbeats 2000000 in
theorem con_down1 (l : Launch) (Z : State) (a0 : Array Value) (hw : ∀ d ∈ tables_1, d.before a0 Z = true) (a b1 b2 b3 : Addr) (x0 x1 x2 : Int32) (i : Nat) (pl ct : List Value) (hx : x0.toInt = i) (hi : i < pl.length) (q01 : a ≠ b1) (q02 : a ≠ b2) (q03 : a ≠ b3) (q12 : b1 ≠ b2) (q13 : b1 ≠ b3) (q23 : b2 ≠ b3) (h : Heap) (O : Ob Z h a "com/example/triplecore/triplecore/query/PatternQueue" [("com/example/triplecore/triplecore/query/PatternQueue", "heap", "[I", (.ref b1)), ("com/example/triplecore/triplecore/query/PatternQueue", "places", "[I", (.ref b2)), ("com/example/triplecore/triplecore/query/PatternQueue", "counts", "[I", (.ref b3)), ("com/example/triplecore/triplecore/query/PatternQueue", "size", "I", (.int (1 : Int32)))]) (A1 : Ar Z h b1 .int [.int x0, .int x1, .int x2]) (A2 : Ar Z h b2 .int pl) (A3 : Ar Z h b3 .int ct) :
    Con l Z [] (⟨"com/example/triplecore/triplecore/query/PatternQueue", "down", "(I)V"⟩ : MethodName) prog_95_method_8_code 4 none ({ frames := 1, cells := 0, slots := 0, locals := 14 } : Room) #[(.ref a), (.int (0 : Int32))] h [b1, b2] (fun v h' => v = none ∧ (Ar Z h' b1 .int [.int x0, .int x1, .int x2] ∧ Ar Z h' b2 .int (pl.set i (.int 0)))) := by
  refine Con.of_go (L0 := #[.val (.ref a), .val (.int (0 : Int32)), .unset, .unset]) (plainFor_of_name (by first | (simp [plainName, overriddenIn]; done) | decide +kernel)) (locals_of rfl) fun W Q hQ hl C => ?_
  subst hl
  refine g_aloadN (pc' := 1) C d11_0 rfl rfl rfl ?_
  refine g_getO (pc' := 4) (j := 0) C d11_1 rfl (hw _ (List.mem_of_getElem? (i := 10) rfl)) O rfl ?_
  refine g_iloadN (pc' := 5) C d11_4 rfl rfl ?_
  refine g_iaload (pc' := 6) (i := 0) C d11_5 rfl A1 rfl rfl ?_
  refine g_istoreN (pc' := 7) (L' := #[.val (.ref a), .val (.int (0 : Int32)), .val (.int x0), .unset]) C d11_6 rfl rfl ?_
  refine g_iconst (pc' := 8) (z := (2 : Int32)) C d11_7 rfl rfl ?_
  refine g_iloadN (pc' := 9) C d11_8 rfl rfl ?_
  refine g_imul (pc' := 10) C d11_9 rfl ?_
  show Go W Q h 0 0 10 #[.val (.ref a), .val (.int (0 : Int32)), .val (.int x0), .unset] [(.int (0 : Int32))]
  refine g_iconst (pc' := 11) (z := (1 : Int32)) C d11_10 rfl rfl ?_
  refine g_iadd (pc' := 12) C d11_11 rfl ?_
  show Go W Q h 0 0 12 #[.val (.ref a), .val (.int (0 : Int32)), .val (.int x0), .unset] [(.int (1 : Int32))]
  refine g_aloadN (pc' := 13) C d11_12 rfl rfl rfl ?_
  refine g_getO (pc' := 16) (j := 3) C d11_13 rfl (hw _ (List.mem_of_getElem? (i := 34) rfl)) O rfl ?_
  refine g_icmpY (xi := 1) (yi := 1) (pc1 := 92) C d11_16 (by decide) rfl rfl rfl (by decide) ?_
  refine g_aloadN (pc' := 93) C d11_92 rfl rfl rfl ?_
  refine g_iloadN (pc' := 94) C d11_93 rfl rfl ?_
  refine g_iloadN (pc' := 95) C d11_94 rfl rfl ?_
  refine g_private (y := (⟨"com/example/triplecore/triplecore/query/PatternQueue", "move", "(II)V"⟩ : MethodName)) (a := a) (pc' := 98) (k' := 0) (n' := 0) (S := []) (as := [(.int x0), (.int (0 : Int32))]) C d11_95 rfl (hw _ (List.mem_of_getElem? (i := 40) rfl)) (hw _ (List.mem_of_getElem? (i := 41) rfl)) (hw _ (List.mem_of_getElem? (i := 2) rfl)) (hw _ (List.mem_of_getElem? (i := 43) rfl)) (hw _ (List.mem_of_getElem? (i := 42) rfl)) (hw _ (List.mem_of_getElem? (i := 1) rfl)) (by decide) O.1 (lenOf pd_0 rfl) (con_move W.l Z a0 hw a b1 b2 b3 (1 : Int32) x0 (0 : Int32) i 0 _ _ hx rfl hi (Nat.le_of_ble_eq_true rfl) q01 q02 q03 q12 q13 q23 h O A1 A2) rfl rfl (Nat.le_of_ble_eq_true rfl) (Nat.le_of_ble_eq_true rfl) rfl rfl (Nat.le_of_ble_eq_true rfl) (Nat.le_of_ble_eq_true rfl) (allS (C.old (List.mem_of_getElem? (i := 0) rfl)) (allS (C.old (List.mem_of_getElem? (i := 1) rfl)) all0)) fun vhw11 hw11 qhw11 Khw11 => ?_
  obtain ⟨rfl, A1, A2⟩ := qhw11
  replace O := O.keep Khw11 (ninS q01 (ninS q02 nin0))
  replace A3 := A3.keep Khw11 (ninS (Ne.symm q13) (ninS (Ne.symm q23) nin0))
  show Go W Q hw11 0 0 98 #[.val (.ref a), .val (.int (0 : Int32)), .val (.int x0), .unset] []
  replace A1 : Ar Z hw11 b1 .int [(.int x0), (.int x1), (.int x2)] := A1
  refine g_return C d11_98 (by decide) (by decide) ?_
  subst hQ
  exact ⟨rfl, A1, A2⟩
set_option maxRecDepth 65536 in
set_option maxHeartbeats 2000000 in
theorem con_down2 (l : Launch) (Z : State) (a0 : Array Value) (hw : ∀ d ∈ tables_1, d.before a0 Z = true) (a b1 b2 b3 : Addr) (x0 x1 x2 u w : Int32) (i j : Nat) (pl ct : List Value) (hx : x0.toInt = i) (hy : x1.toInt = j) (hi : i < pl.length) (hj : j < pl.length) (hu : ct[i]? = some (.int u)) (hv : ct[j]? = some (.int w)) (q01 : a ≠ b1) (q02 : a ≠ b2) (q03 : a ≠ b3) (q12 : b1 ≠ b2) (q13 : b1 ≠ b3) (q23 : b2 ≠ b3) (h : Heap) (O : Ob Z h a "com/example/triplecore/triplecore/query/PatternQueue" [("com/example/triplecore/triplecore/query/PatternQueue", "heap", "[I", (.ref b1)), ("com/example/triplecore/triplecore/query/PatternQueue", "places", "[I", (.ref b2)), ("com/example/triplecore/triplecore/query/PatternQueue", "counts", "[I", (.ref b3)), ("com/example/triplecore/triplecore/query/PatternQueue", "size", "I", (.int (2 : Int32)))]) (A1 : Ar Z h b1 .int [.int x0, .int x1, .int x2]) (A2 : Ar Z h b2 .int pl) (A3 : Ar Z h b3 .int ct) :
    Con l Z [] (⟨"com/example/triplecore/triplecore/query/PatternQueue", "down", "(I)V"⟩ : MethodName) prog_95_method_8_code 4 none ({ frames := 1, cells := 0, slots := 0, locals := 14 } : Room) #[(.ref a), (.int (0 : Int32))] h [b1, b2] (fun v h' => v = none ∧ (Ar Z h' b1 .int [.int x0, .int x1, .int x2] ∧ Ar Z h' b2 .int (pl.set i (.int 0))) ∨ v = none ∧ (Ar Z h' b1 .int [.int x1, .int x0, .int x2] ∧ Ar Z h' b2 .int ((pl.set j (.int 0)).set i (.int 1)))) := by
  refine Con.of_go (L0 := #[.val (.ref a), .val (.int (0 : Int32)), .unset, .unset]) (plainFor_of_name (by first | (simp [plainName, overriddenIn]; done) | decide +kernel)) (locals_of rfl) fun W Q hQ hl C => ?_
  subst hl
  refine g_aloadN (pc' := 1) C d11_0 rfl rfl rfl ?_
  refine g_getO (pc' := 4) (j := 0) C d11_1 rfl (hw _ (List.mem_of_getElem? (i := 10) rfl)) O rfl ?_
  refine g_iloadN (pc' := 5) C d11_4 rfl rfl ?_
  refine g_iaload (pc' := 6) (i := 0) C d11_5 rfl A1 rfl rfl ?_
  refine g_istoreN (pc' := 7) (L' := #[.val (.ref a), .val (.int (0 : Int32)), .val (.int x0), .unset]) C d11_6 rfl rfl ?_
  refine g_iconst (pc' := 8) (z := (2 : Int32)) C d11_7 rfl rfl ?_
  refine g_iloadN (pc' := 9) C d11_8 rfl rfl ?_
  refine g_imul (pc' := 10) C d11_9 rfl ?_
  show Go W Q h 0 0 10 #[.val (.ref a), .val (.int (0 : Int32)), .val (.int x0), .unset] [(.int (0 : Int32))]
  refine g_iconst (pc' := 11) (z := (1 : Int32)) C d11_10 rfl rfl ?_
  refine g_iadd (pc' := 12) C d11_11 rfl ?_
  show Go W Q h 0 0 12 #[.val (.ref a), .val (.int (0 : Int32)), .val (.int x0), .unset] [(.int (1 : Int32))]
  refine g_aloadN (pc' := 13) C d11_12 rfl rfl rfl ?_
  refine g_getO (pc' := 16) (j := 3) C d11_13 rfl (hw _ (List.mem_of_getElem? (i := 34) rfl)) O rfl ?_
  refine g_icmpN (xi := 1) (yi := 2) (pc2 := 19) C d11_16 rfl rfl rfl (by decide) ?_
  refine g_iconst (pc' := 20) (z := (2 : Int32)) C d11_19 rfl rfl ?_
  refine g_iloadN (pc' := 21) C d11_20 rfl rfl ?_
  refine g_imul (pc' := 22) C d11_21 rfl ?_
  show Go W Q h 0 0 22 #[.val (.ref a), .val (.int (0 : Int32)), .val (.int x0), .unset] [(.int (0 : Int32))]
  refine g_iconst (pc' := 23) (z := (1 : Int32)) C d11_22 rfl rfl ?_
  refine g_iadd (pc' := 24) C d11_23 rfl ?_
  show Go W Q h 0 0 24 #[.val (.ref a), .val (.int (0 : Int32)), .val (.int x0), .unset] [(.int (1 : Int32))]
  refine g_istoreN (pc' := 25) (L' := #[.val (.ref a), .val (.int (0 : Int32)), .val (.int x0), .val (.int (1 : Int32))]) C d11_24 rfl rfl ?_
  refine g_iloadN (pc' := 26) C d11_25 rfl rfl ?_
  refine g_iconst (pc' := 27) (z := (1 : Int32)) C d11_26 rfl rfl ?_
  refine g_iadd (pc' := 28) C d11_27 rfl ?_
  show Go W Q h 0 0 28 #[.val (.ref a), .val (.int (0 : Int32)), .val (.int x0), .val (.int (1 : Int32))] [(.int (2 : Int32))]
  refine g_aloadN (pc' := 29) C d11_28 rfl rfl rfl ?_
  refine g_getO (pc' := 32) (j := 3) C d11_29 rfl (hw _ (List.mem_of_getElem? (i := 34) rfl)) O rfl ?_
  refine g_icmpY (xi := 2) (yi := 2) (pc1 := 59) C d11_32 (by decide) rfl rfl rfl (by decide) ?_
  refine g_aloadN (pc' := 60) C d11_59 rfl rfl rfl ?_
  refine g_aloadN (pc' := 61) C d11_60 rfl rfl rfl ?_
  refine g_getO (pc' := 64) (j := 0) C d11_61 rfl (hw _ (List.mem_of_getElem? (i := 10) rfl)) O rfl ?_
  refine g_iloadN (pc' := 65) C d11_64 rfl rfl ?_
  refine g_iaload (pc' := 66) (i := 1) C d11_65 rfl A1 rfl rfl ?_
  refine g_iloadN (pc' := 67) C d11_66 rfl rfl ?_
  refine g_privateP (y := (⟨"com/example/triplecore/triplecore/query/PatternQueue", "before", "(II)Z"⟩ : MethodName)) (a := a) (pc' := 70) (k' := 0) (n' := 0) (S := []) (as := [(.int x1), (.int x0)]) C d11_67 rfl (hw _ (List.mem_of_getElem? (i := 44) rfl)) (hw _ (List.mem_of_getElem? (i := 45) rfl)) (hw _ (List.mem_of_getElem? (i := 2) rfl)) (hw _ (List.mem_of_getElem? (i := 47) rfl)) (hw _ (List.mem_of_getElem? (i := 46) rfl)) (hw _ (List.mem_of_getElem? (i := 1) rfl)) (by decide) O.1 (lenOf pd_1 rfl) (con_before W.l Z a0 hw a b1 b2 b3 (2 : Int32) x1 x0 w u j i ct hy hx hv hu h O A3) rfl rfl (Nat.le_of_ble_eq_true rfl) (Nat.le_of_ble_eq_true rfl) rfl rfl (Nat.le_of_ble_eq_true rfl) (Nat.le_of_ble_eq_true rfl) (S1 := [(.int (b2i (w.toInt < u.toInt ∨ w.toInt = u.toInt ∧ x1.toInt < x0.toInt)))]) rfl ?_
  refine g_ifneb (pc1 := 76) (pc2 := 73) C d11_70 (by decide) rfl rfl rfl (fun (cw270 : w.toInt < u.toInt ∨ w.toInt = u.toInt ∧ x1.toInt < x0.toInt) => ?_) (fun (cw270 : ¬ (w.toInt < u.toInt ∨ w.toInt = u.toInt ∧ x1.toInt < x0.toInt)) => ?_)
  ·
    refine g_aloadN (pc' := 77) C d11_76 rfl rfl rfl ?_
    refine g_aloadN (pc' := 78) C d11_77 rfl rfl rfl ?_
    refine g_getO (pc' := 81) (j := 0) C d11_78 rfl (hw _ (List.mem_of_getElem? (i := 10) rfl)) O rfl ?_
    refine g_iloadN (pc' := 82) C d11_81 rfl rfl ?_
    refine g_iaload (pc' := 83) (i := 1) C d11_82 rfl A1 rfl rfl ?_
    refine g_iloadN (pc' := 84) C d11_83 rfl rfl ?_
    refine g_private (y := (⟨"com/example/triplecore/triplecore/query/PatternQueue", "move", "(II)V"⟩ : MethodName)) (a := a) (pc' := 87) (k' := 0) (n' := 0) (S := []) (as := [(.int x1), (.int (0 : Int32))]) C d11_84 rfl (hw _ (List.mem_of_getElem? (i := 40) rfl)) (hw _ (List.mem_of_getElem? (i := 41) rfl)) (hw _ (List.mem_of_getElem? (i := 2) rfl)) (hw _ (List.mem_of_getElem? (i := 43) rfl)) (hw _ (List.mem_of_getElem? (i := 42) rfl)) (hw _ (List.mem_of_getElem? (i := 1) rfl)) (by decide) O.1 (lenOf pd_0 rfl) (con_move W.l Z a0 hw a b1 b2 b3 (2 : Int32) x1 (0 : Int32) j 0 _ _ hy rfl hj (Nat.le_of_ble_eq_true rfl) q01 q02 q03 q12 q13 q23 h O A1 A2) rfl rfl (Nat.le_of_ble_eq_true rfl) (Nat.le_of_ble_eq_true rfl) rfl rfl (Nat.le_of_ble_eq_true rfl) (Nat.le_of_ble_eq_true rfl) (allS (C.old (List.mem_of_getElem? (i := 0) rfl)) (allS (C.old (List.mem_of_getElem? (i := 1) rfl)) all0)) fun vhw21 hw21 qhw21 Khw21 => ?_
    obtain ⟨rfl, A1, A2⟩ := qhw21
    replace O := O.keep Khw21 (ninS q01 (ninS q02 nin0))
    replace A3 := A3.keep Khw21 (ninS (Ne.symm q13) (ninS (Ne.symm q23) nin0))
    show Go W Q hw21 0 0 87 #[.val (.ref a), .val (.int (0 : Int32)), .val (.int x0), .val (.int (1 : Int32))] []
    replace A1 : Ar Z hw21 b1 .int [(.int x1), (.int x1), (.int x2)] := A1
    refine g_iloadN (pc' := 88) C d11_87 rfl rfl ?_
    refine g_istoreN (pc' := 89) (L' := #[.val (.ref a), .val (.int (1 : Int32)), .val (.int x0), .val (.int (1 : Int32))]) C d11_88 rfl rfl ?_
    refine g_goto C d11_89 (by decide) (pc' := 7) rfl ?_
    refine g_iconst (pc' := 8) (z := (2 : Int32)) C d11_7 rfl rfl ?_
    refine g_iloadN (pc' := 9) C d11_8 rfl rfl ?_
    refine g_imul (pc' := 10) C d11_9 rfl ?_
    show Go W Q hw21 0 0 10 #[.val (.ref a), .val (.int (1 : Int32)), .val (.int x0), .val (.int (1 : Int32))] [(.int (2 : Int32))]
    refine g_iconst (pc' := 11) (z := (1 : Int32)) C d11_10 rfl rfl ?_
    refine g_iadd (pc' := 12) C d11_11 rfl ?_
    show Go W Q hw21 0 0 12 #[.val (.ref a), .val (.int (1 : Int32)), .val (.int x0), .val (.int (1 : Int32))] [(.int (3 : Int32))]
    refine g_aloadN (pc' := 13) C d11_12 rfl rfl rfl ?_
    refine g_getO (pc' := 16) (j := 3) C d11_13 rfl (hw _ (List.mem_of_getElem? (i := 34) rfl)) O rfl ?_
    refine g_icmpY (xi := 3) (yi := 2) (pc1 := 92) C d11_16 (by decide) rfl rfl rfl (by decide) ?_
    refine g_aloadN (pc' := 93) C d11_92 rfl rfl rfl ?_
    refine g_iloadN (pc' := 94) C d11_93 rfl rfl ?_
    refine g_iloadN (pc' := 95) C d11_94 rfl rfl ?_
    refine g_private (y := (⟨"com/example/triplecore/triplecore/query/PatternQueue", "move", "(II)V"⟩ : MethodName)) (a := a) (pc' := 98) (k' := 0) (n' := 0) (S := []) (as := [(.int x0), (.int (1 : Int32))]) C d11_95 rfl (hw _ (List.mem_of_getElem? (i := 40) rfl)) (hw _ (List.mem_of_getElem? (i := 41) rfl)) (hw _ (List.mem_of_getElem? (i := 2) rfl)) (hw _ (List.mem_of_getElem? (i := 43) rfl)) (hw _ (List.mem_of_getElem? (i := 42) rfl)) (hw _ (List.mem_of_getElem? (i := 1) rfl)) (by decide) O.1 (lenOf pd_0 rfl) (con_move W.l Z a0 hw a b1 b2 b3 (2 : Int32) x0 (1 : Int32) i 1 _ _ hx rfl (by rw [ll3]; exact hi) (Nat.le_of_ble_eq_true rfl) q01 q02 q03 q12 q13 q23 hw21 O A1 A2) rfl rfl (Nat.le_of_ble_eq_true rfl) (Nat.le_of_ble_eq_true rfl) rfl rfl (Nat.le_of_ble_eq_true rfl) (Nat.le_of_ble_eq_true rfl) (allS (C.old (List.mem_of_getElem? (i := 0) rfl)) (allS (C.old (List.mem_of_getElem? (i := 1) rfl)) all0)) fun vhw22 hw22 qhw22 Khw22 => ?_
    obtain ⟨rfl, A1, A2⟩ := qhw22
    replace O := O.keep Khw22 (ninS q01 (ninS q02 nin0))
    replace A3 := A3.keep Khw22 (ninS (Ne.symm q13) (ninS (Ne.symm q23) nin0))
    show Go W Q hw22 0 0 98 #[.val (.ref a), .val (.int (1 : Int32)), .val (.int x0), .val (.int (1 : Int32))] []
    replace A1 : Ar Z hw22 b1 .int [(.int x1), (.int x0), (.int x2)] := A1
    refine g_return C d11_98 (by decide) (by decide) ?_
    subst hQ
    exact Or.inr ⟨rfl, A1, A2⟩
  ·
    refine g_goto C d11_73 (by decide) (pc' := 92) rfl ?_
    refine g_aloadN (pc' := 93) C d11_92 rfl rfl rfl ?_
    refine g_iloadN (pc' := 94) C d11_93 rfl rfl ?_
    refine g_iloadN (pc' := 95) C d11_94 rfl rfl ?_
    refine g_private (y := (⟨"com/example/triplecore/triplecore/query/PatternQueue", "move", "(II)V"⟩ : MethodName)) (a := a) (pc' := 98) (k' := 0) (n' := 0) (S := []) (as := [(.int x0), (.int (0 : Int32))]) C d11_95 rfl (hw _ (List.mem_of_getElem? (i := 40) rfl)) (hw _ (List.mem_of_getElem? (i := 41) rfl)) (hw _ (List.mem_of_getElem? (i := 2) rfl)) (hw _ (List.mem_of_getElem? (i := 43) rfl)) (hw _ (List.mem_of_getElem? (i := 42) rfl)) (hw _ (List.mem_of_getElem? (i := 1) rfl)) (by decide) O.1 (lenOf pd_0 rfl) (con_move W.l Z a0 hw a b1 b2 b3 (2 : Int32) x0 (0 : Int32) i 0 _ _ hx rfl hi (Nat.le_of_ble_eq_true rfl) q01 q02 q03 q12 q13 q23 h O A1 A2) rfl rfl (Nat.le_of_ble_eq_true rfl) (Nat.le_of_ble_eq_true rfl) rfl rfl (Nat.le_of_ble_eq_true rfl) (Nat.le_of_ble_eq_true rfl) (allS (C.old (List.mem_of_getElem? (i := 0) rfl)) (allS (C.old (List.mem_of_getElem? (i := 1) rfl)) all0)) fun vhw23 hw23 qhw23 Khw23 => ?_
    obtain ⟨rfl, A1, A2⟩ := qhw23
    replace O := O.keep Khw23 (ninS q01 (ninS q02 nin0))
    replace A3 := A3.keep Khw23 (ninS (Ne.symm q13) (ninS (Ne.symm q23) nin0))
    show Go W Q hw23 0 0 98 #[.val (.ref a), .val (.int (0 : Int32)), .val (.int x0), .val (.int (1 : Int32))] []
    replace A1 : Ar Z hw23 b1 .int [(.int x0), (.int x1), (.int x2)] := A1
    refine g_return C d11_98 (by decide) (by decide) ?_
    subst hQ
    exact Or.inl ⟨rfl, A1, A2⟩
set_option maxRecDepth 65536 in
set_option maxHeartbeats 2000000 in
theorem con_fill (l : Launch) (Z : State) (a0 : Array Value) (hw : ∀ d ∈ tables_1, d.before a0 Z = true) (d : Addr) (e v0 v1 v2 : Int32) (h : Heap) (A : Ar Z h d .int [.int v0, .int v1, .int v2]) :
    Con l Z [] (⟨"java/util/Arrays", "fill", "([II)V"⟩ : MethodName) jdk_65_method_103_code 4 none ({ frames := 0, cells := 0, slots := 0, locals := 0 } : Room) #[(.ref d), (.int e)] h [d] (fun v h' => v = none ∧ Ar Z h' d .int [.int e, .int e, .int e]) := by
  refine Con.of_go (L0 := #[.val (.ref d), .val (.int e), .unset, .unset]) (plainFor_of_name (by first | (simp [plainName, overriddenIn]; done) | decide +kernel)) (locals_of rfl) fun W Q hQ hl C => ?_
  subst hl
  refine g_iconst (pc' := 1) (z := (0 : Int32)) C d3_0 rfl rfl ?_
  refine g_istoreN (pc' := 2) (L' := #[.val (.ref d), .val (.int e), .val (.int (0 : Int32)), .unset]) C d3_1 rfl rfl ?_
  refine g_aloadN (pc' := 3) C d3_2 rfl rfl rfl ?_
  refine g_arraylength (pc' := 4) (z := (3 : Int32)) C d3_3 rfl A rfl ?_
  refine g_istoreN (pc' := 5) (L' := #[.val (.ref d), .val (.int e), .val (.int (0 : Int32)), .val (.int (3 : Int32))]) C d3_4 rfl rfl ?_
  refine g_iloadN (pc' := 6) C d3_5 rfl rfl ?_
  refine g_iloadN (pc' := 7) C d3_6 rfl rfl ?_
  refine g_icmpN (xi := 0) (yi := 3) (pc2 := 10) C d3_7 rfl rfl rfl (by decide) ?_
  refine g_aloadN (pc' := 11) C d3_10 rfl rfl rfl ?_
  refine g_iloadN (pc' := 12) C d3_11 rfl rfl ?_
  refine g_iloadN (pc' := 13) C d3_12 rfl rfl ?_
  refine g_iastore (pc' := 14) (i := 0) (vs' := [(.int e), (.int v1), (.int v2)]) C d3_13 rfl A rfl (Nat.le_of_ble_eq_true rfl) rfl (C.old (List.mem_cons_self ..)) fun h1 A Kh1 => ?_
  refine g_iinc (pc' := 17) (z := (1 : Int32)) (L' := #[.val (.ref d), .val (.int e), .val (.int (1 : Int32)), .val (.int (3 : Int32))]) C d3_14 rfl rfl rfl rfl ?_
  refine g_goto C d3_17 (by decide) (pc' := 5) rfl ?_
  refine g_iloadN (pc' := 6) C d3_5 rfl rfl ?_
  refine g_iloadN (pc' := 7) C d3_6 rfl rfl ?_
  refine g_icmpN (xi := 1) (yi := 3) (pc2 := 10) C d3_7 rfl rfl rfl (by decide) ?_
  refine g_aloadN (pc' := 11) C d3_10 rfl rfl rfl ?_
  refine g_iloadN (pc' := 12) C d3_11 rfl rfl ?_
  refine g_iloadN (pc' := 13) C d3_12 rfl rfl ?_
  refine g_iastore (pc' := 14) (i := 1) (vs' := [(.int e), (.int e), (.int v2)]) C d3_13 rfl A rfl (Nat.le_of_ble_eq_true rfl) rfl (C.old (List.mem_cons_self ..)) fun h2 A Kh2 => ?_
  refine g_iinc (pc' := 17) (z := (2 : Int32)) (L' := #[.val (.ref d), .val (.int e), .val (.int (2 : Int32)), .val (.int (3 : Int32))]) C d3_14 rfl rfl rfl rfl ?_
  refine g_goto C d3_17 (by decide) (pc' := 5) rfl ?_
  refine g_iloadN (pc' := 6) C d3_5 rfl rfl ?_
  refine g_iloadN (pc' := 7) C d3_6 rfl rfl ?_
  refine g_icmpN (xi := 2) (yi := 3) (pc2 := 10) C d3_7 rfl rfl rfl (by decide) ?_
  refine g_aloadN (pc' := 11) C d3_10 rfl rfl rfl ?_
  refine g_iloadN (pc' := 12) C d3_11 rfl rfl ?_
  refine g_iloadN (pc' := 13) C d3_12 rfl rfl ?_
  refine g_iastore (pc' := 14) (i := 2) (vs' := [(.int e), (.int e), (.int e)]) C d3_13 rfl A rfl (Nat.le_of_ble_eq_true rfl) rfl (C.old (List.mem_cons_self ..)) fun h3 A Kh3 => ?_
  refine g_iinc (pc' := 17) (z := (3 : Int32)) (L' := #[.val (.ref d), .val (.int e), .val (.int (3 : Int32)), .val (.int (3 : Int32))]) C d3_14 rfl rfl rfl rfl ?_
  refine g_goto C d3_17 (by decide) (pc' := 5) rfl ?_
  refine g_iloadN (pc' := 6) C d3_5 rfl rfl ?_
  refine g_iloadN (pc' := 7) C d3_6 rfl rfl ?_
  refine g_icmpY (xi := 3) (yi := 3) (pc1 := 20) C d3_7 (by decide) rfl rfl rfl (by decide) ?_
  refine g_return C d3_20 (by decide) (by decide) ?_
  subst hQ
  exact ⟨rfl, A⟩
set_option maxRecDepth 65536 in
set_option maxHeartbeats 2000000 in
theorem con_min (l : Launch) (Z : State) (a0 : Array Value) (hw : ∀ d ∈ tables_1, d.before a0 Z = true) (x y : Int32) (h : Heap)  :
    Con l Z [] (⟨"java/lang/Math", "min", "(II)I"⟩ : MethodName) jdk_29_method_69_code 2 (some .int) ({ frames := 0, cells := 0, slots := 0, locals := 0 } : Room) #[(.int x), (.int y)] h [] (fun v h' => ∃ r : Int32, v = some (.int r) ∧ h = h' ∧ (x.toInt ≤ y.toInt ∧ r.toInt = x.toInt ∨ y.toInt < x.toInt ∧ r.toInt = y.toInt)) := by
  refine Con.of_go (L0 := #[.val (.int x), .val (.int y)]) (Jvm.Free.JP.mathPlain rfl (by decide +kernel)) (locals_of rfl) fun W Q hQ hl C => ?_
  subst hl
  refine g_iloadN (pc' := 1) C d4_0 rfl rfl ?_
  refine g_iloadN (pc' := 2) C d4_1 rfl rfl ?_
  refine g_icmp (xi := x.toInt) (yi := y.toInt) (pc1 := 9) (pc2 := 5) C d4_2 (by decide) rfl rfl rfl rfl (fun (c2 : y.toInt < x.toInt) => ?_) (fun (c2 : ¬ (y.toInt < x.toInt)) => ?_)
  ·
    refine g_iloadN (pc' := 10) C d4_9 rfl rfl ?_
    refine g_retI C d4_10 (by decide) (by decide) ?_
    subst hQ
    exact ⟨_, rfl, rfl, by omega⟩
  ·
    refine g_iloadN (pc' := 6) C d4_5 rfl rfl ?_
    refine g_goto C d4_6 (by decide) (pc' := 10) rfl ?_
    refine g_retI C d4_10 (by decide) (by decide) ?_
    subst hQ
    exact ⟨_, rfl, rfl, by omega⟩
set_option maxRecDepth 65536 in
set_option maxHeartbeats 2000000 in
theorem con_has0 (l : Launch) (Z : State) (a0 : Array Value) (hw : ∀ d ∈ tables_1, d.before a0 Z = true) (a b1 b2 b3 : Addr) (n p z : Int32) (i : Nat) (pl : List Value) (hp : p.toInt = i) (hv : pl[i]? = some (.int z)) (hz : z.toInt < 0) (h : Heap) (O : Ob Z h a "com/example/triplecore/triplecore/query/PatternQueue" [("com/example/triplecore/triplecore/query/PatternQueue", "heap", "[I", (.ref b1)), ("com/example/triplecore/triplecore/query/PatternQueue", "places", "[I", (.ref b2)), ("com/example/triplecore/triplecore/query/PatternQueue", "counts", "[I", (.ref b3)), ("com/example/triplecore/triplecore/query/PatternQueue", "size", "I", (.int n))]) (A2 : Ar Z h b2 .int pl) :
    Con l Z [] (⟨"com/example/triplecore/triplecore/query/PatternQueue", "contains", "(I)Z"⟩ : MethodName) prog_95_method_2_code 2 (some .boolean) ({ frames := 0, cells := 0, slots := 0, locals := 0 } : Room) #[(.ref a), (.int p)] h [] (fun v h' => v = some (.int 0) ∧ h' = h) := by
  refine Con.of_go (L0 := #[.val (.ref a), .val (.int p)]) (plainFor_of_name (by first | (simp [plainName, overriddenIn]; done) | decide +kernel)) (locals_of rfl) fun W Q hQ hl C => ?_
  subst hl
  refine g_aloadN (pc' := 1) C d5_0 rfl rfl rfl ?_
  refine g_getO (pc' := 4) (j := 1) C d5_1 rfl (hw _ (List.mem_of_getElem? (i := 12) rfl)) O rfl ?_
  refine g_iloadN (pc' := 5) C d5_4 rfl rfl ?_
  refine g_iaload (pc' := 6) C d5_5 rfl A2 hp hv ?_
  refine g_ifY (xi := z.toInt) (pc1 := 13) C d5_6 (by decide) rfl rfl hz ?_
  refine g_iconst (pc' := 14) (z := (0 : Int32)) C d5_13 rfl rfl ?_
  refine g_retN C (by simp) d5_14 (by decide) (by decide) ?_
  subst hQ
  exact ⟨rfl, rfl⟩
set_option maxRecDepth 65536 in
set_option maxHeartbeats 2000000 in
theorem con_has1 (l : Launch) (Z : State) (a0 : Array Value) (hw : ∀ d ∈ tables_1, d.before a0 Z = true) (a b1 b2 b3 : Addr) (n p z : Int32) (i : Nat) (pl : List Value) (hp : p.toInt = i) (hv : pl[i]? = some (.int z)) (hz : ¬ z.toInt < 0) (h : Heap) (O : Ob Z h a "com/example/triplecore/triplecore/query/PatternQueue" [("com/example/triplecore/triplecore/query/PatternQueue", "heap", "[I", (.ref b1)), ("com/example/triplecore/triplecore/query/PatternQueue", "places", "[I", (.ref b2)), ("com/example/triplecore/triplecore/query/PatternQueue", "counts", "[I", (.ref b3)), ("com/example/triplecore/triplecore/query/PatternQueue", "size", "I", (.int n))]) (A2 : Ar Z h b2 .int pl) :
    Con l Z [] (⟨"com/example/triplecore/triplecore/query/PatternQueue", "contains", "(I)Z"⟩ : MethodName) prog_95_method_2_code 2 (some .boolean) ({ frames := 0, cells := 0, slots := 0, locals := 0 } : Room) #[(.ref a), (.int p)] h [] (fun v h' => v = some (.int 1) ∧ h' = h) := by
  refine Con.of_go (L0 := #[.val (.ref a), .val (.int p)]) (plainFor_of_name (by first | (simp [plainName, overriddenIn]; done) | decide +kernel)) (locals_of rfl) fun W Q hQ hl C => ?_
  subst hl
  refine g_aloadN (pc' := 1) C d5_0 rfl rfl rfl ?_
  refine g_getO (pc' := 4) (j := 1) C d5_1 rfl (hw _ (List.mem_of_getElem? (i := 12) rfl)) O rfl ?_
  refine g_iloadN (pc' := 5) C d5_4 rfl rfl ?_
  refine g_iaload (pc' := 6) C d5_5 rfl A2 hp hv ?_
  refine g_ifN (xi := z.toInt) (pc2 := 9) C d5_6 rfl rfl hz ?_
  refine g_iconst (pc' := 10) (z := (1 : Int32)) C d5_9 rfl rfl ?_
  refine g_goto C d5_10 (by decide) (pc' := 14) rfl ?_
  refine g_retN C (by simp) d5_14 (by decide) (by decide) ?_
  subst hQ
  exact ⟨rfl, rfl⟩
set_option maxRecDepth 65536 in
set_option maxHeartbeats 2000000 in
theorem con_init (l : Launch) (Z : State) (a0 : Array Value) (hw : ∀ d ∈ tables_1, d.before a0 Z = true) (a : Addr) (h : Heap) (O : Ob Z h a "com/example/triplecore/triplecore/query/PatternQueue" [("com/example/triplecore/triplecore/query/PatternQueue", "heap", "[I", .null), ("com/example/triplecore/triplecore/query/PatternQueue", "places", "[I", .null), ("com/example/triplecore/triplecore/query/PatternQueue", "counts", "[I", .null), ("com/example/triplecore/triplecore/query/PatternQueue", "size", "I", (.int (0 : Int32)))]) :
    Con l Z [] (⟨"com/example/triplecore/triplecore/query/PatternQueue", "<init>", "(I)V"⟩ : MethodName) prog_95_method_1_code 2 none ({ frames := 1, cells := 3, slots := 9, locals := 16 } : Room) #[(.ref a), (.int (3 : Int32))] h [a] (fun v h' => v = none ∧ ∃ b1 b2 b3 : Addr, h.size ≤ b1 ∧ h.size ≤ b2 ∧ h.size ≤ b3 ∧ a ≠ b1 ∧ a ≠ b2 ∧ a ≠ b3 ∧ b1 ≠ b2 ∧ b1 ≠ b3 ∧ b2 ≠ b3 ∧ PQ Z h' a b1 b2 b3 0 G_e) := by
  refine Con.of_go (L0 := #[.val (.ref a), .val (.int (3 : Int32))]) (plainFor_of_name (by first | (simp [plainName, overriddenIn]; done) | decide +kernel)) (locals_of rfl) fun W Q hQ hl C => ?_
  subst hl
  have z0 : h.size ≤ h.size := Nat.le_refl _
  refine g_aloadN (pc' := 1) C d1_0 rfl rfl rfl ?_
  refine g_initO (pc' := 4) C d1_1 rfl (hw _ (List.mem_of_getElem? (i := 6) rfl)) (hw _ (List.mem_of_getElem? (i := 7) rfl)) (hw _ (List.mem_of_getElem? (i := 8) rfl)) rfl (by decide) (Nat.le_of_ble_eq_true rfl) ?_
  refine g_aloadN (pc' := 5) C d1_4 rfl rfl rfl ?_
  refine g_iloadN (pc' := 6) C d1_5 rfl rfl ?_
  refine g_newarray (pc' := 8) (ty := .int) (len := 3) (cap := 3) (k' := 1) (n' := 3) C d1_6 rfl rfl (hw _ (List.mem_of_getElem? (i := 9) rfl)) rfl (by decide) (by decide) rfl rfl (by decide) (by decide) fun h1 a1 e_a1 Eh1 Aa1 w_a1 => ?_
  have n_a_a1 : a ≠ a1 := by rw [e_a1]; exact Nat.ne_of_lt O.lt
  replace O := O.ext Eh1
  replace Aa1 : Ar Z h1 a1 .int [(.int (0 : Int32)), (.int (0 : Int32)), (.int (0 : Int32))] := Aa1
  have g_a1 : h.size ≤ a1 := by rw [e_a1]; exact z0
  have z_h1 : h.size ≤ h1.size := Nat.le_trans z0 Eh1.1
  refine g_putO (pc' := 11) (j := 0) (ty := (.array .int)) (v' := (.ref a1)) (fs' := [("com/example/triplecore/triplecore/query/PatternQueue", "heap", "[I", (.ref a1)), ("com/example/triplecore/triplecore/query/PatternQueue", "places", "[I", .null), ("com/example/triplecore/triplecore/query/PatternQueue", "counts", "[I", .null), ("com/example/triplecore/triplecore/query/PatternQueue", "size", "I", (.int (0 : Int32)))]) C d1_8 rfl (hw _ (List.mem_of_getElem? (i := 10) rfl)) Via.refl O rfl (Or.inr ⟨(hw _ (List.mem_of_getElem? (i := 11) rfl)), rfl, rfl⟩) (hw _ (List.mem_of_getElem? (i := 1) rfl)) (by decide) rfl rfl rfl (C.old (List.mem_cons_self ..)) fun h2 O Kh2 => ?_
  replace Aa1 := Aa1.keep Kh2 (ninS (Ne.symm n_a_a1) nin0)
  have z_h2 : h.size ≤ h2.size := Nat.le_trans z_h1 Kh2.1
  refine g_aloadN (pc' := 12) C d1_11 rfl rfl rfl ?_
  refine g_iloadN (pc' := 13) C d1_12 rfl rfl ?_
  refine g_newarray (pc' := 15) (ty := .int) (len := 3) (cap := 3) (k' := 2) (n' := 6) C d1_13 rfl rfl (hw _ (List.mem_of_getElem? (i := 9) rfl)) rfl (by decide) (by decide) rfl rfl (by decide) (by decide) fun h3 a2 e_a2 Eh3 Aa2 w_a2 => ?_
  have n_a_a2 : a ≠ a2 := by rw [e_a2]; exact Nat.ne_of_lt O.lt
  have n_a1_a2 : a1 ≠ a2 := by rw [e_a2]; exact Nat.ne_of_lt Aa1.lt
  replace O := O.ext Eh3
  replace Aa1 := Aa1.ext Eh3
  replace Aa2 : Ar Z h3 a2 .int [(.int (0 : Int32)), (.int (0 : Int32)), (.int (0 : Int32))] := Aa2
  have g_a2 : h.size ≤ a2 := by rw [e_a2]; exact z_h2
  have z_h3 : h.size ≤ h3.size := Nat.le_trans z_h2 Eh3.1
  refine g_putO (pc' := 18) (j := 1) (ty := (.array .int)) (v' := (.ref a2)) (fs' := [("com/example/triplecore/triplecore/query/PatternQueue", "heap", "[I", (.ref a1)), ("com/example/triplecore/triplecore/query/PatternQueue", "places", "[I", (.ref a2)), ("com/example/triplecore/triplecore/query/PatternQueue", "counts", "[I", .null), ("com/example/triplecore/triplecore/query/PatternQueue", "size", "I", (.int (0 : Int32)))]) C d1_15 rfl (hw _ (List.mem_of_getElem? (i := 12) rfl)) Via.refl O rfl (Or.inr ⟨(hw _ (List.mem_of_getElem? (i := 13) rfl)), rfl, rfl⟩) (hw _ (List.mem_of_getElem? (i := 1) rfl)) (by decide) rfl rfl rfl (C.old (List.mem_cons_self ..)) fun h4 O Kh4 => ?_
  replace Aa1 := Aa1.keep Kh4 (ninS (Ne.symm n_a_a1) nin0)
  replace Aa2 := Aa2.keep Kh4 (ninS (Ne.symm n_a_a2) nin0)
  have z_h4 : h.size ≤ h4.size := Nat.le_trans z_h3 Kh4.1
  refine g_aloadN (pc' := 19) C d1_18 rfl rfl rfl ?_
  refine g_getO (pc' := 22) (j := 1) C d1_19 rfl (hw _ (List.mem_of_getElem? (i := 12) rfl)) O rfl ?_
  refine g_iconst (pc' := 23) (z := (-1 : Int32)) C d1_22 rfl rfl ?_
  refine g_static (y := (⟨"java/util/Arrays", "fill", "([II)V"⟩ : MethodName)) (pc' := 26) (k' := 2) (n' := 6) (S := []) (as := [(.ref a2), (.int (-1 : Int32))]) C d1_23 rfl (hw _ (List.mem_of_getElem? (i := 14) rfl)) (hw _ (List.mem_of_getElem? (i := 15) rfl)) (hw _ (List.mem_of_getElem? (i := 16) rfl)) (hw _ (List.mem_of_getElem? (i := 17) rfl)) (by decide) (lenOf pd_2 rfl) (con_fill W.l Z a0 hw a2 (-1 : Int32) 0 0 0 h4 Aa2) rfl rfl (Nat.le_of_ble_eq_true rfl) (Nat.le_of_ble_eq_true rfl) rfl rfl (Nat.le_of_ble_eq_true rfl) (Nat.le_of_ble_eq_true rfl) (allS w_a2 all0) fun vh5 h5 qh5 Kh5 => ?_
  obtain ⟨rfl, Aa2⟩ := qh5
  replace O := O.keep Kh5 (ninS n_a_a2 nin0)
  replace Aa1 := Aa1.keep Kh5 (ninS n_a1_a2 nin0)
  show Go W Q h5 2 6 26 #[.val (.ref a), .val (.int (3 : Int32))] []
  have z_h5 : h.size ≤ h5.size := Nat.le_trans z_h4 Kh5.1
  refine g_aloadN (pc' := 27) C d1_26 rfl rfl rfl ?_
  refine g_iloadN (pc' := 28) C d1_27 rfl rfl ?_
  refine g_newarray (pc' := 30) (ty := .int) (len := 3) (cap := 3) (k' := 3) (n' := 9) C d1_28 rfl rfl (hw _ (List.mem_of_getElem? (i := 9) rfl)) rfl (by decide) (by decide) rfl rfl (by decide) (by decide) fun h6 a3 e_a3 Eh6 Aa3 w_a3 => ?_
  have n_a_a3 : a ≠ a3 := by rw [e_a3]; exact Nat.ne_of_lt O.lt
  have n_a1_a3 : a1 ≠ a3 := by rw [e_a3]; exact Nat.ne_of_lt Aa1.lt
  have n_a2_a3 : a2 ≠ a3 := by rw [e_a3]; exact Nat.ne_of_lt Aa2.lt
  replace O := O.ext Eh6
  replace Aa1 := Aa1.ext Eh6
  replace Aa2 := Aa2.ext Eh6
  replace Aa3 : Ar Z h6 a3 .int [(.int (0 : Int32)), (.int (0 : Int32)), (.int (0 : Int32))] := Aa3
  have g_a3 : h.size ≤ a3 := by rw [e_a3]; exact z_h5
  have z_h6 : h.size ≤ h6.size := Nat.le_trans z_h5 Eh6.1
  refine g_putO (pc' := 33) (j := 2) (ty := (.array .int)) (v' := (.ref a3)) (fs' := [("com/example/triplecore/triplecore/query/PatternQueue", "heap", "[I", (.ref a1)), ("com/example/triplecore/triplecore/query/PatternQueue", "places", "[I", (.ref a2)), ("com/example/triplecore/triplecore/query/PatternQueue", "counts", "[I", (.ref a3)), ("com/example/triplecore/triplecore/query/PatternQueue", "size", "I", (.int (0 : Int32)))]) C d1_30 rfl (hw _ (List.mem_of_getElem? (i := 18) rfl)) Via.refl O rfl (Or.inr ⟨(hw _ (List.mem_of_getElem? (i := 19) rfl)), rfl, rfl⟩) (hw _ (List.mem_of_getElem? (i := 1) rfl)) (by decide) rfl rfl rfl (C.old (List.mem_cons_self ..)) fun h7 O Kh7 => ?_
  replace Aa1 := Aa1.keep Kh7 (ninS (Ne.symm n_a_a1) nin0)
  replace Aa2 := Aa2.keep Kh7 (ninS (Ne.symm n_a_a2) nin0)
  replace Aa3 := Aa3.keep Kh7 (ninS (Ne.symm n_a_a3) nin0)
  have z_h7 : h.size ≤ h7.size := Nat.le_trans z_h6 Kh7.1
  refine g_return C d1_33 (by decide) (by decide) ?_
  subst hQ
  exact ⟨rfl, a1, a2, a3, g_a1, g_a2, g_a3, n_a_a1, n_a_a2, n_a_a3, n_a1_a2, n_a1_a3, n_a2_a3, 0, 0, 0, -1, -1, -1, 0, 0, 0, ⟨rfl, rfl, rfl⟩, O, Aa1, Aa2, Aa3⟩
set_option maxRecDepth 65536 in
set_option maxHeartbeats 2000000 in
theorem con_add_G_e_0 (l : Launch) (Z : State) (a0 : Array Value) (hw : ∀ d ∈ tables_1, d.before a0 Z = true) (a b1 b2 b3 : Addr) (e : Int32) (q01 : a ≠ b1) (q02 : a ≠ b2) (q03 : a ≠ b3) (q12 : b1 ≠ b2) (q13 : b1 ≠ b3) (q23 : b2 ≠ b3) (h : Heap) (B : PQ Z h a b1 b2 b3 0 G_e) :
    Con l Z [] (⟨"com/example/triplecore/triplecore/query/PatternQueue", "add", "(II)V"⟩ : MethodName) prog_95_method_3_code 3 none ({ frames := 2, cells := 0, slots := 0, locals := 29 } : Room) #[(.ref a), (.int (0 : Int32)), (.int e)] h [a, b1, b2, b3] (fun v h' => v = none ∧ PQ Z h' a b1 b2 b3 1 G_0) := by
  obtain ⟨x0, x1, x2, l0, l1, l2, c0, c1, c2, g, O, A1, A2, A3⟩ := B
  refine Con.of_go (L0 := #[.val (.ref a), .val (.int (0 : Int32)), .val (.int e)]) (plainFor_of_name (by first | (simp [plainName, overriddenIn]; done) | decide +kernel)) (locals_of rfl) fun W Q hQ hl C => ?_
  subst hl
  rcases g with ⟨rfl, rfl, rfl⟩
  ·
    refine g_aloadN (pc' := 1) C d6_0 rfl rfl rfl ?_
    refine g_getO (pc' := 4) (j := 2) C d6_1 rfl (hw _ (List.mem_of_getElem? (i := 18) rfl)) O rfl ?_
    refine g_iloadN (pc' := 5) C d6_4 rfl rfl ?_
    refine g_iloadN (pc' := 6) C d6_5 rfl rfl ?_
    refine g_iastore (pc' := 7) (i := 0) (vs' := [(.int e), (.int c1), (.int c2)]) C d6_6 rfl A3 rfl (Nat.le_of_ble_eq_true rfl) rfl (C.old (List.mem_of_getElem? (i := 3) rfl)) fun ha1 A3 Kha1 => ?_
    replace O := O.keep Kha1 (ninS q03 nin0)
    replace A1 := A1.keep Kha1 (ninS q13 nin0)
    replace A2 := A2.keep Kha1 (ninS q23 nin0)
    refine g_aloadN (pc' := 8) C d6_7 rfl rfl rfl ?_
    refine g_getO (pc' := 11) (j := 0) C d6_8 rfl (hw _ (List.mem_of_getElem? (i := 10) rfl)) O rfl ?_
    refine g_aloadN (pc' := 12) C d6_11 rfl rfl rfl ?_
    refine g_getO (pc' := 15) (j := 3) C d6_12 rfl (hw _ (List.mem_of_getElem? (i := 34) rfl)) O rfl ?_
    refine g_iloadN (pc' := 16) C d6_15 rfl rfl ?_
    refine g_iastore (pc' := 17) (i := 0) (vs' := [(.int (0 : Int32)), (.int x1), (.int x2)]) C d6_16 rfl A1 rfl (Nat.le_of_ble_eq_true rfl) rfl (C.old (List.mem_of_getElem? (i := 1) rfl)) fun ha2 A1 Kha2 => ?_
    replace O := O.keep Kha2 (ninS q01 nin0)
    replace A2 := A2.keep Kha2 (ninS (Ne.symm q12) nin0)
    replace A3 := A3.keep Kha2 (ninS (Ne.symm q13) nin0)
    refine g_aloadN (pc' := 18) C d6_17 rfl rfl rfl ?_
    refine g_getO (pc' := 21) (j := 1) C d6_18 rfl (hw _ (List.mem_of_getElem? (i := 12) rfl)) O rfl ?_
    refine g_iloadN (pc' := 22) C d6_21 rfl rfl ?_
    refine g_aloadN (pc' := 23) C d6_22 rfl rfl rfl ?_
    refine g_getO (pc' := 26) (j := 3) C d6_23 rfl (hw _ (List.mem_of_getElem? (i := 34) rfl)) O rfl ?_
    refine g_iastore (pc' := 27) (i := 0) (vs' := [(.int (0 : Int32)), (.int (-1 : Int32)), (.int (-1 : Int32))]) C d6_26 rfl A2 rfl (Nat.le_of_ble_eq_true rfl) rfl (C.old (List.mem_of_getElem? (i := 2) rfl)) fun ha3 A2 Kha3 => ?_
    replace O := O.keep Kha3 (ninS q02 nin0)
    replace A1 := A1.keep Kha3 (ninS q12 nin0)
    replace A3 := A3.keep Kha3 (ninS (Ne.symm q23) nin0)
    refine g_aloadN (pc' := 28) C d6_27 rfl rfl rfl ?_
    refine g_dup (pc' := 29) C d6_28 rfl rfl ?_
    refine g_getO (pc' := 32) (j := 3) C d6_29 rfl (hw _ (List.mem_of_getElem? (i := 34) rfl)) O rfl ?_
    refine g_iconst (pc' := 33) (z := (1 : Int32)) C d6_32 rfl rfl ?_
    refine g_iadd (pc' := 34) C d6_33 rfl ?_
    show Go W Q ha3 0 0 34 #[.val (.ref a), .val (.int (0 : Int32)), .val (.int e)] [(.int (1 : Int32)), (.ref a)]
    refine g_putO (pc' := 37) (j := 3) (ty := .int) (v' := (.int (1 : Int32))) (fs' := [("com/example/triplecore/triplecore/query/PatternQueue", "heap", "[I", (.ref b1)), ("com/example/triplecore/triplecore/query/PatternQueue", "places", "[I", (.ref b2)), ("com/example/triplecore/triplecore/query/PatternQueue", "counts", "[I", (.ref b3)), ("com/example/triplecore/triplecore/query/PatternQueue", "size", "I", (.int (1 : Int32)))]) C d6_34 rfl (hw _ (List.mem_of_getElem? (i := 34) rfl)) Via.refl O rfl (Or.inl (hw _ (List.mem_of_getElem? (i := 35) rfl))) (hw _ (List.mem_of_getElem? (i := 1) rfl)) (by decide) rfl rfl rfl (C.old (List.mem_of_getElem? (i := 0) rfl)) fun ha4 O Kha4 => ?_
    replace A1 := A1.keep Kha4 (ninS (Ne.symm q01) nin0)
    replace A2 := A2.keep Kha4 (ninS (Ne.symm q02) nin0)
    replace A3 := A3.keep Kha4 (ninS (Ne.symm q03) nin0)
    refine g_aloadN (pc' := 38) C d6_37 rfl rfl rfl ?_
    refine g_aloadN (pc' := 39) C d6_38 rfl rfl rfl ?_
    refine g_getO (pc' := 42) (j := 3) C d6_39 rfl (hw _ (List.mem_of_getElem? (i := 34) rfl)) O rfl ?_
    refine g_iconst (pc' := 43) (z := (1 : Int32)) C d6_42 rfl rfl ?_
    refine g_isub (pc' := 44) C d6_43 rfl ?_
    show Go W Q ha4 0 0 44 #[.val (.ref a), .val (.int (0 : Int32)), .val (.int e)] [(.int (0 : Int32)), (.ref a)]
    refine g_private (y := (⟨"com/example/triplecore/triplecore/query/PatternQueue", "up", "(I)V"⟩ : MethodName)) (a := a) (pc' := 47) (k' := 0) (n' := 0) (S := []) (as := [(.int (0 : Int32))]) C d6_44 rfl (hw _ (List.mem_of_getElem? (i := 36) rfl)) (hw _ (List.mem_of_getElem? (i := 37) rfl)) (hw _ (List.mem_of_getElem? (i := 2) rfl)) (hw _ (List.mem_of_getElem? (i := 39) rfl)) (hw _ (List.mem_of_getElem? (i := 38) rfl)) (hw _ (List.mem_of_getElem? (i := 1) rfl)) (by decide) O.1 (lenOf pd_3 rfl) (con_up0 W.l Z a0 hw a b1 b2 b3 (1 : Int32) (0 : Int32) x1 x2 e e 0 0 _ _ rfl rfl (Nat.le_of_ble_eq_true rfl) (Nat.le_of_ble_eq_true rfl) rfl rfl q01 q02 q03 q12 q13 q23 ha4 O A1 A2 A3) rfl rfl (Nat.le_of_ble_eq_true rfl) (Nat.le_of_ble_eq_true rfl) rfl rfl (Nat.le_of_ble_eq_true rfl) (Nat.le_of_ble_eq_true rfl) (allS (C.old (List.mem_of_getElem? (i := 1) rfl)) (allS (C.old (List.mem_of_getElem? (i := 2) rfl)) all0)) fun vha5 ha5 qha5 Kha5 => ?_
    obtain ⟨rfl, A1, A2⟩ := qha5
    replace O := O.keep Kha5 (ninS q01 (ninS q02 nin0))
    replace A3 := A3.keep Kha5 (ninS (Ne.symm q13) (ninS (Ne.symm q23) nin0))
    replace A1 : Ar Z ha5 b1 .int [(.int (0 : Int32)), (.int x1), (.int x2)] := A1
    replace A2 : Ar Z ha5 b2 .int [(.int (0 : Int32)), (.int (-1 : Int32)), (.int (-1 : Int32))] := A2
    show Go W Q ha5 0 0 47 #[.val (.ref a), .val (.int (0 : Int32)), .val (.int e)] []
    refine g_return C d6_47 (by decide) (by decide) ?_
    subst hQ
    exact ⟨rfl, ⟨(0 : Int32), x1, x2, (0 : Int32), (-1 : Int32), (-1 : Int32), e, c1, c2, ⟨rfl, rfl, rfl, rfl⟩, O, A1, A2, A3⟩⟩
set_option maxRecDepth 65536 in
set_option maxHeartbeats 2000000 in
theorem con_add_G_e_1 (l : Launch) (Z : State) (a0 : Array Value) (hw : ∀ d ∈ tables_1, d.before a0 Z = true) (a b1 b2 b3 : Addr) (e : Int32) (q01 : a ≠ b1) (q02 : a ≠ b2) (q03 : a ≠ b3) (q12 : b1 ≠ b2) (q13 : b1 ≠ b3) (q23 : b2 ≠ b3) (h : Heap) (B : PQ Z h a b1 b2 b3 0 G_e) :
    Con l Z [] (⟨"com/example/triplecore/triplecore/query/PatternQueue", "add", "(II)V"⟩ : MethodName) prog_95_method_3_code 3 none ({ frames := 2, cells := 0, slots := 0, locals := 29 } : Room) #[(.ref a), (.int (1 : Int32)), (.int e)] h [a, b1, b2, b3] (fun v h' => v = none ∧ PQ Z h' a b1 b2 b3 1 G_1) := by
  obtain ⟨x0, x1, x2, l0, l1, l2, c0, c1, c2, g, O, A1, A2, A3⟩ := B
  refine Con.of_go (L0 := #[.val (.ref a), .val (.int (1 : Int32)), .val (.int e)]) (plainFor_of_name (by first | (simp [plainName, overriddenIn]; done) | decide +kernel)) (locals_of rfl) fun W Q hQ hl C => ?_
  subst hl
  rcases g with ⟨rfl, rfl, rfl⟩
  ·
    refine g_aloadN (pc' := 1) C d6_0 rfl rfl rfl ?_
    refine g_getO (pc' := 4) (j := 2) C d6_1 rfl (hw _ (List.mem_of_getElem? (i := 18) rfl)) O rfl ?_
    refine g_iloadN (pc' := 5) C d6_4 rfl rfl ?_
    refine g_iloadN (pc' := 6) C d6_5 rfl rfl ?_
    refine g_iastore (pc' := 7) (i := 1) (vs' := [(.int c0), (.int e), (.int c2)]) C d6_6 rfl A3 rfl (Nat.le_of_ble_eq_true rfl) rfl (C.old (List.mem_of_getElem? (i := 3) rfl)) fun ha1 A3 Kha1 => ?_
    replace O := O.keep Kha1 (ninS q03 nin0)
    replace A1 := A1.keep Kha1 (ninS q13 nin0)
    replace A2 := A2.keep Kha1 (ninS q23 nin0)
    refine g_aloadN (pc' := 8) C d6_7 rfl rfl rfl ?_
    refine g_getO (pc' := 11) (j := 0) C d6_8 rfl (hw _ (List.mem_of_getElem? (i := 10) rfl)) O rfl ?_
    refine g_aloadN (pc' := 12) C d6_11 rfl rfl rfl ?_
    refine g_getO (pc' := 15) (j := 3) C d6_12 rfl (hw _ (List.mem_of_getElem? (i := 34) rfl)) O rfl ?_
    refine g_iloadN (pc' := 16) C d6_15 rfl rfl ?_
    refine g_iastore (pc' := 17) (i := 0) (vs' := [(.int (1 : Int32)), (.int x1), (.int x2)]) C d6_16 rfl A1 rfl (Nat.le_of_ble_eq_true rfl) rfl (C.old (List.mem_of_getElem? (i := 1) rfl)) fun ha2 A1 Kha2 => ?_
    replace O := O.keep Kha2 (ninS q01 nin0)
    replace A2 := A2.keep Kha2 (ninS (Ne.symm q12) nin0)
    replace A3 := A3.keep Kha2 (ninS (Ne.symm q13) nin0)
    refine g_aloadN (pc' := 18) C d6_17 rfl rfl rfl ?_
    refine g_getO (pc' := 21) (j := 1) C d6_18 rfl (hw _ (List.mem_of_getElem? (i := 12) rfl)) O rfl ?_
    refine g_iloadN (pc' := 22) C d6_21 rfl rfl ?_
    refine g_aloadN (pc' := 23) C d6_22 rfl rfl rfl ?_
    refine g_getO (pc' := 26) (j := 3) C d6_23 rfl (hw _ (List.mem_of_getElem? (i := 34) rfl)) O rfl ?_
    refine g_iastore (pc' := 27) (i := 1) (vs' := [(.int (-1 : Int32)), (.int (0 : Int32)), (.int (-1 : Int32))]) C d6_26 rfl A2 rfl (Nat.le_of_ble_eq_true rfl) rfl (C.old (List.mem_of_getElem? (i := 2) rfl)) fun ha3 A2 Kha3 => ?_
    replace O := O.keep Kha3 (ninS q02 nin0)
    replace A1 := A1.keep Kha3 (ninS q12 nin0)
    replace A3 := A3.keep Kha3 (ninS (Ne.symm q23) nin0)
    refine g_aloadN (pc' := 28) C d6_27 rfl rfl rfl ?_
    refine g_dup (pc' := 29) C d6_28 rfl rfl ?_
    refine g_getO (pc' := 32) (j := 3) C d6_29 rfl (hw _ (List.mem_of_getElem? (i := 34) rfl)) O rfl ?_
    refine g_iconst (pc' := 33) (z := (1 : Int32)) C d6_32 rfl rfl ?_
    refine g_iadd (pc' := 34) C d6_33 rfl ?_
    show Go W Q ha3 0 0 34 #[.val (.ref a), .val (.int (1 : Int32)), .val (.int e)] [(.int (1 : Int32)), (.ref a)]
    refine g_putO (pc' := 37) (j := 3) (ty := .int) (v' := (.int (1 : Int32))) (fs' := [("com/example/triplecore/triplecore/query/PatternQueue", "heap", "[I", (.ref b1)), ("com/example/triplecore/triplecore/query/PatternQueue", "places", "[I", (.ref b2)), ("com/example/triplecore/triplecore/query/PatternQueue", "counts", "[I", (.ref b3)), ("com/example/triplecore/triplecore/query/PatternQueue", "size", "I", (.int (1 : Int32)))]) C d6_34 rfl (hw _ (List.mem_of_getElem? (i := 34) rfl)) Via.refl O rfl (Or.inl (hw _ (List.mem_of_getElem? (i := 35) rfl))) (hw _ (List.mem_of_getElem? (i := 1) rfl)) (by decide) rfl rfl rfl (C.old (List.mem_of_getElem? (i := 0) rfl)) fun ha4 O Kha4 => ?_
    replace A1 := A1.keep Kha4 (ninS (Ne.symm q01) nin0)
    replace A2 := A2.keep Kha4 (ninS (Ne.symm q02) nin0)
    replace A3 := A3.keep Kha4 (ninS (Ne.symm q03) nin0)
    refine g_aloadN (pc' := 38) C d6_37 rfl rfl rfl ?_
    refine g_aloadN (pc' := 39) C d6_38 rfl rfl rfl ?_
    refine g_getO (pc' := 42) (j := 3) C d6_39 rfl (hw _ (List.mem_of_getElem? (i := 34) rfl)) O rfl ?_
    refine g_iconst (pc' := 43) (z := (1 : Int32)) C d6_42 rfl rfl ?_
    refine g_isub (pc' := 44) C d6_43 rfl ?_
    show Go W Q ha4 0 0 44 #[.val (.ref a), .val (.int (1 : Int32)), .val (.int e)] [(.int (0 : Int32)), (.ref a)]
    refine g_private (y := (⟨"com/example/triplecore/triplecore/query/PatternQueue", "up", "(I)V"⟩ : MethodName)) (a := a) (pc' := 47) (k' := 0) (n' := 0) (S := []) (as := [(.int (0 : Int32))]) C d6_44 rfl (hw _ (List.mem_of_getElem? (i := 36) rfl)) (hw _ (List.mem_of_getElem? (i := 37) rfl)) (hw _ (List.mem_of_getElem? (i := 2) rfl)) (hw _ (List.mem_of_getElem? (i := 39) rfl)) (hw _ (List.mem_of_getElem? (i := 38) rfl)) (hw _ (List.mem_of_getElem? (i := 1) rfl)) (by decide) O.1 (lenOf pd_3 rfl) (con_up0 W.l Z a0 hw a b1 b2 b3 (1 : Int32) (1 : Int32) x1 x2 e e 1 1 _ _ rfl rfl (Nat.le_of_ble_eq_true rfl) (Nat.le_of_ble_eq_true rfl) rfl rfl q01 q02 q03 q12 q13 q23 ha4 O A1 A2 A3) rfl rfl (Nat.le_of_ble_eq_true rfl) (Nat.le_of_ble_eq_true rfl) rfl rfl (Nat.le_of_ble_eq_true rfl) (Nat.le_of_ble_eq_true rfl) (allS (C.old (List.mem_of_getElem? (i := 1) rfl)) (allS (C.old (List.mem_of_getElem? (i := 2) rfl)) all0)) fun vha5 ha5 qha5 Kha5 => ?_
    obtain ⟨rfl, A1, A2⟩ := qha5
    replace O := O.keep Kha5 (ninS q01 (ninS q02 nin0))
    replace A3 := A3.keep Kha5 (ninS (Ne.symm q13) (ninS (Ne.symm q23) nin0))
    replace A1 : Ar Z ha5 b1 .int [(.int (1 : Int32)), (.int x1), (.int x2)] := A1
    replace A2 : Ar Z ha5 b2 .int [(.int (-1 : Int32)), (.int (0 : Int32)), (.int (-1 : Int32))] := A2
    show Go W Q ha5 0 0 47 #[.val (.ref a), .val (.int (1 : Int32)), .val (.int e)] []
    refine g_return C d6_47 (by decide) (by decide) ?_
    subst hQ
    exact ⟨rfl, ⟨(1 : Int32), x1, x2, (-1 : Int32), (0 : Int32), (-1 : Int32), c0, e, c2, ⟨rfl, rfl, rfl, rfl⟩, O, A1, A2, A3⟩⟩
set_option maxRecDepth 65536 in
set_option maxHeartbeats 2000000 in
theorem con_add_G_0_1 (l : Launch) (Z : State) (a0 : Array Value) (hw : ∀ d ∈ tables_1, d.before a0 Z = true) (a b1 b2 b3 : Addr) (e : Int32) (q01 : a ≠ b1) (q02 : a ≠ b2) (q03 : a ≠ b3) (q12 : b1 ≠ b2) (q13 : b1 ≠ b3) (q23 : b2 ≠ b3) (h : Heap) (B : PQ Z h a b1 b2 b3 1 G_0) :
    Con l Z [] (⟨"com/example/triplecore/triplecore/query/PatternQueue", "add", "(II)V"⟩ : MethodName) prog_95_method_3_code 3 none ({ frames := 2, cells := 0, slots := 0, locals := 29 } : Room) #[(.ref a), (.int (1 : Int32)), (.int e)] h [a, b1, b2, b3] (fun v h' => v = none ∧ PQ Z h' a b1 b2 b3 2 G_01) := by
  obtain ⟨x0, x1, x2, l0, l1, l2, c0, c1, c2, g, O, A1, A2, A3⟩ := B
  refine Con.of_go (L0 := #[.val (.ref a), .val (.int (1 : Int32)), .val (.int e)]) (plainFor_of_name (by first | (simp [plainName, overriddenIn]; done) | decide +kernel)) (locals_of rfl) fun W Q hQ hl C => ?_
  subst hl
  rcases g with ⟨rfl, rfl, rfl, rfl⟩
  ·
    refine g_aloadN (pc' := 1) C d6_0 rfl rfl rfl ?_
    refine g_getO (pc' := 4) (j := 2) C d6_1 rfl (hw _ (List.mem_of_getElem? (i := 18) rfl)) O rfl ?_
    refine g_iloadN (pc' := 5) C d6_4 rfl rfl ?_
    refine g_iloadN (pc' := 6) C d6_5 rfl rfl ?_
    refine g_iastore (pc' := 7) (i := 1) (vs' := [(.int c0), (.int e), (.int c2)]) C d6_6 rfl A3 rfl (Nat.le_of_ble_eq_true rfl) rfl (C.old (List.mem_of_getElem? (i := 3) rfl)) fun ha1 A3 Kha1 => ?_
    replace O := O.keep Kha1 (ninS q03 nin0)
    replace A1 := A1.keep Kha1 (ninS q13 nin0)
    replace A2 := A2.keep Kha1 (ninS q23 nin0)
    refine g_aloadN (pc' := 8) C d6_7 rfl rfl rfl ?_
    refine g_getO (pc' := 11) (j := 0) C d6_8 rfl (hw _ (List.mem_of_getElem? (i := 10) rfl)) O rfl ?_
    refine g_aloadN (pc' := 12) C d6_11 rfl rfl rfl ?_
    refine g_getO (pc' := 15) (j := 3) C d6_12 rfl (hw _ (List.mem_of_getElem? (i := 34) rfl)) O rfl ?_
    refine g_iloadN (pc' := 16) C d6_15 rfl rfl ?_
    refine g_iastore (pc' := 17) (i := 1) (vs' := [(.int (0 : Int32)), (.int (1 : Int32)), (.int x2)]) C d6_16 rfl A1 rfl (Nat.le_of_ble_eq_true rfl) rfl (C.old (List.mem_of_getElem? (i := 1) rfl)) fun ha2 A1 Kha2 => ?_
    replace O := O.keep Kha2 (ninS q01 nin0)
    replace A2 := A2.keep Kha2 (ninS (Ne.symm q12) nin0)
    replace A3 := A3.keep Kha2 (ninS (Ne.symm q13) nin0)
    refine g_aloadN (pc' := 18) C d6_17 rfl rfl rfl ?_
    refine g_getO (pc' := 21) (j := 1) C d6_18 rfl (hw _ (List.mem_of_getElem? (i := 12) rfl)) O rfl ?_
    refine g_iloadN (pc' := 22) C d6_21 rfl rfl ?_
    refine g_aloadN (pc' := 23) C d6_22 rfl rfl rfl ?_
    refine g_getO (pc' := 26) (j := 3) C d6_23 rfl (hw _ (List.mem_of_getElem? (i := 34) rfl)) O rfl ?_
    refine g_iastore (pc' := 27) (i := 1) (vs' := [(.int (0 : Int32)), (.int (1 : Int32)), (.int (-1 : Int32))]) C d6_26 rfl A2 rfl (Nat.le_of_ble_eq_true rfl) rfl (C.old (List.mem_of_getElem? (i := 2) rfl)) fun ha3 A2 Kha3 => ?_
    replace O := O.keep Kha3 (ninS q02 nin0)
    replace A1 := A1.keep Kha3 (ninS q12 nin0)
    replace A3 := A3.keep Kha3 (ninS (Ne.symm q23) nin0)
    refine g_aloadN (pc' := 28) C d6_27 rfl rfl rfl ?_
    refine g_dup (pc' := 29) C d6_28 rfl rfl ?_
    refine g_getO (pc' := 32) (j := 3) C d6_29 rfl (hw _ (List.mem_of_getElem? (i := 34) rfl)) O rfl ?_
    refine g_iconst (pc' := 33) (z := (1 : Int32)) C d6_32 rfl rfl ?_
    refine g_iadd (pc' := 34) C d6_33 rfl ?_
    show Go W Q ha3 0 0 34 #[.val (.ref a), .val (.int (1 : Int32)), .val (.int e)] [(.int (2 : Int32)), (.ref a)]
    refine g_putO (pc' := 37) (j := 3) (ty := .int) (v' := (.int (2 : Int32))) (fs' := [("com/example/triplecore/triplecore/query/PatternQueue", "heap", "[I", (.ref b1)), ("com/example/triplecore/triplecore/query/PatternQueue", "places", "[I", (.ref b2)), ("com/example/triplecore/triplecore/query/PatternQueue", "counts", "[I", (.ref b3)), ("com/example/triplecore/triplecore/query/PatternQueue", "size", "I", (.int (2 : Int32)))]) C d6_34 rfl (hw _ (List.mem_of_getElem? (i := 34) rfl)) Via.refl O rfl (Or.inl (hw _ (List.mem_of_getElem? (i := 35) rfl))) (hw _ (List.mem_of_getElem? (i := 1) rfl)) (by decide) rfl rfl rfl (C.old (List.mem_of_getElem? (i := 0) rfl)) fun ha4 O Kha4 => ?_
    replace A1 := A1.keep Kha4 (ninS (Ne.symm q01) nin0)
    replace A2 := A2.keep Kha4 (ninS (Ne.symm q02) nin0)
    replace A3 := A3.keep Kha4 (ninS (Ne.symm q03) nin0)
    refine g_aloadN (pc' := 38) C d6_37 rfl rfl rfl ?_
    refine g_aloadN (pc' := 39) C d6_38 rfl rfl rfl ?_
    refine g_getO (pc' := 42) (j := 3) C d6_39 rfl (hw _ (List.mem_of_getElem? (i := 34) rfl)) O rfl ?_
    refine g_iconst (pc' := 43) (z := (1 : Int32)) C d6_42 rfl rfl ?_
    refine g_isub (pc' := 44) C d6_43 rfl ?_
    show Go W Q ha4 0 0 44 #[.val (.ref a), .val (.int (1 : Int32)), .val (.int e)] [(.int (1 : Int32)), (.ref a)]
    refine g_private (y := (⟨"com/example/triplecore/triplecore/query/PatternQueue", "up", "(I)V"⟩ : MethodName)) (a := a) (pc' := 47) (k' := 0) (n' := 0) (S := []) (as := [(.int (1 : Int32))]) C d6_44 rfl (hw _ (List.mem_of_getElem? (i := 36) rfl)) (hw _ (List.mem_of_getElem? (i := 37) rfl)) (hw _ (List.mem_of_getElem? (i := 2) rfl)) (hw _ (List.mem_of_getElem? (i := 39) rfl)) (hw _ (List.mem_of_getElem? (i := 38) rfl)) (hw _ (List.mem_of_getElem? (i := 1) rfl)) (by decide) O.1 (lenOf pd_3 rfl) (con_up1 W.l Z a0 hw a b1 b2 b3 (2 : Int32) (0 : Int32) (1 : Int32) x2 e c0 1 0 _ _ rfl rfl (Nat.le_of_ble_eq_true rfl) (Nat.le_of_ble_eq_true rfl) rfl rfl q01 q02 q03 q12 q13 q23 ha4 O A1 A2 A3) rfl rfl (Nat.le_of_ble_eq_true rfl) (Nat.le_of_ble_eq_true rfl) rfl rfl (Nat.le_of_ble_eq_true rfl) (Nat.le_of_ble_eq_true rfl) (allS (C.old (List.mem_of_getElem? (i := 1) rfl)) (allS (C.old (List.mem_of_getElem? (i := 2) rfl)) all0)) fun vha5 ha5 qha5 Kha5 => ?_
    replace O := O.keep Kha5 (ninS q01 (ninS q02 nin0))
    replace A3 := A3.keep Kha5 (ninS (Ne.symm q13) (ninS (Ne.symm q23) nin0))
    rcases qha5 with ⟨rfl, A1, A2⟩ | ⟨rfl, A1, A2⟩
    ·
      replace A1 : Ar Z ha5 b1 .int [(.int (0 : Int32)), (.int (1 : Int32)), (.int x2)] := A1
      replace A2 : Ar Z ha5 b2 .int [(.int (0 : Int32)), (.int (1 : Int32)), (.int (-1 : Int32))] := A2
      show Go W Q ha5 0 0 47 #[.val (.ref a), .val (.int (1 : Int32)), .val (.int e)] []
      refine g_return C d6_47 (by decide) (by decide) ?_
      subst hQ
      exact ⟨rfl, ⟨(0 : Int32), (1 : Int32), x2, (0 : Int32), (1 : Int32), (-1 : Int32), c0, e, c2, (Or.inl ⟨rfl, rfl, rfl, rfl, rfl⟩), O, A1, A2, A3⟩⟩
    ·
      replace A1 : Ar Z ha5 b1 .int [(.int (1 : Int32)), (.int (0 : Int32)), (.int x2)] := A1
      replace A2 : Ar Z ha5 b2 .int [(.int (1 : Int32)), (.int (0 : Int32)), (.int (-1 : Int32))] := A2
      show Go W Q ha5 0 0 47 #[.val (.ref a), .val (.int (1 : Int32)), .val (.int e)] []
      refine g_return C d6_47 (by decide) (by decide) ?_
      subst hQ
      exact ⟨rfl, ⟨(1 : Int32), (0 : Int32), x2, (1 : Int32), (0 : Int32), (-1 : Int32), c0, e, c2, (Or.inr ⟨rfl, rfl, rfl, rfl, rfl⟩), O, A1, A2, A3⟩⟩
set_option maxRecDepth 65536 in
set_option maxHeartbeats 2000000 in
theorem con_add_G_e_2 (l : Launch) (Z : State) (a0 : Array Value) (hw : ∀ d ∈ tables_1, d.before a0 Z = true) (a b1 b2 b3 : Addr) (e : Int32) (q01 : a ≠ b1) (q02 : a ≠ b2) (q03 : a ≠ b3) (q12 : b1 ≠ b2) (q13 : b1 ≠ b3) (q23 : b2 ≠ b3) (h : Heap) (B : PQ Z h a b1 b2 b3 0 G_e) :
    Con l Z [] (⟨"com/example/triplecore/triplecore/query/PatternQueue", "add", "(II)V"⟩ : MethodName) prog_95_method_3_code 3 none ({ frames := 2, cells := 0, slots := 0, locals := 29 } : Room) #[(.ref a), (.int (2 : Int32)), (.int e)] h [a, b1, b2, b3] (fun v h' => v = none ∧ PQ Z h' a b1 b2 b3 1 G_2) := by
  obtain ⟨x0, x1, x2, l0, l1, l2, c0, c1, c2, g, O, A1, A2, A3⟩ := B
  refine Con.of_go (L0 := #[.val (.ref a), .val (.int (2 : Int32)), .val (.int e)]) (plainFor_of_name (by first | (simp [plainName, overriddenIn]; done) | decide +kernel)) (locals_of rfl) fun W Q hQ hl C => ?_
  subst hl
  rcases g with ⟨rfl, rfl, rfl⟩
  ·
    refine g_aloadN (pc' := 1) C d6_0 rfl rfl rfl ?_
    refine g_getO (pc' := 4) (j := 2) C d6_1 rfl (hw _ (List.mem_of_getElem? (i := 18) rfl)) O rfl ?_
    refine g_iloadN (pc' := 5) C d6_4 rfl rfl ?_
    refine g_iloadN (pc' := 6) C d6_5 rfl rfl ?_
    refine g_iastore (pc' := 7) (i := 2) (vs' := [(.int c0), (.int c1), (.int e)]) C d6_6 rfl A3 rfl (Nat.le_of_ble_eq_true rfl) rfl (C.old (List.mem_of_getElem? (i := 3) rfl)) fun ha1 A3 Kha1 => ?_
    replace O := O.keep Kha1 (ninS q03 nin0)
    replace A1 := A1.keep Kha1 (ninS q13 nin0)
    replace A2 := A2.keep Kha1 (ninS q23 nin0)
    refine g_aloadN (pc' := 8) C d6_7 rfl rfl rfl ?_
    refine g_getO (pc' := 11) (j := 0) C d6_8 rfl (hw _ (List.mem_of_getElem? (i := 10) rfl)) O rfl ?_
    refine g_aloadN (pc' := 12) C d6_11 rfl rfl rfl ?_
    refine g_getO (pc' := 15) (j := 3) C d6_12 rfl (hw _ (List.mem_of_getElem? (i := 34) rfl)) O rfl ?_
    refine g_iloadN (pc' := 16) C d6_15 rfl rfl ?_
    refine g_iastore (pc' := 17) (i := 0) (vs' := [(.int (2 : Int32)), (.int x1), (.int x2)]) C d6_16 rfl A1 rfl (Nat.le_of_ble_eq_true rfl) rfl (C.old (List.mem_of_getElem? (i := 1) rfl)) fun ha2 A1 Kha2 => ?_
    replace O := O.keep Kha2 (ninS q01 nin0)
    replace A2 := A2.keep Kha2 (ninS (Ne.symm q12) nin0)
    replace A3 := A3.keep Kha2 (ninS (Ne.symm q13) nin0)
    refine g_aloadN (pc' := 18) C d6_17 rfl rfl rfl ?_
    refine g_getO (pc' := 21) (j := 1) C d6_18 rfl (hw _ (List.mem_of_getElem? (i := 12) rfl)) O rfl ?_
    refine g_iloadN (pc' := 22) C d6_21 rfl rfl ?_
    refine g_aloadN (pc' := 23) C d6_22 rfl rfl rfl ?_
    refine g_getO (pc' := 26) (j := 3) C d6_23 rfl (hw _ (List.mem_of_getElem? (i := 34) rfl)) O rfl ?_
    refine g_iastore (pc' := 27) (i := 2) (vs' := [(.int (-1 : Int32)), (.int (-1 : Int32)), (.int (0 : Int32))]) C d6_26 rfl A2 rfl (Nat.le_of_ble_eq_true rfl) rfl (C.old (List.mem_of_getElem? (i := 2) rfl)) fun ha3 A2 Kha3 => ?_
    replace O := O.keep Kha3 (ninS q02 nin0)
    replace A1 := A1.keep Kha3 (ninS q12 nin0)
    replace A3 := A3.keep Kha3 (ninS (Ne.symm q23) nin0)
    refine g_aloadN (pc' := 28) C d6_27 rfl rfl rfl ?_
    refine g_dup (pc' := 29) C d6_28 rfl rfl ?_
    refine g_getO (pc' := 32) (j := 3) C d6_29 rfl (hw _ (List.mem_of_getElem? (i := 34) rfl)) O rfl ?_
    refine g_iconst (pc' := 33) (z := (1 : Int32)) C d6_32 rfl rfl ?_
    refine g_iadd (pc' := 34) C d6_33 rfl ?_
    show Go W Q ha3 0 0 34 #[.val (.ref a), .val (.int (2 : Int32)), .val (.int e)] [(.int (1 : Int32)), (.ref a)]
    refine g_putO (pc' := 37) (j := 3) (ty := .int) (v' := (.int (1 : Int32))) (fs' := [("com/example/triplecore/triplecore/query/PatternQueue", "heap", "[I", (.ref b1)), ("com/example/triplecore/triplecore/query/PatternQueue", "places", "[I", (.ref b2)), ("com/example/triplecore/triplecore/query/PatternQueue", "counts", "[I", (.ref b3)), ("com/example/triplecore/triplecore/query/PatternQueue", "size", "I", (.int (1 : Int32)))]) C d6_34 rfl (hw _ (List.mem_of_getElem? (i := 34) rfl)) Via.refl O rfl (Or.inl (hw _ (List.mem_of_getElem? (i := 35) rfl))) (hw _ (List.mem_of_getElem? (i := 1) rfl)) (by decide) rfl rfl rfl (C.old (List.mem_of_getElem? (i := 0) rfl)) fun ha4 O Kha4 => ?_
    replace A1 := A1.keep Kha4 (ninS (Ne.symm q01) nin0)
    replace A2 := A2.keep Kha4 (ninS (Ne.symm q02) nin0)
    replace A3 := A3.keep Kha4 (ninS (Ne.symm q03) nin0)
    refine g_aloadN (pc' := 38) C d6_37 rfl rfl rfl ?_
    refine g_aloadN (pc' := 39) C d6_38 rfl rfl rfl ?_
    refine g_getO (pc' := 42) (j := 3) C d6_39 rfl (hw _ (List.mem_of_getElem? (i := 34) rfl)) O rfl ?_
    refine g_iconst (pc' := 43) (z := (1 : Int32)) C d6_42 rfl rfl ?_
    refine g_isub (pc' := 44) C d6_43 rfl ?_
    show Go W Q ha4 0 0 44 #[.val (.ref a), .val (.int (2 : Int32)), .val (.int e)] [(.int (0 : Int32)), (.ref a)]
    refine g_private (y := (⟨"com/example/triplecore/triplecore/query/PatternQueue", "up", "(I)V"⟩ : MethodName)) (a := a) (pc' := 47) (k' := 0) (n' := 0) (S := []) (as := [(.int (0 : Int32))]) C d6_44 rfl (hw _ (List.mem_of_getElem? (i := 36) rfl)) (hw _ (List.mem_of_getElem? (i := 37) rfl)) (hw _ (List.mem_of_getElem? (i := 2) rfl)) (hw _ (List.mem_of_getElem? (i := 39) rfl)) (hw _ (List.mem_of_getElem? (i := 38) rfl)) (hw _ (List.mem_of_getElem? (i := 1) rfl)) (by decide) O.1 (lenOf pd_3 rfl) (con_up0 W.l Z a0 hw a b1 b2 b3 (1 : Int32) (2 : Int32) x1 x2 e e 2 2 _ _ rfl rfl (Nat.le_of_ble_eq_true rfl) (Nat.le_of_ble_eq_true rfl) rfl rfl q01 q02 q03 q12 q13 q23 ha4 O A1 A2 A3) rfl rfl (Nat.le_of_ble_eq_true rfl) (Nat.le_of_ble_eq_true rfl) rfl rfl (Nat.le_of_ble_eq_true rfl) (Nat.le_of_ble_eq_true rfl) (allS (C.old (List.mem_of_getElem? (i := 1) rfl)) (allS (C.old (List.mem_of_getElem? (i := 2) rfl)) all0)) fun vha5 ha5 qha5 Kha5 => ?_
    obtain ⟨rfl, A1, A2⟩ := qha5
    replace O := O.keep Kha5 (ninS q01 (ninS q02 nin0))
    replace A3 := A3.keep Kha5 (ninS (Ne.symm q13) (ninS (Ne.symm q23) nin0))
    replace A1 : Ar Z ha5 b1 .int [(.int (2 : Int32)), (.int x1), (.int x2)] := A1
    replace A2 : Ar Z ha5 b2 .int [(.int (-1 : Int32)), (.int (-1 : Int32)), (.int (0 : Int32))] := A2
    show Go W Q ha5 0 0 47 #[.val (.ref a), .val (.int (2 : Int32)), .val (.int e)] []
    refine g_return C d6_47 (by decide) (by decide) ?_
    subst hQ
    exact ⟨rfl, ⟨(2 : Int32), x1, x2, (-1 : Int32), (-1 : Int32), (0 : Int32), c0, c1, e, ⟨rfl, rfl, rfl, rfl⟩, O, A1, A2, A3⟩⟩
set_option maxRecDepth 65536 in
set_option maxHeartbeats 2000000 in
theorem con_add_G_0_2 (l : Launch) (Z : State) (a0 : Array Value) (hw : ∀ d ∈ tables_1, d.before a0 Z = true) (a b1 b2 b3 : Addr) (e : Int32) (q01 : a ≠ b1) (q02 : a ≠ b2) (q03 : a ≠ b3) (q12 : b1 ≠ b2) (q13 : b1 ≠ b3) (q23 : b2 ≠ b3) (h : Heap) (B : PQ Z h a b1 b2 b3 1 G_0) :
    Con l Z [] (⟨"com/example/triplecore/triplecore/query/PatternQueue", "add", "(II)V"⟩ : MethodName) prog_95_method_3_code 3 none ({ frames := 2, cells := 0, slots := 0, locals := 29 } : Room) #[(.ref a), (.int (2 : Int32)), (.int e)] h [a, b1, b2, b3] (fun v h' => v = none ∧ PQ Z h' a b1 b2 b3 2 G_02) := by
  obtain ⟨x0, x1, x2, l0, l1, l2, c0, c1, c2, g, O, A1, A2, A3⟩ := B
  refine Con.of_go (L0 := #[.val (.ref a), .val (.int (2 : Int32)), .val (.int e)]) (plainFor_of_name (by first | (simp [plainName, overriddenIn]; done) | decide +kernel)) (locals_of rfl) fun W Q hQ hl C => ?_
  subst hl
  rcases g with ⟨rfl, rfl, rfl, rfl⟩
  ·
    refine g_aloadN (pc' := 1) C d6_0 rfl rfl rfl ?_
    refine g_getO (pc' := 4) (j := 2) C d6_1 rfl (hw _ (List.mem_of_getElem? (i := 18) rfl)) O rfl ?_
    refine g_iloadN (pc' := 5) C d6_4 rfl rfl ?_
    refine g_iloadN (pc' := 6) C d6_5 rfl rfl ?_
    refine g_iastore (pc' := 7) (i := 2) (vs' := [(.int c0), (.int c1), (.int e)]) C d6_6 rfl A3 rfl (Nat.le_of_ble_eq_true rfl) rfl (C.old (List.mem_of_getElem? (i := 3) rfl)) fun ha1 A3 Kha1 => ?_
    replace O := O.keep Kha1 (ninS q03 nin0)
    replace A1 := A1.keep Kha1 (ninS q13 nin0)
    replace A2 := A2.keep Kha1 (ninS q23 nin0)
    refine g_aloadN (pc' := 8) C d6_7 rfl rfl rfl ?_
    refine g_getO (pc' := 11) (j := 0) C d6_8 rfl (hw _ (List.mem_of_getElem? (i := 10) rfl)) O rfl ?_
    refine g_aloadN (pc' := 12) C d6_11 rfl rfl rfl ?_
    refine g_getO (pc' := 15) (j := 3) C d6_12 rfl (hw _ (List.mem_of_getElem? (i := 34) rfl)) O rfl ?_
    refine g_iloadN (pc' := 16) C d6_15 rfl rfl ?_
    refine g_iastore (pc' := 17) (i := 1) (vs' := [(.int (0 : Int32)), (.int (2 : Int32)), (.int x2)]) C d6_16 rfl A1 rfl (Nat.le_of_ble_eq_true rfl) rfl (C.old (List.mem_of_getElem? (i := 1) rfl)) fun ha2 A1 Kha2 => ?_
    replace O := O.keep Kha2 (ninS q01 nin0)
    replace A2 := A2.keep Kha2 (ninS (Ne.symm q12) nin0)
    replace A3 := A3.keep Kha2 (ninS (Ne.symm q13) nin0)
    refine g_aloadN (pc' := 18) C d6_17 rfl rfl rfl ?_
    refine g_getO (pc' := 21) (j := 1) C d6_18 rfl (hw _ (List.mem_of_getElem? (i := 12) rfl)) O rfl ?_
    refine g_iloadN (pc' := 22) C d6_21 rfl rfl ?_
    refine g_aloadN (pc' := 23) C d6_22 rfl rfl rfl ?_
    refine g_getO (pc' := 26) (j := 3) C d6_23 rfl (hw _ (List.mem_of_getElem? (i := 34) rfl)) O rfl ?_
    refine g_iastore (pc' := 27) (i := 2) (vs' := [(.int (0 : Int32)), (.int (-1 : Int32)), (.int (1 : Int32))]) C d6_26 rfl A2 rfl (Nat.le_of_ble_eq_true rfl) rfl (C.old (List.mem_of_getElem? (i := 2) rfl)) fun ha3 A2 Kha3 => ?_
    replace O := O.keep Kha3 (ninS q02 nin0)
    replace A1 := A1.keep Kha3 (ninS q12 nin0)
    replace A3 := A3.keep Kha3 (ninS (Ne.symm q23) nin0)
    refine g_aloadN (pc' := 28) C d6_27 rfl rfl rfl ?_
    refine g_dup (pc' := 29) C d6_28 rfl rfl ?_
    refine g_getO (pc' := 32) (j := 3) C d6_29 rfl (hw _ (List.mem_of_getElem? (i := 34) rfl)) O rfl ?_
    refine g_iconst (pc' := 33) (z := (1 : Int32)) C d6_32 rfl rfl ?_
    refine g_iadd (pc' := 34) C d6_33 rfl ?_
    show Go W Q ha3 0 0 34 #[.val (.ref a), .val (.int (2 : Int32)), .val (.int e)] [(.int (2 : Int32)), (.ref a)]
    refine g_putO (pc' := 37) (j := 3) (ty := .int) (v' := (.int (2 : Int32))) (fs' := [("com/example/triplecore/triplecore/query/PatternQueue", "heap", "[I", (.ref b1)), ("com/example/triplecore/triplecore/query/PatternQueue", "places", "[I", (.ref b2)), ("com/example/triplecore/triplecore/query/PatternQueue", "counts", "[I", (.ref b3)), ("com/example/triplecore/triplecore/query/PatternQueue", "size", "I", (.int (2 : Int32)))]) C d6_34 rfl (hw _ (List.mem_of_getElem? (i := 34) rfl)) Via.refl O rfl (Or.inl (hw _ (List.mem_of_getElem? (i := 35) rfl))) (hw _ (List.mem_of_getElem? (i := 1) rfl)) (by decide) rfl rfl rfl (C.old (List.mem_of_getElem? (i := 0) rfl)) fun ha4 O Kha4 => ?_
    replace A1 := A1.keep Kha4 (ninS (Ne.symm q01) nin0)
    replace A2 := A2.keep Kha4 (ninS (Ne.symm q02) nin0)
    replace A3 := A3.keep Kha4 (ninS (Ne.symm q03) nin0)
    refine g_aloadN (pc' := 38) C d6_37 rfl rfl rfl ?_
    refine g_aloadN (pc' := 39) C d6_38 rfl rfl rfl ?_
    refine g_getO (pc' := 42) (j := 3) C d6_39 rfl (hw _ (List.mem_of_getElem? (i := 34) rfl)) O rfl ?_
    refine g_iconst (pc' := 43) (z := (1 : Int32)) C d6_42 rfl rfl ?_
    refine g_isub (pc' := 44) C d6_43 rfl ?_
    show Go W Q ha4 0 0 44 #[.val (.ref a), .val (.int (2 : Int32)), .val (.int e)] [(.int (1 : Int32)), (.ref a)]
    refine g_private (y := (⟨"com/example/triplecore/triplecore/query/PatternQueue", "up", "(I)V"⟩ : MethodName)) (a := a) (pc' := 47) (k' := 0) (n' := 0) (S := []) (as := [(.int (1 : Int32))]) C d6_44 rfl (hw _ (List.mem_of_getElem? (i := 36) rfl)) (hw _ (List.mem_of_getElem? (i := 37) rfl)) (hw _ (List.mem_of_getElem? (i := 2) rfl)) (hw _ (List.mem_of_getElem? (i := 39) rfl)) (hw _ (List.mem_of_getElem? (i := 38) rfl)) (hw _ (List.mem_of_getElem? (i := 1) rfl)) (by decide) O.1 (lenOf pd_3 rfl) (con_up1 W.l Z a0 hw a b1 b2 b3 (2 : Int32) (0 : Int32) (2 : Int32) x2 e c0 2 0 _ _ rfl rfl (Nat.le_of_ble_eq_true rfl) (Nat.le_of_ble_eq_true rfl) rfl rfl q01 q02 q03 q12 q13 q23 ha4 O A1 A2 A3) rfl rfl (Nat.le_of_ble_eq_true rfl) (Nat.le_of_ble_eq_true rfl) rfl rfl (Nat.le_of_ble_eq_true rfl) (Nat.le_of_ble_eq_true rfl) (allS (C.old (List.mem_of_getElem? (i := 1) rfl)) (allS (C.old (List.mem_of_getElem? (i := 2) rfl)) all0)) fun vha5 ha5 qha5 Kha5 => ?_
    replace O := O.keep Kha5 (ninS q01 (ninS q02 nin0))
    replace A3 := A3.keep Kha5 (ninS (Ne.symm q13) (ninS (Ne.symm q23) nin0))
    rcases qha5 with ⟨rfl, A1, A2⟩ | ⟨rfl, A1, A2⟩
    ·
      replace A1 : Ar Z ha5 b1 .int [(.int (0 : Int32)), (.int (2 : Int32)), (.int x2)] := A1
      replace A2 : Ar Z ha5 b2 .int [(.int (0 : Int32)), (.int (-1 : Int32)), (.int (1 : Int32))] := A2
      show Go W Q ha5 0 0 47 #[.val (.ref a), .val (.int (2 : Int32)), .val (.int e)] []
      refine g_return C d6_47 (by decide) (by decide) ?_
      subst hQ
      exact ⟨rfl, ⟨(0 : Int32), (2 : Int32), x2, (0 : Int32), (-1 : Int32), (1 : Int32), c0, c1, e, (Or.inl ⟨rfl, rfl, rfl, rfl, rfl⟩), O, A1, A2, A3⟩⟩
    ·
      replace A1 : Ar Z ha5 b1 .int [(.int (2 : Int32)), (.int (0 : Int32)), (.int x2)] := A1
      replace A2 : Ar Z ha5 b2 .int [(.int (1 : Int32)), (.int (-1 : Int32)), (.int (0 : Int32))] := A2
      show Go W Q ha5 0 0 47 #[.val (.ref a), .val (.int (2 : Int32)), .val (.int e)] []
      refine g_return C d6_47 (by decide) (by decide) ?_
      subst hQ
      exact ⟨rfl, ⟨(2 : Int32), (0 : Int32), x2, (1 : Int32), (-1 : Int32), (0 : Int32), c0, c1, e, (Or.inr ⟨rfl, rfl, rfl, rfl, rfl⟩), O, A1, A2, A3⟩⟩
set_option maxRecDepth 65536 in
set_option maxHeartbeats 2000000 in
theorem con_add_G_1_2 (l : Launch) (Z : State) (a0 : Array Value) (hw : ∀ d ∈ tables_1, d.before a0 Z = true) (a b1 b2 b3 : Addr) (e : Int32) (q01 : a ≠ b1) (q02 : a ≠ b2) (q03 : a ≠ b3) (q12 : b1 ≠ b2) (q13 : b1 ≠ b3) (q23 : b2 ≠ b3) (h : Heap) (B : PQ Z h a b1 b2 b3 1 G_1) :
    Con l Z [] (⟨"com/example/triplecore/triplecore/query/PatternQueue", "add", "(II)V"⟩ : MethodName) prog_95_method_3_code 3 none ({ frames := 2, cells := 0, slots := 0, locals := 29 } : Room) #[(.ref a), (.int (2 : Int32)), (.int e)] h [a, b1, b2, b3] (fun v h' => v = none ∧ PQ Z h' a b1 b2 b3 2 G_12) := by
  obtain ⟨x0, x1, x2, l0, l1, l2, c0, c1, c2, g, O, A1, A2, A3⟩ := B
  refine Con.of_go (L0 := #[.val (.ref a), .val (.int (2 : Int32)), .val (.int e)]) (plainFor_of_name (by first | (simp [plainName, overriddenIn]; done) | decide +kernel)) (locals_of rfl) fun W Q hQ hl C => ?_
  subst hl
  rcases g with ⟨rfl, rfl, rfl, rfl⟩
  ·
    refine g_aloadN (pc' := 1) C d6_0 rfl rfl rfl ?_
    refine g_getO (pc' := 4) (j := 2) C d6_1 rfl (hw _ (List.mem_of_getElem? (i := 18) rfl)) O rfl ?_
    refine g_iloadN (pc' := 5) C d6_4 rfl rfl ?_
    refine g_iloadN (pc' := 6) C d6_5 rfl rfl ?_
    refine g_iastore (pc' := 7) (i := 2) (vs' := [(.int c0), (.int c1), (.int e)]) C d6_6 rfl A3 rfl (Nat.le_of_ble_eq_true rfl) rfl (C.old (List.mem_of_getElem? (i := 3) rfl)) fun ha1 A3 Kha1 => ?_
    replace O := O.keep Kha1 (ninS q03 nin0)
    replace A1 := A1.keep Kha1 (ninS q13 nin0)
    replace A2 := A2.keep Kha1 (ninS q23 nin0)
    refine g_aloadN (pc' := 8) C d6_7 rfl rfl rfl ?_
    refine g_getO (pc' := 11) (j := 0) C d6_8 rfl (hw _ (List.mem_of_getElem? (i := 10) rfl)) O rfl ?_
    refine g_aloadN (pc' := 12) C d6_11 rfl rfl rfl ?_
    refine g_getO (pc' := 15) (j := 3) C d6_12 rfl (hw _ (List.mem_of_getElem? (i := 34) rfl)) O rfl ?_
    refine g_iloadN (pc' := 16) C d6_15 rfl rfl ?_
    refine g_iastore (pc' := 17) (i := 1) (vs' := [(.int (1 : Int32)), (.int (2 : Int32)), (.int x2)]) C d6_16 rfl A1 rfl (Nat.le_of_ble_eq_true rfl) rfl (C.old (List.mem_of_getElem? (i := 1) rfl)) fun ha2 A1 Kha2 => ?_
    replace O := O.keep Kha2 (ninS q01 nin0)
    replace A2 := A2.keep Kha2 (ninS (Ne.symm q12) nin0)
    replace A3 := A3.keep Kha2 (ninS (Ne.symm q13) nin0)
    refine g_aloadN (pc' := 18) C d6_17 rfl rfl rfl ?_
    refine g_getO (pc' := 21) (j := 1) C d6_18 rfl (hw _ (List.mem_of_getElem? (i := 12) rfl)) O rfl ?_
    refine g_iloadN (pc' := 22) C d6_21 rfl rfl ?_
    refine g_aloadN (pc' := 23) C d6_22 rfl rfl rfl ?_
    refine g_getO (pc' := 26) (j := 3) C d6_23 rfl (hw _ (List.mem_of_getElem? (i := 34) rfl)) O rfl ?_
    refine g_iastore (pc' := 27) (i := 2) (vs' := [(.int (-1 : Int32)), (.int (0 : Int32)), (.int (1 : Int32))]) C d6_26 rfl A2 rfl (Nat.le_of_ble_eq_true rfl) rfl (C.old (List.mem_of_getElem? (i := 2) rfl)) fun ha3 A2 Kha3 => ?_
    replace O := O.keep Kha3 (ninS q02 nin0)
    replace A1 := A1.keep Kha3 (ninS q12 nin0)
    replace A3 := A3.keep Kha3 (ninS (Ne.symm q23) nin0)
    refine g_aloadN (pc' := 28) C d6_27 rfl rfl rfl ?_
    refine g_dup (pc' := 29) C d6_28 rfl rfl ?_
    refine g_getO (pc' := 32) (j := 3) C d6_29 rfl (hw _ (List.mem_of_getElem? (i := 34) rfl)) O rfl ?_
    refine g_iconst (pc' := 33) (z := (1 : Int32)) C d6_32 rfl rfl ?_
    refine g_iadd (pc' := 34) C d6_33 rfl ?_
    show Go W Q ha3 0 0 34 #[.val (.ref a), .val (.int (2 : Int32)), .val (.int e)] [(.int (2 : Int32)), (.ref a)]
    refine g_putO (pc' := 37) (j := 3) (ty := .int) (v' := (.int (2 : Int32))) (fs' := [("com/example/triplecore/triplecore/query/PatternQueue", "heap", "[I", (.ref b1)), ("com/example/triplecore/triplecore/query/PatternQueue", "places", "[I", (.ref b2)), ("com/example/triplecore/triplecore/query/PatternQueue", "counts", "[I", (.ref b3)), ("com/example/triplecore/triplecore/query/PatternQueue", "size", "I", (.int (2 : Int32)))]) C d6_34 rfl (hw _ (List.mem_of_getElem? (i := 34) rfl)) Via.refl O rfl (Or.inl (hw _ (List.mem_of_getElem? (i := 35) rfl))) (hw _ (List.mem_of_getElem? (i := 1) rfl)) (by decide) rfl rfl rfl (C.old (List.mem_of_getElem? (i := 0) rfl)) fun ha4 O Kha4 => ?_
    replace A1 := A1.keep Kha4 (ninS (Ne.symm q01) nin0)
    replace A2 := A2.keep Kha4 (ninS (Ne.symm q02) nin0)
    replace A3 := A3.keep Kha4 (ninS (Ne.symm q03) nin0)
    refine g_aloadN (pc' := 38) C d6_37 rfl rfl rfl ?_
    refine g_aloadN (pc' := 39) C d6_38 rfl rfl rfl ?_
    refine g_getO (pc' := 42) (j := 3) C d6_39 rfl (hw _ (List.mem_of_getElem? (i := 34) rfl)) O rfl ?_
    refine g_iconst (pc' := 43) (z := (1 : Int32)) C d6_42 rfl rfl ?_
    refine g_isub (pc' := 44) C d6_43 rfl ?_
    show Go W Q ha4 0 0 44 #[.val (.ref a), .val (.int (2 : Int32)), .val (.int e)] [(.int (1 : Int32)), (.ref a)]
    refine g_private (y := (⟨"com/example/triplecore/triplecore/query/PatternQueue", "up", "(I)V"⟩ : MethodName)) (a := a) (pc' := 47) (k' := 0) (n' := 0) (S := []) (as := [(.int (1 : Int32))]) C d6_44 rfl (hw _ (List.mem_of_getElem? (i := 36) rfl)) (hw _ (List.mem_of_getElem? (i := 37) rfl)) (hw _ (List.mem_of_getElem? (i := 2) rfl)) (hw _ (List.mem_of_getElem? (i := 39) rfl)) (hw _ (List.mem_of_getElem? (i := 38) rfl)) (hw _ (List.mem_of_getElem? (i := 1) rfl)) (by decide) O.1 (lenOf pd_3 rfl) (con_up1 W.l Z a0 hw a b1 b2 b3 (2 : Int32) (1 : Int32) (2 : Int32) x2 e c1 2 1 _ _ rfl rfl (Nat.le_of_ble_eq_true rfl) (Nat.le_of_ble_eq_true rfl) rfl rfl q01 q02 q03 q12 q13 q23 ha4 O A1 A2 A3) rfl rfl (Nat.le_of_ble_eq_true rfl) (Nat.le_of_ble_eq_true rfl) rfl rfl (Nat.le_of_ble_eq_true rfl) (Nat.le_of_ble_eq_true rfl) (allS (C.old (List.mem_of_getElem? (i := 1) rfl)) (allS (C.old (List.mem_of_getElem? (i := 2) rfl)) all0)) fun vha5 ha5 qha5 Kha5 => ?_
    replace O := O.keep Kha5 (ninS q01 (ninS q02 nin0))
    replace A3 := A3.keep Kha5 (ninS (Ne.symm q13) (ninS (Ne.symm q23) nin0))
    rcases qha5 with ⟨rfl, A1, A2⟩ | ⟨rfl, A1, A2⟩
    ·
      replace A1 : Ar Z ha5 b1 .int [(.int (1 : Int32)), (.int (2 : Int32)), (.int x2)] := A1
      replace A2 : Ar Z ha5 b2 .int [(.int (-1 : Int32)), (.int (0 : Int32)), (.int (1 : Int32))] := A2
      show Go W Q ha5 0 0 47 #[.val (.ref a), .val (.int (2 : Int32)), .val (.int e)] []
      refine g_return C d6_47 (by decide) (by decide) ?_
      subst hQ
      exact ⟨rfl, ⟨(1 : Int32), (2 : Int32), x2, (-1 : Int32), (0 : Int32), (1 : Int32), c0, c1, e, (Or.inl ⟨rfl, rfl, rfl, rfl, rfl⟩), O, A1, A2, A3⟩⟩
    ·
      replace A1 : Ar Z ha5 b1 .int [(.int (2 : Int32)), (.int (1 : Int32)), (.int x2)] := A1
      replace A2 : Ar Z ha5 b2 .int [(.int (-1 : Int32)), (.int (1 : Int32)), (.int (0 : Int32))] := A2
      show Go W Q ha5 0 0 47 #[.val (.ref a), .val (.int (2 : Int32)), .val (.int e)] []
      refine g_return C d6_47 (by decide) (by decide) ?_
      subst hQ
      exact ⟨rfl, ⟨(2 : Int32), (1 : Int32), x2, (-1 : Int32), (1 : Int32), (0 : Int32), c0, c1, e, (Or.inr ⟨rfl, rfl, rfl, rfl, rfl⟩), O, A1, A2, A3⟩⟩
set_option maxRecDepth 65536 in
set_option maxHeartbeats 2000000 in
theorem con_add_G_01_2 (l : Launch) (Z : State) (a0 : Array Value) (hw : ∀ d ∈ tables_1, d.before a0 Z = true) (a b1 b2 b3 : Addr) (e : Int32) (q01 : a ≠ b1) (q02 : a ≠ b2) (q03 : a ≠ b3) (q12 : b1 ≠ b2) (q13 : b1 ≠ b3) (q23 : b2 ≠ b3) (h : Heap) (B : PQ Z h a b1 b2 b3 2 G_01) :
    Con l Z [] (⟨"com/example/triplecore/triplecore/query/PatternQueue", "add", "(II)V"⟩ : MethodName) prog_95_method_3_code 3 none ({ frames := 2, cells := 0, slots := 0, locals := 29 } : Room) #[(.ref a), (.int (2 : Int32)), (.int e)] h [a, b1, b2, b3] (fun v h' => v = none ∧ PQ Z h' a b1 b2 b3 3 G_012) := by
  obtain ⟨x0, x1, x2, l0, l1, l2, c0, c1, c2, g, O, A1, A2, A3⟩ := B
  refine Con.of_go (L0 := #[.val (.ref a), .val (.int (2 : Int32)), .val (.int e)]) (plainFor_of_name (by first | (simp [plainName, overriddenIn]; done) | decide +kernel)) (locals_of rfl) fun W Q hQ hl C => ?_
  subst hl
  rcases g with ⟨rfl, rfl, rfl, rfl, rfl⟩ | ⟨rfl, rfl, rfl, rfl, rfl⟩
  ·
    refine g_aloadN (pc' := 1) C d6_0 rfl rfl rfl ?_
    refine g_getO (pc' := 4) (j := 2) C d6_1 rfl (hw _ (List.mem_of_getElem? (i := 18) rfl)) O rfl ?_
    refine g_iloadN (pc' := 5) C d6_4 rfl rfl ?_
    refine g_iloadN (pc' := 6) C d6_5 rfl rfl ?_
    refine g_iastore (pc' := 7) (i := 2) (vs' := [(.int c0), (.int c1), (.int e)]) C d6_6 rfl A3 rfl (Nat.le_of_ble_eq_true rfl) rfl (C.old (List.mem_of_getElem? (i := 3) rfl)) fun ha1 A3 Kha1 => ?_
    replace O := O.keep Kha1 (ninS q03 nin0)
    replace A1 := A1.keep Kha1 (ninS q13 nin0)
    replace A2 := A2.keep Kha1 (ninS q23 nin0)
    refine g_aloadN (pc' := 8) C d6_7 rfl rfl rfl ?_
    refine g_getO (pc' := 11) (j := 0) C d6_8 rfl (hw _ (List.mem_of_getElem? (i := 10) rfl)) O rfl ?_
    refine g_aloadN (pc' := 12) C d6_11 rfl rfl rfl ?_
    refine g_getO (pc' := 15) (j := 3) C d6_12 rfl (hw _ (List.mem_of_getElem? (i := 34) rfl)) O rfl ?_
    refine g_iloadN (pc' := 16) C d6_15 rfl rfl ?_
    refine g_iastore (pc' := 17) (i := 2) (vs' := [(.int (0 : Int32)), (.int (1 : Int32)), (.int (2 : Int32))]) C d6_16 rfl A1 rfl (Nat.le_of_ble_eq_true rfl) rfl (C.old (List.mem_of_getElem? (i := 1) rfl)) fun ha2 A1 Kha2 => ?_
    replace O := O.keep Kha2 (ninS q01 nin0)
    replace A2 := A2.keep Kha2 (ninS (Ne.symm q12) nin0)
    replace A3 := A3.keep Kha2 (ninS (Ne.symm q13) nin0)
    refine g_aloadN (pc' := 18) C d6_17 rfl rfl rfl ?_
    refine g_getO (pc' := 21) (j := 1) C d6_18 rfl (hw _ (List.mem_of_getElem? (i := 12) rfl)) O rfl ?_
    refine g_iloadN (pc' := 22) C d6_21 rfl rfl ?_
    refine g_aloadN (pc' := 23) C d6_22 rfl rfl rfl ?_
    refine g_getO (pc' := 26) (j := 3) C d6_23 rfl (hw _ (List.mem_of_getElem? (i := 34) rfl)) O rfl ?_
    refine g_iastore (pc' := 27) (i := 2) (vs' := [(.int (0 : Int32)), (.int (1 : Int32)), (.int (2 : Int32))]) C d6_26 rfl A2 rfl (Nat.le_of_ble_eq_true rfl) rfl (C.old (List.mem_of_getElem? (i := 2) rfl)) fun ha3 A2 Kha3 => ?_
    replace O := O.keep Kha3 (ninS q02 nin0)
    replace A1 := A1.keep Kha3 (ninS q12 nin0)
    replace A3 := A3.keep Kha3 (ninS (Ne.symm q23) nin0)
    refine g_aloadN (pc' := 28) C d6_27 rfl rfl rfl ?_
    refine g_dup (pc' := 29) C d6_28 rfl rfl ?_
    refine g_getO (pc' := 32) (j := 3) C d6_29 rfl (hw _ (List.mem_of_getElem? (i := 34) rfl)) O rfl ?_
    refine g_iconst (pc' := 33) (z := (1 : Int32)) C d6_32 rfl rfl ?_
    refine g_iadd (pc' := 34) C d6_33 rfl ?_
    show Go W Q ha3 0 0 34 #[.val (.ref a), .val (.int (2 : Int32)), .val (.int e)] [(.int (3 : Int32)), (.ref a)]
    refine g_putO (pc' := 37) (j := 3) (ty := .int) (v' := (.int (3 : Int32))) (fs' := [("com/example/triplecore/triplecore/query/PatternQueue", "heap", "[I", (.ref b1)), ("com/example/triplecore/triplecore/query/PatternQueue", "places", "[I", (.ref b2)), ("com/example/triplecore/triplecore/query/PatternQueue", "counts", "[I", (.ref b3)), ("com/example/triplecore/triplecore/query/PatternQueue", "size", "I", (.int (3 : Int32)))]) C d6_34 rfl (hw _ (List.mem_of_getElem? (i := 34) rfl)) Via.refl O rfl (Or.inl (hw _ (List.mem_of_getElem? (i := 35) rfl))) (hw _ (List.mem_of_getElem? (i := 1) rfl)) (by decide) rfl rfl rfl (C.old (List.mem_of_getElem? (i := 0) rfl)) fun ha4 O Kha4 => ?_
    replace A1 := A1.keep Kha4 (ninS (Ne.symm q01) nin0)
    replace A2 := A2.keep Kha4 (ninS (Ne.symm q02) nin0)
    replace A3 := A3.keep Kha4 (ninS (Ne.symm q03) nin0)
    refine g_aloadN (pc' := 38) C d6_37 rfl rfl rfl ?_
    refine g_aloadN (pc' := 39) C d6_38 rfl rfl rfl ?_
    refine g_getO (pc' := 42) (j := 3) C d6_39 rfl (hw _ (List.mem_of_getElem? (i := 34) rfl)) O rfl ?_
    refine g_iconst (pc' := 43) (z := (1 : Int32)) C d6_42 rfl rfl ?_
    refine g_isub (pc' := 44) C d6_43 rfl ?_
    show Go W Q ha4 0 0 44 #[.val (.ref a), .val (.int (2 : Int32)), .val (.int e)] [(.int (2 : Int32)), (.ref a)]
    refine g_private (y := (⟨"com/example/triplecore/triplecore/query/PatternQueue", "up", "(I)V"⟩ : MethodName)) (a := a) (pc' := 47) (k' := 0) (n' := 0) (S := []) (as := [(.int (2 : Int32))]) C d6_44 rfl (hw _ (List.mem_of_getElem? (i := 36) rfl)) (hw _ (List.mem_of_getElem? (i := 37) rfl)) (hw _ (List.mem_of_getElem? (i := 2) rfl)) (hw _ (List.mem_of_getElem? (i := 39) rfl)) (hw _ (List.mem_of_getElem? (i := 38) rfl)) (hw _ (List.mem_of_getElem? (i := 1) rfl)) (by decide) O.1 (lenOf pd_3 rfl) (con_up2 W.l Z a0 hw a b1 b2 b3 (3 : Int32) (0 : Int32) (1 : Int32) (2 : Int32) e c0 2 0 _ _ rfl rfl (Nat.le_of_ble_eq_true rfl) (Nat.le_of_ble_eq_true rfl) rfl rfl q01 q02 q03 q12 q13 q23 ha4 O A1 A2 A3) rfl rfl (Nat.le_of_ble_eq_true rfl) (Nat.le_of_ble_eq_true rfl) rfl rfl (Nat.le_of_ble_eq_true rfl) (Nat.le_of_ble_eq_true rfl) (allS (C.old (List.mem_of_getElem? (i := 1) rfl)) (allS (C.old (List.mem_of_getElem? (i := 2) rfl)) all0)) fun vha5 ha5 qha5 Kha5 => ?_
    replace O := O.keep Kha5 (ninS q01 (ninS q02 nin0))
    replace A3 := A3.keep Kha5 (ninS (Ne.symm q13) (ninS (Ne.symm q23) nin0))
    rcases qha5 with ⟨rfl, A1, A2⟩ | ⟨rfl, A1, A2⟩
    ·
      replace A1 : Ar Z ha5 b1 .int [(.int (0 : Int32)), (.int (1 : Int32)), (.int (2 : Int32))] := A1
      replace A2 : Ar Z ha5 b2 .int [(.int (0 : Int32)), (.int (1 : Int32)), (.int (2 : Int32))] := A2
      show Go W Q ha5 0 0 47 #[.val (.ref a), .val (.int (2 : Int32)), .val (.int e)] []
      refine g_return C d6_47 (by decide) (by decide) ?_
      subst hQ
      exact ⟨rfl, ⟨(0 : Int32), (1 : Int32), (2 : Int32), (0 : Int32), (1 : Int32), (2 : Int32), c0, c1, e, (Or.inl ⟨rfl, rfl, rfl, rfl, rfl, rfl⟩), O, A1, A2, A3⟩⟩
    ·
      replace A1 : Ar Z ha5 b1 .int [(.int (2 : Int32)), (.int (1 : Int32)), (.int (0 : Int32))] := A1
      replace A2 : Ar Z ha5 b2 .int [(.int (2 : Int32)), (.int (1 : Int32)), (.int (0 : Int32))] := A2
      show Go W Q ha5 0 0 47 #[.val (.ref a), .val (.int (2 : Int32)), .val (.int e)] []
      refine g_return C d6_47 (by decide) (by decide) ?_
      subst hQ
      exact ⟨rfl, ⟨(2 : Int32), (1 : Int32), (0 : Int32), (2 : Int32), (1 : Int32), (0 : Int32), c0, c1, e, (Or.inr (Or.inr (Or.inr (Or.inr (Or.inr ⟨rfl, rfl, rfl, rfl, rfl, rfl⟩))))), O, A1, A2, A3⟩⟩
  ·
    refine g_aloadN (pc' := 1) C d6_0 rfl rfl rfl ?_
    refine g_getO (pc' := 4) (j := 2) C d6_1 rfl (hw _ (List.mem_of_getElem? (i := 18) rfl)) O rfl ?_
    refine g_iloadN (pc' := 5) C d6_4 rfl rfl ?_
    refine g_iloadN (pc' := 6) C d6_5 rfl rfl ?_
    refine g_iastore (pc' := 7) (i := 2) (vs' := [(.int c0), (.int c1), (.int e)]) C d6_6 rfl A3 rfl (Nat.le_of_ble_eq_true rfl) rfl (C.old (List.mem_of_getElem? (i := 3) rfl)) fun ha6 A3 Kha6 => ?_
    replace O := O.keep Kha6 (ninS q03 nin0)
    replace A1 := A1.keep Kha6 (ninS q13 nin0)
    replace A2 := A2.keep Kha6 (ninS q23 nin0)
    refine g_aloadN (pc' := 8) C d6_7 rfl rfl rfl ?_
    refine g_getO (pc' := 11) (j := 0) C d6_8 rfl (hw _ (List.mem_of_getElem? (i := 10) rfl)) O rfl ?_
    refine g_aloadN (pc' := 12) C d6_11 rfl rfl rfl ?_
    refine g_getO (pc' := 15) (j := 3) C d6_12 rfl (hw _ (List.mem_of_getElem? (i := 34) rfl)) O rfl ?_
    refine g_iloadN (pc' := 16) C d6_15 rfl rfl ?_
    refine g_iastore (pc' := 17) (i := 2) (vs' := [(.int (1 : Int32)), (.int (0 : Int32)), (.int (2 : Int32))]) C d6_16 rfl A1 rfl (Nat.le_of_ble_eq_true rfl) rfl (C.old (List.mem_of_getElem? (i := 1) rfl)) fun ha7 A1 Kha7 => ?_
    replace O := O.keep Kha7 (ninS q01 nin0)
    replace A2 := A2.keep Kha7 (ninS (Ne.symm q12) nin0)
    replace A3 := A3.keep Kha7 (ninS (Ne.symm q13) nin0)
    refine g_aloadN (pc' := 18) C d6_17 rfl rfl rfl ?_
    refine g_getO (pc' := 21) (j := 1) C d6_18 rfl (hw _ (List.mem_of_getElem? (i := 12) rfl)) O rfl ?_
    refine g_iloadN (pc' := 22) C d6_21 rfl rfl ?_
    refine g_aloadN (pc' := 23) C d6_22 rfl rfl rfl ?_
    refine g_getO (pc' := 26) (j := 3) C d6_23 rfl (hw _ (List.mem_of_getElem? (i := 34) rfl)) O rfl ?_
    refine g_iastore (pc' := 27) (i := 2) (vs' := [(.int (1 : Int32)), (.int (0 : Int32)), (.int (2 : Int32))]) C d6_26 rfl A2 rfl (Nat.le_of_ble_eq_true rfl) rfl (C.old (List.mem_of_getElem? (i := 2) rfl)) fun ha8 A2 Kha8 => ?_
    replace O := O.keep Kha8 (ninS q02 nin0)
    replace A1 := A1.keep Kha8 (ninS q12 nin0)
    replace A3 := A3.keep Kha8 (ninS (Ne.symm q23) nin0)
    refine g_aloadN (pc' := 28) C d6_27 rfl rfl rfl ?_
    refine g_dup (pc' := 29) C d6_28 rfl rfl ?_
    refine g_getO (pc' := 32) (j := 3) C d6_29 rfl (hw _ (List.mem_of_getElem? (i := 34) rfl)) O rfl ?_
    refine g_iconst (pc' := 33) (z := (1 : Int32)) C d6_32 rfl rfl ?_
    refine g_iadd (pc' := 34) C d6_33 rfl ?_
    show Go W Q ha8 0 0 34 #[.val (.ref a), .val (.int (2 : Int32)), .val (.int e)] [(.int (3 : Int32)), (.ref a)]
    refine g_putO (pc' := 37) (j := 3) (ty := .int) (v' := (.int (3 : Int32))) (fs' := [("com/example/triplecore/triplecore/query/PatternQueue", "heap", "[I", (.ref b1)), ("com/example/triplecore/triplecore/query/PatternQueue", "places", "[I", (.ref b2)), ("com/example/triplecore/triplecore/query/PatternQueue", "counts", "[I", (.ref b3)), ("com/example/triplecore/triplecore/query/PatternQueue", "size", "I", (.int (3 : Int32)))]) C d6_34 rfl (hw _ (List.mem_of_getElem? (i := 34) rfl)) Via.refl O rfl (Or.inl (hw _ (List.mem_of_getElem? (i := 35) rfl))) (hw _ (List.mem_of_getElem? (i := 1) rfl)) (by decide) rfl rfl rfl (C.old (List.mem_of_getElem? (i := 0) rfl)) fun ha9 O Kha9 => ?_
    replace A1 := A1.keep Kha9 (ninS (Ne.symm q01) nin0)
    replace A2 := A2.keep Kha9 (ninS (Ne.symm q02) nin0)
    replace A3 := A3.keep Kha9 (ninS (Ne.symm q03) nin0)
    refine g_aloadN (pc' := 38) C d6_37 rfl rfl rfl ?_
    refine g_aloadN (pc' := 39) C d6_38 rfl rfl rfl ?_
    refine g_getO (pc' := 42) (j := 3) C d6_39 rfl (hw _ (List.mem_of_getElem? (i := 34) rfl)) O rfl ?_
    refine g_iconst (pc' := 43) (z := (1 : Int32)) C d6_42 rfl rfl ?_
    refine g_isub (pc' := 44) C d6_43 rfl ?_
    show Go W Q ha9 0 0 44 #[.val (.ref a), .val (.int (2 : Int32)), .val (.int e)] [(.int (2 : Int32)), (.ref a)]
    refine g_private (y := (⟨"com/example/triplecore/triplecore/query/PatternQueue", "up", "(I)V"⟩ : MethodName)) (a := a) (pc' := 47) (k' := 0) (n' := 0) (S := []) (as := [(.int (2 : Int32))]) C d6_44 rfl (hw _ (List.mem_of_getElem? (i := 36) rfl)) (hw _ (List.mem_of_getElem? (i := 37) rfl)) (hw _ (List.mem_of_getElem? (i := 2) rfl)) (hw _ (List.mem_of_getElem? (i := 39) rfl)) (hw _ (List.mem_of_getElem? (i := 38) rfl)) (hw _ (List.mem_of_getElem? (i := 1) rfl)) (by decide) O.1 (lenOf pd_3 rfl) (con_up2 W.l Z a0 hw a b1 b2 b3 (3 : Int32) (1 : Int32) (0 : Int32) (2 : Int32) e c1 2 1 _ _ rfl rfl (Nat.le_of_ble_eq_true rfl) (Nat.le_of_ble_eq_true rfl) rfl rfl q01 q02 q03 q12 q13 q23 ha9 O A1 A2 A3) rfl rfl (Nat.le_of_ble_eq_true rfl) (Nat.le_of_ble_eq_true rfl) rfl rfl (Nat.le_of_ble_eq_true rfl) (Nat.le_of_ble_eq_true rfl) (allS (C.old (List.mem_of_getElem? (i := 1) rfl)) (allS (C.old (List.mem_of_getElem? (i := 2) rfl)) all0)) fun vha10 ha10 qha10 Kha10 => ?_
    replace O := O.keep Kha10 (ninS q01 (ninS q02 nin0))
    replace A3 := A3.keep Kha10 (ninS (Ne.symm q13) (ninS (Ne.symm q23) nin0))
    rcases qha10 with ⟨rfl, A1, A2⟩ | ⟨rfl, A1, A2⟩
    ·
      replace A1 : Ar Z ha10 b1 .int [(.int (1 : Int32)), (.int (0 : Int32)), (.int (2 : Int32))] := A1
      replace A2 : Ar Z ha10 b2 .int [(.int (1 : Int32)), (.int (0 : Int32)), (.int (2 : Int32))] := A2
      show Go W Q ha10 0 0 47 #[.val (.ref a), .val (.int (2 : Int32)), .val (.int e)] []
      refine g_return C d6_47 (by decide) (by decide) ?_
      subst hQ
      exact ⟨rfl, ⟨(1 : Int32), (0 : Int32), (2 : Int32), (1 : Int32), (0 : Int32), (2 : Int32), c0, c1, e, (Or.inr (Or.inr (Or.inl ⟨rfl, rfl, rfl, rfl, rfl, rfl⟩))), O, A1, A2, A3⟩⟩
    ·
      replace A1 : Ar Z ha10 b1 .int [(.int (2 : Int32)), (.int (0 : Int32)), (.int (1 : Int32))] := A1
      replace A2 : Ar Z ha10 b2 .int [(.int (1 : Int32)), (.int (2 : Int32)), (.int (0 : Int32))] := A2
      show Go W Q ha10 0 0 47 #[.val (.ref a), .val (.int (2 : Int32)), .val (.int e)] []
      refine g_return C d6_47 (by decide) (by decide) ?_
      subst hQ
      exact ⟨rfl, ⟨(2 : Int32), (0 : Int32), (1 : Int32), (1 : Int32), (2 : Int32), (0 : Int32), c0, c1, e, (Or.inr (Or.inr (Or.inr (Or.inr (Or.inl ⟨rfl, rfl, rfl, rfl, rfl, rfl⟩))))), O, A1, A2, A3⟩⟩
set_option maxRecDepth 65536 in
set_option maxHeartbeats 2000000 in
theorem con_poll_G_0 (l : Launch) (Z : State) (a0 : Array Value) (hw : ∀ d ∈ tables_1, d.before a0 Z = true) (a b1 b2 b3 : Addr) (q01 : a ≠ b1) (q02 : a ≠ b2) (q03 : a ≠ b3) (q12 : b1 ≠ b2) (q13 : b1 ≠ b3) (q23 : b2 ≠ b3) (h : Heap) (B : PQ Z h a b1 b2 b3 1 G_0) :
    Con l Z [] (⟨"com/example/triplecore/triplecore/query/PatternQueue", "poll", "()I"⟩ : MethodName) prog_95_method_5_code 2 (some .int) ({ frames := 2, cells := 0, slots := 0, locals := 29 } : Room) #[(.ref a)] h [a, b1, b2] (fun v h' => (v = some (.int 0) ∧ PQ Z h' a b1 b2 b3 0 G_e)) := by
  obtain ⟨x0, x1, x2, l0, l1, l2, c0, c1, c2, g, O, A1, A2, A3⟩ := B
  refine Con.of_go (L0 := #[.val (.ref a), .unset]) (plainFor_of_name (by first | (simp [plainName, overriddenIn]; done) | decide +kernel)) (locals_of rfl) fun W Q hQ hl C => ?_
  subst hl
  rcases g with ⟨rfl, rfl, rfl, rfl⟩
  ·
    refine g_aloadN (pc' := 1) C d10_0 rfl rfl rfl ?_
    refine g_getO (pc' := 4) (j := 0) C d10_1 rfl (hw _ (List.mem_of_getElem? (i := 10) rfl)) O rfl ?_
    refine g_iconst (pc' := 5) (z := (0 : Int32)) C d10_4 rfl rfl ?_
    refine g_iaload (pc' := 6) (i := 0) C d10_5 rfl A1 rfl rfl ?_
    refine g_istoreN (pc' := 7) (L' := #[.val (.ref a), .val (.int (0 : Int32))]) C d10_6 rfl rfl ?_
    refine g_aloadN (pc' := 8) C d10_7 rfl rfl rfl ?_
    refine g_getO (pc' := 11) (j := 1) C d10_8 rfl (hw _ (List.mem_of_getElem? (i := 12) rfl)) O rfl ?_
    refine g_iloadN (pc' := 12) C d10_11 rfl rfl ?_
    refine g_iconst (pc' := 13) (z := (-1 : Int32)) C d10_12 rfl rfl ?_
    refine g_iastore (pc' := 14) (i := 0) (vs' := [(.int (-1 : Int32)), (.int (-1 : Int32)), (.int (-1 : Int32))]) C d10_13 rfl A2 rfl (Nat.le_of_ble_eq_true rfl) rfl (C.old (List.mem_of_getElem? (i := 2) rfl)) fun hp1 A2 Khp1 => ?_
    replace O := O.keep Khp1 (ninS q02 nin0)
    replace A1 := A1.keep Khp1 (ninS q12 nin0)
    replace A3 := A3.keep Khp1 (ninS (Ne.symm q23) nin0)
    refine g_aloadN (pc' := 15) C d10_14 rfl rfl rfl ?_
    refine g_dup (pc' := 16) C d10_15 rfl rfl ?_
    refine g_getO (pc' := 19) (j := 3) C d10_16 rfl (hw _ (List.mem_of_getElem? (i := 34) rfl)) O rfl ?_
    refine g_iconst (pc' := 20) (z := (1 : Int32)) C d10_19 rfl rfl ?_
    refine g_isub (pc' := 21) C d10_20 rfl ?_
    show Go W Q hp1 0 0 21 #[.val (.ref a), .val (.int (0 : Int32))] [(.int (0 : Int32)), (.ref a)]
    refine g_putO (pc' := 24) (j := 3) (ty := .int) (v' := (.int (0 : Int32))) (fs' := [("com/example/triplecore/triplecore/query/PatternQueue", "heap", "[I", (.ref b1)), ("com/example/triplecore/triplecore/query/PatternQueue", "places", "[I", (.ref b2)), ("com/example/triplecore/triplecore/query/PatternQueue", "counts", "[I", (.ref b3)), ("com/example/triplecore/triplecore/query/PatternQueue", "size", "I", (.int (0 : Int32)))]) C d10_21 rfl (hw _ (List.mem_of_getElem? (i := 34) rfl)) Via.refl O rfl (Or.inl (hw _ (List.mem_of_getElem? (i := 35) rfl))) (hw _ (List.mem_of_getElem? (i := 1) rfl)) (by decide) rfl rfl rfl (C.old (List.mem_of_getElem? (i := 0) rfl)) fun hp2 O Khp2 => ?_
    replace A1 := A1.keep Khp2 (ninS (Ne.symm q01) nin0)
    replace A2 := A2.keep Khp2 (ninS (Ne.symm q02) nin0)
    replace A3 := A3.keep Khp2 (ninS (Ne.symm q03) nin0)
    refine g_aloadN (pc' := 25) C d10_24 rfl rfl rfl ?_
    refine g_getO (pc' := 28) (j := 3) C d10_25 rfl (hw _ (List.mem_of_getElem? (i := 34) rfl)) O rfl ?_
    refine g_ifY (xi := 0) (pc1 := 50) C d10_28 (by decide) rfl rfl (by decide) ?_
    refine g_iloadN (pc' := 51) C d10_50 rfl rfl ?_
    refine g_retI C d10_51 (by decide) (by decide) ?_
    subst hQ
    exact ⟨rfl, ⟨(0 : Int32), x1, x2, (-1 : Int32), (-1 : Int32), (-1 : Int32), c0, c1, c2, ⟨rfl, rfl, rfl⟩, O, A1, A2, A3⟩⟩
set_option maxRecDepth 65536 in
set_option maxHeartbeats 2000000 in
theorem con_poll_G_1 (l : Launch) (Z : State) (a0 : Array Value) (hw : ∀ d ∈ tables_1, d.before a0 Z = true) (a b1 b2 b3 : Addr) (q01 : a ≠ b1) (q02 : a ≠ b2) (q03 : a ≠ b3) (q12 : b1 ≠ b2) (q13 : b1 ≠ b3) (q23 : b2 ≠ b3) (h : Heap) (B : PQ Z h a b1 b2 b3 1 G_1) :
    Con l Z [] (⟨"com/example/triplecore/triplecore/query/PatternQueue", "poll", "()I"⟩ : MethodName) prog_95_method_5_code 2 (some .int) ({ frames := 2, cells := 0, slots := 0, locals := 29 } : Room) #[(.ref a)] h [a, b1, b2] (fun v h' => (v = some (.int 1) ∧ PQ Z h' a b1 b2 b3 0 G_e)) := by
  obtain ⟨x0, x1, x2, l0, l1, l2, c0, c1, c2, g, O, A1, A2, A3⟩ := B
  refine Con.of_go (L0 := #[.val (.ref a), .unset]) (plainFor_of_name (by first | (simp [plainName, overriddenIn]; done) | decide +kernel)) (locals_of rfl) fun W Q hQ hl C => ?_
  subst hl
  rcases g with ⟨rfl, rfl, rfl, rfl⟩
  ·
    refine g_aloadN (pc' := 1) C d10_0 rfl rfl rfl ?_
    refine g_getO (pc' := 4) (j := 0) C d10_1 rfl (hw _ (List.mem_of_getElem? (i := 10) rfl)) O rfl ?_
    refine g_iconst (pc' := 5) (z := (0 : Int32)) C d10_4 rfl rfl ?_
    refine g_iaload (pc' := 6) (i := 0) C d10_5 rfl A1 rfl rfl ?_
    refine g_istoreN (pc' := 7) (L' := #[.val (.ref a), .val (.int (1 : Int32))]) C d10_6 rfl rfl ?_
    refine g_aloadN (pc' := 8) C d10_7 rfl rfl rfl ?_
    refine g_getO (pc' := 11) (j := 1) C d10_8 rfl (hw _ (List.mem_of_getElem? (i := 12) rfl)) O rfl ?_
    refine g_iloadN (pc' := 12) C d10_11 rfl rfl ?_
    refine g_iconst (pc' := 13) (z := (-1 : Int32)) C d10_12 rfl rfl ?_
    refine g_iastore (pc' := 14) (i := 1) (vs' := [(.int (-1 : Int32)), (.int (-1 : Int32)), (.int (-1 : Int32))]) C d10_13 rfl A2 rfl (Nat.le_of_ble_eq_true rfl) rfl (C.old (List.mem_of_getElem? (i := 2) rfl)) fun hp1 A2 Khp1 => ?_
    replace O := O.keep Khp1 (ninS q02 nin0)
    replace A1 := A1.keep Khp1 (ninS q12 nin0)
    replace A3 := A3.keep Khp1 (ninS (Ne.symm q23) nin0)
    refine g_aloadN (pc' := 15) C d10_14 rfl rfl rfl ?_
    refine g_dup (pc' := 16) C d10_15 rfl rfl ?_
    refine g_getO (pc' := 19) (j := 3) C d10_16 rfl (hw _ (List.mem_of_getElem? (i := 34) rfl)) O rfl ?_
    refine g_iconst (pc' := 20) (z := (1 : Int32)) C d10_19 rfl rfl ?_
    refine g_isub (pc' := 21) C d10_20 rfl ?_
    show Go W Q hp1 0 0 21 #[.val (.ref a), .val (.int (1 : Int32))] [(.int (0 : Int32)), (.ref a)]
    refine g_putO (pc' := 24) (j := 3) (ty := .int) (v' := (.int (0 : Int32))) (fs' := [("com/example/triplecore/triplecore/query/PatternQueue", "heap", "[I", (.ref b1)), ("com/example/triplecore/triplecore/query/PatternQueue", "places", "[I", (.ref b2)), ("com/example/triplecore/triplecore/query/PatternQueue", "counts", "[I", (.ref b3)), ("com/example/triplecore/triplecore/query/PatternQueue", "size", "I", (.int (0 : Int32)))]) C d10_21 rfl (hw _ (List.mem_of_getElem? (i := 34) rfl)) Via.refl O rfl (Or.inl (hw _ (List.mem_of_getElem? (i := 35) rfl))) (hw _ (List.mem_of_getElem? (i := 1) rfl)) (by decide) rfl rfl rfl (C.old (List.mem_of_getElem? (i := 0) rfl)) fun hp2 O Khp2 => ?_
    replace A1 := A1.keep Khp2 (ninS (Ne.symm q01) nin0)
    replace A2 := A2.keep Khp2 (ninS (Ne.symm q02) nin0)
    replace A3 := A3.keep Khp2 (ninS (Ne.symm q03) nin0)
    refine g_aloadN (pc' := 25) C d10_24 rfl rfl rfl ?_
    refine g_getO (pc' := 28) (j := 3) C d10_25 rfl (hw _ (List.mem_of_getElem? (i := 34) rfl)) O rfl ?_
    refine g_ifY (xi := 0) (pc1 := 50) C d10_28 (by decide) rfl rfl (by decide) ?_
    refine g_iloadN (pc' := 51) C d10_50 rfl rfl ?_
    refine g_retI C d10_51 (by decide) (by decide) ?_
    subst hQ
    exact ⟨rfl, ⟨(1 : Int32), x1, x2, (-1 : Int32), (-1 : Int32), (-1 : Int32), c0, c1, c2, ⟨rfl, rfl, rfl⟩, O, A1, A2, A3⟩⟩
set_option maxRecDepth 65536 in
set_option maxHeartbeats 2000000 in
theorem con_poll_G_2 (l : Launch) (Z : State) (a0 : Array Value) (hw : ∀ d ∈ tables_1, d.before a0 Z = true) (a b1 b2 b3 : Addr) (q01 : a ≠ b1) (q02 : a ≠ b2) (q03 : a ≠ b3) (q12 : b1 ≠ b2) (q13 : b1 ≠ b3) (q23 : b2 ≠ b3) (h : Heap) (B : PQ Z h a b1 b2 b3 1 G_2) :
    Con l Z [] (⟨"com/example/triplecore/triplecore/query/PatternQueue", "poll", "()I"⟩ : MethodName) prog_95_method_5_code 2 (some .int) ({ frames := 2, cells := 0, slots := 0, locals := 29 } : Room) #[(.ref a)] h [a, b1, b2] (fun v h' => (v = some (.int 2) ∧ PQ Z h' a b1 b2 b3 0 G_e)) := by
  obtain ⟨x0, x1, x2, l0, l1, l2, c0, c1, c2, g, O, A1, A2, A3⟩ := B
  refine Con.of_go (L0 := #[.val (.ref a), .unset]) (plainFor_of_name (by first | (simp [plainName, overriddenIn]; done) | decide +kernel)) (locals_of rfl) fun W Q hQ hl C => ?_
  subst hl
  rcases g with ⟨rfl, rfl, rfl, rfl⟩
  ·
    refine g_aloadN (pc' := 1) C d10_0 rfl rfl rfl ?_
    refine g_getO (pc' := 4) (j := 0) C d10_1 rfl (hw _ (List.mem_of_getElem? (i := 10) rfl)) O rfl ?_
    refine g_iconst (pc' := 5) (z := (0 : Int32)) C d10_4 rfl rfl ?_
    refine g_iaload (pc' := 6) (i := 0) C d10_5 rfl A1 rfl rfl ?_
    refine g_istoreN (pc' := 7) (L' := #[.val (.ref a), .val (.int (2 : Int32))]) C d10_6 rfl rfl ?_
    refine g_aloadN (pc' := 8) C d10_7 rfl rfl rfl ?_
    refine g_getO (pc' := 11) (j := 1) C d10_8 rfl (hw _ (List.mem_of_getElem? (i := 12) rfl)) O rfl ?_
    refine g_iloadN (pc' := 12) C d10_11 rfl rfl ?_
    refine g_iconst (pc' := 13) (z := (-1 : Int32)) C d10_12 rfl rfl ?_
    refine g_iastore (pc' := 14) (i := 2) (vs' := [(.int (-1 : Int32)), (.int (-1 : Int32)), (.int (-1 : Int32))]) C d10_13 rfl A2 rfl (Nat.le_of_ble_eq_true rfl) rfl (C.old (List.mem_of_getElem? (i := 2) rfl)) fun hp1 A2 Khp1 => ?_
    replace O := O.keep Khp1 (ninS q02 nin0)
    replace A1 := A1.keep Khp1 (ninS q12 nin0)
    replace A3 := A3.keep Khp1 (ninS (Ne.symm q23) nin0)
    refine g_aloadN (pc' := 15) C d10_14 rfl rfl rfl ?_
    refine g_dup (pc' := 16) C d10_15 rfl rfl ?_
    refine g_getO (pc' := 19) (j := 3) C d10_16 rfl (hw _ (List.mem_of_getElem? (i := 34) rfl)) O rfl ?_
    refine g_iconst (pc' := 20) (z := (1 : Int32)) C d10_19 rfl rfl ?_
    refine g_isub (pc' := 21) C d10_20 rfl ?_
    show Go W Q hp1 0 0 21 #[.val (.ref a), .val (.int (2 : Int32))] [(.int (0 : Int32)), (.ref a)]
    refine g_putO (pc' := 24) (j := 3) (ty := .int) (v' := (.int (0 : Int32))) (fs' := [("com/example/triplecore/triplecore/query/PatternQueue", "heap", "[I", (.ref b1)), ("com/example/triplecore/triplecore/query/PatternQueue", "places", "[I", (.ref b2)), ("com/example/triplecore/triplecore/query/PatternQueue", "counts", "[I", (.ref b3)), ("com/example/triplecore/triplecore/query/PatternQueue", "size", "I", (.int (0 : Int32)))]) C d10_21 rfl (hw _ (List.mem_of_getElem? (i := 34) rfl)) Via.refl O rfl (Or.inl (hw _ (List.mem_of_getElem? (i := 35) rfl))) (hw _ (List.mem_of_getElem? (i := 1) rfl)) (by decide) rfl rfl rfl (C.old (List.mem_of_getElem? (i := 0) rfl)) fun hp2 O Khp2 => ?_
    replace A1 := A1.keep Khp2 (ninS (Ne.symm q01) nin0)
    replace A2 := A2.keep Khp2 (ninS (Ne.symm q02) nin0)
    replace A3 := A3.keep Khp2 (ninS (Ne.symm q03) nin0)
    refine g_aloadN (pc' := 25) C d10_24 rfl rfl rfl ?_
    refine g_getO (pc' := 28) (j := 3) C d10_25 rfl (hw _ (List.mem_of_getElem? (i := 34) rfl)) O rfl ?_
    refine g_ifY (xi := 0) (pc1 := 50) C d10_28 (by decide) rfl rfl (by decide) ?_
    refine g_iloadN (pc' := 51) C d10_50 rfl rfl ?_
    refine g_retI C d10_51 (by decide) (by decide) ?_
    subst hQ
    exact ⟨rfl, ⟨(2 : Int32), x1, x2, (-1 : Int32), (-1 : Int32), (-1 : Int32), c0, c1, c2, ⟨rfl, rfl, rfl⟩, O, A1, A2, A3⟩⟩
set_option maxRecDepth 65536 in
set_option maxHeartbeats 2000000 in
theorem con_poll_G_01 (l : Launch) (Z : State) (a0 : Array Value) (hw : ∀ d ∈ tables_1, d.before a0 Z = true) (a b1 b2 b3 : Addr) (q01 : a ≠ b1) (q02 : a ≠ b2) (q03 : a ≠ b3) (q12 : b1 ≠ b2) (q13 : b1 ≠ b3) (q23 : b2 ≠ b3) (h : Heap) (B : PQ Z h a b1 b2 b3 2 G_01) :
    Con l Z [] (⟨"com/example/triplecore/triplecore/query/PatternQueue", "poll", "()I"⟩ : MethodName) prog_95_method_5_code 2 (some .int) ({ frames := 2, cells := 0, slots := 0, locals := 29 } : Room) #[(.ref a)] h [a, b1, b2] (fun v h' => (v = some (.int 0) ∧ PQ Z h' a b1 b2 b3 1 G_1) ∨ (v = some (.int 1) ∧ PQ Z h' a b1 b2 b3 1 G_0)) := by
  obtain ⟨x0, x1, x2, l0, l1, l2, c0, c1, c2, g, O, A1, A2, A3⟩ := B
  refine Con.of_go (L0 := #[.val (.ref a), .unset]) (plainFor_of_name (by first | (simp [plainName, overriddenIn]; done) | decide +kernel)) (locals_of rfl) fun W Q hQ hl C => ?_
  subst hl
  rcases g with ⟨rfl, rfl, rfl, rfl, rfl⟩ | ⟨rfl, rfl, rfl, rfl, rfl⟩
  ·
    refine g_aloadN (pc' := 1) C d10_0 rfl rfl rfl ?_
    refine g_getO (pc' := 4) (j := 0) C d10_1 rfl (hw _ (List.mem_of_getElem? (i := 10) rfl)) O rfl ?_
    refine g_iconst (pc' := 5) (z := (0 : Int32)) C d10_4 rfl rfl ?_
    refine g_iaload (pc' := 6) (i := 0) C d10_5 rfl A1 rfl rfl ?_
    refine g_istoreN (pc' := 7) (L' := #[.val (.ref a), .val (.int (0 : Int32))]) C d10_6 rfl rfl ?_
    refine g_aloadN (pc' := 8) C d10_7 rfl rfl rfl ?_
    refine g_getO (pc' := 11) (j := 1) C d10_8 rfl (hw _ (List.mem_of_getElem? (i := 12) rfl)) O rfl ?_
    refine g_iloadN (pc' := 12) C d10_11 rfl rfl ?_
    refine g_iconst (pc' := 13) (z := (-1 : Int32)) C d10_12 rfl rfl ?_
    refine g_iastore (pc' := 14) (i := 0) (vs' := [(.int (-1 : Int32)), (.int (1 : Int32)), (.int (-1 : Int32))]) C d10_13 rfl A2 rfl (Nat.le_of_ble_eq_true rfl) rfl (C.old (List.mem_of_getElem? (i := 2) rfl)) fun hp1 A2 Khp1 => ?_
    replace O := O.keep Khp1 (ninS q02 nin0)
    replace A1 := A1.keep Khp1 (ninS q12 nin0)
    replace A3 := A3.keep Khp1 (ninS (Ne.symm q23) nin0)
    refine g_aloadN (pc' := 15) C d10_14 rfl rfl rfl ?_
    refine g_dup (pc' := 16) C d10_15 rfl rfl ?_
    refine g_getO (pc' := 19) (j := 3) C d10_16 rfl (hw _ (List.mem_of_getElem? (i := 34) rfl)) O rfl ?_
    refine g_iconst (pc' := 20) (z := (1 : Int32)) C d10_19 rfl rfl ?_
    refine g_isub (pc' := 21) C d10_20 rfl ?_
    show Go W Q hp1 0 0 21 #[.val (.ref a), .val (.int (0 : Int32))] [(.int (1 : Int32)), (.ref a)]
    refine g_putO (pc' := 24) (j := 3) (ty := .int) (v' := (.int (1 : Int32))) (fs' := [("com/example/triplecore/triplecore/query/PatternQueue", "heap", "[I", (.ref b1)), ("com/example/triplecore/triplecore/query/PatternQueue", "places", "[I", (.ref b2)), ("com/example/triplecore/triplecore/query/PatternQueue", "counts", "[I", (.ref b3)), ("com/example/triplecore/triplecore/query/PatternQueue", "size", "I", (.int (1 : Int32)))]) C d10_21 rfl (hw _ (List.mem_of_getElem? (i := 34) rfl)) Via.refl O rfl (Or.inl (hw _ (List.mem_of_getElem? (i := 35) rfl))) (hw _ (List.mem_of_getElem? (i := 1) rfl)) (by decide) rfl rfl rfl (C.old (List.mem_of_getElem? (i := 0) rfl)) fun hp2 O Khp2 => ?_
    replace A1 := A1.keep Khp2 (ninS (Ne.symm q01) nin0)
    replace A2 := A2.keep Khp2 (ninS (Ne.symm q02) nin0)
    replace A3 := A3.keep Khp2 (ninS (Ne.symm q03) nin0)
    refine g_aloadN (pc' := 25) C d10_24 rfl rfl rfl ?_
    refine g_getO (pc' := 28) (j := 3) C d10_25 rfl (hw _ (List.mem_of_getElem? (i := 34) rfl)) O rfl ?_
    refine g_ifN (xi := 1) (pc2 := 31) C d10_28 rfl rfl (by decide) ?_
    refine g_aloadN (pc' := 32) C d10_31 rfl rfl rfl ?_
    refine g_aloadN (pc' := 33) C d10_32 rfl rfl rfl ?_
    refine g_getO (pc' := 36) (j := 0) C d10_33 rfl (hw _ (List.mem_of_getElem? (i := 10) rfl)) O rfl ?_
    refine g_aloadN (pc' := 37) C d10_36 rfl rfl rfl ?_
    refine g_getO (pc' := 40) (j := 3) C d10_37 rfl (hw _ (List.mem_of_getElem? (i := 34) rfl)) O rfl ?_
    refine g_iaload (pc' := 41) (i := 1) C d10_40 rfl A1 rfl rfl ?_
    refine g_iconst (pc' := 42) (z := (0 : Int32)) C d10_41 rfl rfl ?_
    refine g_private (y := (⟨"com/example/triplecore/triplecore/query/PatternQueue", "move", "(II)V"⟩ : MethodName)) (a := a) (pc' := 45) (k' := 0) (n' := 0) (S := []) (as := [(.int (1 : Int32)), (.int (0 : Int32))]) C d10_42 rfl (hw _ (List.mem_of_getElem? (i := 40) rfl)) (hw _ (List.mem_of_getElem? (i := 41) rfl)) (hw _ (List.mem_of_getElem? (i := 2) rfl)) (hw _ (List.mem_of_getElem? (i := 43) rfl)) (hw _ (List.mem_of_getElem? (i := 42) rfl)) (hw _ (List.mem_of_getElem? (i := 1) rfl)) (by decide) O.1 (lenOf pd_0 rfl) (con_move W.l Z a0 hw a b1 b2 b3 (1 : Int32) (1 : Int32) (0 : Int32) 1 0 _ _ rfl rfl (Nat.le_of_ble_eq_true rfl) (Nat.le_of_ble_eq_true rfl) q01 q02 q03 q12 q13 q23 hp2 O A1 A2) rfl rfl (Nat.le_of_ble_eq_true rfl) (Nat.le_of_ble_eq_true rfl) rfl rfl (Nat.le_of_ble_eq_true rfl) (Nat.le_of_ble_eq_true rfl) (allS (C.old (List.mem_of_getElem? (i := 1) rfl)) (allS (C.old (List.mem_of_getElem? (i := 2) rfl)) all0)) fun vhp3 hp3 qhp3 Khp3 => ?_
    obtain ⟨rfl, A1, A2⟩ := qhp3
    replace O := O.keep Khp3 (ninS q01 (ninS q02 nin0))
    replace A3 := A3.keep Khp3 (ninS (Ne.symm q13) (ninS (Ne.symm q23) nin0))
    show Go W Q hp3 0 0 45 #[.val (.ref a), .val (.int (0 : Int32))] []
    replace A1 : Ar Z hp3 b1 .int [(.int (1 : Int32)), (.int (1 : Int32)), (.int x2)] := A1
    replace A2 : Ar Z hp3 b2 .int [(.int (-1 : Int32)), (.int (0 : Int32)), (.int (-1 : Int32))] := A2
    show Go W Q hp3 0 0 45 #[.val (.ref a), .val (.int (0 : Int32))] []
    refine g_aloadN (pc' := 46) C d10_45 rfl rfl rfl ?_
    refine g_iconst (pc' := 47) (z := (0 : Int32)) C d10_46 rfl rfl ?_
    refine g_private (y := (⟨"com/example/triplecore/triplecore/query/PatternQueue", "down", "(I)V"⟩ : MethodName)) (a := a) (pc' := 50) (k' := 0) (n' := 0) (S := []) (as := [(.int (0 : Int32))]) C d10_47 rfl (hw _ (List.mem_of_getElem? (i := 53) rfl)) (hw _ (List.mem_of_getElem? (i := 54) rfl)) (hw _ (List.mem_of_getElem? (i := 2) rfl)) (hw _ (List.mem_of_getElem? (i := 56) rfl)) (hw _ (List.mem_of_getElem? (i := 55) rfl)) (hw _ (List.mem_of_getElem? (i := 1) rfl)) (by decide) O.1 (lenOf pd_3 rfl) (con_down1 W.l Z a0 hw a b1 b2 b3 (1 : Int32) (1 : Int32) x2 1 _ _ rfl (Nat.le_of_ble_eq_true rfl) q01 q02 q03 q12 q13 q23 hp3 O A1 A2 A3) rfl rfl (Nat.le_of_ble_eq_true rfl) (Nat.le_of_ble_eq_true rfl) rfl rfl (Nat.le_of_ble_eq_true rfl) (Nat.le_of_ble_eq_true rfl) (allS (C.old (List.mem_of_getElem? (i := 1) rfl)) (allS (C.old (List.mem_of_getElem? (i := 2) rfl)) all0)) fun vhp4 hp4 qhp4 Khp4 => ?_
    obtain ⟨rfl, A1, A2⟩ := qhp4
    replace O := O.keep Khp4 (ninS q01 (ninS q02 nin0))
    replace A3 := A3.keep Khp4 (ninS (Ne.symm q13) (ninS (Ne.symm q23) nin0))
    replace A1 : Ar Z hp4 b1 .int [(.int (1 : Int32)), (.int (1 : Int32)), (.int x2)] := A1
    replace A2 : Ar Z hp4 b2 .int [(.int (-1 : Int32)), (.int (0 : Int32)), (.int (-1 : Int32))] := A2
    show Go W Q hp4 0 0 50 #[.val (.ref a), .val (.int (0 : Int32))] []
    refine g_iloadN (pc' := 51) C d10_50 rfl rfl ?_
    refine g_retI C d10_51 (by decide) (by decide) ?_
    subst hQ
    exact Or.inl ⟨rfl, ⟨(1 : Int32), (1 : Int32), x2, (-1 : Int32), (0 : Int32), (-1 : Int32), c0, c1, c2, ⟨rfl, rfl, rfl, rfl⟩, O, A1, A2, A3⟩⟩
  ·
    refine g_aloadN (pc' := 1) C d10_0 rfl rfl rfl ?_
    refine g_getO (pc' := 4) (j := 0) C d10_1 rfl (hw _ (List.mem_of_getElem? (i := 10) rfl)) O rfl ?_
    refine g_iconst (pc' := 5) (z := (0 : Int32)) C d10_4 rfl rfl ?_
    refine g_iaload (pc' := 6) (i := 0) C d10_5 rfl A1 rfl rfl ?_
    refine g_istoreN (pc' := 7) (L' := #[.val (.ref a), .val (.int (1 : Int32))]) C d10_6 rfl rfl ?_
    refine g_aloadN (pc' := 8) C d10_7 rfl rfl rfl ?_
    refine g_getO (pc' := 11) (j := 1) C d10_8 rfl (hw _ (List.mem_of_getElem? (i := 12) rfl)) O rfl ?_
    refine g_iloadN (pc' := 12) C d10_11 rfl rfl ?_
    refine g_iconst (pc' := 13) (z := (-1 : Int32)) C d10_12 rfl rfl ?_
    refine g_iastore (pc' := 14) (i := 1) (vs' := [(.int (1 : Int32)), (.int (-1 : Int32)), (.int (-1 : Int32))]) C d10_13 rfl A2 rfl (Nat.le_of_ble_eq_true rfl) rfl (C.old (List.mem_of_getElem? (i := 2) rfl)) fun hp5 A2 Khp5 => ?_
    replace O := O.keep Khp5 (ninS q02 nin0)
    replace A1 := A1.keep Khp5 (ninS q12 nin0)
    replace A3 := A3.keep Khp5 (ninS (Ne.symm q23) nin0)
    refine g_aloadN (pc' := 15) C d10_14 rfl rfl rfl ?_
    refine g_dup (pc' := 16) C d10_15 rfl rfl ?_
    refine g_getO (pc' := 19) (j := 3) C d10_16 rfl (hw _ (List.mem_of_getElem? (i := 34) rfl)) O rfl ?_
    refine g_iconst (pc' := 20) (z := (1 : Int32)) C d10_19 rfl rfl ?_
    refine g_isub (pc' := 21) C d10_20 rfl ?_
    show Go W Q hp5 0 0 21 #[.val (.ref a), .val (.int (1 : Int32))] [(.int (1 : Int32)), (.ref a)]
    refine g_putO (pc' := 24) (j := 3) (ty := .int) (v' := (.int (1 : Int32))) (fs' := [("com/example/triplecore/triplecore/query/PatternQueue", "heap", "[I", (.ref b1)), ("com/example/triplecore/triplecore/query/PatternQueue", "places", "[I", (.ref b2)), ("com/example/triplecore/triplecore/query/PatternQueue", "counts", "[I", (.ref b3)), ("com/example/triplecore/triplecore/query/PatternQueue", "size", "I", (.int (1 : Int32)))]) C d10_21 rfl (hw _ (List.mem_of_getElem? (i := 34) rfl)) Via.refl O rfl (Or.inl (hw _ (List.mem_of_getElem? (i := 35) rfl))) (hw _ (List.mem_of_getElem? (i := 1) rfl)) (by decide) rfl rfl rfl (C.old (List.mem_of_getElem? (i := 0) rfl)) fun hp6 O Khp6 => ?_
    replace A1 := A1.keep Khp6 (ninS (Ne.symm q01) nin0)
    replace A2 := A2.keep Khp6 (ninS (Ne.symm q02) nin0)
    replace A3 := A3.keep Khp6 (ninS (Ne.symm q03) nin0)
    refine g_aloadN (pc' := 25) C d10_24 rfl rfl rfl ?_
    refine g_getO (pc' := 28) (j := 3) C d10_25 rfl (hw _ (List.mem_of_getElem? (i := 34) rfl)) O rfl ?_
    refine g_ifN (xi := 1) (pc2 := 31) C d10_28 rfl rfl (by decide) ?_
    refine g_aloadN (pc' := 32) C d10_31 rfl rfl rfl ?_
    refine g_aloadN (pc' := 33) C d10_32 rfl rfl rfl ?_
    refine g_getO (pc' := 36) (j := 0) C d10_33 rfl (hw _ (List.mem_of_getElem? (i := 10) rfl)) O rfl ?_
    refine g_aloadN (pc' := 37) C d10_36 rfl rfl rfl ?_
    refine g_getO (pc' := 40) (j := 3) C d10_37 rfl (hw _ (List.mem_of_getElem? (i := 34) rfl)) O rfl ?_
    refine g_iaload (pc' := 41) (i := 1) C d10_40 rfl A1 rfl rfl ?_
    refine g_iconst (pc' := 42) (z := (0 : Int32)) C d10_41 rfl rfl ?_
    refine g_private (y := (⟨"com/example/triplecore/triplecore/query/PatternQueue", "move", "(II)V"⟩ : MethodName)) (a := a) (pc' := 45) (k' := 0) (n' := 0) (S := []) (as := [(.int (0 : Int32)), (.int (0 : Int32))]) C d10_42 rfl (hw _ (List.mem_of_getElem? (i := 40) rfl)) (hw _ (List.mem_of_getElem? (i := 41) rfl)) (hw _ (List.mem_of_getElem? (i := 2) rfl)) (hw _ (List.mem_of_getElem? (i := 43) rfl)) (hw _ (List.mem_of_getElem? (i := 42) rfl)) (hw _ (List.mem_of_getElem? (i := 1) rfl)) (by decide) O.1 (lenOf pd_0 rfl) (con_move W.l Z a0 hw a b1 b2 b3 (1 : Int32) (0 : Int32) (0 : Int32) 0 0 _ _ rfl rfl (Nat.le_of_ble_eq_true rfl) (Nat.le_of_ble_eq_true rfl) q01 q02 q03 q12 q13 q23 hp6 O A1 A2) rfl rfl (Nat.le_of_ble_eq_true rfl) (Nat.le_of_ble_eq_true rfl) rfl rfl (Nat.le_of_ble_eq_true rfl) (Nat.le_of_ble_eq_true rfl) (allS (C.old (List.mem_of_getElem? (i := 1) rfl)) (allS (C.old (List.mem_of_getElem? (i := 2) rfl)) all0)) fun vhp7 hp7 qhp7 Khp7 => ?_
    obtain ⟨rfl, A1, A2⟩ := qhp7
    replace O := O.keep Khp7 (ninS q01 (ninS q02 nin0))
    replace A3 := A3.keep Khp7 (ninS (Ne.symm q13) (ninS (Ne.symm q23) nin0))
    show Go W Q hp7 0 0 45 #[.val (.ref a), .val (.int (1 : Int32))] []
    replace A1 : Ar Z hp7 b1 .int [(.int (0 : Int32)), (.int (0 : Int32)), (.int x2)] := A1
    replace A2 : Ar Z hp7 b2 .int [(.int (0 : Int32)), (.int (-1 : Int32)), (.int (-1 : Int32))] := A2
    show Go W Q hp7 0 0 45 #[.val (.ref a), .val (.int (1 : Int32))] []
    refine g_aloadN (pc' := 46) C d10_45 rfl rfl rfl ?_
    refine g_iconst (pc' := 47) (z := (0 : Int32)) C d10_46 rfl rfl ?_
    refine g_private (y := (⟨"com/example/triplecore/triplecore/query/PatternQueue", "down", "(I)V"⟩ : MethodName)) (a := a) (pc' := 50) (k' := 0) (n' := 0) (S := []) (as := [(.int (0 : Int32))]) C d10_47 rfl (hw _ (List.mem_of_getElem? (i := 53) rfl)) (hw _ (List.mem_of_getElem? (i := 54) rfl)) (hw _ (List.mem_of_getElem? (i := 2) rfl)) (hw _ (List.mem_of_getElem? (i := 56) rfl)) (hw _ (List.mem_of_getElem? (i := 55) rfl)) (hw _ (List.mem_of_getElem? (i := 1) rfl)) (by decide) O.1 (lenOf pd_3 rfl) (con_down1 W.l Z a0 hw a b1 b2 b3 (0 : Int32) (0 : Int32) x2 0 _ _ rfl (Nat.le_of_ble_eq_true rfl) q01 q02 q03 q12 q13 q23 hp7 O A1 A2 A3) rfl rfl (Nat.le_of_ble_eq_true rfl) (Nat.le_of_ble_eq_true rfl) rfl rfl (Nat.le_of_ble_eq_true rfl) (Nat.le_of_ble_eq_true rfl) (allS (C.old (List.mem_of_getElem? (i := 1) rfl)) (allS (C.old (List.mem_of_getElem? (i := 2) rfl)) all0)) fun vhp8 hp8 qhp8 Khp8 => ?_
    obtain ⟨rfl, A1, A2⟩ := qhp8
    replace O := O.keep Khp8 (ninS q01 (ninS q02 nin0))
    replace A3 := A3.keep Khp8 (ninS (Ne.symm q13) (ninS (Ne.symm q23) nin0))
    replace A1 : Ar Z hp8 b1 .int [(.int (0 : Int32)), (.int (0 : Int32)), (.int x2)] := A1
    replace A2 : Ar Z hp8 b2 .int [(.int (0 : Int32)), (.int (-1 : Int32)), (.int (-1 : Int32))] := A2
    show Go W Q hp8 0 0 50 #[.val (.ref a), .val (.int (1 : Int32))] []
    refine g_iloadN (pc' := 51) C d10_50 rfl rfl ?_
    refine g_retI C d10_51 (by decide) (by decide) ?_
    subst hQ
    exact Or.inr (⟨rfl, ⟨(0 : Int32), (0 : Int32), x2, (0 : Int32), (-1 : Int32), (-1 : Int32), c0, c1, c2, ⟨rfl, rfl, rfl, rfl⟩, O, A1, A2, A3⟩⟩)
set_option maxRecDepth 65536 in
set_option maxHeartbeats 2000000 in
theorem con_poll_G_02 (l : Launch) (Z : State) (a0 : Array Value) (hw : ∀ d ∈ tables_1, d.before a0 Z = true) (a b1 b2 b3 : Addr) (q01 : a ≠ b1) (q02 : a ≠ b2) (q03 : a ≠ b3) (q12 : b1 ≠ b2) (q13 : b1 ≠ b3) (q23 : b2 ≠ b3) (h : Heap) (B : PQ Z h a b1 b2 b3 2 G_02) :
    Con l Z [] (⟨"com/example/triplecore/triplecore/query/PatternQueue", "poll", "()I"⟩ : MethodName) prog_95_method_5_code 2 (some .int) ({ frames := 2, cells := 0, slots := 0, locals := 29 } : Room) #[(.ref a)] h [a, b1, b2] (fun v h' => (v = some (.int 0) ∧ PQ Z h' a b1 b2 b3 1 G_2) ∨ (v = some (.int 2) ∧ PQ Z h' a b1 b2 b3 1 G_0)) := by
  obtain ⟨x0, x1, x2, l0, l1, l2, c0, c1, c2, g, O, A1, A2, A3⟩ := B
  refine Con.of_go (L0 := #[.val (.ref a), .unset]) (plainFor_of_name (by first | (simp [plainName, overriddenIn]; done) | decide +kernel)) (locals_of rfl) fun W Q hQ hl C => ?_
  subst hl
  rcases g with ⟨rfl, rfl, rfl, rfl, rfl⟩ | ⟨rfl, rfl, rfl, rfl, rfl⟩
  ·
    refine g_aloadN (pc' := 1) C d10_0 rfl rfl rfl ?_
    refine g_getO (pc' := 4) (j := 0) C d10_1 rfl (hw _ (List.mem_of_getElem? (i := 10) rfl)) O rfl ?_
    refine g_iconst (pc' := 5) (z := (0 : Int32)) C d10_4 rfl rfl ?_
    refine g_iaload (pc' := 6) (i := 0) C d10_5 rfl A1 rfl rfl ?_
    refine g_istoreN (pc' := 7) (L' := #[.val (.ref a), .val (.int (0 : Int32))]) C d10_6 rfl rfl ?_
    refine g_aloadN (pc' := 8) C d10_7 rfl rfl rfl ?_
    refine g_getO (pc' := 11) (j := 1) C d10_8 rfl (hw _ (List.mem_of_getElem? (i := 12) rfl)) O rfl ?_
    refine g_iloadN (pc' := 12) C d10_11 rfl rfl ?_
    refine g_iconst (pc' := 13) (z := (-1 : Int32)) C d10_12 rfl rfl ?_
    refine g_iastore (pc' := 14) (i := 0) (vs' := [(.int (-1 : Int32)), (.int (-1 : Int32)), (.int (1 : Int32))]) C d10_13 rfl A2 rfl (Nat.le_of_ble_eq_true rfl) rfl (C.old (List.mem_of_getElem? (i := 2) rfl)) fun hp1 A2 Khp1 => ?_
    replace O := O.keep Khp1 (ninS q02 nin0)
    replace A1 := A1.keep Khp1 (ninS q12 nin0)
    replace A3 := A3.keep Khp1 (ninS (Ne.symm q23) nin0)
    refine g_aloadN (pc' := 15) C d10_14 rfl rfl rfl ?_
    refine g_dup (pc' := 16) C d10_15 rfl rfl ?_
    refine g_getO (pc' := 19) (j := 3) C d10_16 rfl (hw _ (List.mem_of_getElem? (i := 34) rfl)) O rfl ?_
    refine g_iconst (pc' := 20) (z := (1 : Int32)) C d10_19 rfl rfl ?_
    refine g_isub (pc' := 21) C d10_20 rfl ?_
    show Go W Q hp1 0 0 21 #[.val (.ref a), .val (.int (0 : Int32))] [(.int (1 : Int32)), (.ref a)]
    refine g_putO (pc' := 24) (j := 3) (ty := .int) (v' := (.int (1 : Int32))) (fs' := [("com/example/triplecore/triplecore/query/PatternQueue", "heap", "[I", (.ref b1)), ("com/example/triplecore/triplecore/query/PatternQueue", "places", "[I", (.ref b2)), ("com/example/triplecore/triplecore/query/PatternQueue", "counts", "[I", (.ref b3)), ("com/example/triplecore/triplecore/query/PatternQueue", "size", "I", (.int (1 : Int32)))]) C d10_21 rfl (hw _ (List.mem_of_getElem? (i := 34) rfl)) Via.refl O rfl (Or.inl (hw _ (List.mem_of_getElem? (i := 35) rfl))) (hw _ (List.mem_of_getElem? (i := 1) rfl)) (by decide) rfl rfl rfl (C.old (List.mem_of_getElem? (i := 0) rfl)) fun hp2 O Khp2 => ?_
    replace A1 := A1.keep Khp2 (ninS (Ne.symm q01) nin0)
    replace A2 := A2.keep Khp2 (ninS (Ne.symm q02) nin0)
    replace A3 := A3.keep Khp2 (ninS (Ne.symm q03) nin0)
    refine g_aloadN (pc' := 25) C d10_24 rfl rfl rfl ?_
    refine g_getO (pc' := 28) (j := 3) C d10_25 rfl (hw _ (List.mem_of_getElem? (i := 34) rfl)) O rfl ?_
    refine g_ifN (xi := 1) (pc2 := 31) C d10_28 rfl rfl (by decide) ?_
    refine g_aloadN (pc' := 32) C d10_31 rfl rfl rfl ?_
    refine g_aloadN (pc' := 33) C d10_32 rfl rfl rfl ?_
    refine g_getO (pc' := 36) (j := 0) C d10_33 rfl (hw _ (List.mem_of_getElem? (i := 10) rfl)) O rfl ?_
    refine g_aloadN (pc' := 37) C d10_36 rfl rfl rfl ?_
    refine g_getO (pc' := 40) (j := 3) C d10_37 rfl (hw _ (List.mem_of_getElem? (i := 34) rfl)) O rfl ?_
    refine g_iaload (pc' := 41) (i := 1) C d10_40 rfl A1 rfl rfl ?_
    refine g_iconst (pc' := 42) (z := (0 : Int32)) C d10_41 rfl rfl ?_
    refine g_private (y := (⟨"com/example/triplecore/triplecore/query/PatternQueue", "move", "(II)V"⟩ : MethodName)) (a := a) (pc' := 45) (k' := 0) (n' := 0) (S := []) (as := [(.int (2 : Int32)), (.int (0 : Int32))]) C d10_42 rfl (hw _ (List.mem_of_getElem? (i := 40) rfl)) (hw _ (List.mem_of_getElem? (i := 41) rfl)) (hw _ (List.mem_of_getElem? (i := 2) rfl)) (hw _ (List.mem_of_getElem? (i := 43) rfl)) (hw _ (List.mem_of_getElem? (i := 42) rfl)) (hw _ (List.mem_of_getElem? (i := 1) rfl)) (by decide) O.1 (lenOf pd_0 rfl) (con_move W.l Z a0 hw a b1 b2 b3 (1 : Int32) (2 : Int32) (0 : Int32) 2 0 _ _ rfl rfl (Nat.le_of_ble_eq_true rfl) (Nat.le_of_ble_eq_true rfl) q01 q02 q03 q12 q13 q23 hp2 O A1 A2) rfl rfl (Nat.le_of_ble_eq_true rfl) (Nat.le_of_ble_eq_true rfl) rfl rfl (Nat.le_of_ble_eq_true rfl) (Nat.le_of_ble_eq_true rfl) (allS (C.old (List.mem_of_getElem? (i := 1) rfl)) (allS (C.old (List.mem_of_getElem? (i := 2) rfl)) all0)) fun vhp3 hp3 qhp3 Khp3 => ?_
    obtain ⟨rfl, A1, A2⟩ := qhp3
    replace O := O.keep Khp3 (ninS q01 (ninS q02 nin0))
    replace A3 := A3.keep Khp3 (ninS (Ne.symm q13) (ninS (Ne.symm q23) nin0))
    show Go W Q hp3 0 0 45 #[.val (.ref a), .val (.int (0 : Int32))] []
    replace A1 : Ar Z hp3 b1 .int [(.int (2 : Int32)), (.int (2 : Int32)), (.int x2)] := A1
    replace A2 : Ar Z hp3 b2 .int [(.int (-1 : Int32)), (.int (-1 : Int32)), (.int (0 : Int32))] := A2
    show Go W Q hp3 0 0 45 #[.val (.ref a), .val (.int (0 : Int32))] []
    refine g_aloadN (pc' := 46) C d10_45 rfl rfl rfl ?_
    refine g_iconst (pc' := 47) (z := (0 : Int32)) C d10_46 rfl rfl ?_
    refine g_private (y := (⟨"com/example/triplecore/triplecore/query/PatternQueue", "down", "(I)V"⟩ : MethodName)) (a := a) (pc' := 50) (k' := 0) (n' := 0) (S := []) (as := [(.int (0 : Int32))]) C d10_47 rfl (hw _ (List.mem_of_getElem? (i := 53) rfl)) (hw _ (List.mem_of_getElem? (i := 54) rfl)) (hw _ (List.mem_of_getElem? (i := 2) rfl)) (hw _ (List.mem_of_getElem? (i := 56) rfl)) (hw _ (List.mem_of_getElem? (i := 55) rfl)) (hw _ (List.mem_of_getElem? (i := 1) rfl)) (by decide) O.1 (lenOf pd_3 rfl) (con_down1 W.l Z a0 hw a b1 b2 b3 (2 : Int32) (2 : Int32) x2 2 _ _ rfl (Nat.le_of_ble_eq_true rfl) q01 q02 q03 q12 q13 q23 hp3 O A1 A2 A3) rfl rfl (Nat.le_of_ble_eq_true rfl) (Nat.le_of_ble_eq_true rfl) rfl rfl (Nat.le_of_ble_eq_true rfl) (Nat.le_of_ble_eq_true rfl) (allS (C.old (List.mem_of_getElem? (i := 1) rfl)) (allS (C.old (List.mem_of_getElem? (i := 2) rfl)) all0)) fun vhp4 hp4 qhp4 Khp4 => ?_
    obtain ⟨rfl, A1, A2⟩ := qhp4
    replace O := O.keep Khp4 (ninS q01 (ninS q02 nin0))
    replace A3 := A3.keep Khp4 (ninS (Ne.symm q13) (ninS (Ne.symm q23) nin0))
    replace A1 : Ar Z hp4 b1 .int [(.int (2 : Int32)), (.int (2 : Int32)), (.int x2)] := A1
    replace A2 : Ar Z hp4 b2 .int [(.int (-1 : Int32)), (.int (-1 : Int32)), (.int (0 : Int32))] := A2
    show Go W Q hp4 0 0 50 #[.val (.ref a), .val (.int (0 : Int32))] []
    refine g_iloadN (pc' := 51) C d10_50 rfl rfl ?_
    refine g_retI C d10_51 (by decide) (by decide) ?_
    subst hQ
    exact Or.inl ⟨rfl, ⟨(2 : Int32), (2 : Int32), x2, (-1 : Int32), (-1 : Int32), (0 : Int32), c0, c1, c2, ⟨rfl, rfl, rfl, rfl⟩, O, A1, A2, A3⟩⟩
  ·
    refine g_aloadN (pc' := 1) C d10_0 rfl rfl rfl ?_
    refine g_getO (pc' := 4) (j := 0) C d10_1 rfl (hw _ (List.mem_of_getElem? (i := 10) rfl)) O rfl ?_
    refine g_iconst (pc' := 5) (z := (0 : Int32)) C d10_4 rfl rfl ?_
    refine g_iaload (pc' := 6) (i := 0) C d10_5 rfl A1 rfl rfl ?_
    refine g_istoreN (pc' := 7) (L' := #[.val (.ref a), .val (.int (2 : Int32))]) C d10_6 rfl rfl ?_
    refine g_aloadN (pc' := 8) C d10_7 rfl rfl rfl ?_
    refine g_getO (pc' := 11) (j := 1) C d10_8 rfl (hw _ (List.mem_of_getElem? (i := 12) rfl)) O rfl ?_
    refine g_iloadN (pc' := 12) C d10_11 rfl rfl ?_
    refine g_iconst (pc' := 13) (z := (-1 : Int32)) C d10_12 rfl rfl ?_
    refine g_iastore (pc' := 14) (i := 2) (vs' := [(.int (1 : Int32)), (.int (-1 : Int32)), (.int (-1 : Int32))]) C d10_13 rfl A2 rfl (Nat.le_of_ble_eq_true rfl) rfl (C.old (List.mem_of_getElem? (i := 2) rfl)) fun hp5 A2 Khp5 => ?_
    replace O := O.keep Khp5 (ninS q02 nin0)
    replace A1 := A1.keep Khp5 (ninS q12 nin0)
    replace A3 := A3.keep Khp5 (ninS (Ne.symm q23) nin0)
    refine g_aloadN (pc' := 15) C d10_14 rfl rfl rfl ?_
    refine g_dup (pc' := 16) C d10_15 rfl rfl ?_
    refine g_getO (pc' := 19) (j := 3) C d10_16 rfl (hw _ (List.mem_of_getElem? (i := 34) rfl)) O rfl ?_
    refine g_iconst (pc' := 20) (z := (1 : Int32)) C d10_19 rfl rfl ?_
    refine g_isub (pc' := 21) C d10_20 rfl ?_
    show Go W Q hp5 0 0 21 #[.val (.ref a), .val (.int (2 : Int32))] [(.int (1 : Int32)), (.ref a)]
    refine g_putO (pc' := 24) (j := 3) (ty := .int) (v' := (.int (1 : Int32))) (fs' := [("com/example/triplecore/triplecore/query/PatternQueue", "heap", "[I", (.ref b1)), ("com/example/triplecore/triplecore/query/PatternQueue", "places", "[I", (.ref b2)), ("com/example/triplecore/triplecore/query/PatternQueue", "counts", "[I", (.ref b3)), ("com/example/triplecore/triplecore/query/PatternQueue", "size", "I", (.int (1 : Int32)))]) C d10_21 rfl (hw _ (List.mem_of_getElem? (i := 34) rfl)) Via.refl O rfl (Or.inl (hw _ (List.mem_of_getElem? (i := 35) rfl))) (hw _ (List.mem_of_getElem? (i := 1) rfl)) (by decide) rfl rfl rfl (C.old (List.mem_of_getElem? (i := 0) rfl)) fun hp6 O Khp6 => ?_
    replace A1 := A1.keep Khp6 (ninS (Ne.symm q01) nin0)
    replace A2 := A2.keep Khp6 (ninS (Ne.symm q02) nin0)
    replace A3 := A3.keep Khp6 (ninS (Ne.symm q03) nin0)
    refine g_aloadN (pc' := 25) C d10_24 rfl rfl rfl ?_
    refine g_getO (pc' := 28) (j := 3) C d10_25 rfl (hw _ (List.mem_of_getElem? (i := 34) rfl)) O rfl ?_
    refine g_ifN (xi := 1) (pc2 := 31) C d10_28 rfl rfl (by decide) ?_
    refine g_aloadN (pc' := 32) C d10_31 rfl rfl rfl ?_
    refine g_aloadN (pc' := 33) C d10_32 rfl rfl rfl ?_
    refine g_getO (pc' := 36) (j := 0) C d10_33 rfl (hw _ (List.mem_of_getElem? (i := 10) rfl)) O rfl ?_
    refine g_aloadN (pc' := 37) C d10_36 rfl rfl rfl ?_
    refine g_getO (pc' := 40) (j := 3) C d10_37 rfl (hw _ (List.mem_of_getElem? (i := 34) rfl)) O rfl ?_
    refine g_iaload (pc' := 41) (i := 1) C d10_40 rfl A1 rfl rfl ?_
    refine g_iconst (pc' := 42) (z := (0 : Int32)) C d10_41 rfl rfl ?_
    refine g_private (y := (⟨"com/example/triplecore/triplecore/query/PatternQueue", "move", "(II)V"⟩ : MethodName)) (a := a) (pc' := 45) (k' := 0) (n' := 0) (S := []) (as := [(.int (0 : Int32)), (.int (0 : Int32))]) C d10_42 rfl (hw _ (List.mem_of_getElem? (i := 40) rfl)) (hw _ (List.mem_of_getElem? (i := 41) rfl)) (hw _ (List.mem_of_getElem? (i := 2) rfl)) (hw _ (List.mem_of_getElem? (i := 43) rfl)) (hw _ (List.mem_of_getElem? (i := 42) rfl)) (hw _ (List.mem_of_getElem? (i := 1) rfl)) (by decide) O.1 (lenOf pd_0 rfl) (con_move W.l Z a0 hw a b1 b2 b3 (1 : Int32) (0 : Int32) (0 : Int32) 0 0 _ _ rfl rfl (Nat.le_of_ble_eq_true rfl) (Nat.le_of_ble_eq_true rfl) q01 q02 q03 q12 q13 q23 hp6 O A1 A2) rfl rfl (Nat.le_of_ble_eq_true rfl) (Nat.le_of_ble_eq_true rfl) rfl rfl (Nat.le_of_ble_eq_true rfl) (Nat.le_of_ble_eq_true rfl) (allS (C.old (List.mem_of_getElem? (i := 1) rfl)) (allS (C.old (List.mem_of_getElem? (i := 2) rfl)) all0)) fun vhp7 hp7 qhp7 Khp7 => ?_
    obtain ⟨rfl, A1, A2⟩ := qhp7
    replace O := O.keep Khp7 (ninS q01 (ninS q02 nin0))
    replace A3 := A3.keep Khp7 (ninS (Ne.symm q13) (ninS (Ne.symm q23) nin0))
    show Go W Q hp7 0 0 45 #[.val (.ref a), .val (.int (2 : Int32))] []
    replace A1 : Ar Z hp7 b1 .int [(.int (0 : Int32)), (.int (0 : Int32)), (.int x2)] := A1
    replace A2 : Ar Z hp7 b2 .int [(.int (0 : Int32)), (.int (-1 : Int32)), (.int (-1 : Int32))] := A2
    show Go W Q hp7 0 0 45 #[.val (.ref a), .val (.int (2 : Int32))] []
    refine g_aloadN (pc' := 46) C d10_45 rfl rfl rfl ?_
    refine g_iconst (pc' := 47) (z := (0 : Int32)) C d10_46 rfl rfl ?_
    refine g_private (y := (⟨"com/example/triplecore/triplecore/query/PatternQueue", "down", "(I)V"⟩ : MethodName)) (a := a) (pc' := 50) (k' := 0) (n' := 0) (S := []) (as := [(.int (0 : Int32))]) C d10_47 rfl (hw _ (List.mem_of_getElem? (i := 53) rfl)) (hw _ (List.mem_of_getElem? (i := 54) rfl)) (hw _ (List.mem_of_getElem? (i := 2) rfl)) (hw _ (List.mem_of_getElem? (i := 56) rfl)) (hw _ (List.mem_of_getElem? (i := 55) rfl)) (hw _ (List.mem_of_getElem? (i := 1) rfl)) (by decide) O.1 (lenOf pd_3 rfl) (con_down1 W.l Z a0 hw a b1 b2 b3 (0 : Int32) (0 : Int32) x2 0 _ _ rfl (Nat.le_of_ble_eq_true rfl) q01 q02 q03 q12 q13 q23 hp7 O A1 A2 A3) rfl rfl (Nat.le_of_ble_eq_true rfl) (Nat.le_of_ble_eq_true rfl) rfl rfl (Nat.le_of_ble_eq_true rfl) (Nat.le_of_ble_eq_true rfl) (allS (C.old (List.mem_of_getElem? (i := 1) rfl)) (allS (C.old (List.mem_of_getElem? (i := 2) rfl)) all0)) fun vhp8 hp8 qhp8 Khp8 => ?_
    obtain ⟨rfl, A1, A2⟩ := qhp8
    replace O := O.keep Khp8 (ninS q01 (ninS q02 nin0))
    replace A3 := A3.keep Khp8 (ninS (Ne.symm q13) (ninS (Ne.symm q23) nin0))
    replace A1 : Ar Z hp8 b1 .int [(.int (0 : Int32)), (.int (0 : Int32)), (.int x2)] := A1
    replace A2 : Ar Z hp8 b2 .int [(.int (0 : Int32)), (.int (-1 : Int32)), (.int (-1 : Int32))] := A2
    show Go W Q hp8 0 0 50 #[.val (.ref a), .val (.int (2 : Int32))] []
    refine g_iloadN (pc' := 51) C d10_50 rfl rfl ?_
    refine g_retI C d10_51 (by decide) (by decide) ?_
    subst hQ
    exact Or.inr (⟨rfl, ⟨(0 : Int32), (0 : Int32), x2, (0 : Int32), (-1 : Int32), (-1 : Int32), c0, c1, c2, ⟨rfl, rfl, rfl, rfl⟩, O, A1, A2, A3⟩⟩)
set_option maxRecDepth 65536 in
set_option maxHeartbeats 2000000 in
theorem con_poll_G_12 (l : Launch) (Z : State) (a0 : Array Value) (hw : ∀ d ∈ tables_1, d.before a0 Z = true) (a b1 b2 b3 : Addr) (q01 : a ≠ b1) (q02 : a ≠ b2) (q03 : a ≠ b3) (q12 : b1 ≠ b2) (q13 : b1 ≠ b3) (q23 : b2 ≠ b3) (h : Heap) (B : PQ Z h a b1 b2 b3 2 G_12) :
    Con l Z [] (⟨"com/example/triplecore/triplecore/query/PatternQueue", "poll", "()I"⟩ : MethodName) prog_95_method_5_code 2 (some .int) ({ frames := 2, cells := 0, slots := 0, locals := 29 } : Room) #[(.ref a)] h [a, b1, b2] (fun v h' => (v = some (.int 1) ∧ PQ Z h' a b1 b2 b3 1 G_2) ∨ (v = some (.int 2) ∧ PQ Z h' a b1 b2 b3 1 G_1)) := by
  obtain ⟨x0, x1, x2, l0, l1, l2, c0, c1, c2, g, O, A1, A2, A3⟩ := B
  refine Con.of_go (L0 := #[.val (.ref a), .unset]) (plainFor_of_name (by first | (simp [plainName, overriddenIn]; done) | decide +kernel)) (locals_of rfl) fun W Q hQ hl C => ?_
  subst hl
  rcases g with ⟨rfl, rfl, rfl, rfl, rfl⟩ | ⟨rfl, rfl, rfl, rfl, rfl⟩
  ·
    refine g_aloadN (pc' := 1) C d10_0 rfl rfl rfl ?_
    refine g_getO (pc' := 4) (j := 0) C d10_1 rfl (hw _ (List.mem_of_getElem? (i := 10) rfl)) O rfl ?_
    refine g_iconst (pc' := 5) (z := (0 : Int32)) C d10_4 rfl rfl ?_
    refine g_iaload (pc' := 6) (i := 0) C d10_5 rfl A1 rfl rfl ?_
    refine g_istoreN (pc' := 7) (L' := #[.val (.ref a), .val (.int (1 : Int32))]) C d10_6 rfl rfl ?_
    refine g_aloadN (pc' := 8) C d10_7 rfl rfl rfl ?_
    refine g_getO (pc' := 11) (j := 1) C d10_8 rfl (hw _ (List.mem_of_getElem? (i := 12) rfl)) O rfl ?_
    refine g_iloadN (pc' := 12) C d10_11 rfl rfl ?_
    refine g_iconst (pc' := 13) (z := (-1 : Int32)) C d10_12 rfl rfl ?_
    refine g_iastore (pc' := 14) (i := 1) (vs' := [(.int (-1 : Int32)), (.int (-1 : Int32)), (.int (1 : Int32))]) C d10_13 rfl A2 rfl (Nat.le_of_ble_eq_true rfl) rfl (C.old (List.mem_of_getElem? (i := 2) rfl)) fun hp1 A2 Khp1 => ?_
    replace O := O.keep Khp1 (ninS q02 nin0)
    replace A1 := A1.keep Khp1 (ninS q12 nin0)
    replace A3 := A3.keep Khp1 (ninS (Ne.symm q23) nin0)
    refine g_aloadN (pc' := 15) C d10_14 rfl rfl rfl ?_
    refine g_dup (pc' := 16) C d10_15 rfl rfl ?_
    refine g_getO (pc' := 19) (j := 3) C d10_16 rfl (hw _ (List.mem_of_getElem? (i := 34) rfl)) O rfl ?_
    refine g_iconst (pc' := 20) (z := (1 : Int32)) C d10_19 rfl rfl ?_
    refine g_isub (pc' := 21) C d10_20 rfl ?_
    show Go W Q hp1 0 0 21 #[.val (.ref a), .val (.int (1 : Int32))] [(.int (1 : Int32)), (.ref a)]
    refine g_putO (pc' := 24) (j := 3) (ty := .int) (v' := (.int (1 : Int32))) (fs' := [("com/example/triplecore/triplecore/query/PatternQueue", "heap", "[I", (.ref b1)), ("com/example/triplecore/triplecore/query/PatternQueue", "places", "[I", (.ref b2)), ("com/example/triplecore/triplecore/query/PatternQueue", "counts", "[I", (.ref b3)), ("com/example/triplecore/triplecore/query/PatternQueue", "size", "I", (.int (1 : Int32)))]) C d10_21 rfl (hw _ (List.mem_of_getElem? (i := 34) rfl)) Via.refl O rfl (Or.inl (hw _ (List.mem_of_getElem? (i := 35) rfl))) (hw _ (List.mem_of_getElem? (i := 1) rfl)) (by decide) rfl rfl rfl (C.old (List.mem_of_getElem? (i := 0) rfl)) fun hp2 O Khp2 => ?_
    replace A1 := A1.keep Khp2 (ninS (Ne.symm q01) nin0)
    replace A2 := A2.keep Khp2 (ninS (Ne.symm q02) nin0)
    replace A3 := A3.keep Khp2 (ninS (Ne.symm q03) nin0)
    refine g_aloadN (pc' := 25) C d10_24 rfl rfl rfl ?_
    refine g_getO (pc' := 28) (j := 3) C d10_25 rfl (hw _ (List.mem_of_getElem? (i := 34) rfl)) O rfl ?_
    refine g_ifN (xi := 1) (pc2 := 31) C d10_28 rfl rfl (by decide) ?_
    refine g_aloadN (pc' := 32) C d10_31 rfl rfl rfl ?_
    refine g_aloadN (pc' := 33) C d10_32 rfl rfl rfl ?_
    refine g_getO (pc' := 36) (j := 0) C d10_33 rfl (hw _ (List.mem_of_getElem? (i := 10) rfl)) O rfl ?_
    refine g_aloadN (pc' := 37) C d10_36 rfl rfl rfl ?_
    refine g_getO (pc' := 40) (j := 3) C d10_37 rfl (hw _ (List.mem_of_getElem? (i := 34) rfl)) O rfl ?_
    refine g_iaload (pc' := 41) (i := 1) C d10_40 rfl A1 rfl rfl ?_
    refine g_iconst (pc' := 42) (z := (0 : Int32)) C d10_41 rfl rfl ?_
    refine g_private (y := (⟨"com/example/triplecore/triplecore/query/PatternQueue", "move", "(II)V"⟩ : MethodName)) (a := a) (pc' := 45) (k' := 0) (n' := 0) (S := []) (as := [(.int (2 : Int32)), (.int (0 : Int32))]) C d10_42 rfl (hw _ (List.mem_of_getElem? (i := 40) rfl)) (hw _ (List.mem_of_getElem? (i := 41) rfl)) (hw _ (List.mem_of_getElem? (i := 2) rfl)) (hw _ (List.mem_of_getElem? (i := 43) rfl)) (hw _ (List.mem_of_getElem? (i := 42) rfl)) (hw _ (List.mem_of_getElem? (i := 1) rfl)) (by decide) O.1 (lenOf pd_0 rfl) (con_move W.l Z a0 hw a b1 b2 b3 (1 : Int32) (2 : Int32) (0 : Int32) 2 0 _ _ rfl rfl (Nat.le_of_ble_eq_true rfl) (Nat.le_of_ble_eq_true rfl) q01 q02 q03 q12 q13 q23 hp2 O A1 A2) rfl rfl (Nat.le_of_ble_eq_true rfl) (Nat.le_of_ble_eq_true rfl) rfl rfl (Nat.le_of_ble_eq_true rfl) (Nat.le_of_ble_eq_true rfl) (allS (C.old (List.mem_of_getElem? (i := 1) rfl)) (allS (C.old (List.mem_of_getElem? (i := 2) rfl)) all0)) fun vhp3 hp3 qhp3 Khp3 => ?_
    obtain ⟨rfl, A1, A2⟩ := qhp3
    replace O := O.keep Khp3 (ninS q01 (ninS q02 nin0))
    replace A3 := A3.keep Khp3 (ninS (Ne.symm q13) (ninS (Ne.symm q23) nin0))
    show Go W Q hp3 0 0 45 #[.val (.ref a), .val (.int (1 : Int32))] []
    replace A1 : Ar Z hp3 b1 .int [(.int (2 : Int32)), (.int (2 : Int32)), (.int x2)] := A1
    replace A2 : Ar Z hp3 b2 .int [(.int (-1 : Int32)), (.int (-1 : Int32)), (.int (0 : Int32))] := A2
    show Go W Q hp3 0 0 45 #[.val (.ref a), .val (.int (1 : Int32))] []
    refine g_aloadN (pc' := 46) C d10_45 rfl rfl rfl ?_
    refine g_iconst (pc' := 47) (z := (0 : Int32)) C d10_46 rfl rfl ?_
    refine g_private (y := (⟨"com/example/triplecore/triplecore/query/PatternQueue", "down", "(I)V"⟩ : MethodName)) (a := a) (pc' := 50) (k' := 0) (n' := 0) (S := []) (as := [(.int (0 : Int32))]) C d10_47 rfl (hw _ (List.mem_of_getElem? (i := 53) rfl)) (hw _ (List.mem_of_getElem? (i := 54) rfl)) (hw _ (List.mem_of_getElem? (i := 2) rfl)) (hw _ (List.mem_of_getElem? (i := 56) rfl)) (hw _ (List.mem_of_getElem? (i := 55) rfl)) (hw _ (List.mem_of_getElem? (i := 1) rfl)) (by decide) O.1 (lenOf pd_3 rfl) (con_down1 W.l Z a0 hw a b1 b2 b3 (2 : Int32) (2 : Int32) x2 2 _ _ rfl (Nat.le_of_ble_eq_true rfl) q01 q02 q03 q12 q13 q23 hp3 O A1 A2 A3) rfl rfl (Nat.le_of_ble_eq_true rfl) (Nat.le_of_ble_eq_true rfl) rfl rfl (Nat.le_of_ble_eq_true rfl) (Nat.le_of_ble_eq_true rfl) (allS (C.old (List.mem_of_getElem? (i := 1) rfl)) (allS (C.old (List.mem_of_getElem? (i := 2) rfl)) all0)) fun vhp4 hp4 qhp4 Khp4 => ?_
    obtain ⟨rfl, A1, A2⟩ := qhp4
    replace O := O.keep Khp4 (ninS q01 (ninS q02 nin0))
    replace A3 := A3.keep Khp4 (ninS (Ne.symm q13) (ninS (Ne.symm q23) nin0))
    replace A1 : Ar Z hp4 b1 .int [(.int (2 : Int32)), (.int (2 : Int32)), (.int x2)] := A1
    replace A2 : Ar Z hp4 b2 .int [(.int (-1 : Int32)), (.int (-1 : Int32)), (.int (0 : Int32))] := A2
    show Go W Q hp4 0 0 50 #[.val (.ref a), .val (.int (1 : Int32))] []
    refine g_iloadN (pc' := 51) C d10_50 rfl rfl ?_
    refine g_retI C d10_51 (by decide) (by decide) ?_
    subst hQ
    exact Or.inl ⟨rfl, ⟨(2 : Int32), (2 : Int32), x2, (-1 : Int32), (-1 : Int32), (0 : Int32), c0, c1, c2, ⟨rfl, rfl, rfl, rfl⟩, O, A1, A2, A3⟩⟩
  ·
    refine g_aloadN (pc' := 1) C d10_0 rfl rfl rfl ?_
    refine g_getO (pc' := 4) (j := 0) C d10_1 rfl (hw _ (List.mem_of_getElem? (i := 10) rfl)) O rfl ?_
    refine g_iconst (pc' := 5) (z := (0 : Int32)) C d10_4 rfl rfl ?_
    refine g_iaload (pc' := 6) (i := 0) C d10_5 rfl A1 rfl rfl ?_
    refine g_istoreN (pc' := 7) (L' := #[.val (.ref a), .val (.int (2 : Int32))]) C d10_6 rfl rfl ?_
    refine g_aloadN (pc' := 8) C d10_7 rfl rfl rfl ?_
    refine g_getO (pc' := 11) (j := 1) C d10_8 rfl (hw _ (List.mem_of_getElem? (i := 12) rfl)) O rfl ?_
    refine g_iloadN (pc' := 12) C d10_11 rfl rfl ?_
    refine g_iconst (pc' := 13) (z := (-1 : Int32)) C d10_12 rfl rfl ?_
    refine g_iastore (pc' := 14) (i := 2) (vs' := [(.int (-1 : Int32)), (.int (1 : Int32)), (.int (-1 : Int32))]) C d10_13 rfl A2 rfl (Nat.le_of_ble_eq_true rfl) rfl (C.old (List.mem_of_getElem? (i := 2) rfl)) fun hp5 A2 Khp5 => ?_
    replace O := O.keep Khp5 (ninS q02 nin0)
    replace A1 := A1.keep Khp5 (ninS q12 nin0)
    replace A3 := A3.keep Khp5 (ninS (Ne.symm q23) nin0)
    refine g_aloadN (pc' := 15) C d10_14 rfl rfl rfl ?_
    refine g_dup (pc' := 16) C d10_15 rfl rfl ?_
    refine g_getO (pc' := 19) (j := 3) C d10_16 rfl (hw _ (List.mem_of_getElem? (i := 34) rfl)) O rfl ?_
    refine g_iconst (pc' := 20) (z := (1 : Int32)) C d10_19 rfl rfl ?_
    refine g_isub (pc' := 21) C d10_20 rfl ?_
    show Go W Q hp5 0 0 21 #[.val (.ref a), .val (.int (2 : Int32))] [(.int (1 : Int32)), (.ref a)]
    refine g_putO (pc' := 24) (j := 3) (ty := .int) (v' := (.int (1 : Int32))) (fs' := [("com/example/triplecore/triplecore/query/PatternQueue", "heap", "[I", (.ref b1)), ("com/example/triplecore/triplecore/query/PatternQueue", "places", "[I", (.ref b2)), ("com/example/triplecore/triplecore/query/PatternQueue", "counts", "[I", (.ref b3)), ("com/example/triplecore/triplecore/query/PatternQueue", "size", "I", (.int (1 : Int32)))]) C d10_21 rfl (hw _ (List.mem_of_getElem? (i := 34) rfl)) Via.refl O rfl (Or.inl (hw _ (List.mem_of_getElem? (i := 35) rfl))) (hw _ (List.mem_of_getElem? (i := 1) rfl)) (by decide) rfl rfl rfl (C.old (List.mem_of_getElem? (i := 0) rfl)) fun hp6 O Khp6 => ?_
    replace A1 := A1.keep Khp6 (ninS (Ne.symm q01) nin0)
    replace A2 := A2.keep Khp6 (ninS (Ne.symm q02) nin0)
    replace A3 := A3.keep Khp6 (ninS (Ne.symm q03) nin0)
    refine g_aloadN (pc' := 25) C d10_24 rfl rfl rfl ?_
    refine g_getO (pc' := 28) (j := 3) C d10_25 rfl (hw _ (List.mem_of_getElem? (i := 34) rfl)) O rfl ?_
    refine g_ifN (xi := 1) (pc2 := 31) C d10_28 rfl rfl (by decide) ?_
    refine g_aloadN (pc' := 32) C d10_31 rfl rfl rfl ?_
    refine g_aloadN (pc' := 33) C d10_32 rfl rfl rfl ?_
    refine g_getO (pc' := 36) (j := 0) C d10_33 rfl (hw _ (List.mem_of_getElem? (i := 10) rfl)) O rfl ?_
    refine g_aloadN (pc' := 37) C d10_36 rfl rfl rfl ?_
    refine g_getO (pc' := 40) (j := 3) C d10_37 rfl (hw _ (List.mem_of_getElem? (i := 34) rfl)) O rfl ?_
    refine g_iaload (pc' := 41) (i := 1) C d10_40 rfl A1 rfl rfl ?_
    refine g_iconst (pc' := 42) (z := (0 : Int32)) C d10_41 rfl rfl ?_
    refine g_private (y := (⟨"com/example/triplecore/triplecore/query/PatternQueue", "move", "(II)V"⟩ : MethodName)) (a := a) (pc' := 45) (k' := 0) (n' := 0) (S := []) (as := [(.int (1 : Int32)), (.int (0 : Int32))]) C d10_42 rfl (hw _ (List.mem_of_getElem? (i := 40) rfl)) (hw _ (List.mem_of_getElem? (i := 41) rfl)) (hw _ (List.mem_of_getElem? (i := 2) rfl)) (hw _ (List.mem_of_getElem? (i := 43) rfl)) (hw _ (List.mem_of_getElem? (i := 42) rfl)) (hw _ (List.mem_of_getElem? (i := 1) rfl)) (by decide) O.1 (lenOf pd_0 rfl) (con_move W.l Z a0 hw a b1 b2 b3 (1 : Int32) (1 : Int32) (0 : Int32) 1 0 _ _ rfl rfl (Nat.le_of_ble_eq_true rfl) (Nat.le_of_ble_eq_true rfl) q01 q02 q03 q12 q13 q23 hp6 O A1 A2) rfl rfl (Nat.le_of_ble_eq_true rfl) (Nat.le_of_ble_eq_true rfl) rfl rfl (Nat.le_of_ble_eq_true rfl) (Nat.le_of_ble_eq_true rfl) (allS (C.old (List.mem_of_getElem? (i := 1) rfl)) (allS (C.old (List.mem_of_getElem? (i := 2) rfl)) all0)) fun vhp7 hp7 qhp7 Khp7 => ?_
    obtain ⟨rfl, A1, A2⟩ := qhp7
    replace O := O.keep Khp7 (ninS q01 (ninS q02 nin0))
    replace A3 := A3.keep Khp7 (ninS (Ne.symm q13) (ninS (Ne.symm q23) nin0))
    show Go W Q hp7 0 0 45 #[.val (.ref a), .val (.int (2 : Int32))] []
    replace A1 : Ar Z hp7 b1 .int [(.int (1 : Int32)), (.int (1 : Int32)), (.int x2)] := A1
    replace A2 : Ar Z hp7 b2 .int [(.int (-1 : Int32)), (.int (0 : Int32)), (.int (-1 : Int32))] := A2
    show Go W Q hp7 0 0 45 #[.val (.ref a), .val (.int (2 : Int32))] []
    refine g_aloadN (pc' := 46) C d10_45 rfl rfl rfl ?_
    refine g_iconst (pc' := 47) (z := (0 : Int32)) C d10_46 rfl rfl ?_
    refine g_private (y := (⟨"com/example/triplecore/triplecore/query/PatternQueue", "down", "(I)V"⟩ : MethodName)) (a := a) (pc' := 50) (k' := 0) (n' := 0) (S := []) (as := [(.int (0 : Int32))]) C d10_47 rfl (hw _ (List.mem_of_getElem? (i := 53) rfl)) (hw _ (List.mem_of_getElem? (i := 54) rfl)) (hw _ (List.mem_of_getElem? (i := 2) rfl)) (hw _ (List.mem_of_getElem? (i := 56) rfl)) (hw _ (List.mem_of_getElem? (i := 55) rfl)) (hw _ (List.mem_of_getElem? (i := 1) rfl)) (by decide) O.1 (lenOf pd_3 rfl) (con_down1 W.l Z a0 hw a b1 b2 b3 (1 : Int32) (1 : Int32) x2 1 _ _ rfl (Nat.le_of_ble_eq_true rfl) q01 q02 q03 q12 q13 q23 hp7 O A1 A2 A3) rfl rfl (Nat.le_of_ble_eq_true rfl) (Nat.le_of_ble_eq_true rfl) rfl rfl (Nat.le_of_ble_eq_true rfl) (Nat.le_of_ble_eq_true rfl) (allS (C.old (List.mem_of_getElem? (i := 1) rfl)) (allS (C.old (List.mem_of_getElem? (i := 2) rfl)) all0)) fun vhp8 hp8 qhp8 Khp8 => ?_
    obtain ⟨rfl, A1, A2⟩ := qhp8
    replace O := O.keep Khp8 (ninS q01 (ninS q02 nin0))
    replace A3 := A3.keep Khp8 (ninS (Ne.symm q13) (ninS (Ne.symm q23) nin0))
    replace A1 : Ar Z hp8 b1 .int [(.int (1 : Int32)), (.int (1 : Int32)), (.int x2)] := A1
    replace A2 : Ar Z hp8 b2 .int [(.int (-1 : Int32)), (.int (0 : Int32)), (.int (-1 : Int32))] := A2
    show Go W Q hp8 0 0 50 #[.val (.ref a), .val (.int (2 : Int32))] []
    refine g_iloadN (pc' := 51) C d10_50 rfl rfl ?_
    refine g_retI C d10_51 (by decide) (by decide) ?_
    subst hQ
    exact Or.inr (⟨rfl, ⟨(1 : Int32), (1 : Int32), x2, (-1 : Int32), (0 : Int32), (-1 : Int32), c0, c1, c2, ⟨rfl, rfl, rfl, rfl⟩, O, A1, A2, A3⟩⟩)
set_option maxRecDepth 65536 in
set_option maxHeartbeats 2000000 in
theorem con_poll_G_012 (l : Launch) (Z : State) (a0 : Array Value) (hw : ∀ d ∈ tables_1, d.before a0 Z = true) (a b1 b2 b3 : Addr) (q01 : a ≠ b1) (q02 : a ≠ b2) (q03 : a ≠ b3) (q12 : b1 ≠ b2) (q13 : b1 ≠ b3) (q23 : b2 ≠ b3) (h : Heap) (B : PQ Z h a b1 b2 b3 3 G_012) :
    Con l Z [] (⟨"com/example/triplecore/triplecore/query/PatternQueue", "poll", "()I"⟩ : MethodName) prog_95_method_5_code 2 (some .int) ({ frames := 2, cells := 0, slots := 0, locals := 29 } : Room) #[(.ref a)] h [a, b1, b2] (fun v h' => (v = some (.int 0) ∧ PQ Z h' a b1 b2 b3 2 G_12) ∨ (v = some (.int 1) ∧ PQ Z h' a b1 b2 b3 2 G_02) ∨ (v = some (.int 2) ∧ PQ Z h' a b1 b2 b3 2 G_01)) := by
  obtain ⟨x0, x1, x2, l0, l1, l2, c0, c1, c2, g, O, A1, A2, A3⟩ := B
  refine Con.of_go (L0 := #[.val (.ref a), .unset]) (plainFor_of_name (by first | (simp [plainName, overriddenIn]; done) | decide +kernel)) (locals_of rfl) fun W Q hQ hl C => ?_
  subst hl
  rcases g with ⟨rfl, rfl, rfl, rfl, rfl, rfl⟩ | ⟨rfl, rfl, rfl, rfl, rfl, rfl⟩ | ⟨rfl, rfl, rfl, rfl, rfl, rfl⟩ | ⟨rfl, rfl, rfl, rfl, rfl, rfl⟩ | ⟨rfl, rfl, rfl, rfl, rfl, rfl⟩ | ⟨rfl, rfl, rfl, rfl, rfl, rfl⟩
  ·
    refine g_aloadN (pc' := 1) C d10_0 rfl rfl rfl ?_
    refine g_getO (pc' := 4) (j := 0) C d10_1 rfl (hw _ (List.mem_of_getElem? (i := 10) rfl)) O rfl ?_
    refine g_iconst (pc' := 5) (z := (0 : Int32)) C d10_4 rfl rfl ?_
    refine g_iaload (pc' := 6) (i := 0) C d10_5 rfl A1 rfl rfl ?_
    refine g_istoreN (pc' := 7) (L' := #[.val (.ref a), .val (.int (0 : Int32))]) C d10_6 rfl rfl ?_
    refine g_aloadN (pc' := 8) C d10_7 rfl rfl rfl ?_
    refine g_getO (pc' := 11) (j := 1) C d10_8 rfl (hw _ (List.mem_of_getElem? (i := 12) rfl)) O rfl ?_
    refine g_iloadN (pc' := 12) C d10_11 rfl rfl ?_
    refine g_iconst (pc' := 13) (z := (-1 : Int32)) C d10_12 rfl rfl ?_
    refine g_iastore (pc' := 14) (i := 0) (vs' := [(.int (-1 : Int32)), (.int (1 : Int32)), (.int (2 : Int32))]) C d10_13 rfl A2 rfl (Nat.le_of_ble_eq_true rfl) rfl (C.old (List.mem_of_getElem? (i := 2) rfl)) fun hp1 A2 Khp1 => ?_
    replace O := O.keep Khp1 (ninS q02 nin0)
    replace A1 := A1.keep Khp1 (ninS q12 nin0)
    replace A3 := A3.keep Khp1 (ninS (Ne.symm q23) nin0)
    refine g_aloadN (pc' := 15) C d10_14 rfl rfl rfl ?_
    refine g_dup (pc' := 16) C d10_15 rfl rfl ?_
    refine g_getO (pc' := 19) (j := 3) C d10_16 rfl (hw _ (List.mem_of_getElem? (i := 34) rfl)) O rfl ?_
    refine g_iconst (pc' := 20) (z := (1 : Int32)) C d10_19 rfl rfl ?_
    refine g_isub (pc' := 21) C d10_20 rfl ?_
    show Go W Q hp1 0 0 21 #[.val (.ref a), .val (.int (0 : Int32))] [(.int (2 : Int32)), (.ref a)]
    refine g_putO (pc' := 24) (j := 3) (ty := .int) (v' := (.int (2 : Int32))) (fs' := [("com/example/triplecore/triplecore/query/PatternQueue", "heap", "[I", (.ref b1)), ("com/example/triplecore/triplecore/query/PatternQueue", "places", "[I", (.ref b2)), ("com/example/triplecore/triplecore/query/PatternQueue", "counts", "[I", (.ref b3)), ("com/example/triplecore/triplecore/query/PatternQueue", "size", "I", (.int (2 : Int32)))]) C d10_21 rfl (hw _ (List.mem_of_getElem? (i := 34) rfl)) Via.refl O rfl (Or.inl (hw _ (List.mem_of_getElem? (i := 35) rfl))) (hw _ (List.mem_of_getElem? (i := 1) rfl)) (by decide) rfl rfl rfl (C.old (List.mem_of_getElem? (i := 0) rfl)) fun hp2 O Khp2 => ?_
    replace A1 := A1.keep Khp2 (ninS (Ne.symm q01) nin0)
    replace A2 := A2.keep Khp2 (ninS (Ne.symm q02) nin0)
    replace A3 := A3.keep Khp2 (ninS (Ne.symm q03) nin0)
    refine g_aloadN (pc' := 25) C d10_24 rfl rfl rfl ?_
    refine g_getO (pc' := 28) (j := 3) C d10_25 rfl (hw _ (List.mem_of_getElem? (i := 34) rfl)) O rfl ?_
    refine g_ifN (xi := 2) (pc2 := 31) C d10_28 rfl rfl (by decide) ?_
    refine g_aloadN (pc' := 32) C d10_31 rfl rfl rfl ?_
    refine g_aloadN (pc' := 33) C d10_32 rfl rfl rfl ?_
    refine g_getO (pc' := 36) (j := 0) C d10_33 rfl (hw _ (List.mem_of_getElem? (i := 10) rfl)) O rfl ?_
    refine g_aloadN (pc' := 37) C d10_36 rfl rfl rfl ?_
    refine g_getO (pc' := 40) (j := 3) C d10_37 rfl (hw _ (List.mem_of_getElem? (i := 34) rfl)) O rfl ?_
    refine g_iaload (pc' := 41) (i := 2) C d10_40 rfl A1 rfl rfl ?_
    refine g_iconst (pc' := 42) (z := (0 : Int32)) C d10_41 rfl rfl ?_
    refine g_private (y := (⟨"com/example/triplecore/triplecore/query/PatternQueue", "move", "(II)V"⟩ : MethodName)) (a := a) (pc' := 45) (k' := 0) (n' := 0) (S := []) (as := [(.int (2 : Int32)), (.int (0 : Int32))]) C d10_42 rfl (hw _ (List.mem_of_getElem? (i := 40) rfl)) (hw _ (List.mem_of_getElem? (i := 41) rfl)) (hw _ (List.mem_of_getElem? (i := 2) rfl)) (hw _ (List.mem_of_getElem? (i := 43) rfl)) (hw _ (List.mem_of_getElem? (i := 42) rfl)) (hw _ (List.mem_of_getElem? (i := 1) rfl)) (by decide) O.1 (lenOf pd_0 rfl) (con_move W.l Z a0 hw a b1 b2 b3 (2 : Int32) (2 : Int32) (0 : Int32) 2 0 _ _ rfl rfl (Nat.le_of_ble_eq_true rfl) (Nat.le_of_ble_eq_true rfl) q01 q02 q03 q12 q13 q23 hp2 O A1 A2) rfl rfl (Nat.le_of_ble_eq_true rfl) (Nat.le_of_ble_eq_true rfl) rfl rfl (Nat.le_of_ble_eq_true rfl) (Nat.le_of_ble_eq_true rfl) (allS (C.old (List.mem_of_getElem? (i := 1) rfl)) (allS (C.old (List.mem_of_getElem? (i := 2) rfl)) all0)) fun vhp3 hp3 qhp3 Khp3 => ?_
    obtain ⟨rfl, A1, A2⟩ := qhp3
    replace O := O.keep Khp3 (ninS q01 (ninS q02 nin0))
    replace A3 := A3.keep Khp3 (ninS (Ne.symm q13) (ninS (Ne.symm q23) nin0))
    show Go W Q hp3 0 0 45 #[.val (.ref a), .val (.int (0 : Int32))] []
    replace A1 : Ar Z hp3 b1 .int [(.int (2 : Int32)), (.int (1 : Int32)), (.int (2 : Int32))] := A1
    replace A2 : Ar Z hp3 b2 .int [(.int (-1 : Int32)), (.int (1 : Int32)), (.int (0 : Int32))] := A2
    show Go W Q hp3 0 0 45 #[.val (.ref a), .val (.int (0 : Int32))] []
    refine g_aloadN (pc' := 46) C d10_45 rfl rfl rfl ?_
    refine g_iconst (pc' := 47) (z := (0 : Int32)) C d10_46 rfl rfl ?_
    refine g_private (y := (⟨"com/example/triplecore/triplecore/query/PatternQueue", "down", "(I)V"⟩ : MethodName)) (a := a) (pc' := 50) (k' := 0) (n' := 0) (S := []) (as := [(.int (0 : Int32))]) C d10_47 rfl (hw _ (List.mem_of_getElem? (i := 53) rfl)) (hw _ (List.mem_of_getElem? (i := 54) rfl)) (hw _ (List.mem_of_getElem? (i := 2) rfl)) (hw _ (List.mem_of_getElem? (i := 56) rfl)) (hw _ (List.mem_of_getElem? (i := 55) rfl)) (hw _ (List.mem_of_getElem? (i := 1) rfl)) (by decide) O.1 (lenOf pd_3 rfl) (con_down2 W.l Z a0 hw a b1 b2 b3 (2 : Int32) (1 : Int32) (2 : Int32) c2 c1 2 1 _ _ rfl rfl (Nat.le_of_ble_eq_true rfl) (Nat.le_of_ble_eq_true rfl) rfl rfl q01 q02 q03 q12 q13 q23 hp3 O A1 A2 A3) rfl rfl (Nat.le_of_ble_eq_true rfl) (Nat.le_of_ble_eq_true rfl) rfl rfl (Nat.le_of_ble_eq_true rfl) (Nat.le_of_ble_eq_true rfl) (allS (C.old (List.mem_of_getElem? (i := 1) rfl)) (allS (C.old (List.mem_of_getElem? (i := 2) rfl)) all0)) fun vhp4 hp4 qhp4 Khp4 => ?_
    replace O := O.keep Khp4 (ninS q01 (ninS q02 nin0))
    replace A3 := A3.keep Khp4 (ninS (Ne.symm q13) (ninS (Ne.symm q23) nin0))
    rcases qhp4 with ⟨rfl, A1, A2⟩ | ⟨rfl, A1, A2⟩
    ·
      replace A1 : Ar Z hp4 b1 .int [(.int (2 : Int32)), (.int (1 : Int32)), (.int (2 : Int32))] := A1
      replace A2 : Ar Z hp4 b2 .int [(.int (-1 : Int32)), (.int (1 : Int32)), (.int (0 : Int32))] := A2
      show Go W Q hp4 0 0 50 #[.val (.ref a), .val (.int (0 : Int32))] []
      refine g_iloadN (pc' := 51) C d10_50 rfl rfl ?_
      refine g_retI C d10_51 (by decide) (by decide) ?_
      subst hQ
      exact Or.inl ⟨rfl, ⟨(2 : Int32), (1 : Int32), (2 : Int32), (-1 : Int32), (1 : Int32), (0 : Int32), c0, c1, c2, (Or.inr ⟨rfl, rfl, rfl, rfl, rfl⟩), O, A1, A2, A3⟩⟩
    ·
      replace A1 : Ar Z hp4 b1 .int [(.int (1 : Int32)), (.int (2 : Int32)), (.int (2 : Int32))] := A1
      replace A2 : Ar Z hp4 b2 .int [(.int (-1 : Int32)), (.int (0 : Int32)), (.int (1 : Int32))] := A2
      show Go W Q hp4 0 0 50 #[.val (.ref a), .val (.int (0 : Int32))] []
      refine g_iloadN (pc' := 51) C d10_50 rfl rfl ?_
      refine g_retI C d10_51 (by decide) (by decide) ?_
      subst hQ
      exact Or.inl ⟨rfl, ⟨(1 : Int32), (2 : Int32), (2 : Int32), (-1 : Int32), (0 : Int32), (1 : Int32), c0, c1, c2, (Or.inl ⟨rfl, rfl, rfl, rfl, rfl⟩), O, A1, A2, A3⟩⟩
  ·
    refine g_aloadN (pc' := 1) C d10_0 rfl rfl rfl ?_
    refine g_getO (pc' := 4) (j := 0) C d10_1 rfl (hw _ (List.mem_of_getElem? (i := 10) rfl)) O rfl ?_
    refine g_iconst (pc' := 5) (z := (0 : Int32)) C d10_4 rfl rfl ?_
    refine g_iaload (pc' := 6) (i := 0) C d10_5 rfl A1 rfl rfl ?_
    refine g_istoreN (pc' := 7) (L' := #[.val (.ref a), .val (.int (0 : Int32))]) C d10_6 rfl rfl ?_
    refine g_aloadN (pc' := 8) C d10_7 rfl rfl rfl ?_
    refine g_getO (pc' := 11) (j := 1) C d10_8 rfl (hw _ (List.mem_of_getElem? (i := 12) rfl)) O rfl ?_
    refine g_iloadN (pc' := 12) C d10_11 rfl rfl ?_
    refine g_iconst (pc' := 13) (z := (-1 : Int32)) C d10_12 rfl rfl ?_
    refine g_iastore (pc' := 14) (i := 0) (vs' := [(.int (-1 : Int32)), (.int (2 : Int32)), (.int (1 : Int32))]) C d10_13 rfl A2 rfl (Nat.le_of_ble_eq_true rfl) rfl (C.old (List.mem_of_getElem? (i := 2) rfl)) fun hp5 A2 Khp5 => ?_
    replace O := O.keep Khp5 (ninS q02 nin0)
    replace A1 := A1.keep Khp5 (ninS q12 nin0)
    replace A3 := A3.keep Khp5 (ninS (Ne.symm q23) nin0)
    refine g_aloadN (pc' := 15) C d10_14 rfl rfl rfl ?_
    refine g_dup (pc' := 16) C d10_15 rfl rfl ?_
    refine g_getO (pc' := 19) (j := 3) C d10_16 rfl (hw _ (List.mem_of_getElem? (i := 34) rfl)) O rfl ?_
    refine g_iconst (pc' := 20) (z := (1 : Int32)) C d10_19 rfl rfl ?_
    refine g_isub (pc' := 21) C d10_20 rfl ?_
    show Go W Q hp5 0 0 21 #[.val (.ref a), .val (.int (0 : Int32))] [(.int (2 : Int32)), (.ref a)]
    refine g_putO (pc' := 24) (j := 3) (ty := .int) (v' := (.int (2 : Int32))) (fs' := [("com/example/triplecore/triplecore/query/PatternQueue", "heap", "[I", (.ref b1)), ("com/example/triplecore/triplecore/query/PatternQueue", "places", "[I", (.ref b2)), ("com/example/triplecore/triplecore/query/PatternQueue", "counts", "[I", (.ref b3)), ("com/example/triplecore/triplecore/query/PatternQueue", "size", "I", (.int (2 : Int32)))]) C d10_21 rfl (hw _ (List.mem_of_getElem? (i := 34) rfl)) Via.refl O rfl (Or.inl (hw _ (List.mem_of_getElem? (i := 35) rfl))) (hw _ (List.mem_of_getElem? (i := 1) rfl)) (by decide) rfl rfl rfl (C.old (List.mem_of_getElem? (i := 0) rfl)) fun hp6 O Khp6 => ?_
    replace A1 := A1.keep Khp6 (ninS (Ne.symm q01) nin0)
    replace A2 := A2.keep Khp6 (ninS (Ne.symm q02) nin0)
    replace A3 := A3.keep Khp6 (ninS (Ne.symm q03) nin0)
    refine g_aloadN (pc' := 25) C d10_24 rfl rfl rfl ?_
    refine g_getO (pc' := 28) (j := 3) C d10_25 rfl (hw _ (List.mem_of_getElem? (i := 34) rfl)) O rfl ?_
    refine g_ifN (xi := 2) (pc2 := 31) C d10_28 rfl rfl (by decide) ?_
    refine g_aloadN (pc' := 32) C d10_31 rfl rfl rfl ?_
    refine g_aloadN (pc' := 33) C d10_32 rfl rfl rfl ?_
    refine g_getO (pc' := 36) (j := 0) C d10_33 rfl (hw _ (List.mem_of_getElem? (i := 10) rfl)) O rfl ?_
    refine g_aloadN (pc' := 37) C d10_36 rfl rfl rfl ?_
    refine g_getO (pc' := 40) (j := 3) C d10_37 rfl (hw _ (List.mem_of_getElem? (i := 34) rfl)) O rfl ?_
    refine g_iaload (pc' := 41) (i := 2) C d10_40 rfl A1 rfl rfl ?_
    refine g_iconst (pc' := 42) (z := (0 : Int32)) C d10_41 rfl rfl ?_
    refine g_private (y := (⟨"com/example/triplecore/triplecore/query/PatternQueue", "move", "(II)V"⟩ : MethodName)) (a := a) (pc' := 45) (k' := 0) (n' := 0) (S := []) (as := [(.int (1 : Int32)), (.int (0 : Int32))]) C d10_42 rfl (hw _ (List.mem_of_getElem? (i := 40) rfl)) (hw _ (List.mem_of_getElem? (i := 41) rfl)) (hw _ (List.mem_of_getElem? (i := 2) rfl)) (hw _ (List.mem_of_getElem? (i := 43) rfl)) (hw _ (List.mem_of_getElem? (i := 42) rfl)) (hw _ (List.mem_of_getElem? (i := 1) rfl)) (by decide) O.1 (lenOf pd_0 rfl) (con_move W.l Z a0 hw a b1 b2 b3 (2 : Int32) (1 : Int32) (0 : Int32) 1 0 _ _ rfl rfl (Nat.le_of_ble_eq_true rfl) (Nat.le_of_ble_eq_true rfl) q01 q02 q03 q12 q13 q23 hp6 O A1 A2) rfl rfl (Nat.le_of_ble_eq_true rfl) (Nat.le_of_ble_eq_true rfl) rfl rfl (Nat.le_of_ble_eq_true rfl) (Nat.le_of_ble_eq_true rfl) (allS (C.old (List.mem_of_getElem? (i := 1) rfl)) (allS (C.old (List.mem_of_getElem? (i := 2) rfl)) all0)) fun vhp7 hp7 qhp7 Khp7 => ?_
    obtain ⟨rfl, A1, A2⟩ := qhp7
    replace O := O.keep Khp7 (ninS q01 (ninS q02 nin0))
    replace A3 := A3.keep Khp7 (ninS (Ne.symm q13) (ninS (Ne.symm q23) nin0))
    show Go W Q hp7 0 0 45 #[.val (.ref a), .val (.int (0 : Int32))] []
    replace A1 : Ar Z hp7 b1 .int [(.int (1 : Int32)), (.int (2 : Int32)), (.int (1 : Int32))] := A1
    replace A2 : Ar Z hp7 b2 .int [(.int (-1 : Int32)), (.int (0 : Int32)), (.int (1 : Int32))] := A2
    show Go W Q hp7 0 0 45 #[.val (.ref a), .val (.int (0 : Int32))] []
    refine g_aloadN (pc' := 46) C d10_45 rfl rfl rfl ?_
    refine g_iconst (pc' := 47) (z := (0 : Int32)) C d10_46 rfl rfl ?_
    refine g_private (y := (⟨"com/example/triplecore/triplecore/query/PatternQueue", "down", "(I)V"⟩ : MethodName)) (a := a) (pc' := 50) (k' := 0) (n' := 0) (S := []) (as := [(.int (0 : Int32))]) C d10_47 rfl (hw _ (List.mem_of_getElem? (i := 53) rfl)) (hw _ (List.mem_of_getElem? (i := 54) rfl)) (hw _ (List.mem_of_getElem? (i := 2) rfl)) (hw _ (List.mem_of_getElem? (i := 56) rfl)) (hw _ (List.mem_of_getElem? (i := 55) rfl)) (hw _ (List.mem_of_getElem? (i := 1) rfl)) (by decide) O.1 (lenOf pd_3 rfl) (con_down2 W.l Z a0 hw a b1 b2 b3 (1 : Int32) (2 : Int32) (1 : Int32) c1 c2 1 2 _ _ rfl rfl (Nat.le_of_ble_eq_true rfl) (Nat.le_of_ble_eq_true rfl) rfl rfl q01 q02 q03 q12 q13 q23 hp7 O A1 A2 A3) rfl rfl (Nat.le_of_ble_eq_true rfl) (Nat.le_of_ble_eq_true rfl) rfl rfl (Nat.le_of_ble_eq_true rfl) (Nat.le_of_ble_eq_true rfl) (allS (C.old (List.mem_of_getElem? (i := 1) rfl)) (allS (C.old (List.mem_of_getElem? (i := 2) rfl)) all0)) fun vhp8 hp8 qhp8 Khp8 => ?_
    replace O := O.keep Khp8 (ninS q01 (ninS q02 nin0))
    replace A3 := A3.keep Khp8 (ninS (Ne.symm q13) (ninS (Ne.symm q23) nin0))
    rcases qhp8 with ⟨rfl, A1, A2⟩ | ⟨rfl, A1, A2⟩
    ·
      replace A1 : Ar Z hp8 b1 .int [(.int (1 : Int32)), (.int (2 : Int32)), (.int (1 : Int32))] := A1
      replace A2 : Ar Z hp8 b2 .int [(.int (-1 : Int32)), (.int (0 : Int32)), (.int (1 : Int32))] := A2
      show Go W Q hp8 0 0 50 #[.val (.ref a), .val (.int (0 : Int32))] []
      refine g_iloadN (pc' := 51) C d10_50 rfl rfl ?_
      refine g_retI C d10_51 (by decide) (by decide) ?_
      subst hQ
      exact Or.inl ⟨rfl, ⟨(1 : Int32), (2 : Int32), (1 : Int32), (-1 : Int32), (0 : Int32), (1 : Int32), c0, c1, c2, (Or.inl ⟨rfl, rfl, rfl, rfl, rfl⟩), O, A1, A2, A3⟩⟩
    ·
      replace A1 : Ar Z hp8 b1 .int [(.int (2 : Int32)), (.int (1 : Int32)), (.int (1 : Int32))] := A1
      replace A2 : Ar Z hp8 b2 .int [(.int (-1 : Int32)), (.int (1 : Int32)), (.int (0 : Int32))] := A2
      show Go W Q hp8 0 0 50 #[.val (.ref a), .val (.int (0 : Int32))] []
      refine g_iloadN (pc' := 51) C d10_50 rfl rfl ?_
      refine g_retI C d10_51 (by decide) (by decide) ?_
      subst hQ
      exact Or.inl ⟨rfl, ⟨(2 : Int32), (1 : Int32), (1 : Int32), (-1 : Int32), (1 : Int32), (0 : Int32), c0, c1, c2, (Or.inr ⟨rfl, rfl, rfl, rfl, rfl⟩), O, A1, A2, A3⟩⟩
  ·
    refine g_aloadN (pc' := 1) C d10_0 rfl rfl rfl ?_
    refine g_getO (pc' := 4) (j := 0) C d10_1 rfl (hw _ (List.mem_of_getElem? (i := 10) rfl)) O rfl ?_
    refine g_iconst (pc' := 5) (z := (0 : Int32)) C d10_4 rfl rfl ?_
    refine g_iaload (pc' := 6) (i := 0) C d10_5 rfl A1 rfl rfl ?_
    refine g_istoreN (pc' := 7) (L' := #[.val (.ref a), .val (.int (1 : Int32))]) C d10_6 rfl rfl ?_
    refine g_aloadN (pc' := 8) C d10_7 rfl rfl rfl ?_
    refine g_getO (pc' := 11) (j := 1) C d10_8 rfl (hw _ (List.mem_of_getElem? (i := 12) rfl)) O rfl ?_
    refine g_iloadN (pc' := 12) C d10_11 rfl rfl ?_
    refine g_iconst (pc' := 13) (z := (-1 : Int32)) C d10_12 rfl rfl ?_
    refine g_iastore (pc' := 14) (i := 1) (vs' := [(.int (1 : Int32)), (.int (-1 : Int32)), (.int (2 : Int32))]) C d10_13 rfl A2 rfl (Nat.le_of_ble_eq_true rfl) rfl (C.old (List.mem_of_getElem? (i := 2) rfl)) fun hp9 A2 Khp9 => ?_
    replace O := O.keep Khp9 (ninS q02 nin0)
    replace A1 := A1.keep Khp9 (ninS q12 nin0)
    replace A3 := A3.keep Khp9 (ninS (Ne.symm q23) nin0)
    refine g_aloadN (pc' := 15) C d10_14 rfl rfl rfl ?_
    refine g_dup (pc' := 16) C d10_15 rfl rfl ?_
    refine g_getO (pc' := 19) (j := 3) C d10_16 rfl (hw _ (List.mem_of_getElem? (i := 34) rfl)) O rfl ?_
    refine g_iconst (pc' := 20) (z := (1 : Int32)) C d10_19 rfl rfl ?_
    refine g_isub (pc' := 21) C d10_20 rfl ?_
    show Go W Q hp9 0 0 21 #[.val (.ref a), .val (.int (1 : Int32))] [(.int (2 : Int32)), (.ref a)]
    refine g_putO (pc' := 24) (j := 3) (ty := .int) (v' := (.int (2 : Int32))) (fs' := [("com/example/triplecore/triplecore/query/PatternQueue", "heap", "[I", (.ref b1)), ("com/example/triplecore/triplecore/query/PatternQueue", "places", "[I", (.ref b2)), ("com/example/triplecore/triplecore/query/PatternQueue", "counts", "[I", (.ref b3)), ("com/example/triplecore/triplecore/query/PatternQueue", "size", "I", (.int (2 : Int32)))]) C d10_21 rfl (hw _ (List.mem_of_getElem? (i := 34) rfl)) Via.refl O rfl (Or.inl (hw _ (List.mem_of_getElem? (i := 35) rfl))) (hw _ (List.mem_of_getElem? (i := 1) rfl)) (by decide) rfl rfl rfl (C.old (List.mem_of_getElem? (i := 0) rfl)) fun hp10 O Khp10 => ?_
    replace A1 := A1.keep Khp10 (ninS (Ne.symm q01) nin0)
    replace A2 := A2.keep Khp10 (ninS (Ne.symm q02) nin0)
    replace A3 := A3.keep Khp10 (ninS (Ne.symm q03) nin0)
    refine g_aloadN (pc' := 25) C d10_24 rfl rfl rfl ?_
    refine g_getO (pc' := 28) (j := 3) C d10_25 rfl (hw _ (List.mem_of_getElem? (i := 34) rfl)) O rfl ?_
    refine g_ifN (xi := 2) (pc2 := 31) C d10_28 rfl rfl (by decide) ?_
    refine g_aloadN (pc' := 32) C d10_31 rfl rfl rfl ?_
    refine g_aloadN (pc' := 33) C d10_32 rfl rfl rfl ?_
    refine g_getO (pc' := 36) (j := 0) C d10_33 rfl (hw _ (List.mem_of_getElem? (i := 10) rfl)) O rfl ?_
    refine g_aloadN (pc' := 37) C d10_36 rfl rfl rfl ?_
    refine g_getO (pc' := 40) (j := 3) C d10_37 rfl (hw _ (List.mem_of_getElem? (i := 34) rfl)) O rfl ?_
    refine g_iaload (pc' := 41) (i := 2) C d10_40 rfl A1 rfl rfl ?_
    refine g_iconst (pc' := 42) (z := (0 : Int32)) C d10_41 rfl rfl ?_
    refine g_private (y := (⟨"com/example/triplecore/triplecore/query/PatternQueue", "move", "(II)V"⟩ : MethodName)) (a := a) (pc' := 45) (k' := 0) (n' := 0) (S := []) (as := [(.int (2 : Int32)), (.int (0 : Int32))]) C d10_42 rfl (hw _ (List.mem_of_getElem? (i := 40) rfl)) (hw _ (List.mem_of_getElem? (i := 41) rfl)) (hw _ (List.mem_of_getElem? (i := 2) rfl)) (hw _ (List.mem_of_getElem? (i := 43) rfl)) (hw _ (List.mem_of_getElem? (i := 42) rfl)) (hw _ (List.mem_of_getElem? (i := 1) rfl)) (by decide) O.1 (lenOf pd_0 rfl) (con_move W.l Z a0 hw a b1 b2 b3 (2 : Int32) (2 : Int32) (0 : Int32) 2 0 _ _ rfl rfl (Nat.le_of_ble_eq_true rfl) (Nat.le_of_ble_eq_true rfl) q01 q02 q03 q12 q13 q23 hp10 O A1 A2) rfl rfl (Nat.le_of_ble_eq_true rfl) (Nat.le_of_ble_eq_true rfl) rfl rfl (Nat.le_of_ble_eq_true rfl) (Nat.le_of_ble_eq_true rfl) (allS (C.old (List.mem_of_getElem? (i := 1) rfl)) (allS (C.old (List.mem_of_getElem? (i := 2) rfl)) all0)) fun vhp11 hp11 qhp11 Khp11 => ?_
    obtain ⟨rfl, A1, A2⟩ := qhp11
    replace O := O.keep Khp11 (ninS q01 (ninS q02 nin0))
    replace A3 := A3.keep Khp11 (ninS (Ne.symm q13) (ninS (Ne.symm q23) nin0))
    show Go W Q hp11 0 0 45 #[.val (.ref a), .val (.int (1 : Int32))] []
    replace A1 : Ar Z hp11 b1 .int [(.int (2 : Int32)), (.int (0 : Int32)), (.int (2 : Int32))] := A1
    replace A2 : Ar Z hp11 b2 .int [(.int (1 : Int32)), (.int (-1 : Int32)), (.int (0 : Int32))] := A2
    show Go W Q hp11 0 0 45 #[.val (.ref a), .val (.int (1 : Int32))] []
    refine g_aloadN (pc' := 46) C d10_45 rfl rfl rfl ?_
    refine g_iconst (pc' := 47) (z := (0 : Int32)) C d10_46 rfl rfl ?_
    refine g_private (y := (⟨"com/example/triplecore/triplecore/query/PatternQueue", "down", "(I)V"⟩ : MethodName)) (a := a) (pc' := 50) (k' := 0) (n' := 0) (S := []) (as := [(.int (0 : Int32))]) C d10_47 rfl (hw _ (List.mem_of_getElem? (i := 53) rfl)) (hw _ (List.mem_of_getElem? (i := 54) rfl)) (hw _ (List.mem_of_getElem? (i := 2) rfl)) (hw _ (List.mem_of_getElem? (i := 56) rfl)) (hw _ (List.mem_of_getElem? (i := 55) rfl)) (hw _ (List.mem_of_getElem? (i := 1) rfl)) (by decide) O.1 (lenOf pd_3 rfl) (con_down2 W.l Z a0 hw a b1 b2 b3 (2 : Int32) (0 : Int32) (2 : Int32) c2 c0 2 0 _ _ rfl rfl (Nat.le_of_ble_eq_true rfl) (Nat.le_of_ble_eq_true rfl) rfl rfl q01 q02 q03 q12 q13 q23 hp11 O A1 A2 A3) rfl rfl (Nat.le_of_ble_eq_true rfl) (Nat.le_of_ble_eq_true rfl) rfl rfl (Nat.le_of_ble_eq_true rfl) (Nat.le_of_ble_eq_true rfl) (allS (C.old (List.mem_of_getElem? (i := 1) rfl)) (allS (C.old (List.mem_of_getElem? (i := 2) rfl)) all0)) fun vhp12 hp12 qhp12 Khp12 => ?_
    replace O := O.keep Khp12 (ninS q01 (ninS q02 nin0))
    replace A3 := A3.keep Khp12 (ninS (Ne.symm q13) (ninS (Ne.symm q23) nin0))
    rcases qhp12 with ⟨rfl, A1, A2⟩ | ⟨rfl, A1, A2⟩
    ·
      replace A1 : Ar Z hp12 b1 .int [(.int (2 : Int32)), (.int (0 : Int32)), (.int (2 : Int32))] := A1
      replace A2 : Ar Z hp12 b2 .int [(.int (1 : Int32)), (.int (-1 : Int32)), (.int (0 : Int32))] := A2
      show Go W Q hp12 0 0 50 #[.val (.ref a), .val (.int (1 : Int32))] []
      refine g_iloadN (pc' := 51) C d10_50 rfl rfl ?_
      refine g_retI C d10_51 (by decide) (by decide) ?_
      subst hQ
      exact Or.inr (Or.inl ⟨rfl, ⟨(2 : Int32), (0 : Int32), (2 : Int32), (1 : Int32), (-1 : Int32), (0 : Int32), c0, c1, c2, (Or.inr ⟨rfl, rfl, rfl, rfl, rfl⟩), O, A1, A2, A3⟩⟩)
    ·
      replace A1 : Ar Z hp12 b1 .int [(.int (0 : Int32)), (.int (2 : Int32)), (.int (2 : Int32))] := A1
      replace A2 : Ar Z hp12 b2 .int [(.int (0 : Int32)), (.int (-1 : Int32)), (.int (1 : Int32))] := A2
      show Go W Q hp12 0 0 50 #[.val (.ref a), .val (.int (1 : Int32))] []
      refine g_iloadN (pc' := 51) C d10_50 rfl rfl ?_
      refine g_retI C d10_51 (by decide) (by decide) ?_
      subst hQ
      exact Or.inr (Or.inl ⟨rfl, ⟨(0 : Int32), (2 : Int32), (2 : Int32), (0 : Int32), (-1 : Int32), (1 : Int32), c0, c1, c2, (Or.inl ⟨rfl, rfl, rfl, rfl, rfl⟩), O, A1, A2, A3⟩⟩)
  ·
    refine g_aloadN (pc' := 1) C d10_0 rfl rfl rfl ?_
    refine g_getO (pc' := 4) (j := 0) C d10_1 rfl (hw _ (List.mem_of_getElem? (i := 10) rfl)) O rfl ?_
    refine g_iconst (pc' := 5) (z := (0 : Int32)) C d10_4 rfl rfl ?_
    refine g_iaload (pc' := 6) (i := 0) C d10_5 rfl A1 rfl rfl ?_
    refine g_istoreN (pc' := 7) (L' := #[.val (.ref a), .val (.int (1 : Int32))]) C d10_6 rfl rfl ?_
    refine g_aloadN (pc' := 8) C d10_7 rfl rfl rfl ?_
    refine g_getO (pc' := 11) (j := 1) C d10_8 rfl (hw _ (List.mem_of_getElem? (i := 12) rfl)) O rfl ?_
    refine g_iloadN (pc' := 12) C d10_11 rfl rfl ?_
    refine g_iconst (pc' := 13) (z := (-1 : Int32)) C d10_12 rfl rfl ?_
    refine g_iastore (pc' := 14) (i := 1) (vs' := [(.int (2 : Int32)), (.int (-1 : Int32)), (.int (1 : Int32))]) C d10_13 rfl A2 rfl (Nat.le_of_ble_eq_true rfl) rfl (C.old (List.mem_of_getElem? (i := 2) rfl)) fun hp13 A2 Khp13 => ?_
    replace O := O.keep Khp13 (ninS q02 nin0)
    replace A1 := A1.keep Khp13 (ninS q12 nin0)
    replace A3 := A3.keep Khp13 (ninS (Ne.symm q23) nin0)
    refine g_aloadN (pc' := 15) C d10_14 rfl rfl rfl ?_
    refine g_dup (pc' := 16) C d10_15 rfl rfl ?_
    refine g_getO (pc' := 19) (j := 3) C d10_16 rfl (hw _ (List.mem_of_getElem? (i := 34) rfl)) O rfl ?_
    refine g_iconst (pc' := 20) (z := (1 : Int32)) C d10_19 rfl rfl ?_
    refine g_isub (pc' := 21) C d10_20 rfl ?_
    show Go W Q hp13 0 0 21 #[.val (.ref a), .val (.int (1 : Int32))] [(.int (2 : Int32)), (.ref a)]
    refine g_putO (pc' := 24) (j := 3) (ty := .int) (v' := (.int (2 : Int32))) (fs' := [("com/example/triplecore/triplecore/query/PatternQueue", "heap", "[I", (.ref b1)), ("com/example/triplecore/triplecore/query/PatternQueue", "places", "[I", (.ref b2)), ("com/example/triplecore/triplecore/query/PatternQueue", "counts", "[I", (.ref b3)), ("com/example/triplecore/triplecore/query/PatternQueue", "size", "I", (.int (2 : Int32)))]) C d10_21 rfl (hw _ (List.mem_of_getElem? (i := 34) rfl)) Via.refl O rfl (Or.inl (hw _ (List.mem_of_getElem? (i := 35) rfl))) (hw _ (List.mem_of_getElem? (i := 1) rfl)) (by decide) rfl rfl rfl (C.old (List.mem_of_getElem? (i := 0) rfl)) fun hp14 O Khp14 => ?_
    replace A1 := A1.keep Khp14 (ninS (Ne.symm q01) nin0)
    replace A2 := A2.keep Khp14 (ninS (Ne.symm q02) nin0)
    replace A3 := A3.keep Khp14 (ninS (Ne.symm q03) nin0)
    refine g_aloadN (pc' := 25) C d10_24 rfl rfl rfl ?_
    refine g_getO (pc' := 28) (j := 3) C d10_25 rfl (hw _ (List.mem_of_getElem? (i := 34) rfl)) O rfl ?_
    refine g_ifN (xi := 2) (pc2 := 31) C d10_28 rfl rfl (by decide) ?_
    refine g_aloadN (pc' := 32) C d10_31 rfl rfl rfl ?_
    refine g_aloadN (pc' := 33) C d10_32 rfl rfl rfl ?_
    refine g_getO (pc' := 36) (j := 0) C d10_33 rfl (hw _ (List.mem_of_getElem? (i := 10) rfl)) O rfl ?_
    refine g_aloadN (pc' := 37) C d10_36 rfl rfl rfl ?_
    refine g_getO (pc' := 40) (j := 3) C d10_37 rfl (hw _ (List.mem_of_getElem? (i := 34) rfl)) O rfl ?_
    refine g_iaload (pc' := 41) (i := 2) C d10_40 rfl A1 rfl rfl ?_
    refine g_iconst (pc' := 42) (z := (0 : Int32)) C d10_41 rfl rfl ?_
    refine g_private (y := (⟨"com/example/triplecore/triplecore/query/PatternQueue", "move", "(II)V"⟩ : MethodName)) (a := a) (pc' := 45) (k' := 0) (n' := 0) (S := []) (as := [(.int (0 : Int32)), (.int (0 : Int32))]) C d10_42 rfl (hw _ (List.mem_of_getElem? (i := 40) rfl)) (hw _ (List.mem_of_getElem? (i := 41) rfl)) (hw _ (List.mem_of_getElem? (i := 2) rfl)) (hw _ (List.mem_of_getElem? (i := 43) rfl)) (hw _ (List.mem_of_getElem? (i := 42) rfl)) (hw _ (List.mem_of_getElem? (i := 1) rfl)) (by decide) O.1 (lenOf pd_0 rfl) (con_move W.l Z a0 hw a b1 b2 b3 (2 : Int32) (0 : Int32) (0 : Int32) 0 0 _ _ rfl rfl (Nat.le_of_ble_eq_true rfl) (Nat.le_of_ble_eq_true rfl) q01 q02 q03 q12 q13 q23 hp14 O A1 A2) rfl rfl (Nat.le_of_ble_eq_true rfl) (Nat.le_of_ble_eq_true rfl) rfl rfl (Nat.le_of_ble_eq_true rfl) (Nat.le_of_ble_eq_true rfl) (allS (C.old (List.mem_of_getElem? (i := 1) rfl)) (allS (C.old (List.mem_of_getElem? (i := 2) rfl)) all0)) fun vhp15 hp15 qhp15 Khp15 => ?_
    obtain ⟨rfl, A1, A2⟩ := qhp15
    replace O := O.keep Khp15 (ninS q01 (ninS q02 nin0))
    replace A3 := A3.keep Khp15 (ninS (Ne.symm q13) (ninS (Ne.symm q23) nin0))
    show Go W Q hp15 0 0 45 #[.val (.ref a), .val (.int (1 : Int32))] []
    replace A1 : Ar Z hp15 b1 .int [(.int (0 : Int32)), (.int (2 : Int32)), (.int (0 : Int32))] := A1
    replace A2 : Ar Z hp15 b2 .int [(.int (0 : Int32)), (.int (-1 : Int32)), (.int (1 : Int32))] := A2
    show Go W Q hp15 0 0 45 #[.val (.ref a), .val (.int (1 : Int32))] []
    refine g_aloadN (pc' := 46) C d10_45 rfl rfl rfl ?_
    refine g_iconst (pc' := 47) (z := (0 : Int32)) C d10_46 rfl rfl ?_
    refine g_private (y := (⟨"com/example/triplecore/triplecore/query/PatternQueue", "down", "(I)V"⟩ : MethodName)) (a := a) (pc' := 50) (k' := 0) (n' := 0) (S := []) (as := [(.int (0 : Int32))]) C d10_47 rfl (hw _ (List.mem_of_getElem? (i := 53) rfl)) (hw _ (List.mem_of_getElem? (i := 54) rfl)) (hw _ (List.mem_of_getElem? (i := 2) rfl)) (hw _ (List.mem_of_getElem? (i := 56) rfl)) (hw _ (List.mem_of_getElem? (i := 55) rfl)) (hw _ (List.mem_of_getElem? (i := 1) rfl)) (by decide) O.1 (lenOf pd_3 rfl) (con_down2 W.l Z a0 hw a b1 b2 b3 (0 : Int32) (2 : Int32) (0 : Int32) c0 c2 0 2 _ _ rfl rfl (Nat.le_of_ble_eq_true rfl) (Nat.le_of_ble_eq_true rfl) rfl rfl q01 q02 q03 q12 q13 q23 hp15 O A1 A2 A3) rfl rfl (Nat.le_of_ble_eq_true rfl) (Nat.le_of_ble_eq_true rfl) rfl rfl (Nat.le_of_ble_eq_true rfl) (Nat.le_of_ble_eq_true rfl) (allS (C.old (List.mem_of_getElem? (i := 1) rfl)) (allS (C.old (List.mem_of_getElem? (i := 2) rfl)) all0)) fun vhp16 hp16 qhp16 Khp16 => ?_
    replace O := O.keep Khp16 (ninS q01 (ninS q02 nin0))
    replace A3 := A3.keep Khp16 (ninS (Ne.symm q13) (ninS (Ne.symm q23) nin0))
    rcases qhp16 with ⟨rfl, A1, A2⟩ | ⟨rfl, A1, A2⟩
    ·
      replace A1 : Ar Z hp16 b1 .int [(.int (0 : Int32)), (.int (2 : Int32)), (.int (0 : Int32))] := A1
      replace A2 : Ar Z hp16 b2 .int [(.int (0 : Int32)), (.int (-1 : Int32)), (.int (1 : Int32))] := A2
      show Go W Q hp16 0 0 50 #[.val (.ref a), .val (.int (1 : Int32))] []
      refine g_iloadN (pc' := 51) C d10_50 rfl rfl ?_
      refine g_retI C d10_51 (by decide) (by decide) ?_
      subst hQ
      exact Or.inr (Or.inl ⟨rfl, ⟨(0 : Int32), (2 : Int32), (0 : Int32), (0 : Int32), (-1 : Int32), (1 : Int32), c0, c1, c2, (Or.inl ⟨rfl, rfl, rfl, rfl, rfl⟩), O, A1, A2, A3⟩⟩)
    ·
      replace A1 : Ar Z hp16 b1 .int [(.int (2 : Int32)), (.int (0 : Int32)), (.int (0 : Int32))] := A1
      replace A2 : Ar Z hp16 b2 .int [(.int (1 : Int32)), (.int (-1 : Int32)), (.int (0 : Int32))] := A2
      show Go W Q hp16 0 0 50 #[.val (.ref a), .val (.int (1 : Int32))] []
      refine g_iloadN (pc' := 51) C d10_50 rfl rfl ?_
      refine g_retI C d10_51 (by decide) (by decide) ?_
      subst hQ
      exact Or.inr (Or.inl ⟨rfl, ⟨(2 : Int32), (0 : Int32), (0 : Int32), (1 : Int32), (-1 : Int32), (0 : Int32), c0, c1, c2, (Or.inr ⟨rfl, rfl, rfl, rfl, rfl⟩), O, A1, A2, A3⟩⟩)
  ·
    refine g_aloadN (pc' := 1) C d10_0 rfl rfl rfl ?_
    refine g_getO (pc' := 4) (j := 0) C d10_1 rfl (hw _ (List.mem_of_getElem? (i := 10) rfl)) O rfl ?_
    refine g_iconst (pc' := 5) (z := (0 : Int32)) C d10_4 rfl rfl ?_
    refine g_iaload (pc' := 6) (i := 0) C d10_5 rfl A1 rfl rfl ?_
    refine g_istoreN (pc' := 7) (L' := #[.val (.ref a), .val (.int (2 : Int32))]) C d10_6 rfl rfl ?_
    refine g_aloadN (pc' := 8) C d10_7 rfl rfl rfl ?_
    refine g_getO (pc' := 11) (j := 1) C d10_8 rfl (hw _ (List.mem_of_getElem? (i := 12) rfl)) O rfl ?_
    refine g_iloadN (pc' := 12) C d10_11 rfl rfl ?_
    refine g_iconst (pc' := 13) (z := (-1 : Int32)) C d10_12 rfl rfl ?_
    refine g_iastore (pc' := 14) (i := 2) (vs' := [(.int (1 : Int32)), (.int (2 : Int32)), (.int (-1 : Int32))]) C d10_13 rfl A2 rfl (Nat.le_of_ble_eq_true rfl) rfl (C.old (List.mem_of_getElem? (i := 2) rfl)) fun hp17 A2 Khp17 => ?_
    replace O := O.keep Khp17 (ninS q02 nin0)
    replace A1 := A1.keep Khp17 (ninS q12 nin0)
    replace A3 := A3.keep Khp17 (ninS (Ne.symm q23) nin0)
    refine g_aloadN (pc' := 15) C d10_14 rfl rfl rfl ?_
    refine g_dup (pc' := 16) C d10_15 rfl rfl ?_
    refine g_getO (pc' := 19) (j := 3) C d10_16 rfl (hw _ (List.mem_of_getElem? (i := 34) rfl)) O rfl ?_
    refine g_iconst (pc' := 20) (z := (1 : Int32)) C d10_19 rfl rfl ?_
    refine g_isub (pc' := 21) C d10_20 rfl ?_
    show Go W Q hp17 0 0 21 #[.val (.ref a), .val (.int (2 : Int32))] [(.int (2 : Int32)), (.ref a)]
    refine g_putO (pc' := 24) (j := 3) (ty := .int) (v' := (.int (2 : Int32))) (fs' := [("com/example/triplecore/triplecore/query/PatternQueue", "heap", "[I", (.ref b1)), ("com/example/triplecore/triplecore/query/PatternQueue", "places", "[I", (.ref b2)), ("com/example/triplecore/triplecore/query/PatternQueue", "counts", "[I", (.ref b3)), ("com/example/triplecore/triplecore/query/PatternQueue", "size", "I", (.int (2 : Int32)))]) C d10_21 rfl (hw _ (List.mem_of_getElem? (i := 34) rfl)) Via.refl O rfl (Or.inl (hw _ (List.mem_of_getElem? (i := 35) rfl))) (hw _ (List.mem_of_getElem? (i := 1) rfl)) (by decide) rfl rfl rfl (C.old (List.mem_of_getElem? (i := 0) rfl)) fun hp18 O Khp18 => ?_
    replace A1 := A1.keep Khp18 (ninS (Ne.symm q01) nin0)
    replace A2 := A2.keep Khp18 (ninS (Ne.symm q02) nin0)
    replace A3 := A3.keep Khp18 (ninS (Ne.symm q03) nin0)
    refine g_aloadN (pc' := 25) C d10_24 rfl rfl rfl ?_
    refine g_getO (pc' := 28) (j := 3) C d10_25 rfl (hw _ (List.mem_of_getElem? (i := 34) rfl)) O rfl ?_
    refine g_ifN (xi := 2) (pc2 := 31) C d10_28 rfl rfl (by decide) ?_
    refine g_aloadN (pc' := 32) C d10_31 rfl rfl rfl ?_
    refine g_aloadN (pc' := 33) C d10_32 rfl rfl rfl ?_
    refine g_getO (pc' := 36) (j := 0) C d10_33 rfl (hw _ (List.mem_of_getElem? (i := 10) rfl)) O rfl ?_
    refine g_aloadN (pc' := 37) C d10_36 rfl rfl rfl ?_
    refine g_getO (pc' := 40) (j := 3) C d10_37 rfl (hw _ (List.mem_of_getElem? (i := 34) rfl)) O rfl ?_
    refine g_iaload (pc' := 41) (i := 2) C d10_40 rfl A1 rfl rfl ?_
    refine g_iconst (pc' := 42) (z := (0 : Int32)) C d10_41 rfl rfl ?_
    refine g_private (y := (⟨"com/example/triplecore/triplecore/query/PatternQueue", "move", "(II)V"⟩ : MethodName)) (a := a) (pc' := 45) (k' := 0) (n' := 0) (S := []) (as := [(.int (1 : Int32)), (.int (0 : Int32))]) C d10_42 rfl (hw _ (List.mem_of_getElem? (i := 40) rfl)) (hw _ (List.mem_of_getElem? (i := 41) rfl)) (hw _ (List.mem_of_getElem? (i := 2) rfl)) (hw _ (List.mem_of_getElem? (i := 43) rfl)) (hw _ (List.mem_of_getElem? (i := 42) rfl)) (hw _ (List.mem_of_getElem? (i := 1) rfl)) (by decide) O.1 (lenOf pd_0 rfl) (con_move W.l Z a0 hw a b1 b2 b3 (2 : Int32) (1 : Int32) (0 : Int32) 1 0 _ _ rfl rfl (Nat.le_of_ble_eq_true rfl) (Nat.le_of_ble_eq_true rfl) q01 q02 q03 q12 q13 q23 hp18 O A1 A2) rfl rfl (Nat.le_of_ble_eq_true rfl) (Nat.le_of_ble_eq_true rfl) rfl rfl (Nat.le_of_ble_eq_true rfl) (Nat.le_of_ble_eq_true rfl) (allS (C.old (List.mem_of_getElem? (i := 1) rfl)) (allS (C.old (List.mem_of_getElem? (i := 2) rfl)) all0)) fun vhp19 hp19 qhp19 Khp19 => ?_
    obtain ⟨rfl, A1, A2⟩ := qhp19
    replace O := O.keep Khp19 (ninS q01 (ninS q02 nin0))
    replace A3 := A3.keep Khp19 (ninS (Ne.symm q13) (ninS (Ne.symm q23) nin0))
    show Go W Q hp19 0 0 45 #[.val (.ref a), .val (.int (2 : Int32))] []
    replace A1 : Ar Z hp19 b1 .int [(.int (1 : Int32)), (.int (0 : Int32)), (.int (1 : Int32))] := A1
    replace A2 : Ar Z hp19 b2 .int [(.int (1 : Int32)), (.int (0 : Int32)), (.int (-1 : Int32))] := A2
    show Go W Q hp19 0 0 45 #[.val (.ref a), .val (.int (2 : Int32))] []
    refine g_aloadN (pc' := 46) C d10_45 rfl rfl rfl ?_
    refine g_iconst (pc' := 47) (z := (0 : Int32)) C d10_46 rfl rfl ?_
    refine g_private (y := (⟨"com/example/triplecore/triplecore/query/PatternQueue", "down", "(I)V"⟩ : MethodName)) (a := a) (pc' := 50) (k' := 0) (n' := 0) (S := []) (as := [(.int (0 : Int32))]) C d10_47 rfl (hw _ (List.mem_of_getElem? (i := 53) rfl)) (hw _ (List.mem_of_getElem? (i := 54) rfl)) (hw _ (List.mem_of_getElem? (i := 2) rfl)) (hw _ (List.mem_of_getElem? (i := 56) rfl)) (hw _ (List.mem_of_getElem? (i := 55) rfl)) (hw _ (List.mem_of_getElem? (i := 1) rfl)) (by decide) O.1 (lenOf pd_3 rfl) (con_down2 W.l Z a0 hw a b1 b2 b3 (1 : Int32) (0 : Int32) (1 : Int32) c1 c0 1 0 _ _ rfl rfl (Nat.le_of_ble_eq_true rfl) (Nat.le_of_ble_eq_true rfl) rfl rfl q01 q02 q03 q12 q13 q23 hp19 O A1 A2 A3) rfl rfl (Nat.le_of_ble_eq_true rfl) (Nat.le_of_ble_eq_true rfl) rfl rfl (Nat.le_of_ble_eq_true rfl) (Nat.le_of_ble_eq_true rfl) (allS (C.old (List.mem_of_getElem? (i := 1) rfl)) (allS (C.old (List.mem_of_getElem? (i := 2) rfl)) all0)) fun vhp20 hp20 qhp20 Khp20 => ?_
    replace O := O.keep Khp20 (ninS q01 (ninS q02 nin0))
    replace A3 := A3.keep Khp20 (ninS (Ne.symm q13) (ninS (Ne.symm q23) nin0))
    rcases qhp20 with ⟨rfl, A1, A2⟩ | ⟨rfl, A1, A2⟩
    ·
      replace A1 : Ar Z hp20 b1 .int [(.int (1 : Int32)), (.int (0 : Int32)), (.int (1 : Int32))] := A1
      replace A2 : Ar Z hp20 b2 .int [(.int (1 : Int32)), (.int (0 : Int32)), (.int (-1 : Int32))] := A2
      show Go W Q hp20 0 0 50 #[.val (.ref a), .val (.int (2 : Int32))] []
      refine g_iloadN (pc' := 51) C d10_50 rfl rfl ?_
      refine g_retI C d10_51 (by decide) (by decide) ?_
      subst hQ
      exact Or.inr (Or.inr (⟨rfl, ⟨(1 : Int32), (0 : Int32), (1 : Int32), (1 : Int32), (0 : Int32), (-1 : Int32), c0, c1, c2, (Or.inr ⟨rfl, rfl, rfl, rfl, rfl⟩), O, A1, A2, A3⟩⟩))
    ·
      replace A1 : Ar Z hp20 b1 .int [(.int (0 : Int32)), (.int (1 : Int32)), (.int (1 : Int32))] := A1
      replace A2 : Ar Z hp20 b2 .int [(.int (0 : Int32)), (.int (1 : Int32)), (.int (-1 : Int32))] := A2
      show Go W Q hp20 0 0 50 #[.val (.ref a), .val (.int (2 : Int32))] []
      refine g_iloadN (pc' := 51) C d10_50 rfl rfl ?_
      refine g_retI C d10_51 (by decide) (by decide) ?_
      subst hQ
      exact Or.inr (Or.inr (⟨rfl, ⟨(0 : Int32), (1 : Int32), (1 : Int32), (0 : Int32), (1 : Int32), (-1 : Int32), c0, c1, c2, (Or.inl ⟨rfl, rfl, rfl, rfl, rfl⟩), O, A1, A2, A3⟩⟩))
  ·
    refine g_aloadN (pc' := 1) C d10_0 rfl rfl rfl ?_
    refine g_getO (pc' := 4) (j := 0) C d10_1 rfl (hw _ (List.mem_of_getElem? (i := 10) rfl)) O rfl ?_
    refine g_iconst (pc' := 5) (z := (0 : Int32)) C d10_4 rfl rfl ?_
    refine g_iaload (pc' := 6) (i := 0) C d10_5 rfl A1 rfl rfl ?_
    refine g_istoreN (pc' := 7) (L' := #[.val (.ref a), .val (.int (2 : Int32))]) C d10_6 rfl rfl ?_
    refine g_aloadN (pc' := 8) C d10_7 rfl rfl rfl ?_
    refine g_getO (pc' := 11) (j := 1) C d10_8 rfl (hw _ (List.mem_of_getElem? (i := 12) rfl)) O rfl ?_
    refine g_iloadN (pc' := 12) C d10_11 rfl rfl ?_
    refine g_iconst (pc' := 13) (z := (-1 : Int32)) C d10_12 rfl rfl ?_
    refine g_iastore (pc' := 14) (i := 2) (vs' := [(.int (2 : Int32)), (.int (1 : Int32)), (.int (-1 : Int32))]) C d10_13 rfl A2 rfl (Nat.le_of_ble_eq_true rfl) rfl (C.old (List.mem_of_getElem? (i := 2) rfl)) fun hp21 A2 Khp21 => ?_
    replace O := O.keep Khp21 (ninS q02 nin0)
    replace A1 := A1.keep Khp21 (ninS q12 nin0)
    replace A3 := A3.keep Khp21 (ninS (Ne.symm q23) nin0)
    refine g_aloadN (pc' := 15) C d10_14 rfl rfl rfl ?_
    refine g_dup (pc' := 16) C d10_15 rfl rfl ?_
    refine g_getO (pc' := 19) (j := 3) C d10_16 rfl (hw _ (List.mem_of_getElem? (i := 34) rfl)) O rfl ?_
    refine g_iconst (pc' := 20) (z := (1 : Int32)) C d10_19 rfl rfl ?_
    refine g_isub (pc' := 21) C d10_20 rfl ?_
    show Go W Q hp21 0 0 21 #[.val (.ref a), .val (.int (2 : Int32))] [(.int (2 : Int32)), (.ref a)]
    refine g_putO (pc' := 24) (j := 3) (ty := .int) (v' := (.int (2 : Int32))) (fs' := [("com/example/triplecore/triplecore/query/PatternQueue", "heap", "[I", (.ref b1)), ("com/example/triplecore/triplecore/query/PatternQueue", "places", "[I", (.ref b2)), ("com/example/triplecore/triplecore/query/PatternQueue", "counts", "[I", (.ref b3)), ("com/example/triplecore/triplecore/query/PatternQueue", "size", "I", (.int (2 : Int32)))]) C d10_21 rfl (hw _ (List.mem_of_getElem? (i := 34) rfl)) Via.refl O rfl (Or.inl (hw _ (List.mem_of_getElem? (i := 35) rfl))) (hw _ (List.mem_of_getElem? (i := 1) rfl)) (by decide) rfl rfl rfl (C.old (List.mem_of_getElem? (i := 0) rfl)) fun hp22 O Khp22 => ?_
    replace A1 := A1.keep Khp22 (ninS (Ne.symm q01) nin0)
    replace A2 := A2.keep Khp22 (ninS (Ne.symm q02) nin0)
    replace A3 := A3.keep Khp22 (ninS (Ne.symm q03) nin0)
    refine g_aloadN (pc' := 25) C d10_24 rfl rfl rfl ?_
    refine g_getO (pc' := 28) (j := 3) C d10_25 rfl (hw _ (List.mem_of_getElem? (i := 34) rfl)) O rfl ?_
    refine g_ifN (xi := 2) (pc2 := 31) C d10_28 rfl rfl (by decide) ?_
    refine g_aloadN (pc' := 32) C d10_31 rfl rfl rfl ?_
    refine g_aloadN (pc' := 33) C d10_32 rfl rfl rfl ?_
    refine g_getO (pc' := 36) (j := 0) C d10_33 rfl (hw _ (List.mem_of_getElem? (i := 10) rfl)) O rfl ?_
    refine g_aloadN (pc' := 37) C d10_36 rfl rfl rfl ?_
    refine g_getO (pc' := 40) (j := 3) C d10_37 rfl (hw _ (List.mem_of_getElem? (i := 34) rfl)) O rfl ?_
    refine g_iaload (pc' := 41) (i := 2) C d10_40 rfl A1 rfl rfl ?_
    refine g_iconst (pc' := 42) (z := (0 : Int32)) C d10_41 rfl rfl ?_
    refine g_private (y := (⟨"com/example/triplecore/triplecore/query/PatternQueue", "move", "(II)V"⟩ : MethodName)) (a := a) (pc' := 45) (k' := 0) (n' := 0) (S := []) (as := [(.int (0 : Int32)), (.int (0 : Int32))]) C d10_42 rfl (hw _ (List.mem_of_getElem? (i := 40) rfl)) (hw _ (List.mem_of_getElem? (i := 41) rfl)) (hw _ (List.mem_of_getElem? (i := 2) rfl)) (hw _ (List.mem_of_getElem? (i := 43) rfl)) (hw _ (List.mem_of_getElem? (i := 42) rfl)) (hw _ (List.mem_of_getElem? (i := 1) rfl)) (by decide) O.1 (lenOf pd_0 rfl) (con_move W.l Z a0 hw a b1 b2 b3 (2 : Int32) (0 : Int32) (0 : Int32) 0 0 _ _ rfl rfl (Nat.le_of_ble_eq_true rfl) (Nat.le_of_ble_eq_true rfl) q01 q02 q03 q12 q13 q23 hp22 O A1 A2) rfl rfl (Nat.le_of_ble_eq_true rfl) (Nat.le_of_ble_eq_true rfl) rfl rfl (Nat.le_of_ble_eq_true rfl) (Nat.le_of_ble_eq_true rfl) (allS (C.old (List.mem_of_getElem? (i := 1) rfl)) (allS (C.old (List.mem_of_getElem? (i := 2) rfl)) all0)) fun vhp23 hp23 qhp23 Khp23 => ?_
    obtain ⟨rfl, A1, A2⟩ := qhp23
    replace O := O.keep Khp23 (ninS q01 (ninS q02 nin0))
    replace A3 := A3.keep Khp23 (ninS (Ne.symm q13) (ninS (Ne.symm q23) nin0))
    show Go W Q hp23 0 0 45 #[.val (.ref a), .val (.int (2 : Int32))] []
    replace A1 : Ar Z hp23 b1 .int [(.int (0 : Int32)), (.int (1 : Int32)), (.int (0 : Int32))] := A1
    replace A2 : Ar Z hp23 b2 .int [(.int (0 : Int32)), (.int (1 : Int32)), (.int (-1 : Int32))] := A2
    show Go W Q hp23 0 0 45 #[.val (.ref a), .val (.int (2 : Int32))] []
    refine g_aloadN (pc' := 46) C d10_45 rfl rfl rfl ?_
    refine g_iconst (pc' := 47) (z := (0 : Int32)) C d10_46 rfl rfl ?_
    refine g_private (y := (⟨"com/example/triplecore/triplecore/query/PatternQueue", "down", "(I)V"⟩ : MethodName)) (a := a) (pc' := 50) (k' := 0) (n' := 0) (S := []) (as := [(.int (0 : Int32))]) C d10_47 rfl (hw _ (List.mem_of_getElem? (i := 53) rfl)) (hw _ (List.mem_of_getElem? (i := 54) rfl)) (hw _ (List.mem_of_getElem? (i := 2) rfl)) (hw _ (List.mem_of_getElem? (i := 56) rfl)) (hw _ (List.mem_of_getElem? (i := 55) rfl)) (hw _ (List.mem_of_getElem? (i := 1) rfl)) (by decide) O.1 (lenOf pd_3 rfl) (con_down2 W.l Z a0 hw a b1 b2 b3 (0 : Int32) (1 : Int32) (0 : Int32) c0 c1 0 1 _ _ rfl rfl (Nat.le_of_ble_eq_true rfl) (Nat.le_of_ble_eq_true rfl) rfl rfl q01 q02 q03 q12 q13 q23 hp23 O A1 A2 A3) rfl rfl (Nat.le_of_ble_eq_true rfl) (Nat.le_of_ble_eq_true rfl) rfl rfl (Nat.le_of_ble_eq_true rfl) (Nat.le_of_ble_eq_true rfl) (allS (C.old (List.mem_of_getElem? (i := 1) rfl)) (allS (C.old (List.mem_of_getElem? (i := 2) rfl)) all0)) fun vhp24 hp24 qhp24 Khp24 => ?_
    replace O := O.keep Khp24 (ninS q01 (ninS q02 nin0))
    replace A3 := A3.keep Khp24 (ninS (Ne.symm q13) (ninS (Ne.symm q23) nin0))
    rcases qhp24 with ⟨rfl, A1, A2⟩ | ⟨rfl, A1, A2⟩
    ·
      replace A1 : Ar Z hp24 b1 .int [(.int (0 : Int32)), (.int (1 : Int32)), (.int (0 : Int32))] := A1
      replace A2 : Ar Z hp24 b2 .int [(.int (0 : Int32)), (.int (1 : Int32)), (.int (-1 : Int32))] := A2
      show Go W Q hp24 0 0 50 #[.val (.ref a), .val (.int (2 : Int32))] []
      refine g_iloadN (pc' := 51) C d10_50 rfl rfl ?_
      refine g_retI C d10_51 (by decide) (by decide) ?_
      subst hQ
      exact Or.inr (Or.inr (⟨rfl, ⟨(0 : Int32), (1 : Int32), (0 : Int32), (0 : Int32), (1 : Int32), (-1 : Int32), c0, c1, c2, (Or.inl ⟨rfl, rfl, rfl, rfl, rfl⟩), O, A1, A2, A3⟩⟩))
    ·
      replace A1 : Ar Z hp24 b1 .int [(.int (1 : Int32)), (.int (0 : Int32)), (.int (0 : Int32))] := A1
      replace A2 : Ar Z hp24 b2 .int [(.int (1 : Int32)), (.int (0 : Int32)), (.int (-1 : Int32))] := A2
      show Go W Q hp24 0 0 50 #[.val (.ref a), .val (.int (2 : Int32))] []
      refine g_iloadN (pc' := 51) C d10_50 rfl rfl ?_
      refine g_retI C d10_51 (by decide) (by decide) ?_
      subst hQ
      exact Or.inr (Or.inr (⟨rfl, ⟨(1 : Int32), (0 : Int32), (0 : Int32), (1 : Int32), (0 : Int32), (-1 : Int32), c0, c1, c2, (Or.inr ⟨rfl, rfl, rfl, rfl, rfl⟩), O, A1, A2, A3⟩⟩))
set_option maxRecDepth 65536 in
set_option maxHeartbeats 2000000 in
theorem con_0 (l : Launch) (Z : State) (a0 : Array Value) (hw : ∀ d ∈ tables_1, d.before a0 Z = true) (p0 p1 p2 p3 p4 : Int32) (h : Heap)  :
    Con l Z tables_1 x code maxLocals ret room_1 #[(.int p0), (.int p1), (.int p2), (.int p3), (.int p4)] h [] (fun v _ => v = some (.int 1)) := by
  refine Con.of_go (L0 := #[.val (.int p0), .val (.int p1), .val (.int p2), .val (.int p3), .val (.int p4), .unset, .unset, .unset, .unset, .unset, .unset, .unset, .unset, .unset, .unset, .unset, .unset]) (plainFor_of_name (by first | (simp [plainName, overriddenIn]; done) | decide +kernel)) (locals_of rfl) fun W Q hQ hl C => ?_
  subst hl
  refine g_new (pc' := 3) (k' := 1) (n' := 4) C at_0 rfl (hw _ (List.mem_of_getElem? (i := 0) rfl)) (hw _ (List.mem_of_getElem? (i := 1) rfl)) (hw _ (List.mem_of_getElem? (i := 2) rfl)) rfl rfl (by decide) (by decide) fun h1 a1 e_a1 Eh1 Xa1 Da1 w_a1 => ?_
  have Oa1 : Ob Z h1 a1 "com/example/triplecore/triplecore/query/PatternQueue" [("com/example/triplecore/triplecore/query/PatternQueue", "heap", "[I", .null), ("com/example/triplecore/triplecore/query/PatternQueue", "places", "[I", .null), ("com/example/triplecore/triplecore/query/PatternQueue", "counts", "[I", .null), ("com/example/triplecore/triplecore/query/PatternQueue", "size", "I", (.int (0 : Int32)))] := ⟨Xa1, by
    simp only [List.forall_mem_cons, List.not_mem_nil, false_implies, implies_true, and_true]
    exact ⟨Da1 (Or.inr (hw _ (List.mem_of_getElem? (i := 11) rfl))) (ty := (.array .int)) (by decide), Da1 (Or.inr (hw _ (List.mem_of_getElem? (i := 13) rfl))) (ty := (.array .int)) (by decide), Da1 (Or.inr (hw _ (List.mem_of_getElem? (i := 19) rfl))) (ty := (.array .int)) (by decide), Da1 (Or.inl (hw _ (List.mem_of_getElem? (i := 35) rfl))) (ty := .int) (by decide)⟩, dis_0 Z a0 hw⟩
  refine g_dup (pc' := 4) C at_3 rfl rfl ?_
  refine g_iconst (pc' := 5) (z := (3 : Int32)) C at_4 rfl rfl ?_
  refine g_special (y := (⟨"com/example/triplecore/triplecore/query/PatternQueue", "<init>", "(I)V"⟩ : MethodName)) (a := a1) (pc' := 8) (k' := 4) (n' := 13) (S := [(.ref a1)]) (as := [(.int (3 : Int32))]) C at_5 rfl rfl (hw _ (List.mem_of_getElem? (i := 3) rfl)) (hw _ (List.mem_of_getElem? (i := 4) rfl)) (hw _ (List.mem_of_getElem? (i := 2) rfl)) (hw _ (List.mem_of_getElem? (i := 5) rfl)) (by decide) (lenOf pd_3 rfl) (con_init W.l Z a0 hw a1 h1 Oa1) rfl rfl (Nat.le_of_ble_eq_true rfl) (Nat.le_of_ble_eq_true rfl) rfl rfl (Nat.le_of_ble_eq_true rfl) (Nat.le_of_ble_eq_true rfl) (allS w_a1 all0) fun vh2 h2 qh2 Kh2 => ?_
  obtain ⟨rfl, b1, b2, b3, g1, g2, g3, q01, q02, q03, q12, q13, q23, B⟩ := qh2
  show Go W Q h2 4 13 8 #[.val (.int p0), .val (.int p1), .val (.int p2), .val (.int p3), .val (.int p4), .unset, .unset, .unset, .unset, .unset, .unset, .unset, .unset, .unset, .unset, .unset, .unset] [(.ref a1)]
  have w_b1 : Pw W b1 := C.new (Nat.le_trans Eh1.1 g1)
  have w_b2 : Pw W b2 := C.new (Nat.le_trans Eh1.1 g2)
  have w_b3 : Pw W b3 := C.new (Nat.le_trans Eh1.1 g3)
  refine g_astore (pc' := 10) (L' := #[.val (.int p0), .val (.int p1), .val (.int p2), .val (.int p3), .val (.int p4), .val (.ref a1), .unset, .unset, .unset, .unset, .unset, .unset, .unset, .unset, .unset, .unset, .unset]) C at_8 rfl rfl rfl ?_
  refine g_iloadN (pc' := 11) C at_10 rfl rfl ?_
  refine g_iconst (pc' := 12) (z := (1 : Int32)) C at_11 rfl rfl ?_
  refine g_iand (pc' := 13) C at_12 rfl ?_
  suffices K_13 : ∀ z2 : Int32, z2 = b2i (¬ ((p0 &&& (1 : Int32)).toInt = 0)) → Go W Q h2 4 13 21 #[.val (.int p0), .val (.int p1), .val (.int p2), .val (.int p3), .val (.int p4), .val (.ref a1), .unset, .unset, .unset, .unset, .unset, .unset, .unset, .unset, .unset, .unset, .unset] [(.int z2)] by
    refine g_if (xi := (p0 &&& (1 : Int32)).toInt) (pc1 := 20) (pc2 := 16) C at_13 (by decide) rfl rfl rfl (fun (c13 : (p0 &&& (1 : Int32)).toInt = 0) => ?_) (fun (c13 : ¬ ((p0 &&& (1 : Int32)).toInt = 0)) => ?_)
    ·
      refine g_iconst (pc' := 21) (z := (0 : Int32)) C at_20 rfl rfl ?_
      exact K_13 (0 : Int32) ((rfl : (0 : Int32) = b2i False).trans (b2i_iff (iff_false_intro (fun y => y c13)).symm))
    ·
      refine g_iconst (pc' := 17) (z := (1 : Int32)) C at_16 rfl rfl ?_
      refine g_goto C at_17 (by decide) (pc' := 21) rfl ?_
      exact K_13 (1 : Int32) ((rfl : (1 : Int32) = b2i True).trans (b2i_iff (iff_true_intro c13).symm))
  intro z2 e_z2
  refine g_istore (pc' := 23) (L' := #[.val (.int p0), .val (.int p1), .val (.int p2), .val (.int p3), .val (.int p4), .val (.ref a1), .val (.int z2), .unset, .unset, .unset, .unset, .unset, .unset, .unset, .unset, .unset, .unset]) C at_21 rfl rfl ?_
  refine g_iloadN (pc' := 24) C at_23 rfl rfl ?_
  refine g_iconst (pc' := 25) (z := (2 : Int32)) C at_24 rfl rfl ?_
  refine g_iand (pc' := 26) C at_25 rfl ?_
  suffices K_26 : ∀ z3 : Int32, z3 = b2i (¬ ((p0 &&& (2 : Int32)).toInt = 0)) → Go W Q h2 4 13 34 #[.val (.int p0), .val (.int p1), .val (.int p2), .val (.int p3), .val (.int p4), .val (.ref a1), .val (.int z2), .unset, .unset, .unset, .unset, .unset, .unset, .unset, .unset, .unset, .unset] [(.int z3)] by
    refine g_if (xi := (p0 &&& (2 : Int32)).toInt) (pc1 := 33) (pc2 := 29) C at_26 (by decide) rfl rfl rfl (fun (c26 : (p0 &&& (2 : Int32)).toInt = 0) => ?_) (fun (c26 : ¬ ((p0 &&& (2 : Int32)).toInt = 0)) => ?_)
    ·
      refine g_iconst (pc' := 34) (z := (0 : Int32)) C at_33 rfl rfl ?_
      exact K_26 (0 : Int32) ((rfl : (0 : Int32) = b2i False).trans (b2i_iff (iff_false_intro (fun y => y c26)).symm))
    ·
      refine g_iconst (pc' := 30) (z := (1 : Int32)) C at_29 rfl rfl ?_
      refine g_goto C at_30 (by decide) (pc' := 34) rfl ?_
      exact K_26 (1 : Int32) ((rfl : (1 : Int32) = b2i True).trans (b2i_iff (iff_true_intro c26).symm))
  intro z3 e_z3
  refine g_istore (pc' := 36) (L' := #[.val (.int p0), .val (.int p1), .val (.int p2), .val (.int p3), .val (.int p4), .val (.ref a1), .val (.int z2), .val (.int z3), .unset, .unset, .unset, .unset, .unset, .unset, .unset, .unset, .unset]) C at_34 rfl rfl ?_
  refine g_iloadN (pc' := 37) C at_36 rfl rfl ?_
  refine g_iconst (pc' := 38) (z := (4 : Int32)) C at_37 rfl rfl ?_
  refine g_iand (pc' := 39) C at_38 rfl ?_
  suffices K_39 : ∀ z4 : Int32, z4 = b2i (¬ ((p0 &&& (4 : Int32)).toInt = 0)) → Go W Q h2 4 13 47 #[.val (.int p0), .val (.int p1), .val (.int p2), .val (.int p3), .val (.int p4), .val (.ref a1), .val (.int z2), .val (.int z3), .unset, .unset, .unset, .unset, .unset, .unset, .unset, .unset, .unset] [(.int z4)] by
    refine g_if (xi := (p0 &&& (4 : Int32)).toInt) (pc1 := 46) (pc2 := 42) C at_39 (by decide) rfl rfl rfl (fun (c39 : (p0 &&& (4 : Int32)).toInt = 0) => ?_) (fun (c39 : ¬ ((p0 &&& (4 : Int32)).toInt = 0)) => ?_)
    ·
      refine g_iconst (pc' := 47) (z := (0 : Int32)) C at_46 rfl rfl ?_
      exact K_39 (0 : Int32) ((rfl : (0 : Int32) = b2i False).trans (b2i_iff (iff_false_intro (fun y => y c39)).symm))
    ·
      refine g_iconst (pc' := 43) (z := (1 : Int32)) C at_42 rfl rfl ?_
      refine g_goto C at_43 (by decide) (pc' := 47) rfl ?_
      exact K_39 (1 : Int32) ((rfl : (1 : Int32) = b2i True).trans (b2i_iff (iff_true_intro c39).symm))
  intro z4 e_z4
  refine g_istore (pc' := 49) (L' := #[.val (.int p0), .val (.int p1), .val (.int p2), .val (.int p3), .val (.int p4), .val (.ref a1), .val (.int z2), .val (.int z3), .val (.int z4), .unset, .unset, .unset, .unset, .unset, .unset, .unset, .unset]) C at_47 rfl rfl ?_
  refine g_iconst (pc' := 50) (z := (0 : Int32)) C at_49 rfl rfl ?_
  refine g_istore (pc' := 52) (L' := #[.val (.int p0), .val (.int p1), .val (.int p2), .val (.int p3), .val (.int p4), .val (.ref a1), .val (.int z2), .val (.int z3), .val (.int z4), .val (.int (0 : Int32)), .unset, .unset, .unset, .unset, .unset, .unset, .unset]) C at_50 rfl rfl ?_
  have sp_z2 : z2 = 0 ∨ z2 = 1 := by
    rw [e_z2]
    unfold b2i
    split
    · exact Or.inr rfl
    · exact Or.inl rfl
  clear e_z2
  rcases sp_z2 with sp_z2 | sp_z2 <;> subst sp_z2
  ·
    refine g_iload (pc' := 54) C at_52 rfl rfl ?_
    refine g_ifY (xi := 0) (pc1 := 67) C at_54 (by decide) rfl rfl (by decide) ?_
    have sp_z3 : z3 = 0 ∨ z3 = 1 := by
      rw [e_z3]
      unfold b2i
      split
      · exact Or.inr rfl
      · exact Or.inl rfl
    clear e_z3
    rcases sp_z3 with sp_z3 | sp_z3 <;> subst sp_z3
    ·
      refine g_iload (pc' := 69) C at_67 rfl rfl ?_
      refine g_ifY (xi := 0) (pc1 := 82) C at_69 (by decide) rfl rfl (by decide) ?_
      have sp_z4 : z4 = 0 ∨ z4 = 1 := by
        rw [e_z4]
        unfold b2i
        split
        · exact Or.inr rfl
        · exact Or.inl rfl
      clear e_z4
      rcases sp_z4 with sp_z4 | sp_z4 <;> subst sp_z4
      ·
        refine g_iload (pc' := 84) C at_82 rfl rfl ?_
        refine g_ifY (xi := 0) (pc1 := 97) C at_84 (by decide) rfl rfl (by decide) ?_
        refine g_iload (pc' := 99) C at_97 rfl rfl ?_
        refine g_iconst (pc' := 100) (z := (3 : Int32)) C at_99 rfl rfl ?_
        refine g_iand (pc' := 101) C at_100 rfl ?_
        refine g_iload (pc' := 103) C at_101 rfl rfl ?_
        refine g_static (y := (⟨"java/lang/Math", "min", "(II)I"⟩ : MethodName)) (pc' := 106) (k' := 4) (n' := 13) (S := []) (as := [(.int (p4 &&& (3 : Int32))), (.int (0 : Int32))]) C at_103 rfl (hw _ (List.mem_of_getElem? (i := 20) rfl)) (hw _ (List.mem_of_getElem? (i := 21) rfl)) (hw _ (List.mem_of_getElem? (i := 22) rfl)) (hw _ (List.mem_of_getElem? (i := 23) rfl)) (by decide) (lenOf pd_4 rfl) (con_min W.l Z a0 hw (p4 &&& (3 : Int32)) (0 : Int32) h2) rfl rfl (Nat.le_of_ble_eq_true rfl) (Nat.le_of_ble_eq_true rfl) rfl rfl (Nat.le_of_ble_eq_true rfl) (Nat.le_of_ble_eq_true rfl) all0 fun vh3 h3 qh3 Kh3 => ?_
        obtain ⟨kk, rfl, eh, e_kk⟩ := qh3
        subst eh
        show Go W Q h2 4 13 106 #[.val (.int p0), .val (.int p1), .val (.int p2), .val (.int p3), .val (.int p4), .val (.ref a1), .val (.int (0 : Int32)), .val (.int (0 : Int32)), .val (.int (0 : Int32)), .val (.int (0 : Int32)), .unset, .unset, .unset, .unset, .unset, .unset, .unset] [(.int kk)]
        refine g_istore (pc' := 108) (L' := #[.val (.int p0), .val (.int p1), .val (.int p2), .val (.int p3), .val (.int p4), .val (.ref a1), .val (.int (0 : Int32)), .val (.int (0 : Int32)), .val (.int (0 : Int32)), .val (.int (0 : Int32)), .val (.int kk), .unset, .unset, .unset, .unset, .unset, .unset]) C at_106 rfl rfl ?_
        have sp_kk : kk = 0 := by
          apply Int32.toInt_inj.mp
          have y1 := c_mask p4 3 2 (by decide) (by decide)
          have z0 : (0 : Int32).toInt = 0 := rfl
          omega
        clear e_kk
        rcases sp_kk with sp_kk <;> subst sp_kk
        ·
          refine g_iconst (pc' := 109) (z := (-1 : Int32)) C at_108 rfl rfl ?_
          refine g_istore (pc' := 111) (L' := #[.val (.int p0), .val (.int p1), .val (.int p2), .val (.int p3), .val (.int p4), .val (.ref a1), .val (.int (0 : Int32)), .val (.int (0 : Int32)), .val (.int (0 : Int32)), .val (.int (0 : Int32)), .val (.int (0 : Int32)), .val (.int (-1 : Int32)), .unset, .unset, .unset, .unset, .unset]) C at_109 rfl rfl ?_
          refine g_iconst (pc' := 112) (z := (-1 : Int32)) C at_111 rfl rfl ?_
          refine g_istore (pc' := 114) (L' := #[.val (.int p0), .val (.int p1), .val (.int p2), .val (.int p3), .val (.int p4), .val (.ref a1), .val (.int (0 : Int32)), .val (.int (0 : Int32)), .val (.int (0 : Int32)), .val (.int (0 : Int32)), .val (.int (0 : Int32)), .val (.int (-1 : Int32)), .val (.int (-1 : Int32)), .unset, .unset, .unset, .unset]) C at_112 rfl rfl ?_
          refine g_iconst (pc' := 115) (z := (-1 : Int32)) C at_114 rfl rfl ?_
          refine g_istore (pc' := 117) (L' := #[.val (.int p0), .val (.int p1), .val (.int p2), .val (.int p3), .val (.int p4), .val (.ref a1), .val (.int (0 : Int32)), .val (.int (0 : Int32)), .val (.int (0 : Int32)), .val (.int (0 : Int32)), .val (.int (0 : Int32)), .val (.int (-1 : Int32)), .val (.int (-1 : Int32)), .val (.int (-1 : Int32)), .unset, .unset, .unset]) C at_115 rfl rfl ?_
          refine g_iload (pc' := 119) C at_117 rfl rfl ?_
          refine g_iconst (pc' := 120) (z := (1 : Int32)) C at_119 rfl rfl ?_
          refine g_icmpY (xi := 0) (yi := 1) (pc1 := 130) C at_120 (by decide) rfl rfl rfl (by decide) ?_
          refine g_iload (pc' := 132) C at_130 rfl rfl ?_
          refine g_iconst (pc' := 133) (z := (2 : Int32)) C at_132 rfl rfl ?_
          refine g_icmpY (xi := 0) (yi := 2) (pc1 := 143) C at_133 (by decide) rfl rfl rfl (by decide) ?_
          refine g_iload (pc' := 145) C at_143 rfl rfl ?_
          refine g_iconst (pc' := 146) (z := (3 : Int32)) C at_145 rfl rfl ?_
          refine g_icmpY (xi := 0) (yi := 3) (pc1 := 156) C at_146 (by decide) rfl rfl rfl (by decide) ?_
          refine g_iload (pc' := 158) C at_156 rfl rfl ?_
          refine g_ifY (xi := 0) (pc1 := 180) C at_158 (by decide) rfl rfl (by decide) ?_
          refine g_iconst (pc' := 181) (z := (0 : Int32)) C at_180 rfl rfl ?_
          refine g_istore (pc' := 183) (L' := #[.val (.int p0), .val (.int p1), .val (.int p2), .val (.int p3), .val (.int p4), .val (.ref a1), .val (.int (0 : Int32)), .val (.int (0 : Int32)), .val (.int (0 : Int32)), .val (.int (0 : Int32)), .val (.int (0 : Int32)), .val (.int (-1 : Int32)), .val (.int (-1 : Int32)), .val (.int (-1 : Int32)), .val (.int (0 : Int32)), .unset, .unset]) C at_181 rfl rfl ?_
          refine g_iload (pc' := 185) C at_183 rfl rfl ?_
          refine g_ifY (xi := 0) (pc1 := 210) C at_185 (by decide) rfl rfl (by decide) ?_
          refine g_iconst (pc' := 211) (z := (0 : Int32)) C at_210 rfl rfl ?_
          refine g_istore (pc' := 213) (L' := #[.val (.int p0), .val (.int p1), .val (.int p2), .val (.int p3), .val (.int p4), .val (.ref a1), .val (.int (0 : Int32)), .val (.int (0 : Int32)), .val (.int (0 : Int32)), .val (.int (0 : Int32)), .val (.int (0 : Int32)), .val (.int (-1 : Int32)), .val (.int (-1 : Int32)), .val (.int (-1 : Int32)), .val (.int (0 : Int32)), .val (.int (0 : Int32)), .unset]) C at_211 rfl rfl ?_
          refine g_iload (pc' := 215) C at_213 rfl rfl ?_
          refine g_ifY (xi := 0) (pc1 := 240) C at_215 (by decide) rfl rfl (by decide) ?_
          refine g_iconst (pc' := 241) (z := (0 : Int32)) C at_240 rfl rfl ?_
          refine g_istore (pc' := 243) (L' := #[.val (.int p0), .val (.int p1), .val (.int p2), .val (.int p3), .val (.int p4), .val (.ref a1), .val (.int (0 : Int32)), .val (.int (0 : Int32)), .val (.int (0 : Int32)), .val (.int (0 : Int32)), .val (.int (0 : Int32)), .val (.int (-1 : Int32)), .val (.int (-1 : Int32)), .val (.int (-1 : Int32)), .val (.int (0 : Int32)), .val (.int (0 : Int32)), .val (.int (0 : Int32))]) C at_241 rfl rfl ?_
          refine g_aload (pc' := 245) C at_243 rfl rfl rfl ?_
          refine g_iconst (pc' := 246) (z := (0 : Int32)) C at_245 rfl rfl ?_
          obtain ⟨x0, x1, x2, l0, l1, l2, c0, c1, c2, g, O, A1, A2, A3⟩ := B
          have gs : l0.toInt < 0 ∧ l1.toInt < 0 ∧ l2.toInt < 0 := by
            rcases g with ⟨rfl, rfl, rfl⟩ <;> decide
          refine g_virtualP (y := (⟨"com/example/triplecore/triplecore/query/PatternQueue", "contains", "(I)Z"⟩ : MethodName)) (a := a1) (pc' := 249) (k' := 4) (n' := 13) (S := []) (as := [(.int (0 : Int32))]) C at_246 rfl (hw _ (List.mem_of_getElem? (i := 24) rfl)) (hw _ (List.mem_of_getElem? (i := 26) rfl)) (hw _ (List.mem_of_getElem? (i := 2) rfl)) (hw _ (List.mem_of_getElem? (i := 28) rfl)) (hw _ (List.mem_of_getElem? (i := 25) rfl)) (hw _ (List.mem_of_getElem? (i := 27) rfl)) (by decide) O.1 (lenOf pd_5 rfl) (con_has0 W.l Z a0 hw a1 b1 b2 b3 (0 : Int32) (0 : Int32) l0 0 _ rfl rfl gs.1 h2 O A2) rfl rfl (Nat.le_of_ble_eq_true rfl) (Nat.le_of_ble_eq_true rfl) rfl rfl (Nat.le_of_ble_eq_true rfl) (Nat.le_of_ble_eq_true rfl) (S1 := [(.int (0 : Int32))]) rfl ?_
          refine g_iload (pc' := 251) C at_249 rfl rfl ?_
          refine g_icmpN (xi := 0) (yi := 0) (pc2 := 254) C at_251 rfl rfl rfl (by decide) ?_
          refine g_aload (pc' := 256) C at_254 rfl rfl rfl ?_
          refine g_iconst (pc' := 257) (z := (1 : Int32)) C at_256 rfl rfl ?_
          refine g_virtualP (y := (⟨"com/example/triplecore/triplecore/query/PatternQueue", "contains", "(I)Z"⟩ : MethodName)) (a := a1) (pc' := 260) (k' := 4) (n' := 13) (S := []) (as := [(.int (1 : Int32))]) C at_257 rfl (hw _ (List.mem_of_getElem? (i := 24) rfl)) (hw _ (List.mem_of_getElem? (i := 26) rfl)) (hw _ (List.mem_of_getElem? (i := 2) rfl)) (hw _ (List.mem_of_getElem? (i := 28) rfl)) (hw _ (List.mem_of_getElem? (i := 25) rfl)) (hw _ (List.mem_of_getElem? (i := 27) rfl)) (by decide) O.1 (lenOf pd_5 rfl) (con_has0 W.l Z a0 hw a1 b1 b2 b3 (0 : Int32) (1 : Int32) l1 1 _ rfl rfl gs.2.1 h2 O A2) rfl rfl (Nat.le_of_ble_eq_true rfl) (Nat.le_of_ble_eq_true rfl) rfl rfl (Nat.le_of_ble_eq_true rfl) (Nat.le_of_ble_eq_true rfl) (S1 := [(.int (0 : Int32))]) rfl ?_
          refine g_iload (pc' := 262) C at_260 rfl rfl ?_
          refine g_icmpN (xi := 0) (yi := 0) (pc2 := 265) C at_262 rfl rfl rfl (by decide) ?_
          refine g_aload (pc' := 267) C at_265 rfl rfl rfl ?_
          refine g_iconst (pc' := 268) (z := (2 : Int32)) C at_267 rfl rfl ?_
          refine g_virtualP (y := (⟨"com/example/triplecore/triplecore/query/PatternQueue", "contains", "(I)Z"⟩ : MethodName)) (a := a1) (pc' := 271) (k' := 4) (n' := 13) (S := []) (as := [(.int (2 : Int32))]) C at_268 rfl (hw _ (List.mem_of_getElem? (i := 24) rfl)) (hw _ (List.mem_of_getElem? (i := 26) rfl)) (hw _ (List.mem_of_getElem? (i := 2) rfl)) (hw _ (List.mem_of_getElem? (i := 28) rfl)) (hw _ (List.mem_of_getElem? (i := 25) rfl)) (hw _ (List.mem_of_getElem? (i := 27) rfl)) (by decide) O.1 (lenOf pd_5 rfl) (con_has0 W.l Z a0 hw a1 b1 b2 b3 (0 : Int32) (2 : Int32) l2 2 _ rfl rfl gs.2.2 h2 O A2) rfl rfl (Nat.le_of_ble_eq_true rfl) (Nat.le_of_ble_eq_true rfl) rfl rfl (Nat.le_of_ble_eq_true rfl) (Nat.le_of_ble_eq_true rfl) (S1 := [(.int (0 : Int32))]) rfl ?_
          refine g_iload (pc' := 273) C at_271 rfl rfl ?_
          refine g_icmpN (xi := 0) (yi := 0) (pc2 := 276) C at_273 rfl rfl rfl (by decide) ?_
          refine g_iconst (pc' := 277) (z := (1 : Int32)) C at_276 rfl rfl ?_
          refine g_goto C at_277 (by decide) (pc' := 281) rfl ?_
          refine g_retN C (by simp) at_281 (by decide) (by decide) ?_
          subst hQ
          rfl
      ·
        refine g_iload (pc' := 84) C at_82 rfl rfl ?_
        refine g_ifN (xi := 1) (pc2 := 87) C at_84 rfl rfl (by decide) ?_
        refine g_aload (pc' := 89) C at_87 rfl rfl rfl ?_
        refine g_iconst (pc' := 90) (z := (2 : Int32)) C at_89 rfl rfl ?_
        refine g_iloadN (pc' := 91) C at_90 rfl rfl ?_
        refine g_virtual (y := (⟨"com/example/triplecore/triplecore/query/PatternQueue", "add", "(II)V"⟩ : MethodName)) (a := a1) (pc' := 94) (k' := 4) (n' := 13) (S := []) (as := [(.int (2 : Int32)), (.int p3)]) C at_91 rfl (hw _ (List.mem_of_getElem? (i := 29) rfl)) (hw _ (List.mem_of_getElem? (i := 31) rfl)) (hw _ (List.mem_of_getElem? (i := 2) rfl)) (hw _ (List.mem_of_getElem? (i := 33) rfl)) (hw _ (List.mem_of_getElem? (i := 30) rfl)) (hw _ (List.mem_of_getElem? (i := 32) rfl)) (by decide) B.exa (lenOf pd_0 rfl) (con_add_G_e_2 W.l Z a0 hw a1 b1 b2 b3 p3 q01 q02 q03 q12 q13 q23 h2 B) rfl rfl (Nat.le_of_ble_eq_true rfl) (Nat.le_of_ble_eq_true rfl) rfl rfl (Nat.le_of_ble_eq_true rfl) (Nat.le_of_ble_eq_true rfl) (allS w_a1 (allS w_b1 (allS w_b2 (allS w_b3 all0)))) fun vh4 h4 qh4 Kh4 => ?_
        obtain ⟨rfl, B⟩ := qh4
        show Go W Q h4 4 13 94 #[.val (.int p0), .val (.int p1), .val (.int p2), .val (.int p3), .val (.int p4), .val (.ref a1), .val (.int (0 : Int32)), .val (.int (0 : Int32)), .val (.int (1 : Int32)), .val (.int (0 : Int32)), .unset, .unset, .unset, .unset, .unset, .unset, .unset] []
        refine g_iinc (pc' := 97) (z := (1 : Int32)) (L' := #[.val (.int p0), .val (.int p1), .val (.int p2), .val (.int p3), .val (.int p4), .val (.ref a1), .val (.int (0 : Int32)), .val (.int (0 : Int32)), .val (.int (1 : Int32)), .val (.int (1 : Int32)), .unset, .unset, .unset, .unset, .unset, .unset, .unset]) C at_94 rfl rfl rfl rfl ?_
        refine g_iload (pc' := 99) C at_97 rfl rfl ?_
        refine g_iconst (pc' := 100) (z := (3 : Int32)) C at_99 rfl rfl ?_
        refine g_iand (pc' := 101) C at_100 rfl ?_
        refine g_iload (pc' := 103) C at_101 rfl rfl ?_
        refine g_static (y := (⟨"java/lang/Math", "min", "(II)I"⟩ : MethodName)) (pc' := 106) (k' := 4) (n' := 13) (S := []) (as := [(.int (p4 &&& (3 : Int32))), (.int (1 : Int32))]) C at_103 rfl (hw _ (List.mem_of_getElem? (i := 20) rfl)) (hw _ (List.mem_of_getElem? (i := 21) rfl)) (hw _ (List.mem_of_getElem? (i := 22) rfl)) (hw _ (List.mem_of_getElem? (i := 23) rfl)) (by decide) (lenOf pd_4 rfl) (con_min W.l Z a0 hw (p4 &&& (3 : Int32)) (1 : Int32) h4) rfl rfl (Nat.le_of_ble_eq_true rfl) (Nat.le_of_ble_eq_true rfl) rfl rfl (Nat.le_of_ble_eq_true rfl) (Nat.le_of_ble_eq_true rfl) all0 fun vh5 h5 qh5 Kh5 => ?_
        obtain ⟨kk, rfl, eh, e_kk⟩ := qh5
        subst eh
        show Go W Q h4 4 13 106 #[.val (.int p0), .val (.int p1), .val (.int p2), .val (.int p3), .val (.int p4), .val (.ref a1), .val (.int (0 : Int32)), .val (.int (0 : Int32)), .val (.int (1 : Int32)), .val (.int (1 : Int32)), .unset, .unset, .unset, .unset, .unset, .unset, .unset] [(.int kk)]
        refine g_istore (pc' := 108) (L' := #[.val (.int p0), .val (.int p1), .val (.int p2), .val (.int p3), .val (.int p4), .val (.ref a1), .val (.int (0 : Int32)), .val (.int (0 : Int32)), .val (.int (1 : Int32)), .val (.int (1 : Int32)), .val (.int kk), .unset, .unset, .unset, .unset, .unset, .unset]) C at_106 rfl rfl ?_
        have sp_kk : kk = 0 ∨ kk = 1 := by
          have y1 := c_mask p4 3 2 (by decide) (by decide)
          have z0 : (0 : Int32).toInt = 0 := rfl
          have z1 : (1 : Int32).toInt = 1 := rfl
          have z2 : (2 : Int32).toInt = 2 := rfl
          have z3 : (3 : Int32).toInt = 3 := rfl
          rcases (by omega : kk.toInt = 0 ∨ kk.toInt = 1) with y | y
          · exact Or.inl (Int32.toInt_inj.mp (by omega))
          · exact Or.inr (Int32.toInt_inj.mp (by omega))
        clear e_kk
        rcases sp_kk with sp_kk | sp_kk <;> subst sp_kk
        ·
          refine g_iconst (pc' := 109) (z := (-1 : Int32)) C at_108 rfl rfl ?_
          refine g_istore (pc' := 111) (L' := #[.val (.int p0), .val (.int p1), .val (.int p2), .val (.int p3), .val (.int p4), .val (.ref a1), .val (.int (0 : Int32)), .val (.int (0 : Int32)), .val (.int (1 : Int32)), .val (.int (1 : Int32)), .val (.int (0 : Int32)), .val (.int (-1 : Int32)), .unset, .unset, .unset, .unset, .unset]) C at_109 rfl rfl ?_
          refine g_iconst (pc' := 112) (z := (-1 : Int32)) C at_111 rfl rfl ?_
          refine g_istore (pc' := 114) (L' := #[.val (.int p0), .val (.int p1), .val (.int p2), .val (.int p3), .val (.int p4), .val (.ref a1), .val (.int (0 : Int32)), .val (.int (0 : Int32)), .val (.int (1 : Int32)), .val (.int (1 : Int32)), .val (.int (0 : Int32)), .val (.int (-1 : Int32)), .val (.int (-1 : Int32)), .unset, .unset, .unset, .unset]) C at_112 rfl rfl ?_
          refine g_iconst (pc' := 115) (z := (-1 : Int32)) C at_114 rfl rfl ?_
          refine g_istore (pc' := 117) (L' := #[.val (.int p0), .val (.int p1), .val (.int p2), .val (.int p3), .val (.int p4), .val (.ref a1), .val (.int (0 : Int32)), .val (.int (0 : Int32)), .val (.int (1 : Int32)), .val (.int (1 : Int32)), .val (.int (0 : Int32)), .val (.int (-1 : Int32)), .val (.int (-1 : Int32)), .val (.int (-1 : Int32)), .unset, .unset, .unset]) C at_115 rfl rfl ?_
          refine g_iload (pc' := 119) C at_117 rfl rfl ?_
          refine g_iconst (pc' := 120) (z := (1 : Int32)) C at_119 rfl rfl ?_
          refine g_icmpY (xi := 0) (yi := 1) (pc1 := 130) C at_120 (by decide) rfl rfl rfl (by decide) ?_
          refine g_iload (pc' := 132) C at_130 rfl rfl ?_
          refine g_iconst (pc' := 133) (z := (2 : Int32)) C at_132 rfl rfl ?_
          refine g_icmpY (xi := 0) (yi := 2) (pc1 := 143) C at_133 (by decide) rfl rfl rfl (by decide) ?_
          refine g_iload (pc' := 145) C at_143 rfl rfl ?_
          refine g_iconst (pc' := 146) (z := (3 : Int32)) C at_145 rfl rfl ?_
          refine g_icmpY (xi := 0) (yi := 3) (pc1 := 156) C at_146 (by decide) rfl rfl rfl (by decide) ?_
          refine g_iload (pc' := 158) C at_156 rfl rfl ?_
          refine g_ifY (xi := 0) (pc1 := 180) C at_158 (by decide) rfl rfl (by decide) ?_
          refine g_iconst (pc' := 181) (z := (0 : Int32)) C at_180 rfl rfl ?_
          refine g_istore (pc' := 183) (L' := #[.val (.int p0), .val (.int p1), .val (.int p2), .val (.int p3), .val (.int p4), .val (.ref a1), .val (.int (0 : Int32)), .val (.int (0 : Int32)), .val (.int (1 : Int32)), .val (.int (1 : Int32)), .val (.int (0 : Int32)), .val (.int (-1 : Int32)), .val (.int (-1 : Int32)), .val (.int (-1 : Int32)), .val (.int (0 : Int32)), .unset, .unset]) C at_181 rfl rfl ?_
          refine g_iload (pc' := 185) C at_183 rfl rfl ?_
          refine g_ifY (xi := 0) (pc1 := 210) C at_185 (by decide) rfl rfl (by decide) ?_
          refine g_iconst (pc' := 211) (z := (0 : Int32)) C at_210 rfl rfl ?_
          refine g_istore (pc' := 213) (L' := #[.val (.int p0), .val (.int p1), .val (.int p2), .val (.int p3), .val (.int p4), .val (.ref a1), .val (.int (0 : Int32)), .val (.int (0 : Int32)), .val (.int (1 : Int32)), .val (.int (1 : Int32)), .val (.int (0 : Int32)), .val (.int (-1 : Int32)), .val (.int (-1 : Int32)), .val (.int (-1 : Int32)), .val (.int (0 : Int32)), .val (.int (0 : Int32)), .unset]) C at_211 rfl rfl ?_
          refine g_iload (pc' := 215) C at_213 rfl rfl ?_
          refine g_ifN (xi := 1) (pc2 := 218) C at_215 rfl rfl (by decide) ?_
          refine g_iload (pc' := 220) C at_218 rfl rfl ?_
          refine g_iconst (pc' := 221) (z := (2 : Int32)) C at_220 rfl rfl ?_
          refine g_icmpN (xi := -1) (yi := 2) (pc2 := 224) C at_221 rfl rfl rfl (by decide) ?_
          refine g_iload (pc' := 226) C at_224 rfl rfl ?_
          refine g_iconst (pc' := 227) (z := (2 : Int32)) C at_226 rfl rfl ?_
          refine g_icmpN (xi := -1) (yi := 2) (pc2 := 230) C at_227 rfl rfl rfl (by decide) ?_
          refine g_iload (pc' := 232) C at_230 rfl rfl ?_
          refine g_iconst (pc' := 233) (z := (2 : Int32)) C at_232 rfl rfl ?_
          refine g_icmpN (xi := -1) (yi := 2) (pc2 := 236) C at_233 rfl rfl rfl (by decide) ?_
          refine g_iconst (pc' := 237) (z := (1 : Int32)) C at_236 rfl rfl ?_
          refine g_goto C at_237 (by decide) (pc' := 241) rfl ?_
          refine g_istore (pc' := 243) (L' := #[.val (.int p0), .val (.int p1), .val (.int p2), .val (.int p3), .val (.int p4), .val (.ref a1), .val (.int (0 : Int32)), .val (.int (0 : Int32)), .val (.int (1 : Int32)), .val (.int (1 : Int32)), .val (.int (0 : Int32)), .val (.int (-1 : Int32)), .val (.int (-1 : Int32)), .val (.int (-1 : Int32)), .val (.int (0 : Int32)), .val (.int (0 : Int32)), .val (.int (1 : Int32))]) C at_241 rfl rfl ?_
          refine g_aload (pc' := 245) C at_243 rfl rfl rfl ?_
          refine g_iconst (pc' := 246) (z := (0 : Int32)) C at_245 rfl rfl ?_
          obtain ⟨x0, x1, x2, l0, l1, l2, c0, c1, c2, g, O, A1, A2, A3⟩ := B
          have gs : l0.toInt < 0 ∧ l1.toInt < 0 ∧ ¬ l2.toInt < 0 := by
            rcases g with ⟨rfl, rfl, rfl, rfl⟩ <;> decide
          refine g_virtualP (y := (⟨"com/example/triplecore/triplecore/query/PatternQueue", "contains", "(I)Z"⟩ : MethodName)) (a := a1) (pc' := 249) (k' := 4) (n' := 13) (S := []) (as := [(.int (0 : Int32))]) C at_246 rfl (hw _ (List.mem_of_getElem? (i := 24) rfl)) (hw _ (List.mem_of_getElem? (i := 26) rfl)) (hw _ (List.mem_of_getElem? (i := 2) rfl)) (hw _ (List.mem_of_getElem? (i := 28) rfl)) (hw _ (List.mem_of_getElem? (i := 25) rfl)) (hw _ (List.mem_of_getElem? (i := 27) rfl)) (by decide) O.1 (lenOf pd_5 rfl) (con_has0 W.l Z a0 hw a1 b1 b2 b3 (1 : Int32) (0 : Int32) l0 0 _ rfl rfl gs.1 h4 O A2) rfl rfl (Nat.le_of_ble_eq_true rfl) (Nat.le_of_ble_eq_true rfl) rfl rfl (Nat.le_of_ble_eq_true rfl) (Nat.le_of_ble_eq_true rfl) (S1 := [(.int (0 : Int32))]) rfl ?_
          refine g_iload (pc' := 251) C at_249 rfl rfl ?_
          refine g_icmpN (xi := 0) (yi := 0) (pc2 := 254) C at_251 rfl rfl rfl (by decide) ?_
          refine g_aload (pc' := 256) C at_254 rfl rfl rfl ?_
          refine g_iconst (pc' := 257) (z := (1 : Int32)) C at_256 rfl rfl ?_
          refine g_virtualP (y := (⟨"com/example/triplecore/triplecore/query/PatternQueue", "contains", "(I)Z"⟩ : MethodName)) (a := a1) (pc' := 260) (k' := 4) (n' := 13) (S := []) (as := [(.int (1 : Int32))]) C at_257 rfl (hw _ (List.mem_of_getElem? (i := 24) rfl)) (hw _ (List.mem_of_getElem? (i := 26) rfl)) (hw _ (List.mem_of_getElem? (i := 2) rfl)) (hw _ (List.mem_of_getElem? (i := 28) rfl)) (hw _ (List.mem_of_getElem? (i := 25) rfl)) (hw _ (List.mem_of_getElem? (i := 27) rfl)) (by decide) O.1 (lenOf pd_5 rfl) (con_has0 W.l Z a0 hw a1 b1 b2 b3 (1 : Int32) (1 : Int32) l1 1 _ rfl rfl gs.2.1 h4 O A2) rfl rfl (Nat.le_of_ble_eq_true rfl) (Nat.le_of_ble_eq_true rfl) rfl rfl (Nat.le_of_ble_eq_true rfl) (Nat.le_of_ble_eq_true rfl) (S1 := [(.int (0 : Int32))]) rfl ?_
          refine g_iload (pc' := 262) C at_260 rfl rfl ?_
          refine g_icmpN (xi := 0) (yi := 0) (pc2 := 265) C at_262 rfl rfl rfl (by decide) ?_
          refine g_aload (pc' := 267) C at_265 rfl rfl rfl ?_
          refine g_iconst (pc' := 268) (z := (2 : Int32)) C at_267 rfl rfl ?_
          refine g_virtualP (y := (⟨"com/example/triplecore/triplecore/query/PatternQueue", "contains", "(I)Z"⟩ : MethodName)) (a := a1) (pc' := 271) (k' := 4) (n' := 13) (S := []) (as := [(.int (2 : Int32))]) C at_268 rfl (hw _ (List.mem_of_getElem? (i := 24) rfl)) (hw _ (List.mem_of_getElem? (i := 26) rfl)) (hw _ (List.mem_of_getElem? (i := 2) rfl)) (hw _ (List.mem_of_getElem? (i := 28) rfl)) (hw _ (List.mem_of_getElem? (i := 25) rfl)) (hw _ (List.mem_of_getElem? (i := 27) rfl)) (by decide) O.1 (lenOf pd_5 rfl) (con_has1 W.l Z a0 hw a1 b1 b2 b3 (1 : Int32) (2 : Int32) l2 2 _ rfl rfl gs.2.2 h4 O A2) rfl rfl (Nat.le_of_ble_eq_true rfl) (Nat.le_of_ble_eq_true rfl) rfl rfl (Nat.le_of_ble_eq_true rfl) (Nat.le_of_ble_eq_true rfl) (S1 := [(.int (1 : Int32))]) rfl ?_
          refine g_iload (pc' := 273) C at_271 rfl rfl ?_
          refine g_icmpN (xi := 1) (yi := 1) (pc2 := 276) C at_273 rfl rfl rfl (by decide) ?_
          refine g_iconst (pc' := 277) (z := (1 : Int32)) C at_276 rfl rfl ?_
          refine g_goto C at_277 (by decide) (pc' := 281) rfl ?_
          refine g_retN C (by simp) at_281 (by decide) (by decide) ?_
          subst hQ
          rfl
        ·
          refine g_iconst (pc' := 109) (z := (-1 : Int32)) C at_108 rfl rfl ?_
          refine g_istore (pc' := 111) (L' := #[.val (.int p0), .val (.int p1), .val (.int p2), .val (.int p3), .val (.int p4), .val (.ref a1), .val (.int (0 : Int32)), .val (.int (0 : Int32)), .val (.int (1 : Int32)), .val (.int (1 : Int32)), .val (.int (1 : Int32)), .val (.int (-1 : Int32)), .unset, .unset, .unset, .unset, .unset]) C at_109 rfl rfl ?_
          refine g_iconst (pc' := 112) (z := (-1 : Int32)) C at_111 rfl rfl ?_
          refine g_istore (pc' := 114) (L' := #[.val (.int p0), .val (.int p1), .val (.int p2), .val (.int p3), .val (.int p4), .val (.ref a1), .val (.int (0 : Int32)), .val (.int (0 : Int32)), .val (.int (1 : Int32)), .val (.int (1 : Int32)), .val (.int (1 : Int32)), .val (.int (-1 : Int32)), .val (.int (-1 : Int32)), .unset, .unset, .unset, .unset]) C at_112 rfl rfl ?_
          refine g_iconst (pc' := 115) (z := (-1 : Int32)) C at_114 rfl rfl ?_
          refine g_istore (pc' := 117) (L' := #[.val (.int p0), .val (.int p1), .val (.int p2), .val (.int p3), .val (.int p4), .val (.ref a1), .val (.int (0 : Int32)), .val (.int (0 : Int32)), .val (.int (1 : Int32)), .val (.int (1 : Int32)), .val (.int (1 : Int32)), .val (.int (-1 : Int32)), .val (.int (-1 : Int32)), .val (.int (-1 : Int32)), .unset, .unset, .unset]) C at_115 rfl rfl ?_
          refine g_iload (pc' := 119) C at_117 rfl rfl ?_
          refine g_iconst (pc' := 120) (z := (1 : Int32)) C at_119 rfl rfl ?_
          refine g_icmpN (xi := 1) (yi := 1) (pc2 := 123) C at_120 rfl rfl rfl (by decide) ?_
          refine g_aload (pc' := 125) C at_123 rfl rfl rfl ?_
          refine g_virtual (y := (⟨"com/example/triplecore/triplecore/query/PatternQueue", "poll", "()I"⟩ : MethodName)) (a := a1) (pc' := 128) (k' := 4) (n' := 13) (S := []) (as := []) C at_125 rfl (hw _ (List.mem_of_getElem? (i := 48) rfl)) (hw _ (List.mem_of_getElem? (i := 50) rfl)) (hw _ (List.mem_of_getElem? (i := 2) rfl)) (hw _ (List.mem_of_getElem? (i := 52) rfl)) (hw _ (List.mem_of_getElem? (i := 49) rfl)) (hw _ (List.mem_of_getElem? (i := 51) rfl)) (by decide) B.exa (lenOf pd_6 rfl) (con_poll_G_2 W.l Z a0 hw a1 b1 b2 b3 q01 q02 q03 q12 q13 q23 h4 B) rfl rfl (Nat.le_of_ble_eq_true rfl) (Nat.le_of_ble_eq_true rfl) rfl rfl (Nat.le_of_ble_eq_true rfl) (Nat.le_of_ble_eq_true rfl) (allS w_a1 (allS w_b1 (allS w_b2 all0))) fun vh6 h6 qh6 Kh6 => ?_
          rcases qh6 with ⟨rfl, B⟩
          ·
            show Go W Q h6 4 13 128 #[.val (.int p0), .val (.int p1), .val (.int p2), .val (.int p3), .val (.int p4), .val (.ref a1), .val (.int (0 : Int32)), .val (.int (0 : Int32)), .val (.int (1 : Int32)), .val (.int (1 : Int32)), .val (.int (1 : Int32)), .val (.int (-1 : Int32)), .val (.int (-1 : Int32)), .val (.int (-1 : Int32)), .unset, .unset, .unset] [(.int (2 : Int32))]
            refine g_istore (pc' := 130) (L' := #[.val (.int p0), .val (.int p1), .val (.int p2), .val (.int p3), .val (.int p4), .val (.ref a1), .val (.int (0 : Int32)), .val (.int (0 : Int32)), .val (.int (1 : Int32)), .val (.int (1 : Int32)), .val (.int (1 : Int32)), .val (.int (2 : Int32)), .val (.int (-1 : Int32)), .val (.int (-1 : Int32)), .unset, .unset, .unset]) C at_128 rfl rfl ?_
            refine g_iload (pc' := 132) C at_130 rfl rfl ?_
            refine g_iconst (pc' := 133) (z := (2 : Int32)) C at_132 rfl rfl ?_
            refine g_icmpY (xi := 1) (yi := 2) (pc1 := 143) C at_133 (by decide) rfl rfl rfl (by decide) ?_
            refine g_iload (pc' := 145) C at_143 rfl rfl ?_
            refine g_iconst (pc' := 146) (z := (3 : Int32)) C at_145 rfl rfl ?_
            refine g_icmpY (xi := 1) (yi := 3) (pc1 := 156) C at_146 (by decide) rfl rfl rfl (by decide) ?_
            refine g_iload (pc' := 158) C at_156 rfl rfl ?_
            refine g_ifY (xi := 0) (pc1 := 180) C at_158 (by decide) rfl rfl (by decide) ?_
            refine g_iconst (pc' := 181) (z := (0 : Int32)) C at_180 rfl rfl ?_
            refine g_istore (pc' := 183) (L' := #[.val (.int p0), .val (.int p1), .val (.int p2), .val (.int p3), .val (.int p4), .val (.ref a1), .val (.int (0 : Int32)), .val (.int (0 : Int32)), .val (.int (1 : Int32)), .val (.int (1 : Int32)), .val (.int (1 : Int32)), .val (.int (2 : Int32)), .val (.int (-1 : Int32)), .val (.int (-1 : Int32)), .val (.int (0 : Int32)), .unset, .unset]) C at_181 rfl rfl ?_
            refine g_iload (pc' := 185) C at_183 rfl rfl ?_
            refine g_ifY (xi := 0) (pc1 := 210) C at_185 (by decide) rfl rfl (by decide) ?_
            refine g_iconst (pc' := 211) (z := (0 : Int32)) C at_210 rfl rfl ?_
            refine g_istore (pc' := 213) (L' := #[.val (.int p0), .val (.int p1), .val (.int p2), .val (.int p3), .val (.int p4), .val (.ref a1), .val (.int (0 : Int32)), .val (.int (0 : Int32)), .val (.int (1 : Int32)), .val (.int (1 : Int32)), .val (.int (1 : Int32)), .val (.int (2 : Int32)), .val (.int (-1 : Int32)), .val (.int (-1 : Int32)), .val (.int (0 : Int32)), .val (.int (0 : Int32)), .unset]) C at_211 rfl rfl ?_
            refine g_iload (pc' := 215) C at_213 rfl rfl ?_
            refine g_ifN (xi := 1) (pc2 := 218) C at_215 rfl rfl (by decide) ?_
            refine g_iload (pc' := 220) C at_218 rfl rfl ?_
            refine g_iconst (pc' := 221) (z := (2 : Int32)) C at_220 rfl rfl ?_
            refine g_icmpY (xi := 2) (yi := 2) (pc1 := 240) C at_221 (by decide) rfl rfl rfl (by decide) ?_
            refine g_iconst (pc' := 241) (z := (0 : Int32)) C at_240 rfl rfl ?_
            refine g_istore (pc' := 243) (L' := #[.val (.int p0), .val (.int p1), .val (.int p2), .val (.int p3), .val (.int p4), .val (.ref a1), .val (.int (0 : Int32)), .val (.int (0 : Int32)), .val (.int (1 : Int32)), .val (.int (1 : Int32)), .val (.int (1 : Int32)), .val (.int (2 : Int32)), .val (.int (-1 : Int32)), .val (.int (-1 : Int32)), .val (.int (0 : Int32)), .val (.int (0 : Int32)), .val (.int (0 : Int32))]) C at_241 rfl rfl ?_
            refine g_aload (pc' := 245) C at_243 rfl rfl rfl ?_
            refine g_iconst (pc' := 246) (z := (0 : Int32)) C at_245 rfl rfl ?_
            obtain ⟨x0, x1, x2, l0, l1, l2, c0, c1, c2, g, O, A1, A2, A3⟩ := B
            have gs : l0.toInt < 0 ∧ l1.toInt < 0 ∧ l2.toInt < 0 := by
              rcases g with ⟨rfl, rfl, rfl⟩ <;> decide
            refine g_virtualP (y := (⟨"com/example/triplecore/triplecore/query/PatternQueue", "contains", "(I)Z"⟩ : MethodName)) (a := a1) (pc' := 249) (k' := 4) (n' := 13) (S := []) (as := [(.int (0 : Int32))]) C at_246 rfl (hw _ (List.mem_of_getElem? (i := 24) rfl)) (hw _ (List.mem_of_getElem? (i := 26) rfl)) (hw _ (List.mem_of_getElem? (i := 2) rfl)) (hw _ (List.mem_of_getElem? (i := 28) rfl)) (hw _ (List.mem_of_getElem? (i := 25) rfl)) (hw _ (List.mem_of_getElem? (i := 27) rfl)) (by decide) O.1 (lenOf pd_5 rfl) (con_has0 W.l Z a0 hw a1 b1 b2 b3 (0 : Int32) (0 : Int32) l0 0 _ rfl rfl gs.1 h6 O A2) rfl rfl (Nat.le_of_ble_eq_true rfl) (Nat.le_of_ble_eq_true rfl) rfl rfl (Nat.le_of_ble_eq_true rfl) (Nat.le_of_ble_eq_true rfl) (S1 := [(.int (0 : Int32))]) rfl ?_
            refine g_iload (pc' := 251) C at_249 rfl rfl ?_
            refine g_icmpN (xi := 0) (yi := 0) (pc2 := 254) C at_251 rfl rfl rfl (by decide) ?_
            refine g_aload (pc' := 256) C at_254 rfl rfl rfl ?_
            refine g_iconst (pc' := 257) (z := (1 : Int32)) C at_256 rfl rfl ?_
            refine g_virtualP (y := (⟨"com/example/triplecore/triplecore/query/PatternQueue", "contains", "(I)Z"⟩ : MethodName)) (a := a1) (pc' := 260) (k' := 4) (n' := 13) (S := []) (as := [(.int (1 : Int32))]) C at_257 rfl (hw _ (List.mem_of_getElem? (i := 24) rfl)) (hw _ (List.mem_of_getElem? (i := 26) rfl)) (hw _ (List.mem_of_getElem? (i := 2) rfl)) (hw _ (List.mem_of_getElem? (i := 28) rfl)) (hw _ (List.mem_of_getElem? (i := 25) rfl)) (hw _ (List.mem_of_getElem? (i := 27) rfl)) (by decide) O.1 (lenOf pd_5 rfl) (con_has0 W.l Z a0 hw a1 b1 b2 b3 (0 : Int32) (1 : Int32) l1 1 _ rfl rfl gs.2.1 h6 O A2) rfl rfl (Nat.le_of_ble_eq_true rfl) (Nat.le_of_ble_eq_true rfl) rfl rfl (Nat.le_of_ble_eq_true rfl) (Nat.le_of_ble_eq_true rfl) (S1 := [(.int (0 : Int32))]) rfl ?_
            refine g_iload (pc' := 262) C at_260 rfl rfl ?_
            refine g_icmpN (xi := 0) (yi := 0) (pc2 := 265) C at_262 rfl rfl rfl (by decide) ?_
            refine g_aload (pc' := 267) C at_265 rfl rfl rfl ?_
            refine g_iconst (pc' := 268) (z := (2 : Int32)) C at_267 rfl rfl ?_
            refine g_virtualP (y := (⟨"com/example/triplecore/triplecore/query/PatternQueue", "contains", "(I)Z"⟩ : MethodName)) (a := a1) (pc' := 271) (k' := 4) (n' := 13) (S := []) (as := [(.int (2 : Int32))]) C at_268 rfl (hw _ (List.mem_of_getElem? (i := 24) rfl)) (hw _ (List.mem_of_getElem? (i := 26) rfl)) (hw _ (List.mem_of_getElem? (i := 2) rfl)) (hw _ (List.mem_of_getElem? (i := 28) rfl)) (hw _ (List.mem_of_getElem? (i := 25) rfl)) (hw _ (List.mem_of_getElem? (i := 27) rfl)) (by decide) O.1 (lenOf pd_5 rfl) (con_has0 W.l Z a0 hw a1 b1 b2 b3 (0 : Int32) (2 : Int32) l2 2 _ rfl rfl gs.2.2 h6 O A2) rfl rfl (Nat.le_of_ble_eq_true rfl) (Nat.le_of_ble_eq_true rfl) rfl rfl (Nat.le_of_ble_eq_true rfl) (Nat.le_of_ble_eq_true rfl) (S1 := [(.int (0 : Int32))]) rfl ?_
            refine g_iload (pc' := 273) C at_271 rfl rfl ?_
            refine g_icmpN (xi := 0) (yi := 0) (pc2 := 276) C at_273 rfl rfl rfl (by decide) ?_
            refine g_iconst (pc' := 277) (z := (1 : Int32)) C at_276 rfl rfl ?_
            refine g_goto C at_277 (by decide) (pc' := 281) rfl ?_
            refine g_retN C (by simp) at_281 (by decide) (by decide) ?_
            subst hQ
            rfl
    ·
      refine g_iload (pc' := 69) C at_67 rfl rfl ?_
      refine g_ifN (xi := 1) (pc2 := 72) C at_69 rfl rfl (by decide) ?_
      refine g_aload (pc' := 74) C at_72 rfl rfl rfl ?_
      refine g_iconst (pc' := 75) (z := (1 : Int32)) C at_74 rfl rfl ?_
      refine g_iloadN (pc' := 76) C at_75 rfl rfl ?_
      refine g_virtual (y := (⟨"com/example/triplecore/triplecore/query/PatternQueue", "add", "(II)V"⟩ : MethodName)) (a := a1) (pc' := 79) (k' := 4) (n' := 13) (S := []) (as := [(.int (1 : Int32)), (.int p2)]) C at_76 rfl (hw _ (List.mem_of_getElem? (i := 29) rfl)) (hw _ (List.mem_of_getElem? (i := 31) rfl)) (hw _ (List.mem_of_getElem? (i := 2) rfl)) (hw _ (List.mem_of_getElem? (i := 33) rfl)) (hw _ (List.mem_of_getElem? (i := 30) rfl)) (hw _ (List.mem_of_getElem? (i := 32) rfl)) (by decide) B.exa (lenOf pd_0 rfl) (con_add_G_e_1 W.l Z a0 hw a1 b1 b2 b3 p2 q01 q02 q03 q12 q13 q23 h2 B) rfl rfl (Nat.le_of_ble_eq_true rfl) (Nat.le_of_ble_eq_true rfl) rfl rfl (Nat.le_of_ble_eq_true rfl) (Nat.le_of_ble_eq_true rfl) (allS w_a1 (allS w_b1 (allS w_b2 (allS w_b3 all0)))) fun vh7 h7 qh7 Kh7 => ?_
      obtain ⟨rfl, B⟩ := qh7
      show Go W Q h7 4 13 79 #[.val (.int p0), .val (.int p1), .val (.int p2), .val (.int p3), .val (.int p4), .val (.ref a1), .val (.int (0 : Int32)), .val (.int (1 : Int32)), .val (.int z4), .val (.int (0 : Int32)), .unset, .unset, .unset, .unset, .unset, .unset, .unset] []
      refine g_iinc (pc' := 82) (z := (1 : Int32)) (L' := #[.val (.int p0), .val (.int p1), .val (.int p2), .val (.int p3), .val (.int p4), .val (.ref a1), .val (.int (0 : Int32)), .val (.int (1 : Int32)), .val (.int z4), .val (.int (1 : Int32)), .unset, .unset, .unset, .unset, .unset, .unset, .unset]) C at_79 rfl rfl rfl rfl ?_
      have sp_z4 : z4 = 0 ∨ z4 = 1 := by
        rw [e_z4]
        unfold b2i
        split
        · exact Or.inr rfl
        · exact Or.inl rfl
      clear e_z4
      rcases sp_z4 with sp_z4 | sp_z4 <;> subst sp_z4
      ·
        refine g_iload (pc' := 84) C at_82 rfl rfl ?_
        refine g_ifY (xi := 0) (pc1 := 97) C at_84 (by decide) rfl rfl (by decide) ?_
        refine g_iload (pc' := 99) C at_97 rfl rfl ?_
        refine g_iconst (pc' := 100) (z := (3 : Int32)) C at_99 rfl rfl ?_
        refine g_iand (pc' := 101) C at_100 rfl ?_
        refine g_iload (pc' := 103) C at_101 rfl rfl ?_
        refine g_static (y := (⟨"java/lang/Math", "min", "(II)I"⟩ : MethodName)) (pc' := 106) (k' := 4) (n' := 13) (S := []) (as := [(.int (p4 &&& (3 : Int32))), (.int (1 : Int32))]) C at_103 rfl (hw _ (List.mem_of_getElem? (i := 20) rfl)) (hw _ (List.mem_of_getElem? (i := 21) rfl)) (hw _ (List.mem_of_getElem? (i := 22) rfl)) (hw _ (List.mem_of_getElem? (i := 23) rfl)) (by decide) (lenOf pd_4 rfl) (con_min W.l Z a0 hw (p4 &&& (3 : Int32)) (1 : Int32) h7) rfl rfl (Nat.le_of_ble_eq_true rfl) (Nat.le_of_ble_eq_true rfl) rfl rfl (Nat.le_of_ble_eq_true rfl) (Nat.le_of_ble_eq_true rfl) all0 fun vh8 h8 qh8 Kh8 => ?_
        obtain ⟨kk, rfl, eh, e_kk⟩ := qh8
        subst eh
        show Go W Q h7 4 13 106 #[.val (.int p0), .val (.int p1), .val (.int p2), .val (.int p3), .val (.int p4), .val (.ref a1), .val (.int (0 : Int32)), .val (.int (1 : Int32)), .val (.int (0 : Int32)), .val (.int (1 : Int32)), .unset, .unset, .unset, .unset, .unset, .unset, .unset] [(.int kk)]
        refine g_istore (pc' := 108) (L' := #[.val (.int p0), .val (.int p1), .val (.int p2), .val (.int p3), .val (.int p4), .val (.ref a1), .val (.int (0 : Int32)), .val (.int (1 : Int32)), .val (.int (0 : Int32)), .val (.int (1 : Int32)), .val (.int kk), .unset, .unset, .unset, .unset, .unset, .unset]) C at_106 rfl rfl ?_
        have sp_kk : kk = 0 ∨ kk = 1 := by
          have y1 := c_mask p4 3 2 (by decide) (by decide)
          have z0 : (0 : Int32).toInt = 0 := rfl
          have z1 : (1 : Int32).toInt = 1 := rfl
          have z2 : (2 : Int32).toInt = 2 := rfl
          have z3 : (3 : Int32).toInt = 3 := rfl
          rcases (by omega : kk.toInt = 0 ∨ kk.toInt = 1) with y | y
          · exact Or.inl (Int32.toInt_inj.mp (by omega))
          · exact Or.inr (Int32.toInt_inj.mp (by omega))
        clear e_kk
        rcases sp_kk with sp_kk | sp_kk <;> subst sp_kk
        ·
          refine g_iconst (pc' := 109) (z := (-1 : Int32)) C at_108 rfl rfl ?_
          refine g_istore (pc' := 111) (L' := #[.val (.int p0), .val (.int p1), .val (.int p2), .val (.int p3), .val (.int p4), .val (.ref a1), .val (.int (0 : Int32)), .val (.int (1 : Int32)), .val (.int (0 : Int32)), .val (.int (1 : Int32)), .val (.int (0 : Int32)), .val (.int (-1 : Int32)), .unset, .unset, .unset, .unset, .unset]) C at_109 rfl rfl ?_
          refine g_iconst (pc' := 112) (z := (-1 : Int32)) C at_111 rfl rfl ?_
          refine g_istore (pc' := 114) (L' := #[.val (.int p0), .val (.int p1), .val (.int p2), .val (.int p3), .val (.int p4), .val (.ref a1), .val (.int (0 : Int32)), .val (.int (1 : Int32)), .val (.int (0 : Int32)), .val (.int (1 : Int32)), .val (.int (0 : Int32)), .val (.int (-1 : Int32)), .val (.int (-1 : Int32)), .unset, .unset, .unset, .unset]) C at_112 rfl rfl ?_
          refine g_iconst (pc' := 115) (z := (-1 : Int32)) C at_114 rfl rfl ?_
          refine g_istore (pc' := 117) (L' := #[.val (.int p0), .val (.int p1), .val (.int p2), .val (.int p3), .val (.int p4), .val (.ref a1), .val (.int (0 : Int32)), .val (.int (1 : Int32)), .val (.int (0 : Int32)), .val (.int (1 : Int32)), .val (.int (0 : Int32)), .val (.int (-1 : Int32)), .val (.int (-1 : Int32)), .val (.int (-1 : Int32)), .unset, .unset, .unset]) C at_115 rfl rfl ?_
          refine g_iload (pc' := 119) C at_117 rfl rfl ?_
          refine g_iconst (pc' := 120) (z := (1 : Int32)) C at_119 rfl rfl ?_
          refine g_icmpY (xi := 0) (yi := 1) (pc1 := 130) C at_120 (by decide) rfl rfl rfl (by decide) ?_
          refine g_iload (pc' := 132) C at_130 rfl rfl ?_
          refine g_iconst (pc' := 133) (z := (2 : Int32)) C at_132 rfl rfl ?_
          refine g_icmpY (xi := 0) (yi := 2) (pc1 := 143) C at_133 (by decide) rfl rfl rfl (by decide) ?_
          refine g_iload (pc' := 145) C at_143 rfl rfl ?_
          refine g_iconst (pc' := 146) (z := (3 : Int32)) C at_145 rfl rfl ?_
          refine g_icmpY (xi := 0) (yi := 3) (pc1 := 156) C at_146 (by decide) rfl rfl rfl (by decide) ?_
          refine g_iload (pc' := 158) C at_156 rfl rfl ?_
          refine g_ifY (xi := 0) (pc1 := 180) C at_158 (by decide) rfl rfl (by decide) ?_
          refine g_iconst (pc' := 181) (z := (0 : Int32)) C at_180 rfl rfl ?_
          refine g_istore (pc' := 183) (L' := #[.val (.int p0), .val (.int p1), .val (.int p2), .val (.int p3), .val (.int p4), .val (.ref a1), .val (.int (0 : Int32)), .val (.int (1 : Int32)), .val (.int (0 : Int32)), .val (.int (1 : Int32)), .val (.int (0 : Int32)), .val (.int (-1 : Int32)), .val (.int (-1 : Int32)), .val (.int (-1 : Int32)), .val (.int (0 : Int32)), .unset, .unset]) C at_181 rfl rfl ?_
          refine g_iload (pc' := 185) C at_183 rfl rfl ?_
          refine g_ifN (xi := 1) (pc2 := 188) C at_185 rfl rfl (by decide) ?_
          refine g_iload (pc' := 190) C at_188 rfl rfl ?_
          refine g_iconst (pc' := 191) (z := (1 : Int32)) C at_190 rfl rfl ?_
          refine g_icmpN (xi := -1) (yi := 1) (pc2 := 194) C at_191 rfl rfl rfl (by decide) ?_
          refine g_iload (pc' := 196) C at_194 rfl rfl ?_
          refine g_iconst (pc' := 197) (z := (1 : Int32)) C at_196 rfl rfl ?_
          refine g_icmpN (xi := -1) (yi := 1) (pc2 := 200) C at_197 rfl rfl rfl (by decide) ?_
          refine g_iload (pc' := 202) C at_200 rfl rfl ?_
          refine g_iconst (pc' := 203) (z := (1 : Int32)) C at_202 rfl rfl ?_
          refine g_icmpN (xi := -1) (yi := 1) (pc2 := 206) C at_203 rfl rfl rfl (by decide) ?_
          refine g_iconst (pc' := 207) (z := (1 : Int32)) C at_206 rfl rfl ?_
          refine g_goto C at_207 (by decide) (pc' := 211) rfl ?_
          refine g_istore (pc' := 213) (L' := #[.val (.int p0), .val (.int p1), .val (.int p2), .val (.int p3), .val (.int p4), .val (.ref a1), .val (.int (0 : Int32)), .val (.int (1 : Int32)), .val (.int (0 : Int32)), .val (.int (1 : Int32)), .val (.int (0 : Int32)), .val (.int (-1 : Int32)), .val (.int (-1 : Int32)), .val (.int (-1 : Int32)), .val (.int (0 : Int32)), .val (.int (1 : Int32)), .unset]) C at_211 rfl rfl ?_
          refine g_iload (pc' := 215) C at_213 rfl rfl ?_
          refine g_ifY (xi := 0) (pc1 := 240) C at_215 (by decide) rfl rfl (by decide) ?_
          refine g_iconst (pc' := 241) (z := (0 : Int32)) C at_240 rfl rfl ?_
          refine g_istore (pc' := 243) (L' := #[.val (.int p0), .val (.int p1), .val (.int p2), .val (.int p3), .val (.int p4), .val (.ref a1), .val (.int (0 : Int32)), .val (.int (1 : Int32)), .val (.int (0 : Int32)), .val (.int (1 : Int32)), .val (.int (0 : Int32)), .val (.int (-1 : Int32)), .val (.int (-1 : Int32)), .val (.int (-1 : Int32)), .val (.int (0 : Int32)), .val (.int (1 : Int32)), .val (.int (0 : Int32))]) C at_241 rfl rfl ?_
          refine g_aload (pc' := 245) C at_243 rfl rfl rfl ?_
          refine g_iconst (pc' := 246) (z := (0 : Int32)) C at_245 rfl rfl ?_
          obtain ⟨x0, x1, x2, l0, l1, l2, c0, c1, c2, g, O, A1, A2, A3⟩ := B
          have gs : l0.toInt < 0 ∧ ¬ l1.toInt < 0 ∧ l2.toInt < 0 := by
            rcases g with ⟨rfl, rfl, rfl, rfl⟩ <;> decide
          refine g_virtualP (y := (⟨"com/example/triplecore/triplecore/query/PatternQueue", "contains", "(I)Z"⟩ : MethodName)) (a := a1) (pc' := 249) (k' := 4) (n' := 13) (S := []) (as := [(.int (0 : Int32))]) C at_246 rfl (hw _ (List.mem_of_getElem? (i := 24) rfl)) (hw _ (List.mem_of_getElem? (i := 26) rfl)) (hw _ (List.mem_of_getElem? (i := 2) rfl)) (hw _ (List.mem_of_getElem? (i := 28) rfl)) (hw _ (List.mem_of_getElem? (i := 25) rfl)) (hw _ (List.mem_of_getElem? (i := 27) rfl)) (by decide) O.1 (lenOf pd_5 rfl) (con_has0 W.l Z a0 hw a1 b1 b2 b3 (1 : Int32) (0 : Int32) l0 0 _ rfl rfl gs.1 h7 O A2) rfl rfl (Nat.le_of_ble_eq_true rfl) (Nat.le_of_ble_eq_true rfl) rfl rfl (Nat.le_of_ble_eq_true rfl) (Nat.le_of_ble_eq_true rfl) (S1 := [(.int (0 : Int32))]) rfl ?_
          refine g_iload (pc' := 251) C at_249 rfl rfl ?_
          refine g_icmpN (xi := 0) (yi := 0) (pc2 := 254) C at_251 rfl rfl rfl (by decide) ?_
          refine g_aload (pc' := 256) C at_254 rfl rfl rfl ?_
          refine g_iconst (pc' := 257) (z := (1 : Int32)) C at_256 rfl rfl ?_
          refine g_virtualP (y := (⟨"com/example/triplecore/triplecore/query/PatternQueue", "contains", "(I)Z"⟩ : MethodName)) (a := a1) (pc' := 260) (k' := 4) (n' := 13) (S := []) (as := [(.int (1 : Int32))]) C at_257 rfl (hw _ (List.mem_of_getElem? (i := 24) rfl)) (hw _ (List.mem_of_getElem? (i := 26) rfl)) (hw _ (List.mem_of_getElem? (i := 2) rfl)) (hw _ (List.mem_of_getElem? (i := 28) rfl)) (hw _ (List.mem_of_getElem? (i := 25) rfl)) (hw _ (List.mem_of_getElem? (i := 27) rfl)) (by decide) O.1 (lenOf pd_5 rfl) (con_has1 W.l Z a0 hw a1 b1 b2 b3 (1 : Int32) (1 : Int32) l1 1 _ rfl rfl gs.2.1 h7 O A2) rfl rfl (Nat.le_of_ble_eq_true rfl) (Nat.le_of_ble_eq_true rfl) rfl rfl (Nat.le_of_ble_eq_true rfl) (Nat.le_of_ble_eq_true rfl) (S1 := [(.int (1 : Int32))]) rfl ?_
          refine g_iload (pc' := 262) C at_260 rfl rfl ?_
          refine g_icmpN (xi := 1) (yi := 1) (pc2 := 265) C at_262 rfl rfl rfl (by decide) ?_
          refine g_aload (pc' := 267) C at_265 rfl rfl rfl ?_
          refine g_iconst (pc' := 268) (z := (2 : Int32)) C at_267 rfl rfl ?_
          refine g_virtualP (y := (⟨"com/example/triplecore/triplecore/query/PatternQueue", "contains", "(I)Z"⟩ : MethodName)) (a := a1) (pc' := 271) (k' := 4) (n' := 13) (S := []) (as := [(.int (2 : Int32))]) C at_268 rfl (hw _ (List.mem_of_getElem? (i := 24) rfl)) (hw _ (List.mem_of_getElem? (i := 26) rfl)) (hw _ (List.mem_of_getElem? (i := 2) rfl)) (hw _ (List.mem_of_getElem? (i := 28) rfl)) (hw _ (List.mem_of_getElem? (i := 25) rfl)) (hw _ (List.mem_of_getElem? (i := 27) rfl)) (by decide) O.1 (lenOf pd_5 rfl) (con_has0 W.l Z a0 hw a1 b1 b2 b3 (1 : Int32) (2 : Int32) l2 2 _ rfl rfl gs.2.2 h7 O A2) rfl rfl (Nat.le_of_ble_eq_true rfl) (Nat.le_of_ble_eq_true rfl) rfl rfl (Nat.le_of_ble_eq_true rfl) (Nat.le_of_ble_eq_true rfl) (S1 := [(.int (0 : Int32))]) rfl ?_
          refine g_iload (pc' := 273) C at_271 rfl rfl ?_
          refine g_icmpN (xi := 0) (yi := 0) (pc2 := 276) C at_273 rfl rfl rfl (by decide) ?_
          refine g_iconst (pc' := 277) (z := (1 : Int32)) C at_276 rfl rfl ?_
          refine g_goto C at_277 (by decide) (pc' := 281) rfl ?_
          refine g_retN C (by simp) at_281 (by decide) (by decide) ?_
          subst hQ
          rfl
        ·
          refine g_iconst (pc' := 109) (z := (-1 : Int32)) C at_108 rfl rfl ?_
          refine g_istore (pc' := 111) (L' := #[.val (.int p0), .val (.int p1), .val (.int p2), .val (.int p3), .val (.int p4), .val (.ref a1), .val (.int (0 : Int32)), .val (.int (1 : Int32)), .val (.int (0 : Int32)), .val (.int (1 : Int32)), .val (.int (1 : Int32)), .val (.int (-1 : Int32)), .unset, .unset, .unset, .unset, .unset]) C at_109 rfl rfl ?_
          refine g_iconst (pc' := 112) (z := (-1 : Int32)) C at_111 rfl rfl ?_
          refine g_istore (pc' := 114) (L' := #[.val (.int p0), .val (.int p1), .val (.int p2), .val (.int p3), .val (.int p4), .val (.ref a1), .val (.int (0 : Int32)), .val (.int (1 : Int32)), .val (.int (0 : Int32)), .val (.int (1 : Int32)), .val (.int (1 : Int32)), .val (.int (-1 : Int32)), .val (.int (-1 : Int32)), .unset, .unset, .unset, .unset]) C at_112 rfl rfl ?_
          refine g_iconst (pc' := 115) (z := (-1 : Int32)) C at_114 rfl rfl ?_
          refine g_istore (pc' := 117) (L' := #[.val (.int p0), .val (.int p1), .val (.int p2), .val (.int p3), .val (.int p4), .val (.ref a1), .val (.int (0 : Int32)), .val (.int (1 : Int32)), .val (.int (0 : Int32)), .val (.int (1 : Int32)), .val (.int (1 : Int32)), .val (.int (-1 : Int32)), .val (.int (-1 : Int32)), .val (.int (-1 : Int32)), .unset, .unset, .unset]) C at_115 rfl rfl ?_
          refine g_iload (pc' := 119) C at_117 rfl rfl ?_
          refine g_iconst (pc' := 120) (z := (1 : Int32)) C at_119 rfl rfl ?_
          refine g_icmpN (xi := 1) (yi := 1) (pc2 := 123) C at_120 rfl rfl rfl (by decide) ?_
          refine g_aload (pc' := 125) C at_123 rfl rfl rfl ?_
          refine g_virtual (y := (⟨"com/example/triplecore/triplecore/query/PatternQueue", "poll", "()I"⟩ : MethodName)) (a := a1) (pc' := 128) (k' := 4) (n' := 13) (S := []) (as := []) C at_125 rfl (hw _ (List.mem_of_getElem? (i := 48) rfl)) (hw _ (List.mem_of_getElem? (i := 50) rfl)) (hw _ (List.mem_of_getElem? (i := 2) rfl)) (hw _ (List.mem_of_getElem? (i := 52) rfl)) (hw _ (List.mem_of_getElem? (i := 49) rfl)) (hw _ (List.mem_of_getElem? (i := 51) rfl)) (by decide) B.exa (lenOf pd_6 rfl) (con_poll_G_1 W.l Z a0 hw a1 b1 b2 b3 q01 q02 q03 q12 q13 q23 h7 B) rfl rfl (Nat.le_of_ble_eq_true rfl) (Nat.le_of_ble_eq_true rfl) rfl rfl (Nat.le_of_ble_eq_true rfl) (Nat.le_of_ble_eq_true rfl) (allS w_a1 (allS w_b1 (allS w_b2 all0))) fun vh9 h9 qh9 Kh9 => ?_
          rcases qh9 with ⟨rfl, B⟩
          ·
            show Go W Q h9 4 13 128 #[.val (.int p0), .val (.int p1), .val (.int p2), .val (.int p3), .val (.int p4), .val (.ref a1), .val (.int (0 : Int32)), .val (.int (1 : Int32)), .val (.int (0 : Int32)), .val (.int (1 : Int32)), .val (.int (1 : Int32)), .val (.int (-1 : Int32)), .val (.int (-1 : Int32)), .val (.int (-1 : Int32)), .unset, .unset, .unset] [(.int (1 : Int32))]
            refine g_istore (pc' := 130) (L' := #[.val (.int p0), .val (.int p1), .val (.int p2), .val (.int p3), .val (.int p4), .val (.ref a1), .val (.int (0 : Int32)), .val (.int (1 : Int32)), .val (.int (0 : Int32)), .val (.int (1 : Int32)), .val (.int (1 : Int32)), .val (.int (1 : Int32)), .val (.int (-1 : Int32)), .val (.int (-1 : Int32)), .unset, .unset, .unset]) C at_128 rfl rfl ?_
            refine g_iload (pc' := 132) C at_130 rfl rfl ?_
            refine g_iconst (pc' := 133) (z := (2 : Int32)) C at_132 rfl rfl ?_
            refine g_icmpY (xi := 1) (yi := 2) (pc1 := 143) C at_133 (by decide) rfl rfl rfl (by decide) ?_
            refine g_iload (pc' := 145) C at_143 rfl rfl ?_
            refine g_iconst (pc' := 146) (z := (3 : Int32)) C at_145 rfl rfl ?_
            refine g_icmpY (xi := 1) (yi := 3) (pc1 := 156) C at_146 (by decide) rfl rfl rfl (by decide) ?_
            refine g_iload (pc' := 158) C at_156 rfl rfl ?_
            refine g_ifY (xi := 0) (pc1 := 180) C at_158 (by decide) rfl rfl (by decide) ?_
            refine g_iconst (pc' := 181) (z := (0 : Int32)) C at_180 rfl rfl ?_
            refine g_istore (pc' := 183) (L' := #[.val (.int p0), .val (.int p1), .val (.int p2), .val (.int p3), .val (.int p4), .val (.ref a1), .val (.int (0 : Int32)), .val (.int (1 : Int32)), .val (.int (0 : Int32)), .val (.int (1 : Int32)), .val (.int (1 : Int32)), .val (.int (1 : Int32)), .val (.int (-1 : Int32)), .val (.int (-1 : Int32)), .val (.int (0 : Int32)), .unset, .unset]) C at_181 rfl rfl ?_
            refine g_iload (pc' := 185) C at_183 rfl rfl ?_
            refine g_ifN (xi := 1) (pc2 := 188) C at_185 rfl rfl (by decide) ?_
            refine g_iload (pc' := 190) C at_188 rfl rfl ?_
            refine g_iconst (pc' := 191) (z := (1 : Int32)) C at_190 rfl rfl ?_
            refine g_icmpY (xi := 1) (yi := 1) (pc1 := 210) C at_191 (by decide) rfl rfl rfl (by decide) ?_
            refine g_iconst (pc' := 211) (z := (0 : Int32)) C at_210 rfl rfl ?_
            refine g_istore (pc' := 213) (L' := #[.val (.int p0), .val (.int p1), .val (.int p2), .val (.int p3), .val (.int p4), .val (.ref a1), .val (.int (0 : Int32)), .val (.int (1 : Int32)), .val (.int (0 : Int32)), .val (.int (1 : Int32)), .val (.int (1 : Int32)), .val (.int (1 : Int32)), .val (.int (-1 : Int32)), .val (.int (-1 : Int32)), .val (.int (0 : Int32)), .val (.int (0 : Int32)), .unset]) C at_211 rfl rfl ?_
            refine g_iload (pc' := 215) C at_213 rfl rfl ?_
            refine g_ifY (xi := 0) (pc1 := 240) C at_215 (by decide) rfl rfl (by decide) ?_
            refine g_iconst (pc' := 241) (z := (0 : Int32)) C at_240 rfl rfl ?_
            refine g_istore (pc' := 243) (L' := #[.val (.int p0), .val (.int p1), .val (.int p2), .val (.int p3), .val (.int p4), .val (.ref a1), .val (.int (0 : Int32)), .val (.int (1 : Int32)), .val (.int (0 : Int32)), .val (.int (1 : Int32)), .val (.int (1 : Int32)), .val (.int (1 : Int32)), .val (.int (-1 : Int32)), .val (.int (-1 : Int32)), .val (.int (0 : Int32)), .val (.int (0 : Int32)), .val (.int (0 : Int32))]) C at_241 rfl rfl ?_
            refine g_aload (pc' := 245) C at_243 rfl rfl rfl ?_
            refine g_iconst (pc' := 246) (z := (0 : Int32)) C at_245 rfl rfl ?_
            obtain ⟨x0, x1, x2, l0, l1, l2, c0, c1, c2, g, O, A1, A2, A3⟩ := B
            have gs : l0.toInt < 0 ∧ l1.toInt < 0 ∧ l2.toInt < 0 := by
              rcases g with ⟨rfl, rfl, rfl⟩ <;> decide
            refine g_virtualP (y := (⟨"com/example/triplecore/triplecore/query/PatternQueue", "contains", "(I)Z"⟩ : MethodName)) (a := a1) (pc' := 249) (k' := 4) (n' := 13) (S := []) (as := [(.int (0 : Int32))]) C at_246 rfl (hw _ (List.mem_of_getElem? (i := 24) rfl)) (hw _ (List.mem_of_getElem? (i := 26) rfl)) (hw _ (List.mem_of_getElem? (i := 2) rfl)) (hw _ (List.mem_of_getElem? (i := 28) rfl)) (hw _ (List.mem_of_getElem? (i := 25) rfl)) (hw _ (List.mem_of_getElem? (i := 27) rfl)) (by decide) O.1 (lenOf pd_5 rfl) (con_has0 W.l Z a0 hw a1 b1 b2 b3 (0 : Int32) (0 : Int32) l0 0 _ rfl rfl gs.1 h9 O A2) rfl rfl (Nat.le_of_ble_eq_true rfl) (Nat.le_of_ble_eq_true rfl) rfl rfl (Nat.le_of_ble_eq_true rfl) (Nat.le_of_ble_eq_true rfl) (S1 := [(.int (0 : Int32))]) rfl ?_
            refine g_iload (pc' := 251) C at_249 rfl rfl ?_
            refine g_icmpN (xi := 0) (yi := 0) (pc2 := 254) C at_251 rfl rfl rfl (by decide) ?_
            refine g_aload (pc' := 256) C at_254 rfl rfl rfl ?_
            refine g_iconst (pc' := 257) (z := (1 : Int32)) C at_256 rfl rfl ?_
            refine g_virtualP (y := (⟨"com/example/triplecore/triplecore/query/PatternQueue", "contains", "(I)Z"⟩ : MethodName)) (a := a1) (pc' := 260) (k' := 4) (n' := 13) (S := []) (as := [(.int (1 : Int32))]) C at_257 rfl (hw _ (List.mem_of_getElem? (i := 24) rfl)) (hw _ (List.mem_of_getElem? (i := 26) rfl)) (hw _ (List.mem_of_getElem? (i := 2) rfl)) (hw _ (List.mem_of_getElem? (i := 28) rfl)) (hw _ (List.mem_of_getElem? (i := 25) rfl)) (hw _ (List.mem_of_getElem? (i := 27) rfl)) (by decide) O.1 (lenOf pd_5 rfl) (con_has0 W.l Z a0 hw a1 b1 b2 b3 (0 : Int32) (1 : Int32) l1 1 _ rfl rfl gs.2.1 h9 O A2) rfl rfl (Nat.le_of_ble_eq_true rfl) (Nat.le_of_ble_eq_true rfl) rfl rfl (Nat.le_of_ble_eq_true rfl) (Nat.le_of_ble_eq_true rfl) (S1 := [(.int (0 : Int32))]) rfl ?_
            refine g_iload (pc' := 262) C at_260 rfl rfl ?_
            refine g_icmpN (xi := 0) (yi := 0) (pc2 := 265) C at_262 rfl rfl rfl (by decide) ?_
            refine g_aload (pc' := 267) C at_265 rfl rfl rfl ?_
            refine g_iconst (pc' := 268) (z := (2 : Int32)) C at_267 rfl rfl ?_
            refine g_virtualP (y := (⟨"com/example/triplecore/triplecore/query/PatternQueue", "contains", "(I)Z"⟩ : MethodName)) (a := a1) (pc' := 271) (k' := 4) (n' := 13) (S := []) (as := [(.int (2 : Int32))]) C at_268 rfl (hw _ (List.mem_of_getElem? (i := 24) rfl)) (hw _ (List.mem_of_getElem? (i := 26) rfl)) (hw _ (List.mem_of_getElem? (i := 2) rfl)) (hw _ (List.mem_of_getElem? (i := 28) rfl)) (hw _ (List.mem_of_getElem? (i := 25) rfl)) (hw _ (List.mem_of_getElem? (i := 27) rfl)) (by decide) O.1 (lenOf pd_5 rfl) (con_has0 W.l Z a0 hw a1 b1 b2 b3 (0 : Int32) (2 : Int32) l2 2 _ rfl rfl gs.2.2 h9 O A2) rfl rfl (Nat.le_of_ble_eq_true rfl) (Nat.le_of_ble_eq_true rfl) rfl rfl (Nat.le_of_ble_eq_true rfl) (Nat.le_of_ble_eq_true rfl) (S1 := [(.int (0 : Int32))]) rfl ?_
            refine g_iload (pc' := 273) C at_271 rfl rfl ?_
            refine g_icmpN (xi := 0) (yi := 0) (pc2 := 276) C at_273 rfl rfl rfl (by decide) ?_
            refine g_iconst (pc' := 277) (z := (1 : Int32)) C at_276 rfl rfl ?_
            refine g_goto C at_277 (by decide) (pc' := 281) rfl ?_
            refine g_retN C (by simp) at_281 (by decide) (by decide) ?_
            subst hQ
            rfl
      ·
        refine g_iload (pc' := 84) C at_82 rfl rfl ?_
        refine g_ifN (xi := 1) (pc2 := 87) C at_84 rfl rfl (by decide) ?_
        refine g_aload (pc' := 89) C at_87 rfl rfl rfl ?_
        refine g_iconst (pc' := 90) (z := (2 : Int32)) C at_89 rfl rfl ?_
        refine g_iloadN (pc' := 91) C at_90 rfl rfl ?_
        refine g_virtual (y := (⟨"com/example/triplecore/triplecore/query/PatternQueue", "add", "(II)V"⟩ : MethodName)) (a := a1) (pc' := 94) (k' := 4) (n' := 13) (S := []) (as := [(.int (2 : Int32)), (.int p3)]) C at_91 rfl (hw _ (List.mem_of_getElem? (i := 29) rfl)) (hw _ (List.mem_of_getElem? (i := 31) rfl)) (hw _ (List.mem_of_getElem? (i := 2) rfl)) (hw _ (List.mem_of_getElem? (i := 33) rfl)) (hw _ (List.mem_of_getElem? (i := 30) rfl)) (hw _ (List.mem_of_getElem? (i := 32) rfl)) (by decide) B.exa (lenOf pd_0 rfl) (con_add_G_1_2 W.l Z a0 hw a1 b1 b2 b3 p3 q01 q02 q03 q12 q13 q23 h7 B) rfl rfl (Nat.le_of_ble_eq_true rfl) (Nat.le_of_ble_eq_true rfl) rfl rfl (Nat.le_of_ble_eq_true rfl) (Nat.le_of_ble_eq_true rfl) (allS w_a1 (allS w_b1 (allS w_b2 (allS w_b3 all0)))) fun vh10 h10 qh10 Kh10 => ?_
        obtain ⟨rfl, B⟩ := qh10
        show Go W Q h10 4 13 94 #[.val (.int p0), .val (.int p1), .val (.int p2), .val (.int p3), .val (.int p4), .val (.ref a1), .val (.int (0 : Int32)), .val (.int (1 : Int32)), .val (.int (1 : Int32)), .val (.int (1 : Int32)), .unset, .unset, .unset, .unset, .unset, .unset, .unset] []
        refine g_iinc (pc' := 97) (z := (2 : Int32)) (L' := #[.val (.int p0), .val (.int p1), .val (.int p2), .val (.int p3), .val (.int p4), .val (.ref a1), .val (.int (0 : Int32)), .val (.int (1 : Int32)), .val (.int (1 : Int32)), .val (.int (2 : Int32)), .unset, .unset, .unset, .unset, .unset, .unset, .unset]) C at_94 rfl rfl rfl rfl ?_
        refine g_iload (pc' := 99) C at_97 rfl rfl ?_
        refine g_iconst (pc' := 100) (z := (3 : Int32)) C at_99 rfl rfl ?_
        refine g_iand (pc' := 101) C at_100 rfl ?_
        refine g_iload (pc' := 103) C at_101 rfl rfl ?_
        refine g_static (y := (⟨"java/lang/Math", "min", "(II)I"⟩ : MethodName)) (pc' := 106) (k' := 4) (n' := 13) (S := []) (as := [(.int (p4 &&& (3 : Int32))), (.int (2 : Int32))]) C at_103 rfl (hw _ (List.mem_of_getElem? (i := 20) rfl)) (hw _ (List.mem_of_getElem? (i := 21) rfl)) (hw _ (List.mem_of_getElem? (i := 22) rfl)) (hw _ (List.mem_of_getElem? (i := 23) rfl)) (by decide) (lenOf pd_4 rfl) (con_min W.l Z a0 hw (p4 &&& (3 : Int32)) (2 : Int32) h10) rfl rfl (Nat.le_of_ble_eq_true rfl) (Nat.le_of_ble_eq_true rfl) rfl rfl (Nat.le_of_ble_eq_true rfl) (Nat.le_of_ble_eq_true rfl) all0 fun vh11 h11 qh11 Kh11 => ?_
        obtain ⟨kk, rfl, eh, e_kk⟩ := qh11
        subst eh
        show Go W Q h10 4 13 106 #[.val (.int p0), .val (.int p1), .val (.int p2), .val (.int p3), .val (.int p4), .val (.ref a1), .val (.int (0 : Int32)), .val (.int (1 : Int32)), .val (.int (1 : Int32)), .val (.int (2 : Int32)), .unset, .unset, .unset, .unset, .unset, .unset, .unset] [(.int kk)]
        refine g_istore (pc' := 108) (L' := #[.val (.int p0), .val (.int p1), .val (.int p2), .val (.int p3), .val (.int p4), .val (.ref a1), .val (.int (0 : Int32)), .val (.int (1 : Int32)), .val (.int (1 : Int32)), .val (.int (2 : Int32)), .val (.int kk), .unset, .unset, .unset, .unset, .unset, .unset]) C at_106 rfl rfl ?_
        have sp_kk : kk = 0 ∨ kk = 1 ∨ kk = 2 := by
          have y1 := c_mask p4 3 2 (by decide) (by decide)
          have z0 : (0 : Int32).toInt = 0 := rfl
          have z1 : (1 : Int32).toInt = 1 := rfl
          have z2 : (2 : Int32).toInt = 2 := rfl
          have z3 : (3 : Int32).toInt = 3 := rfl
          rcases (by omega : kk.toInt = 0 ∨ kk.toInt = 1 ∨ kk.toInt = 2) with y | y | y
          · exact Or.inl (Int32.toInt_inj.mp (by omega))
          · exact Or.inr (Or.inl (Int32.toInt_inj.mp (by omega)))
          · exact Or.inr (Or.inr (Int32.toInt_inj.mp (by omega)))
        clear e_kk
        rcases sp_kk with sp_kk | sp_kk | sp_kk <;> subst sp_kk
        ·
          refine g_iconst (pc' := 109) (z := (-1 : Int32)) C at_108 rfl rfl ?_
          refine g_istore (pc' := 111) (L' := #[.val (.int p0), .val (.int p1), .val (.int p2), .val (.int p3), .val (.int p4), .val (.ref a1), .val (.int (0 : Int32)), .val (.int (1 : Int32)), .val (.int (1 : Int32)), .val (.int (2 : Int32)), .val (.int (0 : Int32)), .val (.int (-1 : Int32)), .unset, .unset, .unset, .unset, .unset]) C at_109 rfl rfl ?_
          refine g_iconst (pc' := 112) (z := (-1 : Int32)) C at_111 rfl rfl ?_
          refine g_istore (pc' := 114) (L' := #[.val (.int p0), .val (.int p1), .val (.int p2), .val (.int p3), .val (.int p4), .val (.ref a1), .val (.int (0 : Int32)), .val (.int (1 : Int32)), .val (.int (1 : Int32)), .val (.int (2 : Int32)), .val (.int (0 : Int32)), .val (.int (-1 : Int32)), .val (.int (-1 : Int32)), .unset, .unset, .unset, .unset]) C at_112 rfl rfl ?_
          refine g_iconst (pc' := 115) (z := (-1 : Int32)) C at_114 rfl rfl ?_
          refine g_istore (pc' := 117) (L' := #[.val (.int p0), .val (.int p1), .val (.int p2), .val (.int p3), .val (.int p4), .val (.ref a1), .val (.int (0 : Int32)), .val (.int (1 : Int32)), .val (.int (1 : Int32)), .val (.int (2 : Int32)), .val (.int (0 : Int32)), .val (.int (-1 : Int32)), .val (.int (-1 : Int32)), .val (.int (-1 : Int32)), .unset, .unset, .unset]) C at_115 rfl rfl ?_
          refine g_iload (pc' := 119) C at_117 rfl rfl ?_
          refine g_iconst (pc' := 120) (z := (1 : Int32)) C at_119 rfl rfl ?_
          refine g_icmpY (xi := 0) (yi := 1) (pc1 := 130) C at_120 (by decide) rfl rfl rfl (by decide) ?_
          refine g_iload (pc' := 132) C at_130 rfl rfl ?_
          refine g_iconst (pc' := 133) (z := (2 : Int32)) C at_132 rfl rfl ?_
          refine g_icmpY (xi := 0) (yi := 2) (pc1 := 143) C at_133 (by decide) rfl rfl rfl (by decide) ?_
          refine g_iload (pc' := 145) C at_143 rfl rfl ?_
          refine g_iconst (pc' := 146) (z := (3 : Int32)) C at_145 rfl rfl ?_
          refine g_icmpY (xi := 0) (yi := 3) (pc1 := 156) C at_146 (by decide) rfl rfl rfl (by decide) ?_
          refine g_iload (pc' := 158) C at_156 rfl rfl ?_
          refine g_ifY (xi := 0) (pc1 := 180) C at_158 (by decide) rfl rfl (by decide) ?_
          refine g_iconst (pc' := 181) (z := (0 : Int32)) C at_180 rfl rfl ?_
          refine g_istore (pc' := 183) (L' := #[.val (.int p0), .val (.int p1), .val (.int p2), .val (.int p3), .val (.int p4), .val (.ref a1), .val (.int (0 : Int32)), .val (.int (1 : Int32)), .val (.int (1 : Int32)), .val (.int (2 : Int32)), .val (.int (0 : Int32)), .val (.int (-1 : Int32)), .val (.int (-1 : Int32)), .val (.int (-1 : Int32)), .val (.int (0 : Int32)), .unset, .unset]) C at_181 rfl rfl ?_
          refine g_iload (pc' := 185) C at_183 rfl rfl ?_
          refine g_ifN (xi := 1) (pc2 := 188) C at_185 rfl rfl (by decide) ?_
          refine g_iload (pc' := 190) C at_188 rfl rfl ?_
          refine g_iconst (pc' := 191) (z := (1 : Int32)) C at_190 rfl rfl ?_
          refine g_icmpN (xi := -1) (yi := 1) (pc2 := 194) C at_191 rfl rfl rfl (by decide) ?_
          refine g_iload (pc' := 196) C at_194 rfl rfl ?_
          refine g_iconst (pc' := 197) (z := (1 : Int32)) C at_196 rfl rfl ?_
          refine g_icmpN (xi := -1) (yi := 1) (pc2 := 200) C at_197 rfl rfl rfl (by decide) ?_
          refine g_iload (pc' := 202) C at_200 rfl rfl ?_
          refine g_iconst (pc' := 203) (z := (1 : Int32)) C at_202 rfl rfl ?_
          refine g_icmpN (xi := -1) (yi := 1) (pc2 := 206) C at_203 rfl rfl rfl (by decide) ?_
          refine g_iconst (pc' := 207) (z := (1 : Int32)) C at_206 rfl rfl ?_
          refine g_goto C at_207 (by decide) (pc' := 211) rfl ?_
          refine g_istore (pc' := 213) (L' := #[.val (.int p0), .val (.int p1), .val (.int p2), .val (.int p3), .val (.int p4), .val (.ref a1), .val (.int (0 : Int32)), .val (.int (1 : Int32)), .val (.int (1 : Int32)), .val (.int (2 : Int32)), .val (.int (0 : Int32)), .val (.int (-1 : Int32)), .val (.int (-1 : Int32)), .val (.int (-1 : Int32)), .val (.int (0 : Int32)), .val (.int (1 : Int32)), .unset]) C at_211 rfl rfl ?_
          refine g_iload (pc' := 215) C at_213 rfl rfl ?_
          refine g_ifN (xi := 1) (pc2 := 218) C at_215 rfl rfl (by decide) ?_
          refine g_iload (pc' := 220) C at_218 rfl rfl ?_
          refine g_iconst (pc' := 221) (z := (2 : Int32)) C at_220 rfl rfl ?_
          refine g_icmpN (xi := -1) (yi := 2) (pc2 := 224) C at_221 rfl rfl rfl (by decide) ?_
          refine g_iload (pc' := 226) C at_224 rfl rfl ?_
          refine g_iconst (pc' := 227) (z := (2 : Int32)) C at_226 rfl rfl ?_
          refine g_icmpN (xi := -1) (yi := 2) (pc2 := 230) C at_227 rfl rfl rfl (by decide) ?_
          refine g_iload (pc' := 232) C at_230 rfl rfl ?_
          refine g_iconst (pc' := 233) (z := (2 : Int32)) C at_232 rfl rfl ?_
          refine g_icmpN (xi := -1) (yi := 2) (pc2 := 236) C at_233 rfl rfl rfl (by decide) ?_
          refine g_iconst (pc' := 237) (z := (1 : Int32)) C at_236 rfl rfl ?_
          refine g_goto C at_237 (by decide) (pc' := 241) rfl ?_
          refine g_istore (pc' := 243) (L' := #[.val (.int p0), .val (.int p1), .val (.int p2), .val (.int p3), .val (.int p4), .val (.ref a1), .val (.int (0 : Int32)), .val (.int (1 : Int32)), .val (.int (1 : Int32)), .val (.int (2 : Int32)), .val (.int (0 : Int32)), .val (.int (-1 : Int32)), .val (.int (-1 : Int32)), .val (.int (-1 : Int32)), .val (.int (0 : Int32)), .val (.int (1 : Int32)), .val (.int (1 : Int32))]) C at_241 rfl rfl ?_
          refine g_aload (pc' := 245) C at_243 rfl rfl rfl ?_
          refine g_iconst (pc' := 246) (z := (0 : Int32)) C at_245 rfl rfl ?_
          obtain ⟨x0, x1, x2, l0, l1, l2, c0, c1, c2, g, O, A1, A2, A3⟩ := B
          have gs : l0.toInt < 0 ∧ ¬ l1.toInt < 0 ∧ ¬ l2.toInt < 0 := by
            rcases g with ⟨rfl, rfl, rfl, rfl, rfl⟩ | ⟨rfl, rfl, rfl, rfl, rfl⟩ <;> decide
          refine g_virtualP (y := (⟨"com/example/triplecore/triplecore/query/PatternQueue", "contains", "(I)Z"⟩ : MethodName)) (a := a1) (pc' := 249) (k' := 4) (n' := 13) (S := []) (as := [(.int (0 : Int32))]) C at_246 rfl (hw _ (List.mem_of_getElem? (i := 24) rfl)) (hw _ (List.mem_of_getElem? (i := 26) rfl)) (hw _ (List.mem_of_getElem? (i := 2) rfl)) (hw _ (List.mem_of_getElem? (i := 28) rfl)) (hw _ (List.mem_of_getElem? (i := 25) rfl)) (hw _ (List.mem_of_getElem? (i := 27) rfl)) (by decide) O.1 (lenOf pd_5 rfl) (con_has0 W.l Z a0 hw a1 b1 b2 b3 (2 : Int32) (0 : Int32) l0 0 _ rfl rfl gs.1 h10 O A2) rfl rfl (Nat.le_of_ble_eq_true rfl) (Nat.le_of_ble_eq_true rfl) rfl rfl (Nat.le_of_ble_eq_true rfl) (Nat.le_of_ble_eq_true rfl) (S1 := [(.int (0 : Int32))]) rfl ?_
          refine g_iload (pc' := 251) C at_249 rfl rfl ?_
          refine g_icmpN (xi := 0) (yi := 0) (pc2 := 254) C at_251 rfl rfl rfl (by decide) ?_
          refine g_aload (pc' := 256) C at_254 rfl rfl rfl ?_
          refine g_iconst (pc' := 257) (z := (1 : Int32)) C at_256 rfl rfl ?_
          refine g_virtualP (y := (⟨"com/example/triplecore/triplecore/query/PatternQueue", "contains", "(I)Z"⟩ : MethodName)) (a := a1) (pc' := 260) (k' := 4) (n' := 13) (S := []) (as := [(.int (1 : Int32))]) C at_257 rfl (hw _ (List.mem_of_getElem? (i := 24) rfl)) (hw _ (List.mem_of_getElem? (i := 26) rfl)) (hw _ (List.mem_of_getElem? (i := 2) rfl)) (hw _ (List.mem_of_getElem? (i := 28) rfl)) (hw _ (List.mem_of_getElem? (i := 25) rfl)) (hw _ (List.mem_of_getElem? (i := 27) rfl)) (by decide) O.1 (lenOf pd_5 rfl) (con_has1 W.l Z a0 hw a1 b1 b2 b3 (2 : Int32) (1 : Int32) l1 1 _ rfl rfl gs.2.1 h10 O A2) rfl rfl (Nat.le_of_ble_eq_true rfl) (Nat.le_of_ble_eq_true rfl) rfl rfl (Nat.le_of_ble_eq_true rfl) (Nat.le_of_ble_eq_true rfl) (S1 := [(.int (1 : Int32))]) rfl ?_
          refine g_iload (pc' := 262) C at_260 rfl rfl ?_
          refine g_icmpN (xi := 1) (yi := 1) (pc2 := 265) C at_262 rfl rfl rfl (by decide) ?_
          refine g_aload (pc' := 267) C at_265 rfl rfl rfl ?_
          refine g_iconst (pc' := 268) (z := (2 : Int32)) C at_267 rfl rfl ?_
          refine g_virtualP (y := (⟨"com/example/triplecore/triplecore/query/PatternQueue", "contains", "(I)Z"⟩ : MethodName)) (a := a1) (pc' := 271) (k' := 4) (n' := 13) (S := []) (as := [(.int (2 : Int32))]) C at_268 rfl (hw _ (List.mem_of_getElem? (i := 24) rfl)) (hw _ (List.mem_of_getElem? (i := 26) rfl)) (hw _ (List.mem_of_getElem? (i := 2) rfl)) (hw _ (List.mem_of_getElem? (i := 28) rfl)) (hw _ (List.mem_of_getElem? (i := 25) rfl)) (hw _ (List.mem_of_getElem? (i := 27) rfl)) (by decide) O.1 (lenOf pd_5 rfl) (con_has1 W.l Z a0 hw a1 b1 b2 b3 (2 : Int32) (2 : Int32) l2 2 _ rfl rfl gs.2.2 h10 O A2) rfl rfl (Nat.le_of_ble_eq_true rfl) (Nat.le_of_ble_eq_true rfl) rfl rfl (Nat.le_of_ble_eq_true rfl) (Nat.le_of_ble_eq_true rfl) (S1 := [(.int (1 : Int32))]) rfl ?_
          refine g_iload (pc' := 273) C at_271 rfl rfl ?_
          refine g_icmpN (xi := 1) (yi := 1) (pc2 := 276) C at_273 rfl rfl rfl (by decide) ?_
          refine g_iconst (pc' := 277) (z := (1 : Int32)) C at_276 rfl rfl ?_
          refine g_goto C at_277 (by decide) (pc' := 281) rfl ?_
          refine g_retN C (by simp) at_281 (by decide) (by decide) ?_
          subst hQ
          rfl
        ·
          refine g_iconst (pc' := 109) (z := (-1 : Int32)) C at_108 rfl rfl ?_
          refine g_istore (pc' := 111) (L' := #[.val (.int p0), .val (.int p1), .val (.int p2), .val (.int p3), .val (.int p4), .val (.ref a1), .val (.int (0 : Int32)), .val (.int (1 : Int32)), .val (.int (1 : Int32)), .val (.int (2 : Int32)), .val (.int (1 : Int32)), .val (.int (-1 : Int32)), .unset, .unset, .unset, .unset, .unset]) C at_109 rfl rfl ?_
          refine g_iconst (pc' := 112) (z := (-1 : Int32)) C at_111 rfl rfl ?_
          refine g_istore (pc' := 114) (L' := #[.val (.int p0), .val (.int p1), .val (.int p2), .val (.int p3), .val (.int p4), .val (.ref a1), .val (.int (0 : Int32)), .val (.int (1 : Int32)), .val (.int (1 : Int32)), .val (.int (2 : Int32)), .val (.int (1 : Int32)), .val (.int (-1 : Int32)), .val (.int (-1 : Int32)), .unset, .unset, .unset, .unset]) C at_112 rfl rfl ?_
          refine g_iconst (pc' := 115) (z := (-1 : Int32)) C at_114 rfl rfl ?_
          refine g_istore (pc' := 117) (L' := #[.val (.int p0), .val (.int p1), .val (.int p2), .val (.int p3), .val (.int p4), .val (.ref a1), .val (.int (0 : Int32)), .val (.int (1 : Int32)), .val (.int (1 : Int32)), .val (.int (2 : Int32)), .val (.int (1 : Int32)), .val (.int (-1 : Int32)), .val (.int (-1 : Int32)), .val (.int (-1 : Int32)), .unset, .unset, .unset]) C at_115 rfl rfl ?_
          refine g_iload (pc' := 119) C at_117 rfl rfl ?_
          refine g_iconst (pc' := 120) (z := (1 : Int32)) C at_119 rfl rfl ?_
          refine g_icmpN (xi := 1) (yi := 1) (pc2 := 123) C at_120 rfl rfl rfl (by decide) ?_
          refine g_aload (pc' := 125) C at_123 rfl rfl rfl ?_
          refine g_virtual (y := (⟨"com/example/triplecore/triplecore/query/PatternQueue", "poll", "()I"⟩ : MethodName)) (a := a1) (pc' := 128) (k' := 4) (n' := 13) (S := []) (as := []) C at_125 rfl (hw _ (List.mem_of_getElem? (i := 48) rfl)) (hw _ (List.mem_of_getElem? (i := 50) rfl)) (hw _ (List.mem_of_getElem? (i := 2) rfl)) (hw _ (List.mem_of_getElem? (i := 52) rfl)) (hw _ (List.mem_of_getElem? (i := 49) rfl)) (hw _ (List.mem_of_getElem? (i := 51) rfl)) (by decide) B.exa (lenOf pd_6 rfl) (con_poll_G_12 W.l Z a0 hw a1 b1 b2 b3 q01 q02 q03 q12 q13 q23 h10 B) rfl rfl (Nat.le_of_ble_eq_true rfl) (Nat.le_of_ble_eq_true rfl) rfl rfl (Nat.le_of_ble_eq_true rfl) (Nat.le_of_ble_eq_true rfl) (allS w_a1 (allS w_b1 (allS w_b2 all0))) fun vh12 h12 qh12 Kh12 => ?_
          rcases qh12 with ⟨rfl, B⟩ | ⟨rfl, B⟩
          ·
            show Go W Q h12 4 13 128 #[.val (.int p0), .val (.int p1), .val (.int p2), .val (.int p3), .val (.int p4), .val (.ref a1), .val (.int (0 : Int32)), .val (.int (1 : Int32)), .val (.int (1 : Int32)), .val (.int (2 : Int32)), .val (.int (1 : Int32)), .val (.int (-1 : Int32)), .val (.int (-1 : Int32)), .val (.int (-1 : Int32)), .unset, .unset, .unset] [(.int (1 : Int32))]
            refine g_istore (pc' := 130) (L' := #[.val (.int p0), .val (.int p1), .val (.int p2), .val (.int p3), .val (.int p4), .val (.ref a1), .val (.int (0 : Int32)), .val (.int (1 : Int32)), .val (.int (1 : Int32)), .val (.int (2 : Int32)), .val (.int (1 : Int32)), .val (.int (1 : Int32)), .val (.int (-1 : Int32)), .val (.int (-1 : Int32)), .unset, .unset, .unset]) C at_128 rfl rfl ?_
            refine g_iload (pc' := 132) C at_130 rfl rfl ?_
            refine g_iconst (pc' := 133) (z := (2 : Int32)) C at_132 rfl rfl ?_
            refine g_icmpY (xi := 1) (yi := 2) (pc1 := 143) C at_133 (by decide) rfl rfl rfl (by decide) ?_
            refine g_iload (pc' := 145) C at_143 rfl rfl ?_
            refine g_iconst (pc' := 146) (z := (3 : Int32)) C at_145 rfl rfl ?_
            refine g_icmpY (xi := 1) (yi := 3) (pc1 := 156) C at_146 (by decide) rfl rfl rfl (by decide) ?_
            refine g_iload (pc' := 158) C at_156 rfl rfl ?_
            refine g_ifY (xi := 0) (pc1 := 180) C at_158 (by decide) rfl rfl (by decide) ?_
            refine g_iconst (pc' := 181) (z := (0 : Int32)) C at_180 rfl rfl ?_
            refine g_istore (pc' := 183) (L' := #[.val (.int p0), .val (.int p1), .val (.int p2), .val (.int p3), .val (.int p4), .val (.ref a1), .val (.int (0 : Int32)), .val (.int (1 : Int32)), .val (.int (1 : Int32)), .val (.int (2 : Int32)), .val (.int (1 : Int32)), .val (.int (1 : Int32)), .val (.int (-1 : Int32)), .val (.int (-1 : Int32)), .val (.int (0 : Int32)), .unset, .unset]) C at_181 rfl rfl ?_
            refine g_iload (pc' := 185) C at_183 rfl rfl ?_
            refine g_ifN (xi := 1) (pc2 := 188) C at_185 rfl rfl (by decide) ?_
            refine g_iload (pc' := 190) C at_188 rfl rfl ?_
            refine g_iconst (pc' := 191) (z := (1 : Int32)) C at_190 rfl rfl ?_
            refine g_icmpY (xi := 1) (yi := 1) (pc1 := 210) C at_191 (by decide) rfl rfl rfl (by decide) ?_
            refine g_iconst (pc' := 211) (z := (0 : Int32)) C at_210 rfl rfl ?_
            refine g_istore (pc' := 213) (L' := #[.val (.int p0), .val (.int p1), .val (.int p2), .val (.int p3), .val (.int p4), .val (.ref a1), .val (.int (0 : Int32)), .val (.int (1 : Int32)), .val (.int (1 : Int32)), .val (.int (2 : Int32)), .val (.int (1 : Int32)), .val (.int (1 : Int32)), .val (.int (-1 : Int32)), .val (.int (-1 : Int32)), .val (.int (0 : Int32)), .val (.int (0 : Int32)), .unset]) C at_211 rfl rfl ?_
            refine g_iload (pc' := 215) C at_213 rfl rfl ?_
            refine g_ifN (xi := 1) (pc2 := 218) C at_215 rfl rfl (by decide) ?_
            refine g_iload (pc' := 220) C at_218 rfl rfl ?_
            refine g_iconst (pc' := 221) (z := (2 : Int32)) C at_220 rfl rfl ?_
            refine g_icmpN (xi := 1) (yi := 2) (pc2 := 224) C at_221 rfl rfl rfl (by decide) ?_
            refine g_iload (pc' := 226) C at_224 rfl rfl ?_
            refine g_iconst (pc' := 227) (z := (2 : Int32)) C at_226 rfl rfl ?_
            refine g_icmpN (xi := -1) (yi := 2) (pc2 := 230) C at_227 rfl rfl rfl (by decide) ?_
            refine g_iload (pc' := 232) C at_230 rfl rfl ?_
            refine g_iconst (pc' := 233) (z := (2 : Int32)) C at_232 rfl rfl ?_
            refine g_icmpN (xi := -1) (yi := 2) (pc2 := 236) C at_233 rfl rfl rfl (by decide) ?_
            refine g_iconst (pc' := 237) (z := (1 : Int32)) C at_236 rfl rfl ?_
            refine g_goto C at_237 (by decide) (pc' := 241) rfl ?_
            refine g_istore (pc' := 243) (L' := #[.val (.int p0), .val (.int p1), .val (.int p2), .val (.int p3), .val (.int p4), .val (.ref a1), .val (.int (0 : Int32)), .val (.int (1 : Int32)), .val (.int (1 : Int32)), .val (.int (2 : Int32)), .val (.int (1 : Int32)), .val (.int (1 : Int32)), .val (.int (-1 : Int32)), .val (.int (-1 : Int32)), .val (.int (0 : Int32)), .val (.int (0 : Int32)), .val (.int (1 : Int32))]) C at_241 rfl rfl ?_
            refine g_aload (pc' := 245) C at_243 rfl rfl rfl ?_
            refine g_iconst (pc' := 246) (z := (0 : Int32)) C at_245 rfl rfl ?_
            obtain ⟨x0, x1, x2, l0, l1, l2, c0, c1, c2, g, O, A1, A2, A3⟩ := B
            have gs : l0.toInt < 0 ∧ l1.toInt < 0 ∧ ¬ l2.toInt < 0 := by
              rcases g with ⟨rfl, rfl, rfl, rfl⟩ <;> decide
            refine g_virtualP (y := (⟨"com/example/triplecore/triplecore/query/PatternQueue", "contains", "(I)Z"⟩ : MethodName)) (a := a1) (pc' := 249) (k' := 4) (n' := 13) (S := []) (as := [(.int (0 : Int32))]) C at_246 rfl (hw _ (List.mem_of_getElem? (i := 24) rfl)) (hw _ (List.mem_of_getElem? (i := 26) rfl)) (hw _ (List.mem_of_getElem? (i := 2) rfl)) (hw _ (List.mem_of_getElem? (i := 28) rfl)) (hw _ (List.mem_of_getElem? (i := 25) rfl)) (hw _ (List.mem_of_getElem? (i := 27) rfl)) (by decide) O.1 (lenOf pd_5 rfl) (con_has0 W.l Z a0 hw a1 b1 b2 b3 (1 : Int32) (0 : Int32) l0 0 _ rfl rfl gs.1 h12 O A2) rfl rfl (Nat.le_of_ble_eq_true rfl) (Nat.le_of_ble_eq_true rfl) rfl rfl (Nat.le_of_ble_eq_true rfl) (Nat.le_of_ble_eq_true rfl) (S1 := [(.int (0 : Int32))]) rfl ?_
            refine g_iload (pc' := 251) C at_249 rfl rfl ?_
            refine g_icmpN (xi := 0) (yi := 0) (pc2 := 254) C at_251 rfl rfl rfl (by decide) ?_
            refine g_aload (pc' := 256) C at_254 rfl rfl rfl ?_
            refine g_iconst (pc' := 257) (z := (1 : Int32)) C at_256 rfl rfl ?_
            refine g_virtualP (y := (⟨"com/example/triplecore/triplecore/query/PatternQueue", "contains", "(I)Z"⟩ : MethodName)) (a := a1) (pc' := 260) (k' := 4) (n' := 13) (S := []) (as := [(.int (1 : Int32))]) C at_257 rfl (hw _ (List.mem_of_getElem? (i := 24) rfl)) (hw _ (List.mem_of_getElem? (i := 26) rfl)) (hw _ (List.mem_of_getElem? (i := 2) rfl)) (hw _ (List.mem_of_getElem? (i := 28) rfl)) (hw _ (List.mem_of_getElem? (i := 25) rfl)) (hw _ (List.mem_of_getElem? (i := 27) rfl)) (by decide) O.1 (lenOf pd_5 rfl) (con_has0 W.l Z a0 hw a1 b1 b2 b3 (1 : Int32) (1 : Int32) l1 1 _ rfl rfl gs.2.1 h12 O A2) rfl rfl (Nat.le_of_ble_eq_true rfl) (Nat.le_of_ble_eq_true rfl) rfl rfl (Nat.le_of_ble_eq_true rfl) (Nat.le_of_ble_eq_true rfl) (S1 := [(.int (0 : Int32))]) rfl ?_
            refine g_iload (pc' := 262) C at_260 rfl rfl ?_
            refine g_icmpN (xi := 0) (yi := 0) (pc2 := 265) C at_262 rfl rfl rfl (by decide) ?_
            refine g_aload (pc' := 267) C at_265 rfl rfl rfl ?_
            refine g_iconst (pc' := 268) (z := (2 : Int32)) C at_267 rfl rfl ?_
            refine g_virtualP (y := (⟨"com/example/triplecore/triplecore/query/PatternQueue", "contains", "(I)Z"⟩ : MethodName)) (a := a1) (pc' := 271) (k' := 4) (n' := 13) (S := []) (as := [(.int (2 : Int32))]) C at_268 rfl (hw _ (List.mem_of_getElem? (i := 24) rfl)) (hw _ (List.mem_of_getElem? (i := 26) rfl)) (hw _ (List.mem_of_getElem? (i := 2) rfl)) (hw _ (List.mem_of_getElem? (i := 28) rfl)) (hw _ (List.mem_of_getElem? (i := 25) rfl)) (hw _ (List.mem_of_getElem? (i := 27) rfl)) (by decide) O.1 (lenOf pd_5 rfl) (con_has1 W.l Z a0 hw a1 b1 b2 b3 (1 : Int32) (2 : Int32) l2 2 _ rfl rfl gs.2.2 h12 O A2) rfl rfl (Nat.le_of_ble_eq_true rfl) (Nat.le_of_ble_eq_true rfl) rfl rfl (Nat.le_of_ble_eq_true rfl) (Nat.le_of_ble_eq_true rfl) (S1 := [(.int (1 : Int32))]) rfl ?_
            refine g_iload (pc' := 273) C at_271 rfl rfl ?_
            refine g_icmpN (xi := 1) (yi := 1) (pc2 := 276) C at_273 rfl rfl rfl (by decide) ?_
            refine g_iconst (pc' := 277) (z := (1 : Int32)) C at_276 rfl rfl ?_
            refine g_goto C at_277 (by decide) (pc' := 281) rfl ?_
            refine g_retN C (by simp) at_281 (by decide) (by decide) ?_
            subst hQ
            rfl
          ·
            show Go W Q h12 4 13 128 #[.val (.int p0), .val (.int p1), .val (.int p2), .val (.int p3), .val (.int p4), .val (.ref a1), .val (.int (0 : Int32)), .val (.int (1 : Int32)), .val (.int (1 : Int32)), .val (.int (2 : Int32)), .val (.int (1 : Int32)), .val (.int (-1 : Int32)), .val (.int (-1 : Int32)), .val (.int (-1 : Int32)), .unset, .unset, .unset] [(.int (2 : Int32))]
            refine g_istore (pc' := 130) (L' := #[.val (.int p0), .val (.int p1), .val (.int p2), .val (.int p3), .val (.int p4), .val (.ref a1), .val (.int (0 : Int32)), .val (.int (1 : Int32)), .val (.int (1 : Int32)), .val (.int (2 : Int32)), .val (.int (1 : Int32)), .val (.int (2 : Int32)), .val (.int (-1 : Int32)), .val (.int (-1 : Int32)), .unset, .unset, .unset]) C at_128 rfl rfl ?_
            refine g_iload (pc' := 132) C at_130 rfl rfl ?_
            refine g_iconst (pc' := 133) (z := (2 : Int32)) C at_132 rfl rfl ?_
            refine g_icmpY (xi := 1) (yi := 2) (pc1 := 143) C at_133 (by decide) rfl rfl rfl (by decide) ?_
            refine g_iload (pc' := 145) C at_143 rfl rfl ?_
            refine g_iconst (pc' := 146) (z := (3 : Int32)) C at_145 rfl rfl ?_
            refine g_icmpY (xi := 1) (yi := 3) (pc1 := 156) C at_146 (by decide) rfl rfl rfl (by decide) ?_
            refine g_iload (pc' := 158) C at_156 rfl rfl ?_
            refine g_ifY (xi := 0) (pc1 := 180) C at_158 (by decide) rfl rfl (by decide) ?_
            refine g_iconst (pc' := 181) (z := (0 : Int32)) C at_180 rfl rfl ?_
            refine g_istore (pc' := 183) (L' := #[.val (.int p0), .val (.int p1), .val (.int p2), .val (.int p3), .val (.int p4), .val (.ref a1), .val (.int (0 : Int32)), .val (.int (1 : Int32)), .val (.int (1 : Int32)), .val (.int (2 : Int32)), .val (.int (1 : Int32)), .val (.int (2 : Int32)), .val (.int (-1 : Int32)), .val (.int (-1 : Int32)), .val (.int (0 : Int32)), .unset, .unset]) C at_181 rfl rfl ?_
            refine g_iload (pc' := 185) C at_183 rfl rfl ?_
            refine g_ifN (xi := 1) (pc2 := 188) C at_185 rfl rfl (by decide) ?_
            refine g_iload (pc' := 190) C at_188 rfl rfl ?_
            refine g_iconst (pc' := 191) (z := (1 : Int32)) C at_190 rfl rfl ?_
            refine g_icmpN (xi := 2) (yi := 1) (pc2 := 194) C at_191 rfl rfl rfl (by decide) ?_
            refine g_iload (pc' := 196) C at_194 rfl rfl ?_
            refine g_iconst (pc' := 197) (z := (1 : Int32)) C at_196 rfl rfl ?_
            refine g_icmpN (xi := -1) (yi := 1) (pc2 := 200) C at_197 rfl rfl rfl (by decide) ?_
            refine g_iload (pc' := 202) C at_200 rfl rfl ?_
            refine g_iconst (pc' := 203) (z := (1 : Int32)) C at_202 rfl rfl ?_
            refine g_icmpN (xi := -1) (yi := 1) (pc2 := 206) C at_203 rfl rfl rfl (by decide) ?_
            refine g_iconst (pc' := 207) (z := (1 : Int32)) C at_206 rfl rfl ?_
            refine g_goto C at_207 (by decide) (pc' := 211) rfl ?_
            refine g_istore (pc' := 213) (L' := #[.val (.int p0), .val (.int p1), .val (.int p2), .val (.int p3), .val (.int p4), .val (.ref a1), .val (.int (0 : Int32)), .val (.int (1 : Int32)), .val (.int (1 : Int32)), .val (.int (2 : Int32)), .val (.int (1 : Int32)), .val (.int (2 : Int32)), .val (.int (-1 : Int32)), .val (.int (-1 : Int32)), .val (.int (0 : Int32)), .val (.int (1 : Int32)), .unset]) C at_211 rfl rfl ?_
            refine g_iload (pc' := 215) C at_213 rfl rfl ?_
            refine g_ifN (xi := 1) (pc2 := 218) C at_215 rfl rfl (by decide) ?_
            refine g_iload (pc' := 220) C at_218 rfl rfl ?_
            refine g_iconst (pc' := 221) (z := (2 : Int32)) C at_220 rfl rfl ?_
            refine g_icmpY (xi := 2) (yi := 2) (pc1 := 240) C at_221 (by decide) rfl rfl rfl (by decide) ?_
            refine g_iconst (pc' := 241) (z := (0 : Int32)) C at_240 rfl rfl ?_
            refine g_istore (pc' := 243) (L' := #[.val (.int p0), .val (.int p1), .val (.int p2), .val (.int p3), .val (.int p4), .val (.ref a1), .val (.int (0 : Int32)), .val (.int (1 : Int32)), .val (.int (1 : Int32)), .val (.int (2 : Int32)), .val (.int (1 : Int32)), .val (.int (2 : Int32)), .val (.int (-1 : Int32)), .val (.int (-1 : Int32)), .val (.int (0 : Int32)), .val (.int (1 : Int32)), .val (.int (0 : Int32))]) C at_241 rfl rfl ?_
            refine g_aload (pc' := 245) C at_243 rfl rfl rfl ?_
            refine g_iconst (pc' := 246) (z := (0 : Int32)) C at_245 rfl rfl ?_
            obtain ⟨x0, x1, x2, l0, l1, l2, c0, c1, c2, g, O, A1, A2, A3⟩ := B
            have gs : l0.toInt < 0 ∧ ¬ l1.toInt < 0 ∧ l2.toInt < 0 := by
              rcases g with ⟨rfl, rfl, rfl, rfl⟩ <;> decide
            refine g_virtualP (y := (⟨"com/example/triplecore/triplecore/query/PatternQueue", "contains", "(I)Z"⟩ : MethodName)) (a := a1) (pc' := 249) (k' := 4) (n' := 13) (S := []) (as := [(.int (0 : Int32))]) C at_246 rfl (hw _ (List.mem_of_getElem? (i := 24) rfl)) (hw _ (List.mem_of_getElem? (i := 26) rfl)) (hw _ (List.mem_of_getElem? (i := 2) rfl)) (hw _ (List.mem_of_getElem? (i := 28) rfl)) (hw _ (List.mem_of_getElem? (i := 25) rfl)) (hw _ (List.mem_of_getElem? (i := 27) rfl)) (by decide) O.1 (lenOf pd_5 rfl) (con_has0 W.l Z a0 hw a1 b1 b2 b3 (1 : Int32) (0 : Int32) l0 0 _ rfl rfl gs.1 h12 O A2) rfl rfl (Nat.le_of_ble_eq_true rfl) (Nat.le_of_ble_eq_true rfl) rfl rfl (Nat.le_of_ble_eq_true rfl) (Nat.le_of_ble_eq_true rfl) (S1 := [(.int (0 : Int32))]) rfl ?_
            refine g_iload (pc' := 251) C at_249 rfl rfl ?_
            refine g_icmpN (xi := 0) (yi := 0) (pc2 := 254) C at_251 rfl rfl rfl (by decide) ?_
            refine g_aload (pc' := 256) C at_254 rfl rfl rfl ?_
            refine g_iconst (pc' := 257) (z := (1 : Int32)) C at_256 rfl rfl ?_
            refine g_virtualP (y := (⟨"com/example/triplecore/triplecore/query/PatternQueue", "contains", "(I)Z"⟩ : MethodName)) (a := a1) (pc' := 260) (k' := 4) (n' := 13) (S := []) (as := [(.int (1 : Int32))]) C at_257 rfl (hw _ (List.mem_of_getElem? (i := 24) rfl)) (hw _ (List.mem_of_getElem? (i := 26) rfl)) (hw _ (List.mem_of_getElem? (i := 2) rfl)) (hw _ (List.mem_of_getElem? (i := 28) rfl)) (hw _ (List.mem_of_getElem? (i := 25) rfl)) (hw _ (List.mem_of_getElem? (i := 27) rfl)) (by decide) O.1 (lenOf pd_5 rfl) (con_has1 W.l Z a0 hw a1 b1 b2 b3 (1 : Int32) (1 : Int32) l1 1 _ rfl rfl gs.2.1 h12 O A2) rfl rfl (Nat.le_of_ble_eq_true rfl) (Nat.le_of_ble_eq_true rfl) rfl rfl (Nat.le_of_ble_eq_true rfl) (Nat.le_of_ble_eq_true rfl) (S1 := [(.int (1 : Int32))]) rfl ?_
            refine g_iload (pc' := 262) C at_260 rfl rfl ?_
            refine g_icmpN (xi := 1) (yi := 1) (pc2 := 265) C at_262 rfl rfl rfl (by decide) ?_
            refine g_aload (pc' := 267) C at_265 rfl rfl rfl ?_
            refine g_iconst (pc' := 268) (z := (2 : Int32)) C at_267 rfl rfl ?_
            refine g_virtualP (y := (⟨"com/example/triplecore/triplecore/query/PatternQueue", "contains", "(I)Z"⟩ : MethodName)) (a := a1) (pc' := 271) (k' := 4) (n' := 13) (S := []) (as := [(.int (2 : Int32))]) C at_268 rfl (hw _ (List.mem_of_getElem? (i := 24) rfl)) (hw _ (List.mem_of_getElem? (i := 26) rfl)) (hw _ (List.mem_of_getElem? (i := 2) rfl)) (hw _ (List.mem_of_getElem? (i := 28) rfl)) (hw _ (List.mem_of_getElem? (i := 25) rfl)) (hw _ (List.mem_of_getElem? (i := 27) rfl)) (by decide) O.1 (lenOf pd_5 rfl) (con_has0 W.l Z a0 hw a1 b1 b2 b3 (1 : Int32) (2 : Int32) l2 2 _ rfl rfl gs.2.2 h12 O A2) rfl rfl (Nat.le_of_ble_eq_true rfl) (Nat.le_of_ble_eq_true rfl) rfl rfl (Nat.le_of_ble_eq_true rfl) (Nat.le_of_ble_eq_true rfl) (S1 := [(.int (0 : Int32))]) rfl ?_
            refine g_iload (pc' := 273) C at_271 rfl rfl ?_
            refine g_icmpN (xi := 0) (yi := 0) (pc2 := 276) C at_273 rfl rfl rfl (by decide) ?_
            refine g_iconst (pc' := 277) (z := (1 : Int32)) C at_276 rfl rfl ?_
            refine g_goto C at_277 (by decide) (pc' := 281) rfl ?_
            refine g_retN C (by simp) at_281 (by decide) (by decide) ?_
            subst hQ
            rfl
        ·
          refine g_iconst (pc' := 109) (z := (-1 : Int32)) C at_108 rfl rfl ?_
          refine g_istore (pc' := 111) (L' := #[.val (.int p0), .val (.int p1), .val (.int p2), .val (.int p3), .val (.int p4), .val (.ref a1), .val (.int (0 : Int32)), .val (.int (1 : Int32)), .val (.int (1 : Int32)), .val (.int (2 : Int32)), .val (.int (2 : Int32)), .val (.int (-1 : Int32)), .unset, .unset, .unset, .unset, .unset]) C at_109 rfl rfl ?_
          refine g_iconst (pc' := 112) (z := (-1 : Int32)) C at_111 rfl rfl ?_
          refine g_istore (pc' := 114) (L' := #[.val (.int p0), .val (.int p1), .val (.int p2), .val (.int p3), .val (.int p4), .val (.ref a1), .val (.int (0 : Int32)), .val (.int (1 : Int32)), .val (.int (1 : Int32)), .val (.int (2 : Int32)), .val (.int (2 : Int32)), .val (.int (-1 : Int32)), .val (.int (-1 : Int32)), .unset, .unset, .unset, .unset]) C at_112 rfl rfl ?_
          refine g_iconst (pc' := 115) (z := (-1 : Int32)) C at_114 rfl rfl ?_
          refine g_istore (pc' := 117) (L' := #[.val (.int p0), .val (.int p1), .val (.int p2), .val (.int p3), .val (.int p4), .val (.ref a1), .val (.int (0 : Int32)), .val (.int (1 : Int32)), .val (.int (1 : Int32)), .val (.int (2 : Int32)), .val (.int (2 : Int32)), .val (.int (-1 : Int32)), .val (.int (-1 : Int32)), .val (.int (-1 : Int32)), .unset, .unset, .unset]) C at_115 rfl rfl ?_
          refine g_iload (pc' := 119) C at_117 rfl rfl ?_
          refine g_iconst (pc' := 120) (z := (1 : Int32)) C at_119 rfl rfl ?_
          refine g_icmpN (xi := 2) (yi := 1) (pc2 := 123) C at_120 rfl rfl rfl (by decide) ?_
          refine g_aload (pc' := 125) C at_123 rfl rfl rfl ?_
          refine g_virtual (y := (⟨"com/example/triplecore/triplecore/query/PatternQueue", "poll", "()I"⟩ : MethodName)) (a := a1) (pc' := 128) (k' := 4) (n' := 13) (S := []) (as := []) C at_125 rfl (hw _ (List.mem_of_getElem? (i := 48) rfl)) (hw _ (List.mem_of_getElem? (i := 50) rfl)) (hw _ (List.mem_of_getElem? (i := 2) rfl)) (hw _ (List.mem_of_getElem? (i := 52) rfl)) (hw _ (List.mem_of_getElem? (i := 49) rfl)) (hw _ (List.mem_of_getElem? (i := 51) rfl)) (by decide) B.exa (lenOf pd_6 rfl) (con_poll_G_12 W.l Z a0 hw a1 b1 b2 b3 q01 q02 q03 q12 q13 q23 h10 B) rfl rfl (Nat.le_of_ble_eq_true rfl) (Nat.le_of_ble_eq_true rfl) rfl rfl (Nat.le_of_ble_eq_true rfl) (Nat.le_of_ble_eq_true rfl) (allS w_a1 (allS w_b1 (allS w_b2 all0))) fun vh13 h13 qh13 Kh13 => ?_
          rcases qh13 with ⟨rfl, B⟩ | ⟨rfl, B⟩
          ·
            show Go W Q h13 4 13 128 #[.val (.int p0), .val (.int p1), .val (.int p2), .val (.int p3), .val (.int p4), .val (.ref a1), .val (.int (0 : Int32)), .val (.int (1 : Int32)), .val (.int (1 : Int32)), .val (.int (2 : Int32)), .val (.int (2 : Int32)), .val (.int (-1 : Int32)), .val (.int (-1 : Int32)), .val (.int (-1 : Int32)), .unset, .unset, .unset] [(.int (1 : Int32))]
            refine g_istore (pc' := 130) (L' := #[.val (.int p0), .val (.int p1), .val (.int p2), .val (.int p3), .val (.int p4), .val (.ref a1), .val (.int (0 : Int32)), .val (.int (1 : Int32)), .val (.int (1 : Int32)), .val (.int (2 : Int32)), .val (.int (2 : Int32)), .val (.int (1 : Int32)), .val (.int (-1 : Int32)), .val (.int (-1 : Int32)), .unset, .unset, .unset]) C at_128 rfl rfl ?_
            refine g_iload (pc' := 132) C at_130 rfl rfl ?_
            refine g_iconst (pc' := 133) (z := (2 : Int32)) C at_132 rfl rfl ?_
            refine g_icmpN (xi := 2) (yi := 2) (pc2 := 136) C at_133 rfl rfl rfl (by decide) ?_
            refine g_aload (pc' := 138) C at_136 rfl rfl rfl ?_
            refine g_virtual (y := (⟨"com/example/triplecore/triplecore/query/PatternQueue", "poll", "()I"⟩ : MethodName)) (a := a1) (pc' := 141) (k' := 4) (n' := 13) (S := []) (as := []) C at_138 rfl (hw _ (List.mem_of_getElem? (i := 48) rfl)) (hw _ (List.mem_of_getElem? (i := 50) rfl)) (hw _ (List.mem_of_getElem? (i := 2) rfl)) (hw _ (List.mem_of_getElem? (i := 52) rfl)) (hw _ (List.mem_of_getElem? (i := 49) rfl)) (hw _ (List.mem_of_getElem? (i := 51) rfl)) (by decide) B.exa (lenOf pd_6 rfl) (con_poll_G_2 W.l Z a0 hw a1 b1 b2 b3 q01 q02 q03 q12 q13 q23 h13 B) rfl rfl (Nat.le_of_ble_eq_true rfl) (Nat.le_of_ble_eq_true rfl) rfl rfl (Nat.le_of_ble_eq_true rfl) (Nat.le_of_ble_eq_true rfl) (allS w_a1 (allS w_b1 (allS w_b2 all0))) fun vh14 h14 qh14 Kh14 => ?_
            rcases qh14 with ⟨rfl, B⟩
            ·
              show Go W Q h14 4 13 141 #[.val (.int p0), .val (.int p1), .val (.int p2), .val (.int p3), .val (.int p4), .val (.ref a1), .val (.int (0 : Int32)), .val (.int (1 : Int32)), .val (.int (1 : Int32)), .val (.int (2 : Int32)), .val (.int (2 : Int32)), .val (.int (1 : Int32)), .val (.int (-1 : Int32)), .val (.int (-1 : Int32)), .unset, .unset, .unset] [(.int (2 : Int32))]
              refine g_istore (pc' := 143) (L' := #[.val (.int p0), .val (.int p1), .val (.int p2), .val (.int p3), .val (.int p4), .val (.ref a1), .val (.int (0 : Int32)), .val (.int (1 : Int32)), .val (.int (1 : Int32)), .val (.int (2 : Int32)), .val (.int (2 : Int32)), .val (.int (1 : Int32)), .val (.int (2 : Int32)), .val (.int (-1 : Int32)), .unset, .unset, .unset]) C at_141 rfl rfl ?_
              refine g_iload (pc' := 145) C at_143 rfl rfl ?_
              refine g_iconst (pc' := 146) (z := (3 : Int32)) C at_145 rfl rfl ?_
              refine g_icmpY (xi := 2) (yi := 3) (pc1 := 156) C at_146 (by decide) rfl rfl rfl (by decide) ?_
              refine g_iload (pc' := 158) C at_156 rfl rfl ?_
              refine g_ifY (xi := 0) (pc1 := 180) C at_158 (by decide) rfl rfl (by decide) ?_
              refine g_iconst (pc' := 181) (z := (0 : Int32)) C at_180 rfl rfl ?_
              refine g_istore (pc' := 183) (L' := #[.val (.int p0), .val (.int p1), .val (.int p2), .val (.int p3), .val (.int p4), .val (.ref a1), .val (.int (0 : Int32)), .val (.int (1 : Int32)), .val (.int (1 : Int32)), .val (.int (2 : Int32)), .val (.int (2 : Int32)), .val (.int (1 : Int32)), .val (.int (2 : Int32)), .val (.int (-1 : Int32)), .val (.int (0 : Int32)), .unset, .unset]) C at_181 rfl rfl ?_
              refine g_iload (pc' := 185) C at_183 rfl rfl ?_
              refine g_ifN (xi := 1) (pc2 := 188) C at_185 rfl rfl (by decide) ?_
              refine g_iload (pc' := 190) C at_188 rfl rfl ?_
              refine g_iconst (pc' := 191) (z := (1 : Int32)) C at_190 rfl rfl ?_
              refine g_icmpY (xi := 1) (yi := 1) (pc1 := 210) C at_191 (by decide) rfl rfl rfl (by decide) ?_
              refine g_iconst (pc' := 211) (z := (0 : Int32)) C at_210 rfl rfl ?_
              refine g_istore (pc' := 213) (L' := #[.val (.int p0), .val (.int p1), .val (.int p2), .val (.int p3), .val (.int p4), .val (.ref a1), .val (.int (0 : Int32)), .val (.int (1 : Int32)), .val (.int (1 : Int32)), .val (.int (2 : Int32)), .val (.int (2 : Int32)), .val (.int (1 : Int32)), .val (.int (2 : Int32)), .val (.int (-1 : Int32)), .val (.int (0 : Int32)), .val (.int (0 : Int32)), .unset]) C at_211 rfl rfl ?_
              refine g_iload (pc' := 215) C at_213 rfl rfl ?_
              refine g_ifN (xi := 1) (pc2 := 218) C at_215 rfl rfl (by decide) ?_
              refine g_iload (pc' := 220) C at_218 rfl rfl ?_
              refine g_iconst (pc' := 221) (z := (2 : Int32)) C at_220 rfl rfl ?_
              refine g_icmpN (xi := 1) (yi := 2) (pc2 := 224) C at_221 rfl rfl rfl (by decide) ?_
              refine g_iload (pc' := 226) C at_224 rfl rfl ?_
              refine g_iconst (pc' := 227) (z := (2 : Int32)) C at_226 rfl rfl ?_
              refine g_icmpY (xi := 2) (yi := 2) (pc1 := 240) C at_227 (by decide) rfl rfl rfl (by decide) ?_
              refine g_iconst (pc' := 241) (z := (0 : Int32)) C at_240 rfl rfl ?_
              refine g_istore (pc' := 243) (L' := #[.val (.int p0), .val (.int p1), .val (.int p2), .val (.int p3), .val (.int p4), .val (.ref a1), .val (.int (0 : Int32)), .val (.int (1 : Int32)), .val (.int (1 : Int32)), .val (.int (2 : Int32)), .val (.int (2 : Int32)), .val (.int (1 : Int32)), .val (.int (2 : Int32)), .val (.int (-1 : Int32)), .val (.int (0 : Int32)), .val (.int (0 : Int32)), .val (.int (0 : Int32))]) C at_241 rfl rfl ?_
              refine g_aload (pc' := 245) C at_243 rfl rfl rfl ?_
              refine g_iconst (pc' := 246) (z := (0 : Int32)) C at_245 rfl rfl ?_
              obtain ⟨x0, x1, x2, l0, l1, l2, c0, c1, c2, g, O, A1, A2, A3⟩ := B
              have gs : l0.toInt < 0 ∧ l1.toInt < 0 ∧ l2.toInt < 0 := by
                rcases g with ⟨rfl, rfl, rfl⟩ <;> decide
              refine g_virtualP (y := (⟨"com/example/triplecore/triplecore/query/PatternQueue", "contains", "(I)Z"⟩ : MethodName)) (a := a1) (pc' := 249) (k' := 4) (n' := 13) (S := []) (as := [(.int (0 : Int32))]) C at_246 rfl (hw _ (List.mem_of_getElem? (i := 24) rfl)) (hw _ (List.mem_of_getElem? (i := 26) rfl)) (hw _ (List.mem_of_getElem? (i := 2) rfl)) (hw _ (List.mem_of_getElem? (i := 28) rfl)) (hw _ (List.mem_of_getElem? (i := 25) rfl)) (hw _ (List.mem_of_getElem? (i := 27) rfl)) (by decide) O.1 (lenOf pd_5 rfl) (con_has0 W.l Z a0 hw a1 b1 b2 b3 (0 : Int32) (0 : Int32) l0 0 _ rfl rfl gs.1 h14 O A2) rfl rfl (Nat.le_of_ble_eq_true rfl) (Nat.le_of_ble_eq_true rfl) rfl rfl (Nat.le_of_ble_eq_true rfl) (Nat.le_of_ble_eq_true rfl) (S1 := [(.int (0 : Int32))]) rfl ?_
              refine g_iload (pc' := 251) C at_249 rfl rfl ?_
              refine g_icmpN (xi := 0) (yi := 0) (pc2 := 254) C at_251 rfl rfl rfl (by decide) ?_
              refine g_aload (pc' := 256) C at_254 rfl rfl rfl ?_
              refine g_iconst (pc' := 257) (z := (1 : Int32)) C at_256 rfl rfl ?_
              refine g_virtualP (y := (⟨"com/example/triplecore/triplecore/query/PatternQueue", "contains", "(I)Z"⟩ : MethodName)) (a := a1) (pc' := 260) (k' := 4) (n' := 13) (S := []) (as := [(.int (1 : Int32))]) C at_257 rfl (hw _ (List.mem_of_getElem? (i := 24) rfl)) (hw _ (List.mem_of_getElem? (i := 26) rfl)) (hw _ (List.mem_of_getElem? (i := 2) rfl)) (hw _ (List.mem_of_getElem? (i := 28) rfl)) (hw _ (List.mem_of_getElem? (i := 25) rfl)) (hw _ (List.mem_of_getElem? (i := 27) rfl)) (by decide) O.1 (lenOf pd_5 rfl) (con_has0 W.l Z a0 hw a1 b1 b2 b3 (0 : Int32) (1 : Int32) l1 1 _ rfl rfl gs.2.1 h14 O A2) rfl rfl (Nat.le_of_ble_eq_true rfl) (Nat.le_of_ble_eq_true rfl) rfl rfl (Nat.le_of_ble_eq_true rfl) (Nat.le_of_ble_eq_true rfl) (S1 := [(.int (0 : Int32))]) rfl ?_
              refine g_iload (pc' := 262) C at_260 rfl rfl ?_
              refine g_icmpN (xi := 0) (yi := 0) (pc2 := 265) C at_262 rfl rfl rfl (by decide) ?_
              refine g_aload (pc' := 267) C at_265 rfl rfl rfl ?_
              refine g_iconst (pc' := 268) (z := (2 : Int32)) C at_267 rfl rfl ?_
              refine g_virtualP (y := (⟨"com/example/triplecore/triplecore/query/PatternQueue", "contains", "(I)Z"⟩ : MethodName)) (a := a1) (pc' := 271) (k' := 4) (n' := 13) (S := []) (as := [(.int (2 : Int32))]) C at_268 rfl (hw _ (List.mem_of_getElem? (i := 24) rfl)) (hw _ (List.mem_of_getElem? (i := 26) rfl)) (hw _ (List.mem_of_getElem? (i := 2) rfl)) (hw _ (List.mem_of_getElem? (i := 28) rfl)) (hw _ (List.mem_of_getElem? (i := 25) rfl)) (hw _ (List.mem_of_getElem? (i := 27) rfl)) (by decide) O.1 (lenOf pd_5 rfl) (con_has0 W.l Z a0 hw a1 b1 b2 b3 (0 : Int32) (2 : Int32) l2 2 _ rfl rfl gs.2.2 h14 O A2) rfl rfl (Nat.le_of_ble_eq_true rfl) (Nat.le_of_ble_eq_true rfl) rfl rfl (Nat.le_of_ble_eq_true rfl) (Nat.le_of_ble_eq_true rfl) (S1 := [(.int (0 : Int32))]) rfl ?_
              refine g_iload (pc' := 273) C at_271 rfl rfl ?_
              refine g_icmpN (xi := 0) (yi := 0) (pc2 := 276) C at_273 rfl rfl rfl (by decide) ?_
              refine g_iconst (pc' := 277) (z := (1 : Int32)) C at_276 rfl rfl ?_
              refine g_goto C at_277 (by decide) (pc' := 281) rfl ?_
              refine g_retN C (by simp) at_281 (by decide) (by decide) ?_
              subst hQ
              rfl
          ·
            show Go W Q h13 4 13 128 #[.val (.int p0), .val (.int p1), .val (.int p2), .val (.int p3), .val (.int p4), .val (.ref a1), .val (.int (0 : Int32)), .val (.int (1 : Int32)), .val (.int (1 : Int32)), .val (.int (2 : Int32)), .val (.int (2 : Int32)), .val (.int (-1 : Int32)), .val (.int (-1 : Int32)), .val (.int (-1 : Int32)), .unset, .unset, .unset] [(.int (2 : Int32))]
            refine g_istore (pc' := 130) (L' := #[.val (.int p0), .val (.int p1), .val (.int p2), .val (.int p3), .val (.int p4), .val (.ref a1), .val (.int (0 : Int32)), .val (.int (1 : Int32)), .val (.int (1 : Int32)), .val (.int (2 : Int32)), .val (.int (2 : Int32)), .val (.int (2 : Int32)), .val (.int (-1 : Int32)), .val (.int (-1 : Int32)), .unset, .unset, .unset]) C at_128 rfl rfl ?_
            refine g_iload (pc' := 132) C at_130 rfl rfl ?_
            refine g_iconst (pc' := 133) (z := (2 : Int32)) C at_132 rfl rfl ?_
            refine g_icmpN (xi := 2) (yi := 2) (pc2 := 136) C at_133 rfl rfl rfl (by decide) ?_
            refine g_aload (pc' := 138) C at_136 rfl rfl rfl ?_
            refine g_virtual (y := (⟨"com/example/triplecore/triplecore/query/PatternQueue", "poll", "()I"⟩ : MethodName)) (a := a1) (pc' := 141) (k' := 4) (n' := 13) (S := []) (as := []) C at_138 rfl (hw _ (List.mem_of_getElem? (i := 48) rfl)) (hw _ (List.mem_of_getElem? (i := 50) rfl)) (hw _ (List.mem_of_getElem? (i := 2) rfl)) (hw _ (List.mem_of_getElem? (i := 52) rfl)) (hw _ (List.mem_of_getElem? (i := 49) rfl)) (hw _ (List.mem_of_getElem? (i := 51) rfl)) (by decide) B.exa (lenOf pd_6 rfl) (con_poll_G_1 W.l Z a0 hw a1 b1 b2 b3 q01 q02 q03 q12 q13 q23 h13 B) rfl rfl (Nat.le_of_ble_eq_true rfl) (Nat.le_of_ble_eq_true rfl) rfl rfl (Nat.le_of_ble_eq_true rfl) (Nat.le_of_ble_eq_true rfl) (allS w_a1 (allS w_b1 (allS w_b2 all0))) fun vh15 h15 qh15 Kh15 => ?_
            rcases qh15 with ⟨rfl, B⟩
            ·
              show Go W Q h15 4 13 141 #[.val (.int p0), .val (.int p1), .val (.int p2), .val (.int p3), .val (.int p4), .val (.ref a1), .val (.int (0 : Int32)), .val (.int (1 : Int32)), .val (.int (1 : Int32)), .val (.int (2 : Int32)), .val (.int (2 : Int32)), .val (.int (2 : Int32)), .val (.int (-1 : Int32)), .val (.int (-1 : Int32)), .unset, .unset, .unset] [(.int (1 : Int32))]
              refine g_istore (pc' := 143) (L' := #[.val (.int p0), .val (.int p1), .val (.int p2), .val (.int p3), .val (.int p4), .val (.ref a1), .val (.int (0 : Int32)), .val (.int (1 : Int32)), .val (.int (1 : Int32)), .val (.int (2 : Int32)), .val (.int (2 : Int32)), .val (.int (2 : Int32)), .val (.int (1 : Int32)), .val (.int (-1 : Int32)), .unset, .unset, .unset]) C at_141 rfl rfl ?_
              refine g_iload (pc' := 145) C at_143 rfl rfl ?_
              refine g_iconst (pc' := 146) (z := (3 : Int32)) C at_145 rfl rfl ?_
              refine g_icmpY (xi := 2) (yi := 3) (pc1 := 156) C at_146 (by decide) rfl rfl rfl (by decide) ?_
              refine g_iload (pc' := 158) C at_156 rfl rfl ?_
              refine g_ifY (xi := 0) (pc1 := 180) C at_158 (by decide) rfl rfl (by decide) ?_
              refine g_iconst (pc' := 181) (z := (0 : Int32)) C at_180 rfl rfl ?_
              refine g_istore (pc' := 183) (L' := #[.val (.int p0), .val (.int p1), .val (.int p2), .val (.int p3), .val (.int p4), .val (.ref a1), .val (.int (0 : Int32)), .val (.int (1 : Int32)), .val (.int (1 : Int32)), .val (.int (2 : Int32)), .val (.int (2 : Int32)), .val (.int (2 : Int32)), .val (.int (1 : Int32)), .val (.int (-1 : Int32)), .val (.int (0 : Int32)), .unset, .unset]) C at_181 rfl rfl ?_
              refine g_iload (pc' := 185) C at_183 rfl rfl ?_
              refine g_ifN (xi := 1) (pc2 := 188) C at_185 rfl rfl (by decide) ?_
              refine g_iload (pc' := 190) C at_188 rfl rfl ?_
              refine g_iconst (pc' := 191) (z := (1 : Int32)) C at_190 rfl rfl ?_
              refine g_icmpN (xi := 2) (yi := 1) (pc2 := 194) C at_191 rfl rfl rfl (by decide) ?_
              refine g_iload (pc' := 196) C at_194 rfl rfl ?_
              refine g_iconst (pc' := 197) (z := (1 : Int32)) C at_196 rfl rfl ?_
              refine g_icmpY (xi := 1) (yi := 1) (pc1 := 210) C at_197 (by decide) rfl rfl rfl (by decide) ?_
              refine g_iconst (pc' := 211) (z := (0 : Int32)) C at_210 rfl rfl ?_
              refine g_istore (pc' := 213) (L' := #[.val (.int p0), .val (.int p1), .val (.int p2), .val (.int p3), .val (.int p4), .val (.ref a1), .val (.int (0 : Int32)), .val (.int (1 : Int32)), .val (.int (1 : Int32)), .val (.int (2 : Int32)), .val (.int (2 : Int32)), .val (.int (2 : Int32)), .val (.int (1 : Int32)), .val (.int (-1 : Int32)), .val (.int (0 : Int32)), .val (.int (0 : Int32)), .unset]) C at_211 rfl rfl ?_
              refine g_iload (pc' := 215) C at_213 rfl rfl ?_
              refine g_ifN (xi := 1) (pc2 := 218) C at_215 rfl rfl (by decide) ?_
              refine g_iload (pc' := 220) C at_218 rfl rfl ?_
              refine g_iconst (pc' := 221) (z := (2 : Int32)) C at_220 rfl rfl ?_
              refine g_icmpY (xi := 2) (yi := 2) (pc1 := 240) C at_221 (by decide) rfl rfl rfl (by decide) ?_
              refine g_iconst (pc' := 241) (z := (0 : Int32)) C at_240 rfl rfl ?_
              refine g_istore (pc' := 243) (L' := #[.val (.int p0), .val (.int p1), .val (.int p2), .val (.int p3), .val (.int p4), .val (.ref a1), .val (.int (0 : Int32)), .val (.int (1 : Int32)), .val (.int (1 : Int32)), .val (.int (2 : Int32)), .val (.int (2 : Int32)), .val (.int (2 : Int32)), .val (.int (1 : Int32)), .val (.int (-1 : Int32)), .val (.int (0 : Int32)), .val (.int (0 : Int32)), .val (.int (0 : Int32))]) C at_241 rfl rfl ?_
              refine g_aload (pc' := 245) C at_243 rfl rfl rfl ?_
              refine g_iconst (pc' := 246) (z := (0 : Int32)) C at_245 rfl rfl ?_
              obtain ⟨x0, x1, x2, l0, l1, l2, c0, c1, c2, g, O, A1, A2, A3⟩ := B
              have gs : l0.toInt < 0 ∧ l1.toInt < 0 ∧ l2.toInt < 0 := by
                rcases g with ⟨rfl, rfl, rfl⟩ <;> decide
              refine g_virtualP (y := (⟨"com/example/triplecore/triplecore/query/PatternQueue", "contains", "(I)Z"⟩ : MethodName)) (a := a1) (pc' := 249) (k' := 4) (n' := 13) (S := []) (as := [(.int (0 : Int32))]) C at_246 rfl (hw _ (List.mem_of_getElem? (i := 24) rfl)) (hw _ (List.mem_of_getElem? (i := 26) rfl)) (hw _ (List.mem_of_getElem? (i := 2) rfl)) (hw _ (List.mem_of_getElem? (i := 28) rfl)) (hw _ (List.mem_of_getElem? (i := 25) rfl)) (hw _ (List.mem_of_getElem? (i := 27) rfl)) (by decide) O.1 (lenOf pd_5 rfl) (con_has0 W.l Z a0 hw a1 b1 b2 b3 (0 : Int32) (0 : Int32) l0 0 _ rfl rfl gs.1 h15 O A2) rfl rfl (Nat.le_of_ble_eq_true rfl) (Nat.le_of_ble_eq_true rfl) rfl rfl (Nat.le_of_ble_eq_true rfl) (Nat.le_of_ble_eq_true rfl) (S1 := [(.int (0 : Int32))]) rfl ?_
              refine g_iload (pc' := 251) C at_249 rfl rfl ?_
              refine g_icmpN (xi := 0) (yi := 0) (pc2 := 254) C at_251 rfl rfl rfl (by decide) ?_
              refine g_aload (pc' := 256) C at_254 rfl rfl rfl ?_
              refine g_iconst (pc' := 257) (z := (1 : Int32)) C at_256 rfl rfl ?_
              refine g_virtualP (y := (⟨"com/example/triplecore/triplecore/query/PatternQueue", "contains", "(I)Z"⟩ : MethodName)) (a := a1) (pc' := 260) (k' := 4) (n' := 13) (S := []) (as := [(.int (1 : Int32))]) C at_257 rfl (hw _ (List.mem_of_getElem? (i := 24) rfl)) (hw _ (List.mem_of_getElem? (i := 26) rfl)) (hw _ (List.mem_of_getElem? (i := 2) rfl)) (hw _ (List.mem_of_getElem? (i := 28) rfl)) (hw _ (List.mem_of_getElem? (i := 25) rfl)) (hw _ (List.mem_of_getElem? (i := 27) rfl)) (by decide) O.1 (lenOf pd_5 rfl) (con_has0 W.l Z a0 hw a1 b1 b2 b3 (0 : Int32) (1 : Int32) l1 1 _ rfl rfl gs.2.1 h15 O A2) rfl rfl (Nat.le_of_ble_eq_true rfl) (Nat.le_of_ble_eq_true rfl) rfl rfl (Nat.le_of_ble_eq_true rfl) (Nat.le_of_ble_eq_true rfl) (S1 := [(.int (0 : Int32))]) rfl ?_
              refine g_iload (pc' := 262) C at_260 rfl rfl ?_
              refine g_icmpN (xi := 0) (yi := 0) (pc2 := 265) C at_262 rfl rfl rfl (by decide) ?_
              refine g_aload (pc' := 267) C at_265 rfl rfl rfl ?_
              refine g_iconst (pc' := 268) (z := (2 : Int32)) C at_267 rfl rfl ?_
              refine g_virtualP (y := (⟨"com/example/triplecore/triplecore/query/PatternQueue", "contains", "(I)Z"⟩ : MethodName)) (a := a1) (pc' := 271) (k' := 4) (n' := 13) (S := []) (as := [(.int (2 : Int32))]) C at_268 rfl (hw _ (List.mem_of_getElem? (i := 24) rfl)) (hw _ (List.mem_of_getElem? (i := 26) rfl)) (hw _ (List.mem_of_getElem? (i := 2) rfl)) (hw _ (List.mem_of_getElem? (i := 28) rfl)) (hw _ (List.mem_of_getElem? (i := 25) rfl)) (hw _ (List.mem_of_getElem? (i := 27) rfl)) (by decide) O.1 (lenOf pd_5 rfl) (con_has0 W.l Z a0 hw a1 b1 b2 b3 (0 : Int32) (2 : Int32) l2 2 _ rfl rfl gs.2.2 h15 O A2) rfl rfl (Nat.le_of_ble_eq_true rfl) (Nat.le_of_ble_eq_true rfl) rfl rfl (Nat.le_of_ble_eq_true rfl) (Nat.le_of_ble_eq_true rfl) (S1 := [(.int (0 : Int32))]) rfl ?_
              refine g_iload (pc' := 273) C at_271 rfl rfl ?_
              refine g_icmpN (xi := 0) (yi := 0) (pc2 := 276) C at_273 rfl rfl rfl (by decide) ?_
              refine g_iconst (pc' := 277) (z := (1 : Int32)) C at_276 rfl rfl ?_
              refine g_goto C at_277 (by decide) (pc' := 281) rfl ?_
              refine g_retN C (by simp) at_281 (by decide) (by decide) ?_
              subst hQ
              rfl
  ·
    refine g_iload (pc' := 54) C at_52 rfl rfl ?_
    refine g_ifN (xi := 1) (pc2 := 57) C at_54 rfl rfl (by decide) ?_
    refine g_aload (pc' := 59) C at_57 rfl rfl rfl ?_
    refine g_iconst (pc' := 60) (z := (0 : Int32)) C at_59 rfl rfl ?_
    refine g_iloadN (pc' := 61) C at_60 rfl rfl ?_
    refine g_virtual (y := (⟨"com/example/triplecore/triplecore/query/PatternQueue", "add", "(II)V"⟩ : MethodName)) (a := a1) (pc' := 64) (k' := 4) (n' := 13) (S := []) (as := [(.int (0 : Int32)), (.int p1)]) C at_61 rfl (hw _ (List.mem_of_getElem? (i := 29) rfl)) (hw _ (List.mem_of_getElem? (i := 31) rfl)) (hw _ (List.mem_of_getElem? (i := 2) rfl)) (hw _ (List.mem_of_getElem? (i := 33) rfl)) (hw _ (List.mem_of_getElem? (i := 30) rfl)) (hw _ (List.mem_of_getElem? (i := 32) rfl)) (by decide) B.exa (lenOf pd_0 rfl) (con_add_G_e_0 W.l Z a0 hw a1 b1 b2 b3 p1 q01 q02 q03 q12 q13 q23 h2 B) rfl rfl (Nat.le_of_ble_eq_true rfl) (Nat.le_of_ble_eq_true rfl) rfl rfl (Nat.le_of_ble_eq_true rfl) (Nat.le_of_ble_eq_true rfl) (allS w_a1 (allS w_b1 (allS w_b2 (allS w_b3 all0)))) fun vh16 h16 qh16 Kh16 => ?_
    obtain ⟨rfl, B⟩ := qh16
    show Go W Q h16 4 13 64 #[.val (.int p0), .val (.int p1), .val (.int p2), .val (.int p3), .val (.int p4), .val (.ref a1), .val (.int (1 : Int32)), .val (.int z3), .val (.int z4), .val (.int (0 : Int32)), .unset, .unset, .unset, .unset, .unset, .unset, .unset] []
    refine g_iinc (pc' := 67) (z := (1 : Int32)) (L' := #[.val (.int p0), .val (.int p1), .val (.int p2), .val (.int p3), .val (.int p4), .val (.ref a1), .val (.int (1 : Int32)), .val (.int z3), .val (.int z4), .val (.int (1 : Int32)), .unset, .unset, .unset, .unset, .unset, .unset, .unset]) C at_64 rfl rfl rfl rfl ?_
    have sp_z3 : z3 = 0 ∨ z3 = 1 := by
      rw [e_z3]
      unfold b2i
      split
      · exact Or.inr rfl
      · exact Or.inl rfl
    clear e_z3
    rcases sp_z3 with sp_z3 | sp_z3 <;> subst sp_z3
    ·
      refine g_iload (pc' := 69) C at_67 rfl rfl ?_
      refine g_ifY (xi := 0) (pc1 := 82) C at_69 (by decide) rfl rfl (by decide) ?_
      have sp_z4 : z4 = 0 ∨ z4 = 1 := by
        rw [e_z4]
        unfold b2i
        split
        · exact Or.inr rfl
        · exact Or.inl rfl
      clear e_z4
      rcases sp_z4 with sp_z4 | sp_z4 <;> subst sp_z4
      ·
        refine g_iload (pc' := 84) C at_82 rfl rfl ?_
        refine g_ifY (xi := 0) (pc1 := 97) C at_84 (by decide) rfl rfl (by decide) ?_
        refine g_iload (pc' := 99) C at_97 rfl rfl ?_
        refine g_iconst (pc' := 100) (z := (3 : Int32)) C at_99 rfl rfl ?_
        refine g_iand (pc' := 101) C at_100 rfl ?_
        refine g_iload (pc' := 103) C at_101 rfl rfl ?_
        refine g_static (y := (⟨"java/lang/Math", "min", "(II)I"⟩ : MethodName)) (pc' := 106) (k' := 4) (n' := 13) (S := []) (as := [(.int (p4 &&& (3 : Int32))), (.int (1 : Int32))]) C at_103 rfl (hw _ (List.mem_of_getElem? (i := 20) rfl)) (hw _ (List.mem_of_getElem? (i := 21) rfl)) (hw _ (List.mem_of_getElem? (i := 22) rfl)) (hw _ (List.mem_of_getElem? (i := 23) rfl)) (by decide) (lenOf pd_4 rfl) (con_min W.l Z a0 hw (p4 &&& (3 : Int32)) (1 : Int32) h16) rfl rfl (Nat.le_of_ble_eq_true rfl) (Nat.le_of_ble_eq_true rfl) rfl rfl (Nat.le_of_ble_eq_true rfl) (Nat.le_of_ble_eq_true rfl) all0 fun vh17 h17 qh17 Kh17 => ?_
        obtain ⟨kk, rfl, eh, e_kk⟩ := qh17
        subst eh
        show Go W Q h16 4 13 106 #[.val (.int p0), .val (.int p1), .val (.int p2), .val (.int p3), .val (.int p4), .val (.ref a1), .val (.int (1 : Int32)), .val (.int (0 : Int32)), .val (.int (0 : Int32)), .val (.int (1 : Int32)), .unset, .unset, .unset, .unset, .unset, .unset, .unset] [(.int kk)]
        refine g_istore (pc' := 108) (L' := #[.val (.int p0), .val (.int p1), .val (.int p2), .val (.int p3), .val (.int p4), .val (.ref a1), .val (.int (1 : Int32)), .val (.int (0 : Int32)), .val (.int (0 : Int32)), .val (.int (1 : Int32)), .val (.int kk), .unset, .unset, .unset, .unset, .unset, .unset]) C at_106 rfl rfl ?_
        have sp_kk : kk = 0 ∨ kk = 1 := by
          have y1 := c_mask p4 3 2 (by decide) (by decide)
          have z0 : (0 : Int32).toInt = 0 := rfl
          have z1 : (1 : Int32).toInt = 1 := rfl
          have z2 : (2 : Int32).toInt = 2 := rfl
          have z3 : (3 : Int32).toInt = 3 := rfl
          rcases (by omega : kk.toInt = 0 ∨ kk.toInt = 1) with y | y
          · exact Or.inl (Int32.toInt_inj.mp (by omega))
          · exact Or.inr (Int32.toInt_inj.mp (by omega))
        clear e_kk
        rcases sp_kk with sp_kk | sp_kk <;> subst sp_kk
        ·
          refine g_iconst (pc' := 109) (z := (-1 : Int32)) C at_108 rfl rfl ?_
          refine g_istore (pc' := 111) (L' := #[.val (.int p0), .val (.int p1), .val (.int p2), .val (.int p3), .val (.int p4), .val (.ref a1), .val (.int (1 : Int32)), .val (.int (0 : Int32)), .val (.int (0 : Int32)), .val (.int (1 : Int32)), .val (.int (0 : Int32)), .val (.int (-1 : Int32)), .unset, .unset, .unset, .unset, .unset]) C at_109 rfl rfl ?_
          refine g_iconst (pc' := 112) (z := (-1 : Int32)) C at_111 rfl rfl ?_
          refine g_istore (pc' := 114) (L' := #[.val (.int p0), .val (.int p1), .val (.int p2), .val (.int p3), .val (.int p4), .val (.ref a1), .val (.int (1 : Int32)), .val (.int (0 : Int32)), .val (.int (0 : Int32)), .val (.int (1 : Int32)), .val (.int (0 : Int32)), .val (.int (-1 : Int32)), .val (.int (-1 : Int32)), .unset, .unset, .unset, .unset]) C at_112 rfl rfl ?_
          refine g_iconst (pc' := 115) (z := (-1 : Int32)) C at_114 rfl rfl ?_
          refine g_istore (pc' := 117) (L' := #[.val (.int p0), .val (.int p1), .val (.int p2), .val (.int p3), .val (.int p4), .val (.ref a1), .val (.int (1 : Int32)), .val (.int (0 : Int32)), .val (.int (0 : Int32)), .val (.int (1 : Int32)), .val (.int (0 : Int32)), .val (.int (-1 : Int32)), .val (.int (-1 : Int32)), .val (.int (-1 : Int32)), .unset, .unset, .unset]) C at_115 rfl rfl ?_
          refine g_iload (pc' := 119) C at_117 rfl rfl ?_
          refine g_iconst (pc' := 120) (z := (1 : Int32)) C at_119 rfl rfl ?_
          refine g_icmpY (xi := 0) (yi := 1) (pc1 := 130) C at_120 (by decide) rfl rfl rfl (by decide) ?_
          refine g_iload (pc' := 132) C at_130 rfl rfl ?_
          refine g_iconst (pc' := 133) (z := (2 : Int32)) C at_132 rfl rfl ?_
          refine g_icmpY (xi := 0) (yi := 2) (pc1 := 143) C at_133 (by decide) rfl rfl rfl (by decide) ?_
          refine g_iload (pc' := 145) C at_143 rfl rfl ?_
          refine g_iconst (pc' := 146) (z := (3 : Int32)) C at_145 rfl rfl ?_
          refine g_icmpY (xi := 0) (yi := 3) (pc1 := 156) C at_146 (by decide) rfl rfl rfl (by decide) ?_
          refine g_iload (pc' := 158) C at_156 rfl rfl ?_
          refine g_ifN (xi := 1) (pc2 := 161) C at_158 rfl rfl (by decide) ?_
          refine g_iload (pc' := 163) C at_161 rfl rfl ?_
          refine g_ifN (xi := -1) (pc2 := 166) C at_163 rfl rfl (by decide) ?_
          refine g_iload (pc' := 168) C at_166 rfl rfl ?_
          refine g_ifN (xi := -1) (pc2 := 171) C at_168 rfl rfl (by decide) ?_
          refine g_iload (pc' := 173) C at_171 rfl rfl ?_
          refine g_ifN (xi := -1) (pc2 := 176) C at_173 rfl rfl (by decide) ?_
          refine g_iconst (pc' := 177) (z := (1 : Int32)) C at_176 rfl rfl ?_
          refine g_goto C at_177 (by decide) (pc' := 181) rfl ?_
          refine g_istore (pc' := 183) (L' := #[.val (.int p0), .val (.int p1), .val (.int p2), .val (.int p3), .val (.int p4), .val (.ref a1), .val (.int (1 : Int32)), .val (.int (0 : Int32)), .val (.int (0 : Int32)), .val (.int (1 : Int32)), .val (.int (0 : Int32)), .val (.int (-1 : Int32)), .val (.int (-1 : Int32)), .val (.int (-1 : Int32)), .val (.int (1 : Int32)), .unset, .unset]) C at_181 rfl rfl ?_
          refine g_iload (pc' := 185) C at_183 rfl rfl ?_
          refine g_ifY (xi := 0) (pc1 := 210) C at_185 (by decide) rfl rfl (by decide) ?_
          refine g_iconst (pc' := 211) (z := (0 : Int32)) C at_210 rfl rfl ?_
          refine g_istore (pc' := 213) (L' := #[.val (.int p0), .val (.int p1), .val (.int p2), .val (.int p3), .val (.int p4), .val (.ref a1), .val (.int (1 : Int32)), .val (.int (0 : Int32)), .val (.int (0 : Int32)), .val (.int (1 : Int32)), .val (.int (0 : Int32)), .val (.int (-1 : Int32)), .val (.int (-1 : Int32)), .val (.int (-1 : Int32)), .val (.int (1 : Int32)), .val (.int (0 : Int32)), .unset]) C at_211 rfl rfl ?_
          refine g_iload (pc' := 215) C at_213 rfl rfl ?_
          refine g_ifY (xi := 0) (pc1 := 240) C at_215 (by decide) rfl rfl (by decide) ?_
          refine g_iconst (pc' := 241) (z := (0 : Int32)) C at_240 rfl rfl ?_
          refine g_istore (pc' := 243) (L' := #[.val (.int p0), .val (.int p1), .val (.int p2), .val (.int p3), .val (.int p4), .val (.ref a1), .val (.int (1 : Int32)), .val (.int (0 : Int32)), .val (.int (0 : Int32)), .val (.int (1 : Int32)), .val (.int (0 : Int32)), .val (.int (-1 : Int32)), .val (.int (-1 : Int32)), .val (.int (-1 : Int32)), .val (.int (1 : Int32)), .val (.int (0 : Int32)), .val (.int (0 : Int32))]) C at_241 rfl rfl ?_
          refine g_aload (pc' := 245) C at_243 rfl rfl rfl ?_
          refine g_iconst (pc' := 246) (z := (0 : Int32)) C at_245 rfl rfl ?_
          obtain ⟨x0, x1, x2, l0, l1, l2, c0, c1, c2, g, O, A1, A2, A3⟩ := B
          have gs : ¬ l0.toInt < 0 ∧ l1.toInt < 0 ∧ l2.toInt < 0 := by
            rcases g with ⟨rfl, rfl, rfl, rfl⟩ <;> decide
          refine g_virtualP (y := (⟨"com/example/triplecore/triplecore/query/PatternQueue", "contains", "(I)Z"⟩ : MethodName)) (a := a1) (pc' := 249) (k' := 4) (n' := 13) (S := []) (as := [(.int (0 : Int32))]) C at_246 rfl (hw _ (List.mem_of_getElem? (i := 24) rfl)) (hw _ (List.mem_of_getElem? (i := 26) rfl)) (hw _ (List.mem_of_getElem? (i := 2) rfl)) (hw _ (List.mem_of_getElem? (i := 28) rfl)) (hw _ (List.mem_of_getElem? (i := 25) rfl)) (hw _ (List.mem_of_getElem? (i := 27) rfl)) (by decide) O.1 (lenOf pd_5 rfl) (con_has1 W.l Z a0 hw a1 b1 b2 b3 (1 : Int32) (0 : Int32) l0 0 _ rfl rfl gs.1 h16 O A2) rfl rfl (Nat.le_of_ble_eq_true rfl) (Nat.le_of_ble_eq_true rfl) rfl rfl (Nat.le_of_ble_eq_true rfl) (Nat.le_of_ble_eq_true rfl) (S1 := [(.int (1 : Int32))]) rfl ?_
          refine g_iload (pc' := 251) C at_249 rfl rfl ?_
          refine g_icmpN (xi := 1) (yi := 1) (pc2 := 254) C at_251 rfl rfl rfl (by decide) ?_
          refine g_aload (pc' := 256) C at_254 rfl rfl rfl ?_
          refine g_iconst (pc' := 257) (z := (1 : Int32)) C at_256 rfl rfl ?_
          refine g_virtualP (y := (⟨"com/example/triplecore/triplecore/query/PatternQueue", "contains", "(I)Z"⟩ : MethodName)) (a := a1) (pc' := 260) (k' := 4) (n' := 13) (S := []) (as := [(.int (1 : Int32))]) C at_257 rfl (hw _ (List.mem_of_getElem? (i := 24) rfl)) (hw _ (List.mem_of_getElem? (i := 26) rfl)) (hw _ (List.mem_of_getElem? (i := 2) rfl)) (hw _ (List.mem_of_getElem? (i := 28) rfl)) (hw _ (List.mem_of_getElem? (i := 25) rfl)) (hw _ (List.mem_of_getElem? (i := 27) rfl)) (by decide) O.1 (lenOf pd_5 rfl) (con_has0 W.l Z a0 hw a1 b1 b2 b3 (1 : Int32) (1 : Int32) l1 1 _ rfl rfl gs.2.1 h16 O A2) rfl rfl (Nat.le_of_ble_eq_true rfl) (Nat.le_of_ble_eq_true rfl) rfl rfl (Nat.le_of_ble_eq_true rfl) (Nat.le_of_ble_eq_true rfl) (S1 := [(.int (0 : Int32))]) rfl ?_
          refine g_iload (pc' := 262) C at_260 rfl rfl ?_
          refine g_icmpN (xi := 0) (yi := 0) (pc2 := 265) C at_262 rfl rfl rfl (by decide) ?_
          refine g_aload (pc' := 267) C at_265 rfl rfl rfl ?_
          refine g_iconst (pc' := 268) (z := (2 : Int32)) C at_267 rfl rfl ?_
          refine g_virtualP (y := (⟨"com/example/triplecore/triplecore/query/PatternQueue", "contains", "(I)Z"⟩ : MethodName)) (a := a1) (pc' := 271) (k' := 4) (n' := 13) (S := []) (as := [(.int (2 : Int32))]) C at_268 rfl (hw _ (List.mem_of_getElem? (i := 24) rfl)) (hw _ (List.mem_of_getElem? (i := 26) rfl)) (hw _ (List.mem_of_getElem? (i := 2) rfl)) (hw _ (List.mem_of_getElem? (i := 28) rfl)) (hw _ (List.mem_of_getElem? (i := 25) rfl)) (hw _ (List.mem_of_getElem? (i := 27) rfl)) (by decide) O.1 (lenOf pd_5 rfl) (con_has0 W.l Z a0 hw a1 b1 b2 b3 (1 : Int32) (2 : Int32) l2 2 _ rfl rfl gs.2.2 h16 O A2) rfl rfl (Nat.le_of_ble_eq_true rfl) (Nat.le_of_ble_eq_true rfl) rfl rfl (Nat.le_of_ble_eq_true rfl) (Nat.le_of_ble_eq_true rfl) (S1 := [(.int (0 : Int32))]) rfl ?_
          refine g_iload (pc' := 273) C at_271 rfl rfl ?_
          refine g_icmpN (xi := 0) (yi := 0) (pc2 := 276) C at_273 rfl rfl rfl (by decide) ?_
          refine g_iconst (pc' := 277) (z := (1 : Int32)) C at_276 rfl rfl ?_
          refine g_goto C at_277 (by decide) (pc' := 281) rfl ?_
          refine g_retN C (by simp) at_281 (by decide) (by decide) ?_
          subst hQ
          rfl
        ·
          refine g_iconst (pc' := 109) (z := (-1 : Int32)) C at_108 rfl rfl ?_
          refine g_istore (pc' := 111) (L' := #[.val (.int p0), .val (.int p1), .val (.int p2), .val (.int p3), .val (.int p4), .val (.ref a1), .val (.int (1 : Int32)), .val (.int (0 : Int32)), .val (.int (0 : Int32)), .val (.int (1 : Int32)), .val (.int (1 : Int32)), .val (.int (-1 : Int32)), .unset, .unset, .unset, .unset, .unset]) C at_109 rfl rfl ?_
          refine g_iconst (pc' := 112) (z := (-1 : Int32)) C at_111 rfl rfl ?_
          refine g_istore (pc' := 114) (L' := #[.val (.int p0), .val (.int p1), .val (.int p2), .val (.int p3), .val (.int p4), .val (.ref a1), .val (.int (1 : Int32)), .val (.int (0 : Int32)), .val (.int (0 : Int32)), .val (.int (1 : Int32)), .val (.int (1 : Int32)), .val (.int (-1 : Int32)), .val (.int (-1 : Int32)), .unset, .unset, .unset, .unset]) C at_112 rfl rfl ?_
          refine g_iconst (pc' := 115) (z := (-1 : Int32)) C at_114 rfl rfl ?_
          refine g_istore (pc' := 117) (L' := #[.val (.int p0), .val (.int p1), .val (.int p2), .val (.int p3), .val (.int p4), .val (.ref a1), .val (.int (1 : Int32)), .val (.int (0 : Int32)), .val (.int (0 : Int32)), .val (.int (1 : Int32)), .val (.int (1 : Int32)), .val (.int (-1 : Int32)), .val (.int (-1 : Int32)), .val (.int (-1 : Int32)), .unset, .unset, .unset]) C at_115 rfl rfl ?_
          refine g_iload (pc' := 119) C at_117 rfl rfl ?_
          refine g_iconst (pc' := 120) (z := (1 : Int32)) C at_119 rfl rfl ?_
          refine g_icmpN (xi := 1) (yi := 1) (pc2 := 123) C at_120 rfl rfl rfl (by decide) ?_
          refine g_aload (pc' := 125) C at_123 rfl rfl rfl ?_
          refine g_virtual (y := (⟨"com/example/triplecore/triplecore/query/PatternQueue", "poll", "()I"⟩ : MethodName)) (a := a1) (pc' := 128) (k' := 4) (n' := 13) (S := []) (as := []) C at_125 rfl (hw _ (List.mem_of_getElem? (i := 48) rfl)) (hw _ (List.mem_of_getElem? (i := 50) rfl)) (hw _ (List.mem_of_getElem? (i := 2) rfl)) (hw _ (List.mem_of_getElem? (i := 52) rfl)) (hw _ (List.mem_of_getElem? (i := 49) rfl)) (hw _ (List.mem_of_getElem? (i := 51) rfl)) (by decide) B.exa (lenOf pd_6 rfl) (con_poll_G_0 W.l Z a0 hw a1 b1 b2 b3 q01 q02 q03 q12 q13 q23 h16 B) rfl rfl (Nat.le_of_ble_eq_true rfl) (Nat.le_of_ble_eq_true rfl) rfl rfl (Nat.le_of_ble_eq_true rfl) (Nat.le_of_ble_eq_true rfl) (allS w_a1 (allS w_b1 (allS w_b2 all0))) fun vh18 h18 qh18 Kh18 => ?_
          rcases qh18 with ⟨rfl, B⟩
          ·
            show Go W Q h18 4 13 128 #[.val (.int p0), .val (.int p1), .val (.int p2), .val (.int p3), .val (.int p4), .val (.ref a1), .val (.int (1 : Int32)), .val (.int (0 : Int32)), .val (.int (0 : Int32)), .val (.int (1 : Int32)), .val (.int (1 : Int32)), .val (.int (-1 : Int32)), .val (.int (-1 : Int32)), .val (.int (-1 : Int32)), .unset, .unset, .unset] [(.int (0 : Int32))]
            refine g_istore (pc' := 130) (L' := #[.val (.int p0), .val (.int p1), .val (.int p2), .val (.int p3), .val (.int p4), .val (.ref a1), .val (.int (1 : Int32)), .val (.int (0 : Int32)), .val (.int (0 : Int32)), .val (.int (1 : Int32)), .val (.int (1 : Int32)), .val (.int (0 : Int32)), .val (.int (-1 : Int32)), .val (.int (-1 : Int32)), .unset, .unset, .unset]) C at_128 rfl rfl ?_
            refine g_iload (pc' := 132) C at_130 rfl rfl ?_
            refine g_iconst (pc' := 133) (z := (2 : Int32)) C at_132 rfl rfl ?_
            refine g_icmpY (xi := 1) (yi := 2) (pc1 := 143) C at_133 (by decide) rfl rfl rfl (by decide) ?_
            refine g_iload (pc' := 145) C at_143 rfl rfl ?_
            refine g_iconst (pc' := 146) (z := (3 : Int32)) C at_145 rfl rfl ?_
            refine g_icmpY (xi := 1) (yi := 3) (pc1 := 156) C at_146 (by decide) rfl rfl rfl (by decide) ?_
            refine g_iload (pc' := 158) C at_156 rfl rfl ?_
            refine g_ifN (xi := 1) (pc2 := 161) C at_158 rfl rfl (by decide) ?_
            refine g_iload (pc' := 163) C at_161 rfl rfl ?_
            refine g_ifY (xi := 0) (pc1 := 180) C at_163 (by decide) rfl rfl (by decide) ?_
            refine g_iconst (pc' := 181) (z := (0 : Int32)) C at_180 rfl rfl ?_
            refine g_istore (pc' := 183) (L' := #[.val (.int p0), .val (.int p1), .val (.int p2), .val (.int p3), .val (.int p4), .val (.ref a1), .val (.int (1 : Int32)), .val (.int (0 : Int32)), .val (.int (0 : Int32)), .val (.int (1 : Int32)), .val (.int (1 : Int32)), .val (.int (0 : Int32)), .val (.int (-1 : Int32)), .val (.int (-1 : Int32)), .val (.int (0 : Int32)), .unset, .unset]) C at_181 rfl rfl ?_
            refine g_iload (pc' := 185) C at_183 rfl rfl ?_
            refine g_ifY (xi := 0) (pc1 := 210) C at_185 (by decide) rfl rfl (by decide) ?_
            refine g_iconst (pc' := 211) (z := (0 : Int32)) C at_210 rfl rfl ?_
            refine g_istore (pc' := 213) (L' := #[.val (.int p0), .val (.int p1), .val (.int p2), .val (.int p3), .val (.int p4), .val (.ref a1), .val (.int (1 : Int32)), .val (.int (0 : Int32)), .val (.int (0 : Int32)), .val (.int (1 : Int32)), .val (.int (1 : Int32)), .val (.int (0 : Int32)), .val (.int (-1 : Int32)), .val (.int (-1 : Int32)), .val (.int (0 : Int32)), .val (.int (0 : Int32)), .unset]) C at_211 rfl rfl ?_
            refine g_iload (pc' := 215) C at_213 rfl rfl ?_
            refine g_ifY (xi := 0) (pc1 := 240) C at_215 (by decide) rfl rfl (by decide) ?_
            refine g_iconst (pc' := 241) (z := (0 : Int32)) C at_240 rfl rfl ?_
            refine g_istore (pc' := 243) (L' := #[.val (.int p0), .val (.int p1), .val (.int p2), .val (.int p3), .val (.int p4), .val (.ref a1), .val (.int (1 : Int32)), .val (.int (0 : Int32)), .val (.int (0 : Int32)), .val (.int (1 : Int32)), .val (.int (1 : Int32)), .val (.int (0 : Int32)), .val (.int (-1 : Int32)), .val (.int (-1 : Int32)), .val (.int (0 : Int32)), .val (.int (0 : Int32)), .val (.int (0 : Int32))]) C at_241 rfl rfl ?_
            refine g_aload (pc' := 245) C at_243 rfl rfl rfl ?_
            refine g_iconst (pc' := 246) (z := (0 : Int32)) C at_245 rfl rfl ?_
            obtain ⟨x0, x1, x2, l0, l1, l2, c0, c1, c2, g, O, A1, A2, A3⟩ := B
            have gs : l0.toInt < 0 ∧ l1.toInt < 0 ∧ l2.toInt < 0 := by
              rcases g with ⟨rfl, rfl, rfl⟩ <;> decide
            refine g_virtualP (y := (⟨"com/example/triplecore/triplecore/query/PatternQueue", "contains", "(I)Z"⟩ : MethodName)) (a := a1) (pc' := 249) (k' := 4) (n' := 13) (S := []) (as := [(.int (0 : Int32))]) C at_246 rfl (hw _ (List.mem_of_getElem? (i := 24) rfl)) (hw _ (List.mem_of_getElem? (i := 26) rfl)) (hw _ (List.mem_of_getElem? (i := 2) rfl)) (hw _ (List.mem_of_getElem? (i := 28) rfl)) (hw _ (List.mem_of_getElem? (i := 25) rfl)) (hw _ (List.mem_of_getElem? (i := 27) rfl)) (by decide) O.1 (lenOf pd_5 rfl) (con_has0 W.l Z a0 hw a1 b1 b2 b3 (0 : Int32) (0 : Int32) l0 0 _ rfl rfl gs.1 h18 O A2) rfl rfl (Nat.le_of_ble_eq_true rfl) (Nat.le_of_ble_eq_true rfl) rfl rfl (Nat.le_of_ble_eq_true rfl) (Nat.le_of_ble_eq_true rfl) (S1 := [(.int (0 : Int32))]) rfl ?_
            refine g_iload (pc' := 251) C at_249 rfl rfl ?_
            refine g_icmpN (xi := 0) (yi := 0) (pc2 := 254) C at_251 rfl rfl rfl (by decide) ?_
            refine g_aload (pc' := 256) C at_254 rfl rfl rfl ?_
            refine g_iconst (pc' := 257) (z := (1 : Int32)) C at_256 rfl rfl ?_
            refine g_virtualP (y := (⟨"com/example/triplecore/triplecore/query/PatternQueue", "contains", "(I)Z"⟩ : MethodName)) (a := a1) (pc' := 260) (k' := 4) (n' := 13) (S := []) (as := [(.int (1 : Int32))]) C at_257 rfl (hw _ (List.mem_of_getElem? (i := 24) rfl)) (hw _ (List.mem_of_getElem? (i := 26) rfl)) (hw _ (List.mem_of_getElem? (i := 2) rfl)) (hw _ (List.mem_of_getElem? (i := 28) rfl)) (hw _ (List.mem_of_getElem? (i := 25) rfl)) (hw _ (List.mem_of_getElem? (i := 27) rfl)) (by decide) O.1 (lenOf pd_5 rfl) (con_has0 W.l Z a0 hw a1 b1 b2 b3 (0 : Int32) (1 : Int32) l1 1 _ rfl rfl gs.2.1 h18 O A2) rfl rfl (Nat.le_of_ble_eq_true rfl) (Nat.le_of_ble_eq_true rfl) rfl rfl (Nat.le_of_ble_eq_true rfl) (Nat.le_of_ble_eq_true rfl) (S1 := [(.int (0 : Int32))]) rfl ?_
            refine g_iload (pc' := 262) C at_260 rfl rfl ?_
            refine g_icmpN (xi := 0) (yi := 0) (pc2 := 265) C at_262 rfl rfl rfl (by decide) ?_
            refine g_aload (pc' := 267) C at_265 rfl rfl rfl ?_
            refine g_iconst (pc' := 268) (z := (2 : Int32)) C at_267 rfl rfl ?_
            refine g_virtualP (y := (⟨"com/example/triplecore/triplecore/query/PatternQueue", "contains", "(I)Z"⟩ : MethodName)) (a := a1) (pc' := 271) (k' := 4) (n' := 13) (S := []) (as := [(.int (2 : Int32))]) C at_268 rfl (hw _ (List.mem_of_getElem? (i := 24) rfl)) (hw _ (List.mem_of_getElem? (i := 26) rfl)) (hw _ (List.mem_of_getElem? (i := 2) rfl)) (hw _ (List.mem_of_getElem? (i := 28) rfl)) (hw _ (List.mem_of_getElem? (i := 25) rfl)) (hw _ (List.mem_of_getElem? (i := 27) rfl)) (by decide) O.1 (lenOf pd_5 rfl) (con_has0 W.l Z a0 hw a1 b1 b2 b3 (0 : Int32) (2 : Int32) l2 2 _ rfl rfl gs.2.2 h18 O A2) rfl rfl (Nat.le_of_ble_eq_true rfl) (Nat.le_of_ble_eq_true rfl) rfl rfl (Nat.le_of_ble_eq_true rfl) (Nat.le_of_ble_eq_true rfl) (S1 := [(.int (0 : Int32))]) rfl ?_
            refine g_iload (pc' := 273) C at_271 rfl rfl ?_
            refine g_icmpN (xi := 0) (yi := 0) (pc2 := 276) C at_273 rfl rfl rfl (by decide) ?_
            refine g_iconst (pc' := 277) (z := (1 : Int32)) C at_276 rfl rfl ?_
            refine g_goto C at_277 (by decide) (pc' := 281) rfl ?_
            refine g_retN C (by simp) at_281 (by decide) (by decide) ?_
            subst hQ
            rfl
      ·
        refine g_iload (pc' := 84) C at_82 rfl rfl ?_
        refine g_ifN (xi := 1) (pc2 := 87) C at_84 rfl rfl (by decide) ?_
        refine g_aload (pc' := 89) C at_87 rfl rfl rfl ?_
        refine g_iconst (pc' := 90) (z := (2 : Int32)) C at_89 rfl rfl ?_
        refine g_iloadN (pc' := 91) C at_90 rfl rfl ?_
        refine g_virtual (y := (⟨"com/example/triplecore/triplecore/query/PatternQueue", "add", "(II)V"⟩ : MethodName)) (a := a1) (pc' := 94) (k' := 4) (n' := 13) (S := []) (as := [(.int (2 : Int32)), (.int p3)]) C at_91 rfl (hw _ (List.mem_of_getElem? (i := 29) rfl)) (hw _ (List.mem_of_getElem? (i := 31) rfl)) (hw _ (List.mem_of_getElem? (i := 2) rfl)) (hw _ (List.mem_of_getElem? (i := 33) rfl)) (hw _ (List.mem_of_getElem? (i := 30) rfl)) (hw _ (List.mem_of_getElem? (i := 32) rfl)) (by decide) B.exa (lenOf pd_0 rfl) (con_add_G_0_2 W.l Z a0 hw a1 b1 b2 b3 p3 q01 q02 q03 q12 q13 q23 h16 B) rfl rfl (Nat.le_of_ble_eq_true rfl) (Nat.le_of_ble_eq_true rfl) rfl rfl (Nat.le_of_ble_eq_true rfl) (Nat.le_of_ble_eq_true rfl) (allS w_a1 (allS w_b1 (allS w_b2 (allS w_b3 all0)))) fun vh19 h19 qh19 Kh19 => ?_
        obtain ⟨rfl, B⟩ := qh19
        show Go W Q h19 4 13 94 #[.val (.int p0), .val (.int p1), .val (.int p2), .val (.int p3), .val (.int p4), .val (.ref a1), .val (.int (1 : Int32)), .val (.int (0 : Int32)), .val (.int (1 : Int32)), .val (.int (1 : Int32)), .unset, .unset, .unset, .unset, .unset, .unset, .unset] []
        refine g_iinc (pc' := 97) (z := (2 : Int32)) (L' := #[.val (.int p0), .val (.int p1), .val (.int p2), .val (.int p3), .val (.int p4), .val (.ref a1), .val (.int (1 : Int32)), .val (.int (0 : Int32)), .val (.int (1 : Int32)), .val (.int (2 : Int32)), .unset, .unset, .unset, .unset, .unset, .unset, .unset]) C at_94 rfl rfl rfl rfl ?_
        refine g_iload (pc' := 99) C at_97 rfl rfl ?_
        refine g_iconst (pc' := 100) (z := (3 : Int32)) C at_99 rfl rfl ?_
        refine g_iand (pc' := 101) C at_100 rfl ?_
        refine g_iload (pc' := 103) C at_101 rfl rfl ?_
        refine g_static (y := (⟨"java/lang/Math", "min", "(II)I"⟩ : MethodName)) (pc' := 106) (k' := 4) (n' := 13) (S := []) (as := [(.int (p4 &&& (3 : Int32))), (.int (2 : Int32))]) C at_103 rfl (hw _ (List.mem_of_getElem? (i := 20) rfl)) (hw _ (List.mem_of_getElem? (i := 21) rfl)) (hw _ (List.mem_of_getElem? (i := 22) rfl)) (hw _ (List.mem_of_getElem? (i := 23) rfl)) (by decide) (lenOf pd_4 rfl) (con_min W.l Z a0 hw (p4 &&& (3 : Int32)) (2 : Int32) h19) rfl rfl (Nat.le_of_ble_eq_true rfl) (Nat.le_of_ble_eq_true rfl) rfl rfl (Nat.le_of_ble_eq_true rfl) (Nat.le_of_ble_eq_true rfl) all0 fun vh20 h20 qh20 Kh20 => ?_
        obtain ⟨kk, rfl, eh, e_kk⟩ := qh20
        subst eh
        show Go W Q h19 4 13 106 #[.val (.int p0), .val (.int p1), .val (.int p2), .val (.int p3), .val (.int p4), .val (.ref a1), .val (.int (1 : Int32)), .val (.int (0 : Int32)), .val (.int (1 : Int32)), .val (.int (2 : Int32)), .unset, .unset, .unset, .unset, .unset, .unset, .unset] [(.int kk)]
        refine g_istore (pc' := 108) (L' := #[.val (.int p0), .val (.int p1), .val (.int p2), .val (.int p3), .val (.int p4), .val (.ref a1), .val (.int (1 : Int32)), .val (.int (0 : Int32)), .val (.int (1 : Int32)), .val (.int (2 : Int32)), .val (.int kk), .unset, .unset, .unset, .unset, .unset, .unset]) C at_106 rfl rfl ?_
        have sp_kk : kk = 0 ∨ kk = 1 ∨ kk = 2 := by
          have y1 := c_mask p4 3 2 (by decide) (by decide)
          have z0 : (0 : Int32).toInt = 0 := rfl
          have z1 : (1 : Int32).toInt = 1 := rfl
          have z2 : (2 : Int32).toInt = 2 := rfl
          have z3 : (3 : Int32).toInt = 3 := rfl
          rcases (by omega : kk.toInt = 0 ∨ kk.toInt = 1 ∨ kk.toInt = 2) with y | y | y
          · exact Or.inl (Int32.toInt_inj.mp (by omega))
          · exact Or.inr (Or.inl (Int32.toInt_inj.mp (by omega)))
          · exact Or.inr (Or.inr (Int32.toInt_inj.mp (by omega)))
        clear e_kk
        rcases sp_kk with sp_kk | sp_kk | sp_kk <;> subst sp_kk
        ·
          refine g_iconst (pc' := 109) (z := (-1 : Int32)) C at_108 rfl rfl ?_
          refine g_istore (pc' := 111) (L' := #[.val (.int p0), .val (.int p1), .val (.int p2), .val (.int p3), .val (.int p4), .val (.ref a1), .val (.int (1 : Int32)), .val (.int (0 : Int32)), .val (.int (1 : Int32)), .val (.int (2 : Int32)), .val (.int (0 : Int32)), .val (.int (-1 : Int32)), .unset, .unset, .unset, .unset, .unset]) C at_109 rfl rfl ?_
          refine g_iconst (pc' := 112) (z := (-1 : Int32)) C at_111 rfl rfl ?_
          refine g_istore (pc' := 114) (L' := #[.val (.int p0), .val (.int p1), .val (.int p2), .val (.int p3), .val (.int p4), .val (.ref a1), .val (.int (1 : Int32)), .val (.int (0 : Int32)), .val (.int (1 : Int32)), .val (.int (2 : Int32)), .val (.int (0 : Int32)), .val (.int (-1 : Int32)), .val (.int (-1 : Int32)), .unset, .unset, .unset, .unset]) C at_112 rfl rfl ?_
          refine g_iconst (pc' := 115) (z := (-1 : Int32)) C at_114 rfl rfl ?_
          refine g_istore (pc' := 117) (L' := #[.val (.int p0), .val (.int p1), .val (.int p2), .val (.int p3), .val (.int p4), .val (.ref a1), .val (.int (1 : Int32)), .val (.int (0 : Int32)), .val (.int (1 : Int32)), .val (.int (2 : Int32)), .val (.int (0 : Int32)), .val (.int (-1 : Int32)), .val (.int (-1 : Int32)), .val (.int (-1 : Int32)), .unset, .unset, .unset]) C at_115 rfl rfl ?_
          refine g_iload (pc' := 119) C at_117 rfl rfl ?_
          refine g_iconst (pc' := 120) (z := (1 : Int32)) C at_119 rfl rfl ?_
          refine g_icmpY (xi := 0) (yi := 1) (pc1 := 130) C at_120 (by decide) rfl rfl rfl (by decide) ?_
          refine g_iload (pc' := 132) C at_130 rfl rfl ?_
          refine g_iconst (pc' := 133) (z := (2 : Int32)) C at_132 rfl rfl ?_
          refine g_icmpY (xi := 0) (yi := 2) (pc1 := 143) C at_133 (by decide) rfl rfl rfl (by decide) ?_
          refine g_iload (pc' := 145) C at_143 rfl rfl ?_
          refine g_iconst (pc' := 146) (z := (3 : Int32)) C at_145 rfl rfl ?_
          refine g_icmpY (xi := 0) (yi := 3) (pc1 := 156) C at_146 (by decide) rfl rfl rfl (by decide) ?_
          refine g_iload (pc' := 158) C at_156 rfl rfl ?_
          refine g_ifN (xi := 1) (pc2 := 161) C at_158 rfl rfl (by decide) ?_
          refine g_iload (pc' := 163) C at_161 rfl rfl ?_
          refine g_ifN (xi := -1) (pc2 := 166) C at_163 rfl rfl (by decide) ?_
          refine g_iload (pc' := 168) C at_166 rfl rfl ?_
          refine g_ifN (xi := -1) (pc2 := 171) C at_168 rfl rfl (by decide) ?_
          refine g_iload (pc' := 173) C at_171 rfl rfl ?_
          refine g_ifN (xi := -1) (pc2 := 176) C at_173 rfl rfl (by decide) ?_
          refine g_iconst (pc' := 177) (z := (1 : Int32)) C at_176 rfl rfl ?_
          refine g_goto C at_177 (by decide) (pc' := 181) rfl ?_
          refine g_istore (pc' := 183) (L' := #[.val (.int p0), .val (.int p1), .val (.int p2), .val (.int p3), .val (.int p4), .val (.ref a1), .val (.int (1 : Int32)), .val (.int (0 : Int32)), .val (.int (1 : Int32)), .val (.int (2 : Int32)), .val (.int (0 : Int32)), .val (.int (-1 : Int32)), .val (.int (-1 : Int32)), .val (.int (-1 : Int32)), .val (.int (1 : Int32)), .unset, .unset]) C at_181 rfl rfl ?_
          refine g_iload (pc' := 185) C at_183 rfl rfl ?_
          refine g_ifY (xi := 0) (pc1 := 210) C at_185 (by decide) rfl rfl (by decide) ?_
          refine g_iconst (pc' := 211) (z := (0 : Int32)) C at_210 rfl rfl ?_
          refine g_istore (pc' := 213) (L' := #[.val (.int p0), .val (.int p1), .val (.int p2), .val (.int p3), .val (.int p4), .val (.ref a1), .val (.int (1 : Int32)), .val (.int (0 : Int32)), .val (.int (1 : Int32)), .val (.int (2 : Int32)), .val (.int (0 : Int32)), .val (.int (-1 : Int32)), .val (.int (-1 : Int32)), .val (.int (-1 : Int32)), .val (.int (1 : Int32)), .val (.int (0 : Int32)), .unset]) C at_211 rfl rfl ?_
          refine g_iload (pc' := 215) C at_213 rfl rfl ?_
          refine g_ifN (xi := 1) (pc2 := 218) C at_215 rfl rfl (by decide) ?_
          refine g_iload (pc' := 220) C at_218 rfl rfl ?_
          refine g_iconst (pc' := 221) (z := (2 : Int32)) C at_220 rfl rfl ?_
          refine g_icmpN (xi := -1) (yi := 2) (pc2 := 224) C at_221 rfl rfl rfl (by decide) ?_
          refine g_iload (pc' := 226) C at_224 rfl rfl ?_
          refine g_iconst (pc' := 227) (z := (2 : Int32)) C at_226 rfl rfl ?_
          refine g_icmpN (xi := -1) (yi := 2) (pc2 := 230) C at_227 rfl rfl rfl (by decide) ?_
          refine g_iload (pc' := 232) C at_230 rfl rfl ?_
          refine g_iconst (pc' := 233) (z := (2 : Int32)) C at_232 rfl rfl ?_
          refine g_icmpN (xi := -1) (yi := 2) (pc2 := 236) C at_233 rfl rfl rfl (by decide) ?_
          refine g_iconst (pc' := 237) (z := (1 : Int32)) C at_236 rfl rfl ?_
          refine g_goto C at_237 (by decide) (pc' := 241) rfl ?_
          refine g_istore (pc' := 243) (L' := #[.val (.int p0), .val (.int p1), .val (.int p2), .val (.int p3), .val (.int p4), .val (.ref a1), .val (.int (1 : Int32)), .val (.int (0 : Int32)), .val (.int (1 : Int32)), .val (.int (2 : Int32)), .val (.int (0 : Int32)), .val (.int (-1 : Int32)), .val (.int (-1 : Int32)), .val (.int (-1 : Int32)), .val (.int (1 : Int32)), .val (.int (0 : Int32)), .val (.int (1 : Int32))]) C at_241 rfl rfl ?_
          refine g_aload (pc' := 245) C at_243 rfl rfl rfl ?_
          refine g_iconst (pc' := 246) (z := (0 : Int32)) C at_245 rfl rfl ?_
          obtain ⟨x0, x1, x2, l0, l1, l2, c0, c1, c2, g, O, A1, A2, A3⟩ := B
          have gs : ¬ l0.toInt < 0 ∧ l1.toInt < 0 ∧ ¬ l2.toInt < 0 := by
            rcases g with ⟨rfl, rfl, rfl, rfl, rfl⟩ | ⟨rfl, rfl, rfl, rfl, rfl⟩ <;> decide
          refine g_virtualP (y := (⟨"com/example/triplecore/triplecore/query/PatternQueue", "contains", "(I)Z"⟩ : MethodName)) (a := a1) (pc' := 249) (k' := 4) (n' := 13) (S := []) (as := [(.int (0 : Int32))]) C at_246 rfl (hw _ (List.mem_of_getElem? (i := 24) rfl)) (hw _ (List.mem_of_getElem? (i := 26) rfl)) (hw _ (List.mem_of_getElem? (i := 2) rfl)) (hw _ (List.mem_of_getElem? (i := 28) rfl)) (hw _ (List.mem_of_getElem? (i := 25) rfl)) (hw _ (List.mem_of_getElem? (i := 27) rfl)) (by decide) O.1 (lenOf pd_5 rfl) (con_has1 W.l Z a0 hw a1 b1 b2 b3 (2 : Int32) (0 : Int32) l0 0 _ rfl rfl gs.1 h19 O A2) rfl rfl (Nat.le_of_ble_eq_true rfl) (Nat.le_of_ble_eq_true rfl) rfl rfl (Nat.le_of_ble_eq_true rfl) (Nat.le_of_ble_eq_true rfl) (S1 := [(.int (1 : Int32))]) rfl ?_
          refine g_iload (pc' := 251) C at_249 rfl rfl ?_
          refine g_icmpN (xi := 1) (yi := 1) (pc2 := 254) C at_251 rfl rfl rfl (by decide) ?_
          refine g_aload (pc' := 256) C at_254 rfl rfl rfl ?_
          refine g_iconst (pc' := 257) (z := (1 : Int32)) C at_256 rfl rfl ?_
          refine g_virtualP (y := (⟨"com/example/triplecore/triplecore/query/PatternQueue", "contains", "(I)Z"⟩ : MethodName)) (a := a1) (pc' := 260) (k' := 4) (n' := 13) (S := []) (as := [(.int (1 : Int32))]) C at_257 rfl (hw _ (List.mem_of_getElem? (i := 24) rfl)) (hw _ (List.mem_of_getElem? (i := 26) rfl)) (hw _ (List.mem_of_getElem? (i := 2) rfl)) (hw _ (List.mem_of_getElem? (i := 28) rfl)) (hw _ (List.mem_of_getElem? (i := 25) rfl)) (hw _ (List.mem_of_getElem? (i := 27) rfl)) (by decide) O.1 (lenOf pd_5 rfl) (con_has0 W.l Z a0 hw a1 b1 b2 b3 (2 : Int32) (1 : Int32) l1 1 _ rfl rfl gs.2.1 h19 O A2) rfl rfl (Nat.le_of_ble_eq_true rfl) (Nat.le_of_ble_eq_true rfl) rfl rfl (Nat.le_of_ble_eq_true rfl) (Nat.le_of_ble_eq_true rfl) (S1 := [(.int (0 : Int32))]) rfl ?_
          refine g_iload (pc' := 262) C at_260 rfl rfl ?_
          refine g_icmpN (xi := 0) (yi := 0) (pc2 := 265) C at_262 rfl rfl rfl (by decide) ?_
          refine g_aload (pc' := 267) C at_265 rfl rfl rfl ?_
          refine g_iconst (pc' := 268) (z := (2 : Int32)) C at_267 rfl rfl ?_
          refine g_virtualP (y := (⟨"com/example/triplecore/triplecore/query/PatternQueue", "contains", "(I)Z"⟩ : MethodName)) (a := a1) (pc' := 271) (k' := 4) (n' := 13) (S := []) (as := [(.int (2 : Int32))]) C at_268 rfl (hw _ (List.mem_of_getElem? (i := 24) rfl)) (hw _ (List.mem_of_getElem? (i := 26) rfl)) (hw _ (List.mem_of_getElem? (i := 2) rfl)) (hw _ (List.mem_of_getElem? (i := 28) rfl)) (hw _ (List.mem_of_getElem? (i := 25) rfl)) (hw _ (List.mem_of_getElem? (i := 27) rfl)) (by decide) O.1 (lenOf pd_5 rfl) (con_has1 W.l Z a0 hw a1 b1 b2 b3 (2 : Int32) (2 : Int32) l2 2 _ rfl rfl gs.2.2 h19 O A2) rfl rfl (Nat.le_of_ble_eq_true rfl) (Nat.le_of_ble_eq_true rfl) rfl rfl (Nat.le_of_ble_eq_true rfl) (Nat.le_of_ble_eq_true rfl) (S1 := [(.int (1 : Int32))]) rfl ?_
          refine g_iload (pc' := 273) C at_271 rfl rfl ?_
          refine g_icmpN (xi := 1) (yi := 1) (pc2 := 276) C at_273 rfl rfl rfl (by decide) ?_
          refine g_iconst (pc' := 277) (z := (1 : Int32)) C at_276 rfl rfl ?_
          refine g_goto C at_277 (by decide) (pc' := 281) rfl ?_
          refine g_retN C (by simp) at_281 (by decide) (by decide) ?_
          subst hQ
          rfl
        ·
          refine g_iconst (pc' := 109) (z := (-1 : Int32)) C at_108 rfl rfl ?_
          refine g_istore (pc' := 111) (L' := #[.val (.int p0), .val (.int p1), .val (.int p2), .val (.int p3), .val (.int p4), .val (.ref a1), .val (.int (1 : Int32)), .val (.int (0 : Int32)), .val (.int (1 : Int32)), .val (.int (2 : Int32)), .val (.int (1 : Int32)), .val (.int (-1 : Int32)), .unset, .unset, .unset, .unset, .unset]) C at_109 rfl rfl ?_
          refine g_iconst (pc' := 112) (z := (-1 : Int32)) C at_111 rfl rfl ?_
          refine g_istore (pc' := 114) (L' := #[.val (.int p0), .val (.int p1), .val (.int p2), .val (.int p3), .val (.int p4), .val (.ref a1), .val (.int (1 : Int32)), .val (.int (0 : Int32)), .val (.int (1 : Int32)), .val (.int (2 : Int32)), .val (.int (1 : Int32)), .val (.int (-1 : Int32)), .val (.int (-1 : Int32)), .unset, .unset, .unset, .unset]) C at_112 rfl rfl ?_
          refine g_iconst (pc' := 115) (z := (-1 : Int32)) C at_114 rfl rfl ?_
          refine g_istore (pc' := 117) (L' := #[.val (.int p0), .val (.int p1), .val (.int p2), .val (.int p3), .val (.int p4), .val (.ref a1), .val (.int (1 : Int32)), .val (.int (0 : Int32)), .val (.int (1 : Int32)), .val (.int (2 : Int32)), .val (.int (1 : Int32)), .val (.int (-1 : Int32)), .val (.int (-1 : Int32)), .val (.int (-1 : Int32)), .unset, .unset, .unset]) C at_115 rfl rfl ?_
          refine g_iload (pc' := 119) C at_117 rfl rfl ?_
          refine g_iconst (pc' := 120) (z := (1 : Int32)) C at_119 rfl rfl ?_
          refine g_icmpN (xi := 1) (yi := 1) (pc2 := 123) C at_120 rfl rfl rfl (by decide) ?_
          refine g_aload (pc' := 125) C at_123 rfl rfl rfl ?_
          refine g_virtual (y := (⟨"com/example/triplecore/triplecore/query/PatternQueue", "poll", "()I"⟩ : MethodName)) (a := a1) (pc' := 128) (k' := 4) (n' := 13) (S := []) (as := []) C at_125 rfl (hw _ (List.mem_of_getElem? (i := 48) rfl)) (hw _ (List.mem_of_getElem? (i := 50) rfl)) (hw _ (List.mem_of_getElem? (i := 2) rfl)) (hw _ (List.mem_of_getElem? (i := 52) rfl)) (hw _ (List.mem_of_getElem? (i := 49) rfl)) (hw _ (List.mem_of_getElem? (i := 51) rfl)) (by decide) B.exa (lenOf pd_6 rfl) (con_poll_G_02 W.l Z a0 hw a1 b1 b2 b3 q01 q02 q03 q12 q13 q23 h19 B) rfl rfl (Nat.le_of_ble_eq_true rfl) (Nat.le_of_ble_eq_true rfl) rfl rfl (Nat.le_of_ble_eq_true rfl) (Nat.le_of_ble_eq_true rfl) (allS w_a1 (allS w_b1 (allS w_b2 all0))) fun vh21 h21 qh21 Kh21 => ?_
          rcases qh21 with ⟨rfl, B⟩ | ⟨rfl, B⟩
          ·
            show Go W Q h21 4 13 128 #[.val (.int p0), .val (.int p1), .val (.int p2), .val (.int p3), .val (.int p4), .val (.ref a1), .val (.int (1 : Int32)), .val (.int (0 : Int32)), .val (.int (1 : Int32)), .val (.int (2 : Int32)), .val (.int (1 : Int32)), .val (.int (-1 : Int32)), .val (.int (-1 : Int32)), .val (.int (-1 : Int32)), .unset, .unset, .unset] [(.int (0 : Int32))]
            refine g_istore (pc' := 130) (L' := #[.val (.int p0), .val (.int p1), .val (.int p2), .val (.int p3), .val (.int p4), .val (.ref a1), .val (.int (1 : Int32)), .val (.int (0 : Int32)), .val (.int (1 : Int32)), .val (.int (2 : Int32)), .val (.int (1 : Int32)), .val (.int (0 : Int32)), .val (.int (-1 : Int32)), .val (.int (-1 : Int32)), .unset, .unset, .unset]) C at_128 rfl rfl ?_
            refine g_iload (pc' := 132) C at_130 rfl rfl ?_
            refine g_iconst (pc' := 133) (z := (2 : Int32)) C at_132 rfl rfl ?_
            refine g_icmpY (xi := 1) (yi := 2) (pc1 := 143) C at_133 (by decide) rfl rfl rfl (by decide) ?_
            refine g_iload (pc' := 145) C at_143 rfl rfl ?_
            refine g_iconst (pc' := 146) (z := (3 : Int32)) C at_145 rfl rfl ?_
            refine g_icmpY (xi := 1) (yi := 3) (pc1 := 156) C at_146 (by decide) rfl rfl rfl (by decide) ?_
            refine g_iload (pc' := 158) C at_156 rfl rfl ?_
            refine g_ifN (xi := 1) (pc2 := 161) C at_158 rfl rfl (by decide) ?_
            refine g_iload (pc' := 163) C at_161 rfl rfl ?_
            refine g_ifY (xi := 0) (pc1 := 180) C at_163 (by decide) rfl rfl (by decide) ?_
            refine g_iconst (pc' := 181) (z := (0 : Int32)) C at_180 rfl rfl ?_
            refine g_istore (pc' := 183) (L' := #[.val (.int p0), .val (.int p1), .val (.int p2), .val (.int p3), .val (.int p4), .val (.ref a1), .val (.int (1 : Int32)), .val (.int (0 : Int32)), .val (.int (1 : Int32)), .val (.int (2 : Int32)), .val (.int (1 : Int32)), .val (.int (0 : Int32)), .val (.int (-1 : Int32)), .val (.int (-1 : Int32)), .val (.int (0 : Int32)), .unset, .unset]) C at_181 rfl rfl ?_
            refine g_iload (pc' := 185) C at_183 rfl rfl ?_
            refine g_ifY (xi := 0) (pc1 := 210) C at_185 (by decide) rfl rfl (by decide) ?_
            refine g_iconst (pc' := 211) (z := (0 : Int32)) C at_210 rfl rfl ?_
            refine g_istore (pc' := 213) (L' := #[.val (.int p0), .val (.int p1), .val (.int p2), .val (.int p3), .val (.int p4), .val (.ref a1), .val (.int (1 : Int32)), .val (.int (0 : Int32)), .val (.int (1 : Int32)), .val (.int (2 : Int32)), .val (.int (1 : Int32)), .val (.int (0 : Int32)), .val (.int (-1 : Int32)), .val (.int (-1 : Int32)), .val (.int (0 : Int32)), .val (.int (0 : Int32)), .unset]) C at_211 rfl rfl ?_
            refine g_iload (pc' := 215) C at_213 rfl rfl ?_
            refine g_ifN (xi := 1) (pc2 := 218) C at_215 rfl rfl (by decide) ?_
            refine g_iload (pc' := 220) C at_218 rfl rfl ?_
            refine g_iconst (pc' := 221) (z := (2 : Int32)) C at_220 rfl rfl ?_
            refine g_icmpN (xi := 0) (yi := 2) (pc2 := 224) C at_221 rfl rfl rfl (by decide) ?_
            refine g_iload (pc' := 226) C at_224 rfl rfl ?_
            refine g_iconst (pc' := 227) (z := (2 : Int32)) C at_226 rfl rfl ?_
            refine g_icmpN (xi := -1) (yi := 2) (pc2 := 230) C at_227 rfl rfl rfl (by decide) ?_
            refine g_iload (pc' := 232) C at_230 rfl rfl ?_
            refine g_iconst (pc' := 233) (z := (2 : Int32)) C at_232 rfl rfl ?_
            refine g_icmpN (xi := -1) (yi := 2) (pc2 := 236) C at_233 rfl rfl rfl (by decide) ?_
            refine g_iconst (pc' := 237) (z := (1 : Int32)) C at_236 rfl rfl ?_
            refine g_goto C at_237 (by decide) (pc' := 241) rfl ?_
            refine g_istore (pc' := 243) (L' := #[.val (.int p0), .val (.int p1), .val (.int p2), .val (.int p3), .val (.int p4), .val (.ref a1), .val (.int (1 : Int32)), .val (.int (0 : Int32)), .val (.int (1 : Int32)), .val (.int (2 : Int32)), .val (.int (1 : Int32)), .val (.int (0 : Int32)), .val (.int (-1 : Int32)), .val (.int (-1 : Int32)), .val (.int (0 : Int32)), .val (.int (0 : Int32)), .val (.int (1 : Int32))]) C at_241 rfl rfl ?_
            refine g_aload (pc' := 245) C at_243 rfl rfl rfl ?_
            refine g_iconst (pc' := 246) (z := (0 : Int32)) C at_245 rfl rfl ?_
            obtain ⟨x0, x1, x2, l0, l1, l2, c0, c1, c2, g, O, A1, A2, A3⟩ := B
            have gs : l0.toInt < 0 ∧ l1.toInt < 0 ∧ ¬ l2.toInt < 0 := by
              rcases g with ⟨rfl, rfl, rfl, rfl⟩ <;> decide
            refine g_virtualP (y := (⟨"com/example/triplecore/triplecore/query/PatternQueue", "contains", "(I)Z"⟩ : MethodName)) (a := a1) (pc' := 249) (k' := 4) (n' := 13) (S := []) (as := [(.int (0 : Int32))]) C at_246 rfl (hw _ (List.mem_of_getElem? (i := 24) rfl)) (hw _ (List.mem_of_getElem? (i := 26) rfl)) (hw _ (List.mem_of_getElem? (i := 2) rfl)) (hw _ (List.mem_of_getElem? (i := 28) rfl)) (hw _ (List.mem_of_getElem? (i := 25) rfl)) (hw _ (List.mem_of_getElem? (i := 27) rfl)) (by decide) O.1 (lenOf pd_5 rfl) (con_has0 W.l Z a0 hw a1 b1 b2 b3 (1 : Int32) (0 : Int32) l0 0 _ rfl rfl gs.1 h21 O A2) rfl rfl (Nat.le_of_ble_eq_true rfl) (Nat.le_of_ble_eq_true rfl) rfl rfl (Nat.le_of_ble_eq_true rfl) (Nat.le_of_ble_eq_true rfl) (S1 := [(.int (0 : Int32))]) rfl ?_
            refine g_iload (pc' := 251) C at_249 rfl rfl ?_
            refine g_icmpN (xi := 0) (yi := 0) (pc2 := 254) C at_251 rfl rfl rfl (by decide) ?_
            refine g_aload (pc' := 256) C at_254 rfl rfl rfl ?_
            refine g_iconst (pc' := 257) (z := (1 : Int32)) C at_256 rfl rfl ?_
            refine g_virtualP (y := (⟨"com/example/triplecore/triplecore/query/PatternQueue", "contains", "(I)Z"⟩ : MethodName)) (a := a1) (pc' := 260) (k' := 4) (n' := 13) (S := []) (as := [(.int (1 : Int32))]) C at_257 rfl (hw _ (List.mem_of_getElem? (i := 24) rfl)) (hw _ (List.mem_of_getElem? (i := 26) rfl)) (hw _ (List.mem_of_getElem? (i := 2) rfl)) (hw _ (List.mem_of_getElem? (i := 28) rfl)) (hw _ (List.mem_of_getElem? (i := 25) rfl)) (hw _ (List.mem_of_getElem? (i := 27) rfl)) (by decide) O.1 (lenOf pd_5 rfl) (con_has0 W.l Z a0 hw a1 b1 b2 b3 (1 : Int32) (1 : Int32) l1 1 _ rfl rfl gs.2.1 h21 O A2) rfl rfl (Nat.le_of_ble_eq_true rfl) (Nat.le_of_ble_eq_true rfl) rfl rfl (Nat.le_of_ble_eq_true rfl) (Nat.le_of_ble_eq_true rfl) (S1 := [(.int (0 : Int32))]) rfl ?_
            refine g_iload (pc' := 262) C at_260 rfl rfl ?_
            refine g_icmpN (xi := 0) (yi := 0) (pc2 := 265) C at_262 rfl rfl rfl (by decide) ?_
            refine g_aload (pc' := 267) C at_265 rfl rfl rfl ?_
            refine g_iconst (pc' := 268) (z := (2 : Int32)) C at_267 rfl rfl ?_
            refine g_virtualP (y := (⟨"com/example/triplecore/triplecore/query/PatternQueue", "contains", "(I)Z"⟩ : MethodName)) (a := a1) (pc' := 271) (k' := 4) (n' := 13) (S := []) (as := [(.int (2 : Int32))]) C at_268 rfl (hw _ (List.mem_of_getElem? (i := 24) rfl)) (hw _ (List.mem_of_getElem? (i := 26) rfl)) (hw _ (List.mem_of_getElem? (i := 2) rfl)) (hw _ (List.mem_of_getElem? (i := 28) rfl)) (hw _ (List.mem_of_getElem? (i := 25) rfl)) (hw _ (List.mem_of_getElem? (i := 27) rfl)) (by decide) O.1 (lenOf pd_5 rfl) (con_has1 W.l Z a0 hw a1 b1 b2 b3 (1 : Int32) (2 : Int32) l2 2 _ rfl rfl gs.2.2 h21 O A2) rfl rfl (Nat.le_of_ble_eq_true rfl) (Nat.le_of_ble_eq_true rfl) rfl rfl (Nat.le_of_ble_eq_true rfl) (Nat.le_of_ble_eq_true rfl) (S1 := [(.int (1 : Int32))]) rfl ?_
            refine g_iload (pc' := 273) C at_271 rfl rfl ?_
            refine g_icmpN (xi := 1) (yi := 1) (pc2 := 276) C at_273 rfl rfl rfl (by decide) ?_
            refine g_iconst (pc' := 277) (z := (1 : Int32)) C at_276 rfl rfl ?_
            refine g_goto C at_277 (by decide) (pc' := 281) rfl ?_
            refine g_retN C (by simp) at_281 (by decide) (by decide) ?_
            subst hQ
            rfl
          ·
            show Go W Q h21 4 13 128 #[.val (.int p0), .val (.int p1), .val (.int p2), .val (.int p3), .val (.int p4), .val (.ref a1), .val (.int (1 : Int32)), .val (.int (0 : Int32)), .val (.int (1 : Int32)), .val (.int (2 : Int32)), .val (.int (1 : Int32)), .val (.int (-1 : Int32)), .val (.int (-1 : Int32)), .val (.int (-1 : Int32)), .unset, .unset, .unset] [(.int (2 : Int32))]
            refine g_istore (pc' := 130) (L' := #[.val (.int p0), .val (.int p1), .val (.int p2), .val (.int p3), .val (.int p4), .val (.ref a1), .val (.int (1 : Int32)), .val (.int (0 : Int32)), .val (.int (1 : Int32)), .val (.int (2 : Int32)), .val (.int (1 : Int32)), .val (.int (2 : Int32)), .val (.int (-1 : Int32)), .val (.int (-1 : Int32)), .unset, .unset, .unset]) C at_128 rfl rfl ?_
            refine g_iload (pc' := 132) C at_130 rfl rfl ?_
            refine g_iconst (pc' := 133) (z := (2 : Int32)) C at_132 rfl rfl ?_
            refine g_icmpY (xi := 1) (yi := 2) (pc1 := 143) C at_133 (by decide) rfl rfl rfl (by decide) ?_
            refine g_iload (pc' := 145) C at_143 rfl rfl ?_
            refine g_iconst (pc' := 146) (z := (3 : Int32)) C at_145 rfl rfl ?_
            refine g_icmpY (xi := 1) (yi := 3) (pc1 := 156) C at_146 (by decide) rfl rfl rfl (by decide) ?_
            refine g_iload (pc' := 158) C at_156 rfl rfl ?_
            refine g_ifN (xi := 1) (pc2 := 161) C at_158 rfl rfl (by decide) ?_
            refine g_iload (pc' := 163) C at_161 rfl rfl ?_
            refine g_ifN (xi := 2) (pc2 := 166) C at_163 rfl rfl (by decide) ?_
            refine g_iload (pc' := 168) C at_166 rfl rfl ?_
            refine g_ifN (xi := -1) (pc2 := 171) C at_168 rfl rfl (by decide) ?_
            refine g_iload (pc' := 173) C at_171 rfl rfl ?_
            refine g_ifN (xi := -1) (pc2 := 176) C at_173 rfl rfl (by decide) ?_
            refine g_iconst (pc' := 177) (z := (1 : Int32)) C at_176 rfl rfl ?_
            refine g_goto C at_177 (by decide) (pc' := 181) rfl ?_
            refine g_istore (pc' := 183) (L' := #[.val (.int p0), .val (.int p1), .val (.int p2), .val (.int p3), .val (.int p4), .val (.ref a1), .val (.int (1 : Int32)), .val (.int (0 : Int32)), .val (.int (1 : Int32)), .val (.int (2 : Int32)), .val (.int (1 : Int32)), .val (.int (2 : Int32)), .val (.int (-1 : Int32)), .val (.int (-1 : Int32)), .val (.int (1 : Int32)), .unset, .unset]) C at_181 rfl rfl ?_
            refine g_iload (pc' := 185) C at_183 rfl rfl ?_
            refine g_ifY (xi := 0) (pc1 := 210) C at_185 (by decide) rfl rfl (by decide) ?_
            refine g_iconst (pc' := 211) (z := (0 : Int32)) C at_210 rfl rfl ?_
            refine g_istore (pc' := 213) (L' := #[.val (.int p0), .val (.int p1), .val (.int p2), .val (.int p3), .val (.int p4), .val (.ref a1), .val (.int (1 : Int32)), .val (.int (0 : Int32)), .val (.int (1 : Int32)), .val (.int (2 : Int32)), .val (.int (1 : Int32)), .val (.int (2 : Int32)), .val (.int (-1 : Int32)), .val (.int (-1 : Int32)), .val (.int (1 : Int32)), .val (.int (0 : Int32)), .unset]) C at_211 rfl rfl ?_
            refine g_iload (pc' := 215) C at_213 rfl rfl ?_
            refine g_ifN (xi := 1) (pc2 := 218) C at_215 rfl rfl (by decide) ?_
            refine g_iload (pc' := 220) C at_218 rfl rfl ?_
            refine g_iconst (pc' := 221) (z := (2 : Int32)) C at_220 rfl rfl ?_
            refine g_icmpY (xi := 2) (yi := 2) (pc1 := 240) C at_221 (by decide) rfl rfl rfl (by decide) ?_
            refine g_iconst (pc' := 241) (z := (0 : Int32)) C at_240 rfl rfl ?_
            refine g_istore (pc' := 243) (L' := #[.val (.int p0), .val (.int p1), .val (.int p2), .val (.int p3), .val (.int p4), .val (.ref a1), .val (.int (1 : Int32)), .val (.int (0 : Int32)), .val (.int (1 : Int32)), .val (.int (2 : Int32)), .val (.int (1 : Int32)), .val (.int (2 : Int32)), .val (.int (-1 : Int32)), .val (.int (-1 : Int32)), .val (.int (1 : Int32)), .val (.int (0 : Int32)), .val (.int (0 : Int32))]) C at_241 rfl rfl ?_
            refine g_aload (pc' := 245) C at_243 rfl rfl rfl ?_
            refine g_iconst (pc' := 246) (z := (0 : Int32)) C at_245 rfl rfl ?_
            obtain ⟨x0, x1, x2, l0, l1, l2, c0, c1, c2, g, O, A1, A2, A3⟩ := B
            have gs : ¬ l0.toInt < 0 ∧ l1.toInt < 0 ∧ l2.toInt < 0 := by
              rcases g with ⟨rfl, rfl, rfl, rfl⟩ <;> decide
            refine g_virtualP (y := (⟨"com/example/triplecore/triplecore/query/PatternQueue", "contains", "(I)Z"⟩ : MethodName)) (a := a1) (pc' := 249) (k' := 4) (n' := 13) (S := []) (as := [(.int (0 : Int32))]) C at_246 rfl (hw _ (List.mem_of_getElem? (i := 24) rfl)) (hw _ (List.mem_of_getElem? (i := 26) rfl)) (hw _ (List.mem_of_getElem? (i := 2) rfl)) (hw _ (List.mem_of_getElem? (i := 28) rfl)) (hw _ (List.mem_of_getElem? (i := 25) rfl)) (hw _ (List.mem_of_getElem? (i := 27) rfl)) (by decide) O.1 (lenOf pd_5 rfl) (con_has1 W.l Z a0 hw a1 b1 b2 b3 (1 : Int32) (0 : Int32) l0 0 _ rfl rfl gs.1 h21 O A2) rfl rfl (Nat.le_of_ble_eq_true rfl) (Nat.le_of_ble_eq_true rfl) rfl rfl (Nat.le_of_ble_eq_true rfl) (Nat.le_of_ble_eq_true rfl) (S1 := [(.int (1 : Int32))]) rfl ?_
            refine g_iload (pc' := 251) C at_249 rfl rfl ?_
            refine g_icmpN (xi := 1) (yi := 1) (pc2 := 254) C at_251 rfl rfl rfl (by decide) ?_
            refine g_aload (pc' := 256) C at_254 rfl rfl rfl ?_
            refine g_iconst (pc' := 257) (z := (1 : Int32)) C at_256 rfl rfl ?_
            refine g_virtualP (y := (⟨"com/example/triplecore/triplecore/query/PatternQueue", "contains", "(I)Z"⟩ : MethodName)) (a := a1) (pc' := 260) (k' := 4) (n' := 13) (S := []) (as := [(.int (1 : Int32))]) C at_257 rfl (hw _ (List.mem_of_getElem? (i := 24) rfl)) (hw _ (List.mem_of_getElem? (i := 26) rfl)) (hw _ (List.mem_of_getElem? (i := 2) rfl)) (hw _ (List.mem_of_getElem? (i := 28) rfl)) (hw _ (List.mem_of_getElem? (i := 25) rfl)) (hw _ (List.mem_of_getElem? (i := 27) rfl)) (by decide) O.1 (lenOf pd_5 rfl) (con_has0 W.l Z a0 hw a1 b1 b2 b3 (1 : Int32) (1 : Int32) l1 1 _ rfl rfl gs.2.1 h21 O A2) rfl rfl (Nat.le_of_ble_eq_true rfl) (Nat.le_of_ble_eq_true rfl) rfl rfl (Nat.le_of_ble_eq_true rfl) (Nat.le_of_ble_eq_true rfl) (S1 := [(.int (0 : Int32))]) rfl ?_
            refine g_iload (pc' := 262) C at_260 rfl rfl ?_
            refine g_icmpN (xi := 0) (yi := 0) (pc2 := 265) C at_262 rfl rfl rfl (by decide) ?_
            refine g_aload (pc' := 267) C at_265 rfl rfl rfl ?_
            refine g_iconst (pc' := 268) (z := (2 : Int32)) C at_267 rfl rfl ?_
            refine g_virtualP (y := (⟨"com/example/triplecore/triplecore/query/PatternQueue", "contains", "(I)Z"⟩ : MethodName)) (a := a1) (pc' := 271) (k' := 4) (n' := 13) (S := []) (as := [(.int (2 : Int32))]) C at_268 rfl (hw _ (List.mem_of_getElem? (i := 24) rfl)) (hw _ (List.mem_of_getElem? (i := 26) rfl)) (hw _ (List.mem_of_getElem? (i := 2) rfl)) (hw _ (List.mem_of_getElem? (i := 28) rfl)) (hw _ (List.mem_of_getElem? (i := 25) rfl)) (hw _ (List.mem_of_getElem? (i := 27) rfl)) (by decide) O.1 (lenOf pd_5 rfl) (con_has0 W.l Z a0 hw a1 b1 b2 b3 (1 : Int32) (2 : Int32) l2 2 _ rfl rfl gs.2.2 h21 O A2) rfl rfl (Nat.le_of_ble_eq_true rfl) (Nat.le_of_ble_eq_true rfl) rfl rfl (Nat.le_of_ble_eq_true rfl) (Nat.le_of_ble_eq_true rfl) (S1 := [(.int (0 : Int32))]) rfl ?_
            refine g_iload (pc' := 273) C at_271 rfl rfl ?_
            refine g_icmpN (xi := 0) (yi := 0) (pc2 := 276) C at_273 rfl rfl rfl (by decide) ?_
            refine g_iconst (pc' := 277) (z := (1 : Int32)) C at_276 rfl rfl ?_
            refine g_goto C at_277 (by decide) (pc' := 281) rfl ?_
            refine g_retN C (by simp) at_281 (by decide) (by decide) ?_
            subst hQ
            rfl
        ·
          refine g_iconst (pc' := 109) (z := (-1 : Int32)) C at_108 rfl rfl ?_
          refine g_istore (pc' := 111) (L' := #[.val (.int p0), .val (.int p1), .val (.int p2), .val (.int p3), .val (.int p4), .val (.ref a1), .val (.int (1 : Int32)), .val (.int (0 : Int32)), .val (.int (1 : Int32)), .val (.int (2 : Int32)), .val (.int (2 : Int32)), .val (.int (-1 : Int32)), .unset, .unset, .unset, .unset, .unset]) C at_109 rfl rfl ?_
          refine g_iconst (pc' := 112) (z := (-1 : Int32)) C at_111 rfl rfl ?_
          refine g_istore (pc' := 114) (L' := #[.val (.int p0), .val (.int p1), .val (.int p2), .val (.int p3), .val (.int p4), .val (.ref a1), .val (.int (1 : Int32)), .val (.int (0 : Int32)), .val (.int (1 : Int32)), .val (.int (2 : Int32)), .val (.int (2 : Int32)), .val (.int (-1 : Int32)), .val (.int (-1 : Int32)), .unset, .unset, .unset, .unset]) C at_112 rfl rfl ?_
          refine g_iconst (pc' := 115) (z := (-1 : Int32)) C at_114 rfl rfl ?_
          refine g_istore (pc' := 117) (L' := #[.val (.int p0), .val (.int p1), .val (.int p2), .val (.int p3), .val (.int p4), .val (.ref a1), .val (.int (1 : Int32)), .val (.int (0 : Int32)), .val (.int (1 : Int32)), .val (.int (2 : Int32)), .val (.int (2 : Int32)), .val (.int (-1 : Int32)), .val (.int (-1 : Int32)), .val (.int (-1 : Int32)), .unset, .unset, .unset]) C at_115 rfl rfl ?_
          refine g_iload (pc' := 119) C at_117 rfl rfl ?_
          refine g_iconst (pc' := 120) (z := (1 : Int32)) C at_119 rfl rfl ?_
          refine g_icmpN (xi := 2) (yi := 1) (pc2 := 123) C at_120 rfl rfl rfl (by decide) ?_
          refine g_aload (pc' := 125) C at_123 rfl rfl rfl ?_
          refine g_virtual (y := (⟨"com/example/triplecore/triplecore/query/PatternQueue", "poll", "()I"⟩ : MethodName)) (a := a1) (pc' := 128) (k' := 4) (n' := 13) (S := []) (as := []) C at_125 rfl (hw _ (List.mem_of_getElem? (i := 48) rfl)) (hw _ (List.mem_of_getElem? (i := 50) rfl)) (hw _ (List.mem_of_getElem? (i := 2) rfl)) (hw _ (List.mem_of_getElem? (i := 52) rfl)) (hw _ (List.mem_of_getElem? (i := 49) rfl)) (hw _ (List.mem_of_getElem? (i := 51) rfl)) (by decide) B.exa (lenOf pd_6 rfl) (con_poll_G_02 W.l Z a0 hw a1 b1 b2 b3 q01 q02 q03 q12 q13 q23 h19 B) rfl rfl (Nat.le_of_ble_eq_true rfl) (Nat.le_of_ble_eq_true rfl) rfl rfl (Nat.le_of_ble_eq_true rfl) (Nat.le_of_ble_eq_true rfl) (allS w_a1 (allS w_b1 (allS w_b2 all0))) fun vh22 h22 qh22 Kh22 => ?_
          rcases qh22 with ⟨rfl, B⟩ | ⟨rfl, B⟩
          ·
            show Go W Q h22 4 13 128 #[.val (.int p0), .val (.int p1), .val (.int p2), .val (.int p3), .val (.int p4), .val (.ref a1), .val (.int (1 : Int32)), .val (.int (0 : Int32)), .val (.int (1 : Int32)), .val (.int (2 : Int32)), .val (.int (2 : Int32)), .val (.int (-1 : Int32)), .val (.int (-1 : Int32)), .val (.int (-1 : Int32)), .unset, .unset, .unset] [(.int (0 : Int32))]
            refine g_istore (pc' := 130) (L' := #[.val (.int p0), .val (.int p1), .val (.int p2), .val (.int p3), .val (.int p4), .val (.ref a1), .val (.int (1 : Int32)), .val (.int (0 : Int32)), .val (.int (1 : Int32)), .val (.int (2 : Int32)), .val (.int (2 : Int32)), .val (.int (0 : Int32)), .val (.int (-1 : Int32)), .val (.int (-1 : Int32)), .unset, .unset, .unset]) C at_128 rfl rfl ?_
            refine g_iload (pc' := 132) C at_130 rfl rfl ?_
            refine g_iconst (pc' := 133) (z := (2 : Int32)) C at_132 rfl rfl ?_
            refine g_icmpN (xi := 2) (yi := 2) (pc2 := 136) C at_133 rfl rfl rfl (by decide) ?_
            refine g_aload (pc' := 138) C at_136 rfl rfl rfl ?_
            refine g_virtual (y := (⟨"com/example/triplecore/triplecore/query/PatternQueue", "poll", "()I"⟩ : MethodName)) (a := a1) (pc' := 141) (k' := 4) (n' := 13) (S := []) (as := []) C at_138 rfl (hw _ (List.mem_of_getElem? (i := 48) rfl)) (hw _ (List.mem_of_getElem? (i := 50) rfl)) (hw _ (List.mem_of_getElem? (i := 2) rfl)) (hw _ (List.mem_of_getElem? (i := 52) rfl)) (hw _ (List.mem_of_getElem? (i := 49) rfl)) (hw _ (List.mem_of_getElem? (i := 51) rfl)) (by decide) B.exa (lenOf pd_6 rfl) (con_poll_G_2 W.l Z a0 hw a1 b1 b2 b3 q01 q02 q03 q12 q13 q23 h22 B) rfl rfl (Nat.le_of_ble_eq_true rfl) (Nat.le_of_ble_eq_true rfl) rfl rfl (Nat.le_of_ble_eq_true rfl) (Nat.le_of_ble_eq_true rfl) (allS w_a1 (allS w_b1 (allS w_b2 all0))) fun vh23 h23 qh23 Kh23 => ?_
            rcases qh23 with ⟨rfl, B⟩
            ·
              show Go W Q h23 4 13 141 #[.val (.int p0), .val (.int p1), .val (.int p2), .val (.int p3), .val (.int p4), .val (.ref a1), .val (.int (1 : Int32)), .val (.int (0 : Int32)), .val (.int (1 : Int32)), .val (.int (2 : Int32)), .val (.int (2 : Int32)), .val (.int (0 : Int32)), .val (.int (-1 : Int32)), .val (.int (-1 : Int32)), .unset, .unset, .unset] [(.int (2 : Int32))]
              refine g_istore (pc' := 143) (L' := #[.val (.int p0), .val (.int p1), .val (.int p2), .val (.int p3), .val (.int p4), .val (.ref a1), .val (.int (1 : Int32)), .val (.int (0 : Int32)), .val (.int (1 : Int32)), .val (.int (2 : Int32)), .val (.int (2 : Int32)), .val (.int (0 : Int32)), .val (.int (2 : Int32)), .val (.int (-1 : Int32)), .unset, .unset, .unset]) C at_141 rfl rfl ?_
              refine g_iload (pc' := 145) C at_143 rfl rfl ?_
              refine g_iconst (pc' := 146) (z := (3 : Int32)) C at_145 rfl rfl ?_
              refine g_icmpY (xi := 2) (yi := 3) (pc1 := 156) C at_146 (by decide) rfl rfl rfl (by decide) ?_
              refine g_iload (pc' := 158) C at_156 rfl rfl ?_
              refine g_ifN (xi := 1) (pc2 := 161) C at_158 rfl rfl (by decide) ?_
              refine g_iload (pc' := 163) C at_161 rfl rfl ?_
              refine g_ifY (xi := 0) (pc1 := 180) C at_163 (by decide) rfl rfl (by decide) ?_
              refine g_iconst (pc' := 181) (z := (0 : Int32)) C at_180 rfl rfl ?_
              refine g_istore (pc' := 183) (L' := #[.val (.int p0), .val (.int p1), .val (.int p2), .val (.int p3), .val (.int p4), .val (.ref a1), .val (.int (1 : Int32)), .val (.int (0 : Int32)), .val (.int (1 : Int32)), .val (.int (2 : Int32)), .val (.int (2 : Int32)), .val (.int (0 : Int32)), .val (.int (2 : Int32)), .val (.int (-1 : Int32)), .val (.int (0 : Int32)), .unset, .unset]) C at_181 rfl rfl ?_
              refine g_iload (pc' := 185) C at_183 rfl rfl ?_
              refine g_ifY (xi := 0) (pc1 := 210) C at_185 (by decide) rfl rfl (by decide) ?_
              refine g_iconst (pc' := 211) (z := (0 : Int32)) C at_210 rfl rfl ?_
              refine g_istore (pc' := 213) (L' := #[.val (.int p0), .val (.int p1), .val (.int p2), .val (.int p3), .val (.int p4), .val (.ref a1), .val (.int (1 : Int32)), .val (.int (0 : Int32)), .val (.int (1 : Int32)), .val (.int (2 : Int32)), .val (.int (2 : Int32)), .val (.int (0 : Int32)), .val (.int (2 : Int32)), .val (.int (-1 : Int32)), .val (.int (0 : Int32)), .val (.int (0 : Int32)), .unset]) C at_211 rfl rfl ?_
              refine g_iload (pc' := 215) C at_213 rfl rfl ?_
              refine g_ifN (xi := 1) (pc2 := 218) C at_215 rfl rfl (by decide) ?_
              refine g_iload (pc' := 220) C at_218 rfl rfl ?_
              refine g_iconst (pc' := 221) (z := (2 : Int32)) C at_220 rfl rfl ?_
              refine g_icmpN (xi := 0) (yi := 2) (pc2 := 224) C at_221 rfl rfl rfl (by decide) ?_
              refine g_iload (pc' := 226) C at_224 rfl rfl ?_
              refine g_iconst (pc' := 227) (z := (2 : Int32)) C at_226 rfl rfl ?_
              refine g_icmpY (xi := 2) (yi := 2) (pc1 := 240) C at_227 (by decide) rfl rfl rfl (by decide) ?_
              refine g_iconst (pc' := 241) (z := (0 : Int32)) C at_240 rfl rfl ?_
              refine g_istore (pc' := 243) (L' := #[.val (.int p0), .val (.int p1), .val (.int p2), .val (.int p3), .val (.int p4), .val (.ref a1), .val (.int (1 : Int32)), .val (.int (0 : Int32)), .val (.int (1 : Int32)), .val (.int (2 : Int32)), .val (.int (2 : Int32)), .val (.int (0 : Int32)), .val (.int (2 : Int32)), .val (.int (-1 : Int32)), .val (.int (0 : Int32)), .val (.int (0 : Int32)), .val (.int (0 : Int32))]) C at_241 rfl rfl ?_
              refine g_aload (pc' := 245) C at_243 rfl rfl rfl ?_
              refine g_iconst (pc' := 246) (z := (0 : Int32)) C at_245 rfl rfl ?_
              obtain ⟨x0, x1, x2, l0, l1, l2, c0, c1, c2, g, O, A1, A2, A3⟩ := B
              have gs : l0.toInt < 0 ∧ l1.toInt < 0 ∧ l2.toInt < 0 := by
                rcases g with ⟨rfl, rfl, rfl⟩ <;> decide
              refine g_virtualP (y := (⟨"com/example/triplecore/triplecore/query/PatternQueue", "contains", "(I)Z"⟩ : MethodName)) (a := a1) (pc' := 249) (k' := 4) (n' := 13) (S := []) (as := [(.int (0 : Int32))]) C at_246 rfl (hw _ (List.mem_of_getElem? (i := 24) rfl)) (hw _ (List.mem_of_getElem? (i := 26) rfl)) (hw _ (List.mem_of_getElem? (i := 2) rfl)) (hw _ (List.mem_of_getElem? (i := 28) rfl)) (hw _ (List.mem_of_getElem? (i := 25) rfl)) (hw _ (List.mem_of_getElem? (i := 27) rfl)) (by decide) O.1 (lenOf pd_5 rfl) (con_has0 W.l Z a0 hw a1 b1 b2 b3 (0 : Int32) (0 : Int32) l0 0 _ rfl rfl gs.1 h23 O A2) rfl rfl (Nat.le_of_ble_eq_true rfl) (Nat.le_of_ble_eq_true rfl) rfl rfl (Nat.le_of_ble_eq_true rfl) (Nat.le_of_ble_eq_true rfl) (S1 := [(.int (0 : Int32))]) rfl ?_
              refine g_iload (pc' := 251) C at_249 rfl rfl ?_
              refine g_icmpN (xi := 0) (yi := 0) (pc2 := 254) C at_251 rfl rfl rfl (by decide) ?_
              refine g_aload (pc' := 256) C at_254 rfl rfl rfl ?_
              refine g_iconst (pc' := 257) (z := (1 : Int32)) C at_256 rfl rfl ?_
              refine g_virtualP (y := (⟨"com/example/triplecore/triplecore/query/PatternQueue", "contains", "(I)Z"⟩ : MethodName)) (a := a1) (pc' := 260) (k' := 4) (n' := 13) (S := []) (as := [(.int (1 : Int32))]) C at_257 rfl (hw _ (List.mem_of_getElem? (i := 24) rfl)) (hw _ (List.mem_of_getElem? (i := 26) rfl)) (hw _ (List.mem_of_getElem? (i := 2) rfl)) (hw _ (List.mem_of_getElem? (i := 28) rfl)) (hw _ (List.mem_of_getElem? (i := 25) rfl)) (hw _ (List.mem_of_getElem? (i := 27) rfl)) (by decide) O.1 (lenOf pd_5 rfl) (con_has0 W.l Z a0 hw a1 b1 b2 b3 (0 : Int32) (1 : Int32) l1 1 _ rfl rfl gs.2.1 h23 O A2) rfl rfl (Nat.le_of_ble_eq_true rfl) (Nat.le_of_ble_eq_true rfl) rfl rfl (Nat.le_of_ble_eq_true rfl) (Nat.le_of_ble_eq_true rfl) (S1 := [(.int (0 : Int32))]) rfl ?_
              refine g_iload (pc' := 262) C at_260 rfl rfl ?_
              refine g_icmpN (xi := 0) (yi := 0) (pc2 := 265) C at_262 rfl rfl rfl (by decide) ?_
              refine g_aload (pc' := 267) C at_265 rfl rfl rfl ?_
              refine g_iconst (pc' := 268) (z := (2 : Int32)) C at_267 rfl rfl ?_
              refine g_virtualP (y := (⟨"com/example/triplecore/triplecore/query/PatternQueue", "contains", "(I)Z"⟩ : MethodName)) (a := a1) (pc' := 271) (k' := 4) (n' := 13) (S := []) (as := [(.int (2 : Int32))]) C at_268 rfl (hw _ (List.mem_of_getElem? (i := 24) rfl)) (hw _ (List.mem_of_getElem? (i := 26) rfl)) (hw _ (List.mem_of_getElem? (i := 2) rfl)) (hw _ (List.mem_of_getElem? (i := 28) rfl)) (hw _ (List.mem_of_getElem? (i := 25) rfl)) (hw _ (List.mem_of_getElem? (i := 27) rfl)) (by decide) O.1 (lenOf pd_5 rfl) (con_has0 W.l Z a0 hw a1 b1 b2 b3 (0 : Int32) (2 : Int32) l2 2 _ rfl rfl gs.2.2 h23 O A2) rfl rfl (Nat.le_of_ble_eq_true rfl) (Nat.le_of_ble_eq_true rfl) rfl rfl (Nat.le_of_ble_eq_true rfl) (Nat.le_of_ble_eq_true rfl) (S1 := [(.int (0 : Int32))]) rfl ?_
              refine g_iload (pc' := 273) C at_271 rfl rfl ?_
              refine g_icmpN (xi := 0) (yi := 0) (pc2 := 276) C at_273 rfl rfl rfl (by decide) ?_
              refine g_iconst (pc' := 277) (z := (1 : Int32)) C at_276 rfl rfl ?_
              refine g_goto C at_277 (by decide) (pc' := 281) rfl ?_
              refine g_retN C (by simp) at_281 (by decide) (by decide) ?_
              subst hQ
              rfl
          ·
            show Go W Q h22 4 13 128 #[.val (.int p0), .val (.int p1), .val (.int p2), .val (.int p3), .val (.int p4), .val (.ref a1), .val (.int (1 : Int32)), .val (.int (0 : Int32)), .val (.int (1 : Int32)), .val (.int (2 : Int32)), .val (.int (2 : Int32)), .val (.int (-1 : Int32)), .val (.int (-1 : Int32)), .val (.int (-1 : Int32)), .unset, .unset, .unset] [(.int (2 : Int32))]
            refine g_istore (pc' := 130) (L' := #[.val (.int p0), .val (.int p1), .val (.int p2), .val (.int p3), .val (.int p4), .val (.ref a1), .val (.int (1 : Int32)), .val (.int (0 : Int32)), .val (.int (1 : Int32)), .val (.int (2 : Int32)), .val (.int (2 : Int32)), .val (.int (2 : Int32)), .val (.int (-1 : Int32)), .val (.int (-1 : Int32)), .unset, .unset, .unset]) C at_128 rfl rfl ?_
            refine g_iload (pc' := 132) C at_130 rfl rfl ?_
            refine g_iconst (pc' := 133) (z := (2 : Int32)) C at_132 rfl rfl ?_
            refine g_icmpN (xi := 2) (yi := 2) (pc2 := 136) C at_133 rfl rfl rfl (by decide) ?_
            refine g_aload (pc' := 138) C at_136 rfl rfl rfl ?_
            refine g_virtual (y := (⟨"com/example/triplecore/triplecore/query/PatternQueue", "poll", "()I"⟩ : MethodName)) (a := a1) (pc' := 141) (k' := 4) (n' := 13) (S := []) (as := []) C at_138 rfl (hw _ (List.mem_of_getElem? (i := 48) rfl)) (hw _ (List.mem_of_getElem? (i := 50) rfl)) (hw _ (List.mem_of_getElem? (i := 2) rfl)) (hw _ (List.mem_of_getElem? (i := 52) rfl)) (hw _ (List.mem_of_getElem? (i := 49) rfl)) (hw _ (List.mem_of_getElem? (i := 51) rfl)) (by decide) B.exa (lenOf pd_6 rfl) (con_poll_G_0 W.l Z a0 hw a1 b1 b2 b3 q01 q02 q03 q12 q13 q23 h22 B) rfl rfl (Nat.le_of_ble_eq_true rfl) (Nat.le_of_ble_eq_true rfl) rfl rfl (Nat.le_of_ble_eq_true rfl) (Nat.le_of_ble_eq_true rfl) (allS w_a1 (allS w_b1 (allS w_b2 all0))) fun vh24 h24 qh24 Kh24 => ?_
            rcases qh24 with ⟨rfl, B⟩
            ·
              show Go W Q h24 4 13 141 #[.val (.int p0), .val (.int p1), .val (.int p2), .val (.int p3), .val (.int p4), .val (.ref a1), .val (.int (1 : Int32)), .val (.int (0 : Int32)), .val (.int (1 : Int32)), .val (.int (2 : Int32)), .val (.int (2 : Int32)), .val (.int (2 : Int32)), .val (.int (-1 : Int32)), .val (.int (-1 : Int32)), .unset, .unset, .unset] [(.int (0 : Int32))]
              refine g_istore (pc' := 143) (L' := #[.val (.int p0), .val (.int p1), .val (.int p2), .val (.int p3), .val (.int p4), .val (.ref a1), .val (.int (1 : Int32)), .val (.int (0 : Int32)), .val (.int (1 : Int32)), .val (.int (2 : Int32)), .val (.int (2 : Int32)), .val (.int (2 : Int32)), .val (.int (0 : Int32)), .val (.int (-1 : Int32)), .unset, .unset, .unset]) C at_141 rfl rfl ?_
              refine g_iload (pc' := 145) C at_143 rfl rfl ?_
              refine g_iconst (pc' := 146) (z := (3 : Int32)) C at_145 rfl rfl ?_
              refine g_icmpY (xi := 2) (yi := 3) (pc1 := 156) C at_146 (by decide) rfl rfl rfl (by decide) ?_
              refine g_iload (pc' := 158) C at_156 rfl rfl ?_
              refine g_ifN (xi := 1) (pc2 := 161) C at_158 rfl rfl (by decide) ?_
              refine g_iload (pc' := 163) C at_161 rfl rfl ?_
              refine g_ifN (xi := 2) (pc2 := 166) C at_163 rfl rfl (by decide) ?_
              refine g_iload (pc' := 168) C at_166 rfl rfl ?_
              refine g_ifY (xi := 0) (pc1 := 180) C at_168 (by decide) rfl rfl (by decide) ?_
              refine g_iconst (pc' := 181) (z := (0 : Int32)) C at_180 rfl rfl ?_
              refine g_istore (pc' := 183) (L' := #[.val (.int p0), .val (.int p1), .val (.int p2), .val (.int p3), .val (.int p4), .val (.ref a1), .val (.int (1 : Int32)), .val (.int (0 : Int32)), .val (.int (1 : Int32)), .val (.int (2 : Int32)), .val (.int (2 : Int32)), .val (.int (2 : Int32)), .val (.int (0 : Int32)), .val (.int (-1 : Int32)), .val (.int (0 : Int32)), .unset, .unset]) C at_181 rfl rfl ?_
              refine g_iload (pc' := 185) C at_183 rfl rfl ?_
              refine g_ifY (xi := 0) (pc1 := 210) C at_185 (by decide) rfl rfl (by decide) ?_
              refine g_iconst (pc' := 211) (z := (0 : Int32)) C at_210 rfl rfl ?_
              refine g_istore (pc' := 213) (L' := #[.val (.int p0), .val (.int p1), .val (.int p2), .val (.int p3), .val (.int p4), .val (.ref a1), .val (.int (1 : Int32)), .val (.int (0 : Int32)), .val (.int (1 : Int32)), .val (.int (2 : Int32)), .val (.int (2 : Int32)), .val (.int (2 : Int32)), .val (.int (0 : Int32)), .val (.int (-1 : Int32)), .val (.int (0 : Int32)), .val (.int (0 : Int32)), .unset]) C at_211 rfl rfl ?_
              refine g_iload (pc' := 215) C at_213 rfl rfl ?_
              refine g_ifN (xi := 1) (pc2 := 218) C at_215 rfl rfl (by decide) ?_
              refine g_iload (pc' := 220) C at_218 rfl rfl ?_
              refine g_iconst (pc' := 221) (z := (2 : Int32)) C at_220 rfl rfl ?_
              refine g_icmpY (xi := 2) (yi := 2) (pc1 := 240) C at_221 (by decide) rfl rfl rfl (by decide) ?_
              refine g_iconst (pc' := 241) (z := (0 : Int32)) C at_240 rfl rfl ?_
              refine g_istore (pc' := 243) (L' := #[.val (.int p0), .val (.int p1), .val (.int p2), .val (.int p3), .val (.int p4), .val (.ref a1), .val (.int (1 : Int32)), .val (.int (0 : Int32)), .val (.int (1 : Int32)), .val (.int (2 : Int32)), .val (.int (2 : Int32)), .val (.int (2 : Int32)), .val (.int (0 : Int32)), .val (.int (-1 : Int32)), .val (.int (0 : Int32)), .val (.int (0 : Int32)), .val (.int (0 : Int32))]) C at_241 rfl rfl ?_
              refine g_aload (pc' := 245) C at_243 rfl rfl rfl ?_
              refine g_iconst (pc' := 246) (z := (0 : Int32)) C at_245 rfl rfl ?_
              obtain ⟨x0, x1, x2, l0, l1, l2, c0, c1, c2, g, O, A1, A2, A3⟩ := B
              have gs : l0.toInt < 0 ∧ l1.toInt < 0 ∧ l2.toInt < 0 := by
                rcases g with ⟨rfl, rfl, rfl⟩ <;> decide
              refine g_virtualP (y := (⟨"com/example/triplecore/triplecore/query/PatternQueue", "contains", "(I)Z"⟩ : MethodName)) (a := a1) (pc' := 249) (k' := 4) (n' := 13) (S := []) (as := [(.int (0 : Int32))]) C at_246 rfl (hw _ (List.mem_of_getElem? (i := 24) rfl)) (hw _ (List.mem_of_getElem? (i := 26) rfl)) (hw _ (List.mem_of_getElem? (i := 2) rfl)) (hw _ (List.mem_of_getElem? (i := 28) rfl)) (hw _ (List.mem_of_getElem? (i := 25) rfl)) (hw _ (List.mem_of_getElem? (i := 27) rfl)) (by decide) O.1 (lenOf pd_5 rfl) (con_has0 W.l Z a0 hw a1 b1 b2 b3 (0 : Int32) (0 : Int32) l0 0 _ rfl rfl gs.1 h24 O A2) rfl rfl (Nat.le_of_ble_eq_true rfl) (Nat.le_of_ble_eq_true rfl) rfl rfl (Nat.le_of_ble_eq_true rfl) (Nat.le_of_ble_eq_true rfl) (S1 := [(.int (0 : Int32))]) rfl ?_
              refine g_iload (pc' := 251) C at_249 rfl rfl ?_
              refine g_icmpN (xi := 0) (yi := 0) (pc2 := 254) C at_251 rfl rfl rfl (by decide) ?_
              refine g_aload (pc' := 256) C at_254 rfl rfl rfl ?_
              refine g_iconst (pc' := 257) (z := (1 : Int32)) C at_256 rfl rfl ?_
              refine g_virtualP (y := (⟨"com/example/triplecore/triplecore/query/PatternQueue", "contains", "(I)Z"⟩ : MethodName)) (a := a1) (pc' := 260) (k' := 4) (n' := 13) (S := []) (as := [(.int (1 : Int32))]) C at_257 rfl (hw _ (List.mem_of_getElem? (i := 24) rfl)) (hw _ (List.mem_of_getElem? (i := 26) rfl)) (hw _ (List.mem_of_getElem? (i := 2) rfl)) (hw _ (List.mem_of_getElem? (i := 28) rfl)) (hw _ (List.mem_of_getElem? (i := 25) rfl)) (hw _ (List.mem_of_getElem? (i := 27) rfl)) (by decide) O.1 (lenOf pd_5 rfl) (con_has0 W.l Z a0 hw a1 b1 b2 b3 (0 : Int32) (1 : Int32) l1 1 _ rfl rfl gs.2.1 h24 O A2) rfl rfl (Nat.le_of_ble_eq_true rfl) (Nat.le_of_ble_eq_true rfl) rfl rfl (Nat.le_of_ble_eq_true rfl) (Nat.le_of_ble_eq_true rfl) (S1 := [(.int (0 : Int32))]) rfl ?_
              refine g_iload (pc' := 262) C at_260 rfl rfl ?_
              refine g_icmpN (xi := 0) (yi := 0) (pc2 := 265) C at_262 rfl rfl rfl (by decide) ?_
              refine g_aload (pc' := 267) C at_265 rfl rfl rfl ?_
              refine g_iconst (pc' := 268) (z := (2 : Int32)) C at_267 rfl rfl ?_
              refine g_virtualP (y := (⟨"com/example/triplecore/triplecore/query/PatternQueue", "contains", "(I)Z"⟩ : MethodName)) (a := a1) (pc' := 271) (k' := 4) (n' := 13) (S := []) (as := [(.int (2 : Int32))]) C at_268 rfl (hw _ (List.mem_of_getElem? (i := 24) rfl)) (hw _ (List.mem_of_getElem? (i := 26) rfl)) (hw _ (List.mem_of_getElem? (i := 2) rfl)) (hw _ (List.mem_of_getElem? (i := 28) rfl)) (hw _ (List.mem_of_getElem? (i := 25) rfl)) (hw _ (List.mem_of_getElem? (i := 27) rfl)) (by decide) O.1 (lenOf pd_5 rfl) (con_has0 W.l Z a0 hw a1 b1 b2 b3 (0 : Int32) (2 : Int32) l2 2 _ rfl rfl gs.2.2 h24 O A2) rfl rfl (Nat.le_of_ble_eq_true rfl) (Nat.le_of_ble_eq_true rfl) rfl rfl (Nat.le_of_ble_eq_true rfl) (Nat.le_of_ble_eq_true rfl) (S1 := [(.int (0 : Int32))]) rfl ?_
              refine g_iload (pc' := 273) C at_271 rfl rfl ?_
              refine g_icmpN (xi := 0) (yi := 0) (pc2 := 276) C at_273 rfl rfl rfl (by decide) ?_
              refine g_iconst (pc' := 277) (z := (1 : Int32)) C at_276 rfl rfl ?_
              refine g_goto C at_277 (by decide) (pc' := 281) rfl ?_
              refine g_retN C (by simp) at_281 (by decide) (by decide) ?_
              subst hQ
              rfl
    ·
      refine g_iload (pc' := 69) C at_67 rfl rfl ?_
      refine g_ifN (xi := 1) (pc2 := 72) C at_69 rfl rfl (by decide) ?_
      refine g_aload (pc' := 74) C at_72 rfl rfl rfl ?_
      refine g_iconst (pc' := 75) (z := (1 : Int32)) C at_74 rfl rfl ?_
      refine g_iloadN (pc' := 76) C at_75 rfl rfl ?_
      refine g_virtual (y := (⟨"com/example/triplecore/triplecore/query/PatternQueue", "add", "(II)V"⟩ : MethodName)) (a := a1) (pc' := 79) (k' := 4) (n' := 13) (S := []) (as := [(.int (1 : Int32)), (.int p2)]) C at_76 rfl (hw _ (List.mem_of_getElem? (i := 29) rfl)) (hw _ (List.mem_of_getElem? (i := 31) rfl)) (hw _ (List.mem_of_getElem? (i := 2) rfl)) (hw _ (List.mem_of_getElem? (i := 33) rfl)) (hw _ (List.mem_of_getElem? (i := 30) rfl)) (hw _ (List.mem_of_getElem? (i := 32) rfl)) (by decide) B.exa (lenOf pd_0 rfl) (con_add_G_0_1 W.l Z a0 hw a1 b1 b2 b3 p2 q01 q02 q03 q12 q13 q23 h16 B) rfl rfl (Nat.le_of_ble_eq_true rfl) (Nat.le_of_ble_eq_true rfl) rfl rfl (Nat.le_of_ble_eq_true rfl) (Nat.le_of_ble_eq_true rfl) (allS w_a1 (allS w_b1 (allS w_b2 (allS w_b3 all0)))) fun vh25 h25 qh25 Kh25 => ?_
      obtain ⟨rfl, B⟩ := qh25
      show Go W Q h25 4 13 79 #[.val (.int p0), .val (.int p1), .val (.int p2), .val (.int p3), .val (.int p4), .val (.ref a1), .val (.int (1 : Int32)), .val (.int (1 : Int32)), .val (.int z4), .val (.int (1 : Int32)), .unset, .unset, .unset, .unset, .unset, .unset, .unset] []
      refine g_iinc (pc' := 82) (z := (2 : Int32)) (L' := #[.val (.int p0), .val (.int p1), .val (.int p2), .val (.int p3), .val (.int p4), .val (.ref a1), .val (.int (1 : Int32)), .val (.int (1 : Int32)), .val (.int z4), .val (.int (2 : Int32)), .unset, .unset, .unset, .unset, .unset, .unset, .unset]) C at_79 rfl rfl rfl rfl ?_
      have sp_z4 : z4 = 0 ∨ z4 = 1 := by
        rw [e_z4]
        unfold b2i
        split
        · exact Or.inr rfl
        · exact Or.inl rfl
      clear e_z4
      rcases sp_z4 with sp_z4 | sp_z4 <;> subst sp_z4
      ·
        refine g_iload (pc' := 84) C at_82 rfl rfl ?_
        refine g_ifY (xi := 0) (pc1 := 97) C at_84 (by decide) rfl rfl (by decide) ?_
        refine g_iload (pc' := 99) C at_97 rfl rfl ?_
        refine g_iconst (pc' := 100) (z := (3 : Int32)) C at_99 rfl rfl ?_
        refine g_iand (pc' := 101) C at_100 rfl ?_
        refine g_iload (pc' := 103) C at_101 rfl rfl ?_
        refine g_static (y := (⟨"java/lang/Math", "min", "(II)I"⟩ : MethodName)) (pc' := 106) (k' := 4) (n' := 13) (S := []) (as := [(.int (p4 &&& (3 : Int32))), (.int (2 : Int32))]) C at_103 rfl (hw _ (List.mem_of_getElem? (i := 20) rfl)) (hw _ (List.mem_of_getElem? (i := 21) rfl)) (hw _ (List.mem_of_getElem? (i := 22) rfl)) (hw _ (List.mem_of_getElem? (i := 23) rfl)) (by decide) (lenOf pd_4 rfl) (con_min W.l Z a0 hw (p4 &&& (3 : Int32)) (2 : Int32) h25) rfl rfl (Nat.le_of_ble_eq_true rfl) (Nat.le_of_ble_eq_true rfl) rfl rfl (Nat.le_of_ble_eq_true rfl) (Nat.le_of_ble_eq_true rfl) all0 fun vh26 h26 qh26 Kh26 => ?_
        obtain ⟨kk, rfl, eh, e_kk⟩ := qh26
        subst eh
        show Go W Q h25 4 13 106 #[.val (.int p0), .val (.int p1), .val (.int p2), .val (.int p3), .val (.int p4), .val (.ref a1), .val (.int (1 : Int32)), .val (.int (1 : Int32)), .val (.int (0 : Int32)), .val (.int (2 : Int32)), .unset, .unset, .unset, .unset, .unset, .unset, .unset] [(.int kk)]
        refine g_istore (pc' := 108) (L' := #[.val (.int p0), .val (.int p1), .val (.int p2), .val (.int p3), .val (.int p4), .val (.ref a1), .val (.int (1 : Int32)), .val (.int (1 : Int32)), .val (.int (0 : Int32)), .val (.int (2 : Int32)), .val (.int kk), .unset, .unset, .unset, .unset, .unset, .unset]) C at_106 rfl rfl ?_
        have sp_kk : kk = 0 ∨ kk = 1 ∨ kk = 2 := by
          have y1 := c_mask p4 3 2 (by decide) (by decide)
          have z0 : (0 : Int32).toInt = 0 := rfl
          have z1 : (1 : Int32).toInt = 1 := rfl
          have z2 : (2 : Int32).toInt = 2 := rfl
          have z3 : (3 : Int32).toInt = 3 := rfl
          rcases (by omega : kk.toInt = 0 ∨ kk.toInt = 1 ∨ kk.toInt = 2) with y | y | y
          · exact Or.inl (Int32.toInt_inj.mp (by omega))
          · exact Or.inr (Or.inl (Int32.toInt_inj.mp (by omega)))
          · exact Or.inr (Or.inr (Int32.toInt_inj.mp (by omega)))
        clear e_kk
        rcases sp_kk with sp_kk | sp_kk | sp_kk <;> subst sp_kk
        ·
          refine g_iconst (pc' := 109) (z := (-1 : Int32)) C at_108 rfl rfl ?_
          refine g_istore (pc' := 111) (L' := #[.val (.int p0), .val (.int p1), .val (.int p2), .val (.int p3), .val (.int p4), .val (.ref a1), .val (.int (1 : Int32)), .val (.int (1 : Int32)), .val (.int (0 : Int32)), .val (.int (2 : Int32)), .val (.int (0 : Int32)), .val (.int (-1 : Int32)), .unset, .unset, .unset, .unset, .unset]) C at_109 rfl rfl ?_
          refine g_iconst (pc' := 112) (z := (-1 : Int32)) C at_111 rfl rfl ?_
          refine g_istore (pc' := 114) (L' := #[.val (.int p0), .val (.int p1), .val (.int p2), .val (.int p3), .val (.int p4), .val (.ref a1), .val (.int (1 : Int32)), .val (.int (1 : Int32)), .val (.int (0 : Int32)), .val (.int (2 : Int32)), .val (.int (0 : Int32)), .val (.int (-1 : Int32)), .val (.int (-1 : Int32)), .unset, .unset, .unset, .unset]) C at_112 rfl rfl ?_
          refine g_iconst (pc' := 115) (z := (-1 : Int32)) C at_114 rfl rfl ?_
          refine g_istore (pc' := 117) (L' := #[.val (.int p0), .val (.int p1), .val (.int p2), .val (.int p3), .val (.int p4), .val (.ref a1), .val (.int (1 : Int32)), .val (.int (1 : Int32)), .val (.int (0 : Int32)), .val (.int (2 : Int32)), .val (.int (0 : Int32)), .val (.int (-1 : Int32)), .val (.int (-1 : Int32)), .val (.int (-1 : Int32)), .unset, .unset, .unset]) C at_115 rfl rfl ?_
          refine g_iload (pc' := 119) C at_117 rfl rfl ?_
          refine g_iconst (pc' := 120) (z := (1 : Int32)) C at_119 rfl rfl ?_
          refine g_icmpY (xi := 0) (yi := 1) (pc1 := 130) C at_120 (by decide) rfl rfl rfl (by decide) ?_
          refine g_iload (pc' := 132) C at_130 rfl rfl ?_
          refine g_iconst (pc' := 133) (z := (2 : Int32)) C at_132 rfl rfl ?_
          refine g_icmpY (xi := 0) (yi := 2) (pc1 := 143) C at_133 (by decide) rfl rfl rfl (by decide) ?_
          refine g_iload (pc' := 145) C at_143 rfl rfl ?_
          refine g_iconst (pc' := 146) (z := (3 : Int32)) C at_145 rfl rfl ?_
          refine g_icmpY (xi := 0) (yi := 3) (pc1 := 156) C at_146 (by decide) rfl rfl rfl (by decide) ?_
          refine g_iload (pc' := 158) C at_156 rfl rfl ?_
          refine g_ifN (xi := 1) (pc2 := 161) C at_158 rfl rfl (by decide) ?_
          refine g_iload (pc' := 163) C at_161 rfl rfl ?_
          refine g_ifN (xi := -1) (pc2 := 166) C at_163 rfl rfl (by decide) ?_
          refine g_iload (pc' := 168) C at_166 rfl rfl ?_
          refine g_ifN (xi := -1) (pc2 := 171) C at_168 rfl rfl (by decide) ?_
          refine g_iload (pc' := 173) C at_171 rfl rfl ?_
          refine g_ifN (xi := -1) (pc2 := 176) C at_173 rfl rfl (by decide) ?_
          refine g_iconst (pc' := 177) (z := (1 : Int32)) C at_176 rfl rfl ?_
          refine g_goto C at_177 (by decide) (pc' := 181) rfl ?_
          refine g_istore (pc' := 183) (L' := #[.val (.int p0), .val (.int p1), .val (.int p2), .val (.int p3), .val (.int p4), .val (.ref a1), .val (.int (1 : Int32)), .val (.int (1 : Int32)), .val (.int (0 : Int32)), .val (.int (2 : Int32)), .val (.int (0 : Int32)), .val (.int (-1 : Int32)), .val (.int (-1 : Int32)), .val (.int (-1 : Int32)), .val (.int (1 : Int32)), .unset, .unset]) C at_181 rfl rfl ?_
          refine g_iload (pc' := 185) C at_183 rfl rfl ?_
          refine g_ifN (xi := 1) (pc2 := 188) C at_185 rfl rfl (by decide) ?_
          refine g_iload (pc' := 190) C at_188 rfl rfl ?_
          refine g_iconst (pc' := 191) (z := (1 : Int32)) C at_190 rfl rfl ?_
          refine g_icmpN (xi := -1) (yi := 1) (pc2 := 194) C at_191 rfl rfl rfl (by decide) ?_
          refine g_iload (pc' := 196) C at_194 rfl rfl ?_
          refine g_iconst (pc' := 197) (z := (1 : Int32)) C at_196 rfl rfl ?_
          refine g_icmpN (xi := -1) (yi := 1) (pc2 := 200) C at_197 rfl rfl rfl (by decide) ?_
          refine g_iload (pc' := 202) C at_200 rfl rfl ?_
          refine g_iconst (pc' := 203) (z := (1 : Int32)) C at_202 rfl rfl ?_
          refine g_icmpN (xi := -1) (yi := 1) (pc2 := 206) C at_203 rfl rfl rfl (by decide) ?_
          refine g_iconst (pc' := 207) (z := (1 : Int32)) C at_206 rfl rfl ?_
          refine g_goto C at_207 (by decide) (pc' := 211) rfl ?_
          refine g_istore (pc' := 213) (L' := #[.val (.int p0), .val (.int p1), .val (.int p2), .val (.int p3), .val (.int p4), .val (.ref a1), .val (.int (1 : Int32)), .val (.int (1 : Int32)), .val (.int (0 : Int32)), .val (.int (2 : Int32)), .val (.int (0 : Int32)), .val (.int (-1 : Int32)), .val (.int (-1 : Int32)), .val (.int (-1 : Int32)), .val (.int (1 : Int32)), .val (.int (1 : Int32)), .unset]) C at_211 rfl rfl ?_
          refine g_iload (pc' := 215) C at_213 rfl rfl ?_
          refine g_ifY (xi := 0) (pc1 := 240) C at_215 (by decide) rfl rfl (by decide) ?_
          refine g_iconst (pc' := 241) (z := (0 : Int32)) C at_240 rfl rfl ?_
          refine g_istore (pc' := 243) (L' := #[.val (.int p0), .val (.int p1), .val (.int p2), .val (.int p3), .val (.int p4), .val (.ref a1), .val (.int (1 : Int32)), .val (.int (1 : Int32)), .val (.int (0 : Int32)), .val (.int (2 : Int32)), .val (.int (0 : Int32)), .val (.int (-1 : Int32)), .val (.int (-1 : Int32)), .val (.int (-1 : Int32)), .val (.int (1 : Int32)), .val (.int (1 : Int32)), .val (.int (0 : Int32))]) C at_241 rfl rfl ?_
          refine g_aload (pc' := 245) C at_243 rfl rfl rfl ?_
          refine g_iconst (pc' := 246) (z := (0 : Int32)) C at_245 rfl rfl ?_
          obtain ⟨x0, x1, x2, l0, l1, l2, c0, c1, c2, g, O, A1, A2, A3⟩ := B
          have gs : ¬ l0.toInt < 0 ∧ ¬ l1.toInt < 0 ∧ l2.toInt < 0 := by
            rcases g with ⟨rfl, rfl, rfl, rfl, rfl⟩ | ⟨rfl, rfl, rfl, rfl, rfl⟩ <;> decide
          refine g_virtualP (y := (⟨"com/example/triplecore/triplecore/query/PatternQueue", "contains", "(I)Z"⟩ : MethodName)) (a := a1) (pc' := 249) (k' := 4) (n' := 13) (S := []) (as := [(.int (0 : Int32))]) C at_246 rfl (hw _ (List.mem_of_getElem? (i := 24) rfl)) (hw _ (List.mem_of_getElem? (i := 26) rfl)) (hw _ (List.mem_of_getElem? (i := 2) rfl)) (hw _ (List.mem_of_getElem? (i := 28) rfl)) (hw _ (List.mem_of_getElem? (i := 25) rfl)) (hw _ (List.mem_of_getElem? (i := 27) rfl)) (by decide) O.1 (lenOf pd_5 rfl) (con_has1 W.l Z a0 hw a1 b1 b2 b3 (2 : Int32) (0 : Int32) l0 0 _ rfl rfl gs.1 h25 O A2) rfl rfl (Nat.le_of_ble_eq_true rfl) (Nat.le_of_ble_eq_true rfl) rfl rfl (Nat.le_of_ble_eq_true rfl) (Nat.le_of_ble_eq_true rfl) (S1 := [(.int (1 : Int32))]) rfl ?_
          refine g_iload (pc' := 251) C at_249 rfl rfl ?_
          refine g_icmpN (xi := 1) (yi := 1) (pc2 := 254) C at_251 rfl rfl rfl (by decide) ?_
          refine g_aload (pc' := 256) C at_254 rfl rfl rfl ?_
          refine g_iconst (pc' := 257) (z := (1 : Int32)) C at_256 rfl rfl ?_
          refine g_virtualP (y := (⟨"com/example/triplecore/triplecore/query/PatternQueue", "contains", "(I)Z"⟩ : MethodName)) (a := a1) (pc' := 260) (k' := 4) (n' := 13) (S := []) (as := [(.int (1 : Int32))]) C at_257 rfl (hw _ (List.mem_of_getElem? (i := 24) rfl)) (hw _ (List.mem_of_getElem? (i := 26) rfl)) (hw _ (List.mem_of_getElem? (i := 2) rfl)) (hw _ (List.mem_of_getElem? (i := 28) rfl)) (hw _ (List.mem_of_getElem? (i := 25) rfl)) (hw _ (List.mem_of_getElem? (i := 27) rfl)) (by decide) O.1 (lenOf pd_5 rfl) (con_has1 W.l Z a0 hw a1 b1 b2 b3 (2 : Int32) (1 : Int32) l1 1 _ rfl rfl gs.2.1 h25 O A2) rfl rfl (Nat.le_of_ble_eq_true rfl) (Nat.le_of_ble_eq_true rfl) rfl rfl (Nat.le_of_ble_eq_true rfl) (Nat.le_of_ble_eq_true rfl) (S1 := [(.int (1 : Int32))]) rfl ?_
          refine g_iload (pc' := 262) C at_260 rfl rfl ?_
          refine g_icmpN (xi := 1) (yi := 1) (pc2 := 265) C at_262 rfl rfl rfl (by decide) ?_
          refine g_aload (pc' := 267) C at_265 rfl rfl rfl ?_
          refine g_iconst (pc' := 268) (z := (2 : Int32)) C at_267 rfl rfl ?_
          refine g_virtualP (y := (⟨"com/example/triplecore/triplecore/query/PatternQueue", "contains", "(I)Z"⟩ : MethodName)) (a := a1) (pc' := 271) (k' := 4) (n' := 13) (S := []) (as := [(.int (2 : Int32))]) C at_268 rfl (hw _ (List.mem_of_getElem? (i := 24) rfl)) (hw _ (List.mem_of_getElem? (i := 26) rfl)) (hw _ (List.mem_of_getElem? (i := 2) rfl)) (hw _ (List.mem_of_getElem? (i := 28) rfl)) (hw _ (List.mem_of_getElem? (i := 25) rfl)) (hw _ (List.mem_of_getElem? (i := 27) rfl)) (by decide) O.1 (lenOf pd_5 rfl) (con_has0 W.l Z a0 hw a1 b1 b2 b3 (2 : Int32) (2 : Int32) l2 2 _ rfl rfl gs.2.2 h25 O A2) rfl rfl (Nat.le_of_ble_eq_true rfl) (Nat.le_of_ble_eq_true rfl) rfl rfl (Nat.le_of_ble_eq_true rfl) (Nat.le_of_ble_eq_true rfl) (S1 := [(.int (0 : Int32))]) rfl ?_
          refine g_iload (pc' := 273) C at_271 rfl rfl ?_
          refine g_icmpN (xi := 0) (yi := 0) (pc2 := 276) C at_273 rfl rfl rfl (by decide) ?_
          refine g_iconst (pc' := 277) (z := (1 : Int32)) C at_276 rfl rfl ?_
          refine g_goto C at_277 (by decide) (pc' := 281) rfl ?_
          refine g_retN C (by simp) at_281 (by decide) (by decide) ?_
          subst hQ
          rfl
        ·
          refine g_iconst (pc' := 109) (z := (-1 : Int32)) C at_108 rfl rfl ?_
          refine g_istore (pc' := 111) (L' := #[.val (.int p0), .val (.int p1), .val (.int p2), .val (.int p3), .val (.int p4), .val (.ref a1), .val (.int (1 : Int32)), .val (.int (1 : Int32)), .val (.int (0 : Int32)), .val (.int (2 : Int32)), .val (.int (1 : Int32)), .val (.int (-1 : Int32)), .unset, .unset, .unset, .unset, .unset]) C at_109 rfl rfl ?_
          refine g_iconst (pc' := 112) (z := (-1 : Int32)) C at_111 rfl rfl ?_
          refine g_istore (pc' := 114) (L' := #[.val (.int p0), .val (.int p1), .val (.int p2), .val (.int p3), .val (.int p4), .val (.ref a1), .val (.int (1 : Int32)), .val (.int (1 : Int32)), .val (.int (0 : Int32)), .val (.int (2 : Int32)), .val (.int (1 : Int32)), .val (.int (-1 : Int32)), .val (.int (-1 : Int32)), .unset, .unset, .unset, .unset]) C at_112 rfl rfl ?_
          refine g_iconst (pc' := 115) (z := (-1 : Int32)) C at_114 rfl rfl ?_
          refine g_istore (pc' := 117) (L' := #[.val (.int p0), .val (.int p1), .val (.int p2), .val (.int p3), .val (.int p4), .val (.ref a1), .val (.int (1 : Int32)), .val (.int (1 : Int32)), .val (.int (0 : Int32)), .val (.int (2 : Int32)), .val (.int (1 : Int32)), .val (.int (-1 : Int32)), .val (.int (-1 : Int32)), .val (.int (-1 : Int32)), .unset, .unset, .unset]) C at_115 rfl rfl ?_
          refine g_iload (pc' := 119) C at_117 rfl rfl ?_
          refine g_iconst (pc' := 120) (z := (1 : Int32)) C at_119 rfl rfl ?_
          refine g_icmpN (xi := 1) (yi := 1) (pc2 := 123) C at_120 rfl rfl rfl (by decide) ?_
          refine g_aload (pc' := 125) C at_123 rfl rfl rfl ?_
          refine g_virtual (y := (⟨"com/example/triplecore/triplecore/query/PatternQueue", "poll", "()I"⟩ : MethodName)) (a := a1) (pc' := 128) (k' := 4) (n' := 13) (S := []) (as := []) C at_125 rfl (hw _ (List.mem_of_getElem? (i := 48) rfl)) (hw _ (List.mem_of_getElem? (i := 50) rfl)) (hw _ (List.mem_of_getElem? (i := 2) rfl)) (hw _ (List.mem_of_getElem? (i := 52) rfl)) (hw _ (List.mem_of_getElem? (i := 49) rfl)) (hw _ (List.mem_of_getElem? (i := 51) rfl)) (by decide) B.exa (lenOf pd_6 rfl) (con_poll_G_01 W.l Z a0 hw a1 b1 b2 b3 q01 q02 q03 q12 q13 q23 h25 B) rfl rfl (Nat.le_of_ble_eq_true rfl) (Nat.le_of_ble_eq_true rfl) rfl rfl (Nat.le_of_ble_eq_true rfl) (Nat.le_of_ble_eq_true rfl) (allS w_a1 (allS w_b1 (allS w_b2 all0))) fun vh27 h27 qh27 Kh27 => ?_
          rcases qh27 with ⟨rfl, B⟩ | ⟨rfl, B⟩
          ·
            show Go W Q h27 4 13 128 #[.val (.int p0), .val (.int p1), .val (.int p2), .val (.int p3), .val (.int p4), .val (.ref a1), .val (.int (1 : Int32)), .val (.int (1 : Int32)), .val (.int (0 : Int32)), .val (.int (2 : Int32)), .val (.int (1 : Int32)), .val (.int (-1 : Int32)), .val (.int (-1 : Int32)), .val (.int (-1 : Int32)), .unset, .unset, .unset] [(.int (0 : Int32))]
            refine g_istore (pc' := 130) (L' := #[.val (.int p0), .val (.int p1), .val (.int p2), .val (.int p3), .val (.int p4), .val (.ref a1), .val (.int (1 : Int32)), .val (.int (1 : Int32)), .val (.int (0 : Int32)), .val (.int (2 : Int32)), .val (.int (1 : Int32)), .val (.int (0 : Int32)), .val (.int (-1 : Int32)), .val (.int (-1 : Int32)), .unset, .unset, .unset]) C at_128 rfl rfl ?_
            refine g_iload (pc' := 132) C at_130 rfl rfl ?_
            refine g_iconst (pc' := 133) (z := (2 : Int32)) C at_132 rfl rfl ?_
            refine g_icmpY (xi := 1) (yi := 2) (pc1 := 143) C at_133 (by decide) rfl rfl rfl (by decide) ?_
            refine g_iload (pc' := 145) C at_143 rfl rfl ?_
            refine g_iconst (pc' := 146) (z := (3 : Int32)) C at_145 rfl rfl ?_
            refine g_icmpY (xi := 1) (yi := 3) (pc1 := 156) C at_146 (by decide) rfl rfl rfl (by decide) ?_
            refine g_iload (pc' := 158) C at_156 rfl rfl ?_
            refine g_ifN (xi := 1) (pc2 := 161) C at_158 rfl rfl (by decide) ?_
            refine g_iload (pc' := 163) C at_161 rfl rfl ?_
            refine g_ifY (xi := 0) (pc1 := 180) C at_163 (by decide) rfl rfl (by decide) ?_
            refine g_iconst (pc' := 181) (z := (0 : Int32)) C at_180 rfl rfl ?_
            refine g_istore (pc' := 183) (L' := #[.val (.int p0), .val (.int p1), .val (.int p2), .val (.int p3), .val (.int p4), .val (.ref a1), .val (.int (1 : Int32)), .val (.int (1 : Int32)), .val (.int (0 : Int32)), .val (.int (2 : Int32)), .val (.int (1 : Int32)), .val (.int (0 : Int32)), .val (.int (-1 : Int32)), .val (.int (-1 : Int32)), .val (.int (0 : Int32)), .unset, .unset]) C at_181 rfl rfl ?_
            refine g_iload (pc' := 185) C at_183 rfl rfl ?_
            refine g_ifN (xi := 1) (pc2 := 188) C at_185 rfl rfl (by decide) ?_
            refine g_iload (pc' := 190) C at_188 rfl rfl ?_
            refine g_iconst (pc' := 191) (z := (1 : Int32)) C at_190 rfl rfl ?_
            refine g_icmpN (xi := 0) (yi := 1) (pc2 := 194) C at_191 rfl rfl rfl (by decide) ?_
            refine g_iload (pc' := 196) C at_194 rfl rfl ?_
            refine g_iconst (pc' := 197) (z := (1 : Int32)) C at_196 rfl rfl ?_
            refine g_icmpN (xi := -1) (yi := 1) (pc2 := 200) C at_197 rfl rfl rfl (by decide) ?_
            refine g_iload (pc' := 202) C at_200 rfl rfl ?_
            refine g_iconst (pc' := 203) (z := (1 : Int32)) C at_202 rfl rfl ?_
            refine g_icmpN (xi := -1) (yi := 1) (pc2 := 206) C at_203 rfl rfl rfl (by decide) ?_
            refine g_iconst (pc' := 207) (z := (1 : Int32)) C at_206 rfl rfl ?_
            refine g_goto C at_207 (by decide) (pc' := 211) rfl ?_
            refine g_istore (pc' := 213) (L' := #[.val (.int p0), .val (.int p1), .val (.int p2), .val (.int p3), .val (.int p4), .val (.ref a1), .val (.int (1 : Int32)), .val (.int (1 : Int32)), .val (.int (0 : Int32)), .val (.int (2 : Int32)), .val (.int (1 : Int32)), .val (.int (0 : Int32)), .val (.int (-1 : Int32)), .val (.int (-1 : Int32)), .val (.int (0 : Int32)), .val (.int (1 : Int32)), .unset]) C at_211 rfl rfl ?_
            refine g_iload (pc' := 215) C at_213 rfl rfl ?_
            refine g_ifY (xi := 0) (pc1 := 240) C at_215 (by decide) rfl rfl (by decide) ?_
            refine g_iconst (pc' := 241) (z := (0 : Int32)) C at_240 rfl rfl ?_
            refine g_istore (pc' := 243) (L' := #[.val (.int p0), .val (.int p1), .val (.int p2), .val (.int p3), .val (.int p4), .val (.ref a1), .val (.int (1 : Int32)), .val (.int (1 : Int32)), .val (.int (0 : Int32)), .val (.int (2 : Int32)), .val (.int (1 : Int32)), .val (.int (0 : Int32)), .val (.int (-1 : Int32)), .val (.int (-1 : Int32)), .val (.int (0 : Int32)), .val (.int (1 : Int32)), .val (.int (0 : Int32))]) C at_241 rfl rfl ?_
            refine g_aload (pc' := 245) C at_243 rfl rfl rfl ?_
            refine g_iconst (pc' := 246) (z := (0 : Int32)) C at_245 rfl rfl ?_
            obtain ⟨x0, x1, x2, l0, l1, l2, c0, c1, c2, g, O, A1, A2, A3⟩ := B
            have gs : l0.toInt < 0 ∧ ¬ l1.toInt < 0 ∧ l2.toInt < 0 := by
              rcases g with ⟨rfl, rfl, rfl, rfl⟩ <;> decide
            refine g_virtualP (y := (⟨"com/example/triplecore/triplecore/query/PatternQueue", "contains", "(I)Z"⟩ : MethodName)) (a := a1) (pc' := 249) (k' := 4) (n' := 13) (S := []) (as := [(.int (0 : Int32))]) C at_246 rfl (hw _ (List.mem_of_getElem? (i := 24) rfl)) (hw _ (List.mem_of_getElem? (i := 26) rfl)) (hw _ (List.mem_of_getElem? (i := 2) rfl)) (hw _ (List.mem_of_getElem? (i := 28) rfl)) (hw _ (List.mem_of_getElem? (i := 25) rfl)) (hw _ (List.mem_of_getElem? (i := 27) rfl)) (by decide) O.1 (lenOf pd_5 rfl) (con_has0 W.l Z a0 hw a1 b1 b2 b3 (1 : Int32) (0 : Int32) l0 0 _ rfl rfl gs.1 h27 O A2) rfl rfl (Nat.le_of_ble_eq_true rfl) (Nat.le_of_ble_eq_true rfl) rfl rfl (Nat.le_of_ble_eq_true rfl) (Nat.le_of_ble_eq_true rfl) (S1 := [(.int (0 : Int32))]) rfl ?_
            refine g_iload (pc' := 251) C at_249 rfl rfl ?_
            refine g_icmpN (xi := 0) (yi := 0) (pc2 := 254) C at_251 rfl rfl rfl (by decide) ?_
            refine g_aload (pc' := 256) C at_254 rfl rfl rfl ?_
            refine g_iconst (pc' := 257) (z := (1 : Int32)) C at_256 rfl rfl ?_
            refine g_virtualP (y := (⟨"com/example/triplecore/triplecore/query/PatternQueue", "contains", "(I)Z"⟩ : MethodName)) (a := a1) (pc' := 260) (k' := 4) (n' := 13) (S := []) (as := [(.int (1 : Int32))]) C at_257 rfl (hw _ (List.mem_of_getElem? (i := 24) rfl)) (hw _ (List.mem_of_getElem? (i := 26) rfl)) (hw _ (List.mem_of_getElem? (i := 2) rfl)) (hw _ (List.mem_of_getElem? (i := 28) rfl)) (hw _ (List.mem_of_getElem? (i := 25) rfl)) (hw _ (List.mem_of_getElem? (i := 27) rfl)) (by decide) O.1 (lenOf pd_5 rfl) (con_has1 W.l Z a0 hw a1 b1 b2 b3 (1 : Int32) (1 : Int32) l1 1 _ rfl rfl gs.2.1 h27 O A2) rfl rfl (Nat.le_of_ble_eq_true rfl) (Nat.le_of_ble_eq_true rfl) rfl rfl (Nat.le_of_ble_eq_true rfl) (Nat.le_of_ble_eq_true rfl) (S1 := [(.int (1 : Int32))]) rfl ?_
            refine g_iload (pc' := 262) C at_260 rfl rfl ?_
            refine g_icmpN (xi := 1) (yi := 1) (pc2 := 265) C at_262 rfl rfl rfl (by decide) ?_
            refine g_aload (pc' := 267) C at_265 rfl rfl rfl ?_
            refine g_iconst (pc' := 268) (z := (2 : Int32)) C at_267 rfl rfl ?_
            refine g_virtualP (y := (⟨"com/example/triplecore/triplecore/query/PatternQueue", "contains", "(I)Z"⟩ : MethodName)) (a := a1) (pc' := 271) (k' := 4) (n' := 13) (S := []) (as := [(.int (2 : Int32))]) C at_268 rfl (hw _ (List.mem_of_getElem? (i := 24) rfl)) (hw _ (List.mem_of_getElem? (i := 26) rfl)) (hw _ (List.mem_of_getElem? (i := 2) rfl)) (hw _ (List.mem_of_getElem? (i := 28) rfl)) (hw _ (List.mem_of_getElem? (i := 25) rfl)) (hw _ (List.mem_of_getElem? (i := 27) rfl)) (by decide) O.1 (lenOf pd_5 rfl) (con_has0 W.l Z a0 hw a1 b1 b2 b3 (1 : Int32) (2 : Int32) l2 2 _ rfl rfl gs.2.2 h27 O A2) rfl rfl (Nat.le_of_ble_eq_true rfl) (Nat.le_of_ble_eq_true rfl) rfl rfl (Nat.le_of_ble_eq_true rfl) (Nat.le_of_ble_eq_true rfl) (S1 := [(.int (0 : Int32))]) rfl ?_
            refine g_iload (pc' := 273) C at_271 rfl rfl ?_
            refine g_icmpN (xi := 0) (yi := 0) (pc2 := 276) C at_273 rfl rfl rfl (by decide) ?_
            refine g_iconst (pc' := 277) (z := (1 : Int32)) C at_276 rfl rfl ?_
            refine g_goto C at_277 (by decide) (pc' := 281) rfl ?_
            refine g_retN C (by simp) at_281 (by decide) (by decide) ?_
            subst hQ
            rfl
          ·
            show Go W Q h27 4 13 128 #[.val (.int p0), .val (.int p1), .val (.int p2), .val (.int p3), .val (.int p4), .val (.ref a1), .val (.int (1 : Int32)), .val (.int (1 : Int32)), .val (.int (0 : Int32)), .val (.int (2 : Int32)), .val (.int (1 : Int32)), .val (.int (-1 : Int32)), .val (.int (-1 : Int32)), .val (.int (-1 : Int32)), .unset, .unset, .unset] [(.int (1 : Int32))]
            refine g_istore (pc' := 130) (L' := #[.val (.int p0), .val (.int p1), .val (.int p2), .val (.int p3), .val (.int p4), .val (.ref a1), .val (.int (1 : Int32)), .val (.int (1 : Int32)), .val (.int (0 : Int32)), .val (.int (2 : Int32)), .val (.int (1 : Int32)), .val (.int (1 : Int32)), .val (.int (-1 : Int32)), .val (.int (-1 : Int32)), .unset, .unset, .unset]) C at_128 rfl rfl ?_
            refine g_iload (pc' := 132) C at_130 rfl rfl ?_
            refine g_iconst (pc' := 133) (z := (2 : Int32)) C at_132 rfl rfl ?_
            refine g_icmpY (xi := 1) (yi := 2) (pc1 := 143) C at_133 (by decide) rfl rfl rfl (by decide) ?_
            refine g_iload (pc' := 145) C at_143 rfl rfl ?_
            refine g_iconst (pc' := 146) (z := (3 : Int32)) C at_145 rfl rfl ?_
            refine g_icmpY (xi := 1) (yi := 3) (pc1 := 156) C at_146 (by decide) rfl rfl rfl (by decide) ?_
            refine g_iload (pc' := 158) C at_156 rfl rfl ?_
            refine g_ifN (xi := 1) (pc2 := 161) C at_158 rfl rfl (by decide) ?_
            refine g_iload (pc' := 163) C at_161 rfl rfl ?_
            refine g_ifN (xi := 1) (pc2 := 166) C at_163 rfl rfl (by decide) ?_
            refine g_iload (pc' := 168) C at_166 rfl rfl ?_
            refine g_ifN (xi := -1) (pc2 := 171) C at_168 rfl rfl (by decide) ?_
            refine g_iload (pc' := 173) C at_171 rfl rfl ?_
            refine g_ifN (xi := -1) (pc2 := 176) C at_173 rfl rfl (by decide) ?_
            refine g_iconst (pc' := 177) (z := (1 : Int32)) C at_176 rfl rfl ?_
            refine g_goto C at_177 (by decide) (pc' := 181) rfl ?_
            refine g_istore (pc' := 183) (L' := #[.val (.int p0), .val (.int p1), .val (.int p2), .val (.int p3), .val (.int p4), .val (.ref a1), .val (.int (1 : Int32)), .val (.int (1 : Int32)), .val (.int (0 : Int32)), .val (.int (2 : Int32)), .val (.int (1 : Int32)), .val (.int (1 : Int32)), .val (.int (-1 : Int32)), .val (.int (-1 : Int32)), .val (.int (1 : Int32)), .unset, .unset]) C at_181 rfl rfl ?_
            refine g_iload (pc' := 185) C at_183 rfl rfl ?_
            refine g_ifN (xi := 1) (pc2 := 188) C at_185 rfl rfl (by decide) ?_
            refine g_iload (pc' := 190) C at_188 rfl rfl ?_
            refine g_iconst (pc' := 191) (z := (1 : Int32)) C at_190 rfl rfl ?_
            refine g_icmpY (xi := 1) (yi := 1) (pc1 := 210) C at_191 (by decide) rfl rfl rfl (by decide) ?_
            refine g_iconst (pc' := 211) (z := (0 : Int32)) C at_210 rfl rfl ?_
            refine g_istore (pc' := 213) (L' := #[.val (.int p0), .val (.int p1), .val (.int p2), .val (.int p3), .val (.int p4), .val (.ref a1), .val (.int (1 : Int32)), .val (.int (1 : Int32)), .val (.int (0 : Int32)), .val (.int (2 : Int32)), .val (.int (1 : Int32)), .val (.int (1 : Int32)), .val (.int (-1 : Int32)), .val (.int (-1 : Int32)), .val (.int (1 : Int32)), .val (.int (0 : Int32)), .unset]) C at_211 rfl rfl ?_
            refine g_iload (pc' := 215) C at_213 rfl rfl ?_
            refine g_ifY (xi := 0) (pc1 := 240) C at_215 (by decide) rfl rfl (by decide) ?_
            refine g_iconst (pc' := 241) (z := (0 : Int32)) C at_240 rfl rfl ?_
            refine g_istore (pc' := 243) (L' := #[.val (.int p0), .val (.int p1), .val (.int p2), .val (.int p3), .val (.int p4), .val (.ref a1), .val (.int (1 : Int32)), .val (.int (1 : Int32)), .val (.int (0 : Int32)), .val (.int (2 : Int32)), .val (.int (1 : Int32)), .val (.int (1 : Int32)), .val (.int (-1 : Int32)), .val (.int (-1 : Int32)), .val (.int (1 : Int32)), .val (.int (0 : Int32)), .val (.int (0 : Int32))]) C at_241 rfl rfl ?_
            refine g_aload (pc' := 245) C at_243 rfl rfl rfl ?_
            refine g_iconst (pc' := 246) (z := (0 : Int32)) C at_245 rfl rfl ?_
            obtain ⟨x0, x1, x2, l0, l1, l2, c0, c1, c2, g, O, A1, A2, A3⟩ := B
            have gs : ¬ l0.toInt < 0 ∧ l1.toInt < 0 ∧ l2.toInt < 0 := by
              rcases g with ⟨rfl, rfl, rfl, rfl⟩ <;> decide
            refine g_virtualP (y := (⟨"com/example/triplecore/triplecore/query/PatternQueue", "contains", "(I)Z"⟩ : MethodName)) (a := a1) (pc' := 249) (k' := 4) (n' := 13) (S := []) (as := [(.int (0 : Int32))]) C at_246 rfl (hw _ (List.mem_of_getElem? (i := 24) rfl)) (hw _ (List.mem_of_getElem? (i := 26) rfl)) (hw _ (List.mem_of_getElem? (i := 2) rfl)) (hw _ (List.mem_of_getElem? (i := 28) rfl)) (hw _ (List.mem_of_getElem? (i := 25) rfl)) (hw _ (List.mem_of_getElem? (i := 27) rfl)) (by decide) O.1 (lenOf pd_5 rfl) (con_has1 W.l Z a0 hw a1 b1 b2 b3 (1 : Int32) (0 : Int32) l0 0 _ rfl rfl gs.1 h27 O A2) rfl rfl (Nat.le_of_ble_eq_true rfl) (Nat.le_of_ble_eq_true rfl) rfl rfl (Nat.le_of_ble_eq_true rfl) (Nat.le_of_ble_eq_true rfl) (S1 := [(.int (1 : Int32))]) rfl ?_
            refine g_iload (pc' := 251) C at_249 rfl rfl ?_
            refine g_icmpN (xi := 1) (yi := 1) (pc2 := 254) C at_251 rfl rfl rfl (by decide) ?_
            refine g_aload (pc' := 256) C at_254 rfl rfl rfl ?_
            refine g_iconst (pc' := 257) (z := (1 : Int32)) C at_256 rfl rfl ?_
            refine g_virtualP (y := (⟨"com/example/triplecore/triplecore/query/PatternQueue", "contains", "(I)Z"⟩ : MethodName)) (a := a1) (pc' := 260) (k' := 4) (n' := 13) (S := []) (as := [(.int (1 : Int32))]) C at_257 rfl (hw _ (List.mem_of_getElem? (i := 24) rfl)) (hw _ (List.mem_of_getElem? (i := 26) rfl)) (hw _ (List.mem_of_getElem? (i := 2) rfl)) (hw _ (List.mem_of_getElem? (i := 28) rfl)) (hw _ (List.mem_of_getElem? (i := 25) rfl)) (hw _ (List.mem_of_getElem? (i := 27) rfl)) (by decide) O.1 (lenOf pd_5 rfl) (con_has0 W.l Z a0 hw a1 b1 b2 b3 (1 : Int32) (1 : Int32) l1 1 _ rfl rfl gs.2.1 h27 O A2) rfl rfl (Nat.le_of_ble_eq_true rfl) (Nat.le_of_ble_eq_true rfl) rfl rfl (Nat.le_of_ble_eq_true rfl) (Nat.le_of_ble_eq_true rfl) (S1 := [(.int (0 : Int32))]) rfl ?_
            refine g_iload (pc' := 262) C at_260 rfl rfl ?_
            refine g_icmpN (xi := 0) (yi := 0) (pc2 := 265) C at_262 rfl rfl rfl (by decide) ?_
            refine g_aload (pc' := 267) C at_265 rfl rfl rfl ?_
            refine g_iconst (pc' := 268) (z := (2 : Int32)) C at_267 rfl rfl ?_
            refine g_virtualP (y := (⟨"com/example/triplecore/triplecore/query/PatternQueue", "contains", "(I)Z"⟩ : MethodName)) (a := a1) (pc' := 271) (k' := 4) (n' := 13) (S := []) (as := [(.int (2 : Int32))]) C at_268 rfl (hw _ (List.mem_of_getElem? (i := 24) rfl)) (hw _ (List.mem_of_getElem? (i := 26) rfl)) (hw _ (List.mem_of_getElem? (i := 2) rfl)) (hw _ (List.mem_of_getElem? (i := 28) rfl)) (hw _ (List.mem_of_getElem? (i := 25) rfl)) (hw _ (List.mem_of_getElem? (i := 27) rfl)) (by decide) O.1 (lenOf pd_5 rfl) (con_has0 W.l Z a0 hw a1 b1 b2 b3 (1 : Int32) (2 : Int32) l2 2 _ rfl rfl gs.2.2 h27 O A2) rfl rfl (Nat.le_of_ble_eq_true rfl) (Nat.le_of_ble_eq_true rfl) rfl rfl (Nat.le_of_ble_eq_true rfl) (Nat.le_of_ble_eq_true rfl) (S1 := [(.int (0 : Int32))]) rfl ?_
            refine g_iload (pc' := 273) C at_271 rfl rfl ?_
            refine g_icmpN (xi := 0) (yi := 0) (pc2 := 276) C at_273 rfl rfl rfl (by decide) ?_
            refine g_iconst (pc' := 277) (z := (1 : Int32)) C at_276 rfl rfl ?_
            refine g_goto C at_277 (by decide) (pc' := 281) rfl ?_
            refine g_retN C (by simp) at_281 (by decide) (by decide) ?_
            subst hQ
            rfl
        ·
          refine g_iconst (pc' := 109) (z := (-1 : Int32)) C at_108 rfl rfl ?_
          refine g_istore (pc' := 111) (L' := #[.val (.int p0), .val (.int p1), .val (.int p2), .val (.int p3), .val (.int p4), .val (.ref a1), .val (.int (1 : Int32)), .val (.int (1 : Int32)), .val (.int (0 : Int32)), .val (.int (2 : Int32)), .val (.int (2 : Int32)), .val (.int (-1 : Int32)), .unset, .unset, .unset, .unset, .unset]) C at_109 rfl rfl ?_
          refine g_iconst (pc' := 112) (z := (-1 : Int32)) C at_111 rfl rfl ?_
          refine g_istore (pc' := 114) (L' := #[.val (.int p0), .val (.int p1), .val (.int p2), .val (.int p3), .val (.int p4), .val (.ref a1), .val (.int (1 : Int32)), .val (.int (1 : Int32)), .val (.int (0 : Int32)), .val (.int (2 : Int32)), .val (.int (2 : Int32)), .val (.int (-1 : Int32)), .val (.int (-1 : Int32)), .unset, .unset, .unset, .unset]) C at_112 rfl rfl ?_
          refine g_iconst (pc' := 115) (z := (-1 : Int32)) C at_114 rfl rfl ?_
          refine g_istore (pc' := 117) (L' := #[.val (.int p0), .val (.int p1), .val (.int p2), .val (.int p3), .val (.int p4), .val (.ref a1), .val (.int (1 : Int32)), .val (.int (1 : Int32)), .val (.int (0 : Int32)), .val (.int (2 : Int32)), .val (.int (2 : Int32)), .val (.int (-1 : Int32)), .val (.int (-1 : Int32)), .val (.int (-1 : Int32)), .unset, .unset, .unset]) C at_115 rfl rfl ?_
          refine g_iload (pc' := 119) C at_117 rfl rfl ?_
          refine g_iconst (pc' := 120) (z := (1 : Int32)) C at_119 rfl rfl ?_
          refine g_icmpN (xi := 2) (yi := 1) (pc2 := 123) C at_120 rfl rfl rfl (by decide) ?_
          refine g_aload (pc' := 125) C at_123 rfl rfl rfl ?_
          refine g_virtual (y := (⟨"com/example/triplecore/triplecore/query/PatternQueue", "poll", "()I"⟩ : MethodName)) (a := a1) (pc' := 128) (k' := 4) (n' := 13) (S := []) (as := []) C at_125 rfl (hw _ (List.mem_of_getElem? (i := 48) rfl)) (hw _ (List.mem_of_getElem? (i := 50) rfl)) (hw _ (List.mem_of_getElem? (i := 2) rfl)) (hw _ (List.mem_of_getElem? (i := 52) rfl)) (hw _ (List.mem_of_getElem? (i := 49) rfl)) (hw _ (List.mem_of_getElem? (i := 51) rfl)) (by decide) B.exa (lenOf pd_6 rfl) (con_poll_G_01 W.l Z a0 hw a1 b1 b2 b3 q01 q02 q03 q12 q13 q23 h25 B) rfl rfl (Nat.le_of_ble_eq_true rfl) (Nat.le_of_ble_eq_true rfl) rfl rfl (Nat.le_of_ble_eq_true rfl) (Nat.le_of_ble_eq_true rfl) (allS w_a1 (allS w_b1 (allS w_b2 all0))) fun vh28 h28 qh28 Kh28 => ?_
          rcases qh28 with ⟨rfl, B⟩ | ⟨rfl, B⟩
          ·
            show Go W Q h28 4 13 128 #[.val (.int p0), .val (.int p1), .val (.int p2), .val (.int p3), .val (.int p4), .val (.ref a1), .val (.int (1 : Int32)), .val (.int (1 : Int32)), .val (.int (0 : Int32)), .val (.int (2 : Int32)), .val (.int (2 : Int32)), .val (.int (-1 : Int32)), .val (.int (-1 : Int32)), .val (.int (-1 : Int32)), .unset, .unset, .unset] [(.int (0 : Int32))]
            refine g_istore (pc' := 130) (L' := #[.val (.int p0), .val (.int p1), .val (.int p2), .val (.int p3), .val (.int p4), .val (.ref a1), .val (.int (1 : Int32)), .val (.int (1 : Int32)), .val (.int (0 : Int32)), .val (.int (2 : Int32)), .val (.int (2 : Int32)), .val (.int (0 : Int32)), .val (.int (-1 : Int32)), .val (.int (-1 : Int32)), .unset, .unset, .unset]) C at_128 rfl rfl ?_
            refine g_iload (pc' := 132) C at_130 rfl rfl ?_
            refine g_iconst (pc' := 133) (z := (2 : Int32)) C at_132 rfl rfl ?_
            refine g_icmpN (xi := 2) (yi := 2) (pc2 := 136) C at_133 rfl rfl rfl (by decide) ?_
            refine g_aload (pc' := 138) C at_136 rfl rfl rfl ?_
            refine g_virtual (y := (⟨"com/example/triplecore/triplecore/query/PatternQueue", "poll", "()I"⟩ : MethodName)) (a := a1) (pc' := 141) (k' := 4) (n' := 13) (S := []) (as := []) C at_138 rfl (hw _ (List.mem_of_getElem? (i := 48) rfl)) (hw _ (List.mem_of_getElem? (i := 50) rfl)) (hw _ (List.mem_of_getElem? (i := 2) rfl)) (hw _ (List.mem_of_getElem? (i := 52) rfl)) (hw _ (List.mem_of_getElem? (i := 49) rfl)) (hw _ (List.mem_of_getElem? (i := 51) rfl)) (by decide) B.exa (lenOf pd_6 rfl) (con_poll_G_1 W.l Z a0 hw a1 b1 b2 b3 q01 q02 q03 q12 q13 q23 h28 B) rfl rfl (Nat.le_of_ble_eq_true rfl) (Nat.le_of_ble_eq_true rfl) rfl rfl (Nat.le_of_ble_eq_true rfl) (Nat.le_of_ble_eq_true rfl) (allS w_a1 (allS w_b1 (allS w_b2 all0))) fun vh29 h29 qh29 Kh29 => ?_
            rcases qh29 with ⟨rfl, B⟩
            ·
              show Go W Q h29 4 13 141 #[.val (.int p0), .val (.int p1), .val (.int p2), .val (.int p3), .val (.int p4), .val (.ref a1), .val (.int (1 : Int32)), .val (.int (1 : Int32)), .val (.int (0 : Int32)), .val (.int (2 : Int32)), .val (.int (2 : Int32)), .val (.int (0 : Int32)), .val (.int (-1 : Int32)), .val (.int (-1 : Int32)), .unset, .unset, .unset] [(.int (1 : Int32))]
              refine g_istore (pc' := 143) (L' := #[.val (.int p0), .val (.int p1), .val (.int p2), .val (.int p3), .val (.int p4), .val (.ref a1), .val (.int (1 : Int32)), .val (.int (1 : Int32)), .val (.int (0 : Int32)), .val (.int (2 : Int32)), .val (.int (2 : Int32)), .val (.int (0 : Int32)), .val (.int (1 : Int32)), .val (.int (-1 : Int32)), .unset, .unset, .unset]) C at_141 rfl rfl ?_
              refine g_iload (pc' := 145) C at_143 rfl rfl ?_
              refine g_iconst (pc' := 146) (z := (3 : Int32)) C at_145 rfl rfl ?_
              refine g_icmpY (xi := 2) (yi := 3) (pc1 := 156) C at_146 (by decide) rfl rfl rfl (by decide) ?_
              refine g_iload (pc' := 158) C at_156 rfl rfl ?_
              refine g_ifN (xi := 1) (pc2 := 161) C at_158 rfl rfl (by decide) ?_
              refine g_iload (pc' := 163) C at_161 rfl rfl ?_
              refine g_ifY (xi := 0) (pc1 := 180) C at_163 (by decide) rfl rfl (by decide) ?_
              refine g_iconst (pc' := 181) (z := (0 : Int32)) C at_180 rfl rfl ?_
              refine g_istore (pc' := 183) (L' := #[.val (.int p0), .val (.int p1), .val (.int p2), .val (.int p3), .val (.int p4), .val (.ref a1), .val (.int (1 : Int32)), .val (.int (1 : Int32)), .val (.int (0 : Int32)), .val (.int (2 : Int32)), .val (.int (2 : Int32)), .val (.int (0 : Int32)), .val (.int (1 : Int32)), .val (.int (-1 : Int32)), .val (.int (0 : Int32)), .unset, .unset]) C at_181 rfl rfl ?_
              refine g_iload (pc' := 185) C at_183 rfl rfl ?_
              refine g_ifN (xi := 1) (pc2 := 188) C at_185 rfl rfl (by decide) ?_
              refine g_iload (pc' := 190) C at_188 rfl rfl ?_
              refine g_iconst (pc' := 191) (z := (1 : Int32)) C at_190 rfl rfl ?_
              refine g_icmpN (xi := 0) (yi := 1) (pc2 := 194) C at_191 rfl rfl rfl (by decide) ?_
              refine g_iload (pc' := 196) C at_194 rfl rfl ?_
              refine g_iconst (pc' := 197) (z := (1 : Int32)) C at_196 rfl rfl ?_
              refine g_icmpY (xi := 1) (yi := 1) (pc1 := 210) C at_197 (by decide) rfl rfl rfl (by decide) ?_
              refine g_iconst (pc' := 211) (z := (0 : Int32)) C at_210 rfl rfl ?_
              refine g_istore (pc' := 213) (L' := #[.val (.int p0), .val (.int p1), .val (.int p2), .val (.int p3), .val (.int p4), .val (.ref a1), .val (.int (1 : Int32)), .val (.int (1 : Int32)), .val (.int (0 : Int32)), .val (.int (2 : Int32)), .val (.int (2 : Int32)), .val (.int (0 : Int32)), .val (.int (1 : Int32)), .val (.int (-1 : Int32)), .val (.int (0 : Int32)), .val (.int (0 : Int32)), .unset]) C at_211 rfl rfl ?_
              refine g_iload (pc' := 215) C at_213 rfl rfl ?_
              refine g_ifY (xi := 0) (pc1 := 240) C at_215 (by decide) rfl rfl (by decide) ?_
              refine g_iconst (pc' := 241) (z := (0 : Int32)) C at_240 rfl rfl ?_
              refine g_istore (pc' := 243) (L' := #[.val (.int p0), .val (.int p1), .val (.int p2), .val (.int p3), .val (.int p4), .val (.ref a1), .val (.int (1 : Int32)), .val (.int (1 : Int32)), .val (.int (0 : Int32)), .val (.int (2 : Int32)), .val (.int (2 : Int32)), .val (.int (0 : Int32)), .val (.int (1 : Int32)), .val (.int (-1 : Int32)), .val (.int (0 : Int32)), .val (.int (0 : Int32)), .val (.int (0 : Int32))]) C at_241 rfl rfl ?_
              refine g_aload (pc' := 245) C at_243 rfl rfl rfl ?_
              refine g_iconst (pc' := 246) (z := (0 : Int32)) C at_245 rfl rfl ?_
              obtain ⟨x0, x1, x2, l0, l1, l2, c0, c1, c2, g, O, A1, A2, A3⟩ := B
              have gs : l0.toInt < 0 ∧ l1.toInt < 0 ∧ l2.toInt < 0 := by
                rcases g with ⟨rfl, rfl, rfl⟩ <;> decide
              refine g_virtualP (y := (⟨"com/example/triplecore/triplecore/query/PatternQueue", "contains", "(I)Z"⟩ : MethodName)) (a := a1) (pc' := 249) (k' := 4) (n' := 13) (S := []) (as := [(.int (0 : Int32))]) C at_246 rfl (hw _ (List.mem_of_getElem? (i := 24) rfl)) (hw _ (List.mem_of_getElem? (i := 26) rfl)) (hw _ (List.mem_of_getElem? (i := 2) rfl)) (hw _ (List.mem_of_getElem? (i := 28) rfl)) (hw _ (List.mem_of_getElem? (i := 25) rfl)) (hw _ (List.mem_of_getElem? (i := 27) rfl)) (by decide) O.1 (lenOf pd_5 rfl) (con_has0 W.l Z a0 hw a1 b1 b2 b3 (0 : Int32) (0 : Int32) l0 0 _ rfl rfl gs.1 h29 O A2) rfl rfl (Nat.le_of_ble_eq_true rfl) (Nat.le_of_ble_eq_true rfl) rfl rfl (Nat.le_of_ble_eq_true rfl) (Nat.le_of_ble_eq_true rfl) (S1 := [(.int (0 : Int32))]) rfl ?_
              refine g_iload (pc' := 251) C at_249 rfl rfl ?_
              refine g_icmpN (xi := 0) (yi := 0) (pc2 := 254) C at_251 rfl rfl rfl (by decide) ?_
              refine g_aload (pc' := 256) C at_254 rfl rfl rfl ?_
              refine g_iconst (pc' := 257) (z := (1 : Int32)) C at_256 rfl rfl ?_
              refine g_virtualP (y := (⟨"com/example/triplecore/triplecore/query/PatternQueue", "contains", "(I)Z"⟩ : MethodName)) (a := a1) (pc' := 260) (k' := 4) (n' := 13) (S := []) (as := [(.int (1 : Int32))]) C at_257 rfl (hw _ (List.mem_of_getElem? (i := 24) rfl)) (hw _ (List.mem_of_getElem? (i := 26) rfl)) (hw _ (List.mem_of_getElem? (i := 2) rfl)) (hw _ (List.mem_of_getElem? (i := 28) rfl)) (hw _ (List.mem_of_getElem? (i := 25) rfl)) (hw _ (List.mem_of_getElem? (i := 27) rfl)) (by decide) O.1 (lenOf pd_5 rfl) (con_has0 W.l Z a0 hw a1 b1 b2 b3 (0 : Int32) (1 : Int32) l1 1 _ rfl rfl gs.2.1 h29 O A2) rfl rfl (Nat.le_of_ble_eq_true rfl) (Nat.le_of_ble_eq_true rfl) rfl rfl (Nat.le_of_ble_eq_true rfl) (Nat.le_of_ble_eq_true rfl) (S1 := [(.int (0 : Int32))]) rfl ?_
              refine g_iload (pc' := 262) C at_260 rfl rfl ?_
              refine g_icmpN (xi := 0) (yi := 0) (pc2 := 265) C at_262 rfl rfl rfl (by decide) ?_
              refine g_aload (pc' := 267) C at_265 rfl rfl rfl ?_
              refine g_iconst (pc' := 268) (z := (2 : Int32)) C at_267 rfl rfl ?_
              refine g_virtualP (y := (⟨"com/example/triplecore/triplecore/query/PatternQueue", "contains", "(I)Z"⟩ : MethodName)) (a := a1) (pc' := 271) (k' := 4) (n' := 13) (S := []) (as := [(.int (2 : Int32))]) C at_268 rfl (hw _ (List.mem_of_getElem? (i := 24) rfl)) (hw _ (List.mem_of_getElem? (i := 26) rfl)) (hw _ (List.mem_of_getElem? (i := 2) rfl)) (hw _ (List.mem_of_getElem? (i := 28) rfl)) (hw _ (List.mem_of_getElem? (i := 25) rfl)) (hw _ (List.mem_of_getElem? (i := 27) rfl)) (by decide) O.1 (lenOf pd_5 rfl) (con_has0 W.l Z a0 hw a1 b1 b2 b3 (0 : Int32) (2 : Int32) l2 2 _ rfl rfl gs.2.2 h29 O A2) rfl rfl (Nat.le_of_ble_eq_true rfl) (Nat.le_of_ble_eq_true rfl) rfl rfl (Nat.le_of_ble_eq_true rfl) (Nat.le_of_ble_eq_true rfl) (S1 := [(.int (0 : Int32))]) rfl ?_
              refine g_iload (pc' := 273) C at_271 rfl rfl ?_
              refine g_icmpN (xi := 0) (yi := 0) (pc2 := 276) C at_273 rfl rfl rfl (by decide) ?_
              refine g_iconst (pc' := 277) (z := (1 : Int32)) C at_276 rfl rfl ?_
              refine g_goto C at_277 (by decide) (pc' := 281) rfl ?_
              refine g_retN C (by simp) at_281 (by decide) (by decide) ?_
              subst hQ
              rfl
          ·
            show Go W Q h28 4 13 128 #[.val (.int p0), .val (.int p1), .val (.int p2), .val (.int p3), .val (.int p4), .val (.ref a1), .val (.int (1 : Int32)), .val (.int (1 : Int32)), .val (.int (0 : Int32)), .val (.int (2 : Int32)), .val (.int (2 : Int32)), .val (.int (-1 : Int32)), .val (.int (-1 : Int32)), .val (.int (-1 : Int32)), .unset, .unset, .unset] [(.int (1 : Int32))]
            refine g_istore (pc' := 130) (L' := #[.val (.int p0), .val (.int p1), .val (.int p2), .val (.int p3), .val (.int p4), .val (.ref a1), .val (.int (1 : Int32)), .val (.int (1 : Int32)), .val (.int (0 : Int32)), .val (.int (2 : Int32)), .val (.int (2 : Int32)), .val (.int (1 : Int32)), .val (.int (-1 : Int32)), .val (.int (-1 : Int32)), .unset, .unset, .unset]) C at_128 rfl rfl ?_
            refine g_iload (pc' := 132) C at_130 rfl rfl ?_
            refine g_iconst (pc' := 133) (z := (2 : Int32)) C at_132 rfl rfl ?_
            refine g_icmpN (xi := 2) (yi := 2) (pc2 := 136) C at_133 rfl rfl rfl (by decide) ?_
            refine g_aload (pc' := 138) C at_136 rfl rfl rfl ?_
            refine g_virtual (y := (⟨"com/example/triplecore/triplecore/query/PatternQueue", "poll", "()I"⟩ : MethodName)) (a := a1) (pc' := 141) (k' := 4) (n' := 13) (S := []) (as := []) C at_138 rfl (hw _ (List.mem_of_getElem? (i := 48) rfl)) (hw _ (List.mem_of_getElem? (i := 50) rfl)) (hw _ (List.mem_of_getElem? (i := 2) rfl)) (hw _ (List.mem_of_getElem? (i := 52) rfl)) (hw _ (List.mem_of_getElem? (i := 49) rfl)) (hw _ (List.mem_of_getElem? (i := 51) rfl)) (by decide) B.exa (lenOf pd_6 rfl) (con_poll_G_0 W.l Z a0 hw a1 b1 b2 b3 q01 q02 q03 q12 q13 q23 h28 B) rfl rfl (Nat.le_of_ble_eq_true rfl) (Nat.le_of_ble_eq_true rfl) rfl rfl (Nat.le_of_ble_eq_true rfl) (Nat.le_of_ble_eq_true rfl) (allS w_a1 (allS w_b1 (allS w_b2 all0))) fun vh30 h30 qh30 Kh30 => ?_
            rcases qh30 with ⟨rfl, B⟩
            ·
              show Go W Q h30 4 13 141 #[.val (.int p0), .val (.int p1), .val (.int p2), .val (.int p3), .val (.int p4), .val (.ref a1), .val (.int (1 : Int32)), .val (.int (1 : Int32)), .val (.int (0 : Int32)), .val (.int (2 : Int32)), .val (.int (2 : Int32)), .val (.int (1 : Int32)), .val (.int (-1 : Int32)), .val (.int (-1 : Int32)), .unset, .unset, .unset] [(.int (0 : Int32))]
              refine g_istore (pc' := 143) (L' := #[.val (.int p0), .val (.int p1), .val (.int p2), .val (.int p3), .val (.int p4), .val (.ref a1), .val (.int (1 : Int32)), .val (.int (1 : Int32)), .val (.int (0 : Int32)), .val (.int (2 : Int32)), .val (.int (2 : Int32)), .val (.int (1 : Int32)), .val (.int (0 : Int32)), .val (.int (-1 : Int32)), .unset, .unset, .unset]) C at_141 rfl rfl ?_
              refine g_iload (pc' := 145) C at_143 rfl rfl ?_
              refine g_iconst (pc' := 146) (z := (3 : Int32)) C at_145 rfl rfl ?_
              refine g_icmpY (xi := 2) (yi := 3) (pc1 := 156) C at_146 (by decide) rfl rfl rfl (by decide) ?_
              refine g_iload (pc' := 158) C at_156 rfl rfl ?_
              refine g_ifN (xi := 1) (pc2 := 161) C at_158 rfl rfl (by decide) ?_
              refine g_iload (pc' := 163) C at_161 rfl rfl ?_
              refine g_ifN (xi := 1) (pc2 := 166) C at_163 rfl rfl (by decide) ?_
              refine g_iload (pc' := 168) C at_166 rfl rfl ?_
              refine g_ifY (xi := 0) (pc1 := 180) C at_168 (by decide) rfl rfl (by decide) ?_
              refine g_iconst (pc' := 181) (z := (0 : Int32)) C at_180 rfl rfl ?_
              refine g_istore (pc' := 183) (L' := #[.val (.int p0), .val (.int p1), .val (.int p2), .val (.int p3), .val (.int p4), .val (.ref a1), .val (.int (1 : Int32)), .val (.int (1 : Int32)), .val (.int (0 : Int32)), .val (.int (2 : Int32)), .val (.int (2 : Int32)), .val (.int (1 : Int32)), .val (.int (0 : Int32)), .val (.int (-1 : Int32)), .val (.int (0 : Int32)), .unset, .unset]) C at_181 rfl rfl ?_
              refine g_iload (pc' := 185) C at_183 rfl rfl ?_
              refine g_ifN (xi := 1) (pc2 := 188) C at_185 rfl rfl (by decide) ?_
              refine g_iload (pc' := 190) C at_188 rfl rfl ?_
              refine g_iconst (pc' := 191) (z := (1 : Int32)) C at_190 rfl rfl ?_
              refine g_icmpY (xi := 1) (yi := 1) (pc1 := 210) C at_191 (by decide) rfl rfl rfl (by decide) ?_
              refine g_iconst (pc' := 211) (z := (0 : Int32)) C at_210 rfl rfl ?_
              refine g_istore (pc' := 213) (L' := #[.val (.int p0), .val (.int p1), .val (.int p2), .val (.int p3), .val (.int p4), .val (.ref a1), .val (.int (1 : Int32)), .val (.int (1 : Int32)), .val (.int (0 : Int32)), .val (.int (2 : Int32)), .val (.int (2 : Int32)), .val (.int (1 : Int32)), .val (.int (0 : Int32)), .val (.int (-1 : Int32)), .val (.int (0 : Int32)), .val (.int (0 : Int32)), .unset]) C at_211 rfl rfl ?_
              refine g_iload (pc' := 215) C at_213 rfl rfl ?_
              refine g_ifY (xi := 0) (pc1 := 240) C at_215 (by decide) rfl rfl (by decide) ?_
              refine g_iconst (pc' := 241) (z := (0 : Int32)) C at_240 rfl rfl ?_
              refine g_istore (pc' := 243) (L' := #[.val (.int p0), .val (.int p1), .val (.int p2), .val (.int p3), .val (.int p4), .val (.ref a1), .val (.int (1 : Int32)), .val (.int (1 : Int32)), .val (.int (0 : Int32)), .val (.int (2 : Int32)), .val (.int (2 : Int32)), .val (.int (1 : Int32)), .val (.int (0 : Int32)), .val (.int (-1 : Int32)), .val (.int (0 : Int32)), .val (.int (0 : Int32)), .val (.int (0 : Int32))]) C at_241 rfl rfl ?_
              refine g_aload (pc' := 245) C at_243 rfl rfl rfl ?_
              refine g_iconst (pc' := 246) (z := (0 : Int32)) C at_245 rfl rfl ?_
              obtain ⟨x0, x1, x2, l0, l1, l2, c0, c1, c2, g, O, A1, A2, A3⟩ := B
              have gs : l0.toInt < 0 ∧ l1.toInt < 0 ∧ l2.toInt < 0 := by
                rcases g with ⟨rfl, rfl, rfl⟩ <;> decide
              refine g_virtualP (y := (⟨"com/example/triplecore/triplecore/query/PatternQueue", "contains", "(I)Z"⟩ : MethodName)) (a := a1) (pc' := 249) (k' := 4) (n' := 13) (S := []) (as := [(.int (0 : Int32))]) C at_246 rfl (hw _ (List.mem_of_getElem? (i := 24) rfl)) (hw _ (List.mem_of_getElem? (i := 26) rfl)) (hw _ (List.mem_of_getElem? (i := 2) rfl)) (hw _ (List.mem_of_getElem? (i := 28) rfl)) (hw _ (List.mem_of_getElem? (i := 25) rfl)) (hw _ (List.mem_of_getElem? (i := 27) rfl)) (by decide) O.1 (lenOf pd_5 rfl) (con_has0 W.l Z a0 hw a1 b1 b2 b3 (0 : Int32) (0 : Int32) l0 0 _ rfl rfl gs.1 h30 O A2) rfl rfl (Nat.le_of_ble_eq_true rfl) (Nat.le_of_ble_eq_true rfl) rfl rfl (Nat.le_of_ble_eq_true rfl) (Nat.le_of_ble_eq_true rfl) (S1 := [(.int (0 : Int32))]) rfl ?_
              refine g_iload (pc' := 251) C at_249 rfl rfl ?_
              refine g_icmpN (xi := 0) (yi := 0) (pc2 := 254) C at_251 rfl rfl rfl (by decide) ?_
              refine g_aload (pc' := 256) C at_254 rfl rfl rfl ?_
              refine g_iconst (pc' := 257) (z := (1 : Int32)) C at_256 rfl rfl ?_
              refine g_virtualP (y := (⟨"com/example/triplecore/triplecore/query/PatternQueue", "contains", "(I)Z"⟩ : MethodName)) (a := a1) (pc' := 260) (k' := 4) (n' := 13) (S := []) (as := [(.int (1 : Int32))]) C at_257 rfl (hw _ (List.mem_of_getElem? (i := 24) rfl)) (hw _ (List.mem_of_getElem? (i := 26) rfl)) (hw _ (List.mem_of_getElem? (i := 2) rfl)) (hw _ (List.mem_of_getElem? (i := 28) rfl)) (hw _ (List.mem_of_getElem? (i := 25) rfl)) (hw _ (List.mem_of_getElem? (i := 27) rfl)) (by decide) O.1 (lenOf pd_5 rfl) (con_has0 W.l Z a0 hw a1 b1 b2 b3 (0 : Int32) (1 : Int32) l1 1 _ rfl rfl gs.2.1 h30 O A2) rfl rfl (Nat.le_of_ble_eq_true rfl) (Nat.le_of_ble_eq_true rfl) rfl rfl (Nat.le_of_ble_eq_true rfl) (Nat.le_of_ble_eq_true rfl) (S1 := [(.int (0 : Int32))]) rfl ?_
              refine g_iload (pc' := 262) C at_260 rfl rfl ?_
              refine g_icmpN (xi := 0) (yi := 0) (pc2 := 265) C at_262 rfl rfl rfl (by decide) ?_
              refine g_aload (pc' := 267) C at_265 rfl rfl rfl ?_
              refine g_iconst (pc' := 268) (z := (2 : Int32)) C at_267 rfl rfl ?_
              refine g_virtualP (y := (⟨"com/example/triplecore/triplecore/query/PatternQueue", "contains", "(I)Z"⟩ : MethodName)) (a := a1) (pc' := 271) (k' := 4) (n' := 13) (S := []) (as := [(.int (2 : Int32))]) C at_268 rfl (hw _ (List.mem_of_getElem? (i := 24) rfl)) (hw _ (List.mem_of_getElem? (i := 26) rfl)) (hw _ (List.mem_of_getElem? (i := 2) rfl)) (hw _ (List.mem_of_getElem? (i := 28) rfl)) (hw _ (List.mem_of_getElem? (i := 25) rfl)) (hw _ (List.mem_of_getElem? (i := 27) rfl)) (by decide) O.1 (lenOf pd_5 rfl) (con_has0 W.l Z a0 hw a1 b1 b2 b3 (0 : Int32) (2 : Int32) l2 2 _ rfl rfl gs.2.2 h30 O A2) rfl rfl (Nat.le_of_ble_eq_true rfl) (Nat.le_of_ble_eq_true rfl) rfl rfl (Nat.le_of_ble_eq_true rfl) (Nat.le_of_ble_eq_true rfl) (S1 := [(.int (0 : Int32))]) rfl ?_
              refine g_iload (pc' := 273) C at_271 rfl rfl ?_
              refine g_icmpN (xi := 0) (yi := 0) (pc2 := 276) C at_273 rfl rfl rfl (by decide) ?_
              refine g_iconst (pc' := 277) (z := (1 : Int32)) C at_276 rfl rfl ?_
              refine g_goto C at_277 (by decide) (pc' := 281) rfl ?_
              refine g_retN C (by simp) at_281 (by decide) (by decide) ?_
              subst hQ
              rfl
      ·
        refine g_iload (pc' := 84) C at_82 rfl rfl ?_
        refine g_ifN (xi := 1) (pc2 := 87) C at_84 rfl rfl (by decide) ?_
        refine g_aload (pc' := 89) C at_87 rfl rfl rfl ?_
        refine g_iconst (pc' := 90) (z := (2 : Int32)) C at_89 rfl rfl ?_
        refine g_iloadN (pc' := 91) C at_90 rfl rfl ?_
        refine g_virtual (y := (⟨"com/example/triplecore/triplecore/query/PatternQueue", "add", "(II)V"⟩ : MethodName)) (a := a1) (pc' := 94) (k' := 4) (n' := 13) (S := []) (as := [(.int (2 : Int32)), (.int p3)]) C at_91 rfl (hw _ (List.mem_of_getElem? (i := 29) rfl)) (hw _ (List.mem_of_getElem? (i := 31) rfl)) (hw _ (List.mem_of_getElem? (i := 2) rfl)) (hw _ (List.mem_of_getElem? (i := 33) rfl)) (hw _ (List.mem_of_getElem? (i := 30) rfl)) (hw _ (List.mem_of_getElem? (i := 32) rfl)) (by decide) B.exa (lenOf pd_0 rfl) (con_add_G_01_2 W.l Z a0 hw a1 b1 b2 b3 p3 q01 q02 q03 q12 q13 q23 h25 B) rfl rfl (Nat.le_of_ble_eq_true rfl) (Nat.le_of_ble_eq_true rfl) rfl rfl (Nat.le_of_ble_eq_true rfl) (Nat.le_of_ble_eq_true rfl) (allS w_a1 (allS w_b1 (allS w_b2 (allS w_b3 all0)))) fun vh31 h31 qh31 Kh31 => ?_
        obtain ⟨rfl, B⟩ := qh31
        show Go W Q h31 4 13 94 #[.val (.int p0), .val (.int p1), .val (.int p2), .val (.int p3), .val (.int p4), .val (.ref a1), .val (.int (1 : Int32)), .val (.int (1 : Int32)), .val (.int (1 : Int32)), .val (.int (2 : Int32)), .unset, .unset, .unset, .unset, .unset, .unset, .unset] []
        refine g_iinc (pc' := 97) (z := (3 : Int32)) (L' := #[.val (.int p0), .val (.int p1), .val (.int p2), .val (.int p3), .val (.int p4), .val (.ref a1), .val (.int (1 : Int32)), .val (.int (1 : Int32)), .val (.int (1 : Int32)), .val (.int (3 : Int32)), .unset, .unset, .unset, .unset, .unset, .unset, .unset]) C at_94 rfl rfl rfl rfl ?_
        refine g_iload (pc' := 99) C at_97 rfl rfl ?_
        refine g_iconst (pc' := 100) (z := (3 : Int32)) C at_99 rfl rfl ?_
        refine g_iand (pc' := 101) C at_100 rfl ?_
        refine g_iload (pc' := 103) C at_101 rfl rfl ?_
        refine g_static (y := (⟨"java/lang/Math", "min", "(II)I"⟩ : MethodName)) (pc' := 106) (k' := 4) (n' := 13) (S := []) (as := [(.int (p4 &&& (3 : Int32))), (.int (3 : Int32))]) C at_103 rfl (hw _ (List.mem_of_getElem? (i := 20) rfl)) (hw _ (List.mem_of_getElem? (i := 21) rfl)) (hw _ (List.mem_of_getElem? (i := 22) rfl)) (hw _ (List.mem_of_getElem? (i := 23) rfl)) (by decide) (lenOf pd_4 rfl) (con_min W.l Z a0 hw (p4 &&& (3 : Int32)) (3 : Int32) h31) rfl rfl (Nat.le_of_ble_eq_true rfl) (Nat.le_of_ble_eq_true rfl) rfl rfl (Nat.le_of_ble_eq_true rfl) (Nat.le_of_ble_eq_true rfl) all0 fun vh32 h32 qh32 Kh32 => ?_
        obtain ⟨kk, rfl, eh, e_kk⟩ := qh32
        subst eh
        show Go W Q h31 4 13 106 #[.val (.int p0), .val (.int p1), .val (.int p2), .val (.int p3), .val (.int p4), .val (.ref a1), .val (.int (1 : Int32)), .val (.int (1 : Int32)), .val (.int (1 : Int32)), .val (.int (3 : Int32)), .unset, .unset, .unset, .unset, .unset, .unset, .unset] [(.int kk)]
        refine g_istore (pc' := 108) (L' := #[.val (.int p0), .val (.int p1), .val (.int p2), .val (.int p3), .val (.int p4), .val (.ref a1), .val (.int (1 : Int32)), .val (.int (1 : Int32)), .val (.int (1 : Int32)), .val (.int (3 : Int32)), .val (.int kk), .unset, .unset, .unset, .unset, .unset, .unset]) C at_106 rfl rfl ?_
        have sp_kk : kk = 0 ∨ kk = 1 ∨ kk = 2 ∨ kk = 3 := by
          have y1 := c_mask p4 3 2 (by decide) (by decide)
          have z0 : (0 : Int32).toInt = 0 := rfl
          have z1 : (1 : Int32).toInt = 1 := rfl
          have z2 : (2 : Int32).toInt = 2 := rfl
          have z3 : (3 : Int32).toInt = 3 := rfl
          rcases (by omega : kk.toInt = 0 ∨ kk.toInt = 1 ∨ kk.toInt = 2 ∨ kk.toInt = 3) with y | y | y | y
          · exact Or.inl (Int32.toInt_inj.mp (by omega))
          · exact Or.inr (Or.inl (Int32.toInt_inj.mp (by omega)))
          · exact Or.inr (Or.inr (Or.inl (Int32.toInt_inj.mp (by omega))))
          · exact Or.inr (Or.inr (Or.inr (Int32.toInt_inj.mp (by omega))))
        clear e_kk
        rcases sp_kk with sp_kk | sp_kk | sp_kk | sp_kk <;> subst sp_kk
        ·
          refine g_iconst (pc' := 109) (z := (-1 : Int32)) C at_108 rfl rfl ?_
          refine g_istore (pc' := 111) (L' := #[.val (.int p0), .val (.int p1), .val (.int p2), .val (.int p3), .val (.int p4), .val (.ref a1), .val (.int (1 : Int32)), .val (.int (1 : Int32)), .val (.int (1 : Int32)), .val (.int (3 : Int32)), .val (.int (0 : Int32)), .val (.int (-1 : Int32)), .unset, .unset, .unset, .unset, .unset]) C at_109 rfl rfl ?_
          refine g_iconst (pc' := 112) (z := (-1 : Int32)) C at_111 rfl rfl ?_
          refine g_istore (pc' := 114) (L' := #[.val (.int p0), .val (.int p1), .val (.int p2), .val (.int p3), .val (.int p4), .val (.ref a1), .val (.int (1 : Int32)), .val (.int (1 : Int32)), .val (.int (1 : Int32)), .val (.int (3 : Int32)), .val (.int (0 : Int32)), .val (.int (-1 : Int32)), .val (.int (-1 : Int32)), .unset, .unset, .unset, .unset]) C at_112 rfl rfl ?_
          refine g_iconst (pc' := 115) (z := (-1 : Int32)) C at_114 rfl rfl ?_
          refine g_istore (pc' := 117) (L' := #[.val (.int p0), .val (.int p1), .val (.int p2), .val (.int p3), .val (.int p4), .val (.ref a1), .val (.int (1 : Int32)), .val (.int (1 : Int32)), .val (.int (1 : Int32)), .val (.int (3 : Int32)), .val (.int (0 : Int32)), .val (.int (-1 : Int32)), .val (.int (-1 : Int32)), .val (.int (-1 : Int32)), .unset, .unset, .unset]) C at_115 rfl rfl ?_
          refine g_iload (pc' := 119) C at_117 rfl rfl ?_
          refine g_iconst (pc' := 120) (z := (1 : Int32)) C at_119 rfl rfl ?_
          refine g_icmpY (xi := 0) (yi := 1) (pc1 := 130) C at_120 (by decide) rfl rfl rfl (by decide) ?_
          refine g_iload (pc' := 132) C at_130 rfl rfl ?_
          refine g_iconst (pc' := 133) (z := (2 : Int32)) C at_132 rfl rfl ?_
          refine g_icmpY (xi := 0) (yi := 2) (pc1 := 143) C at_133 (by decide) rfl rfl rfl (by decide) ?_
          refine g_iload (pc' := 145) C at_143 rfl rfl ?_
          refine g_iconst (pc' := 146) (z := (3 : Int32)) C at_145 rfl rfl ?_
          refine g_icmpY (xi := 0) (yi := 3) (pc1 := 156) C at_146 (by decide) rfl rfl rfl (by decide) ?_
          refine g_iload (pc' := 158) C at_156 rfl rfl ?_
          refine g_ifN (xi := 1) (pc2 := 161) C at_158 rfl rfl (by decide) ?_
          refine g_iload (pc' := 163) C at_161 rfl rfl ?_
          refine g_ifN (xi := -1) (pc2 := 166) C at_163 rfl rfl (by decide) ?_
          refine g_iload (pc' := 168) C at_166 rfl rfl ?_
          refine g_ifN (xi := -1) (pc2 := 171) C at_168 rfl rfl (by decide) ?_
          refine g_iload (pc' := 173) C at_171 rfl rfl ?_
          refine g_ifN (xi := -1) (pc2 := 176) C at_173 rfl rfl (by decide) ?_
          refine g_iconst (pc' := 177) (z := (1 : Int32)) C at_176 rfl rfl ?_
          refine g_goto C at_177 (by decide) (pc' := 181) rfl ?_
          refine g_istore (pc' := 183) (L' := #[.val (.int p0), .val (.int p1), .val (.int p2), .val (.int p3), .val (.int p4), .val (.ref a1), .val (.int (1 : Int32)), .val (.int (1 : Int32)), .val (.int (1 : Int32)), .val (.int (3 : Int32)), .val (.int (0 : Int32)), .val (.int (-1 : Int32)), .val (.int (-1 : Int32)), .val (.int (-1 : Int32)), .val (.int (1 : Int32)), .unset, .unset]) C at_181 rfl rfl ?_
          refine g_iload (pc' := 185) C at_183 rfl rfl ?_
          refine g_ifN (xi := 1) (pc2 := 188) C at_185 rfl rfl (by decide) ?_
          refine g_iload (pc' := 190) C at_188 rfl rfl ?_
          refine g_iconst (pc' := 191) (z := (1 : Int32)) C at_190 rfl rfl ?_
          refine g_icmpN (xi := -1) (yi := 1) (pc2 := 194) C at_191 rfl rfl rfl (by decide) ?_
          refine g_iload (pc' := 196) C at_194 rfl rfl ?_
          refine g_iconst (pc' := 197) (z := (1 : Int32)) C at_196 rfl rfl ?_
          refine g_icmpN (xi := -1) (yi := 1) (pc2 := 200) C at_197 rfl rfl rfl (by decide) ?_
          refine g_iload (pc' := 202) C at_200 rfl rfl ?_
          refine g_iconst (pc' := 203) (z := (1 : Int32)) C at_202 rfl rfl ?_
          refine g_icmpN (xi := -1) (yi := 1) (pc2 := 206) C at_203 rfl rfl rfl (by decide) ?_
          refine g_iconst (pc' := 207) (z := (1 : Int32)) C at_206 rfl rfl ?_
          refine g_goto C at_207 (by decide) (pc' := 211) rfl ?_
          refine g_istore (pc' := 213) (L' := #[.val (.int p0), .val (.int p1), .val (.int p2), .val (.int p3), .val (.int p4), .val (.ref a1), .val (.int (1 : Int32)), .val (.int (1 : Int32)), .val (.int (1 : Int32)), .val (.int (3 : Int32)), .val (.int (0 : Int32)), .val (.int (-1 : Int32)), .val (.int (-1 : Int32)), .val (.int (-1 : Int32)), .val (.int (1 : Int32)), .val (.int (1 : Int32)), .unset]) C at_211 rfl rfl ?_
          refine g_iload (pc' := 215) C at_213 rfl rfl ?_
          refine g_ifN (xi := 1) (pc2 := 218) C at_215 rfl rfl (by decide) ?_
          refine g_iload (pc' := 220) C at_218 rfl rfl ?_
          refine g_iconst (pc' := 221) (z := (2 : Int32)) C at_220 rfl rfl ?_
          refine g_icmpN (xi := -1) (yi := 2) (pc2 := 224) C at_221 rfl rfl rfl (by decide) ?_
          refine g_iload (pc' := 226) C at_224 rfl rfl ?_
          refine g_iconst (pc' := 227) (z := (2 : Int32)) C at_226 rfl rfl ?_
          refine g_icmpN (xi := -1) (yi := 2) (pc2 := 230) C at_227 rfl rfl rfl (by decide) ?_
          refine g_iload (pc' := 232) C at_230 rfl rfl ?_
          refine g_iconst (pc' := 233) (z := (2 : Int32)) C at_232 rfl rfl ?_
          refine g_icmpN (xi := -1) (yi := 2) (pc2 := 236) C at_233 rfl rfl rfl (by decide) ?_
          refine g_iconst (pc' := 237) (z := (1 : Int32)) C at_236 rfl rfl ?_
          refine g_goto C at_237 (by decide) (pc' := 241) rfl ?_
          refine g_istore (pc' := 243) (L' := #[.val (.int p0), .val (.int p1), .val (.int p2), .val (.int p3), .val (.int p4), .val (.ref a1), .val (.int (1 : Int32)), .val (.int (1 : Int32)), .val (.int (1 : Int32)), .val (.int (3 : Int32)), .val (.int (0 : Int32)), .val (.int (-1 : Int32)), .val (.int (-1 : Int32)), .val (.int (-1 : Int32)), .val (.int (1 : Int32)), .val (.int (1 : Int32)), .val (.int (1 : Int32))]) C at_241 rfl rfl ?_
          refine g_aload (pc' := 245) C at_243 rfl rfl rfl ?_
          refine g_iconst (pc' := 246) (z := (0 : Int32)) C at_245 rfl rfl ?_
          obtain ⟨x0, x1, x2, l0, l1, l2, c0, c1, c2, g, O, A1, A2, A3⟩ := B
          have gs : ¬ l0.toInt < 0 ∧ ¬ l1.toInt < 0 ∧ ¬ l2.toInt < 0 := by
            rcases g with ⟨rfl, rfl, rfl, rfl, rfl, rfl⟩ | ⟨rfl, rfl, rfl, rfl, rfl, rfl⟩ | ⟨rfl, rfl, rfl, rfl, rfl, rfl⟩ | ⟨rfl, rfl, rfl, rfl, rfl, rfl⟩ | ⟨rfl, rfl, rfl, rfl, rfl, rfl⟩ | ⟨rfl, rfl, rfl, rfl, rfl, rfl⟩ <;> decide
          refine g_virtualP (y := (⟨"com/example/triplecore/triplecore/query/PatternQueue", "contains", "(I)Z"⟩ : MethodName)) (a := a1) (pc' := 249) (k' := 4) (n' := 13) (S := []) (as := [(.int (0 : Int32))]) C at_246 rfl (hw _ (List.mem_of_getElem? (i := 24) rfl)) (hw _ (List.mem_of_getElem? (i := 26) rfl)) (hw _ (List.mem_of_getElem? (i := 2) rfl)) (hw _ (List.mem_of_getElem? (i := 28) rfl)) (hw _ (List.mem_of_getElem? (i := 25) rfl)) (hw _ (List.mem_of_getElem? (i := 27) rfl)) (by decide) O.1 (lenOf pd_5 rfl) (con_has1 W.l Z a0 hw a1 b1 b2 b3 (3 : Int32) (0 : Int32) l0 0 _ rfl rfl gs.1 h31 O A2) rfl rfl (Nat.le_of_ble_eq_true rfl) (Nat.le_of_ble_eq_true rfl) rfl rfl (Nat.le_of_ble_eq_true rfl) (Nat.le_of_ble_eq_true rfl) (S1 := [(.int (1 : Int32))]) rfl ?_
          refine g_iload (pc' := 251) C at_249 rfl rfl ?_
          refine g_icmpN (xi := 1) (yi := 1) (pc2 := 254) C at_251 rfl rfl rfl (by decide) ?_
          refine g_aload (pc' := 256) C at_254 rfl rfl rfl ?_
          refine g_iconst (pc' := 257) (z := (1 : Int32)) C at_256 rfl rfl ?_
          refine g_virtualP (y := (⟨"com/example/triplecore/triplecore/query/PatternQueue", "contains", "(I)Z"⟩ : MethodName)) (a := a1) (pc' := 260) (k' := 4) (n' := 13) (S := []) (as := [(.int (1 : Int32))]) C at_257 rfl (hw _ (List.mem_of_getElem? (i := 24) rfl)) (hw _ (List.mem_of_getElem? (i := 26) rfl)) (hw _ (List.mem_of_getElem? (i := 2) rfl)) (hw _ (List.mem_of_getElem? (i := 28) rfl)) (hw _ (List.mem_of_getElem? (i := 25) rfl)) (hw _ (List.mem_of_getElem? (i := 27) rfl)) (by decide) O.1 (lenOf pd_5 rfl) (con_has1 W.l Z a0 hw a1 b1 b2 b3 (3 : Int32) (1 : Int32) l1 1 _ rfl rfl gs.2.1 h31 O A2) rfl rfl (Nat.le_of_ble_eq_true rfl) (Nat.le_of_ble_eq_true rfl) rfl rfl (Nat.le_of_ble_eq_true rfl) (Nat.le_of_ble_eq_true rfl) (S1 := [(.int (1 : Int32))]) rfl ?_
          refine g_iload (pc' := 262) C at_260 rfl rfl ?_
          refine g_icmpN (xi := 1) (yi := 1) (pc2 := 265) C at_262 rfl rfl rfl (by decide) ?_
          refine g_aload (pc' := 267) C at_265 rfl rfl rfl ?_
          refine g_iconst (pc' := 268) (z := (2 : Int32)) C at_267 rfl rfl ?_
          refine g_virtualP (y := (⟨"com/example/triplecore/triplecore/query/PatternQueue", "contains", "(I)Z"⟩ : MethodName)) (a := a1) (pc' := 271) (k' := 4) (n' := 13) (S := []) (as := [(.int (2 : Int32))]) C at_268 rfl (hw _ (List.mem_of_getElem? (i := 24) rfl)) (hw _ (List.mem_of_getElem? (i := 26) rfl)) (hw _ (List.mem_of_getElem? (i := 2) rfl)) (hw _ (List.mem_of_getElem? (i := 28) rfl)) (hw _ (List.mem_of_getElem? (i := 25) rfl)) (hw _ (List.mem_of_getElem? (i := 27) rfl)) (by decide) O.1 (lenOf pd_5 rfl) (con_has1 W.l Z a0 hw a1 b1 b2 b3 (3 : Int32) (2 : Int32) l2 2 _ rfl rfl gs.2.2 h31 O A2) rfl rfl (Nat.le_of_ble_eq_true rfl) (Nat.le_of_ble_eq_true rfl) rfl rfl (Nat.le_of_ble_eq_true rfl) (Nat.le_of_ble_eq_true rfl) (S1 := [(.int (1 : Int32))]) rfl ?_
          refine g_iload (pc' := 273) C at_271 rfl rfl ?_
          refine g_icmpN (xi := 1) (yi := 1) (pc2 := 276) C at_273 rfl rfl rfl (by decide) ?_
          refine g_iconst (pc' := 277) (z := (1 : Int32)) C at_276 rfl rfl ?_
          refine g_goto C at_277 (by decide) (pc' := 281) rfl ?_
          refine g_retN C (by simp) at_281 (by decide) (by decide) ?_
          subst hQ
          rfl
        ·
          refine g_iconst (pc' := 109) (z := (-1 : Int32)) C at_108 rfl rfl ?_
          refine g_istore (pc' := 111) (L' := #[.val (.int p0), .val (.int p1), .val (.int p2), .val (.int p3), .val (.int p4), .val (.ref a1), .val (.int (1 : Int32)), .val (.int (1 : Int32)), .val (.int (1 : Int32)), .val (.int (3 : Int32)), .val (.int (1 : Int32)), .val (.int (-1 : Int32)), .unset, .unset, .unset, .unset, .unset]) C at_109 rfl rfl ?_
          refine g_iconst (pc' := 112) (z := (-1 : Int32)) C at_111 rfl rfl ?_
          refine g_istore (pc' := 114) (L' := #[.val (.int p0), .val (.int p1), .val (.int p2), .val (.int p3), .val (.int p4), .val (.ref a1), .val (.int (1 : Int32)), .val (.int (1 : Int32)), .val (.int (1 : Int32)), .val (.int (3 : Int32)), .val (.int (1 : Int32)), .val (.int (-1 : Int32)), .val (.int (-1 : Int32)), .unset, .unset, .unset, .unset]) C at_112 rfl rfl ?_
          refine g_iconst (pc' := 115) (z := (-1 : Int32)) C at_114 rfl rfl ?_
          refine g_istore (pc' := 117) (L' := #[.val (.int p0), .val (.int p1), .val (.int p2), .val (.int p3), .val (.int p4), .val (.ref a1), .val (.int (1 : Int32)), .val (.int (1 : Int32)), .val (.int (1 : Int32)), .val (.int (3 : Int32)), .val (.int (1 : Int32)), .val (.int (-1 : Int32)), .val (.int (-1 : Int32)), .val (.int (-1 : Int32)), .unset, .unset, .unset]) C at_115 rfl rfl ?_
          refine g_iload (pc' := 119) C at_117 rfl rfl ?_
          refine g_iconst (pc' := 120) (z := (1 : Int32)) C at_119 rfl rfl ?_
          refine g_icmpN (xi := 1) (yi := 1) (pc2 := 123) C at_120 rfl rfl rfl (by decide) ?_
          refine g_aload (pc' := 125) C at_123 rfl rfl rfl ?_
          refine g_virtual (y := (⟨"com/example/triplecore/triplecore/query/PatternQueue", "poll", "()I"⟩ : MethodName)) (a := a1) (pc' := 128) (k' := 4) (n' := 13) (S := []) (as := []) C at_125 rfl (hw _ (List.mem_of_getElem? (i := 48) rfl)) (hw _ (List.mem_of_getElem? (i := 50) rfl)) (hw _ (List.mem_of_getElem? (i := 2) rfl)) (hw _ (List.mem_of_getElem? (i := 52) rfl)) (hw _ (List.mem_of_getElem? (i := 49) rfl)) (hw _ (List.mem_of_getElem? (i := 51) rfl)) (by decide) B.exa (lenOf pd_6 rfl) (con_poll_G_012 W.l Z a0 hw a1 b1 b2 b3 q01 q02 q03 q12 q13 q23 h31 B) rfl rfl (Nat.le_of_ble_eq_true rfl) (Nat.le_of_ble_eq_true rfl) rfl rfl (Nat.le_of_ble_eq_true rfl) (Nat.le_of_ble_eq_true rfl) (allS w_a1 (allS w_b1 (allS w_b2 all0))) fun vh33 h33 qh33 Kh33 => ?_
          rcases qh33 with ⟨rfl, B⟩ | ⟨rfl, B⟩ | ⟨rfl, B⟩
          ·
            show Go W Q h33 4 13 128 #[.val (.int p0), .val (.int p1), .val (.int p2), .val (.int p3), .val (.int p4), .val (.ref a1), .val (.int (1 : Int32)), .val (.int (1 : Int32)), .val (.int (1 : Int32)), .val (.int (3 : Int32)), .val (.int (1 : Int32)), .val (.int (-1 : Int32)), .val (.int (-1 : Int32)), .val (.int (-1 : Int32)), .unset, .unset, .unset] [(.int (0 : Int32))]
            refine g_istore (pc' := 130) (L' := #[.val (.int p0), .val (.int p1), .val (.int p2), .val (.int p3), .val (.int p4), .val (.ref a1), .val (.int (1 : Int32)), .val (.int (1 : Int32)), .val (.int (1 : Int32)), .val (.int (3 : Int32)), .val (.int (1 : Int32)), .val (.int (0 : Int32)), .val (.int (-1 : Int32)), .val (.int (-1 : Int32)), .unset, .unset, .unset]) C at_128 rfl rfl ?_
            refine g_iload (pc' := 132) C at_130 rfl rfl ?_
            refine g_iconst (pc' := 133) (z := (2 : Int32)) C at_132 rfl rfl ?_
            refine g_icmpY (xi := 1) (yi := 2) (pc1 := 143) C at_133 (by decide) rfl rfl rfl (by decide) ?_
            refine g_iload (pc' := 145) C at_143 rfl rfl ?_
            refine g_iconst (pc' := 146) (z := (3 : Int32)) C at_145 rfl rfl ?_
            refine g_icmpY (xi := 1) (yi := 3) (pc1 := 156) C at_146 (by decide) rfl rfl rfl (by decide) ?_
            refine g_iload (pc' := 158) C at_156 rfl rfl ?_
            refine g_ifN (xi := 1) (pc2 := 161) C at_158 rfl rfl (by decide) ?_
            refine g_iload (pc' := 163) C at_161 rfl rfl ?_
            refine g_ifY (xi := 0) (pc1 := 180) C at_163 (by decide) rfl rfl (by decide) ?_
            refine g_iconst (pc' := 181) (z := (0 : Int32)) C at_180 rfl rfl ?_
            refine g_istore (pc' := 183) (L' := #[.val (.int p0), .val (.int p1), .val (.int p2), .val (.int p3), .val (.int p4), .val (.ref a1), .val (.int (1 : Int32)), .val (.int (1 : Int32)), .val (.int (1 : Int32)), .val (.int (3 : Int32)), .val (.int (1 : Int32)), .val (.int (0 : Int32)), .val (.int (-1 : Int32)), .val (.int (-1 : Int32)), .val (.int (0 : Int32)), .unset, .unset]) C at_181 rfl rfl ?_
            refine g_iload (pc' := 185) C at_183 rfl rfl ?_
            refine g_ifN (xi := 1) (pc2 := 188) C at_185 rfl rfl (by decide) ?_
            refine g_iload (pc' := 190) C at_188 rfl rfl ?_
            refine g_iconst (pc' := 191) (z := (1 : Int32)) C at_190 rfl rfl ?_
            refine g_icmpN (xi := 0) (yi := 1) (pc2 := 194) C at_191 rfl rfl rfl (by decide) ?_
            refine g_iload (pc' := 196) C at_194 rfl rfl ?_
            refine g_iconst (pc' := 197) (z := (1 : Int32)) C at_196 rfl rfl ?_
            refine g_icmpN (xi := -1) (yi := 1) (pc2 := 200) C at_197 rfl rfl rfl (by decide) ?_
            refine g_iload (pc' := 202) C at_200 rfl rfl ?_
            refine g_iconst (pc' := 203) (z := (1 : Int32)) C at_202 rfl rfl ?_
            refine g_icmpN (xi := -1) (yi := 1) (pc2 := 206) C at_203 rfl rfl rfl (by decide) ?_
            refine g_iconst (pc' := 207) (z := (1 : Int32)) C at_206 rfl rfl ?_
            refine g_goto C at_207 (by decide) (pc' := 211) rfl ?_
            refine g_istore (pc' := 213) (L' := #[.val (.int p0), .val (.int p1), .val (.int p2), .val (.int p3), .val (.int p4), .val (.ref a1), .val (.int (1 : Int32)), .val (.int (1 : Int32)), .val (.int (1 : Int32)), .val (.int (3 : Int32)), .val (.int (1 : Int32)), .val (.int (0 : Int32)), .val (.int (-1 : Int32)), .val (.int (-1 : Int32)), .val (.int (0 : Int32)), .val (.int (1 : Int32)), .unset]) C at_211 rfl rfl ?_
            refine g_iload (pc' := 215) C at_213 rfl rfl ?_
            refine g_ifN (xi := 1) (pc2 := 218) C at_215 rfl rfl (by decide) ?_
            refine g_iload (pc' := 220) C at_218 rfl rfl ?_
            refine g_iconst (pc' := 221) (z := (2 : Int32)) C at_220 rfl rfl ?_
            refine g_icmpN (xi := 0) (yi := 2) (pc2 := 224) C at_221 rfl rfl rfl (by decide) ?_
            refine g_iload (pc' := 226) C at_224 rfl rfl ?_
            refine g_iconst (pc' := 227) (z := (2 : Int32)) C at_226 rfl rfl ?_
            refine g_icmpN (xi := -1) (yi := 2) (pc2 := 230) C at_227 rfl rfl rfl (by decide) ?_
            refine g_iload (pc' := 232) C at_230 rfl rfl ?_
            refine g_iconst (pc' := 233) (z := (2 : Int32)) C at_232 rfl rfl ?_
            refine g_icmpN (xi := -1) (yi := 2) (pc2 := 236) C at_233 rfl rfl rfl (by decide) ?_
            refine g_iconst (pc' := 237) (z := (1 : Int32)) C at_236 rfl rfl ?_
            refine g_goto C at_237 (by decide) (pc' := 241) rfl ?_
            refine g_istore (pc' := 243) (L' := #[.val (.int p0), .val (.int p1), .val (.int p2), .val (.int p3), .val (.int p4), .val (.ref a1), .val (.int (1 : Int32)), .val (.int (1 : Int32)), .val (.int (1 : Int32)), .val (.int (3 : Int32)), .val (.int (1 : Int32)), .val (.int (0 : Int32)), .val (.int (-1 : Int32)), .val (.int (-1 : Int32)), .val (.int (0 : Int32)), .val (.int (1 : Int32)), .val (.int (1 : Int32))]) C at_241 rfl rfl ?_
            refine g_aload (pc' := 245) C at_243 rfl rfl rfl ?_
            refine g_iconst (pc' := 246) (z := (0 : Int32)) C at_245 rfl rfl ?_
            obtain ⟨x0, x1, x2, l0, l1, l2, c0, c1, c2, g, O, A1, A2, A3⟩ := B
            have gs : l0.toInt < 0 ∧ ¬ l1.toInt < 0 ∧ ¬ l2.toInt < 0 := by
              rcases g with ⟨rfl, rfl, rfl, rfl, rfl⟩ | ⟨rfl, rfl, rfl, rfl, rfl⟩ <;> decide
            refine g_virtualP (y := (⟨"com/example/triplecore/triplecore/query/PatternQueue", "contains", "(I)Z"⟩ : MethodName)) (a := a1) (pc' := 249) (k' := 4) (n' := 13) (S := []) (as := [(.int (0 : Int32))]) C at_246 rfl (hw _ (List.mem_of_getElem? (i := 24) rfl)) (hw _ (List.mem_of_getElem? (i := 26) rfl)) (hw _ (List.mem_of_getElem? (i := 2) rfl)) (hw _ (List.mem_of_getElem? (i := 28) rfl)) (hw _ (List.mem_of_getElem? (i := 25) rfl)) (hw _ (List.mem_of_getElem? (i := 27) rfl)) (by decide) O.1 (lenOf pd_5 rfl) (con_has0 W.l Z a0 hw a1 b1 b2 b3 (2 : Int32) (0 : Int32) l0 0 _ rfl rfl gs.1 h33 O A2) rfl rfl (Nat.le_of_ble_eq_true rfl) (Nat.le_of_ble_eq_true rfl) rfl rfl (Nat.le_of_ble_eq_true rfl) (Nat.le_of_ble_eq_true rfl) (S1 := [(.int (0 : Int32))]) rfl ?_
            refine g_iload (pc' := 251) C at_249 rfl rfl ?_
            refine g_icmpN (xi := 0) (yi := 0) (pc2 := 254) C at_251 rfl rfl rfl (by decide) ?_
            refine g_aload (pc' := 256) C at_254 rfl rfl rfl ?_
            refine g_iconst (pc' := 257) (z := (1 : Int32)) C at_256 rfl rfl ?_
            refine g_virtualP (y := (⟨"com/example/triplecore/triplecore/query/PatternQueue", "contains", "(I)Z"⟩ : MethodName)) (a := a1) (pc' := 260) (k' := 4) (n' := 13) (S := []) (as := [(.int (1 : Int32))]) C at_257 rfl (hw _ (List.mem_of_getElem? (i := 24) rfl)) (hw _ (List.mem_of_getElem? (i := 26) rfl)) (hw _ (List.mem_of_getElem? (i := 2) rfl)) (hw _ (List.mem_of_getElem? (i := 28) rfl)) (hw _ (List.mem_of_getElem? (i := 25) rfl)) (hw _ (List.mem_of_getElem? (i := 27) rfl)) (by decide) O.1 (lenOf pd_5 rfl) (con_has1 W.l Z a0 hw a1 b1 b2 b3 (2 : Int32) (1 : Int32) l1 1 _ rfl rfl gs.2.1 h33 O A2) rfl rfl (Nat.le_of_ble_eq_true rfl) (Nat.le_of_ble_eq_true rfl) rfl rfl (Nat.le_of_ble_eq_true rfl) (Nat.le_of_ble_eq_true rfl) (S1 := [(.int (1 : Int32))]) rfl ?_
            refine g_iload (pc' := 262) C at_260 rfl rfl ?_
            refine g_icmpN (xi := 1) (yi := 1) (pc2 := 265) C at_262 rfl rfl rfl (by decide) ?_
            refine g_aload (pc' := 267) C at_265 rfl rfl rfl ?_
            refine g_iconst (pc' := 268) (z := (2 : Int32)) C at_267 rfl rfl ?_
            refine g_virtualP (y := (⟨"com/example/triplecore/triplecore/query/PatternQueue", "contains", "(I)Z"⟩ : MethodName)) (a := a1) (pc' := 271) (k' := 4) (n' := 13) (S := []) (as := [(.int (2 : Int32))]) C at_268 rfl (hw _ (List.mem_of_getElem? (i := 24) rfl)) (hw _ (List.mem_of_getElem? (i := 26) rfl)) (hw _ (List.mem_of_getElem? (i := 2) rfl)) (hw _ (List.mem_of_getElem? (i := 28) rfl)) (hw _ (List.mem_of_getElem? (i := 25) rfl)) (hw _ (List.mem_of_getElem? (i := 27) rfl)) (by decide) O.1 (lenOf pd_5 rfl) (con_has1 W.l Z a0 hw a1 b1 b2 b3 (2 : Int32) (2 : Int32) l2 2 _ rfl rfl gs.2.2 h33 O A2) rfl rfl (Nat.le_of_ble_eq_true rfl) (Nat.le_of_ble_eq_true rfl) rfl rfl (Nat.le_of_ble_eq_true rfl) (Nat.le_of_ble_eq_true rfl) (S1 := [(.int (1 : Int32))]) rfl ?_
            refine g_iload (pc' := 273) C at_271 rfl rfl ?_
            refine g_icmpN (xi := 1) (yi := 1) (pc2 := 276) C at_273 rfl rfl rfl (by decide) ?_
            refine g_iconst (pc' := 277) (z := (1 : Int32)) C at_276 rfl rfl ?_
            refine g_goto C at_277 (by decide) (pc' := 281) rfl ?_
            refine g_retN C (by simp) at_281 (by decide) (by decide) ?_
            subst hQ
            rfl
          ·
            show Go W Q h33 4 13 128 #[.val (.int p0), .val (.int p1), .val (.int p2), .val (.int p3), .val (.int p4), .val (.ref a1), .val (.int (1 : Int32)), .val (.int (1 : Int32)), .val (.int (1 : Int32)), .val (.int (3 : Int32)), .val (.int (1 : Int32)), .val (.int (-1 : Int32)), .val (.int (-1 : Int32)), .val (.int (-1 : Int32)), .unset, .unset, .unset] [(.int (1 : Int32))]
            refine g_istore (pc' := 130) (L' := #[.val (.int p0), .val (.int p1), .val (.int p2), .val (.int p3), .val (.int p4), .val (.ref a1), .val (.int (1 : Int32)), .val (.int (1 : Int32)), .val (.int (1 : Int32)), .val (.int (3 : Int32)), .val (.int (1 : Int32)), .val (.int (1 : Int32)), .val (.int (-1 : Int32)), .val (.int (-1 : Int32)), .unset, .unset, .unset]) C at_128 rfl rfl ?_
            refine g_iload (pc' := 132) C at_130 rfl rfl ?_
            refine g_iconst (pc' := 133) (z := (2 : Int32)) C at_132 rfl rfl ?_
            refine g_icmpY (xi := 1) (yi := 2) (pc1 := 143) C at_133 (by decide) rfl rfl rfl (by decide) ?_
            refine g_iload (pc' := 145) C at_143 rfl rfl ?_
            refine g_iconst (pc' := 146) (z := (3 : Int32)) C at_145 rfl rfl ?_
            refine g_icmpY (xi := 1) (yi := 3) (pc1 := 156) C at_146 (by decide) rfl rfl rfl (by decide) ?_
            refine g_iload (pc' := 158) C at_156 rfl rfl ?_
            refine g_ifN (xi := 1) (pc2 := 161) C at_158 rfl rfl (by decide) ?_
            refine g_iload (pc' := 163) C at_161 rfl rfl ?_
            refine g_ifN (xi := 1) (pc2 := 166) C at_163 rfl rfl (by decide) ?_
            refine g_iload (pc' := 168) C at_166 rfl rfl ?_
            refine g_ifN (xi := -1) (pc2 := 171) C at_168 rfl rfl (by decide) ?_
            refine g_iload (pc' := 173) C at_171 rfl rfl ?_
            refine g_ifN (xi := -1) (pc2 := 176) C at_173 rfl rfl (by decide) ?_
            refine g_iconst (pc' := 177) (z := (1 : Int32)) C at_176 rfl rfl ?_
            refine g_goto C at_177 (by decide) (pc' := 181) rfl ?_
            refine g_istore (pc' := 183) (L' := #[.val (.int p0), .val (.int p1), .val (.int p2), .val (.int p3), .val (.int p4), .val (.ref a1), .val (.int (1 : Int32)), .val (.int (1 : Int32)), .val (.int (1 : Int32)), .val (.int (3 : Int32)), .val (.int (1 : Int32)), .val (.int (1 : Int32)), .val (.int (-1 : Int32)), .val (.int (-1 : Int32)), .val (.int (1 : Int32)), .unset, .unset]) C at_181 rfl rfl ?_
            refine g_iload (pc' := 185) C at_183 rfl rfl ?_
            refine g_ifN (xi := 1) (pc2 := 188) C at_185 rfl rfl (by decide) ?_
            refine g_iload (pc' := 190) C at_188 rfl rfl ?_
            refine g_iconst (pc' := 191) (z := (1 : Int32)) C at_190 rfl rfl ?_
            refine g_icmpY (xi := 1) (yi := 1) (pc1 := 210) C at_191 (by decide) rfl rfl rfl (by decide) ?_
            refine g_iconst (pc' := 211) (z := (0 : Int32)) C at_210 rfl rfl ?_
            refine g_istore (pc' := 213) (L' := #[.val (.int p0), .val (.int p1), .val (.int p2), .val (.int p3), .val (.int p4), .val (.ref a1), .val (.int (1 : Int32)), .val (.int (1 : Int32)), .val (.int (1 : Int32)), .val (.int (3 : Int32)), .val (.int (1 : Int32)), .val (.int (1 : Int32)), .val (.int (-1 : Int32)), .val (.int (-1 : Int32)), .val (.int (1 : Int32)), .val (.int (0 : Int32)), .unset]) C at_211 rfl rfl ?_
            refine g_iload (pc' := 215) C at_213 rfl rfl ?_
            refine g_ifN (xi := 1) (pc2 := 218) C at_215 rfl rfl (by decide) ?_
            refine g_iload (pc' := 220) C at_218 rfl rfl ?_
            refine g_iconst (pc' := 221) (z := (2 : Int32)) C at_220 rfl rfl ?_
            refine g_icmpN (xi := 1) (yi := 2) (pc2 := 224) C at_221 rfl rfl rfl (by decide) ?_
            refine g_iload (pc' := 226) C at_224 rfl rfl ?_
            refine g_iconst (pc' := 227) (z := (2 : Int32)) C at_226 rfl rfl ?_
            refine g_icmpN (xi := -1) (yi := 2) (pc2 := 230) C at_227 rfl rfl rfl (by decide) ?_
            refine g_iload (pc' := 232) C at_230 rfl rfl ?_
            refine g_iconst (pc' := 233) (z := (2 : Int32)) C at_232 rfl rfl ?_
            refine g_icmpN (xi := -1) (yi := 2) (pc2 := 236) C at_233 rfl rfl rfl (by decide) ?_
            refine g_iconst (pc' := 237) (z := (1 : Int32)) C at_236 rfl rfl ?_
            refine g_goto C at_237 (by decide) (pc' := 241) rfl ?_
            refine g_istore (pc' := 243) (L' := #[.val (.int p0), .val (.int p1), .val (.int p2), .val (.int p3), .val (.int p4), .val (.ref a1), .val (.int (1 : Int32)), .val (.int (1 : Int32)), .val (.int (1 : Int32)), .val (.int (3 : Int32)), .val (.int (1 : Int32)), .val (.int (1 : Int32)), .val (.int (-1 : Int32)), .val (.int (-1 : Int32)), .val (.int (1 : Int32)), .val (.int (0 : Int32)), .val (.int (1 : Int32))]) C at_241 rfl rfl ?_
            refine g_aload (pc' := 245) C at_243 rfl rfl rfl ?_
            refine g_iconst (pc' := 246) (z := (0 : Int32)) C at_245 rfl rfl ?_
            obtain ⟨x0, x1, x2, l0, l1, l2, c0, c1, c2, g, O, A1, A2, A3⟩ := B
            have gs : ¬ l0.toInt < 0 ∧ l1.toInt < 0 ∧ ¬ l2.toInt < 0 := by
              rcases g with ⟨rfl, rfl, rfl, rfl, rfl⟩ | ⟨rfl, rfl, rfl, rfl, rfl⟩ <;> decide
            refine g_virtualP (y := (⟨"com/example/triplecore/triplecore/query/PatternQueue", "contains", "(I)Z"⟩ : MethodName)) (a := a1) (pc' := 249) (k' := 4) (n' := 13) (S := []) (as := [(.int (0 : Int32))]) C at_246 rfl (hw _ (List.mem_of_getElem? (i := 24) rfl)) (hw _ (List.mem_of_getElem? (i := 26) rfl)) (hw _ (List.mem_of_getElem? (i := 2) rfl)) (hw _ (List.mem_of_getElem? (i := 28) rfl)) (hw _ (List.mem_of_getElem? (i := 25) rfl)) (hw _ (List.mem_of_getElem? (i := 27) rfl)) (by decide) O.1 (lenOf pd_5 rfl) (con_has1 W.l Z a0 hw a1 b1 b2 b3 (2 : Int32) (0 : Int32) l0 0 _ rfl rfl gs.1 h33 O A2) rfl rfl (Nat.le_of_ble_eq_true rfl) (Nat.le_of_ble_eq_true rfl) rfl rfl (Nat.le_of_ble_eq_true rfl) (Nat.le_of_ble_eq_true rfl) (S1 := [(.int (1 : Int32))]) rfl ?_
            refine g_iload (pc' := 251) C at_249 rfl rfl ?_
            refine g_icmpN (xi := 1) (yi := 1) (pc2 := 254) C at_251 rfl rfl rfl (by decide) ?_
            refine g_aload (pc' := 256) C at_254 rfl rfl rfl ?_
            refine g_iconst (pc' := 257) (z := (1 : Int32)) C at_256 rfl rfl ?_
            refine g_virtualP (y := (⟨"com/example/triplecore/triplecore/query/PatternQueue", "contains", "(I)Z"⟩ : MethodName)) (a := a1) (pc' := 260) (k' := 4) (n' := 13) (S := []) (as := [(.int (1 : Int32))]) C at_257 rfl (hw _ (List.mem_of_getElem? (i := 24) rfl)) (hw _ (List.mem_of_getElem? (i := 26) rfl)) (hw _ (List.mem_of_getElem? (i := 2) rfl)) (hw _ (List.mem_of_getElem? (i := 28) rfl)) (hw _ (List.mem_of_getElem? (i := 25) rfl)) (hw _ (List.mem_of_getElem? (i := 27) rfl)) (by decide) O.1 (lenOf pd_5 rfl) (con_has0 W.l Z a0 hw a1 b1 b2 b3 (2 : Int32) (1 : Int32) l1 1 _ rfl rfl gs.2.1 h33 O A2) rfl rfl (Nat.le_of_ble_eq_true rfl) (Nat.le_of_ble_eq_true rfl) rfl rfl (Nat.le_of_ble_eq_true rfl) (Nat.le_of_ble_eq_true rfl) (S1 := [(.int (0 : Int32))]) rfl ?_
            refine g_iload (pc' := 262) C at_260 rfl rfl ?_
            refine g_icmpN (xi := 0) (yi := 0) (pc2 := 265) C at_262 rfl rfl rfl (by decide) ?_
            refine g_aload (pc' := 267) C at_265 rfl rfl rfl ?_
            refine g_iconst (pc' := 268) (z := (2 : Int32)) C at_267 rfl rfl ?_
            refine g_virtualP (y := (⟨"com/example/triplecore/triplecore/query/PatternQueue", "contains", "(I)Z"⟩ : MethodName)) (a := a1) (pc' := 271) (k' := 4) (n' := 13) (S := []) (as := [(.int (2 : Int32))]) C at_268 rfl (hw _ (List.mem_of_getElem? (i := 24) rfl)) (hw _ (List.mem_of_getElem? (i := 26) rfl)) (hw _ (List.mem_of_getElem? (i := 2) rfl)) (hw _ (List.mem_of_getElem? (i := 28) rfl)) (hw _ (List.mem_of_getElem? (i := 25) rfl)) (hw _ (List.mem_of_getElem? (i := 27) rfl)) (by decide) O.1 (lenOf pd_5 rfl) (con_has1 W.l Z a0 hw a1 b1 b2 b3 (2 : Int32) (2 : Int32) l2 2 _ rfl rfl gs.2.2 h33 O A2) rfl rfl (Nat.le_of_ble_eq_true rfl) (Nat.le_of_ble_eq_true rfl) rfl rfl (Nat.le_of_ble_eq_true rfl) (Nat.le_of_ble_eq_true rfl) (S1 := [(.int (1 : Int32))]) rfl ?_
            refine g_iload (pc' := 273) C at_271 rfl rfl ?_
            refine g_icmpN (xi := 1) (yi := 1) (pc2 := 276) C at_273 rfl rfl rfl (by decide) ?_
            refine g_iconst (pc' := 277) (z := (1 : Int32)) C at_276 rfl rfl ?_
            refine g_goto C at_277 (by decide) (pc' := 281) rfl ?_
            refine g_retN C (by simp) at_281 (by decide) (by decide) ?_
            subst hQ
            rfl
          ·
            show Go W Q h33 4 13 128 #[.val (.int p0), .val (.int p1), .val (.int p2), .val (.int p3), .val (.int p4), .val (.ref a1), .val (.int (1 : Int32)), .val (.int (1 : Int32)), .val (.int (1 : Int32)), .val (.int (3 : Int32)), .val (.int (1 : Int32)), .val (.int (-1 : Int32)), .val (.int (-1 : Int32)), .val (.int (-1 : Int32)), .unset, .unset, .unset] [(.int (2 : Int32))]
            refine g_istore (pc' := 130) (L' := #[.val (.int p0), .val (.int p1), .val (.int p2), .val (.int p3), .val (.int p4), .val (.ref a1), .val (.int (1 : Int32)), .val (.int (1 : Int32)), .val (.int (1 : Int32)), .val (.int (3 : Int32)), .val (.int (1 : Int32)), .val (.int (2 : Int32)), .val (.int (-1 : Int32)), .val (.int (-1 : Int32)), .unset, .unset, .unset]) C at_128 rfl rfl ?_
            refine g_iload (pc' := 132) C at_130 rfl rfl ?_
            refine g_iconst (pc' := 133) (z := (2 : Int32)) C at_132 rfl rfl ?_
            refine g_icmpY (xi := 1) (yi := 2) (pc1 := 143) C at_133 (by decide) rfl rfl rfl (by decide) ?_
            refine g_iload (pc' := 145) C at_143 rfl rfl ?_
            refine g_iconst (pc' := 146) (z := (3 : Int32)) C at_145 rfl rfl ?_
            refine g_icmpY (xi := 1) (yi := 3) (pc1 := 156) C at_146 (by decide) rfl rfl rfl (by decide) ?_
            refine g_iload (pc' := 158) C at_156 rfl rfl ?_
            refine g_ifN (xi := 1) (pc2 := 161) C at_158 rfl rfl (by decide) ?_
            refine g_iload (pc' := 163) C at_161 rfl rfl ?_
            refine g_ifN (xi := 2) (pc2 := 166) C at_163 rfl rfl (by decide) ?_
            refine g_iload (pc' := 168) C at_166 rfl rfl ?_
            refine g_ifN (xi := -1) (pc2 := 171) C at_168 rfl rfl (by decide) ?_
            refine g_iload (pc' := 173) C at_171 rfl rfl ?_
            refine g_ifN (xi := -1) (pc2 := 176) C at_173 rfl rfl (by decide) ?_
            refine g_iconst (pc' := 177) (z := (1 : Int32)) C at_176 rfl rfl ?_
            refine g_goto C at_177 (by decide) (pc' := 181) rfl ?_
            refine g_istore (pc' := 183) (L' := #[.val (.int p0), .val (.int p1), .val (.int p2), .val (.int p3), .val (.int p4), .val (.ref a1), .val (.int (1 : Int32)), .val (.int (1 : Int32)), .val (.int (1 : Int32)), .val (.int (3 : Int32)), .val (.int (1 : Int32)), .val (.int (2 : Int32)), .val (.int (-1 : Int32)), .val (.int (-1 : Int32)), .val (.int (1 : Int32)), .unset, .unset]) C at_181 rfl rfl ?_
            refine g_iload (pc' := 185) C at_183 rfl rfl ?_
            refine g_ifN (xi := 1) (pc2 := 188) C at_185 rfl rfl (by decide) ?_
            refine g_iload (pc' := 190) C at_188 rfl rfl ?_
            refine g_iconst (pc' := 191) (z := (1 : Int32)) C at_190 rfl rfl ?_
            refine g_icmpN (xi := 2) (yi := 1) (pc2 := 194) C at_191 rfl rfl rfl (by decide) ?_
            refine g_iload (pc' := 196) C at_194 rfl rfl ?_
            refine g_iconst (pc' := 197) (z := (1 : Int32)) C at_196 rfl rfl ?_
            refine g_icmpN (xi := -1) (yi := 1) (pc2 := 200) C at_197 rfl rfl rfl (by decide) ?_
            refine g_iload (pc' := 202) C at_200 rfl rfl ?_
            refine g_iconst (pc' := 203) (z := (1 : Int32)) C at_202 rfl rfl ?_
            refine g_icmpN (xi := -1) (yi := 1) (pc2 := 206) C at_203 rfl rfl rfl (by decide) ?_
            refine g_iconst (pc' := 207) (z := (1 : Int32)) C at_206 rfl rfl ?_
            refine g_goto C at_207 (by decide) (pc' := 211) rfl ?_
            refine g_istore (pc' := 213) (L' := #[.val (.int p0), .val (.int p1), .val (.int p2), .val (.int p3), .val (.int p4), .val (.ref a1), .val (.int (1 : Int32)), .val (.int (1 : Int32)), .val (.int (1 : Int32)), .val (.int (3 : Int32)), .val (.int (1 : Int32)), .val (.int (2 : Int32)), .val (.int (-1 : Int32)), .val (.int (-1 : Int32)), .val (.int (1 : Int32)), .val (.int (1 : Int32)), .unset]) C at_211 rfl rfl ?_
            refine g_iload (pc' := 215) C at_213 rfl rfl ?_
            refine g_ifN (xi := 1) (pc2 := 218) C at_215 rfl rfl (by decide) ?_
            refine g_iload (pc' := 220) C at_218 rfl rfl ?_
            refine g_iconst (pc' := 221) (z := (2 : Int32)) C at_220 rfl rfl ?_
            refine g_icmpY (xi := 2) (yi := 2) (pc1 := 240) C at_221 (by decide) rfl rfl rfl (by decide) ?_
            refine g_iconst (pc' := 241) (z := (0 : Int32)) C at_240 rfl rfl ?_
            refine g_istore (pc' := 243) (L' := #[.val (.int p0), .val (.int p1), .val (.int p2), .val (.int p3), .val (.int p4), .val (.ref a1), .val (.int (1 : Int32)), .val (.int (1 : Int32)), .val (.int (1 : Int32)), .val (.int (3 : Int32)), .val (.int (1 : Int32)), .val (.int (2 : Int32)), .val (.int (-1 : Int32)), .val (.int (-1 : Int32)), .val (.int (1 : Int32)), .val (.int (1 : Int32)), .val (.int (0 : Int32))]) C at_241 rfl rfl ?_
            refine g_aload (pc' := 245) C at_243 rfl rfl rfl ?_
            refine g_iconst (pc' := 246) (z := (0 : Int32)) C at_245 rfl rfl ?_
            obtain ⟨x0, x1, x2, l0, l1, l2, c0, c1, c2, g, O, A1, A2, A3⟩ := B
            have gs : ¬ l0.toInt < 0 ∧ ¬ l1.toInt < 0 ∧ l2.toInt < 0 := by
              rcases g with ⟨rfl, rfl, rfl, rfl, rfl⟩ | ⟨rfl, rfl, rfl, rfl, rfl⟩ <;> decide
            refine g_virtualP (y := (⟨"com/example/triplecore/triplecore/query/PatternQueue", "contains", "(I)Z"⟩ : MethodName)) (a := a1) (pc' := 249) (k' := 4) (n' := 13) (S := []) (as := [(.int (0 : Int32))]) C at_246 rfl (hw _ (List.mem_of_getElem? (i := 24) rfl)) (hw _ (List.mem_of_getElem? (i := 26) rfl)) (hw _ (List.mem_of_getElem? (i := 2) rfl)) (hw _ (List.mem_of_getElem? (i := 28) rfl)) (hw _ (List.mem_of_getElem? (i := 25) rfl)) (hw _ (List.mem_of_getElem? (i := 27) rfl)) (by decide) O.1 (lenOf pd_5 rfl) (con_has1 W.l Z a0 hw a1 b1 b2 b3 (2 : Int32) (0 : Int32) l0 0 _ rfl rfl gs.1 h33 O A2) rfl rfl (Nat.le_of_ble_eq_true rfl) (Nat.le_of_ble_eq_true rfl) rfl rfl (Nat.le_of_ble_eq_true rfl) (Nat.le_of_ble_eq_true rfl) (S1 := [(.int (1 : Int32))]) rfl ?_
            refine g_iload (pc' := 251) C at_249 rfl rfl ?_
            refine g_icmpN (xi := 1) (yi := 1) (pc2 := 254) C at_251 rfl rfl rfl (by decide) ?_
            refine g_aload (pc' := 256) C at_254 rfl rfl rfl ?_
            refine g_iconst (pc' := 257) (z := (1 : Int32)) C at_256 rfl rfl ?_
            refine g_virtualP (y := (⟨"com/example/triplecore/triplecore/query/PatternQueue", "contains", "(I)Z"⟩ : MethodName)) (a := a1) (pc' := 260) (k' := 4) (n' := 13) (S := []) (as := [(.int (1 : Int32))]) C at_257 rfl (hw _ (List.mem_of_getElem? (i := 24) rfl)) (hw _ (List.mem_of_getElem? (i := 26) rfl)) (hw _ (List.mem_of_getElem? (i := 2) rfl)) (hw _ (List.mem_of_getElem? (i := 28) rfl)) (hw _ (List.mem_of_getElem? (i := 25) rfl)) (hw _ (List.mem_of_getElem? (i := 27) rfl)) (by decide) O.1 (lenOf pd_5 rfl) (con_has1 W.l Z a0 hw a1 b1 b2 b3 (2 : Int32) (1 : Int32) l1 1 _ rfl rfl gs.2.1 h33 O A2) rfl rfl (Nat.le_of_ble_eq_true rfl) (Nat.le_of_ble_eq_true rfl) rfl rfl (Nat.le_of_ble_eq_true rfl) (Nat.le_of_ble_eq_true rfl) (S1 := [(.int (1 : Int32))]) rfl ?_
            refine g_iload (pc' := 262) C at_260 rfl rfl ?_
            refine g_icmpN (xi := 1) (yi := 1) (pc2 := 265) C at_262 rfl rfl rfl (by decide) ?_
            refine g_aload (pc' := 267) C at_265 rfl rfl rfl ?_
            refine g_iconst (pc' := 268) (z := (2 : Int32)) C at_267 rfl rfl ?_
            refine g_virtualP (y := (⟨"com/example/triplecore/triplecore/query/PatternQueue", "contains", "(I)Z"⟩ : MethodName)) (a := a1) (pc' := 271) (k' := 4) (n' := 13) (S := []) (as := [(.int (2 : Int32))]) C at_268 rfl (hw _ (List.mem_of_getElem? (i := 24) rfl)) (hw _ (List.mem_of_getElem? (i := 26) rfl)) (hw _ (List.mem_of_getElem? (i := 2) rfl)) (hw _ (List.mem_of_getElem? (i := 28) rfl)) (hw _ (List.mem_of_getElem? (i := 25) rfl)) (hw _ (List.mem_of_getElem? (i := 27) rfl)) (by decide) O.1 (lenOf pd_5 rfl) (con_has0 W.l Z a0 hw a1 b1 b2 b3 (2 : Int32) (2 : Int32) l2 2 _ rfl rfl gs.2.2 h33 O A2) rfl rfl (Nat.le_of_ble_eq_true rfl) (Nat.le_of_ble_eq_true rfl) rfl rfl (Nat.le_of_ble_eq_true rfl) (Nat.le_of_ble_eq_true rfl) (S1 := [(.int (0 : Int32))]) rfl ?_
            refine g_iload (pc' := 273) C at_271 rfl rfl ?_
            refine g_icmpN (xi := 0) (yi := 0) (pc2 := 276) C at_273 rfl rfl rfl (by decide) ?_
            refine g_iconst (pc' := 277) (z := (1 : Int32)) C at_276 rfl rfl ?_
            refine g_goto C at_277 (by decide) (pc' := 281) rfl ?_
            refine g_retN C (by simp) at_281 (by decide) (by decide) ?_
            subst hQ
            rfl
        ·
          refine g_iconst (pc' := 109) (z := (-1 : Int32)) C at_108 rfl rfl ?_
          refine g_istore (pc' := 111) (L' := #[.val (.int p0), .val (.int p1), .val (.int p2), .val (.int p3), .val (.int p4), .val (.ref a1), .val (.int (1 : Int32)), .val (.int (1 : Int32)), .val (.int (1 : Int32)), .val (.int (3 : Int32)), .val (.int (2 : Int32)), .val (.int (-1 : Int32)), .unset, .unset, .unset, .unset, .unset]) C at_109 rfl rfl ?_
          refine g_iconst (pc' := 112) (z := (-1 : Int32)) C at_111 rfl rfl ?_
          refine g_istore (pc' := 114) (L' := #[.val (.int p0), .val (.int p1), .val (.int p2), .val (.int p3), .val (.int p4), .val (.ref a1), .val (.int (1 : Int32)), .val (.int (1 : Int32)), .val (.int (1 : Int32)), .val (.int (3 : Int32)), .val (.int (2 : Int32)), .val (.int (-1 : Int32)), .val (.int (-1 : Int32)), .unset, .unset, .unset, .unset]) C at_112 rfl rfl ?_
          refine g_iconst (pc' := 115) (z := (-1 : Int32)) C at_114 rfl rfl ?_
          refine g_istore (pc' := 117) (L' := #[.val (.int p0), .val (.int p1), .val (.int p2), .val (.int p3), .val (.int p4), .val (.ref a1), .val (.int (1 : Int32)), .val (.int (1 : Int32)), .val (.int (1 : Int32)), .val (.int (3 : Int32)), .val (.int (2 : Int32)), .val (.int (-1 : Int32)), .val (.int (-1 : Int32)), .val (.int (-1 : Int32)), .unset, .unset, .unset]) C at_115 rfl rfl ?_
          refine g_iload (pc' := 119) C at_117 rfl rfl ?_
          refine g_iconst (pc' := 120) (z := (1 : Int32)) C at_119 rfl rfl ?_
          refine g_icmpN (xi := 2) (yi := 1) (pc2 := 123) C at_120 rfl rfl rfl (by decide) ?_
          refine g_aload (pc' := 125) C at_123 rfl rfl rfl ?_
          refine g_virtual (y := (⟨"com/example/triplecore/triplecore/query/PatternQueue", "poll", "()I"⟩ : MethodName)) (a := a1) (pc' := 128) (k' := 4) (n' := 13) (S := []) (as := []) C at_125 rfl (hw _ (List.mem_of_getElem? (i := 48) rfl)) (hw _ (List.mem_of_getElem? (i := 50) rfl)) (hw _ (List.mem_of_getElem? (i := 2) rfl)) (hw _ (List.mem_of_getElem? (i := 52) rfl)) (hw _ (List.mem_of_getElem? (i := 49) rfl)) (hw _ (List.mem_of_getElem? (i := 51) rfl)) (by decide) B.exa (lenOf pd_6 rfl) (con_poll_G_012 W.l Z a0 hw a1 b1 b2 b3 q01 q02 q03 q12 q13 q23 h31 B) rfl rfl (Nat.le_of_ble_eq_true rfl) (Nat.le_of_ble_eq_true rfl) rfl rfl (Nat.le_of_ble_eq_true rfl) (Nat.le_of_ble_eq_true rfl) (allS w_a1 (allS w_b1 (allS w_b2 all0))) fun vh34 h34 qh34 Kh34 => ?_
          rcases qh34 with ⟨rfl, B⟩ | ⟨rfl, B⟩ | ⟨rfl, B⟩
          ·
            show Go W Q h34 4 13 128 #[.val (.int p0), .val (.int p1), .val (.int p2), .val (.int p3), .val (.int p4), .val (.ref a1), .val (.int (1 : Int32)), .val (.int (1 : Int32)), .val (.int (1 : Int32)), .val (.int (3 : Int32)), .val (.int (2 : Int32)), .val (.int (-1 : Int32)), .val (.int (-1 : Int32)), .val (.int (-1 : Int32)), .unset, .unset, .unset] [(.int (0 : Int32))]
            refine g_istore (pc' := 130) (L' := #[.val (.int p0), .val (.int p1), .val (.int p2), .val (.int p3), .val (.int p4), .val (.ref a1), .val (.int (1 : Int32)), .val (.int (1 : Int32)), .val (.int (1 : Int32)), .val (.int (3 : Int32)), .val (.int (2 : Int32)), .val (.int (0 : Int32)), .val (.int (-1 : Int32)), .val (.int (-1 : Int32)), .unset, .unset, .unset]) C at_128 rfl rfl ?_
            refine g_iload (pc' := 132) C at_130 rfl rfl ?_
            refine g_iconst (pc' := 133) (z := (2 : Int32)) C at_132 rfl rfl ?_
            refine g_icmpN (xi := 2) (yi := 2) (pc2 := 136) C at_133 rfl rfl rfl (by decide) ?_
            refine g_aload (pc' := 138) C at_136 rfl rfl rfl ?_
            refine g_virtual (y := (⟨"com/example/triplecore/triplecore/query/PatternQueue", "poll", "()I"⟩ : MethodName)) (a := a1) (pc' := 141) (k' := 4) (n' := 13) (S := []) (as := []) C at_138 rfl (hw _ (List.mem_of_getElem? (i := 48) rfl)) (hw _ (List.mem_of_getElem? (i := 50) rfl)) (hw _ (List.mem_of_getElem? (i := 2) rfl)) (hw _ (List.mem_of_getElem? (i := 52) rfl)) (hw _ (List.mem_of_getElem? (i := 49) rfl)) (hw _ (List.mem_of_getElem? (i := 51) rfl)) (by decide) B.exa (lenOf pd_6 rfl) (con_poll_G_12 W.l Z a0 hw a1 b1 b2 b3 q01 q02 q03 q12 q13 q23 h34 B) rfl rfl (Nat.le_of_ble_eq_true rfl) (Nat.le_of_ble_eq_true rfl) rfl rfl (Nat.le_of_ble_eq_true rfl) (Nat.le_of_ble_eq_true rfl) (allS w_a1 (allS w_b1 (allS w_b2 all0))) fun vh35 h35 qh35 Kh35 => ?_
            rcases qh35 with ⟨rfl, B⟩ | ⟨rfl, B⟩
            ·
              show Go W Q h35 4 13 141 #[.val (.int p0), .val (.int p1), .val (.int p2), .val (.int p3), .val (.int p4), .val (.ref a1), .val (.int (1 : Int32)), .val (.int (1 : Int32)), .val (.int (1 : Int32)), .val (.int (3 : Int32)), .val (.int (2 : Int32)), .val (.int (0 : Int32)), .val (.int (-1 : Int32)), .val (.int (-1 : Int32)), .unset, .unset, .unset] [(.int (1 : Int32))]
              refine g_istore (pc' := 143) (L' := #[.val (.int p0), .val (.int p1), .val (.int p2), .val (.int p3), .val (.int p4), .val (.ref a1), .val (.int (1 : Int32)), .val (.int (1 : Int32)), .val (.int (1 : Int32)), .val (.int (3 : Int32)), .val (.int (2 : Int32)), .val (.int (0 : Int32)), .val (.int (1 : Int32)), .val (.int (-1 : Int32)), .unset, .unset, .unset]) C at_141 rfl rfl ?_
              refine g_iload (pc' := 145) C at_143 rfl rfl ?_
              refine g_iconst (pc' := 146) (z := (3 : Int32)) C at_145 rfl rfl ?_
              refine g_icmpY (xi := 2) (yi := 3) (pc1 := 156) C at_146 (by decide) rfl rfl rfl (by decide) ?_
              refine g_iload (pc' := 158) C at_156 rfl rfl ?_
              refine g_ifN (xi := 1) (pc2 := 161) C at_158 rfl rfl (by decide) ?_
              refine g_iload (pc' := 163) C at_161 rfl rfl ?_
              refine g_ifY (xi := 0) (pc1 := 180) C at_163 (by decide) rfl rfl (by decide) ?_
              refine g_iconst (pc' := 181) (z := (0 : Int32)) C at_180 rfl rfl ?_
              refine g_istore (pc' := 183) (L' := #[.val (.int p0), .val (.int p1), .val (.int p2), .val (.int p3), .val (.int p4), .val (.ref a1), .val (.int (1 : Int32)), .val (.int (1 : Int32)), .val (.int (1 : Int32)), .val (.int (3 : Int32)), .val (.int (2 : Int32)), .val (.int (0 : Int32)), .val (.int (1 : Int32)), .val (.int (-1 : Int32)), .val (.int (0 : Int32)), .unset, .unset]) C at_181 rfl rfl ?_
              refine g_iload (pc' := 185) C at_183 rfl rfl ?_
              refine g_ifN (xi := 1) (pc2 := 188) C at_185 rfl rfl (by decide) ?_
              refine g_iload (pc' := 190) C at_188 rfl rfl ?_
              refine g_iconst (pc' := 191) (z := (1 : Int32)) C at_190 rfl rfl ?_
              refine g_icmpN (xi := 0) (yi := 1) (pc2 := 194) C at_191 rfl rfl rfl (by decide) ?_
              refine g_iload (pc' := 196) C at_194 rfl rfl ?_
              refine g_iconst (pc' := 197) (z := (1 : Int32)) C at_196 rfl rfl ?_
              refine g_icmpY (xi := 1) (yi := 1) (pc1 := 210) C at_197 (by decide) rfl rfl rfl (by decide) ?_
              refine g_iconst (pc' := 211) (z := (0 : Int32)) C at_210 rfl rfl ?_
              refine g_istore (pc' := 213) (L' := #[.val (.int p0), .val (.int p1), .val (.int p2), .val (.int p3), .val (.int p4), .val (.ref a1), .val (.int (1 : Int32)), .val (.int (1 : Int32)), .val (.int (1 : Int32)), .val (.int (3 : Int32)), .val (.int (2 : Int32)), .val (.int (0 : Int32)), .val (.int (1 : Int32)), .val (.int (-1 : Int32)), .val (.int (0 : Int32)), .val (.int (0 : Int32)), .unset]) C at_211 rfl rfl ?_
              refine g_iload (pc' := 215) C at_213 rfl rfl ?_
              refine g_ifN (xi := 1) (pc2 := 218) C at_215 rfl rfl (by decide) ?_
              refine g_iload (pc' := 220) C at_218 rfl rfl ?_
              refine g_iconst (pc' := 221) (z := (2 : Int32)) C at_220 rfl rfl ?_
              refine g_icmpN (xi := 0) (yi := 2) (pc2 := 224) C at_221 rfl rfl rfl (by decide) ?_
              refine g_iload (pc' := 226) C at_224 rfl rfl ?_
              refine g_iconst (pc' := 227) (z := (2 : Int32)) C at_226 rfl rfl ?_
              refine g_icmpN (xi := 1) (yi := 2) (pc2 := 230) C at_227 rfl rfl rfl (by decide) ?_
              refine g_iload (pc' := 232) C at_230 rfl rfl ?_
              refine g_iconst (pc' := 233) (z := (2 : Int32)) C at_232 rfl rfl ?_
              refine g_icmpN (xi := -1) (yi := 2) (pc2 := 236) C at_233 rfl rfl rfl (by decide) ?_
              refine g_iconst (pc' := 237) (z := (1 : Int32)) C at_236 rfl rfl ?_
              refine g_goto C at_237 (by decide) (pc' := 241) rfl ?_
              refine g_istore (pc' := 243) (L' := #[.val (.int p0), .val (.int p1), .val (.int p2), .val (.int p3), .val (.int p4), .val (.ref a1), .val (.int (1 : Int32)), .val (.int (1 : Int32)), .val (.int (1 : Int32)), .val (.int (3 : Int32)), .val (.int (2 : Int32)), .val (.int (0 : Int32)), .val (.int (1 : Int32)), .val (.int (-1 : Int32)), .val (.int (0 : Int32)), .val (.int (0 : Int32)), .val (.int (1 : Int32))]) C at_241 rfl rfl ?_
              refine g_aload (pc' := 245) C at_243 rfl rfl rfl ?_
              refine g_iconst (pc' := 246) (z := (0 : Int32)) C at_245 rfl rfl ?_
              obtain ⟨x0, x1, x2, l0, l1, l2, c0, c1, c2, g, O, A1, A2, A3⟩ := B
              have gs : l0.toInt < 0 ∧ l1.toInt < 0 ∧ ¬ l2.toInt < 0 := by
                rcases g with ⟨rfl, rfl, rfl, rfl⟩ <;> decide
              refine g_virtualP (y := (⟨"com/example/triplecore/triplecore/query/PatternQueue", "contains", "(I)Z"⟩ : MethodName)) (a := a1) (pc' := 249) (k' := 4) (n' := 13) (S := []) (as := [(.int (0 : Int32))]) C at_246 rfl (hw _ (List.mem_of_getElem? (i := 24) rfl)) (hw _ (List.mem_of_getElem? (i := 26) rfl)) (hw _ (List.mem_of_getElem? (i := 2) rfl)) (hw _ (List.mem_of_getElem? (i := 28) rfl)) (hw _ (List.mem_of_getElem? (i := 25) rfl)) (hw _ (List.mem_of_getElem? (i := 27) rfl)) (by decide) O.1 (lenOf pd_5 rfl) (con_has0 W.l Z a0 hw a1 b1 b2 b3 (1 : Int32) (0 : Int32) l0 0 _ rfl rfl gs.1 h35 O A2) rfl rfl (Nat.le_of_ble_eq_true rfl) (Nat.le_of_ble_eq_true rfl) rfl rfl (Nat.le_of_ble_eq_true rfl) (Nat.le_of_ble_eq_true rfl) (S1 := [(.int (0 : Int32))]) rfl ?_
              refine g_iload (pc' := 251) C at_249 rfl rfl ?_
              refine g_icmpN (xi := 0) (yi := 0) (pc2 := 254) C at_251 rfl rfl rfl (by decide) ?_
              refine g_aload (pc' := 256) C at_254 rfl rfl rfl ?_
              refine g_iconst (pc' := 257) (z := (1 : Int32)) C at_256 rfl rfl ?_
              refine g_virtualP (y := (⟨"com/example/triplecore/triplecore/query/PatternQueue", "contains", "(I)Z"⟩ : MethodName)) (a := a1) (pc' := 260) (k' := 4) (n' := 13) (S := []) (as := [(.int (1 : Int32))]) C at_257 rfl (hw _ (List.mem_of_getElem? (i := 24) rfl)) (hw _ (List.mem_of_getElem? (i := 26) rfl)) (hw _ (List.mem_of_getElem? (i := 2) rfl)) (hw _ (List.mem_of_getElem? (i := 28) rfl)) (hw _ (List.mem_of_getElem? (i := 25) rfl)) (hw _ (List.mem_of_getElem? (i := 27) rfl)) (by decide) O.1 (lenOf pd_5 rfl) (con_has0 W.l Z a0 hw a1 b1 b2 b3 (1 : Int32) (1 : Int32) l1 1 _ rfl rfl gs.2.1 h35 O A2) rfl rfl (Nat.le_of_ble_eq_true rfl) (Nat.le_of_ble_eq_true rfl) rfl rfl (Nat.le_of_ble_eq_true rfl) (Nat.le_of_ble_eq_true rfl) (S1 := [(.int (0 : Int32))]) rfl ?_
              refine g_iload (pc' := 262) C at_260 rfl rfl ?_
              refine g_icmpN (xi := 0) (yi := 0) (pc2 := 265) C at_262 rfl rfl rfl (by decide) ?_
              refine g_aload (pc' := 267) C at_265 rfl rfl rfl ?_
              refine g_iconst (pc' := 268) (z := (2 : Int32)) C at_267 rfl rfl ?_
              refine g_virtualP (y := (⟨"com/example/triplecore/triplecore/query/PatternQueue", "contains", "(I)Z"⟩ : MethodName)) (a := a1) (pc' := 271) (k' := 4) (n' := 13) (S := []) (as := [(.int (2 : Int32))]) C at_268 rfl (hw _ (List.mem_of_getElem? (i := 24) rfl)) (hw _ (List.mem_of_getElem? (i := 26) rfl)) (hw _ (List.mem_of_getElem? (i := 2) rfl)) (hw _ (List.mem_of_getElem? (i := 28) rfl)) (hw _ (List.mem_of_getElem? (i := 25) rfl)) (hw _ (List.mem_of_getElem? (i := 27) rfl)) (by decide) O.1 (lenOf pd_5 rfl) (con_has1 W.l Z a0 hw a1 b1 b2 b3 (1 : Int32) (2 : Int32) l2 2 _ rfl rfl gs.2.2 h35 O A2) rfl rfl (Nat.le_of_ble_eq_true rfl) (Nat.le_of_ble_eq_true rfl) rfl rfl (Nat.le_of_ble_eq_true rfl) (Nat.le_of_ble_eq_true rfl) (S1 := [(.int (1 : Int32))]) rfl ?_
              refine g_iload (pc' := 273) C at_271 rfl rfl ?_
              refine g_icmpN (xi := 1) (yi := 1) (pc2 := 276) C at_273 rfl rfl rfl (by decide) ?_
              refine g_iconst (pc' := 277) (z := (1 : Int32)) C at_276 rfl rfl ?_
              refine g_goto C at_277 (by decide) (pc' := 281) rfl ?_
              refine g_retN C (by simp) at_281 (by decide) (by decide) ?_
              subst hQ
              rfl
            ·
              show Go W Q h35 4 13 141 #[.val (.int p0), .val (.int p1), .val (.int p2), .val (.int p3), .val (.int p4), .val (.ref a1), .val (.int (1 : Int32)), .val (.int (1 : Int32)), .val (.int (1 : Int32)), .val (.int (3 : Int32)), .val (.int (2 : Int32)), .val (.int (0 : Int32)), .val (.int (-1 : Int32)), .val (.int (-1 : Int32)), .unset, .unset, .unset] [(.int (2 : Int32))]
              refine g_istore (pc' := 143) (L' := #[.val (.int p0), .val (.int p1), .val (.int p2), .val (.int p3), .val (.int p4), .val (.ref a1), .val (.int (1 : Int32)), .val (.int (1 : Int32)), .val (.int (1 : Int32)), .val (.int (3 : Int32)), .val (.int (2 : Int32)), .val (.int (0 : Int32)), .val (.int (2 : Int32)), .val (.int (-1 : Int32)), .unset, .unset, .unset]) C at_141 rfl rfl ?_
              refine g_iload (pc' := 145) C at_143 rfl rfl ?_
              refine g_iconst (pc' := 146) (z := (3 : Int32)) C at_145 rfl rfl ?_
              refine g_icmpY (xi := 2) (yi := 3) (pc1 := 156) C at_146 (by decide) rfl rfl rfl (by decide) ?_
              refine g_iload (pc' := 158) C at_156 rfl rfl ?_
              refine g_ifN (xi := 1) (pc2 := 161) C at_158 rfl rfl (by decide) ?_
              refine g_iload (pc' := 163) C at_161 rfl rfl ?_
              refine g_ifY (xi := 0) (pc1 := 180) C at_163 (by decide) rfl rfl (by decide) ?_
              refine g_iconst (pc' := 181) (z := (0 : Int32)) C at_180 rfl rfl ?_
              refine g_istore (pc' := 183) (L' := #[.val (.int p0), .val (.int p1), .val (.int p2), .val (.int p3), .val (.int p4), .val (.ref a1), .val (.int (1 : Int32)), .val (.int (1 : Int32)), .val (.int (1 : Int32)), .val (.int (3 : Int32)), .val (.int (2 : Int32)), .val (.int (0 : Int32)), .val (.int (2 : Int32)), .val (.int (-1 : Int32)), .val (.int (0 : Int32)), .unset, .unset]) C at_181 rfl rfl ?_
              refine g_iload (pc' := 185) C at_183 rfl rfl ?_
              refine g_ifN (xi := 1) (pc2 := 188) C at_185 rfl rfl (by decide) ?_
              refine g_iload (pc' := 190) C at_188 rfl rfl ?_
              refine g_iconst (pc' := 191) (z := (1 : Int32)) C at_190 rfl rfl ?_
              refine g_icmpN (xi := 0) (yi := 1) (pc2 := 194) C at_191 rfl rfl rfl (by decide) ?_
              refine g_iload (pc' := 196) C at_194 rfl rfl ?_
              refine g_iconst (pc' := 197) (z := (1 : Int32)) C at_196 rfl rfl ?_
              refine g_icmpN (xi := 2) (yi := 1) (pc2 := 200) C at_197 rfl rfl rfl (by decide) ?_
              refine g_iload (pc' := 202) C at_200 rfl rfl ?_
              refine g_iconst (pc' := 203) (z := (1 : Int32)) C at_202 rfl rfl ?_
              refine g_icmpN (xi := -1) (yi := 1) (pc2 := 206) C at_203 rfl rfl rfl (by decide) ?_
              refine g_iconst (pc' := 207) (z := (1 : Int32)) C at_206 rfl rfl ?_
              refine g_goto C at_207 (by decide) (pc' := 211) rfl ?_
              refine g_istore (pc' := 213) (L' := #[.val (.int p0), .val (.int p1), .val (.int p2), .val (.int p3), .val (.int p4), .val (.ref a1), .val (.int (1 : Int32)), .val (.int (1 : Int32)), .val (.int (1 : Int32)), .val (.int (3 : Int32)), .val (.int (2 : Int32)), .val (.int (0 : Int32)), .val (.int (2 : Int32)), .val (.int (-1 : Int32)), .val (.int (0 : Int32)), .val (.int (1 : Int32)), .unset]) C at_211 rfl rfl ?_
              refine g_iload (pc' := 215) C at_213 rfl rfl ?_
              refine g_ifN (xi := 1) (pc2 := 218) C at_215 rfl rfl (by decide) ?_
              refine g_iload (pc' := 220) C at_218 rfl rfl ?_
              refine g_iconst (pc' := 221) (z := (2 : Int32)) C at_220 rfl rfl ?_
              refine g_icmpN (xi := 0) (yi := 2) (pc2 := 224) C at_221 rfl rfl rfl (by decide) ?_
              refine g_iload (pc' := 226) C at_224 rfl rfl ?_
              refine g_iconst (pc' := 227) (z := (2 : Int32)) C at_226 rfl rfl ?_
              refine g_icmpY (xi := 2) (yi := 2) (pc1 := 240) C at_227 (by decide) rfl rfl rfl (by decide) ?_
              refine g_iconst (pc' := 241) (z := (0 : Int32)) C at_240 rfl rfl ?_
              refine g_istore (pc' := 243) (L' := #[.val (.int p0), .val (.int p1), .val (.int p2), .val (.int p3), .val (.int p4), .val (.ref a1), .val (.int (1 : Int32)), .val (.int (1 : Int32)), .val (.int (1 : Int32)), .val (.int (3 : Int32)), .val (.int (2 : Int32)), .val (.int (0 : Int32)), .val (.int (2 : Int32)), .val (.int (-1 : Int32)), .val (.int (0 : Int32)), .val (.int (1 : Int32)), .val (.int (0 : Int32))]) C at_241 rfl rfl ?_
              refine g_aload (pc' := 245) C at_243 rfl rfl rfl ?_
              refine g_iconst (pc' := 246) (z := (0 : Int32)) C at_245 rfl rfl ?_
              obtain ⟨x0, x1, x2, l0, l1, l2, c0, c1, c2, g, O, A1, A2, A3⟩ := B
              have gs : l0.toInt < 0 ∧ ¬ l1.toInt < 0 ∧ l2.toInt < 0 := by
                rcases g with ⟨rfl, rfl, rfl, rfl⟩ <;> decide
              refine g_virtualP (y := (⟨"com/example/triplecore/triplecore/query/PatternQueue", "contains", "(I)Z"⟩ : MethodName)) (a := a1) (pc' := 249) (k' := 4) (n' := 13) (S := []) (as := [(.int (0 : Int32))]) C at_246 rfl (hw _ (List.mem_of_getElem? (i := 24) rfl)) (hw _ (List.mem_of_getElem? (i := 26) rfl)) (hw _ (List.mem_of_getElem? (i := 2) rfl)) (hw _ (List.mem_of_getElem? (i := 28) rfl)) (hw _ (List.mem_of_getElem? (i := 25) rfl)) (hw _ (List.mem_of_getElem? (i := 27) rfl)) (by decide) O.1 (lenOf pd_5 rfl) (con_has0 W.l Z a0 hw a1 b1 b2 b3 (1 : Int32) (0 : Int32) l0 0 _ rfl rfl gs.1 h35 O A2) rfl rfl (Nat.le_of_ble_eq_true rfl) (Nat.le_of_ble_eq_true rfl) rfl rfl (Nat.le_of_ble_eq_true rfl) (Nat.le_of_ble_eq_true rfl) (S1 := [(.int (0 : Int32))]) rfl ?_
              refine g_iload (pc' := 251) C at_249 rfl rfl ?_
              refine g_icmpN (xi := 0) (yi := 0) (pc2 := 254) C at_251 rfl rfl rfl (by decide) ?_
              refine g_aload (pc' := 256) C at_254 rfl rfl rfl ?_
              refine g_iconst (pc' := 257) (z := (1 : Int32)) C at_256 rfl rfl ?_
              refine g_virtualP (y := (⟨"com/example/triplecore/triplecore/query/PatternQueue", "contains", "(I)Z"⟩ : MethodName)) (a := a1) (pc' := 260) (k' := 4) (n' := 13) (S := []) (as := [(.int (1 : Int32))]) C at_257 rfl (hw _ (List.mem_of_getElem? (i := 24) rfl)) (hw _ (List.mem_of_getElem? (i := 26) rfl)) (hw _ (List.mem_of_getElem? (i := 2) rfl)) (hw _ (List.mem_of_getElem? (i := 28) rfl)) (hw _ (List.mem_of_getElem? (i := 25) rfl)) (hw _ (List.mem_of_getElem? (i := 27) rfl)) (by decide) O.1 (lenOf pd_5 rfl) (con_has1 W.l Z a0 hw a1 b1 b2 b3 (1 : Int32) (1 : Int32) l1 1 _ rfl rfl gs.2.1 h35 O A2) rfl rfl (Nat.le_of_ble_eq_true rfl) (Nat.le_of_ble_eq_true rfl) rfl rfl (Nat.le_of_ble_eq_true rfl) (Nat.le_of_ble_eq_true rfl) (S1 := [(.int (1 : Int32))]) rfl ?_
              refine g_iload (pc' := 262) C at_260 rfl rfl ?_
              refine g_icmpN (xi := 1) (yi := 1) (pc2 := 265) C at_262 rfl rfl rfl (by decide) ?_
              refine g_aload (pc' := 267) C at_265 rfl rfl rfl ?_
              refine g_iconst (pc' := 268) (z := (2 : Int32)) C at_267 rfl rfl ?_
              refine g_virtualP (y := (⟨"com/example/triplecore/triplecore/query/PatternQueue", "contains", "(I)Z"⟩ : MethodName)) (a := a1) (pc' := 271) (k' := 4) (n' := 13) (S := []) (as := [(.int (2 : Int32))]) C at_268 rfl (hw _ (List.mem_of_getElem? (i := 24) rfl)) (hw _ (List.mem_of_getElem? (i := 26) rfl)) (hw _ (List.mem_of_getElem? (i := 2) rfl)) (hw _ (List.mem_of_getElem? (i := 28) rfl)) (hw _ (List.mem_of_getElem? (i := 25) rfl)) (hw _ (List.mem_of_getElem? (i := 27) rfl)) (by decide) O.1 (lenOf pd_5 rfl) (con_has0 W.l Z a0 hw a1 b1 b2 b3 (1 : Int32) (2 : Int32) l2 2 _ rfl rfl gs.2.2 h35 O A2) rfl rfl (Nat.le_of_ble_eq_true rfl) (Nat.le_of_ble_eq_true rfl) rfl rfl (Nat.le_of_ble_eq_true rfl) (Nat.le_of_ble_eq_true rfl) (S1 := [(.int (0 : Int32))]) rfl ?_
              refine g_iload (pc' := 273) C at_271 rfl rfl ?_
              refine g_icmpN (xi := 0) (yi := 0) (pc2 := 276) C at_273 rfl rfl rfl (by decide) ?_
              refine g_iconst (pc' := 277) (z := (1 : Int32)) C at_276 rfl rfl ?_
              refine g_goto C at_277 (by decide) (pc' := 281) rfl ?_
              refine g_retN C (by simp) at_281 (by decide) (by decide) ?_
              subst hQ
              rfl
          ·
            show Go W Q h34 4 13 128 #[.val (.int p0), .val (.int p1), .val (.int p2), .val (.int p3), .val (.int p4), .val (.ref a1), .val (.int (1 : Int32)), .val (.int (1 : Int32)), .val (.int (1 : Int32)), .val (.int (3 : Int32)), .val (.int (2 : Int32)), .val (.int (-1 : Int32)), .val (.int (-1 : Int32)), .val (.int (-1 : Int32)), .unset, .unset, .unset] [(.int (1 : Int32))]
            refine g_istore (pc' := 130) (L' := #[.val (.int p0), .val (.int p1), .val (.int p2), .val (.int p3), .val (.int p4), .val (.ref a1), .val (.int (1 : Int32)), .val (.int (1 : Int32)), .val (.int (1 : Int32)), .val (.int (3 : Int32)), .val (.int (2 : Int32)), .val (.int (1 : Int32)), .val (.int (-1 : Int32)), .val (.int (-1 : Int32)), .unset, .unset, .unset]) C at_128 rfl rfl ?_
            refine g_iload (pc' := 132) C at_130 rfl rfl ?_
            refine g_iconst (pc' := 133) (z := (2 : Int32)) C at_132 rfl rfl ?_
            refine g_icmpN (xi := 2) (yi := 2) (pc2 := 136) C at_133 rfl rfl rfl (by decide) ?_
            refine g_aload (pc' := 138) C at_136 rfl rfl rfl ?_
            refine g_virtual (y := (⟨"com/example/triplecore/triplecore/query/PatternQueue", "poll", "()I"⟩ : MethodName)) (a := a1) (pc' := 141) (k' := 4) (n' := 13) (S := []) (as := []) C at_138 rfl (hw _ (List.mem_of_getElem? (i := 48) rfl)) (hw _ (List.mem_of_getElem? (i := 50) rfl)) (hw _ (List.mem_of_getElem? (i := 2) rfl)) (hw _ (List.mem_of_getElem? (i := 52) rfl)) (hw _ (List.mem_of_getElem? (i := 49) rfl)) (hw _ (List.mem_of_getElem? (i := 51) rfl)) (by decide) B.exa (lenOf pd_6 rfl) (con_poll_G_02 W.l Z a0 hw a1 b1 b2 b3 q01 q02 q03 q12 q13 q23 h34 B) rfl rfl (Nat.le_of_ble_eq_true rfl) (Nat.le_of_ble_eq_true rfl) rfl rfl (Nat.le_of_ble_eq_true rfl) (Nat.le_of_ble_eq_true rfl) (allS w_a1 (allS w_b1 (allS w_b2 all0))) fun vh36 h36 qh36 Kh36 => ?_
            rcases qh36 with ⟨rfl, B⟩ | ⟨rfl, B⟩
            ·
              show Go W Q h36 4 13 141 #[.val (.int p0), .val (.int p1), .val (.int p2), .val (.int p3), .val (.int p4), .val (.ref a1), .val (.int (1 : Int32)), .val (.int (1 : Int32)), .val (.int (1 : Int32)), .val (.int (3 : Int32)), .val (.int (2 : Int32)), .val (.int (1 : Int32)), .val (.int (-1 : Int32)), .val (.int (-1 : Int32)), .unset, .unset, .unset] [(.int (0 : Int32))]
              refine g_istore (pc' := 143) (L' := #[.val (.int p0), .val (.int p1), .val (.int p2), .val (.int p3), .val (.int p4), .val (.ref a1), .val (.int (1 : Int32)), .val (.int (1 : Int32)), .val (.int (1 : Int32)), .val (.int (3 : Int32)), .val (.int (2 : Int32)), .val (.int (1 : Int32)), .val (.int (0 : Int32)), .val (.int (-1 : Int32)), .unset, .unset, .unset]) C at_141 rfl rfl ?_
              refine g_iload (pc' := 145) C at_143 rfl rfl ?_
              refine g_iconst (pc' := 146) (z := (3 : Int32)) C at_145 rfl rfl ?_
              refine g_icmpY (xi := 2) (yi := 3) (pc1 := 156) C at_146 (by decide) rfl rfl rfl (by decide) ?_
              refine g_iload (pc' := 158) C at_156 rfl rfl ?_
              refine g_ifN (xi := 1) (pc2 := 161) C at_158 rfl rfl (by decide) ?_
              refine g_iload (pc' := 163) C at_161 rfl rfl ?_
              refine g_ifN (xi := 1) (pc2 := 166) C at_163 rfl rfl (by decide) ?_
              refine g_iload (pc' := 168) C at_166 rfl rfl ?_
              refine g_ifY (xi := 0) (pc1 := 180) C at_168 (by decide) rfl rfl (by decide) ?_
              refine g_iconst (pc' := 181) (z := (0 : Int32)) C at_180 rfl rfl ?_
              refine g_istore (pc' := 183) (L' := #[.val (.int p0), .val (.int p1), .val (.int p2), .val (.int p3), .val (.int p4), .val (.ref a1), .val (.int (1 : Int32)), .val (.int (1 : Int32)), .val (.int (1 : Int32)), .val (.int (3 : Int32)), .val (.int (2 : Int32)), .val (.int (1 : Int32)), .val (.int (0 : Int32)), .val (.int (-1 : Int32)), .val (.int (0 : Int32)), .unset, .unset]) C at_181 rfl rfl ?_
              refine g_iload (pc' := 185) C at_183 rfl rfl ?_
              refine g_ifN (xi := 1) (pc2 := 188) C at_185 rfl rfl (by decide) ?_
              refine g_iload (pc' := 190) C at_188 rfl rfl ?_
              refine g_iconst (pc' := 191) (z := (1 : Int32)) C at_190 rfl rfl ?_
              refine g_icmpY (xi := 1) (yi := 1) (pc1 := 210) C at_191 (by decide) rfl rfl rfl (by decide) ?_
              refine g_iconst (pc' := 211) (z := (0 : Int32)) C at_210 rfl rfl ?_
              refine g_istore (pc' := 213) (L' := #[.val (.int p0), .val (.int p1), .val (.int p2), .val (.int p3), .val (.int p4), .val (.ref a1), .val (.int (1 : Int32)), .val (.int (1 : Int32)), .val (.int (1 : Int32)), .val (.int (3 : Int32)), .val (.int (2 : Int32)), .val (.int (1 : Int32)), .val (.int (0 : Int32)), .val (.int (-1 : Int32)), .val (.int (0 : Int32)), .val (.int (0 : Int32)), .unset]) C at_211 rfl rfl ?_
              refine g_iload (pc' := 215) C at_213 rfl rfl ?_
              refine g_ifN (xi := 1) (pc2 := 218) C at_215 rfl rfl (by decide) ?_
              refine g_iload (pc' := 220) C at_218 rfl rfl ?_
              refine g_iconst (pc' := 221) (z := (2 : Int32)) C at_220 rfl rfl ?_
              refine g_icmpN (xi := 1) (yi := 2) (pc2 := 224) C at_221 rfl rfl rfl (by decide) ?_
              refine g_iload (pc' := 226) C at_224 rfl rfl ?_
              refine g_iconst (pc' := 227) (z := (2 : Int32)) C at_226 rfl rfl ?_
              refine g_icmpN (xi := 0) (yi := 2) (pc2 := 230) C at_227 rfl rfl rfl (by decide) ?_
              refine g_iload (pc' := 232) C at_230 rfl rfl ?_
              refine g_iconst (pc' := 233) (z := (2 : Int32)) C at_232 rfl rfl ?_
              refine g_icmpN (xi := -1) (yi := 2) (pc2 := 236) C at_233 rfl rfl rfl (by decide) ?_
              refine g_iconst (pc' := 237) (z := (1 : Int32)) C at_236 rfl rfl ?_
              refine g_goto C at_237 (by decide) (pc' := 241) rfl ?_
              refine g_istore (pc' := 243) (L' := #[.val (.int p0), .val (.int p1), .val (.int p2), .val (.int p3), .val (.int p4), .val (.ref a1), .val (.int (1 : Int32)), .val (.int (1 : Int32)), .val (.int (1 : Int32)), .val (.int (3 : Int32)), .val (.int (2 : Int32)), .val (.int (1 : Int32)), .val (.int (0 : Int32)), .val (.int (-1 : Int32)), .val (.int (0 : Int32)), .val (.int (0 : Int32)), .val (.int (1 : Int32))]) C at_241 rfl rfl ?_
              refine g_aload (pc' := 245) C at_243 rfl rfl rfl ?_
              refine g_iconst (pc' := 246) (z := (0 : Int32)) C at_245 rfl rfl ?_
              obtain ⟨x0, x1, x2, l0, l1, l2, c0, c1, c2, g, O, A1, A2, A3⟩ := B
              have gs : l0.toInt < 0 ∧ l1.toInt < 0 ∧ ¬ l2.toInt < 0 := by
                rcases g with ⟨rfl, rfl, rfl, rfl⟩ <;> decide
              refine g_virtualP (y := (⟨"com/example/triplecore/triplecore/query/PatternQueue", "contains", "(I)Z"⟩ : MethodName)) (a := a1) (pc' := 249) (k' := 4) (n' := 13) (S := []) (as := [(.int (0 : Int32))]) C at_246 rfl (hw _ (List.mem_of_getElem? (i := 24) rfl)) (hw _ (List.mem_of_getElem? (i := 26) rfl)) (hw _ (List.mem_of_getElem? (i := 2) rfl)) (hw _ (List.mem_of_getElem? (i := 28) rfl)) (hw _ (List.mem_of_getElem? (i := 25) rfl)) (hw _ (List.mem_of_getElem? (i := 27) rfl)) (by decide) O.1 (lenOf pd_5 rfl) (con_has0 W.l Z a0 hw a1 b1 b2 b3 (1 : Int32) (0 : Int32) l0 0 _ rfl rfl gs.1 h36 O A2) rfl rfl (Nat.le_of_ble_eq_true rfl) (Nat.le_of_ble_eq_true rfl) rfl rfl (Nat.le_of_ble_eq_true rfl) (Nat.le_of_ble_eq_true rfl) (S1 := [(.int (0 : Int32))]) rfl ?_
              refine g_iload (pc' := 251) C at_249 rfl rfl ?_
              refine g_icmpN (xi := 0) (yi := 0) (pc2 := 254) C at_251 rfl rfl rfl (by decide) ?_
              refine g_aload (pc' := 256) C at_254 rfl rfl rfl ?_
              refine g_iconst (pc' := 257) (z := (1 : Int32)) C at_256 rfl rfl ?_
              refine g_virtualP (y := (⟨"com/example/triplecore/triplecore/query/PatternQueue", "contains", "(I)Z"⟩ : MethodName)) (a := a1) (pc' := 260) (k' := 4) (n' := 13) (S := []) (as := [(.int (1 : Int32))]) C at_257 rfl (hw _ (List.mem_of_getElem? (i := 24) rfl)) (hw _ (List.mem_of_getElem? (i := 26) rfl)) (hw _ (List.mem_of_getElem? (i := 2) rfl)) (hw _ (List.mem_of_getElem? (i := 28) rfl)) (hw _ (List.mem_of_getElem? (i := 25) rfl)) (hw _ (List.mem_of_getElem? (i := 27) rfl)) (by decide) O.1 (lenOf pd_5 rfl) (con_has0 W.l Z a0 hw a1 b1 b2 b3 (1 : Int32) (1 : Int32) l1 1 _ rfl rfl gs.2.1 h36 O A2) rfl rfl (Nat.le_of_ble_eq_true rfl) (Nat.le_of_ble_eq_true rfl) rfl rfl (Nat.le_of_ble_eq_true rfl) (Nat.le_of_ble_eq_true rfl) (S1 := [(.int (0 : Int32))]) rfl ?_
              refine g_iload (pc' := 262) C at_260 rfl rfl ?_
              refine g_icmpN (xi := 0) (yi := 0) (pc2 := 265) C at_262 rfl rfl rfl (by decide) ?_
              refine g_aload (pc' := 267) C at_265 rfl rfl rfl ?_
              refine g_iconst (pc' := 268) (z := (2 : Int32)) C at_267 rfl rfl ?_
              refine g_virtualP (y := (⟨"com/example/triplecore/triplecore/query/PatternQueue", "contains", "(I)Z"⟩ : MethodName)) (a := a1) (pc' := 271) (k' := 4) (n' := 13) (S := []) (as := [(.int (2 : Int32))]) C at_268 rfl (hw _ (List.mem_of_getElem? (i := 24) rfl)) (hw _ (List.mem_of_getElem? (i := 26) rfl)) (hw _ (List.mem_of_getElem? (i := 2) rfl)) (hw _ (List.mem_of_getElem? (i := 28) rfl)) (hw _ (List.mem_of_getElem? (i := 25) rfl)) (hw _ (List.mem_of_getElem? (i := 27) rfl)) (by decide) O.1 (lenOf pd_5 rfl) (con_has1 W.l Z a0 hw a1 b1 b2 b3 (1 : Int32) (2 : Int32) l2 2 _ rfl rfl gs.2.2 h36 O A2) rfl rfl (Nat.le_of_ble_eq_true rfl) (Nat.le_of_ble_eq_true rfl) rfl rfl (Nat.le_of_ble_eq_true rfl) (Nat.le_of_ble_eq_true rfl) (S1 := [(.int (1 : Int32))]) rfl ?_
              refine g_iload (pc' := 273) C at_271 rfl rfl ?_
              refine g_icmpN (xi := 1) (yi := 1) (pc2 := 276) C at_273 rfl rfl rfl (by decide) ?_
              refine g_iconst (pc' := 277) (z := (1 : Int32)) C at_276 rfl rfl ?_
              refine g_goto C at_277 (by decide) (pc' := 281) rfl ?_
              refine g_retN C (by simp) at_281 (by decide) (by decide) ?_
              subst hQ
              rfl
            ·
              show Go W Q h36 4 13 141 #[.val (.int p0), .val (.int p1), .val (.int p2), .val (.int p3), .val (.int p4), .val (.ref a1), .val (.int (1 : Int32)), .val (.int (1 : Int32)), .val (.int (1 : Int32)), .val (.int (3 : Int32)), .val (.int (2 : Int32)), .val (.int (1 : Int32)), .val (.int (-1 : Int32)), .val (.int (-1 : Int32)), .unset, .unset, .unset] [(.int (2 : Int32))]
              refine g_istore (pc' := 143) (L' := #[.val (.int p0), .val (.int p1), .val (.int p2), .val (.int p3), .val (.int p4), .val (.ref a1), .val (.int (1 : Int32)), .val (.int (1 : Int32)), .val (.int (1 : Int32)), .val (.int (3 : Int32)), .val (.int (2 : Int32)), .val (.int (1 : Int32)), .val (.int (2 : Int32)), .val (.int (-1 : Int32)), .unset, .unset, .unset]) C at_141 rfl rfl ?_
              refine g_iload (pc' := 145) C at_143 rfl rfl ?_
              refine g_iconst (pc' := 146) (z := (3 : Int32)) C at_145 rfl rfl ?_
              refine g_icmpY (xi := 2) (yi := 3) (pc1 := 156) C at_146 (by decide) rfl rfl rfl (by decide) ?_
              refine g_iload (pc' := 158) C at_156 rfl rfl ?_
              refine g_ifN (xi := 1) (pc2 := 161) C at_158 rfl rfl (by decide) ?_
              refine g_iload (pc' := 163) C at_161 rfl rfl ?_
              refine g_ifN (xi := 1) (pc2 := 166) C at_163 rfl rfl (by decide) ?_
              refine g_iload (pc' := 168) C at_166 rfl rfl ?_
              refine g_ifN (xi := 2) (pc2 := 171) C at_168 rfl rfl (by decide) ?_
              refine g_iload (pc' := 173) C at_171 rfl rfl ?_
              refine g_ifN (xi := -1) (pc2 := 176) C at_173 rfl rfl (by decide) ?_
              refine g_iconst (pc' := 177) (z := (1 : Int32)) C at_176 rfl rfl ?_
              refine g_goto C at_177 (by decide) (pc' := 181) rfl ?_
              refine g_istore (pc' := 183) (L' := #[.val (.int p0), .val (.int p1), .val (.int p2), .val (.int p3), .val (.int p4), .val (.ref a1), .val (.int (1 : Int32)), .val (.int (1 : Int32)), .val (.int (1 : Int32)), .val (.int (3 : Int32)), .val (.int (2 : Int32)), .val (.int (1 : Int32)), .val (.int (2 : Int32)), .val (.int (-1 : Int32)), .val (.int (1 : Int32)), .unset, .unset]) C at_181 rfl rfl ?_
              refine g_iload (pc' := 185) C at_183 rfl rfl ?_
              refine g_ifN (xi := 1) (pc2 := 188) C at_185 rfl rfl (by decide) ?_
              refine g_iload (pc' := 190) C at_188 rfl rfl ?_
              refine g_iconst (pc' := 191) (z := (1 : Int32)) C at_190 rfl rfl ?_
              refine g_icmpY (xi := 1) (yi := 1) (pc1 := 210) C at_191 (by decide) rfl rfl rfl (by decide) ?_
              refine g_iconst (pc' := 211) (z := (0 : Int32)) C at_210 rfl rfl ?_
              refine g_istore (pc' := 213) (L' := #[.val (.int p0), .val (.int p1), .val (.int p2), .val (.int p3), .val (.int p4), .val (.ref a1), .val (.int (1 : Int32)), .val (.int (1 : Int32)), .val (.int (1 : Int32)), .val (.int (3 : Int32)), .val (.int (2 : Int32)), .val (.int (1 : Int32)), .val (.int (2 : Int32)), .val (.int (-1 : Int32)), .val (.int (1 : Int32)), .val (.int (0 : Int32)), .unset]) C at_211 rfl rfl ?_
              refine g_iload (pc' := 215) C at_213 rfl rfl ?_
              refine g_ifN (xi := 1) (pc2 := 218) C at_215 rfl rfl (by decide) ?_
              refine g_iload (pc' := 220) C at_218 rfl rfl ?_
              refine g_iconst (pc' := 221) (z := (2 : Int32)) C at_220 rfl rfl ?_
              refine g_icmpN (xi := 1) (yi := 2) (pc2 := 224) C at_221 rfl rfl rfl (by decide) ?_
              refine g_iload (pc' := 226) C at_224 rfl rfl ?_
              refine g_iconst (pc' := 227) (z := (2 : Int32)) C at_226 rfl rfl ?_
              refine g_icmpY (xi := 2) (yi := 2) (pc1 := 240) C at_227 (by decide) rfl rfl rfl (by decide) ?_
              refine g_iconst (pc' := 241) (z := (0 : Int32)) C at_240 rfl rfl ?_
              refine g_istore (pc' := 243) (L' := #[.val (.int p0), .val (.int p1), .val (.int p2), .val (.int p3), .val (.int p4), .val (.ref a1), .val (.int (1 : Int32)), .val (.int (1 : Int32)), .val (.int (1 : Int32)), .val (.int (3 : Int32)), .val (.int (2 : Int32)), .val (.int (1 : Int32)), .val (.int (2 : Int32)), .val (.int (-1 : Int32)), .val (.int (1 : Int32)), .val (.int (0 : Int32)), .val (.int (0 : Int32))]) C at_241 rfl rfl ?_
              refine g_aload (pc' := 245) C at_243 rfl rfl rfl ?_
              refine g_iconst (pc' := 246) (z := (0 : Int32)) C at_245 rfl rfl ?_
              obtain ⟨x0, x1, x2, l0, l1, l2, c0, c1, c2, g, O, A1, A2, A3⟩ := B
              have gs : ¬ l0.toInt < 0 ∧ l1.toInt < 0 ∧ l2.toInt < 0 := by
                rcases g with ⟨rfl, rfl, rfl, rfl⟩ <;> decide
              refine g_virtualP (y := (⟨"com/example/triplecore/triplecore/query/PatternQueue", "contains", "(I)Z"⟩ : MethodName)) (a := a1) (pc' := 249) (k' := 4) (n' := 13) (S := []) (as := [(.int (0 : Int32))]) C at_246 rfl (hw _ (List.mem_of_getElem? (i := 24) rfl)) (hw _ (List.mem_of_getElem? (i := 26) rfl)) (hw _ (List.mem_of_getElem? (i := 2) rfl)) (hw _ (List.mem_of_getElem? (i := 28) rfl)) (hw _ (List.mem_of_getElem? (i := 25) rfl)) (hw _ (List.mem_of_getElem? (i := 27) rfl)) (by decide) O.1 (lenOf pd_5 rfl) (con_has1 W.l Z a0 hw a1 b1 b2 b3 (1 : Int32) (0 : Int32) l0 0 _ rfl rfl gs.1 h36 O A2) rfl rfl (Nat.le_of_ble_eq_true rfl) (Nat.le_of_ble_eq_true rfl) rfl rfl (Nat.le_of_ble_eq_true rfl) (Nat.le_of_ble_eq_true rfl) (S1 := [(.int (1 : Int32))]) rfl ?_
              refine g_iload (pc' := 251) C at_249 rfl rfl ?_
              refine g_icmpN (xi := 1) (yi := 1) (pc2 := 254) C at_251 rfl rfl rfl (by decide) ?_
              refine g_aload (pc' := 256) C at_254 rfl rfl rfl ?_
              refine g_iconst (pc' := 257) (z := (1 : Int32)) C at_256 rfl rfl ?_
              refine g_virtualP (y := (⟨"com/example/triplecore/triplecore/query/PatternQueue", "contains", "(I)Z"⟩ : MethodName)) (a := a1) (pc' := 260) (k' := 4) (n' := 13) (S := []) (as := [(.int (1 : Int32))]) C at_257 rfl (hw _ (List.mem_of_getElem? (i := 24) rfl)) (hw _ (List.mem_of_getElem? (i := 26) rfl)) (hw _ (List.mem_of_getElem? (i := 2) rfl)) (hw _ (List.mem_of_getElem? (i := 28) rfl)) (hw _ (List.mem_of_getElem? (i := 25) rfl)) (hw _ (List.mem_of_getElem? (i := 27) rfl)) (by decide) O.1 (lenOf pd_5 rfl) (con_has0 W.l Z a0 hw a1 b1 b2 b3 (1 : Int32) (1 : Int32) l1 1 _ rfl rfl gs.2.1 h36 O A2) rfl rfl (Nat.le_of_ble_eq_true rfl) (Nat.le_of_ble_eq_true rfl) rfl rfl (Nat.le_of_ble_eq_true rfl) (Nat.le_of_ble_eq_true rfl) (S1 := [(.int (0 : Int32))]) rfl ?_
              refine g_iload (pc' := 262) C at_260 rfl rfl ?_
              refine g_icmpN (xi := 0) (yi := 0) (pc2 := 265) C at_262 rfl rfl rfl (by decide) ?_
              refine g_aload (pc' := 267) C at_265 rfl rfl rfl ?_
              refine g_iconst (pc' := 268) (z := (2 : Int32)) C at_267 rfl rfl ?_
              refine g_virtualP (y := (⟨"com/example/triplecore/triplecore/query/PatternQueue", "contains", "(I)Z"⟩ : MethodName)) (a := a1) (pc' := 271) (k' := 4) (n' := 13) (S := []) (as := [(.int (2 : Int32))]) C at_268 rfl (hw _ (List.mem_of_getElem? (i := 24) rfl)) (hw _ (List.mem_of_getElem? (i := 26) rfl)) (hw _ (List.mem_of_getElem? (i := 2) rfl)) (hw _ (List.mem_of_getElem? (i := 28) rfl)) (hw _ (List.mem_of_getElem? (i := 25) rfl)) (hw _ (List.mem_of_getElem? (i := 27) rfl)) (by decide) O.1 (lenOf pd_5 rfl) (con_has0 W.l Z a0 hw a1 b1 b2 b3 (1 : Int32) (2 : Int32) l2 2 _ rfl rfl gs.2.2 h36 O A2) rfl rfl (Nat.le_of_ble_eq_true rfl) (Nat.le_of_ble_eq_true rfl) rfl rfl (Nat.le_of_ble_eq_true rfl) (Nat.le_of_ble_eq_true rfl) (S1 := [(.int (0 : Int32))]) rfl ?_
              refine g_iload (pc' := 273) C at_271 rfl rfl ?_
              refine g_icmpN (xi := 0) (yi := 0) (pc2 := 276) C at_273 rfl rfl rfl (by decide) ?_
              refine g_iconst (pc' := 277) (z := (1 : Int32)) C at_276 rfl rfl ?_
              refine g_goto C at_277 (by decide) (pc' := 281) rfl ?_
              refine g_retN C (by simp) at_281 (by decide) (by decide) ?_
              subst hQ
              rfl
          ·
            show Go W Q h34 4 13 128 #[.val (.int p0), .val (.int p1), .val (.int p2), .val (.int p3), .val (.int p4), .val (.ref a1), .val (.int (1 : Int32)), .val (.int (1 : Int32)), .val (.int (1 : Int32)), .val (.int (3 : Int32)), .val (.int (2 : Int32)), .val (.int (-1 : Int32)), .val (.int (-1 : Int32)), .val (.int (-1 : Int32)), .unset, .unset, .unset] [(.int (2 : Int32))]
            refine g_istore (pc' := 130) (L' := #[.val (.int p0), .val (.int p1), .val (.int p2), .val (.int p3), .val (.int p4), .val (.ref a1), .val (.int (1 : Int32)), .val (.int (1 : Int32)), .val (.int (1 : Int32)), .val (.int (3 : Int32)), .val (.int (2 : Int32)), .val (.int (2 : Int32)), .val (.int (-1 : Int32)), .val (.int (-1 : Int32)), .unset, .unset, .unset]) C at_128 rfl rfl ?_
            refine g_iload (pc' := 132) C at_130 rfl rfl ?_
            refine g_iconst (pc' := 133) (z := (2 : Int32)) C at_132 rfl rfl ?_
            refine g_icmpN (xi := 2) (yi := 2) (pc2 := 136) C at_133 rfl rfl rfl (by decide) ?_
            refine g_aload (pc' := 138) C at_136 rfl rfl rfl ?_
            refine g_virtual (y := (⟨"com/example/triplecore/triplecore/query/PatternQueue", "poll", "()I"⟩ : MethodName)) (a := a1) (pc' := 141) (k' := 4) (n' := 13) (S := []) (as := []) C at_138 rfl (hw _ (List.mem_of_getElem? (i := 48) rfl)) (hw _ (List.mem_of_getElem? (i := 50) rfl)) (hw _ (List.mem_of_getElem? (i := 2) rfl)) (hw _ (List.mem_of_getElem? (i := 52) rfl)) (hw _ (List.mem_of_getElem? (i := 49) rfl)) (hw _ (List.mem_of_getElem? (i := 51) rfl)) (by decide) B.exa (lenOf pd_6 rfl) (con_poll_G_01 W.l Z a0 hw a1 b1 b2 b3 q01 q02 q03 q12 q13 q23 h34 B) rfl rfl (Nat.le_of_ble_eq_true rfl) (Nat.le_of_ble_eq_true rfl) rfl rfl (Nat.le_of_ble_eq_true rfl) (Nat.le_of_ble_eq_true rfl) (allS w_a1 (allS w_b1 (allS w_b2 all0))) fun vh37 h37 qh37 Kh37 => ?_
            rcases qh37 with ⟨rfl, B⟩ | ⟨rfl, B⟩
            ·
              show Go W Q h37 4 13 141 #[.val (.int p0), .val (.int p1), .val (.int p2), .val (.int p3), .val (.int p4), .val (.ref a1), .val (.int (1 : Int32)), .val (.int (1 : Int32)), .val (.int (1 : Int32)), .val (.int (3 : Int32)), .val (.int (2 : Int32)), .val (.int (2 : Int32)), .val (.int (-1 : Int32)), .val (.int (-1 : Int32)), .unset, .unset, .unset] [(.int (0 : Int32))]
              refine g_istore (pc' := 143) (L' := #[.val (.int p0), .val (.int p1), .val (.int p2), .val (.int p3), .val (.int p4), .val (.ref a1), .val (.int (1 : Int32)), .val (.int (1 : Int32)), .val (.int (1 : Int32)), .val (.int (3 : Int32)), .val (.int (2 : Int32)), .val (.int (2 : Int32)), .val (.int (0 : Int32)), .val (.int (-1 : Int32)), .unset, .unset, .unset]) C at_141 rfl rfl ?_
              refine g_iload (pc' := 145) C at_143 rfl rfl ?_
              refine g_iconst (pc' := 146) (z := (3 : Int32)) C at_145 rfl rfl ?_
              refine g_icmpY (xi := 2) (yi := 3) (pc1 := 156) C at_146 (by decide) rfl rfl rfl (by decide) ?_
              refine g_iload (pc' := 158) C at_156 rfl rfl ?_
              refine g_ifN (xi := 1) (pc2 := 161) C at_158 rfl rfl (by decide) ?_
              refine g_iload (pc' := 163) C at_161 rfl rfl ?_
              refine g_ifN (xi := 2) (pc2 := 166) C at_163 rfl rfl (by decide) ?_
              refine g_iload (pc' := 168) C at_166 rfl rfl ?_
              refine g_ifY (xi := 0) (pc1 := 180) C at_168 (by decide) rfl rfl (by decide) ?_
              refine g_iconst (pc' := 181) (z := (0 : Int32)) C at_180 rfl rfl ?_
              refine g_istore (pc' := 183) (L' := #[.val (.int p0), .val (.int p1), .val (.int p2), .val (.int p3), .val (.int p4), .val (.ref a1), .val (.int (1 : Int32)), .val (.int (1 : Int32)), .val (.int (1 : Int32)), .val (.int (3 : Int32)), .val (.int (2 : Int32)), .val (.int (2 : Int32)), .val (.int (0 : Int32)), .val (.int (-1 : Int32)), .val (.int (0 : Int32)), .unset, .unset]) C at_181 rfl rfl ?_
              refine g_iload (pc' := 185) C at_183 rfl rfl ?_
              refine g_ifN (xi := 1) (pc2 := 188) C at_185 rfl rfl (by decide) ?_
              refine g_iload (pc' := 190) C at_188 rfl rfl ?_
              refine g_iconst (pc' := 191) (z := (1 : Int32)) C at_190 rfl rfl ?_
              refine g_icmpN (xi := 2) (yi := 1) (pc2 := 194) C at_191 rfl rfl rfl (by decide) ?_
              refine g_iload (pc' := 196) C at_194 rfl rfl ?_
              refine g_iconst (pc' := 197) (z := (1 : Int32)) C at_196 rfl rfl ?_
              refine g_icmpN (xi := 0) (yi := 1) (pc2 := 200) C at_197 rfl rfl rfl (by decide) ?_
              refine g_iload (pc' := 202) C at_200 rfl rfl ?_
              refine g_iconst (pc' := 203) (z := (1 : Int32)) C at_202 rfl rfl ?_
              refine g_icmpN (xi := -1) (yi := 1) (pc2 := 206) C at_203 rfl rfl rfl (by decide) ?_
              refine g_iconst (pc' := 207) (z := (1 : Int32)) C at_206 rfl rfl ?_
              refine g_goto C at_207 (by decide) (pc' := 211) rfl ?_
              refine g_istore (pc' := 213) (L' := #[.val (.int p0), .val (.int p1), .val (.int p2), .val (.int p3), .val (.int p4), .val (.ref a1), .val (.int (1 : Int32)), .val (.int (1 : Int32)), .val (.int (1 : Int32)), .val (.int (3 : Int32)), .val (.int (2 : Int32)), .val (.int (2 : Int32)), .val (.int (0 : Int32)), .val (.int (-1 : Int32)), .val (.int (0 : Int32)), .val (.int (1 : Int32)), .unset]) C at_211 rfl rfl ?_
              refine g_iload (pc' := 215) C at_213 rfl rfl ?_
              refine g_ifN (xi := 1) (pc2 := 218) C at_215 rfl rfl (by decide) ?_
              refine g_iload (pc' := 220) C at_218 rfl rfl ?_
              refine g_iconst (pc' := 221) (z := (2 : Int32)) C at_220 rfl rfl ?_
              refine g_icmpY (xi := 2) (yi := 2) (pc1 := 240) C at_221 (by decide) rfl rfl rfl (by decide) ?_
              refine g_iconst (pc' := 241) (z := (0 : Int32)) C at_240 rfl rfl ?_
              refine g_istore (pc' := 243) (L' := #[.val (.int p0), .val (.int p1), .val (.int p2), .val (.int p3), .val (.int p4), .val (.ref a1), .val (.int (1 : Int32)), .val (.int (1 : Int32)), .val (.int (1 : Int32)), .val (.int (3 : Int32)), .val (.int (2 : Int32)), .val (.int (2 : Int32)), .val (.int (0 : Int32)), .val (.int (-1 : Int32)), .val (.int (0 : Int32)), .val (.int (1 : Int32)), .val (.int (0 : Int32))]) C at_241 rfl rfl ?_
              refine g_aload (pc' := 245) C at_243 rfl rfl rfl ?_
              refine g_iconst (pc' := 246) (z := (0 : Int32)) C at_245 rfl rfl ?_
              obtain ⟨x0, x1, x2, l0, l1, l2, c0, c1, c2, g, O, A1, A2, A3⟩ := B
              have gs : l0.toInt < 0 ∧ ¬ l1.toInt < 0 ∧ l2.toInt < 0 := by
                rcases g with ⟨rfl, rfl, rfl, rfl⟩ <;> decide
              refine g_virtualP (y := (⟨"com/example/triplecore/triplecore/query/PatternQueue", "contains", "(I)Z"⟩ : MethodName)) (a := a1) (pc' := 249) (k' := 4) (n' := 13) (S := []) (as := [(.int (0 : Int32))]) C at_246 rfl (hw _ (List.mem_of_getElem? (i := 24) rfl)) (hw _ (List.mem_of_getElem? (i := 26) rfl)) (hw _ (List.mem_of_getElem? (i := 2) rfl)) (hw _ (List.mem_of_getElem? (i := 28) rfl)) (hw _ (List.mem_of_getElem? (i := 25) rfl)) (hw _ (List.mem_of_getElem? (i := 27) rfl)) (by decide) O.1 (lenOf pd_5 rfl) (con_has0 W.l Z a0 hw a1 b1 b2 b3 (1 : Int32) (0 : Int32) l0 0 _ rfl rfl gs.1 h37 O A2) rfl rfl (Nat.le_of_ble_eq_true rfl) (Nat.le_of_ble_eq_true rfl) rfl rfl (Nat.le_of_ble_eq_true rfl) (Nat.le_of_ble_eq_true rfl) (S1 := [(.int (0 : Int32))]) rfl ?_
              refine g_iload (pc' := 251) C at_249 rfl rfl ?_
              refine g_icmpN (xi := 0) (yi := 0) (pc2 := 254) C at_251 rfl rfl rfl (by decide) ?_
              refine g_aload (pc' := 256) C at_254 rfl rfl rfl ?_
              refine g_iconst (pc' := 257) (z := (1 : Int32)) C at_256 rfl rfl ?_
              refine g_virtualP (y := (⟨"com/example/triplecore/triplecore/query/PatternQueue", "contains", "(I)Z"⟩ : MethodName)) (a := a1) (pc' := 260) (k' := 4) (n' := 13) (S := []) (as := [(.int (1 : Int32))]) C at_257 rfl (hw _ (List.mem_of_getElem? (i := 24) rfl)) (hw _ (List.mem_of_getElem? (i := 26) rfl)) (hw _ (List.mem_of_getElem? (i := 2) rfl)) (hw _ (List.mem_of_getElem? (i := 28) rfl)) (hw _ (List.mem_of_getElem? (i := 25) rfl)) (hw _ (List.mem_of_getElem? (i := 27) rfl)) (by decide) O.1 (lenOf pd_5 rfl) (con_has1 W.l Z a0 hw a1 b1 b2 b3 (1 : Int32) (1 : Int32) l1 1 _ rfl rfl gs.2.1 h37 O A2) rfl rfl (Nat.le_of_ble_eq_true rfl) (Nat.le_of_ble_eq_true rfl) rfl rfl (Nat.le_of_ble_eq_true rfl) (Nat.le_of_ble_eq_true rfl) (S1 := [(.int (1 : Int32))]) rfl ?_
              refine g_iload (pc' := 262) C at_260 rfl rfl ?_
              refine g_icmpN (xi := 1) (yi := 1) (pc2 := 265) C at_262 rfl rfl rfl (by decide) ?_
              refine g_aload (pc' := 267) C at_265 rfl rfl rfl ?_
              refine g_iconst (pc' := 268) (z := (2 : Int32)) C at_267 rfl rfl ?_
              refine g_virtualP (y := (⟨"com/example/triplecore/triplecore/query/PatternQueue", "contains", "(I)Z"⟩ : MethodName)) (a := a1) (pc' := 271) (k' := 4) (n' := 13) (S := []) (as := [(.int (2 : Int32))]) C at_268 rfl (hw _ (List.mem_of_getElem? (i := 24) rfl)) (hw _ (List.mem_of_getElem? (i := 26) rfl)) (hw _ (List.mem_of_getElem? (i := 2) rfl)) (hw _ (List.mem_of_getElem? (i := 28) rfl)) (hw _ (List.mem_of_getElem? (i := 25) rfl)) (hw _ (List.mem_of_getElem? (i := 27) rfl)) (by decide) O.1 (lenOf pd_5 rfl) (con_has0 W.l Z a0 hw a1 b1 b2 b3 (1 : Int32) (2 : Int32) l2 2 _ rfl rfl gs.2.2 h37 O A2) rfl rfl (Nat.le_of_ble_eq_true rfl) (Nat.le_of_ble_eq_true rfl) rfl rfl (Nat.le_of_ble_eq_true rfl) (Nat.le_of_ble_eq_true rfl) (S1 := [(.int (0 : Int32))]) rfl ?_
              refine g_iload (pc' := 273) C at_271 rfl rfl ?_
              refine g_icmpN (xi := 0) (yi := 0) (pc2 := 276) C at_273 rfl rfl rfl (by decide) ?_
              refine g_iconst (pc' := 277) (z := (1 : Int32)) C at_276 rfl rfl ?_
              refine g_goto C at_277 (by decide) (pc' := 281) rfl ?_
              refine g_retN C (by simp) at_281 (by decide) (by decide) ?_
              subst hQ
              rfl
            ·
              show Go W Q h37 4 13 141 #[.val (.int p0), .val (.int p1), .val (.int p2), .val (.int p3), .val (.int p4), .val (.ref a1), .val (.int (1 : Int32)), .val (.int (1 : Int32)), .val (.int (1 : Int32)), .val (.int (3 : Int32)), .val (.int (2 : Int32)), .val (.int (2 : Int32)), .val (.int (-1 : Int32)), .val (.int (-1 : Int32)), .unset, .unset, .unset] [(.int (1 : Int32))]
              refine g_istore (pc' := 143) (L' := #[.val (.int p0), .val (.int p1), .val (.int p2), .val (.int p3), .val (.int p4), .val (.ref a1), .val (.int (1 : Int32)), .val (.int (1 : Int32)), .val (.int (1 : Int32)), .val (.int (3 : Int32)), .val (.int (2 : Int32)), .val (.int (2 : Int32)), .val (.int (1 : Int32)), .val (.int (-1 : Int32)), .unset, .unset, .unset]) C at_141 rfl rfl ?_
              refine g_iload (pc' := 145) C at_143 rfl rfl ?_
              refine g_iconst (pc' := 146) (z := (3 : Int32)) C at_145 rfl rfl ?_
              refine g_icmpY (xi := 2) (yi := 3) (pc1 := 156) C at_146 (by decide) rfl rfl rfl (by decide) ?_
              refine g_iload (pc' := 158) C at_156 rfl rfl ?_
              refine g_ifN (xi := 1) (pc2 := 161) C at_158 rfl rfl (by decide) ?_
              refine g_iload (pc' := 163) C at_161 rfl rfl ?_
              refine g_ifN (xi := 2) (pc2 := 166) C at_163 rfl rfl (by decide) ?_
              refine g_iload (pc' := 168) C at_166 rfl rfl ?_
              refine g_ifN (xi := 1) (pc2 := 171) C at_168 rfl rfl (by decide) ?_
              refine g_iload (pc' := 173) C at_171 rfl rfl ?_
              refine g_ifN (xi := -1) (pc2 := 176) C at_173 rfl rfl (by decide) ?_
              refine g_iconst (pc' := 177) (z := (1 : Int32)) C at_176 rfl rfl ?_
              refine g_goto C at_177 (by decide) (pc' := 181) rfl ?_
              refine g_istore (pc' := 183) (L' := #[.val (.int p0), .val (.int p1), .val (.int p2), .val (.int p3), .val (.int p4), .val (.ref a1), .val (.int (1 : Int32)), .val (.int (1 : Int32)), .val (.int (1 : Int32)), .val (.int (3 : Int32)), .val (.int (2 : Int32)), .val (.int (2 : Int32)), .val (.int (1 : Int32)), .val (.int (-1 : Int32)), .val (.int (1 : Int32)), .unset, .unset]) C at_181 rfl rfl ?_
              refine g_iload (pc' := 185) C at_183 rfl rfl ?_
              refine g_ifN (xi := 1) (pc2 := 188) C at_185 rfl rfl (by decide) ?_
              refine g_iload (pc' := 190) C at_188 rfl rfl ?_
              refine g_iconst (pc' := 191) (z := (1 : Int32)) C at_190 rfl rfl ?_
              refine g_icmpN (xi := 2) (yi := 1) (pc2 := 194) C at_191 rfl rfl rfl (by decide) ?_
              refine g_iload (pc' := 196) C at_194 rfl rfl ?_
              refine g_iconst (pc' := 197) (z := (1 : Int32)) C at_196 rfl rfl ?_
              refine g_icmpY (xi := 1) (yi := 1) (pc1 := 210) C at_197 (by decide) rfl rfl rfl (by decide) ?_
              refine g_iconst (pc' := 211) (z := (0 : Int32)) C at_210 rfl rfl ?_
              refine g_istore (pc' := 213) (L' := #[.val (.int p0), .val (.int p1), .val (.int p2), .val (.int p3), .val (.int p4), .val (.ref a1), .val (.int (1 : Int32)), .val (.int (1 : Int32)), .val (.int (1 : Int32)), .val (.int (3 : Int32)), .val (.int (2 : Int32)), .val (.int (2 : Int32)), .val (.int (1 : Int32)), .val (.int (-1 : Int32)), .val (.int (1 : Int32)), .val (.int (0 : Int32)), .unset]) C at_211 rfl rfl ?_
              refine g_iload (pc' := 215) C at_213 rfl rfl ?_
              refine g_ifN (xi := 1) (pc2 := 218) C at_215 rfl rfl (by decide) ?_
              refine g_iload (pc' := 220) C at_218 rfl rfl ?_
              refine g_iconst (pc' := 221) (z := (2 : Int32)) C at_220 rfl rfl ?_
              refine g_icmpY (xi := 2) (yi := 2) (pc1 := 240) C at_221 (by decide) rfl rfl rfl (by decide) ?_
              refine g_iconst (pc' := 241) (z := (0 : Int32)) C at_240 rfl rfl ?_
              refine g_istore (pc' := 243) (L' := #[.val (.int p0), .val (.int p1), .val (.int p2), .val (.int p3), .val (.int p4), .val (.ref a1), .val (.int (1 : Int32)), .val (.int (1 : Int32)), .val (.int (1 : Int32)), .val (.int (3 : Int32)), .val (.int (2 : Int32)), .val (.int (2 : Int32)), .val (.int (1 : Int32)), .val (.int (-1 : Int32)), .val (.int (1 : Int32)), .val (.int (0 : Int32)), .val (.int (0 : Int32))]) C at_241 rfl rfl ?_
              refine g_aload (pc' := 245) C at_243 rfl rfl rfl ?_
              refine g_iconst (pc' := 246) (z := (0 : Int32)) C at_245 rfl rfl ?_
              obtain ⟨x0, x1, x2, l0, l1, l2, c0, c1, c2, g, O, A1, A2, A3⟩ := B
              have gs : ¬ l0.toInt < 0 ∧ l1.toInt < 0 ∧ l2.toInt < 0 := by
                rcases g with ⟨rfl, rfl, rfl, rfl⟩ <;> decide
              refine g_virtualP (y := (⟨"com/example/triplecore/triplecore/query/PatternQueue", "contains", "(I)Z"⟩ : MethodName)) (a := a1) (pc' := 249) (k' := 4) (n' := 13) (S := []) (as := [(.int (0 : Int32))]) C at_246 rfl (hw _ (List.mem_of_getElem? (i := 24) rfl)) (hw _ (List.mem_of_getElem? (i := 26) rfl)) (hw _ (List.mem_of_getElem? (i := 2) rfl)) (hw _ (List.mem_of_getElem? (i := 28) rfl)) (hw _ (List.mem_of_getElem? (i := 25) rfl)) (hw _ (List.mem_of_getElem? (i := 27) rfl)) (by decide) O.1 (lenOf pd_5 rfl) (con_has1 W.l Z a0 hw a1 b1 b2 b3 (1 : Int32) (0 : Int32) l0 0 _ rfl rfl gs.1 h37 O A2) rfl rfl (Nat.le_of_ble_eq_true rfl) (Nat.le_of_ble_eq_true rfl) rfl rfl (Nat.le_of_ble_eq_true rfl) (Nat.le_of_ble_eq_true rfl) (S1 := [(.int (1 : Int32))]) rfl ?_
              refine g_iload (pc' := 251) C at_249 rfl rfl ?_
              refine g_icmpN (xi := 1) (yi := 1) (pc2 := 254) C at_251 rfl rfl rfl (by decide) ?_
              refine g_aload (pc' := 256) C at_254 rfl rfl rfl ?_
              refine g_iconst (pc' := 257) (z := (1 : Int32)) C at_256 rfl rfl ?_
              refine g_virtualP (y := (⟨"com/example/triplecore/triplecore/query/PatternQueue", "contains", "(I)Z"⟩ : MethodName)) (a := a1) (pc' := 260) (k' := 4) (n' := 13) (S := []) (as := [(.int (1 : Int32))]) C at_257 rfl (hw _ (List.mem_of_getElem? (i := 24) rfl)) (hw _ (List.mem_of_getElem? (i := 26) rfl)) (hw _ (List.mem_of_getElem? (i := 2) rfl)) (hw _ (List.mem_of_getElem? (i := 28) rfl)) (hw _ (List.mem_of_getElem? (i := 25) rfl)) (hw _ (List.mem_of_getElem? (i := 27) rfl)) (by decide) O.1 (lenOf pd_5 rfl) (con_has0 W.l Z a0 hw a1 b1 b2 b3 (1 : Int32) (1 : Int32) l1 1 _ rfl rfl gs.2.1 h37 O A2) rfl rfl (Nat.le_of_ble_eq_true rfl) (Nat.le_of_ble_eq_true rfl) rfl rfl (Nat.le_of_ble_eq_true rfl) (Nat.le_of_ble_eq_true rfl) (S1 := [(.int (0 : Int32))]) rfl ?_
              refine g_iload (pc' := 262) C at_260 rfl rfl ?_
              refine g_icmpN (xi := 0) (yi := 0) (pc2 := 265) C at_262 rfl rfl rfl (by decide) ?_
              refine g_aload (pc' := 267) C at_265 rfl rfl rfl ?_
              refine g_iconst (pc' := 268) (z := (2 : Int32)) C at_267 rfl rfl ?_
              refine g_virtualP (y := (⟨"com/example/triplecore/triplecore/query/PatternQueue", "contains", "(I)Z"⟩ : MethodName)) (a := a1) (pc' := 271) (k' := 4) (n' := 13) (S := []) (as := [(.int (2 : Int32))]) C at_268 rfl (hw _ (List.mem_of_getElem? (i := 24) rfl)) (hw _ (List.mem_of_getElem? (i := 26) rfl)) (hw _ (List.mem_of_getElem? (i := 2) rfl)) (hw _ (List.mem_of_getElem? (i := 28) rfl)) (hw _ (List.mem_of_getElem? (i := 25) rfl)) (hw _ (List.mem_of_getElem? (i := 27) rfl)) (by decide) O.1 (lenOf pd_5 rfl) (con_has0 W.l Z a0 hw a1 b1 b2 b3 (1 : Int32) (2 : Int32) l2 2 _ rfl rfl gs.2.2 h37 O A2) rfl rfl (Nat.le_of_ble_eq_true rfl) (Nat.le_of_ble_eq_true rfl) rfl rfl (Nat.le_of_ble_eq_true rfl) (Nat.le_of_ble_eq_true rfl) (S1 := [(.int (0 : Int32))]) rfl ?_
              refine g_iload (pc' := 273) C at_271 rfl rfl ?_
              refine g_icmpN (xi := 0) (yi := 0) (pc2 := 276) C at_273 rfl rfl rfl (by decide) ?_
              refine g_iconst (pc' := 277) (z := (1 : Int32)) C at_276 rfl rfl ?_
              refine g_goto C at_277 (by decide) (pc' := 281) rfl ?_
              refine g_retN C (by simp) at_281 (by decide) (by decide) ?_
              subst hQ
              rfl
        ·
          refine g_iconst (pc' := 109) (z := (-1 : Int32)) C at_108 rfl rfl ?_
          refine g_istore (pc' := 111) (L' := #[.val (.int p0), .val (.int p1), .val (.int p2), .val (.int p3), .val (.int p4), .val (.ref a1), .val (.int (1 : Int32)), .val (.int (1 : Int32)), .val (.int (1 : Int32)), .val (.int (3 : Int32)), .val (.int (3 : Int32)), .val (.int (-1 : Int32)), .unset, .unset, .unset, .unset, .unset]) C at_109 rfl rfl ?_
          refine g_iconst (pc' := 112) (z := (-1 : Int32)) C at_111 rfl rfl ?_
          refine g_istore (pc' := 114) (L' := #[.val (.int p0), .val (.int p1), .val (.int p2), .val (.int p3), .val (.int p4), .val (.ref a1), .val (.int (1 : Int32)), .val (.int (1 : Int32)), .val (.int (1 : Int32)), .val (.int (3 : Int32)), .val (.int (3 : Int32)), .val (.int (-1 : Int32)), .val (.int (-1 : Int32)), .unset, .unset, .unset, .unset]) C at_112 rfl rfl ?_
          refine g_iconst (pc' := 115) (z := (-1 : Int32)) C at_114 rfl rfl ?_
          refine g_istore (pc' := 117) (L' := #[.val (.int p0), .val (.int p1), .val (.int p2), .val (.int p3), .val (.int p4), .val (.ref a1), .val (.int (1 : Int32)), .val (.int (1 : Int32)), .val (.int (1 : Int32)), .val (.int (3 : Int32)), .val (.int (3 : Int32)), .val (.int (-1 : Int32)), .val (.int (-1 : Int32)), .val (.int (-1 : Int32)), .unset, .unset, .unset]) C at_115 rfl rfl ?_
          refine g_iload (pc' := 119) C at_117 rfl rfl ?_
          refine g_iconst (pc' := 120) (z := (1 : Int32)) C at_119 rfl rfl ?_
          refine g_icmpN (xi := 3) (yi := 1) (pc2 := 123) C at_120 rfl rfl rfl (by decide) ?_
          refine g_aload (pc' := 125) C at_123 rfl rfl rfl ?_
          refine g_virtual (y := (⟨"com/example/triplecore/triplecore/query/PatternQueue", "poll", "()I"⟩ : MethodName)) (a := a1) (pc' := 128) (k' := 4) (n' := 13) (S := []) (as := []) C at_125 rfl (hw _ (List.mem_of_getElem? (i := 48) rfl)) (hw _ (List.mem_of_getElem? (i := 50) rfl)) (hw _ (List.mem_of_getElem? (i := 2) rfl)) (hw _ (List.mem_of_getElem? (i := 52) rfl)) (hw _ (List.mem_of_getElem? (i := 49) rfl)) (hw _ (List.mem_of_getElem? (i := 51) rfl)) (by decide) B.exa (lenOf pd_6 rfl) (con_poll_G_012 W.l Z a0 hw a1 b1 b2 b3 q01 q02 q03 q12 q13 q23 h31 B) rfl rfl (Nat.le_of_ble_eq_true rfl) (Nat.le_of_ble_eq_true rfl) rfl rfl (Nat.le_of_ble_eq_true rfl) (Nat.le_of_ble_eq_true rfl) (allS w_a1 (allS w_b1 (allS w_b2 all0))) fun vh38 h38 qh38 Kh38 => ?_
          rcases qh38 with ⟨rfl, B⟩ | ⟨rfl, B⟩ | ⟨rfl, B⟩
          ·
            show Go W Q h38 4 13 128 #[.val (.int p0), .val (.int p1), .val (.int p2), .val (.int p3), .val (.int p4), .val (.ref a1), .val (.int (1 : Int32)), .val (.int (1 : Int32)), .val (.int (1 : Int32)), .val (.int (3 : Int32)), .val (.int (3 : Int32)), .val (.int (-1 : Int32)), .val (.int (-1 : Int32)), .val (.int (-1 : Int32)), .unset, .unset, .unset] [(.int (0 : Int32))]
            refine g_istore (pc' := 130) (L' := #[.val (.int p0), .val (.int p1), .val (.int p2), .val (.int p3), .val (.int p4), .val (.ref a1), .val (.int (1 : Int32)), .val (.int (1 : Int32)), .val (.int (1 : Int32)), .val (.int (3 : Int32)), .val (.int (3 : Int32)), .val (.int (0 : Int32)), .val (.int (-1 : Int32)), .val (.int (-1 : Int32)), .unset, .unset, .unset]) C at_128 rfl rfl ?_
            refine g_iload (pc' := 132) C at_130 rfl rfl ?_
            refine g_iconst (pc' := 133) (z := (2 : Int32)) C at_132 rfl rfl ?_
            refine g_icmpN (xi := 3) (yi := 2) (pc2 := 136) C at_133 rfl rfl rfl (by decide) ?_
            refine g_aload (pc' := 138) C at_136 rfl rfl rfl ?_
            refine g_virtual (y := (⟨"com/example/triplecore/triplecore/query/PatternQueue", "poll", "()I"⟩ : MethodName)) (a := a1) (pc' := 141) (k' := 4) (n' := 13) (S := []) (as := []) C at_138 rfl (hw _ (List.mem_of_getElem? (i := 48) rfl)) (hw _ (List.mem_of_getElem? (i := 50) rfl)) (hw _ (List.mem_of_getElem? (i := 2) rfl)) (hw _ (List.mem_of_getElem? (i := 52) rfl)) (hw _ (List.mem_of_getElem? (i := 49) rfl)) (hw _ (List.mem_of_getElem? (i := 51) rfl)) (by decide) B.exa (lenOf pd_6 rfl) (con_poll_G_12 W.l Z a0 hw a1 b1 b2 b3 q01 q02 q03 q12 q13 q23 h38 B) rfl rfl (Nat.le_of_ble_eq_true rfl) (Nat.le_of_ble_eq_true rfl) rfl rfl (Nat.le_of_ble_eq_true rfl) (Nat.le_of_ble_eq_true rfl) (allS w_a1 (allS w_b1 (allS w_b2 all0))) fun vh39 h39 qh39 Kh39 => ?_
            rcases qh39 with ⟨rfl, B⟩ | ⟨rfl, B⟩
            ·
              show Go W Q h39 4 13 141 #[.val (.int p0), .val (.int p1), .val (.int p2), .val (.int p3), .val (.int p4), .val (.ref a1), .val (.int (1 : Int32)), .val (.int (1 : Int32)), .val (.int (1 : Int32)), .val (.int (3 : Int32)), .val (.int (3 : Int32)), .val (.int (0 : Int32)), .val (.int (-1 : Int32)), .val (.int (-1 : Int32)), .unset, .unset, .unset] [(.int (1 : Int32))]
              refine g_istore (pc' := 143) (L' := #[.val (.int p0), .val (.int p1), .val (.int p2), .val (.int p3), .val (.int p4), .val (.ref a1), .val (.int (1 : Int32)), .val (.int (1 : Int32)), .val (.int (1 : Int32)), .val (.int (3 : Int32)), .val (.int (3 : Int32)), .val (.int (0 : Int32)), .val (.int (1 : Int32)), .val (.int (-1 : Int32)), .unset, .unset, .unset]) C at_141 rfl rfl ?_
              refine g_iload (pc' := 145) C at_143 rfl rfl ?_
              refine g_iconst (pc' := 146) (z := (3 : Int32)) C at_145 rfl rfl ?_
              refine g_icmpN (xi := 3) (yi := 3) (pc2 := 149) C at_146 rfl rfl rfl (by decide) ?_
              refine g_aload (pc' := 151) C at_149 rfl rfl rfl ?_
              refine g_virtual (y := (⟨"com/example/triplecore/triplecore/query/PatternQueue", "poll", "()I"⟩ : MethodName)) (a := a1) (pc' := 154) (k' := 4) (n' := 13) (S := []) (as := []) C at_151 rfl (hw _ (List.mem_of_getElem? (i := 48) rfl)) (hw _ (List.mem_of_getElem? (i := 50) rfl)) (hw _ (List.mem_of_getElem? (i := 2) rfl)) (hw _ (List.mem_of_getElem? (i := 52) rfl)) (hw _ (List.mem_of_getElem? (i := 49) rfl)) (hw _ (List.mem_of_getElem? (i := 51) rfl)) (by decide) B.exa (lenOf pd_6 rfl) (con_poll_G_2 W.l Z a0 hw a1 b1 b2 b3 q01 q02 q03 q12 q13 q23 h39 B) rfl rfl (Nat.le_of_ble_eq_true rfl) (Nat.le_of_ble_eq_true rfl) rfl rfl (Nat.le_of_ble_eq_true rfl) (Nat.le_of_ble_eq_true rfl) (allS w_a1 (allS w_b1 (allS w_b2 all0))) fun vh40 h40 qh40 Kh40 => ?_
              rcases qh40 with ⟨rfl, B⟩
              ·
                show Go W Q h40 4 13 154 #[.val (.int p0), .val (.int p1), .val (.int p2), .val (.int p3), .val (.int p4), .val (.ref a1), .val (.int (1 : Int32)), .val (.int (1 : Int32)), .val (.int (1 : Int32)), .val (.int (3 : Int32)), .val (.int (3 : Int32)), .val (.int (0 : Int32)), .val (.int (1 : Int32)), .val (.int (-1 : Int32)), .unset, .unset, .unset] [(.int (2 : Int32))]
                refine g_istore (pc' := 156) (L' := #[.val (.int p0), .val (.int p1), .val (.int p2), .val (.int p3), .val (.int p4), .val (.ref a1), .val (.int (1 : Int32)), .val (.int (1 : Int32)), .val (.int (1 : Int32)), .val (.int (3 : Int32)), .val (.int (3 : Int32)), .val (.int (0 : Int32)), .val (.int (1 : Int32)), .val (.int (2 : Int32)), .unset, .unset, .unset]) C at_154 rfl rfl ?_
                refine g_iload (pc' := 158) C at_156 rfl rfl ?_
                refine g_ifN (xi := 1) (pc2 := 161) C at_158 rfl rfl (by decide) ?_
                refine g_iload (pc' := 163) C at_161 rfl rfl ?_
                refine g_ifY (xi := 0) (pc1 := 180) C at_163 (by decide) rfl rfl (by decide) ?_
                refine g_iconst (pc' := 181) (z := (0 : Int32)) C at_180 rfl rfl ?_
                refine g_istore (pc' := 183) (L' := #[.val (.int p0), .val (.int p1), .val (.int p2), .val (.int p3), .val (.int p4), .val (.ref a1), .val (.int (1 : Int32)), .val (.int (1 : Int32)), .val (.int (1 : Int32)), .val (.int (3 : Int32)), .val (.int (3 : Int32)), .val (.int (0 : Int32)), .val (.int (1 : Int32)), .val (.int (2 : Int32)), .val (.int (0 : Int32)), .unset, .unset]) C at_181 rfl rfl ?_
                refine g_iload (pc' := 185) C at_183 rfl rfl ?_
                refine g_ifN (xi := 1) (pc2 := 188) C at_185 rfl rfl (by decide) ?_
                refine g_iload (pc' := 190) C at_188 rfl rfl ?_
                refine g_iconst (pc' := 191) (z := (1 : Int32)) C at_190 rfl rfl ?_
                refine g_icmpN (xi := 0) (yi := 1) (pc2 := 194) C at_191 rfl rfl rfl (by decide) ?_
                refine g_iload (pc' := 196) C at_194 rfl rfl ?_
                refine g_iconst (pc' := 197) (z := (1 : Int32)) C at_196 rfl rfl ?_
                refine g_icmpY (xi := 1) (yi := 1) (pc1 := 210) C at_197 (by decide) rfl rfl rfl (by decide) ?_
                refine g_iconst (pc' := 211) (z := (0 : Int32)) C at_210 rfl rfl ?_
                refine g_istore (pc' := 213) (L' := #[.val (.int p0), .val (.int p1), .val (.int p2), .val (.int p3), .val (.int p4), .val (.ref a1), .val (.int (1 : Int32)), .val (.int (1 : Int32)), .val (.int (1 : Int32)), .val (.int (3 : Int32)), .val (.int (3 : Int32)), .val (.int (0 : Int32)), .val (.int (1 : Int32)), .val (.int (2 : Int32)), .val (.int (0 : Int32)), .val (.int (0 : Int32)), .unset]) C at_211 rfl rfl ?_
                refine g_iload (pc' := 215) C at_213 rfl rfl ?_
                refine g_ifN (xi := 1) (pc2 := 218) C at_215 rfl rfl (by decide) ?_
                refine g_iload (pc' := 220) C at_218 rfl rfl ?_
                refine g_iconst (pc' := 221) (z := (2 : Int32)) C at_220 rfl rfl ?_
                refine g_icmpN (xi := 0) (yi := 2) (pc2 := 224) C at_221 rfl rfl rfl (by decide) ?_
                refine g_iload (pc' := 226) C at_224 rfl rfl ?_
                refine g_iconst (pc' := 227) (z := (2 : Int32)) C at_226 rfl rfl ?_
                refine g_icmpN (xi := 1) (yi := 2) (pc2 := 230) C at_227 rfl rfl rfl (by decide) ?_
                refine g_iload (pc' := 232) C at_230 rfl rfl ?_
                refine g_iconst (pc' := 233) (z := (2 : Int32)) C at_232 rfl rfl ?_
                refine g_icmpY (xi := 2) (yi := 2) (pc1 := 240) C at_233 (by decide) rfl rfl rfl (by decide) ?_
                refine g_iconst (pc' := 241) (z := (0 : Int32)) C at_240 rfl rfl ?_
                refine g_istore (pc' := 243) (L' := #[.val (.int p0), .val (.int p1), .val (.int p2), .val (.int p3), .val (.int p4), .val (.ref a1), .val (.int (1 : Int32)), .val (.int (1 : Int32)), .val (.int (1 : Int32)), .val (.int (3 : Int32)), .val (.int (3 : Int32)), .val (.int (0 : Int32)), .val (.int (1 : Int32)), .val (.int (2 : Int32)), .val (.int (0 : Int32)), .val (.int (0 : Int32)), .val (.int (0 : Int32))]) C at_241 rfl rfl ?_
                refine g_aload (pc' := 245) C at_243 rfl rfl rfl ?_
                refine g_iconst (pc' := 246) (z := (0 : Int32)) C at_245 rfl rfl ?_
                obtain ⟨x0, x1, x2, l0, l1, l2, c0, c1, c2, g, O, A1, A2, A3⟩ := B
                have gs : l0.toInt < 0 ∧ l1.toInt < 0 ∧ l2.toInt < 0 := by
                  rcases g with ⟨rfl, rfl, rfl⟩ <;> decide
                refine g_virtualP (y := (⟨"com/example/triplecore/triplecore/query/PatternQueue", "contains", "(I)Z"⟩ : MethodName)) (a := a1) (pc' := 249) (k' := 4) (n' := 13) (S := []) (as := [(.int (0 : Int32))]) C at_246 rfl (hw _ (List.mem_of_getElem? (i := 24) rfl)) (hw _ (List.mem_of_getElem? (i := 26) rfl)) (hw _ (List.mem_of_getElem? (i := 2) rfl)) (hw _ (List.mem_of_getElem? (i := 28) rfl)) (hw _ (List.mem_of_getElem? (i := 25) rfl)) (hw _ (List.mem_of_getElem? (i := 27) rfl)) (by decide) O.1 (lenOf pd_5 rfl) (con_has0 W.l Z a0 hw a1 b1 b2 b3 (0 : Int32) (0 : Int32) l0 0 _ rfl rfl gs.1 h40 O A2) rfl rfl (Nat.le_of_ble_eq_true rfl) (Nat.le_of_ble_eq_true rfl) rfl rfl (Nat.le_of_ble_eq_true rfl) (Nat.le_of_ble_eq_true rfl) (S1 := [(.int (0 : Int32))]) rfl ?_
                refine g_iload (pc' := 251) C at_249 rfl rfl ?_
                refine g_icmpN (xi := 0) (yi := 0) (pc2 := 254) C at_251 rfl rfl rfl (by decide) ?_
                refine g_aload (pc' := 256) C at_254 rfl rfl rfl ?_
                refine g_iconst (pc' := 257) (z := (1 : Int32)) C at_256 rfl rfl ?_
                refine g_virtualP (y := (⟨"com/example/triplecore/triplecore/query/PatternQueue", "contains", "(I)Z"⟩ : MethodName)) (a := a1) (pc' := 260) (k' := 4) (n' := 13) (S := []) (as := [(.int (1 : Int32))]) C at_257 rfl (hw _ (List.mem_of_getElem? (i := 24) rfl)) (hw _ (List.mem_of_getElem? (i := 26) rfl)) (hw _ (List.mem_of_getElem? (i := 2) rfl)) (hw _ (List.mem_of_getElem? (i := 28) rfl)) (hw _ (List.mem_of_getElem? (i := 25) rfl)) (hw _ (List.mem_of_getElem? (i := 27) rfl)) (by decide) O.1 (lenOf pd_5 rfl) (con_has0 W.l Z a0 hw a1 b1 b2 b3 (0 : Int32) (1 : Int32) l1 1 _ rfl rfl gs.2.1 h40 O A2) rfl rfl (Nat.le_of_ble_eq_true rfl) (Nat.le_of_ble_eq_true rfl) rfl rfl (Nat.le_of_ble_eq_true rfl) (Nat.le_of_ble_eq_true rfl) (S1 := [(.int (0 : Int32))]) rfl ?_
                refine g_iload (pc' := 262) C at_260 rfl rfl ?_
                refine g_icmpN (xi := 0) (yi := 0) (pc2 := 265) C at_262 rfl rfl rfl (by decide) ?_
                refine g_aload (pc' := 267) C at_265 rfl rfl rfl ?_
                refine g_iconst (pc' := 268) (z := (2 : Int32)) C at_267 rfl rfl ?_
                refine g_virtualP (y := (⟨"com/example/triplecore/triplecore/query/PatternQueue", "contains", "(I)Z"⟩ : MethodName)) (a := a1) (pc' := 271) (k' := 4) (n' := 13) (S := []) (as := [(.int (2 : Int32))]) C at_268 rfl (hw _ (List.mem_of_getElem? (i := 24) rfl)) (hw _ (List.mem_of_getElem? (i := 26) rfl)) (hw _ (List.mem_of_getElem? (i := 2) rfl)) (hw _ (List.mem_of_getElem? (i := 28) rfl)) (hw _ (List.mem_of_getElem? (i := 25) rfl)) (hw _ (List.mem_of_getElem? (i := 27) rfl)) (by decide) O.1 (lenOf pd_5 rfl) (con_has0 W.l Z a0 hw a1 b1 b2 b3 (0 : Int32) (2 : Int32) l2 2 _ rfl rfl gs.2.2 h40 O A2) rfl rfl (Nat.le_of_ble_eq_true rfl) (Nat.le_of_ble_eq_true rfl) rfl rfl (Nat.le_of_ble_eq_true rfl) (Nat.le_of_ble_eq_true rfl) (S1 := [(.int (0 : Int32))]) rfl ?_
                refine g_iload (pc' := 273) C at_271 rfl rfl ?_
                refine g_icmpN (xi := 0) (yi := 0) (pc2 := 276) C at_273 rfl rfl rfl (by decide) ?_
                refine g_iconst (pc' := 277) (z := (1 : Int32)) C at_276 rfl rfl ?_
                refine g_goto C at_277 (by decide) (pc' := 281) rfl ?_
                refine g_retN C (by simp) at_281 (by decide) (by decide) ?_
                subst hQ
                rfl
            ·
              show Go W Q h39 4 13 141 #[.val (.int p0), .val (.int p1), .val (.int p2), .val (.int p3), .val (.int p4), .val (.ref a1), .val (.int (1 : Int32)), .val (.int (1 : Int32)), .val (.int (1 : Int32)), .val (.int (3 : Int32)), .val (.int (3 : Int32)), .val (.int (0 : Int32)), .val (.int (-1 : Int32)), .val (.int (-1 : Int32)), .unset, .unset, .unset] [(.int (2 : Int32))]
              refine g_istore (pc' := 143) (L' := #[.val (.int p0), .val (.int p1), .val (.int p2), .val (.int p3), .val (.int p4), .val (.ref a1), .val (.int (1 : Int32)), .val (.int (1 : Int32)), .val (.int (1 : Int32)), .val (.int (3 : Int32)), .val (.int (3 : Int32)), .val (.int (0 : Int32)), .val (.int (2 : Int32)), .val (.int (-1 : Int32)), .unset, .unset, .unset]) C at_141 rfl rfl ?_
              refine g_iload (pc' := 145) C at_143 rfl rfl ?_
              refine g_iconst (pc' := 146) (z := (3 : Int32)) C at_145 rfl rfl ?_
              refine g_icmpN (xi := 3) (yi := 3) (pc2 := 149) C at_146 rfl rfl rfl (by decide) ?_
              refine g_aload (pc' := 151) C at_149 rfl rfl rfl ?_
              refine g_virtual (y := (⟨"com/example/triplecore/triplecore/query/PatternQueue", "poll", "()I"⟩ : MethodName)) (a := a1) (pc' := 154) (k' := 4) (n' := 13) (S := []) (as := []) C at_151 rfl (hw _ (List.mem_of_getElem? (i := 48) rfl)) (hw _ (List.mem_of_getElem? (i := 50) rfl)) (hw _ (List.mem_of_getElem? (i := 2) rfl)) (hw _ (List.mem_of_getElem? (i := 52) rfl)) (hw _ (List.mem_of_getElem? (i := 49) rfl)) (hw _ (List.mem_of_getElem? (i := 51) rfl)) (by decide) B.exa (lenOf pd_6 rfl) (con_poll_G_1 W.l Z a0 hw a1 b1 b2 b3 q01 q02 q03 q12 q13 q23 h39 B) rfl rfl (Nat.le_of_ble_eq_true rfl) (Nat.le_of_ble_eq_true rfl) rfl rfl (Nat.le_of_ble_eq_true rfl) (Nat.le_of_ble_eq_true rfl) (allS w_a1 (allS w_b1 (allS w_b2 all0))) fun vh41 h41 qh41 Kh41 => ?_
              rcases qh41 with ⟨rfl, B⟩
              ·
                show Go W Q h41 4 13 154 #[.val (.int p0), .val (.int p1), .val (.int p2), .val (.int p3), .val (.int p4), .val (.ref a1), .val (.int (1 : Int32)), .val (.int (1 : Int32)), .val (.int (1 : Int32)), .val (.int (3 : Int32)), .val (.int (3 : Int32)), .val (.int (0 : Int32)), .val (.int (2 : Int32)), .val (.int (-1 : Int32)), .unset, .unset, .unset] [(.int (1 : Int32))]
                refine g_istore (pc' := 156) (L' := #[.val (.int p0), .val (.int p1), .val (.int p2), .val (.int p3), .val (.int p4), .val (.ref a1), .val (.int (1 : Int32)), .val (.int (1 : Int32)), .val (.int (1 : Int32)), .val (.int (3 : Int32)), .val (.int (3 : Int32)), .val (.int (0 : Int32)), .val (.int (2 : Int32)), .val (.int (1 : Int32)), .unset, .unset, .unset]) C at_154 rfl rfl ?_
                refine g_iload (pc' := 158) C at_156 rfl rfl ?_
                refine g_ifN (xi := 1) (pc2 := 161) C at_158 rfl rfl (by decide) ?_
                refine g_iload (pc' := 163) C at_161 rfl rfl ?_
                refine g_ifY (xi := 0) (pc1 := 180) C at_163 (by decide) rfl rfl (by decide) ?_
                refine g_iconst (pc' := 181) (z := (0 : Int32)) C at_180 rfl rfl ?_
                refine g_istore (pc' := 183) (L' := #[.val (.int p0), .val (.int p1), .val (.int p2), .val (.int p3), .val (.int p4), .val (.ref a1), .val (.int (1 : Int32)), .val (.int (1 : Int32)), .val (.int (1 : Int32)), .val (.int (3 : Int32)), .val (.int (3 : Int32)), .val (.int (0 : Int32)), .val (.int (2 : Int32)), .val (.int (1 : Int32)), .val (.int (0 : Int32)), .unset, .unset]) C at_181 rfl rfl ?_
                refine g_iload (pc' := 185) C at_183 rfl rfl ?_
                refine g_ifN (xi := 1) (pc2 := 188) C at_185 rfl rfl (by decide) ?_
                refine g_iload (pc' := 190) C at_188 rfl rfl ?_
                refine g_iconst (pc' := 191) (z := (1 : Int32)) C at_190 rfl rfl ?_
                refine g_icmpN (xi := 0) (yi := 1) (pc2 := 194) C at_191 rfl rfl rfl (by decide) ?_
                refine g_iload (pc' := 196) C at_194 rfl rfl ?_
                refine g_iconst (pc' := 197) (z := (1 : Int32)) C at_196 rfl rfl ?_
                refine g_icmpN (xi := 2) (yi := 1) (pc2 := 200) C at_197 rfl rfl rfl (by decide) ?_
                refine g_iload (pc' := 202) C at_200 rfl rfl ?_
                refine g_iconst (pc' := 203) (z := (1 : Int32)) C at_202 rfl rfl ?_
                refine g_icmpY (xi := 1) (yi := 1) (pc1 := 210) C at_203 (by decide) rfl rfl rfl (by decide) ?_
                refine g_iconst (pc' := 211) (z := (0 : Int32)) C at_210 rfl rfl ?_
                refine g_istore (pc' := 213) (L' := #[.val (.int p0), .val (.int p1), .val (.int p2), .val (.int p3), .val (.int p4), .val (.ref a1), .val (.int (1 : Int32)), .val (.int (1 : Int32)), .val (.int (1 : Int32)), .val (.int (3 : Int32)), .val (.int (3 : Int32)), .val (.int (0 : Int32)), .val (.int (2 : Int32)), .val (.int (1 : Int32)), .val (.int (0 : Int32)), .val (.int (0 : Int32)), .unset]) C at_211 rfl rfl ?_
                refine g_iload (pc' := 215) C at_213 rfl rfl ?_
                refine g_ifN (xi := 1) (pc2 := 218) C at_215 rfl rfl (by decide) ?_
                refine g_iload (pc' := 220) C at_218 rfl rfl ?_
                refine g_iconst (pc' := 221) (z := (2 : Int32)) C at_220 rfl rfl ?_
                refine g_icmpN (xi := 0) (yi := 2) (pc2 := 224) C at_221 rfl rfl rfl (by decide) ?_
                refine g_iload (pc' := 226) C at_224 rfl rfl ?_
                refine g_iconst (pc' := 227) (z := (2 : Int32)) C at_226 rfl rfl ?_
                refine g_icmpY (xi := 2) (yi := 2) (pc1 := 240) C at_227 (by decide) rfl rfl rfl (by decide) ?_
                refine g_iconst (pc' := 241) (z := (0 : Int32)) C at_240 rfl rfl ?_
                refine g_istore (pc' := 243) (L' := #[.val (.int p0), .val (.int p1), .val (.int p2), .val (.int p3), .val (.int p4), .val (.ref a1), .val (.int (1 : Int32)), .val (.int (1 : Int32)), .val (.int (1 : Int32)), .val (.int (3 : Int32)), .val (.int (3 : Int32)), .val (.int (0 : Int32)), .val (.int (2 : Int32)), .val (.int (1 : Int32)), .val (.int (0 : Int32)), .val (.int (0 : Int32)), .val (.int (0 : Int32))]) C at_241 rfl rfl ?_
                refine g_aload (pc' := 245) C at_243 rfl rfl rfl ?_
                refine g_iconst (pc' := 246) (z := (0 : Int32)) C at_245 rfl rfl ?_
                obtain ⟨x0, x1, x2, l0, l1, l2, c0, c1, c2, g, O, A1, A2, A3⟩ := B
                have gs : l0.toInt < 0 ∧ l1.toInt < 0 ∧ l2.toInt < 0 := by
                  rcases g with ⟨rfl, rfl, rfl⟩ <;> decide
                refine g_virtualP (y := (⟨"com/example/triplecore/triplecore/query/PatternQueue", "contains", "(I)Z"⟩ : MethodName)) (a := a1) (pc' := 249) (k' := 4) (n' := 13) (S := []) (as := [(.int (0 : Int32))]) C at_246 rfl (hw _ (List.mem_of_getElem? (i := 24) rfl)) (hw _ (List.mem_of_getElem? (i := 26) rfl)) (hw _ (List.mem_of_getElem? (i := 2) rfl)) (hw _ (List.mem_of_getElem? (i := 28) rfl)) (hw _ (List.mem_of_getElem? (i := 25) rfl)) (hw _ (List.mem_of_getElem? (i := 27) rfl)) (by decide) O.1 (lenOf pd_5 rfl) (con_has0 W.l Z a0 hw a1 b1 b2 b3 (0 : Int32) (0 : Int32) l0 0 _ rfl rfl gs.1 h41 O A2) rfl rfl (Nat.le_of_ble_eq_true rfl) (Nat.le_of_ble_eq_true rfl) rfl rfl (Nat.le_of_ble_eq_true rfl) (Nat.le_of_ble_eq_true rfl) (S1 := [(.int (0 : Int32))]) rfl ?_
                refine g_iload (pc' := 251) C at_249 rfl rfl ?_
                refine g_icmpN (xi := 0) (yi := 0) (pc2 := 254) C at_251 rfl rfl rfl (by decide) ?_
                refine g_aload (pc' := 256) C at_254 rfl rfl rfl ?_
                refine g_iconst (pc' := 257) (z := (1 : Int32)) C at_256 rfl rfl ?_
                refine g_virtualP (y := (⟨"com/example/triplecore/triplecore/query/PatternQueue", "contains", "(I)Z"⟩ : MethodName)) (a := a1) (pc' := 260) (k' := 4) (n' := 13) (S := []) (as := [(.int (1 : Int32))]) C at_257 rfl (hw _ (List.mem_of_getElem? (i := 24) rfl)) (hw _ (List.mem_of_getElem? (i := 26) rfl)) (hw _ (List.mem_of_getElem? (i := 2) rfl)) (hw _ (List.mem_of_getElem? (i := 28) rfl)) (hw _ (List.mem_of_getElem? (i := 25) rfl)) (hw _ (List.mem_of_getElem? (i := 27) rfl)) (by decide) O.1 (lenOf pd_5 rfl) (con_has0 W.l Z a0 hw a1 b1 b2 b3 (0 : Int32) (1 : Int32) l1 1 _ rfl rfl gs.2.1 h41 O A2) rfl rfl (Nat.le_of_ble_eq_true rfl) (Nat.le_of_ble_eq_true rfl) rfl rfl (Nat.le_of_ble_eq_true rfl) (Nat.le_of_ble_eq_true rfl) (S1 := [(.int (0 : Int32))]) rfl ?_
                refine g_iload (pc' := 262) C at_260 rfl rfl ?_
                refine g_icmpN (xi := 0) (yi := 0) (pc2 := 265) C at_262 rfl rfl rfl (by decide) ?_
                refine g_aload (pc' := 267) C at_265 rfl rfl rfl ?_
                refine g_iconst (pc' := 268) (z := (2 : Int32)) C at_267 rfl rfl ?_
                refine g_virtualP (y := (⟨"com/example/triplecore/triplecore/query/PatternQueue", "contains", "(I)Z"⟩ : MethodName)) (a := a1) (pc' := 271) (k' := 4) (n' := 13) (S := []) (as := [(.int (2 : Int32))]) C at_268 rfl (hw _ (List.mem_of_getElem? (i := 24) rfl)) (hw _ (List.mem_of_getElem? (i := 26) rfl)) (hw _ (List.mem_of_getElem? (i := 2) rfl)) (hw _ (List.mem_of_getElem? (i := 28) rfl)) (hw _ (List.mem_of_getElem? (i := 25) rfl)) (hw _ (List.mem_of_getElem? (i := 27) rfl)) (by decide) O.1 (lenOf pd_5 rfl) (con_has0 W.l Z a0 hw a1 b1 b2 b3 (0 : Int32) (2 : Int32) l2 2 _ rfl rfl gs.2.2 h41 O A2) rfl rfl (Nat.le_of_ble_eq_true rfl) (Nat.le_of_ble_eq_true rfl) rfl rfl (Nat.le_of_ble_eq_true rfl) (Nat.le_of_ble_eq_true rfl) (S1 := [(.int (0 : Int32))]) rfl ?_
                refine g_iload (pc' := 273) C at_271 rfl rfl ?_
                refine g_icmpN (xi := 0) (yi := 0) (pc2 := 276) C at_273 rfl rfl rfl (by decide) ?_
                refine g_iconst (pc' := 277) (z := (1 : Int32)) C at_276 rfl rfl ?_
                refine g_goto C at_277 (by decide) (pc' := 281) rfl ?_
                refine g_retN C (by simp) at_281 (by decide) (by decide) ?_
                subst hQ
                rfl
          ·
            show Go W Q h38 4 13 128 #[.val (.int p0), .val (.int p1), .val (.int p2), .val (.int p3), .val (.int p4), .val (.ref a1), .val (.int (1 : Int32)), .val (.int (1 : Int32)), .val (.int (1 : Int32)), .val (.int (3 : Int32)), .val (.int (3 : Int32)), .val (.int (-1 : Int32)), .val (.int (-1 : Int32)), .val (.int (-1 : Int32)), .unset, .unset, .unset] [(.int (1 : Int32))]
            refine g_istore (pc' := 130) (L' := #[.val (.int p0), .val (.int p1), .val (.int p2), .val (.int p3), .val (.int p4), .val (.ref a1), .val (.int (1 : Int32)), .val (.int (1 : Int32)), .val (.int (1 : Int32)), .val (.int (3 : Int32)), .val (.int (3 : Int32)), .val (.int (1 : Int32)), .val (.int (-1 : Int32)), .val (.int (-1 : Int32)), .unset, .unset, .unset]) C at_128 rfl rfl ?_
            refine g_iload (pc' := 132) C at_130 rfl rfl ?_
            refine g_iconst (pc' := 133) (z := (2 : Int32)) C at_132 rfl rfl ?_
            refine g_icmpN (xi := 3) (yi := 2) (pc2 := 136) C at_133 rfl rfl rfl (by decide) ?_
            refine g_aload (pc' := 138) C at_136 rfl rfl rfl ?_
            refine g_virtual (y := (⟨"com/example/triplecore/triplecore/query/PatternQueue", "poll", "()I"⟩ : MethodName)) (a := a1) (pc' := 141) (k' := 4) (n' := 13) (S := []) (as := []) C at_138 rfl (hw _ (List.mem_of_getElem? (i := 48) rfl)) (hw _ (List.mem_of_getElem? (i := 50) rfl)) (hw _ (List.mem_of_getElem? (i := 2) rfl)) (hw _ (List.mem_of_getElem? (i := 52) rfl)) (hw _ (List.mem_of_getElem? (i := 49) rfl)) (hw _ (List.mem_of_getElem? (i := 51) rfl)) (by decide) B.exa (lenOf pd_6 rfl) (con_poll_G_02 W.l Z a0 hw a1 b1 b2 b3 q01 q02 q03 q12 q13 q23 h38 B) rfl rfl (Nat.le_of_ble_eq_true rfl) (Nat.le_of_ble_eq_true rfl) rfl rfl (Nat.le_of_ble_eq_true rfl) (Nat.le_of_ble_eq_true rfl) (allS w_a1 (allS w_b1 (allS w_b2 all0))) fun vh42 h42 qh42 Kh42 => ?_
            rcases qh42 with ⟨rfl, B⟩ | ⟨rfl, B⟩
            ·
              show Go W Q h42 4 13 141 #[.val (.int p0), .val (.int p1), .val (.int p2), .val (.int p3), .val (.int p4), .val (.ref a1), .val (.int (1 : Int32)), .val (.int (1 : Int32)), .val (.int (1 : Int32)), .val (.int (3 : Int32)), .val (.int (3 : Int32)), .val (.int (1 : Int32)), .val (.int (-1 : Int32)), .val (.int (-1 : Int32)), .unset, .unset, .unset] [(.int (0 : Int32))]
              refine g_istore (pc' := 143) (L' := #[.val (.int p0), .val (.int p1), .val (.int p2), .val (.int p3), .val (.int p4), .val (.ref a1), .val (.int (1 : Int32)), .val (.int (1 : Int32)), .val (.int (1 : Int32)), .val (.int (3 : Int32)), .val (.int (3 : Int32)), .val (.int (1 : Int32)), .val (.int (0 : Int32)), .val (.int (-1 : Int32)), .unset, .unset, .unset]) C at_141 rfl rfl ?_
              refine g_iload (pc' := 145) C at_143 rfl rfl ?_
              refine g_iconst (pc' := 146) (z := (3 : Int32)) C at_145 rfl rfl ?_
              refine g_icmpN (xi := 3) (yi := 3) (pc2 := 149) C at_146 rfl rfl rfl (by decide) ?_
              refine g_aload (pc' := 151) C at_149 rfl rfl rfl ?_
              refine g_virtual (y := (⟨"com/example/triplecore/triplecore/query/PatternQueue", "poll", "()I"⟩ : MethodName)) (a := a1) (pc' := 154) (k' := 4) (n' := 13) (S := []) (as := []) C at_151 rfl (hw _ (List.mem_of_getElem? (i := 48) rfl)) (hw _ (List.mem_of_getElem? (i := 50) rfl)) (hw _ (List.mem_of_getElem? (i := 2) rfl)) (hw _ (List.mem_of_getElem? (i := 52) rfl)) (hw _ (List.mem_of_getElem? (i := 49) rfl)) (hw _ (List.mem_of_getElem? (i := 51) rfl)) (by decide) B.exa (lenOf pd_6 rfl) (con_poll_G_2 W.l Z a0 hw a1 b1 b2 b3 q01 q02 q03 q12 q13 q23 h42 B) rfl rfl (Nat.le_of_ble_eq_true rfl) (Nat.le_of_ble_eq_true rfl) rfl rfl (Nat.le_of_ble_eq_true rfl) (Nat.le_of_ble_eq_true rfl) (allS w_a1 (allS w_b1 (allS w_b2 all0))) fun vh43 h43 qh43 Kh43 => ?_
              rcases qh43 with ⟨rfl, B⟩
              ·
                show Go W Q h43 4 13 154 #[.val (.int p0), .val (.int p1), .val (.int p2), .val (.int p3), .val (.int p4), .val (.ref a1), .val (.int (1 : Int32)), .val (.int (1 : Int32)), .val (.int (1 : Int32)), .val (.int (3 : Int32)), .val (.int (3 : Int32)), .val (.int (1 : Int32)), .val (.int (0 : Int32)), .val (.int (-1 : Int32)), .unset, .unset, .unset] [(.int (2 : Int32))]
                refine g_istore (pc' := 156) (L' := #[.val (.int p0), .val (.int p1), .val (.int p2), .val (.int p3), .val (.int p4), .val (.ref a1), .val (.int (1 : Int32)), .val (.int (1 : Int32)), .val (.int (1 : Int32)), .val (.int (3 : Int32)), .val (.int (3 : Int32)), .val (.int (1 : Int32)), .val (.int (0 : Int32)), .val (.int (2 : Int32)), .unset, .unset, .unset]) C at_154 rfl rfl ?_
                refine g_iload (pc' := 158) C at_156 rfl rfl ?_
                refine g_ifN (xi := 1) (pc2 := 161) C at_158 rfl rfl (by decide) ?_
                refine g_iload (pc' := 163) C at_161 rfl rfl ?_
                refine g_ifN (xi := 1) (pc2 := 166) C at_163 rfl rfl (by decide) ?_
                refine g_iload (pc' := 168) C at_166 rfl rfl ?_
                refine g_ifY (xi := 0) (pc1 := 180) C at_168 (by decide) rfl rfl (by decide) ?_
                refine g_iconst (pc' := 181) (z := (0 : Int32)) C at_180 rfl rfl ?_
                refine g_istore (pc' := 183) (L' := #[.val (.int p0), .val (.int p1), .val (.int p2), .val (.int p3), .val (.int p4), .val (.ref a1), .val (.int (1 : Int32)), .val (.int (1 : Int32)), .val (.int (1 : Int32)), .val (.int (3 : Int32)), .val (.int (3 : Int32)), .val (.int (1 : Int32)), .val (.int (0 : Int32)), .val (.int (2 : Int32)), .val (.int (0 : Int32)), .unset, .unset]) C at_181 rfl rfl ?_
                refine g_iload (pc' := 185) C at_183 rfl rfl ?_
                refine g_ifN (xi := 1) (pc2 := 188) C at_185 rfl rfl (by decide) ?_
                refine g_iload (pc' := 190) C at_188 rfl rfl ?_
                refine g_iconst (pc' := 191) (z := (1 : Int32)) C at_190 rfl rfl ?_
                refine g_icmpY (xi := 1) (yi := 1) (pc1 := 210) C at_191 (by decide) rfl rfl rfl (by decide) ?_
                refine g_iconst (pc' := 211) (z := (0 : Int32)) C at_210 rfl rfl ?_
                refine g_istore (pc' := 213) (L' := #[.val (.int p0), .val (.int p1), .val (.int p2), .val (.int p3), .val (.int p4), .val (.ref a1), .val (.int (1 : Int32)), .val (.int (1 : Int32)), .val (.int (1 : Int32)), .val (.int (3 : Int32)), .val (.int (3 : Int32)), .val (.int (1 : Int32)), .val (.int (0 : Int32)), .val (.int (2 : Int32)), .val (.int (0 : Int32)), .val (.int (0 : Int32)), .unset]) C at_211 rfl rfl ?_
                refine g_iload (pc' := 215) C at_213 rfl rfl ?_
                refine g_ifN (xi := 1) (pc2 := 218) C at_215 rfl rfl (by decide) ?_
                refine g_iload (pc' := 220) C at_218 rfl rfl ?_
                refine g_iconst (pc' := 221) (z := (2 : Int32)) C at_220 rfl rfl ?_
                refine g_icmpN (xi := 1) (yi := 2) (pc2 := 224) C at_221 rfl rfl rfl (by decide) ?_
                refine g_iload (pc' := 226) C at_224 rfl rfl ?_
                refine g_iconst (pc' := 227) (z := (2 : Int32)) C at_226 rfl rfl ?_
                refine g_icmpN (xi := 0) (yi := 2) (pc2 := 230) C at_227 rfl rfl rfl (by decide) ?_
                refine g_iload (pc' := 232) C at_230 rfl rfl ?_
                refine g_iconst (pc' := 233) (z := (2 : Int32)) C at_232 rfl rfl ?_
                refine g_icmpY (xi := 2) (yi := 2) (pc1 := 240) C at_233 (by decide) rfl rfl rfl (by decide) ?_
                refine g_iconst (pc' := 241) (z := (0 : Int32)) C at_240 rfl rfl ?_
                refine g_istore (pc' := 243) (L' := #[.val (.int p0), .val (.int p1), .val (.int p2), .val (.int p3), .val (.int p4), .val (.ref a1), .val (.int (1 : Int32)), .val (.int (1 : Int32)), .val (.int (1 : Int32)), .val (.int (3 : Int32)), .val (.int (3 : Int32)), .val (.int (1 : Int32)), .val (.int (0 : Int32)), .val (.int (2 : Int32)), .val (.int (0 : Int32)), .val (.int (0 : Int32)), .val (.int (0 : Int32))]) C at_241 rfl rfl ?_
                refine g_aload (pc' := 245) C at_243 rfl rfl rfl ?_
                refine g_iconst (pc' := 246) (z := (0 : Int32)) C at_245 rfl rfl ?_
                obtain ⟨x0, x1, x2, l0, l1, l2, c0, c1, c2, g, O, A1, A2, A3⟩ := B
                have gs : l0.toInt < 0 ∧ l1.toInt < 0 ∧ l2.toInt < 0 := by
                  rcases g with ⟨rfl, rfl, rfl⟩ <;> decide
                refine g_virtualP (y := (⟨"com/example/triplecore/triplecore/query/PatternQueue", "contains", "(I)Z"⟩ : MethodName)) (a := a1) (pc' := 249) (k' := 4) (n' := 13) (S := []) (as := [(.int (0 : Int32))]) C at_246 rfl (hw _ (List.mem_of_getElem? (i := 24) rfl)) (hw _ (List.mem_of_getElem? (i := 26) rfl)) (hw _ (List.mem_of_getElem? (i := 2) rfl)) (hw _ (List.mem_of_getElem? (i := 28) rfl)) (hw _ (List.mem_of_getElem? (i := 25) rfl)) (hw _ (List.mem_of_getElem? (i := 27) rfl)) (by decide) O.1 (lenOf pd_5 rfl) (con_has0 W.l Z a0 hw a1 b1 b2 b3 (0 : Int32) (0 : Int32) l0 0 _ rfl rfl gs.1 h43 O A2) rfl rfl (Nat.le_of_ble_eq_true rfl) (Nat.le_of_ble_eq_true rfl) rfl rfl (Nat.le_of_ble_eq_true rfl) (Nat.le_of_ble_eq_true rfl) (S1 := [(.int (0 : Int32))]) rfl ?_
                refine g_iload (pc' := 251) C at_249 rfl rfl ?_
                refine g_icmpN (xi := 0) (yi := 0) (pc2 := 254) C at_251 rfl rfl rfl (by decide) ?_
                refine g_aload (pc' := 256) C at_254 rfl rfl rfl ?_
                refine g_iconst (pc' := 257) (z := (1 : Int32)) C at_256 rfl rfl ?_
                refine g_virtualP (y := (⟨"com/example/triplecore/triplecore/query/PatternQueue", "contains", "(I)Z"⟩ : MethodName)) (a := a1) (pc' := 260) (k' := 4) (n' := 13) (S := []) (as := [(.int (1 : Int32))]) C at_257 rfl (hw _ (List.mem_of_getElem? (i := 24) rfl)) (hw _ (List.mem_of_getElem? (i := 26) rfl)) (hw _ (List.mem_of_getElem? (i := 2) rfl)) (hw _ (List.mem_of_getElem? (i := 28) rfl)) (hw _ (List.mem_of_getElem? (i := 25) rfl)) (hw _ (List.mem_of_getElem? (i := 27) rfl)) (by decide) O.1 (lenOf pd_5 rfl) (con_has0 W.l Z a0 hw a1 b1 b2 b3 (0 : Int32) (1 : Int32) l1 1 _ rfl rfl gs.2.1 h43 O A2) rfl rfl (Nat.le_of_ble_eq_true rfl) (Nat.le_of_ble_eq_true rfl) rfl rfl (Nat.le_of_ble_eq_true rfl) (Nat.le_of_ble_eq_true rfl) (S1 := [(.int (0 : Int32))]) rfl ?_
                refine g_iload (pc' := 262) C at_260 rfl rfl ?_
                refine g_icmpN (xi := 0) (yi := 0) (pc2 := 265) C at_262 rfl rfl rfl (by decide) ?_
                refine g_aload (pc' := 267) C at_265 rfl rfl rfl ?_
                refine g_iconst (pc' := 268) (z := (2 : Int32)) C at_267 rfl rfl ?_
                refine g_virtualP (y := (⟨"com/example/triplecore/triplecore/query/PatternQueue", "contains", "(I)Z"⟩ : MethodName)) (a := a1) (pc' := 271) (k' := 4) (n' := 13) (S := []) (as := [(.int (2 : Int32))]) C at_268 rfl (hw _ (List.mem_of_getElem? (i := 24) rfl)) (hw _ (List.mem_of_getElem? (i := 26) rfl)) (hw _ (List.mem_of_getElem? (i := 2) rfl)) (hw _ (List.mem_of_getElem? (i := 28) rfl)) (hw _ (List.mem_of_getElem? (i := 25) rfl)) (hw _ (List.mem_of_getElem? (i := 27) rfl)) (by decide) O.1 (lenOf pd_5 rfl) (con_has0 W.l Z a0 hw a1 b1 b2 b3 (0 : Int32) (2 : Int32) l2 2 _ rfl rfl gs.2.2 h43 O A2) rfl rfl (Nat.le_of_ble_eq_true rfl) (Nat.le_of_ble_eq_true rfl) rfl rfl (Nat.le_of_ble_eq_true rfl) (Nat.le_of_ble_eq_true rfl) (S1 := [(.int (0 : Int32))]) rfl ?_
                refine g_iload (pc' := 273) C at_271 rfl rfl ?_
                refine g_icmpN (xi := 0) (yi := 0) (pc2 := 276) C at_273 rfl rfl rfl (by decide) ?_
                refine g_iconst (pc' := 277) (z := (1 : Int32)) C at_276 rfl rfl ?_
                refine g_goto C at_277 (by decide) (pc' := 281) rfl ?_
                refine g_retN C (by simp) at_281 (by decide) (by decide) ?_
                subst hQ
                rfl
            ·
              show Go W Q h42 4 13 141 #[.val (.int p0), .val (.int p1), .val (.int p2), .val (.int p3), .val (.int p4), .val (.ref a1), .val (.int (1 : Int32)), .val (.int (1 : Int32)), .val (.int (1 : Int32)), .val (.int (3 : Int32)), .val (.int (3 : Int32)), .val (.int (1 : Int32)), .val (.int (-1 : Int32)), .val (.int (-1 : Int32)), .unset, .unset, .unset] [(.int (2 : Int32))]
              refine g_istore (pc' := 143) (L' := #[.val (.int p0), .val (.int p1), .val (.int p2), .val (.int p3), .val (.int p4), .val (.ref a1), .val (.int (1 : Int32)), .val (.int (1 : Int32)), .val (.int (1 : Int32)), .val (.int (3 : Int32)), .val (.int (3 : Int32)), .val (.int (1 : Int32)), .val (.int (2 : Int32)), .val (.int (-1 : Int32)), .unset, .unset, .unset]) C at_141 rfl rfl ?_
              refine g_iload (pc' := 145) C at_143 rfl rfl ?_
              refine g_iconst (pc' := 146) (z := (3 : Int32)) C at_145 rfl rfl ?_
              refine g_icmpN (xi := 3) (yi := 3) (pc2 := 149) C at_146 rfl rfl rfl (by decide) ?_
              refine g_aload (pc' := 151) C at_149 rfl rfl rfl ?_
              refine g_virtual (y := (⟨"com/example/triplecore/triplecore/query/PatternQueue", "poll", "()I"⟩ : MethodName)) (a := a1) (pc' := 154) (k' := 4) (n' := 13) (S := []) (as := []) C at_151 rfl (hw _ (List.mem_of_getElem? (i := 48) rfl)) (hw _ (List.mem_of_getElem? (i := 50) rfl)) (hw _ (List.mem_of_getElem? (i := 2) rfl)) (hw _ (List.mem_of_getElem? (i := 52) rfl)) (hw _ (List.mem_of_getElem? (i := 49) rfl)) (hw _ (List.mem_of_getElem? (i := 51) rfl)) (by decide) B.exa (lenOf pd_6 rfl) (con_poll_G_0 W.l Z a0 hw a1 b1 b2 b3 q01 q02 q03 q12 q13 q23 h42 B) rfl rfl (Nat.le_of_ble_eq_true rfl) (Nat.le_of_ble_eq_true rfl) rfl rfl (Nat.le_of_ble_eq_true rfl) (Nat.le_of_ble_eq_true rfl) (allS w_a1 (allS w_b1 (allS w_b2 all0))) fun vh44 h44 qh44 Kh44 => ?_
              rcases qh44 with ⟨rfl, B⟩
              ·
                show Go W Q h44 4 13 154 #[.val (.int p0), .val (.int p1), .val (.int p2), .val (.int p3), .val (.int p4), .val (.ref a1), .val (.int (1 : Int32)), .val (.int (1 : Int32)), .val (.int (1 : Int32)), .val (.int (3 : Int32)), .val (.int (3 : Int32)), .val (.int (1 : Int32)), .val (.int (2 : Int32)), .val (.int (-1 : Int32)), .unset, .unset, .unset] [(.int (0 : Int32))]
                refine g_istore (pc' := 156) (L' := #[.val (.int p0), .val (.int p1), .val (.int p2), .val (.int p3), .val (.int p4), .val (.ref a1), .val (.int (1 : Int32)), .val (.int (1 : Int32)), .val (.int (1 : Int32)), .val (.int (3 : Int32)), .val (.int (3 : Int32)), .val (.int (1 : Int32)), .val (.int (2 : Int32)), .val (.int (0 : Int32)), .unset, .unset, .unset]) C at_154 rfl rfl ?_
                refine g_iload (pc' := 158) C at_156 rfl rfl ?_
                refine g_ifN (xi := 1) (pc2 := 161) C at_158 rfl rfl (by decide) ?_
                refine g_iload (pc' := 163) C at_161 rfl rfl ?_
                refine g_ifN (xi := 1) (pc2 := 166) C at_163 rfl rfl (by decide) ?_
                refine g_iload (pc' := 168) C at_166 rfl rfl ?_
                refine g_ifN (xi := 2) (pc2 := 171) C at_168 rfl rfl (by decide) ?_
                refine g_iload (pc' := 173) C at_171 rfl rfl ?_
                refine g_ifY (xi := 0) (pc1 := 180) C at_173 (by decide) rfl rfl (by decide) ?_
                refine g_iconst (pc' := 181) (z := (0 : Int32)) C at_180 rfl rfl ?_
                refine g_istore (pc' := 183) (L' := #[.val (.int p0), .val (.int p1), .val (.int p2), .val (.int p3), .val (.int p4), .val (.ref a1), .val (.int (1 : Int32)), .val (.int (1 : Int32)), .val (.int (1 : Int32)), .val (.int (3 : Int32)), .val (.int (3 : Int32)), .val (.int (1 : Int32)), .val (.int (2 : Int32)), .val (.int (0 : Int32)), .val (.int (0 : Int32)), .unset, .unset]) C at_181 rfl rfl ?_
                refine g_iload (pc' := 185) C at_183 rfl rfl ?_
                refine g_ifN (xi := 1) (pc2 := 188) C at_185 rfl rfl (by decide) ?_
                refine g_iload (pc' := 190) C at_188 rfl rfl ?_
                refine g_iconst (pc' := 191) (z := (1 : Int32)) C at_190 rfl rfl ?_
                refine g_icmpY (xi := 1) (yi := 1) (pc1 := 210) C at_191 (by decide) rfl rfl rfl (by decide) ?_
                refine g_iconst (pc' := 211) (z := (0 : Int32)) C at_210 rfl rfl ?_
                refine g_istore (pc' := 213) (L' := #[.val (.int p0), .val (.int p1), .val (.int p2), .val (.int p3), .val (.int p4), .val (.ref a1), .val (.int (1 : Int32)), .val (.int (1 : Int32)), .val (.int (1 : Int32)), .val (.int (3 : Int32)), .val (.int (3 : Int32)), .val (.int (1 : Int32)), .val (.int (2 : Int32)), .val (.int (0 : Int32)), .val (.int (0 : Int32)), .val (.int (0 : Int32)), .unset]) C at_211 rfl rfl ?_
                refine g_iload (pc' := 215) C at_213 rfl rfl ?_
                refine g_ifN (xi := 1) (pc2 := 218) C at_215 rfl rfl (by decide) ?_
                refine g_iload (pc' := 220) C at_218 rfl rfl ?_
                refine g_iconst (pc' := 221) (z := (2 : Int32)) C at_220 rfl rfl ?_
                refine g_icmpN (xi := 1) (yi := 2) (pc2 := 224) C at_221 rfl rfl rfl (by decide) ?_
                refine g_iload (pc' := 226) C at_224 rfl rfl ?_
                refine g_iconst (pc' := 227) (z := (2 : Int32)) C at_226 rfl rfl ?_
                refine g_icmpY (xi := 2) (yi := 2) (pc1 := 240) C at_227 (by decide) rfl rfl rfl (by decide) ?_
                refine g_iconst (pc' := 241) (z := (0 : Int32)) C at_240 rfl rfl ?_
                refine g_istore (pc' := 243) (L' := #[.val (.int p0), .val (.int p1), .val (.int p2), .val (.int p3), .val (.int p4), .val (.ref a1), .val (.int (1 : Int32)), .val (.int (1 : Int32)), .val (.int (1 : Int32)), .val (.int (3 : Int32)), .val (.int (3 : Int32)), .val (.int (1 : Int32)), .val (.int (2 : Int32)), .val (.int (0 : Int32)), .val (.int (0 : Int32)), .val (.int (0 : Int32)), .val (.int (0 : Int32))]) C at_241 rfl rfl ?_
                refine g_aload (pc' := 245) C at_243 rfl rfl rfl ?_
                refine g_iconst (pc' := 246) (z := (0 : Int32)) C at_245 rfl rfl ?_
                obtain ⟨x0, x1, x2, l0, l1, l2, c0, c1, c2, g, O, A1, A2, A3⟩ := B
                have gs : l0.toInt < 0 ∧ l1.toInt < 0 ∧ l2.toInt < 0 := by
                  rcases g with ⟨rfl, rfl, rfl⟩ <;> decide
                refine g_virtualP (y := (⟨"com/example/triplecore/triplecore/query/PatternQueue", "contains", "(I)Z"⟩ : MethodName)) (a := a1) (pc' := 249) (k' := 4) (n' := 13) (S := []) (as := [(.int (0 : Int32))]) C at_246 rfl (hw _ (List.mem_of_getElem? (i := 24) rfl)) (hw _ (List.mem_of_getElem? (i := 26) rfl)) (hw _ (List.mem_of_getElem? (i := 2) rfl)) (hw _ (List.mem_of_getElem? (i := 28) rfl)) (hw _ (List.mem_of_getElem? (i := 25) rfl)) (hw _ (List.mem_of_getElem? (i := 27) rfl)) (by decide) O.1 (lenOf pd_5 rfl) (con_has0 W.l Z a0 hw a1 b1 b2 b3 (0 : Int32) (0 : Int32) l0 0 _ rfl rfl gs.1 h44 O A2) rfl rfl (Nat.le_of_ble_eq_true rfl) (Nat.le_of_ble_eq_true rfl) rfl rfl (Nat.le_of_ble_eq_true rfl) (Nat.le_of_ble_eq_true rfl) (S1 := [(.int (0 : Int32))]) rfl ?_
                refine g_iload (pc' := 251) C at_249 rfl rfl ?_
                refine g_icmpN (xi := 0) (yi := 0) (pc2 := 254) C at_251 rfl rfl rfl (by decide) ?_
                refine g_aload (pc' := 256) C at_254 rfl rfl rfl ?_
                refine g_iconst (pc' := 257) (z := (1 : Int32)) C at_256 rfl rfl ?_
                refine g_virtualP (y := (⟨"com/example/triplecore/triplecore/query/PatternQueue", "contains", "(I)Z"⟩ : MethodName)) (a := a1) (pc' := 260) (k' := 4) (n' := 13) (S := []) (as := [(.int (1 : Int32))]) C at_257 rfl (hw _ (List.mem_of_getElem? (i := 24) rfl)) (hw _ (List.mem_of_getElem? (i := 26) rfl)) (hw _ (List.mem_of_getElem? (i := 2) rfl)) (hw _ (List.mem_of_getElem? (i := 28) rfl)) (hw _ (List.mem_of_getElem? (i := 25) rfl)) (hw _ (List.mem_of_getElem? (i := 27) rfl)) (by decide) O.1 (lenOf pd_5 rfl) (con_has0 W.l Z a0 hw a1 b1 b2 b3 (0 : Int32) (1 : Int32) l1 1 _ rfl rfl gs.2.1 h44 O A2) rfl rfl (Nat.le_of_ble_eq_true rfl) (Nat.le_of_ble_eq_true rfl) rfl rfl (Nat.le_of_ble_eq_true rfl) (Nat.le_of_ble_eq_true rfl) (S1 := [(.int (0 : Int32))]) rfl ?_
                refine g_iload (pc' := 262) C at_260 rfl rfl ?_
                refine g_icmpN (xi := 0) (yi := 0) (pc2 := 265) C at_262 rfl rfl rfl (by decide) ?_
                refine g_aload (pc' := 267) C at_265 rfl rfl rfl ?_
                refine g_iconst (pc' := 268) (z := (2 : Int32)) C at_267 rfl rfl ?_
                refine g_virtualP (y := (⟨"com/example/triplecore/triplecore/query/PatternQueue", "contains", "(I)Z"⟩ : MethodName)) (a := a1) (pc' := 271) (k' := 4) (n' := 13) (S := []) (as := [(.int (2 : Int32))]) C at_268 rfl (hw _ (List.mem_of_getElem? (i := 24) rfl)) (hw _ (List.mem_of_getElem? (i := 26) rfl)) (hw _ (List.mem_of_getElem? (i := 2) rfl)) (hw _ (List.mem_of_getElem? (i := 28) rfl)) (hw _ (List.mem_of_getElem? (i := 25) rfl)) (hw _ (List.mem_of_getElem? (i := 27) rfl)) (by decide) O.1 (lenOf pd_5 rfl) (con_has0 W.l Z a0 hw a1 b1 b2 b3 (0 : Int32) (2 : Int32) l2 2 _ rfl rfl gs.2.2 h44 O A2) rfl rfl (Nat.le_of_ble_eq_true rfl) (Nat.le_of_ble_eq_true rfl) rfl rfl (Nat.le_of_ble_eq_true rfl) (Nat.le_of_ble_eq_true rfl) (S1 := [(.int (0 : Int32))]) rfl ?_
                refine g_iload (pc' := 273) C at_271 rfl rfl ?_
                refine g_icmpN (xi := 0) (yi := 0) (pc2 := 276) C at_273 rfl rfl rfl (by decide) ?_
                refine g_iconst (pc' := 277) (z := (1 : Int32)) C at_276 rfl rfl ?_
                refine g_goto C at_277 (by decide) (pc' := 281) rfl ?_
                refine g_retN C (by simp) at_281 (by decide) (by decide) ?_
                subst hQ
                rfl
          ·
            show Go W Q h38 4 13 128 #[.val (.int p0), .val (.int p1), .val (.int p2), .val (.int p3), .val (.int p4), .val (.ref a1), .val (.int (1 : Int32)), .val (.int (1 : Int32)), .val (.int (1 : Int32)), .val (.int (3 : Int32)), .val (.int (3 : Int32)), .val (.int (-1 : Int32)), .val (.int (-1 : Int32)), .val (.int (-1 : Int32)), .unset, .unset, .unset] [(.int (2 : Int32))]
            refine g_istore (pc' := 130) (L' := #[.val (.int p0), .val (.int p1), .val (.int p2), .val (.int p3), .val (.int p4), .val (.ref a1), .val (.int (1 : Int32)), .val (.int (1 : Int32)), .val (.int (1 : Int32)), .val (.int (3 : Int32)), .val (.int (3 : Int32)), .val (.int (2 : Int32)), .val (.int (-1 : Int32)), .val (.int (-1 : Int32)), .unset, .unset, .unset]) C at_128 rfl rfl ?_
            refine g_iload (pc' := 132) C at_130 rfl rfl ?_
            refine g_iconst (pc' := 133) (z := (2 : Int32)) C at_132 rfl rfl ?_
            refine g_icmpN (xi := 3) (yi := 2) (pc2 := 136) C at_133 rfl rfl rfl (by decide) ?_
            refine g_aload (pc' := 138) C at_136 rfl rfl rfl ?_
            refine g_virtual (y := (⟨"com/example/triplecore/triplecore/query/PatternQueue", "poll", "()I"⟩ : MethodName)) (a := a1) (pc' := 141) (k' := 4) (n' := 13) (S := []) (as := []) C at_138 rfl (hw _ (List.mem_of_getElem? (i := 48) rfl)) (hw _ (List.mem_of_getElem? (i := 50) rfl)) (hw _ (List.mem_of_getElem? (i := 2) rfl)) (hw _ (List.mem_of_getElem? (i := 52) rfl)) (hw _ (List.mem_of_getElem? (i := 49) rfl)) (hw _ (List.mem_of_getElem? (i := 51) rfl)) (by decide) B.exa (lenOf pd_6 rfl) (con_poll_G_01 W.l Z a0 hw a1 b1 b2 b3 q01 q02 q03 q12 q13 q23 h38 B) rfl rfl (Nat.le_of_ble_eq_true rfl) (Nat.le_of_ble_eq_true rfl) rfl rfl (Nat.le_of_ble_eq_true rfl) (Nat.le_of_ble_eq_true rfl) (allS w_a1 (allS w_b1 (allS w_b2 all0))) fun vh45 h45 qh45 Kh45 => ?_
            rcases qh45 with ⟨rfl, B⟩ | ⟨rfl, B⟩
            ·
              show Go W Q h45 4 13 141 #[.val (.int p0), .val (.int p1), .val (.int p2), .val (.int p3), .val (.int p4), .val (.ref a1), .val (.int (1 : Int32)), .val (.int (1 : Int32)), .val (.int (1 : Int32)), .val (.int (3 : Int32)), .val (.int (3 : Int32)), .val (.int (2 : Int32)), .val (.int (-1 : Int32)), .val (.int (-1 : Int32)), .unset, .unset, .unset] [(.int (0 : Int32))]
              refine g_istore (pc' := 143) (L' := #[.val (.int p0), .val (.int p1), .val (.int p2), .val (.int p3), .val (.int p4), .val (.ref a1), .val (.int (1 : Int32)), .val (.int (1 : Int32)), .val (.int (1 : Int32)), .val (.int (3 : Int32)), .val (.int (3 : Int32)), .val (.int (2 : Int32)), .val (.int (0 : Int32)), .val (.int (-1 : Int32)), .unset, .unset, .unset]) C at_141 rfl rfl ?_
              refine g_iload (pc' := 145) C at_143 rfl rfl ?_
              refine g_iconst (pc' := 146) (z := (3 : Int32)) C at_145 rfl rfl ?_
              refine g_icmpN (xi := 3) (yi := 3) (pc2 := 149) C at_146 rfl rfl rfl (by decide) ?_
              refine g_aload (pc' := 151) C at_149 rfl rfl rfl ?_
              refine g_virtual (y := (⟨"com/example/triplecore/triplecore/query/PatternQueue", "poll", "()I"⟩ : MethodName)) (a := a1) (pc' := 154) (k' := 4) (n' := 13) (S := []) (as := []) C at_151 rfl (hw _ (List.mem_of_getElem? (i := 48) rfl)) (hw _ (List.mem_of_getElem? (i := 50) rfl)) (hw _ (List.mem_of_getElem? (i := 2) rfl)) (hw _ (List.mem_of_getElem? (i := 52) rfl)) (hw _ (List.mem_of_getElem? (i := 49) rfl)) (hw _ (List.mem_of_getElem? (i := 51) rfl)) (by decide) B.exa (lenOf pd_6 rfl) (con_poll_G_1 W.l Z a0 hw a1 b1 b2 b3 q01 q02 q03 q12 q13 q23 h45 B) rfl rfl (Nat.le_of_ble_eq_true rfl) (Nat.le_of_ble_eq_true rfl) rfl rfl (Nat.le_of_ble_eq_true rfl) (Nat.le_of_ble_eq_true rfl) (allS w_a1 (allS w_b1 (allS w_b2 all0))) fun vh46 h46 qh46 Kh46 => ?_
              rcases qh46 with ⟨rfl, B⟩
              ·
                show Go W Q h46 4 13 154 #[.val (.int p0), .val (.int p1), .val (.int p2), .val (.int p3), .val (.int p4), .val (.ref a1), .val (.int (1 : Int32)), .val (.int (1 : Int32)), .val (.int (1 : Int32)), .val (.int (3 : Int32)), .val (.int (3 : Int32)), .val (.int (2 : Int32)), .val (.int (0 : Int32)), .val (.int (-1 : Int32)), .unset, .unset, .unset] [(.int (1 : Int32))]
                refine g_istore (pc' := 156) (L' := #[.val (.int p0), .val (.int p1), .val (.int p2), .val (.int p3), .val (.int p4), .val (.ref a1), .val (.int (1 : Int32)), .val (.int (1 : Int32)), .val (.int (1 : Int32)), .val (.int (3 : Int32)), .val (.int (3 : Int32)), .val (.int (2 : Int32)), .val (.int (0 : Int32)), .val (.int (1 : Int32)), .unset, .unset, .unset]) C at_154 rfl rfl ?_
                refine g_iload (pc' := 158) C at_156 rfl rfl ?_
                refine g_ifN (xi := 1) (pc2 := 161) C at_158 rfl rfl (by decide) ?_
                refine g_iload (pc' := 163) C at_161 rfl rfl ?_
                refine g_ifN (xi := 2) (pc2 := 166) C at_163 rfl rfl (by decide) ?_
                refine g_iload (pc' := 168) C at_166 rfl rfl ?_
                refine g_ifY (xi := 0) (pc1 := 180) C at_168 (by decide) rfl rfl (by decide) ?_
                refine g_iconst (pc' := 181) (z := (0 : Int32)) C at_180 rfl rfl ?_
                refine g_istore (pc' := 183) (L' := #[.val (.int p0), .val (.int p1), .val (.int p2), .val (.int p3), .val (.int p4), .val (.ref a1), .val (.int (1 : Int32)), .val (.int (1 : Int32)), .val (.int (1 : Int32)), .val (.int (3 : Int32)), .val (.int (3 : Int32)), .val (.int (2 : Int32)), .val (.int (0 : Int32)), .val (.int (1 : Int32)), .val (.int (0 : Int32)), .unset, .unset]) C at_181 rfl rfl ?_
                refine g_iload (pc' := 185) C at_183 rfl rfl ?_
                refine g_ifN (xi := 1) (pc2 := 188) C at_185 rfl rfl (by decide) ?_
                refine g_iload (pc' := 190) C at_188 rfl rfl ?_
                refine g_iconst (pc' := 191) (z := (1 : Int32)) C at_190 rfl rfl ?_
                refine g_icmpN (xi := 2) (yi := 1) (pc2 := 194) C at_191 rfl rfl rfl (by decide) ?_
                refine g_iload (pc' := 196) C at_194 rfl rfl ?_
                refine g_iconst (pc' := 197) (z := (1 : Int32)) C at_196 rfl rfl ?_
                refine g_icmpN (xi := 0) (yi := 1) (pc2 := 200) C at_197 rfl rfl rfl (by decide) ?_
                refine g_iload (pc' := 202) C at_200 rfl rfl ?_
                refine g_iconst (pc' := 203) (z := (1 : Int32)) C at_202 rfl rfl ?_
                refine g_icmpY (xi := 1) (yi := 1) (pc1 := 210) C at_203 (by decide) rfl rfl rfl (by decide) ?_
                refine g_iconst (pc' := 211) (z := (0 : Int32)) C at_210 rfl rfl ?_
                refine g_istore (pc' := 213) (L' := #[.val (.int p0), .val (.int p1), .val (.int p2), .val (.int p3), .val (.int p4), .val (.ref a1), .val (.int (1 : Int32)), .val (.int (1 : Int32)), .val (.int (1 : Int32)), .val (.int (3 : Int32)), .val (.int (3 : Int32)), .val (.int (2 : Int32)), .val (.int (0 : Int32)), .val (.int (1 : Int32)), .val (.int (0 : Int32)), .val (.int (0 : Int32)), .unset]) C at_211 rfl rfl ?_
                refine g_iload (pc' := 215) C at_213 rfl rfl ?_
                refine g_ifN (xi := 1) (pc2 := 218) C at_215 rfl rfl (by decide) ?_
                refine g_iload (pc' := 220) C at_218 rfl rfl ?_
                refine g_iconst (pc' := 221) (z := (2 : Int32)) C at_220 rfl rfl ?_
                refine g_icmpY (xi := 2) (yi := 2) (pc1 := 240) C at_221 (by decide) rfl rfl rfl (by decide) ?_
                refine g_iconst (pc' := 241) (z := (0 : Int32)) C at_240 rfl rfl ?_
                refine g_istore (pc' := 243) (L' := #[.val (.int p0), .val (.int p1), .val (.int p2), .val (.int p3), .val (.int p4), .val (.ref a1), .val (.int (1 : Int32)), .val (.int (1 : Int32)), .val (.int (1 : Int32)), .val (.int (3 : Int32)), .val (.int (3 : Int32)), .val (.int (2 : Int32)), .val (.int (0 : Int32)), .val (.int (1 : Int32)), .val (.int (0 : Int32)), .val (.int (0 : Int32)), .val (.int (0 : Int32))]) C at_241 rfl rfl ?_
                refine g_aload (pc' := 245) C at_243 rfl rfl rfl ?_
                refine g_iconst (pc' := 246) (z := (0 : Int32)) C at_245 rfl rfl ?_
                obtain ⟨x0, x1, x2, l0, l1, l2, c0, c1, c2, g, O, A1, A2, A3⟩ := B
                have gs : l0.toInt < 0 ∧ l1.toInt < 0 ∧ l2.toInt < 0 := by
                  rcases g with ⟨rfl, rfl, rfl⟩ <;> decide
                refine g_virtualP (y := (⟨"com/example/triplecore/triplecore/query/PatternQueue", "contains", "(I)Z"⟩ : MethodName)) (a := a1) (pc' := 249) (k' := 4) (n' := 13) (S := []) (as := [(.int (0 : Int32))]) C at_246 rfl (hw _ (List.mem_of_getElem? (i := 24) rfl)) (hw _ (List.mem_of_getElem? (i := 26) rfl)) (hw _ (List.mem_of_getElem? (i := 2) rfl)) (hw _ (List.mem_of_getElem? (i := 28) rfl)) (hw _ (List.mem_of_getElem? (i := 25) rfl)) (hw _ (List.mem_of_getElem? (i := 27) rfl)) (by decide) O.1 (lenOf pd_5 rfl) (con_has0 W.l Z a0 hw a1 b1 b2 b3 (0 : Int32) (0 : Int32) l0 0 _ rfl rfl gs.1 h46 O A2) rfl rfl (Nat.le_of_ble_eq_true rfl) (Nat.le_of_ble_eq_true rfl) rfl rfl (Nat.le_of_ble_eq_true rfl) (Nat.le_of_ble_eq_true rfl) (S1 := [(.int (0 : Int32))]) rfl ?_
                refine g_iload (pc' := 251) C at_249 rfl rfl ?_
                refine g_icmpN (xi := 0) (yi := 0) (pc2 := 254) C at_251 rfl rfl rfl (by decide) ?_
                refine g_aload (pc' := 256) C at_254 rfl rfl rfl ?_
                refine g_iconst (pc' := 257) (z := (1 : Int32)) C at_256 rfl rfl ?_
                refine g_virtualP (y := (⟨"com/example/triplecore/triplecore/query/PatternQueue", "contains", "(I)Z"⟩ : MethodName)) (a := a1) (pc' := 260) (k' := 4) (n' := 13) (S := []) (as := [(.int (1 : Int32))]) C at_257 rfl (hw _ (List.mem_of_getElem? (i := 24) rfl)) (hw _ (List.mem_of_getElem? (i := 26) rfl)) (hw _ (List.mem_of_getElem? (i := 2) rfl)) (hw _ (List.mem_of_getElem? (i := 28) rfl)) (hw _ (List.mem_of_getElem? (i := 25) rfl)) (hw _ (List.mem_of_getElem? (i := 27) rfl)) (by decide) O.1 (lenOf pd_5 rfl) (con_has0 W.l Z a0 hw a1 b1 b2 b3 (0 : Int32) (1 : Int32) l1 1 _ rfl rfl gs.2.1 h46 O A2) rfl rfl (Nat.le_of_ble_eq_true rfl) (Nat.le_of_ble_eq_true rfl) rfl rfl (Nat.le_of_ble_eq_true rfl) (Nat.le_of_ble_eq_true rfl) (S1 := [(.int (0 : Int32))]) rfl ?_
                refine g_iload (pc' := 262) C at_260 rfl rfl ?_
                refine g_icmpN (xi := 0) (yi := 0) (pc2 := 265) C at_262 rfl rfl rfl (by decide) ?_
                refine g_aload (pc' := 267) C at_265 rfl rfl rfl ?_
                refine g_iconst (pc' := 268) (z := (2 : Int32)) C at_267 rfl rfl ?_
                refine g_virtualP (y := (⟨"com/example/triplecore/triplecore/query/PatternQueue", "contains", "(I)Z"⟩ : MethodName)) (a := a1) (pc' := 271) (k' := 4) (n' := 13) (S := []) (as := [(.int (2 : Int32))]) C at_268 rfl (hw _ (List.mem_of_getElem? (i := 24) rfl)) (hw _ (List.mem_of_getElem? (i := 26) rfl)) (hw _ (List.mem_of_getElem? (i := 2) rfl)) (hw _ (List.mem_of_getElem? (i := 28) rfl)) (hw _ (List.mem_of_getElem? (i := 25) rfl)) (hw _ (List.mem_of_getElem? (i := 27) rfl)) (by decide) O.1 (lenOf pd_5 rfl) (con_has0 W.l Z a0 hw a1 b1 b2 b3 (0 : Int32) (2 : Int32) l2 2 _ rfl rfl gs.2.2 h46 O A2) rfl rfl (Nat.le_of_ble_eq_true rfl) (Nat.le_of_ble_eq_true rfl) rfl rfl (Nat.le_of_ble_eq_true rfl) (Nat.le_of_ble_eq_true rfl) (S1 := [(.int (0 : Int32))]) rfl ?_
                refine g_iload (pc' := 273) C at_271 rfl rfl ?_
                refine g_icmpN (xi := 0) (yi := 0) (pc2 := 276) C at_273 rfl rfl rfl (by decide) ?_
                refine g_iconst (pc' := 277) (z := (1 : Int32)) C at_276 rfl rfl ?_
                refine g_goto C at_277 (by decide) (pc' := 281) rfl ?_
                refine g_retN C (by simp) at_281 (by decide) (by decide) ?_
                subst hQ
                rfl
            ·
              show Go W Q h45 4 13 141 #[.val (.int p0), .val (.int p1), .val (.int p2), .val (.int p3), .val (.int p4), .val (.ref a1), .val (.int (1 : Int32)), .val (.int (1 : Int32)), .val (.int (1 : Int32)), .val (.int (3 : Int32)), .val (.int (3 : Int32)), .val (.int (2 : Int32)), .val (.int (-1 : Int32)), .val (.int (-1 : Int32)), .unset, .unset, .unset] [(.int (1 : Int32))]
              refine g_istore (pc' := 143) (L' := #[.val (.int p0), .val (.int p1), .val (.int p2), .val (.int p3), .val (.int p4), .val (.ref a1), .val (.int (1 : Int32)), .val (.int (1 : Int32)), .val (.int (1 : Int32)), .val (.int (3 : Int32)), .val (.int (3 : Int32)), .val (.int (2 : Int32)), .val (.int (1 : Int32)), .val (.int (-1 : Int32)), .unset, .unset, .unset]) C at_141 rfl rfl ?_
              refine g_iload (pc' := 145) C at_143 rfl rfl ?_
              refine g_iconst (pc' := 146) (z := (3 : Int32)) C at_145 rfl rfl ?_
              refine g_icmpN (xi := 3) (yi := 3) (pc2 := 149) C at_146 rfl rfl rfl (by decide) ?_
              refine g_aload (pc' := 151) C at_149 rfl rfl rfl ?_
              refine g_virtual (y := (⟨"com/example/triplecore/triplecore/query/PatternQueue", "poll", "()I"⟩ : MethodName)) (a := a1) (pc' := 154) (k' := 4) (n' := 13) (S := []) (as := []) C at_151 rfl (hw _ (List.mem_of_getElem? (i := 48) rfl)) (hw _ (List.mem_of_getElem? (i := 50) rfl)) (hw _ (List.mem_of_getElem? (i := 2) rfl)) (hw _ (List.mem_of_getElem? (i := 52) rfl)) (hw _ (List.mem_of_getElem? (i := 49) rfl)) (hw _ (List.mem_of_getElem? (i := 51) rfl)) (by decide) B.exa (lenOf pd_6 rfl) (con_poll_G_0 W.l Z a0 hw a1 b1 b2 b3 q01 q02 q03 q12 q13 q23 h45 B) rfl rfl (Nat.le_of_ble_eq_true rfl) (Nat.le_of_ble_eq_true rfl) rfl rfl (Nat.le_of_ble_eq_true rfl) (Nat.le_of_ble_eq_true rfl) (allS w_a1 (allS w_b1 (allS w_b2 all0))) fun vh47 h47 qh47 Kh47 => ?_
              rcases qh47 with ⟨rfl, B⟩
              ·
                show Go W Q h47 4 13 154 #[.val (.int p0), .val (.int p1), .val (.int p2), .val (.int p3), .val (.int p4), .val (.ref a1), .val (.int (1 : Int32)), .val (.int (1 : Int32)), .val (.int (1 : Int32)), .val (.int (3 : Int32)), .val (.int (3 : Int32)), .val (.int (2 : Int32)), .val (.int (1 : Int32)), .val (.int (-1 : Int32)), .unset, .unset, .unset] [(.int (0 : Int32))]
                refine g_istore (pc' := 156) (L' := #[.val (.int p0), .val (.int p1), .val (.int p2), .val (.int p3), .val (.int p4), .val (.ref a1), .val (.int (1 : Int32)), .val (.int (1 : Int32)), .val (.int (1 : Int32)), .val (.int (3 : Int32)), .val (.int (3 : Int32)), .val (.int (2 : Int32)), .val (.int (1 : Int32)), .val (.int (0 : Int32)), .unset, .unset, .unset]) C at_154 rfl rfl ?_
                refine g_iload (pc' := 158) C at_156 rfl rfl ?_
                refine g_ifN (xi := 1) (pc2 := 161) C at_158 rfl rfl (by decide) ?_
                refine g_iload (pc' := 163) C at_161 rfl rfl ?_
                refine g_ifN (xi := 2) (pc2 := 166) C at_163 rfl rfl (by decide) ?_
                refine g_iload (pc' := 168) C at_166 rfl rfl ?_
                refine g_ifN (xi := 1) (pc2 := 171) C at_168 rfl rfl (by decide) ?_
                refine g_iload (pc' := 173) C at_171 rfl rfl ?_
                refine g_ifY (xi := 0) (pc1 := 180) C at_173 (by decide) rfl rfl (by decide) ?_
                refine g_iconst (pc' := 181) (z := (0 : Int32)) C at_180 rfl rfl ?_
                refine g_istore (pc' := 183) (L' := #[.val (.int p0), .val (.int p1), .val (.int p2), .val (.int p3), .val (.int p4), .val (.ref a1), .val (.int (1 : Int32)), .val (.int (1 : Int32)), .val (.int (1 : Int32)), .val (.int (3 : Int32)), .val (.int (3 : Int32)), .val (.int (2 : Int32)), .val (.int (1 : Int32)), .val (.int (0 : Int32)), .val (.int (0 : Int32)), .unset, .unset]) C at_181 rfl rfl ?_
                refine g_iload (pc' := 185) C at_183 rfl rfl ?_
                refine g_ifN (xi := 1) (pc2 := 188) C at_185 rfl rfl (by decide) ?_
                refine g_iload (pc' := 190) C at_188 rfl rfl ?_
                refine g_iconst (pc' := 191) (z := (1 : Int32)) C at_190 rfl rfl ?_
                refine g_icmpN (xi := 2) (yi := 1) (pc2 := 194) C at_191 rfl rfl rfl (by decide) ?_
                refine g_iload (pc' := 196) C at_194 rfl rfl ?_
                refine g_iconst (pc' := 197) (z := (1 : Int32)) C at_196 rfl rfl ?_
                refine g_icmpY (xi := 1) (yi := 1) (pc1 := 210) C at_197 (by decide) rfl rfl rfl (by decide) ?_
                refine g_iconst (pc' := 211) (z := (0 : Int32)) C at_210 rfl rfl ?_
                refine g_istore (pc' := 213) (L' := #[.val (.int p0), .val (.int p1), .val (.int p2), .val (.int p3), .val (.int p4), .val (.ref a1), .val (.int (1 : Int32)), .val (.int (1 : Int32)), .val (.int (1 : Int32)), .val (.int (3 : Int32)), .val (.int (3 : Int32)), .val (.int (2 : Int32)), .val (.int (1 : Int32)), .val (.int (0 : Int32)), .val (.int (0 : Int32)), .val (.int (0 : Int32)), .unset]) C at_211 rfl rfl ?_
                refine g_iload (pc' := 215) C at_213 rfl rfl ?_
                refine g_ifN (xi := 1) (pc2 := 218) C at_215 rfl rfl (by decide) ?_
                refine g_iload (pc' := 220) C at_218 rfl rfl ?_
                refine g_iconst (pc' := 221) (z := (2 : Int32)) C at_220 rfl rfl ?_
                refine g_icmpY (xi := 2) (yi := 2) (pc1 := 240) C at_221 (by decide) rfl rfl rfl (by decide) ?_
                refine g_iconst (pc' := 241) (z := (0 : Int32)) C at_240 rfl rfl ?_
                refine g_istore (pc' := 243) (L' := #[.val (.int p0), .val (.int p1), .val (.int p2), .val (.int p3), .val (.int p4), .val (.ref a1), .val (.int (1 : Int32)), .val (.int (1 : Int32)), .val (.int (1 : Int32)), .val (.int (3 : Int32)), .val (.int (3 : Int32)), .val (.int (2 : Int32)), .val (.int (1 : Int32)), .val (.int (0 : Int32)), .val (.int (0 : Int32)), .val (.int (0 : Int32)), .val (.int (0 : Int32))]) C at_241 rfl rfl ?_
                refine g_aload (pc' := 245) C at_243 rfl rfl rfl ?_
                refine g_iconst (pc' := 246) (z := (0 : Int32)) C at_245 rfl rfl ?_
                obtain ⟨x0, x1, x2, l0, l1, l2, c0, c1, c2, g, O, A1, A2, A3⟩ := B
                have gs : l0.toInt < 0 ∧ l1.toInt < 0 ∧ l2.toInt < 0 := by
                  rcases g with ⟨rfl, rfl, rfl⟩ <;> decide
                refine g_virtualP (y := (⟨"com/example/triplecore/triplecore/query/PatternQueue", "contains", "(I)Z"⟩ : MethodName)) (a := a1) (pc' := 249) (k' := 4) (n' := 13) (S := []) (as := [(.int (0 : Int32))]) C at_246 rfl (hw _ (List.mem_of_getElem? (i := 24) rfl)) (hw _ (List.mem_of_getElem? (i := 26) rfl)) (hw _ (List.mem_of_getElem? (i := 2) rfl)) (hw _ (List.mem_of_getElem? (i := 28) rfl)) (hw _ (List.mem_of_getElem? (i := 25) rfl)) (hw _ (List.mem_of_getElem? (i := 27) rfl)) (by decide) O.1 (lenOf pd_5 rfl) (con_has0 W.l Z a0 hw a1 b1 b2 b3 (0 : Int32) (0 : Int32) l0 0 _ rfl rfl gs.1 h47 O A2) rfl rfl (Nat.le_of_ble_eq_true rfl) (Nat.le_of_ble_eq_true rfl) rfl rfl (Nat.le_of_ble_eq_true rfl) (Nat.le_of_ble_eq_true rfl) (S1 := [(.int (0 : Int32))]) rfl ?_
                refine g_iload (pc' := 251) C at_249 rfl rfl ?_
                refine g_icmpN (xi := 0) (yi := 0) (pc2 := 254) C at_251 rfl rfl rfl (by decide) ?_
                refine g_aload (pc' := 256) C at_254 rfl rfl rfl ?_
                refine g_iconst (pc' := 257) (z := (1 : Int32)) C at_256 rfl rfl ?_
                refine g_virtualP (y := (⟨"com/example/triplecore/triplecore/query/PatternQueue", "contains", "(I)Z"⟩ : MethodName)) (a := a1) (pc' := 260) (k' := 4) (n' := 13) (S := []) (as := [(.int (1 : Int32))]) C at_257 rfl (hw _ (List.mem_of_getElem? (i := 24) rfl)) (hw _ (List.mem_of_getElem? (i := 26) rfl)) (hw _ (List.mem_of_getElem? (i := 2) rfl)) (hw _ (List.mem_of_getElem? (i := 28) rfl)) (hw _ (List.mem_of_getElem? (i := 25) rfl)) (hw _ (List.mem_of_getElem? (i := 27) rfl)) (by decide) O.1 (lenOf pd_5 rfl) (con_has0 W.l Z a0 hw a1 b1 b2 b3 (0 : Int32) (1 : Int32) l1 1 _ rfl rfl gs.2.1 h47 O A2) rfl rfl (Nat.le_of_ble_eq_true rfl) (Nat.le_of_ble_eq_true rfl) rfl rfl (Nat.le_of_ble_eq_true rfl) (Nat.le_of_ble_eq_true rfl) (S1 := [(.int (0 : Int32))]) rfl ?_
                refine g_iload (pc' := 262) C at_260 rfl rfl ?_
                refine g_icmpN (xi := 0) (yi := 0) (pc2 := 265) C at_262 rfl rfl rfl (by decide) ?_
                refine g_aload (pc' := 267) C at_265 rfl rfl rfl ?_
                refine g_iconst (pc' := 268) (z := (2 : Int32)) C at_267 rfl rfl ?_
                refine g_virtualP (y := (⟨"com/example/triplecore/triplecore/query/PatternQueue", "contains", "(I)Z"⟩ : MethodName)) (a := a1) (pc' := 271) (k' := 4) (n' := 13) (S := []) (as := [(.int (2 : Int32))]) C at_268 rfl (hw _ (List.mem_of_getElem? (i := 24) rfl)) (hw _ (List.mem_of_getElem? (i := 26) rfl)) (hw _ (List.mem_of_getElem? (i := 2) rfl)) (hw _ (List.mem_of_getElem? (i := 28) rfl)) (hw _ (List.mem_of_getElem? (i := 25) rfl)) (hw _ (List.mem_of_getElem? (i := 27) rfl)) (by decide) O.1 (lenOf pd_5 rfl) (con_has0 W.l Z a0 hw a1 b1 b2 b3 (0 : Int32) (2 : Int32) l2 2 _ rfl rfl gs.2.2 h47 O A2) rfl rfl (Nat.le_of_ble_eq_true rfl) (Nat.le_of_ble_eq_true rfl) rfl rfl (Nat.le_of_ble_eq_true rfl) (Nat.le_of_ble_eq_true rfl) (S1 := [(.int (0 : Int32))]) rfl ?_
                refine g_iload (pc' := 273) C at_271 rfl rfl ?_
                refine g_icmpN (xi := 0) (yi := 0) (pc2 := 276) C at_273 rfl rfl rfl (by decide) ?_
                refine g_iconst (pc' := 277) (z := (1 : Int32)) C at_276 rfl rfl ?_
                refine g_goto C at_277 (by decide) (pc' := 281) rfl ?_
                refine g_retN C (by simp) at_281 (by decide) (by decide) ?_
                subst hQ
                rfl
set_option maxRecDepth 65536 in
set_option maxHeartbeats 2000000 in
theorem comes_1 {Post : Tables → Env → Array Value → State → Outcome → State → Prop} (hpost : ∀ tb e args s v u, (limb_1_1.after args s (.returned v) u = true ∧ limb_1_2.after args s (.returned v) u = true ∧ True) → FrameEnd s (.returned v) u (Jvm.fieldLocs frame_1_writes args s ++ Jvm.arrayLocs frame_1_arrays args s ++ Jvm.staticLocs frame_1_statics s) 16 128 → Post tb e args s (.returned v) u) :
    ArmFor flags0 classFile x code maxLocals ret World_1 tables_1 room_1 Calls_1 rest_1 Pre_1 Post := by
  intro l hfl _ _ p e ha hc hk s m args below hf hA hF happ hP
  obtain ⟨hcalls, hrest, hpre⟩ := hP
  obtain ⟨-, -, -, hnamed, -, -, -, hat⟩ := (Spec.applies_iff hf).mp happ
  obtain ⟨hg, hn⟩ := and_e (Cond.before_iff.mp (show (Jvm.Cond.and given_1 narrow_1).before args s = true from hpre))
  obtain ⟨g1, g2⟩ := and_e hg
  obtain ⟨g3, g4⟩ := and_e g2
  obtain ⟨g5, g6⟩ := and_e g4
  obtain ⟨g7, g8⟩ := and_e g6
  obtain ⟨g9, g10⟩ := and_e g8
  obtain ⟨w0, w1, w2, w3, w4, rfl⟩ : ∃ w0 w1 w2 w3 w4 : Value, args = #[w0, w1, w2, w3, w4] := by
    have hs : args.size = 5 := by simpa [Cond.value, given_1] using g1
    obtain ⟨L⟩ := args
    match L, hs with
    | [w0, w1, w2, w3, w4], _ => exact ⟨w0, w1, w2, w3, w4, rfl⟩
  have hw := fun d (hd : d ∈ tables_1) => atoms_spec (ws := Jvm.Cond.code x code maxLocals ret :: tables_1) hat d (List.mem_cons_of_mem _ hd)
  obtain ⟨i0, ei0⟩ := is_v g3
  obtain rfl : w0 = (.int i0) := Option.some.inj ei0
  obtain ⟨i1, ei1⟩ := is_v g5
  obtain rfl : w1 = (.int i1) := Option.some.inj ei1
  obtain ⟨i2, ei2⟩ := is_v g7
  obtain rfl : w2 = (.int i2) := Option.some.inj ei2
  obtain ⟨i3, ei3⟩ := is_v g9
  obtain rfl : w3 = (.int i3) := Option.some.inj ei3
  obtain ⟨i4, ei4⟩ := is_v g10
  obtain rfl : w4 = (.int i4) := Option.some.inj ei4
  obtain ⟨n, o, h1, h2, h3, _, L, rfl, ⟨rfl, N⟩, hq⟩ := con_0 l s _ hw i0 i1 i2 i3 i4 s.heap p e ha hc hk s m _ below hf ((Spec.applies_iff_loose hf).mp happ).1 ⟨rfl, State.Warmed39.refl s, rfl⟩ trivial
  refine ⟨n, _, h1, h2, h3, hpost _ _ _ _ _ _ ⟨Cond.after_iff.mpr rfl, Cond.after_iff.mpr (eq_i res_at (Term.int_eval (1)) rfl), trivial⟩ ⟨hq.1, hq.2.1, (hq.2.2.sift fun y hy => Or.inr ((N y hy).resolve_left (fun q => nomatch q))).mono (by decide) (by decide)⟩⟩
theorem main_1_1 : Claimed_1_1 := comes_1 fun _ _ _ _ _ _ h hF => ⟨h.1, hF⟩
theorem main_1_2 : Claimed_1_2 := comes_1 fun _ _ _ _ _ _ h hF => ⟨h.2.1, hF⟩
end Jvm.Pilot.@@N@@
namespace Jvm.Pilot.@@N@@
open Jvm Jvm.ClassFile Sem Op Lib Jvm.Free Jvm.Stand Jvm.Pilot.@@N@@.Jvm.D
/-! MADE BY PROGRAM (witnessworld.py) out of the Statement's table words and the real class files: 11 classes; the members and pool entries that the words name. The judged class is class 1, her method 1. -/
namespace start1
open Jvm.ClassFile
def u (s : String) : CpInfo := .utf8 (stringToUtf16 s)
/-- a pool by its gaps: so many unusable entries, then the entry; so many at the end -/
def gap : Nat → List CpInfo → List CpInfo
  | 0, r => r
  | n + 1, r => .unusable :: gap n r
def poolList (es : List (Nat × CpInfo)) (last : Nat) : List CpInfo := es.foldr (fun e r => gap e.1 (e.2 :: r)) (gap last [])
def pool (es : List (Nat × CpInfo)) (last : Nat) : Array CpInfo := ⟨poolList es last⟩
def fileOf (pool : Array CpInfo) (this : Nat) (attrs : Array Attribute := #[]) (ms : Array MethodInfo := #[]) (fl : Nat := 33) (sup : Nat := 0) (ifs : Array Nat := #[]) (fds : Array FieldInfo := #[]) : ClassFile where
  minorVersion := 0
  majorVersion := 65
  constantPool := pool
  accessFlags := fl
  thisClass := this
  superClass := sup
  interfaces := ifs
  fields := fds
  methods := ms
  attributes := attrs
def plain (name : String) (sup : Option ClassId) : Class where
  name := name
  kind := .ordinary
  loader := none
  accessFlags := 33
  super := sup
  interfaces := #[]
  cf := none
  fields := #[]
  methods := #[]
  instanceTypes := #[]
  staticTypes := #[]
  resolved := #[]
  callSites := []
  init := .initialized
  statics := none
  mirror := none

def pool0 : Array CpInfo := pool [(5, u "<init>"), (0, u "()V"), (1, .class_ 10), (1, u "java/lang/Object")] 113

def k0c0 : Code := { maxStack := 0, maxLocals := 1, code := object_method_1_code, exceptionTable := #[], attributes := #[] }
def k0m0 : Method := { name := "<init>", desc := "()V", sig := { parameters := [], returnType := none }, accessFlags := 1, code := some k0c0 }
/-- java/lang/Object -/
def k0 : Class := { plain "java/lang/Object" none with
  accessFlags := 33
  interfaces := #[]
  cf := some (fileOf pool0 8 #[] #[{ accessFlags := 1, nameIndex := 5, descriptorIndex := 6, attributes := #[] }] 33 0 #[] #[])
  fields := #[]
  methods := #[k0m0]
  instanceTypes := #[]
  staticTypes := #[]
  resolved := Array.replicate 124 none
  statics := none }

def pool1 : Array CpInfo := pool [(2, .class_ 4), (1, u "java/lang/Object"), (0, u "<init>"), (0, u "()V"), (0, .class_ 8), (0, u "com/example/triplecore/triplecore/query/PatternQueue"), (0, .methodref 7 10), (0, .nameAndType 5 11), (0, u "(I)V"), (0, .methodref 7 13), (0, .nameAndType 14 15), (0, u "add"), (0, u "(II)V"), (0, .methodref 17 18), (0, .class_ 19), (0, .nameAndType 20 21), (0, u "java/lang/Math"), (0, u "min"), (0, u "(II)I"), (0, .methodref 7 23), (0, .nameAndType 24 25), (0, u "poll"), (0, u "()I"), (0, .methodref 7 27), (0, .nameAndType 28 29), (0, u "contains"), (0, u "(I)Z"), (0, .class_ 31), (0, u "com/example/triplecore/triplecore/query/PatternQueueContainsPinLaw"), (2, u "law"), (0, u "(IIIII)Z")] 3

def k1m0 : Method := { name := "<init>", desc := "()V", sig := { parameters := [], returnType := none }, accessFlags := 1, code := none }
def k1c1 : Code := { maxStack := 3, maxLocals := 17, code := code, exceptionTable := #[], attributes := #[] }
def k1m1 : Method := { name := "law", desc := "(IIIII)Z", sig := { parameters := [.int, .int, .int, .int, .int], returnType := some .boolean }, accessFlags := 9, code := some k1c1 }
/-- com/example/triplecore/triplecore/query/PatternQueueContainsPinLaw -/
def k1 : Class := { plain "com/example/triplecore/triplecore/query/PatternQueueContainsPinLaw" (some 0) with
  accessFlags := 49
  interfaces := #[]
  cf := some (fileOf pool1 30 #[] #[{ accessFlags := 1, nameIndex := 5, descriptorIndex := 6, attributes := #[] }, { accessFlags := 9, nameIndex := 34, descriptorIndex := 35, attributes := #[] }] 49 2 #[] #[])
  fields := #[]
  methods := #[k1m0, k1m1]
  instanceTypes := #[]
  staticTypes := #[]
  resolved := Array.replicate 39 none
  statics := none }

def pool2 : Array CpInfo := pool [(1, .methodref 2 3), (0, .class_ 4), (0, .nameAndType 5 6), (0, u "java/lang/Object"), (0, u "<init>"), (0, u "()V"), (0, .fieldref 8 9), (0, .class_ 10), (0, .nameAndType 11 12), (0, u "com/example/triplecore/triplecore/query/PatternQueue"), (0, u "heap"), (0, u "[I"), (0, .fieldref 8 14), (0, .nameAndType 15 12), (0, u "places"), (0, .methodref 17 18), (0, .class_ 19), (0, .nameAndType 20 21), (0, u "java/util/Arrays"), (0, u "fill"), (0, u "([II)V"), (0, .fieldref 8 23), (0, .nameAndType 24 12), (0, u "counts"), (0, .fieldref 8 26), (0, .nameAndType 27 28), (0, u "size"), (0, u "I"), (0, .methodref 8 30), (0, .nameAndType 31 32), (0, u "up"), (0, u "(I)V"), (0, .methodref 8 34), (0, .nameAndType 35 32), (0, u "down"), (0, .methodref 8 37), (0, .nameAndType 38 39), (0, u "move"), (0, u "(II)V"), (0, .methodref 8 41), (0, .nameAndType 42 43), (0, u "before"), (0, u "(II)Z"), (2, u "contains"), (0, u "(I)Z"), (1, u "add"), (1, u "poll"), (0, u "()I")] 4

def k2c0 : Code := { maxStack := 2, maxLocals := 2, code := prog_95_method_1_code, exceptionTable := #[], attributes := #[] }
def k2m0 : Method := { name := "<init>", desc := "(I)V", sig := { parameters := [.int], returnType := none }, accessFlags := 0, code := some k2c0 }
def k2c1 : Code := { maxStack := 2, maxLocals := 2, code := prog_95_method_2_code, exceptionTable := #[], attributes := #[] }
def k2m1 : Method := { name := "contains", desc := "(I)Z", sig := { parameters := [.int], returnType := some .boolean }, accessFlags := 0, code := some k2c1 }
def k2c2 : Code := { maxStack := 3, maxLocals := 3, code := prog_95_method_3_code, exceptionTable := #[], attributes := #[] }
def k2m2 : Method := { name := "add", desc := "(II)V", sig := { parameters := [.int, .int], returnType := none }, accessFlags := 0, code := some k2c2 }
def k2c3 : Code := { maxStack := 3, maxLocals := 2, code := prog_95_method_5_code, exceptionTable := #[], attributes := #[] }
def k2m3 : Method := { name := "poll", desc := "()I", sig := { parameters := [], returnType := some .int }, accessFlags := 0, code := some k2c3 }
def k2c4 : Code := { maxStack := 4, maxLocals := 4, code := prog_95_method_7_code, exceptionTable := #[], attributes := #[] }
def k2m4 : Method := { name := "up", desc := "(I)V", sig := { parameters := [.int], returnType := none }, accessFlags := 2, code := some k2c4 }
def k2c5 : Code := { maxStack := 4, maxLocals := 4, code := prog_95_method_8_code, exceptionTable := #[], attributes := #[] }
def k2m5 : Method := { name := "down", desc := "(I)V", sig := { parameters := [.int], returnType := none }, accessFlags := 2, code := some k2c5 }
def k2c6 : Code := { maxStack := 3, maxLocals := 3, code := prog_95_method_9_code, exceptionTable := #[], attributes := #[] }
def k2m6 : Method := { name := "move", desc := "(II)V", sig := { parameters := [.int, .int], returnType := none }, accessFlags := 2, code := some k2c6 }
def k2c7 : Code := { maxStack := 3, maxLocals := 3, code := prog_95_method_10_code, exceptionTable := #[], attributes := #[] }
def k2m7 : Method := { name := "before", desc := "(II)Z", sig := { parameters := [.int, .int], returnType := some .boolean }, accessFlags := 2, code := some k2c7 }
/-- com/example/triplecore/triplecore/query/PatternQueue -/
def k2 : Class := { plain "com/example/triplecore/triplecore/query/PatternQueue" (some 0) with
  accessFlags := 48
  interfaces := #[]
  cf := some (fileOf pool2 8 #[] #[{ accessFlags := 0, nameIndex := 5, descriptorIndex := 32, attributes := #[] }, { accessFlags := 0, nameIndex := 46, descriptorIndex := 47, attributes := #[] }, { accessFlags := 0, nameIndex := 49, descriptorIndex := 39, attributes := #[] }, { accessFlags := 0, nameIndex := 51, descriptorIndex := 52, attributes := #[] }, { accessFlags := 2, nameIndex := 31, descriptorIndex := 32, attributes := #[] }, { accessFlags := 2, nameIndex := 35, descriptorIndex := 32, attributes := #[] }, { accessFlags := 2, nameIndex := 38, descriptorIndex := 39, attributes := #[] }, { accessFlags := 2, nameIndex := 42, descriptorIndex := 43, attributes := #[] }] 48 2 #[] #[{ accessFlags := 18, nameIndex := 11, descriptorIndex := 12, attributes := #[] }, { accessFlags := 18, nameIndex := 15, descriptorIndex := 12, attributes := #[] }, { accessFlags := 18, nameIndex := 24, descriptorIndex := 12, attributes := #[] }, { accessFlags := 2, nameIndex := 27, descriptorIndex := 28, attributes := #[] }])
  fields := #[{ name := "heap", type := (.array .int), accessFlags := 18, slot := 0, constantValue := 0 }, { name := "places", type := (.array .int), accessFlags := 18, slot := 1, constantValue := 0 }, { name := "counts", type := (.array .int), accessFlags := 18, slot := 2, constantValue := 0 }, { name := "size", type := .int, accessFlags := 2, slot := 3, constantValue := 0 }]
  methods := #[k2m0, k2m1, k2m2, k2m3, k2m4, k2m5, k2m6, k2m7]
  instanceTypes := #[(.array .int), (.array .int), (.array .int), .int]
  staticTypes := #[]
  resolved := Array.replicate 57 none
  statics := none }

def pool3 : Array CpInfo := pool [(2, .class_ 4), (1, u "java/lang/Object"), (0, u "<init>"), (0, u "()V"), (7, .class_ 16), (1, u "java/util/Arrays"), (57, .class_ 76), (1, u "java/util/Arrays$NaturalOrder"), (36, .class_ 115), (1, u "java/util/Arrays$LegacyMergeSort"), (1, u "Z"), (257, .class_ 376), (0, u "java/util/Arrays$ArrayList"), (68, u "$assertionsDisabled"), (269, u "MIN_ARRAY_SORT_GRAN"), (0, u "I"), (2, u "INSERTIONSORT_THRESHOLD"), (120, u "fill"), (4, u "([II)V"), (129, .class_ 976), (0, u "java/util/Arrays$ArrayItr")] 52

def k3m0 : Method := { name := "<init>", desc := "()V", sig := { parameters := [], returnType := none }, accessFlags := 2, code := none }
def k3c1 : Code := { maxStack := 3, maxLocals := 4, code := jdk_65_method_103_code, exceptionTable := #[], attributes := #[] }
def k3m1 : Method := { name := "fill", desc := "([II)V", sig := { parameters := [(.array .int), .int], returnType := none }, accessFlags := 9, code := some k3c1 }
/-- java/util/Arrays -/
def k3 : Class := { plain "java/util/Arrays" (some 0) with
  accessFlags := 49
  interfaces := #[]
  cf := some (fileOf pool3 14 #[.nestMembers #[975, 375, 113, 74]] #[{ accessFlags := 2, nameIndex := 5, descriptorIndex := 6, attributes := #[] }, { accessFlags := 9, nameIndex := 840, descriptorIndex := 845, attributes := #[] }] 49 2 #[] #[{ accessFlags := 26, nameIndex := 715, descriptorIndex := 716, attributes := #[] }, { accessFlags := 26, nameIndex := 719, descriptorIndex := 716, attributes := #[] }, { accessFlags := 4120, nameIndex := 445, descriptorIndex := 117, attributes := #[] }])
  fields := #[{ name := "MIN_ARRAY_SORT_GRAN", type := .int, accessFlags := 26, slot := 0, constantValue := 0 }, { name := "INSERTIONSORT_THRESHOLD", type := .int, accessFlags := 26, slot := 1, constantValue := 0 }, { name := "$assertionsDisabled", type := .boolean, accessFlags := 4120, slot := 2, constantValue := 0 }]
  methods := #[k3m0, k3m1]
  instanceTypes := #[]
  staticTypes := #[.int, .int, .boolean]
  resolved := Array.replicate 1029 none
  statics := none }

def pool4 : Array CpInfo := pool [(1, .class_ 2), (0, u "java/lang/Math"), (1, .class_ 6), (1, u "java/lang/Object"), (0, u "<init>"), (0, u "()V"), (89, .class_ 100), (1, u "java/lang/Math$RandomNumberGeneratorHolder"), (71, u "negativeZeroFloatBits"), (0, u "J"), (2, u "negativeZeroDoubleBits"), (24, u "min"), (43, u "$assertionsDisabled"), (0, u "Z"), (88, u "(II)I"), (2, u "twoToTheDoubleScaleDown"), (0, u "D"), (4, u "twoToTheDoubleScaleUp"), (9, u "E"), (3, u "PI"), (2, u "TAU"), (2, u "DEGREES_TO_RADIANS"), (0, u "RADIANS_TO_DEGREES")] 94

def k4m0 : Method := { name := "<init>", desc := "()V", sig := { parameters := [], returnType := none }, accessFlags := 2, code := none }
def k4c1 : Code := { maxStack := 2, maxLocals := 2, code := jdk_29_method_69_code, exceptionTable := #[], attributes := #[] }
def k4m1 : Method := { name := "min", desc := "(II)I", sig := { parameters := [.int, .int], returnType := some .int }, accessFlags := 9, code := some k4c1 }
/-- java/lang/Math -/
def k4 : Class := { plain "java/lang/Math" (some 0) with
  accessFlags := 49
  interfaces := #[]
  cf := some (fileOf pool4 1 #[.nestMembers #[98]] #[{ accessFlags := 2, nameIndex := 7, descriptorIndex := 8, attributes := #[] }, { accessFlags := 9, nameIndex := 201, descriptorIndex := 335, attributes := #[] }] 49 4 #[] #[{ accessFlags := 25, nameIndex := 354, descriptorIndex := 339, attributes := #[] }, { accessFlags := 25, nameIndex := 358, descriptorIndex := 339, attributes := #[] }, { accessFlags := 25, nameIndex := 361, descriptorIndex := 339, attributes := #[] }, { accessFlags := 26, nameIndex := 364, descriptorIndex := 339, attributes := #[] }, { accessFlags := 26, nameIndex := 365, descriptorIndex := 339, attributes := #[] }, { accessFlags := 26, nameIndex := 172, descriptorIndex := 173, attributes := #[] }, { accessFlags := 26, nameIndex := 176, descriptorIndex := 173, attributes := #[] }, { accessFlags := 8, nameIndex := 344, descriptorIndex := 339, attributes := #[] }, { accessFlags := 8, nameIndex := 338, descriptorIndex := 339, attributes := #[] }, { accessFlags := 4120, nameIndex := 245, descriptorIndex := 246, attributes := #[] }])
  fields := #[{ name := "E", type := .double, accessFlags := 25, slot := 0, constantValue := 0 }, { name := "PI", type := .double, accessFlags := 25, slot := 1, constantValue := 0 }, { name := "TAU", type := .double, accessFlags := 25, slot := 2, constantValue := 0 }, { name := "DEGREES_TO_RADIANS", type := .double, accessFlags := 26, slot := 3, constantValue := 0 }, { name := "RADIANS_TO_DEGREES", type := .double, accessFlags := 26, slot := 4, constantValue := 0 }, { name := "negativeZeroFloatBits", type := .long, accessFlags := 26, slot := 5, constantValue := 0 }, { name := "negativeZeroDoubleBits", type := .long, accessFlags := 26, slot := 6, constantValue := 0 }, { name := "twoToTheDoubleScaleUp", type := .double, accessFlags := 8, slot := 7, constantValue := 0 }, { name := "twoToTheDoubleScaleDown", type := .double, accessFlags := 8, slot := 8, constantValue := 0 }, { name := "$assertionsDisabled", type := .boolean, accessFlags := 4120, slot := 9, constantValue := 0 }]
  methods := #[k4m0, k4m1]
  instanceTypes := #[]
  staticTypes := #[.double, .double, .double, .double, .double, .long, .long, .double, .double, .boolean]
  resolved := Array.replicate 460 none
  statics := none }

def pool5 : Array CpInfo := pool [(1, u "java/lang/Cloneable"), (0, .class_ 1), (0, u "java/lang/Object"), (0, .class_ 3)] 3

/-- java/lang/Cloneable -/
def k5 : Class := { plain "java/lang/Cloneable" (some 0) with
  accessFlags := 1537
  interfaces := #[]
  cf := some (fileOf pool5 2 #[] #[] 1537 4 #[] #[])
  fields := #[]
  methods := #[]
  instanceTypes := #[]
  staticTypes := #[]
  resolved := Array.replicate 8 none
  statics := none }

def pool6 : Array CpInfo := pool [(1, u "java/io/Serializable"), (0, .class_ 1), (0, u "java/lang/Object"), (0, .class_ 3)] 3

/-- java/io/Serializable -/
def k6 : Class := { plain "java/io/Serializable" (some 0) with
  accessFlags := 1537
  interfaces := #[]
  cf := some (fileOf pool6 2 #[] #[] 1537 4 #[] #[])
  fields := #[]
  methods := #[]
  instanceTypes := #[]
  staticTypes := #[]
  resolved := Array.replicate 8 none
  statics := none }

/-- the primitive byte -/
def k7 : Class := { plain "byte" none with kind := .primitive 'B', accessFlags := 0x411 }
/-- [B -/
def k8 : Class := { plain "[B" (some 0) with kind := .array 7 .byte, interfaces := #[5, 6], accessFlags := 1041 }

/-- the primitive int -/
def k9 : Class := { plain "int" none with kind := .primitive 'I', accessFlags := 0x411 }
/-- [I -/
def k10 : Class := { plain "[I" (some 0) with kind := .array 9 .int, interfaces := #[5, 6], accessFlags := 1041 }

def heap : Heap := #[]
def classes : Array Class := #[k0, k1, k2, k3, k4, k5, k6, k7, k8, k9, k10]
def interned : List (Array UInt16 × Addr) := []
def slotsUsed : Nat := 0
def theMethod : MethodId := ⟨1, 1⟩
def args0 : Array Value := #[.int 7, .int 5, .int 3, .int 4, .int 2]
def aboutOver (below : List Frame) : State where
  vm := { classes := classes, interned := interned.toArray }
  heap := heap
  slotsUsed := slotsUsed
  threads := #[{ frames := .invoking theMethod args0 :: below }]
def below0 : List Frame := [.native { method := ⟨0, 0⟩, args := #[] }]
def about1 : State := aboutOver below0
def p0 : Program := .bare "" "" ""
def e0 : Env := launch0.env 0 0 0
theorem w_frames : about1.frames = Frame.invoking theMethod args0 :: below0 := rfl
set_option maxRecDepth 65536 in
theorem w_args : argsFit about1.vm theMethod args0 = true := by decide +kernel
set_option maxRecDepth 65536 in
theorem w_heap : heapFits about1 = true := by decide +kernel
set_option maxRecDepth 65536 in
theorem w_runnable : about1.curStatus? = some .runnable := by decide +kernel
set_option maxRecDepth 65536 in
theorem w_alone : about1.alone = true := by decide +kernel
set_option maxRecDepth 65536 in
theorem w_named : about1.methodNamed? x = some theMethod := by decide +kernel
set_option maxRecDepth 65536 in
theorem w_hears : about1.hears theMethod below0 = true := by decide +kernel
set_option maxRecDepth 65536 in
theorem w_ripe : about1.ripe theMethod args0 below0 = true := by decide +kernel
theorem w_running : about1.status = .running := rfl
set_option maxRecDepth 65536 in
theorem w_room : about1.hasRoom e0.platform room_1 = true :=
  launch0.hasRoom_least _ room_1 (by decide +kernel) (by decide +kernel) (by decide +kernel) (by decide +kernel) (by decide +kernel) (by decide +kernel)
theorem allAtoms_all (ts : List Jvm.Cond) (a : Array Jvm.Value) (st : Jvm.State) : (allAtoms ts).before a st = ts.all (fun c => c.before a st) := by
  induction ts with
  | nil => rfl
  | cons c t ih =>
    show (Jvm.Cond.and c (allAtoms t)).before a st = _
    rw [Jvm.Cond.before_and, ih, List.all_cons]
def words1 : List Jvm.Cond := Jvm.Cond.code x code maxLocals ret :: tables_1
/-- a 'code' word, met by the world's own term for the bytes: nothing is compared byte by byte -/
theorem code_word {y : MethodName} {bytes : ByteArray} {mx : Nat} {rt : Option FieldType} {a : Array Value} {s : State} {m : MethodId} {meth : Method} {c : Code} (h1 : s.methodNamed? y = some m) (h2 : s.vm.method? m = some meth) (h3 : meth.code = some c) (h4 : c.code = bytes)
    (h5 : (c.maxLocals == mx && c.exceptionTable.isEmpty && decide (c.maxStack ≤ mostOperands) && decide (meth.sig.returnType = rt) && !meth.locks && decide (parseMethodDescriptor y.desc = some meth.sig)) = true) : (Jvm.Cond.code y bytes mx rt).before a s = true := by
  simp only [Bool.and_eq_true, beq_iff_eq, Bool.not_eq_true', decide_eq_true_eq] at h5
  obtain ⟨⟨⟨⟨⟨g1, g2⟩, g3⟩, g4⟩, g5⟩, g6⟩ := h5
  simp [Cond.before, Cond.holds, Cond.value, h1, h2, h3, h4, g1, g2, g3, g4, g5, g6]
def isCode : Jvm.Cond → Bool
  | .code _ _ _ _ => true
  | _ => false
theorem all_split {L : List Jvm.Cond} {P : Jvm.Cond → Bool} (h1 : L.all (fun c => isCode c || P c) = true) (h2 : ∀ c ∈ L.filter isCode, P c = true) : L.all P = true := by
  refine List.all_eq_true.mpr fun c hc => ?_
  have h := List.all_eq_true.mp h1 c hc
  rcases Bool.eq_false_or_eq_true (isCode c) with hi | hi
  · exact h2 c (List.mem_filter.mpr ⟨hc, hi⟩)
  · simpa [hi] using h
set_option maxRecDepth 65536 in
theorem w_c0 : (Jvm.Cond.code x code maxLocals ret).before args0 about1 = true := code_word (m := ⟨1, 1⟩) (meth := k1m1) (c := k1c1) (by decide +kernel) rfl rfl rfl (by decide +kernel)
set_option maxRecDepth 65536 in
theorem w_c1 : (Jvm.Cond.code ({ cls := "com/example/triplecore/triplecore/query/PatternQueue", name := "<init>", desc := "(I)V" } : Jvm.MethodName) prog_95_method_1_code (2 : Nat) (Option.none : Option Jvm.ClassFile.FieldType)).before args0 about1 = true := code_word (m := ⟨2, 0⟩) (meth := k2m0) (c := k2c0) (by decide +kernel) rfl rfl rfl (by decide +kernel)
set_option maxRecDepth 65536 in
theorem w_c2 : (Jvm.Cond.code ({ cls := "java/lang/Object", name := "<init>", desc := "()V" } : Jvm.MethodName) object_method_1_code (1 : Nat) (Option.none : Option Jvm.ClassFile.FieldType)).before args0 about1 = true := code_word (m := ⟨0, 0⟩) (meth := k0m0) (c := k0c0) (by decide +kernel) rfl rfl rfl (by decide +kernel)
set_option maxRecDepth 65536 in
theorem w_c3 : (Jvm.Cond.code ({ cls := "java/util/Arrays", name := "fill", desc := "([II)V" } : Jvm.MethodName) jdk_65_method_103_code (4 : Nat) (Option.none : Option Jvm.ClassFile.FieldType)).before args0 about1 = true := code_word (m := ⟨3, 1⟩) (meth := k3m1) (c := k3c1) (by decide +kernel) rfl rfl rfl (by decide +kernel)
set_option maxRecDepth 65536 in
theorem w_c4 : (Jvm.Cond.code ({ cls := "java/lang/Math", name := "min", desc := "(II)I" } : Jvm.MethodName) jdk_29_method_69_code (2 : Nat) (Option.some Jvm.ClassFile.FieldType.int)).before args0 about1 = true := code_word (m := ⟨4, 1⟩) (meth := k4m1) (c := k4c1) (by decide +kernel) rfl rfl rfl (by decide +kernel)
set_option maxRecDepth 65536 in
theorem w_c5 : (Jvm.Cond.code ({ cls := "com/example/triplecore/triplecore/query/PatternQueue", name := "contains", desc := "(I)Z" } : Jvm.MethodName) prog_95_method_2_code (2 : Nat) (Option.some Jvm.ClassFile.FieldType.boolean)).before args0 about1 = true := code_word (m := ⟨2, 1⟩) (meth := k2m1) (c := k2c1) (by decide +kernel) rfl rfl rfl (by decide +kernel)
set_option maxRecDepth 65536 in
theorem w_c6 : (Jvm.Cond.code ({ cls := "com/example/triplecore/triplecore/query/PatternQueue", name := "add", desc := "(II)V" } : Jvm.MethodName) prog_95_method_3_code (3 : Nat) (Option.none : Option Jvm.ClassFile.FieldType)).before args0 about1 = true := code_word (m := ⟨2, 2⟩) (meth := k2m2) (c := k2c2) (by decide +kernel) rfl rfl rfl (by decide +kernel)
set_option maxRecDepth 65536 in
theorem w_c7 : (Jvm.Cond.code ({ cls := "com/example/triplecore/triplecore/query/PatternQueue", name := "up", desc := "(I)V" } : Jvm.MethodName) prog_95_method_7_code (4 : Nat) (Option.none : Option Jvm.ClassFile.FieldType)).before args0 about1 = true := code_word (m := ⟨2, 4⟩) (meth := k2m4) (c := k2c4) (by decide +kernel) rfl rfl rfl (by decide +kernel)
set_option maxRecDepth 65536 in
theorem w_c8 : (Jvm.Cond.code ({ cls := "com/example/triplecore/triplecore/query/PatternQueue", name := "move", desc := "(II)V" } : Jvm.MethodName) prog_95_method_9_code (3 : Nat) (Option.none : Option Jvm.ClassFile.FieldType)).before args0 about1 = true := code_word (m := ⟨2, 6⟩) (meth := k2m6) (c := k2c6) (by decide +kernel) rfl rfl rfl (by decide +kernel)
set_option maxRecDepth 65536 in
theorem w_c9 : (Jvm.Cond.code ({ cls := "com/example/triplecore/triplecore/query/PatternQueue", name := "before", desc := "(II)Z" } : Jvm.MethodName) prog_95_method_10_code (3 : Nat) (Option.some Jvm.ClassFile.FieldType.boolean)).before args0 about1 = true := code_word (m := ⟨2, 7⟩) (meth := k2m7) (c := k2c7) (by decide +kernel) rfl rfl rfl (by decide +kernel)
set_option maxRecDepth 65536 in
theorem w_c10 : (Jvm.Cond.code ({ cls := "com/example/triplecore/triplecore/query/PatternQueue", name := "poll", desc := "()I" } : Jvm.MethodName) prog_95_method_5_code (2 : Nat) (Option.some Jvm.ClassFile.FieldType.int)).before args0 about1 = true := code_word (m := ⟨2, 3⟩) (meth := k2m3) (c := k2c3) (by decide +kernel) rfl rfl rfl (by decide +kernel)
set_option maxRecDepth 65536 in
theorem w_c11 : (Jvm.Cond.code ({ cls := "com/example/triplecore/triplecore/query/PatternQueue", name := "down", desc := "(I)V" } : Jvm.MethodName) prog_95_method_8_code (4 : Nat) (Option.none : Option Jvm.ClassFile.FieldType)).before args0 about1 = true := code_word (m := ⟨2, 5⟩) (meth := k2m5) (c := k2c5) (by decide +kernel) rfl rfl rfl (by decide +kernel)
def codes1 : List Jvm.Cond := [Jvm.Cond.code x code maxLocals ret, Jvm.Cond.code ({ cls := "com/example/triplecore/triplecore/query/PatternQueue", name := "<init>", desc := "(I)V" } : Jvm.MethodName) prog_95_method_1_code (2 : Nat) (Option.none : Option Jvm.ClassFile.FieldType), Jvm.Cond.code ({ cls := "java/lang/Object", name := "<init>", desc := "()V" } : Jvm.MethodName) object_method_1_code (1 : Nat) (Option.none : Option Jvm.ClassFile.FieldType), Jvm.Cond.code ({ cls := "java/util/Arrays", name := "fill", desc := "([II)V" } : Jvm.MethodName) jdk_65_method_103_code (4 : Nat) (Option.none : Option Jvm.ClassFile.FieldType), Jvm.Cond.code ({ cls := "java/lang/Math", name := "min", desc := "(II)I" } : Jvm.MethodName) jdk_29_method_69_code (2 : Nat) (Option.some Jvm.ClassFile.FieldType.int), Jvm.Cond.code ({ cls := "com/example/triplecore/triplecore/query/PatternQueue", name := "contains", desc := "(I)Z" } : Jvm.MethodName) prog_95_method_2_code (2 : Nat) (Option.some Jvm.ClassFile.FieldType.boolean), Jvm.Cond.code ({ cls := "com/example/triplecore/triplecore/query/PatternQueue", name := "add", desc := "(II)V" } : Jvm.MethodName) prog_95_method_3_code (3 : Nat) (Option.none : Option Jvm.ClassFile.FieldType), Jvm.Cond.code ({ cls := "com/example/triplecore/triplecore/query/PatternQueue", name := "up", desc := "(I)V" } : Jvm.MethodName) prog_95_method_7_code (4 : Nat) (Option.none : Option Jvm.ClassFile.FieldType), Jvm.Cond.code ({ cls := "com/example/triplecore/triplecore/query/PatternQueue", name := "move", desc := "(II)V" } : Jvm.MethodName) prog_95_method_9_code (3 : Nat) (Option.none : Option Jvm.ClassFile.FieldType), Jvm.Cond.code ({ cls := "com/example/triplecore/triplecore/query/PatternQueue", name := "before", desc := "(II)Z" } : Jvm.MethodName) prog_95_method_10_code (3 : Nat) (Option.some Jvm.ClassFile.FieldType.boolean), Jvm.Cond.code ({ cls := "com/example/triplecore/triplecore/query/PatternQueue", name := "poll", desc := "()I" } : Jvm.MethodName) prog_95_method_5_code (2 : Nat) (Option.some Jvm.ClassFile.FieldType.int), Jvm.Cond.code ({ cls := "com/example/triplecore/triplecore/query/PatternQueue", name := "down", desc := "(I)V" } : Jvm.MethodName) prog_95_method_8_code (4 : Nat) (Option.none : Option Jvm.ClassFile.FieldType)]
set_option maxRecDepth 65536 in
theorem codes_eq : words1.filter isCode = codes1 := rfl
theorem w_codes : ∀ c ∈ words1.filter isCode, c.before args0 about1 = true := by
  rw [codes_eq]
  intro c hc
  simp only [codes1, List.mem_cons, List.not_mem_nil, or_false] at hc
  rcases hc with rfl | rfl | rfl | rfl | rfl | rfl | rfl | rfl | rfl | rfl | rfl | rfl
  · exact w_c0
  · exact w_c1
  · exact w_c2
  · exact w_c3
  · exact w_c4
  · exact w_c5
  · exact w_c6
  · exact w_c7
  · exact w_c8
  · exact w_c9
  · exact w_c10
  · exact w_c11
set_option maxRecDepth 65536 in
theorem w_t1 : (words1.take 24).all (fun c => isCode c || c.before args0 about1) = true := by decide +kernel
set_option maxRecDepth 65536 in
theorem w_t2 : ((words1.drop 24).take 24).all (fun c => isCode c || c.before args0 about1) = true := by decide +kernel
set_option maxRecDepth 65536 in
theorem w_t3 : ((words1.drop 24).drop 24).all (fun c => isCode c || c.before args0 about1) = true := by decide +kernel
theorem w_tables : (allAtoms (Jvm.Cond.code x code maxLocals ret :: tables_1)).before args0 about1 = true := by
  rw [allAtoms_all]
  show words1.all (fun c => c.before args0 about1) = true
  refine all_split ?_ w_codes
  rw [← List.take_append_drop 24 words1, List.all_append, w_t1, ← List.take_append_drop 24 (words1.drop 24), List.all_append, w_t2, w_t3]
  rfl
set_option maxRecDepth 65536 in
theorem w_case : (Jvm.Cond.and given_1 narrow_1).before args0 about1 = true := by decide +kernel
theorem w_applies : (headSpec (Jvm.Cond.code x code maxLocals ret :: tables_1) room_1).applies x e0.platform about1 = true :=
  (Spec.applies_iff w_frames).mpr ⟨w_running, w_runnable, w_alone, w_named, w_hears, w_ripe, w_room, w_tables⟩
theorem atStart : AtStart classFile x code maxLocals ret World_1 tables_1 room_1 Calls_1 rest_1 Pre_1 launch0 p0 e0 about1 theMethod args0 below0 :=
  ⟨lists_1, trivial, launch0.admits_env _ _ _, launch0.least_env, fairChoices_fair.cas, fairChoices_fair.clock, w_frames, w_args, w_heap, w_applies, trivial, trivial, w_case⟩
end start1
theorem witness_1 : WitnessClaimed_1 := ⟨start1.p0, start1.e0, start1.about1, start1.theMethod, start1.args0, start1.below0, start1.atStart⟩
end Jvm.Pilot.@@N@@
