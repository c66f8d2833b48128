import JvmDerived
import JvmDerived.Pilot.@@N@@Statement
import JvmDerived.Pilot.@@N@@Code
set_option linter.unusedVariables false
set_option linter.unusedSimpArgs false
namespace Jvm.OwnKit
open Jvm Jvm.ClassFile Sem Op Lib Jvm.Free Jvm.Stand Jvm.LawKit Jvm.RoadKit Bundle
/-- what is fixed in one body's walk: program, launch, environment, room, state at the call, method, arguments, frames below, its record, its code, the old addresses that it may write -/
abbrev Wk : Type := Program × Launch × Env × Room × State × MethodId × Array Value × List Frame × Method × Code × List Addr
abbrev Wk.p (W : Wk) : Program := W.1
abbrev Wk.l (W : Wk) : Launch := W.2.1
abbrev Wk.e (W : Wk) : Env := W.2.2.1
abbrev Wk.R (W : Wk) : Room := W.2.2.2.1
abbrev Wk.s (W : Wk) : State := W.2.2.2.2.1
abbrev Wk.m (W : Wk) : MethodId := W.2.2.2.2.2.1
abbrev Wk.args (W : Wk) : Array Value := W.2.2.2.2.2.2.1
abbrev Wk.below (W : Wk) : List Frame := W.2.2.2.2.2.2.2.1
abbrev Wk.meth (W : Wk) : Method := W.2.2.2.2.2.2.2.2.1
abbrev Wk.c (W : Wk) : Code := W.2.2.2.2.2.2.2.2.2.1
abbrev Wk.ws (W : Wk) : List Addr := W.2.2.2.2.2.2.2.2.2.2
/-- an address that may be written: a named old one, or a new one -/
def Pw (W : Wk) (a : Addr) : Prop := a ∈ W.ws ∨ W.s.heap.size ≤ a
abbrev Sta0 (W : Wk) (T : State) (locs : List Loc) (k n : Nat) : Prop := Stand W.p W.l W.e W.R W.s W.m W.args W.below W.meth W.c T locs k n
abbrev Stp (W : Wk) (S t : State) : Prop := Steps W.p.tables W.e W.below S t
def Sd (W : Wk) (T : State) (h : Heap) (k n : Nat) : Prop := ∃ locs, Sta0 W T locs k n ∧ T.heap = h ∧ ∀ y ∈ locs, Pw W y.base
/-- from S the body comes to its end, returning what Q says -/
def Out (W : Wk) (Q : Option Value → Heap → Prop) (S : State) : Prop := ∃ s₂ o, Stp W S s₂ ∧ s₂.status = .running ∧ Ended s₂ W.below o ∧ ∃ v L, o = .returned v ∧ (Q v s₂.heap ∧ ∀ y ∈ L, Pw W y.base) ∧ FrameEnd W.s o s₂ L W.R.cells W.R.slots
/-- from every state that stands here over the heap h, the body comes to its end as Q says -/
def Go (W : Wk) (Q : Option Value → Heap → Prop) (h : Heap) (k n pc : Nat) (L : Array Slot) (S : List Value) : Prop := ∀ T, Sd W T h k n → Out W Q (T.setTop (mkF W.m pc L S))
def Cx (W : Wk) (Z : State) (R : Room) (own : String) (code : ByteArray) (mx : Nat) (ret : Option FieldType) (nm : String) (ws : List Addr) (h0 : Heap) : Prop :=
  W.p.tables.exec = Jvm.exec ∧ Z.Warmed39 W.s.vm ∧ W.s.vm.findClass own = some W.m.cls ∧ W.c.code = code ∧ W.c.maxLocals = mx ∧ W.meth.sig.returnType = ret ∧ W.meth.locks = false ∧ W.meth.name = nm ∧ W.R = R ∧ W.ws = ws ∧ W.s.heap = h0
/-- a body's contract at the heap h: ws: the old addresses that it may write -/
def Con (l : Launch) (Z : State) (w0 : List Jvm.Cond) (y : MethodName) (bytes : ByteArray) (mx : Nat) (ret : Option FieldType) (rm : Room) (as : Array Value) (h : Heap) (ws : List Addr) (Q : Option Value → Heap → Prop) : Prop :=
  MetFree l y (head1 (Jvm.Cond.code y bytes mx ret :: w0) rm) (fun a U => a = as ∧ Z.Warmed39 U.vm ∧ U.heap = h) (fun _ _ _ _ _ => True)
    (fun _ U o U' => ∃ v L, o = .returned v ∧ (Q v U'.heap ∧ ∀ y ∈ L, y.base ∈ ws ∨ h.size ≤ y.base) ∧ FrameEnd U o U' L rm.cells rm.slots)
/-- a truth value as an int -/
def b2i (P : Prop) [Decidable P] : Int32 := if P then 1 else 0
theorem b2i_pos {P : Prop} [Decidable P] (h : P) : b2i P = 1 := if_pos h
theorem b2i_neg {P : Prop} [Decidable P] (h : ¬ P) : b2i P = 0 := if_neg h
theorem b2i_iff {P Q : Prop} [Decidable P] [Decidable Q] (h : P ↔ Q) : b2i P = b2i Q := by by_cases q : Q <;> simp [b2i, h, q]
theorem b2i_toInt (P : Prop) [Decidable P] : (b2i P).toInt = if P then 1 else 0 := by unfold b2i; split <;> rfl
theorem b2i_one {P : Prop} [Decidable P] : b2i P = 1 ↔ P := by unfold b2i; split <;> simp [*]
theorem b2i_zero {P : Prop} [Decidable P] : b2i P = 0 ↔ ¬ P := by unfold b2i; split <;> simp [*]
theorem nar_b2i (P : Prop) [Decidable P] : nar .boolean (b2i P) = b2i P := by unfold b2i; split <;> rfl
theorem b2i_inj {P Q : Prop} [Decidable P] [Decidable Q] : b2i P = b2i Q ↔ (P ↔ Q) := by unfold b2i; split <;> split <;> simp [*]
theorem ref_cat {v : Value} (h : v.isRef = true) : v.category = 1 := by cases v <;> simp [Value.isRef] at h ⊢ <;> rfl
theorem narrow_ref {t : FieldType} {v : Value} (h : v.isRef = true) : narrow t v = v := by cases v <;> simp [Value.isRef] at h <;> cases t <;> rfl
theorem fits_b2i (P : Prop) [Decidable P] : fits .boolean (.int (b2i P)) = true := by unfold b2i; split <;> rfl
theorem fits_ref0 {t : FieldType} {v : Value} (h : v.isRef = true) (ht : refKind t = true := by rfl) : fits t v = true := by cases v <;> simp [Value.isRef] at h <;> cases t <;> simp_all [refKind, fits]
section Facts
variable {Z : State} {h h' : Heap} {a b : Addr} {C : String} {ws : List Addr}
/-- an object of the class C: its fields (declaring class, name, descriptor, value) -/
def Ob (Z : State) (h : Heap) (a : Addr) (C : String) (fs : List (String × String × String × Value)) : Prop :=
  Exa Z h a C ∧ (∀ f ∈ fs, Fld Z h a f.1 f.2.1 f.2.2.1 f.2.2.2) ∧ (fs.map fun f => RoadKit.slotOf Z f.1 f.2.1 f.2.2.1).Nodup
variable {fs fs' : List (String × String × String × Value)} {o n d : String} {v old : Value} {i : Nat}
theorem Ob.exa (O : Ob Z h a C fs) : Exa Z h a C := O.1
theorem Ob.lt (O : Ob Z h a C fs) : a < h.size := O.1.lt
theorem Ob.get (O : Ob Z h a C fs) (hi : fs[i]? = some (o, n, d, v)) : Fld Z h a o n d v := O.2.1 _ (List.mem_of_getElem? hi)
theorem Ob.keep (O : Ob Z h a C fs) (K : Keep h h' ws) (q : a ∉ ws) : Ob Z h' a C fs := ⟨O.1.keep K, fun f hf => (O.2.1 f hf).keep K q, O.2.2⟩
theorem Ob.ext (O : Ob Z h a C fs) (E : Ext h h') : Ob Z h' a C fs := ⟨O.1.ext E, fun f hf => (O.2.1 f hf).ext E, O.2.2⟩
theorem Ob.other (O : Ob Z h b C fs) {sl : Nat} (W : Wr h h' a sl v) (q : b ≠ a) : Ob Z h' b C fs := O.keep (Keep.of_wr W) (ninS q nin0)
theorem Ob.put (O : Ob Z h a C fs) (hi : fs[i]? = some (o, n, d, old)) (W : Wr h h' a (RoadKit.slotOf Z o n d) v) : Ob Z h' a C (fs.set i (o, n, d, v)) := by
  obtain ⟨E, F, N⟩ := O
  have hlt : i < fs.length := (List.getElem?_eq_some_iff.mp hi).1
  have hm : (fs.set i (o, n, d, v)).map (fun f => RoadKit.slotOf Z f.1 f.2.1 f.2.2.1) = fs.map (fun f => RoadKit.slotOf Z f.1 f.2.1 f.2.2.1) := by
    rw [List.map_set]
    have e : (fs.map fun f => RoadKit.slotOf Z f.1 f.2.1 f.2.2.1)[i]? = some (RoadKit.slotOf Z o n d) := by rw [List.getElem?_map, hi]; rfl
    obtain ⟨hl, he⟩ := List.getElem?_eq_some_iff.mp e
    have q := List.set_getElem_self hl
    rw [he] at q
    exact q
  refine ⟨E.wr W, fun f hf => ?_, by rw [hm]; exact N⟩
  obtain ⟨j, hj⟩ := List.mem_iff_getElem?.mp hf
  by_cases e : j = i
  · subst e
    rw [List.getElem?_set_self hlt] at hj
    cases hj
    exact (F _ (List.mem_of_getElem? hi)).same W
  · rw [List.getElem?_set_ne (Ne.symm e)] at hj
    refine (F f (List.mem_of_getElem? hj)).other W (Or.inr fun q => ?_)
    have e1 : (fs.map fun f => RoadKit.slotOf Z f.1 f.2.1 f.2.2.1)[j]? = some (RoadKit.slotOf Z f.1 f.2.1 f.2.2.1) := by rw [List.getElem?_map, hj]; rfl
    have e2 : (fs.map fun f => RoadKit.slotOf Z f.1 f.2.1 f.2.2.1)[i]? = some (RoadKit.slotOf Z o n d) := by rw [List.getElem?_map, hi]; rfl
    rw [q] at e1
    obtain ⟨l1, q1⟩ := List.getElem?_eq_some_iff.mp e1
    obtain ⟨l2, q2⟩ := List.getElem?_eq_some_iff.mp e2
    exact e ((List.getElem_inj N).mp (q1.trans q2.symm))
/-- an array: its components -/
def Ar (Z : State) (h : Heap) (a : Addr) (ty : FieldType) (vs : List Value) : Prop := ∃ c : Cell, Arr Z h a c ty ∧ c.slots.toList = vs
/-- ... of references to objects of the class C -/
def ArR (Z : State) (h : Heap) (a : Addr) (C : String) (vs : List Value) : Prop := ∃ c : Cell, Arr Z h a c (.object C) ∧ c.slots.toList = vs ∧ Ovr Z c.cls C
variable {ty : FieldType} {vs : List Value}
theorem Ar.lt (A : Ar Z h a ty vs) : a < h.size := A.elim fun _ q => q.1.lt
theorem Ar.keep (A : Ar Z h a ty vs) (K : Keep h h' ws) (q : a ∉ ws) : Ar Z h' a ty vs := by obtain ⟨c, A, e⟩ := A; exact ⟨c, ⟨K.2.1 a c A.1 q, A.2⟩, e⟩
theorem Ar.ext (A : Ar Z h a ty vs) (E : Ext h h') : Ar Z h' a ty vs := by obtain ⟨c, A, e⟩ := A; exact ⟨c, A.ext E, e⟩
theorem ArR.lt (A : ArR Z h a C vs) : a < h.size := A.elim fun _ q => q.1.lt
theorem ArR.keep (A : ArR Z h a C vs) (K : Keep h h' ws) (q : a ∉ ws) : ArR Z h' a C vs := by obtain ⟨c, A, e⟩ := A; exact ⟨c, ⟨K.2.1 a c A.1 q, A.2⟩, e⟩
theorem ArR.ext (A : ArR Z h a C vs) (E : Ext h h') : ArR Z h' a C vs := by obtain ⟨c, A, e⟩ := A; exact ⟨c, A.ext E, e⟩
theorem nin1 (q : b ≠ a) : b ∉ [a] := ninS q nin0
theorem clamp_of {j : Int32} {i : Nat} (hj : j.toInt = i) : j.toNatClampNeg = i := by
  show j.toInt.toNat = i
  omega
theorem nneg_of {j : Int32} {i : Nat} (hj : j.toInt = i) : ¬ j < 0 := by
  rw [Int32.lt_iff_toInt_lt, hj]
  show ¬ ((i : Int) < 0)
  omega
theorem in_of {j : Int32} {i : Nat} {c : Cell} (hj : j.toInt = i) (hi : i < c.slots.toList.length) : ¬ (j < 0 ∨ c.slots.size ≤ j.toNatClampNeg) := by
  rw [clamp_of hj]
  rintro (q | q)
  · exact nneg_of hj q
  · rw [Array.length_toList] at hi; omega
theorem set_toList (c : Cell) (i : Nat) (v : Value) : (c.setSlot i v).slots.toList = c.slots.toList.set i v := by
  show (c.slots.setIfInBounds i v).toList = _
  rw [Array.toList_setIfInBounds]
theorem Ar.put {c : Cell} (A : Arr Z h a c ty) (e : c.slots.toList = vs) {j : Int32} {i : Nat} (hj : j.toInt = i) (W : Wr h h' a j.toNatClampNeg v) : Ar Z h' a ty (vs.set i v) := by
  refine ⟨_, A.same W, ?_⟩
  rw [clamp_of hj, set_toList, e]
theorem map_getI {l : List Int32} {i : Nat} (hi : i < l.length) : (l.map Value.int)[i]? = some (.int (l.getD i 0)) := by
  rw [List.getElem?_map, List.getElem?_eq_getElem hi, List.getD_eq_getElem?_getD, List.getElem?_eq_getElem hi]; rfl
theorem map_getJ {l : List Int64} {i : Nat} (hi : i < l.length) : (l.map Value.long)[i]? = some (.long (l.getD i 0)) := by
  rw [List.getElem?_map, List.getElem?_eq_getElem hi, List.getD_eq_getElem?_getD, List.getElem?_eq_getElem hi]; rfl
theorem map_setI (l : List Int32) (i : Nat) (x : Int32) : (l.map Value.int).set i (.int x) = (l.set i x).map Value.int := by rw [List.map_set]
theorem map_setJ (l : List Int64) (i : Nat) (x : Int64) : (l.map Value.long).set i (.long x) = (l.set i x).map Value.long := by rw [List.map_set]
theorem nat32 {n : Nat} (h : n < 2147483648) : n.toInt32.toInt = n := by
  show (Int32.ofNat n).toInt = n
  rw [Int32.toInt_ofNat_of_lt (by omega)]
theorem keep_of_same {s t : State} {L : List Loc} {k n : Nat} {ws : List Addr} (H : s.sameButNew t L k n) (hL : ∀ y ∈ L, y.base ∈ ws ∨ s.heap.size ≤ y.base) : Keep s.heap t.heap ws := by
  obtain ⟨-, h1, -, -, -, h5⟩ := H
  have lt : ∀ (x : Addr) (c : Cell), s.heap[x]? = some c → x < s.heap.size := fun x c q => (Array.getElem?_eq_some_iff.mp q).1
  refine ⟨h1, fun x c q r => ?_, fun x c q => ?_⟩
  · obtain ⟨c', e1, e2, e3, e4⟩ := h5 x c q
    have hs : c'.slots = c.slots := by
      refine Array.ext_getElem? fun i => e4 i fun hm => ?_
      rcases hL _ hm with z | z
      · exact r z
      · exact absurd (lt x c q) (Nat.not_lt.mpr z)
    rw [e1, e2, hs]
  · obtain ⟨c', e1, e2, e3, -⟩ := h5 x c q
    exact ⟨c', e1, by rw [e2], by rw [e2], e3⟩
end Facts
section Steps0
variable {W : Wk} {Z : State} {R : Room} {own nm : String} {code : ByteArray} {mx : Nat} {ret : Option FieldType} {wsx : List Addr} {hx0 : Heap} {Q : Option Value → Heap → Prop} {h : Heap} {k n pc pc' pc1 pc2 : Nat} {L L' : Array Slot} {S S' : List Value} {a0 : Array Value}
theorem Cx.x (C : Cx W Z R own code mx ret nm wsx hx0) : W.p.tables.exec = Jvm.exec := C.1
theorem Cx.z (C : Cx W Z R own code mx ret nm wsx hx0) : Z.Warmed39 W.s.vm := C.2.1
theorem Cx.o (C : Cx W Z R own code mx ret nm wsx hx0) : W.s.vm.findClass own = some W.m.cls := C.2.2.1
theorem Cx.b (C : Cx W Z R own code mx ret nm wsx hx0) {r : Except ClassFile.DecodeError (ClassFile.Instr × Nat)} (hd : decode code pc = r) : decode W.c.code pc = r := hb C.2.2.2.1 hd
theorem Cx.ml (C : Cx W Z R own code mx ret nm wsx hx0) : W.c.maxLocals = mx := C.2.2.2.2.1
theorem Cx.rt (C : Cx W Z R own code mx ret nm wsx hx0) : W.meth.sig.returnType = ret := C.2.2.2.2.2.1
theorem Cx.lk (C : Cx W Z R own code mx ret nm wsx hx0) : W.meth.locks = false := C.2.2.2.2.2.2.1
theorem Cx.nme (C : Cx W Z R own code mx ret nm wsx hx0) : W.meth.name = nm := C.2.2.2.2.2.2.2.1
theorem Cx.r (C : Cx W Z R own code mx ret nm wsx hx0) : W.R = R := C.2.2.2.2.2.2.2.2.1
theorem Cx.ws (C : Cx W Z R own code mx ret nm wsx hx0) : W.ws = wsx := C.2.2.2.2.2.2.2.2.2.1
theorem Cx.h0 (C : Cx W Z R own code mx ret nm wsx hx0) : W.s.heap = hx0 := C.2.2.2.2.2.2.2.2.2.2
theorem Cx.old (C : Cx W Z R own code mx ret nm wsx hx0) {a : Addr} (q : a ∈ wsx) : Pw W a := Or.inl (C.ws ▸ q)
theorem Cx.new (C : Cx W Z R own code mx ret nm wsx hx0) {a : Addr} (q : hx0.size ≤ a) : Pw W a := Or.inr (C.h0 ▸ q)
theorem Out.st {S S' : State} (f : ∀ t, Stp W S' t → Stp W S t) (g : Out W Q S') : Out W Q S := by
  obtain ⟨s2, o, q, r⟩ := g
  exact ⟨s2, o, f _ q, r⟩
theorem Go.st (f : ∀ T locs, Sta0 W T locs k n → T.heap = h → ∀ t, Stp W (T.setTop (mkF W.m pc' L' S')) t → Stp W (T.setTop (mkF W.m pc L S)) t) (g : Go W Q h k n pc' L' S') : Go W Q h k n pc L S := fun T hT => by
  obtain ⟨locs, X, e, N⟩ := hT
  exact Out.st (f T locs X e) (g T ⟨locs, X, e, N⟩)
theorem Go.same {k' n' : Nat} (g : Go W Q h k n pc L S) (e1 : k' = k) (e2 : n' = n) : Go W Q h k' n' pc L S := by subst e1 e2; exact g
theorem Go.more {k' n' : Nat} (g : Go W Q h k' n' pc L S) (e1 : k ≤ k') (e2 : n ≤ n') : Go W Q h k n pc L S := fun T hT => by
  obtain ⟨locs, X, e, N⟩ := hT
  exact g T ⟨locs, ⟨X.admits, X.cas, X.clock, X.frames, X.room, X.hears, X.method, X.code, X.here, X.tail, X.warmed, X.limits, X.bytes, X.same.mono e1 e2⟩, e, N⟩
theorem Go.cell (g : hx0.size ≤ h.size → Go W Q h k n pc L S) (C : Cx W Z R own code mx ret nm wsx hx0) : Go W Q h k n pc L S := fun T hT => by
  obtain ⟨locs, X, e, N⟩ := hT
  have q : W.s.heap.size ≤ T.heap.size := X.same.2.1
  rw [C.h0, e] at q
  exact g q T ⟨locs, X, e, N⟩

theorem g_iadd (C : Cx W Z R own code mx ret nm wsx hx0) {x y : Int32} (hd : decode code pc = .ok (.iadd, 1)) (hp : pc + 1 = pc') (g : Go W Q h k n pc' L (.int (x + y) :: S)) : Go W Q h k n pc L (.int y :: .int x :: S) := by
  subst hp
  exact g.st fun T locs X e t kk => XS.iadd (g := mkF W.m pc L (.int y :: .int x :: S)) X.here C.x rfl (C.b hd) rfl kk
theorem g_isub (C : Cx W Z R own code mx ret nm wsx hx0) {x y : Int32} (hd : decode code pc = .ok (.isub, 1)) (hp : pc + 1 = pc') (g : Go W Q h k n pc' L (.int (x - y) :: S)) : Go W Q h k n pc L (.int y :: .int x :: S) := by
  subst hp
  exact g.st fun T locs X e t kk => XS.isub (g := mkF W.m pc L (.int y :: .int x :: S)) X.here C.x rfl (C.b hd) rfl kk
theorem g_imul (C : Cx W Z R own code mx ret nm wsx hx0) {x y : Int32} (hd : decode code pc = .ok (.imul, 1)) (hp : pc + 1 = pc') (g : Go W Q h k n pc' L (.int (x * y) :: S)) : Go W Q h k n pc L (.int y :: .int x :: S) := by
  subst hp
  exact g.st fun T locs X e t kk => XS.imul (g := mkF W.m pc L (.int y :: .int x :: S)) X.here C.x rfl (C.b hd) rfl kk
theorem g_iand (C : Cx W Z R own code mx ret nm wsx hx0) {x y : Int32} (hd : decode code pc = .ok (.iand, 1)) (hp : pc + 1 = pc') (g : Go W Q h k n pc' L (.int (x &&& y) :: S)) : Go W Q h k n pc L (.int y :: .int x :: S) := by
  subst hp
  exact g.st fun T locs X e t kk => XS.iand (g := mkF W.m pc L (.int y :: .int x :: S)) X.here C.x rfl (C.b hd) rfl kk
theorem g_ior (C : Cx W Z R own code mx ret nm wsx hx0) {x y : Int32} (hd : decode code pc = .ok (.ior, 1)) (hp : pc + 1 = pc') (g : Go W Q h k n pc' L (.int (x ||| y) :: S)) : Go W Q h k n pc L (.int y :: .int x :: S) := by
  subst hp
  exact g.st fun T locs X e t kk => XS.ior (g := mkF W.m pc L (.int y :: .int x :: S)) X.here C.x rfl (C.b hd) rfl kk
theorem g_ixor (C : Cx W Z R own code mx ret nm wsx hx0) {x y : Int32} (hd : decode code pc = .ok (.ixor, 1)) (hp : pc + 1 = pc') (g : Go W Q h k n pc' L (.int (x ^^^ y) :: S)) : Go W Q h k n pc L (.int y :: .int x :: S) := by
  subst hp
  exact g.st fun T locs X e t kk => XS.ixor (g := mkF W.m pc L (.int y :: .int x :: S)) X.here C.x rfl (C.b hd) rfl kk
theorem g_ishl (C : Cx W Z R own code mx ret nm wsx hx0) {x y : Int32} (hd : decode code pc = .ok (.ishl, 1)) (hp : pc + 1 = pc') (g : Go W Q h k n pc' L (.int (x <<< (y &&& 31)) :: S)) : Go W Q h k n pc L (.int y :: .int x :: S) := by
  subst hp
  exact g.st fun T locs X e t kk => XS.ishl (g := mkF W.m pc L (.int y :: .int x :: S)) X.here C.x rfl (C.b hd) rfl kk
theorem g_ishr (C : Cx W Z R own code mx ret nm wsx hx0) {x y : Int32} (hd : decode code pc = .ok (.ishr, 1)) (hp : pc + 1 = pc') (g : Go W Q h k n pc' L (.int (x >>> (y &&& 31)) :: S)) : Go W Q h k n pc L (.int y :: .int x :: S) := by
  subst hp
  exact g.st fun T locs X e t kk => XS.ishr (g := mkF W.m pc L (.int y :: .int x :: S)) X.here C.x rfl (C.b hd) rfl kk
theorem g_iushr (C : Cx W Z R own code mx ret nm wsx hx0) {x y : Int32} (hd : decode code pc = .ok (.iushr, 1)) (hp : pc + 1 = pc') (g : Go W Q h k n pc' L (.int ((x.toUInt32 >>> (y &&& 31).toUInt32).toInt32) :: S)) : Go W Q h k n pc L (.int y :: .int x :: S) := by
  subst hp
  exact g.st fun T locs X e t kk => XS.iushr (g := mkF W.m pc L (.int y :: .int x :: S)) X.here C.x rfl (C.b hd) rfl kk
theorem g_ladd (C : Cx W Z R own code mx ret nm wsx hx0) {x y : Int64} (hd : decode code pc = .ok (.ladd, 1)) (hp : pc + 1 = pc') (g : Go W Q h k n pc' L (.long (x + y) :: S)) : Go W Q h k n pc L (.long y :: .long x :: S) := by
  subst hp
  exact g.st fun T locs X e t kk => XS.ladd (g := mkF W.m pc L (.long y :: .long x :: S)) X.here C.x rfl (C.b hd) rfl kk
theorem g_lsub (C : Cx W Z R own code mx ret nm wsx hx0) {x y : Int64} (hd : decode code pc = .ok (.lsub, 1)) (hp : pc + 1 = pc') (g : Go W Q h k n pc' L (.long (x - y) :: S)) : Go W Q h k n pc L (.long y :: .long x :: S) := by
  subst hp
  exact g.st fun T locs X e t kk => XS.lsub (g := mkF W.m pc L (.long y :: .long x :: S)) X.here C.x rfl (C.b hd) rfl kk
theorem g_lmul (C : Cx W Z R own code mx ret nm wsx hx0) {x y : Int64} (hd : decode code pc = .ok (.lmul, 1)) (hp : pc + 1 = pc') (g : Go W Q h k n pc' L (.long (x * y) :: S)) : Go W Q h k n pc L (.long y :: .long x :: S) := by
  subst hp
  exact g.st fun T locs X e t kk => XS.lmul (g := mkF W.m pc L (.long y :: .long x :: S)) X.here C.x rfl (C.b hd) rfl kk
theorem g_land (C : Cx W Z R own code mx ret nm wsx hx0) {x y : Int64} (hd : decode code pc = .ok (.land, 1)) (hp : pc + 1 = pc') (g : Go W Q h k n pc' L (.long (x &&& y) :: S)) : Go W Q h k n pc L (.long y :: .long x :: S) := by
  subst hp
  exact g.st fun T locs X e t kk => XS.land (g := mkF W.m pc L (.long y :: .long x :: S)) X.here C.x rfl (C.b hd) rfl kk
theorem g_lor (C : Cx W Z R own code mx ret nm wsx hx0) {x y : Int64} (hd : decode code pc = .ok (.lor, 1)) (hp : pc + 1 = pc') (g : Go W Q h k n pc' L (.long (x ||| y) :: S)) : Go W Q h k n pc L (.long y :: .long x :: S) := by
  subst hp
  exact g.st fun T locs X e t kk => XS.lor (g := mkF W.m pc L (.long y :: .long x :: S)) X.here C.x rfl (C.b hd) rfl kk
theorem g_lxor (C : Cx W Z R own code mx ret nm wsx hx0) {x y : Int64} (hd : decode code pc = .ok (.lxor, 1)) (hp : pc + 1 = pc') (g : Go W Q h k n pc' L (.long (x ^^^ y) :: S)) : Go W Q h k n pc L (.long y :: .long x :: S) := by
  subst hp
  exact g.st fun T locs X e t kk => XS.lxor (g := mkF W.m pc L (.long y :: .long x :: S)) X.here C.x rfl (C.b hd) rfl kk
theorem g_lshl (C : Cx W Z R own code mx ret nm wsx hx0) {x : Int64} {y : Int32} (hd : decode code pc = .ok (.lshl, 1)) (hp : pc + 1 = pc') (g : Go W Q h k n pc' L (.long (x <<< (y &&& 0x3f).toInt64) :: S)) : Go W Q h k n pc L (.int y :: .long x :: S) := by
  subst hp
  exact g.st fun T locs X e t kk => XS.lshl (g := mkF W.m pc L (.int y :: .long x :: S)) X.here C.x rfl (C.b hd) rfl kk
theorem g_lshr (C : Cx W Z R own code mx ret nm wsx hx0) {x : Int64} {y : Int32} (hd : decode code pc = .ok (.lshr, 1)) (hp : pc + 1 = pc') (g : Go W Q h k n pc' L (.long (x >>> (y &&& 0x3f).toInt64) :: S)) : Go W Q h k n pc L (.int y :: .long x :: S) := by
  subst hp
  exact g.st fun T locs X e t kk => XS.lshr (g := mkF W.m pc L (.int y :: .long x :: S)) X.here C.x rfl (C.b hd) rfl kk
theorem g_lushr (C : Cx W Z R own code mx ret nm wsx hx0) {x : Int64} {y : Int32} (hd : decode code pc = .ok (.lushr, 1)) (hp : pc + 1 = pc') (g : Go W Q h k n pc' L (.long ((x.toUInt64 >>> (y &&& 0x3f).toInt64.toUInt64).toInt64) :: S)) : Go W Q h k n pc L (.int y :: .long x :: S) := by
  subst hp
  exact g.st fun T locs X e t kk => XS.lushr (g := mkF W.m pc L (.int y :: .long x :: S)) X.here C.x rfl (C.b hd) rfl kk
theorem g_idiv (C : Cx W Z R own code mx ret nm wsx hx0) {x y : Int32} (hd : decode code pc = .ok (.idiv, 1)) (hp : pc + 1 = pc') (hy : y ≠ 0) (g : Go W Q h k n pc' L (.int (x / y) :: S)) : Go W Q h k n pc L (.int y :: .int x :: S) := by
  subst hp
  exact g.st fun T locs X e t kk => XS.idiv (g := mkF W.m pc L (.int y :: .int x :: S)) X.here C.x rfl (C.b hd) rfl hy kk
theorem g_irem (C : Cx W Z R own code mx ret nm wsx hx0) {x y : Int32} (hd : decode code pc = .ok (.irem, 1)) (hp : pc + 1 = pc') (hy : y ≠ 0) (g : Go W Q h k n pc' L (.int (x % y) :: S)) : Go W Q h k n pc L (.int y :: .int x :: S) := by
  subst hp
  exact g.st fun T locs X e t kk => iremM (g := mkF W.m pc L (.int y :: .int x :: S)) X C.x rfl (C.b hd) rfl hy kk
theorem g_ldiv (C : Cx W Z R own code mx ret nm wsx hx0) {x y : Int64} (hd : decode code pc = .ok (.ldiv, 1)) (hp : pc + 1 = pc') (hy : y ≠ 0) (g : Go W Q h k n pc' L (.long (x / y) :: S)) : Go W Q h k n pc L (.long y :: .long x :: S) := by
  subst hp
  exact g.st fun T locs X e t kk => XS.ldiv (g := mkF W.m pc L (.long y :: .long x :: S)) X.here C.x rfl (C.b hd) rfl hy kk
theorem g_lrem (C : Cx W Z R own code mx ret nm wsx hx0) {x y : Int64} (hd : decode code pc = .ok (.lrem, 1)) (hp : pc + 1 = pc') (hy : y ≠ 0) (g : Go W Q h k n pc' L (.long (x % y) :: S)) : Go W Q h k n pc L (.long y :: .long x :: S) := by
  subst hp
  rw [← lrem_mod] at g
  exact g.st fun T locs X e t kk => XS.lrem (g := mkF W.m pc L (.long y :: .long x :: S)) X.here C.x rfl (C.b hd) rfl hy kk
theorem g_ineg (C : Cx W Z R own code mx ret nm wsx hx0) {x : Int32} (hd : decode code pc = .ok (.ineg, 1)) (hp : pc + 1 = pc') (g : Go W Q h k n pc' L (.int (-x) :: S)) : Go W Q h k n pc L (.int x :: S) := by
  subst hp
  exact g.st fun T locs X e t kk => XS.ineg (g := mkF W.m pc L (.int x :: S)) X.here C.x rfl (C.b hd) rfl kk
theorem g_lneg (C : Cx W Z R own code mx ret nm wsx hx0) {x : Int64} (hd : decode code pc = .ok (.lneg, 1)) (hp : pc + 1 = pc') (g : Go W Q h k n pc' L (.long (-x) :: S)) : Go W Q h k n pc L (.long x :: S) := by
  subst hp
  exact g.st fun T locs X e t kk => XS.lneg (g := mkF W.m pc L (.long x :: S)) X.here C.x rfl (C.b hd) rfl kk
theorem g_i2l (C : Cx W Z R own code mx ret nm wsx hx0) {x : Int32} (hd : decode code pc = .ok (.i2l, 1)) (hp : pc + 1 = pc') (g : Go W Q h k n pc' L (.long (x.toInt64) :: S)) : Go W Q h k n pc L (.int x :: S) := by
  subst hp
  exact g.st fun T locs X e t kk => XS.i2l (g := mkF W.m pc L (.int x :: S)) X.here C.x rfl (C.b hd) rfl kk
theorem g_l2i (C : Cx W Z R own code mx ret nm wsx hx0) {x : Int64} (hd : decode code pc = .ok (.l2i, 1)) (hp : pc + 1 = pc') (g : Go W Q h k n pc' L (.int (x.toInt32) :: S)) : Go W Q h k n pc L (.long x :: S) := by
  subst hp
  exact g.st fun T locs X e t kk => XS.l2i (g := mkF W.m pc L (.long x :: S)) X.here C.x rfl (C.b hd) rfl kk
theorem g_i2b (C : Cx W Z R own code mx ret nm wsx hx0) {x : Int32} (hd : decode code pc = .ok (.i2b, 1)) (hp : pc + 1 = pc') (g : Go W Q h k n pc' L (.int (x.toInt8.toInt32) :: S)) : Go W Q h k n pc L (.int x :: S) := by
  subst hp
  exact g.st fun T locs X e t kk => XS.i2b (g := mkF W.m pc L (.int x :: S)) X.here C.x rfl (C.b hd) rfl kk
theorem g_i2c (C : Cx W Z R own code mx ret nm wsx hx0) {x : Int32} (hd : decode code pc = .ok (.i2c, 1)) (hp : pc + 1 = pc') (g : Go W Q h k n pc' L (.int (x.toUInt32.toUInt16.toUInt32.toInt32) :: S)) : Go W Q h k n pc L (.int x :: S) := by
  subst hp
  exact g.st fun T locs X e t kk => XS.i2c (g := mkF W.m pc L (.int x :: S)) X.here C.x rfl (C.b hd) rfl kk
theorem g_i2s (C : Cx W Z R own code mx ret nm wsx hx0) {x : Int32} (hd : decode code pc = .ok (.i2s, 1)) (hp : pc + 1 = pc') (g : Go W Q h k n pc' L (.int (x.toInt16.toInt32) :: S)) : Go W Q h k n pc L (.int x :: S) := by
  subst hp
  exact g.st fun T locs X e t kk => XS.i2s (g := mkF W.m pc L (.int x :: S)) X.here C.x rfl (C.b hd) rfl kk
theorem g_iconst (C : Cx W Z R own code mx ret nm wsx hx0) {i : Int} {z : Int32} (hd : decode code pc = .ok (.iconst i, 1)) (hp : pc + 1 = pc') (hz : Int32.ofInt i = z) (g : Go W Q h k n pc' L (.int z :: S)) : Go W Q h k n pc L S := by
  subst hp hz
  exact g.st fun T locs X e t kk => XS.iconst (g := mkF W.m pc L S) X.here C.x rfl (C.b hd) kk
theorem g_bipush (C : Cx W Z R own code mx ret nm wsx hx0) {i : Int} {z : Int32} (hd : decode code pc = .ok (.bipush i, 2)) (hp : pc + 2 = pc') (hz : (Int8.ofInt i).toInt32 = z) (g : Go W Q h k n pc' L (.int z :: S)) : Go W Q h k n pc L S := by
  subst hp hz
  exact g.st fun T locs X e t kk => XS.bipush (g := mkF W.m pc L S) X.here C.x rfl (C.b hd) kk
theorem g_sipush (C : Cx W Z R own code mx ret nm wsx hx0) {i : Int} {z : Int32} (hd : decode code pc = .ok (.sipush i, 3)) (hp : pc + 3 = pc') (hz : (Int16.ofInt i).toInt32 = z) (g : Go W Q h k n pc' L (.int z :: S)) : Go W Q h k n pc L S := by
  subst hp hz
  exact g.st fun T locs X e t kk => XS.sipush (g := mkF W.m pc L S) X.here C.x rfl (C.b hd) kk
theorem g_lconst (C : Cx W Z R own code mx ret nm wsx hx0) {i : Fin 2} {z : Int64} (hd : decode code pc = .ok (.lconst i, 1)) (hp : pc + 1 = pc') (hz : Int64.ofNat i = z) (g : Go W Q h k n pc' L (.long z :: S)) : Go W Q h k n pc L S := by
  subst hp hz
  exact g.st fun T locs X e t kk => XS.lconst (g := mkF W.m pc L S) X.here C.x rfl (C.b hd) kk
theorem g_aconst_null (C : Cx W Z R own code mx ret nm wsx hx0)  (hd : decode code pc = .ok (.aconst_null, 1)) (hp : pc + 1 = pc') (g : Go W Q h k n pc' L (.null :: S)) : Go W Q h k n pc L (S) := by
  subst hp
  exact g.st fun T locs X e t kk => XS.aconstNull (g := mkF W.m pc L (S)) X.here C.x rfl (C.b hd) kk
theorem g_dup (C : Cx W Z R own code mx ret nm wsx hx0) {x : Value} (hd : decode code pc = .ok (.dup, 1)) (hp : pc + 1 = pc') (hc : x.category = 1) (g : Go W Q h k n pc' L (x :: x :: S)) : Go W Q h k n pc L (x :: S) := by
  subst hp
  exact g.st fun T locs X e t kk => XS.dup (g := mkF W.m pc L (x :: S)) X.here C.x rfl (C.b hd) rfl hc kk
theorem g_dup_x1 (C : Cx W Z R own code mx ret nm wsx hx0) {x y : Value} (hd : decode code pc = .ok (.dup_x1, 1)) (hp : pc + 1 = pc') (hc : x.category = 1) (hc' : y.category = 1) (g : Go W Q h k n pc' L (x :: y :: x :: S)) : Go W Q h k n pc L (x :: y :: S) := by
  subst hp
  exact g.st fun T locs X e t kk => XS.dupX1 (g := mkF W.m pc L (x :: y :: S)) X.here C.x rfl (C.b hd) rfl hc hc' kk
theorem dupX2s {tb : Tables} [Ours tb] {e : Env} {below : List Frame} {T target : State} {m : MethodId} {c : Code} {g : JFrame} (h : At T m c below) (hx : tb.exec = Jvm.exec) (hg : g.method = m) {x y z : Value} {rest : List Value} (hd : decode c.code g.pc = .ok (.dup_x2, 1)) (hs : g.stack = x :: y :: z :: rest) (hc : x.category = 1) (hc' : y.category = 1) (hc'' : z.category = 1)
    (hr : Steps tb e below (T.setTop { g with pc := g.pc + 1, stack := x :: y :: z :: x :: rest }) target) : Steps tb e below (T.setTop g) target := by
  subst hg
  jvm_step h [h.top, hx, hd, hs, hc, hc', hc'']
  exact hr
theorem g_dup_x2 (C : Cx W Z R own code mx ret nm wsx hx0) {x y z : Value} (hd : decode code pc = .ok (.dup_x2, 1)) (hp : pc + 1 = pc') (hc : x.category = 1) (hc' : y.category = 1) (hc'' : z.category = 1) (g : Go W Q h k n pc' L (x :: y :: z :: x :: S)) : Go W Q h k n pc L (x :: y :: z :: S) := by
  subst hp
  exact g.st fun T locs X e t kk => dupX2s (g := mkF W.m pc L (x :: y :: z :: S)) X.here C.x rfl (C.b hd) rfl hc hc' hc'' kk
theorem g_dup2 (C : Cx W Z R own code mx ret nm wsx hx0) {x y : Value} (hd : decode code pc = .ok (.dup2, 1)) (hp : pc + 1 = pc') (hc : x.category = 1) (hc' : y.category = 1) (g : Go W Q h k n pc' L (x :: y :: x :: y :: S)) : Go W Q h k n pc L (x :: y :: S) := by
  subst hp
  exact g.st fun T locs X e t kk => XT.dup2 (g := mkF W.m pc L (x :: y :: S)) X.here C.x rfl (C.b hd) rfl hc hc' kk
theorem g_dup2L (C : Cx W Z R own code mx ret nm wsx hx0) {x : Int64} (hd : decode code pc = .ok (.dup2, 1)) (hp : pc + 1 = pc') (g : Go W Q h k n pc' L (.long x :: .long x :: S)) : Go W Q h k n pc L (.long x :: S) := by
  subst hp
  exact g.st fun T locs X e t kk => XT.dup2L (g := mkF W.m pc L (.long x :: S)) X.here C.x rfl (C.b hd) rfl kk
theorem g_pop (C : Cx W Z R own code mx ret nm wsx hx0) {x : Value} (hd : decode code pc = .ok (.pop, 1)) (hp : pc + 1 = pc') (hc : x.category = 1) (g : Go W Q h k n pc' L (S)) : Go W Q h k n pc L (x :: S) := by
  subst hp
  exact g.st fun T locs X e t kk => XS.pop (g := mkF W.m pc L (x :: S)) X.here C.x rfl (C.b hd) rfl hc kk
theorem g_iload (C : Cx W Z R own code mx ret nm wsx hx0) {i : Nat} {x : Int32} (hd : decode code pc = .ok (.iload i, 2)) (hp : pc + 2 = pc') (hl : L[i]? = some (.val (.int x))) (g : Go W Q h k n pc' L (.int x :: S)) : Go W Q h k n pc L (S) := by
  subst hp
  exact g.st fun T locs X e t kk => XS.iload (g := mkF W.m pc L (S)) X.here C.x rfl (C.b hd) hl kk
theorem g_iloadN (C : Cx W Z R own code mx ret nm wsx hx0) {i : Fin 4} {x : Int32} (hd : decode code pc = .ok (.iload_n i, 1)) (hp : pc + 1 = pc') (hl : L[i.val]? = some (.val (.int x))) (g : Go W Q h k n pc' L (.int x :: S)) : Go W Q h k n pc L (S) := by
  subst hp
  exact g.st fun T locs X e t kk => XS.iloadN (g := mkF W.m pc L (S)) X.here C.x rfl (C.b hd) hl kk
theorem g_lload (C : Cx W Z R own code mx ret nm wsx hx0) {i : Nat} {x : Int64} (hd : decode code pc = .ok (.lload i, 2)) (hp : pc + 2 = pc') (hl : L[i]? = some (.val (.long x))) (g : Go W Q h k n pc' L (.long x :: S)) : Go W Q h k n pc L (S) := by
  subst hp
  exact g.st fun T locs X e t kk => XS.lload (g := mkF W.m pc L (S)) X.here C.x rfl (C.b hd) hl kk
theorem g_lloadN (C : Cx W Z R own code mx ret nm wsx hx0) {i : Fin 4} {x : Int64} (hd : decode code pc = .ok (.lload_n i, 1)) (hp : pc + 1 = pc') (hl : L[i.val]? = some (.val (.long x))) (g : Go W Q h k n pc' L (.long x :: S)) : Go W Q h k n pc L (S) := by
  subst hp
  exact g.st fun T locs X e t kk => XS.lloadN (g := mkF W.m pc L (S)) X.here C.x rfl (C.b hd) hl kk
theorem g_aload (C : Cx W Z R own code mx ret nm wsx hx0) {i : Nat} {x : Value} (hd : decode code pc = .ok (.aload i, 2)) (hp : pc + 2 = pc') (hl : L[i]? = some (.val x)) (hv : x.isRef = true) (g : Go W Q h k n pc' L (x :: S)) : Go W Q h k n pc L (S) := by
  subst hp
  exact g.st fun T locs X e t kk => XS.aload (g := mkF W.m pc L (S)) X.here C.x rfl (C.b hd) hl hv kk
theorem g_istore (C : Cx W Z R own code mx ret nm wsx hx0) {i : Nat} {x : Int32} (hd : decode code pc = .ok (.istore i, 2)) (hp : pc + 2 = pc') (hl : storeLocals L i (.int x) = some L') (g : Go W Q h k n pc' L' (S)) : Go W Q h k n pc L (.int x :: S) := by
  subst hp
  exact g.st fun T locs X e t kk => XS.istore (g := mkF W.m pc L (.int x :: S)) X.here C.x rfl (C.b hd) rfl hl kk
theorem g_lstore (C : Cx W Z R own code mx ret nm wsx hx0) {i : Nat} {x : Int64} (hd : decode code pc = .ok (.lstore i, 2)) (hp : pc + 2 = pc') (hl : storeLocals L i (.long x) = some L') (g : Go W Q h k n pc' L' (S)) : Go W Q h k n pc L (.long x :: S) := by
  subst hp
  exact g.st fun T locs X e t kk => XS.lstore (g := mkF W.m pc L (.long x :: S)) X.here C.x rfl (C.b hd) rfl hl kk
theorem g_astore (C : Cx W Z R own code mx ret nm wsx hx0) {i : Nat} {x : Value} (hd : decode code pc = .ok (.astore i, 2)) (hp : pc + 2 = pc') (hv : x.isRef = true) (hl : storeLocals L i x = some L') (g : Go W Q h k n pc' L' (S)) : Go W Q h k n pc L (x :: S) := by
  subst hp
  exact g.st fun T locs X e t kk => XS.astore (g := mkF W.m pc L (x :: S)) X.here C.x rfl (C.b hd) rfl hv hl kk
theorem g_aloadN (C : Cx W Z R own code mx ret nm wsx hx0) {i : Fin 4} {x : Value} (hd : decode code pc = .ok (.aload_n i, 1)) (hp : pc + 1 = pc') (hl : L[i.val]? = some (.val x)) (hv : x.isRef = true) (g : Go W Q h k n pc' L (x :: S)) : Go W Q h k n pc L (S) := by
  subst hp
  exact g.st fun T locs X e t kk => XS.aloadN (g := mkF W.m pc L (S)) X.here C.x rfl (C.b hd) hl hv kk
theorem g_istoreN (C : Cx W Z R own code mx ret nm wsx hx0) {i : Fin 4} {x : Int32} (hd : decode code pc = .ok (.istore_n i, 1)) (hp : pc + 1 = pc') (hl : storeLocals L i.val (.int x) = some L') (g : Go W Q h k n pc' L' (S)) : Go W Q h k n pc L (.int x :: S) := by
  subst hp
  exact g.st fun T locs X e t kk => XS.istoreN (g := mkF W.m pc L (.int x :: S)) X.here C.x rfl (C.b hd) rfl hl kk
theorem g_lstoreN (C : Cx W Z R own code mx ret nm wsx hx0) {i : Fin 4} {x : Int64} (hd : decode code pc = .ok (.lstore_n i, 1)) (hp : pc + 1 = pc') (hl : storeLocals L i.val (.long x) = some L') (g : Go W Q h k n pc' L' (S)) : Go W Q h k n pc L (.long x :: S) := by
  subst hp
  exact g.st fun T locs X e t kk => XS.lstoreN (g := mkF W.m pc L (.long x :: S)) X.here C.x rfl (C.b hd) rfl hl kk
theorem g_astoreN (C : Cx W Z R own code mx ret nm wsx hx0) {i : Fin 4} {x : Value} (hd : decode code pc = .ok (.astore_n i, 1)) (hp : pc + 1 = pc') (hv : x.isRef = true) (hl : storeLocals L i.val x = some L') (g : Go W Q h k n pc' L' (S)) : Go W Q h k n pc L (x :: S) := by
  subst hp
  exact g.st fun T locs X e t kk => XS.astoreN (g := mkF W.m pc L (x :: S)) X.here C.x rfl (C.b hd) rfl hv hl kk
theorem g_iinc (C : Cx W Z R own code mx ret nm wsx hx0) {i : Nat} {cst : Int} {x z : Int32} (hd : decode code pc = .ok (.iinc i cst, 3)) (hp : pc + 3 = pc') (hl : L[i]? = some (.val (.int x))) (hz : x + Int32.ofInt cst = z) (hl' : storeLocals L i (.int z) = some L') (g : Go W Q h k n pc' L' (S)) : Go W Q h k n pc L (S) := by
  subst hp
  exact g.st fun T locs X e t kk => XS.iinc (g := mkF W.m pc L (S)) X.here C.x rfl (C.b hd) hl (hz ▸ hl') kk
theorem g_goto (C : Cx W Z R own code mx ret nm wsx hx0) {o : Int} (hd : decode code pc = .ok (.goto o, 3)) (ho : 0 ≤ (pc : Int) + o) (hp : ((pc : Int) + o).toNat = pc') (g : Go W Q h k n pc' L S) : Go W Q h k n pc L S :=
  g.st fun T locs X e t kk => XS.goto (g := mkF W.m pc L S) X.here C.x rfl rfl (C.b hd) ho hp kk
theorem g_ldcI (C : Cx W Z R own code mx ret nm wsx hx0) {i : Nat} {z : Int32} (hd : decode code pc = .ok (.ldc i, 2)) (hp : pc + 2 = pc') (w : (Jvm.Cond.constant own i z).before a0 Z = true) (g : Go W Q h k n pc' L (.int z :: S)) : Go W Q h k n pc L S := by
  subst hp
  exact g.st fun T locs X e t kk => X.ldcInt C.x C.o (mvT C.z w) (g := mkF W.m pc L S) rfl (C.b hd) t kk
theorem g_ldcwI (C : Cx W Z R own code mx ret nm wsx hx0) {i : Nat} {z : Int32} (hd : decode code pc = .ok (.ldc_w i, 3)) (hp : pc + 3 = pc') (w : (Jvm.Cond.constant own i z).before a0 Z = true) (g : Go W Q h k n pc' L (.int z :: S)) : Go W Q h k n pc L S := by
  subst hp
  exact g.st fun T locs X e t kk => X.ldcwInt C.x C.o (mvT C.z w) (g := mkF W.m pc L S) rfl (C.b hd) t kk
theorem g_ldc2L (C : Cx W Z R own code mx ret nm wsx hx0) {i : Nat} {z : Int64} (hd : decode code pc = .ok (.ldc2_w i, 3)) (hp : pc + 3 = pc') (w : (Jvm.Cond.constantLong own i z).before a0 Z = true) (g : Go W Q h k n pc' L (.long z :: S)) : Go W Q h k n pc L S := by
  subst hp
  exact g.st fun T locs X e t kk => X.ldc2Long C.x C.o (mvT C.z w) (g := mkF W.m pc L S) rfl (C.b hd) t kk
theorem g_ldcF (C : Cx W Z R own code mx ret nm wsx hx0) {i : Nat} {z : UInt32} (hd : decode code pc = .ok (.ldc i, 2)) (hp : pc + 2 = pc') (w : (Jvm.Cond.constantFloat own i z).before a0 Z = true) (g : Go W Q h k n pc' L (.float z :: S)) : Go W Q h k n pc L S := by
  subst hp
  obtain ⟨kk, cf, hk, hcf, hcp⟩ := Cond.constantFloat_spec C.o (mvT (args := #[]) C.z w)
  exact g.st fun T locs X e t kt => X.ldcFloat C.x hk hcf hcp (g := mkF W.m pc L S) rfl (C.b hd) t kt
/-- what a branch asks of two integers -/
def icp : ClassFile.Cond → Int → Int → Prop
  | .eq, x, y => x = y
  | .ne, x, y => ¬ x = y
  | .lt, x, y => x < y
  | .ge, x, y => y ≤ x
  | .gt, x, y => y < x
  | .le, x, y => x ≤ y
instance instIcp : (cd : ClassFile.Cond) → (x y : Int) → Decidable (icp cd x y)
  | .eq, x, y => inferInstanceAs (Decidable (x = y))
  | .ne, x, y => inferInstanceAs (Decidable (¬ x = y))
  | .lt, x, y => inferInstanceAs (Decidable (x < y))
  | .ge, x, y => inferInstanceAs (Decidable (y ≤ x))
  | .gt, x, y => inferInstanceAs (Decidable (y < x))
  | .le, x, y => inferInstanceAs (Decidable (x ≤ y))
theorem icp_eq (cd : ClassFile.Cond) (x y : Int32) : if_icmp.holds cd x y = decide (icp cd x.toInt y.toInt) := by
  rw [Bool.eq_iff_iff, decide_eq_true_iff]
  cases cd <;> simp [if_icmp.holds, icp, Int32.lt_iff_toInt_lt, Int32.le_iff_toInt_le, Int32.toInt_inj]
theorem icp_long (cd : ClassFile.Cond) (x y : Int64) : ifCond.holds cd (lcmpW x y) = decide (icp cd x.toInt y.toInt) := by
  rw [if0, icp_eq, Bool.eq_iff_iff, decide_eq_true_iff, decide_eq_true_iff]
  have c := c_lcmp x y
  have z : (0 : Int32).toInt = 0 := rfl
  rw [z]
  rcases Int.lt_trichotomy x.toInt y.toInt with q | q | q
  · rw [c.1 q]; cases cd <;> simp only [icp] <;> omega
  · rw [c.2.1 q]; cases cd <;> simp only [icp] <;> first | omega | simp [q]
  · rw [c.2.2 q]; cases cd <;> simp only [icp] <;> omega

theorem g_icmpY (C : Cx W Z R own code mx ret nm wsx hx0) {cd : ClassFile.Cond} {o : Int} {x y : Int32} {xi yi : Int} (hd : decode code pc = .ok (.if_icmp cd o, 3)) (ho : 0 ≤ (pc : Int) + o) (hp1 : ((pc : Int) + o).toNat = pc1) (hx : x.toInt = xi) (hy : y.toInt = yi) (q : icp cd xi yi) (g : Go W Q h k n pc1 L S) : Go W Q h k n pc L (.int y :: .int x :: S) := by
  subst hx hy
  exact g.st fun T locs X e t kk => XS.icmpYes (g := mkF W.m pc L (.int y :: .int x :: S)) X.here C.x rfl rfl (C.b hd) rfl ((icp_eq cd x y).trans (decide_eq_true q)) ho hp1 kk
theorem g_icmpN (C : Cx W Z R own code mx ret nm wsx hx0) {cd : ClassFile.Cond} {o : Int} {x y : Int32} {xi yi : Int} (hd : decode code pc = .ok (.if_icmp cd o, 3)) (hp2 : pc + 3 = pc2) (hx : x.toInt = xi) (hy : y.toInt = yi) (q : ¬ (icp cd xi yi)) (g : Go W Q h k n pc2 L S) : Go W Q h k n pc L (.int y :: .int x :: S) := by
  subst hx hy hp2
  exact g.st fun T locs X e t kk => XS.icmpNo (g := mkF W.m pc L (.int y :: .int x :: S)) X.here C.x rfl (C.b hd) rfl ((icp_eq cd x y).trans (decide_eq_false q)) kk
theorem g_icmp (C : Cx W Z R own code mx ret nm wsx hx0) {cd : ClassFile.Cond} {o : Int} {x y : Int32} {xi yi : Int} (hd : decode code pc = .ok (.if_icmp cd o, 3)) (ho : 0 ≤ (pc : Int) + o) (hp1 : ((pc : Int) + o).toNat = pc1) (hp2 : pc + 3 = pc2) (hx : x.toInt = xi) (hy : y.toInt = yi) (g1 : icp cd xi yi → Go W Q h k n pc1 L S) (g2 : ¬ (icp cd xi yi) → Go W Q h k n pc2 L S) : Go W Q h k n pc L (.int y :: .int x :: S) := by
  by_cases q : icp cd xi yi
  · exact g_icmpY C hd ho hp1 hx hy q (g1 q)
  · exact g_icmpN C hd hp2 hx hy q (g2 q)
theorem g_ifY (C : Cx W Z R own code mx ret nm wsx hx0) {cd : ClassFile.Cond} {o : Int} {x : Int32} {xi : Int} (hd : decode code pc = .ok (.ifCond cd o, 3)) (ho : 0 ≤ (pc : Int) + o) (hp1 : ((pc : Int) + o).toNat = pc1) (hx : x.toInt = xi) (q : icp cd xi 0) (g : Go W Q h k n pc1 L S) : Go W Q h k n pc L (.int x :: S) := by
  subst hx
  exact g.st fun T locs X e t kk => XS.ifYes (g := mkF W.m pc L (.int x :: S)) X.here C.x rfl rfl (C.b hd) rfl ((if0 cd x).trans ((icp_eq cd x 0).trans (decide_eq_true q))) ho hp1 kk
theorem g_ifN (C : Cx W Z R own code mx ret nm wsx hx0) {cd : ClassFile.Cond} {o : Int} {x : Int32} {xi : Int} (hd : decode code pc = .ok (.ifCond cd o, 3)) (hp2 : pc + 3 = pc2) (hx : x.toInt = xi) (q : ¬ (icp cd xi 0)) (g : Go W Q h k n pc2 L S) : Go W Q h k n pc L (.int x :: S) := by
  subst hx hp2
  exact g.st fun T locs X e t kk => XS.ifNo (g := mkF W.m pc L (.int x :: S)) X.here C.x rfl (C.b hd) rfl ((if0 cd x).trans ((icp_eq cd x 0).trans (decide_eq_false q))) kk
theorem g_if (C : Cx W Z R own code mx ret nm wsx hx0) {cd : ClassFile.Cond} {o : Int} {x : Int32} {xi : Int} (hd : decode code pc = .ok (.ifCond cd o, 3)) (ho : 0 ≤ (pc : Int) + o) (hp1 : ((pc : Int) + o).toNat = pc1) (hp2 : pc + 3 = pc2) (hx : x.toInt = xi) (g1 : icp cd xi 0 → Go W Q h k n pc1 L S) (g2 : ¬ (icp cd xi 0) → Go W Q h k n pc2 L S) : Go W Q h k n pc L (.int x :: S) := by
  by_cases q : icp cd xi 0
  · exact g_ifY C hd ho hp1 hx q (g1 q)
  · exact g_ifN C hd hp2 hx q (g2 q)
/-- lcmp and the branch behind it -/
theorem g_lcmpY (C : Cx W Z R own code mx ret nm wsx hx0) {cd : ClassFile.Cond} {o : Int} {x y : Int64} {xi yi : Int} (hd : decode code pc = .ok (.lcmp, 1)) (hd' : decode code pc' = .ok (.ifCond cd o, 3)) (hp : pc + 1 = pc') (ho : 0 ≤ (pc' : Int) + o) (hp1 : ((pc' : Int) + o).toNat = pc1) (hx : x.toInt = xi) (hy : y.toInt = yi) (q : icp cd xi yi) (g : Go W Q h k n pc1 L S) : Go W Q h k n pc L (.long y :: .long x :: S) := by
  subst hp hx hy
  have g' : Go W Q h k n (pc + 1) L (.int (lcmpW x y) :: S) := g.st fun T locs X e t kk => XS.ifYes (g := mkF W.m (pc + 1) L (.int (lcmpW x y) :: S)) X.here C.x rfl rfl (C.b hd') rfl ((icp_long cd x y).trans (decide_eq_true q)) ho hp1 kk
  exact g'.st fun T locs X e t kk => XS.lcmp (g := mkF W.m pc L (.long y :: .long x :: S)) X.here C.x rfl (C.b hd) rfl kk
theorem g_lcmpN (C : Cx W Z R own code mx ret nm wsx hx0) {cd : ClassFile.Cond} {o : Int} {x y : Int64} {xi yi : Int} (hd : decode code pc = .ok (.lcmp, 1)) (hd' : decode code pc' = .ok (.ifCond cd o, 3)) (hp : pc + 1 = pc') (hp2 : pc' + 3 = pc2) (hx : x.toInt = xi) (hy : y.toInt = yi) (q : ¬ icp cd xi yi) (g : Go W Q h k n pc2 L S) : Go W Q h k n pc L (.long y :: .long x :: S) := by
  subst hp hx hy hp2
  have g' : Go W Q h k n (pc + 1) L (.int (lcmpW x y) :: S) := g.st fun T locs X e t kk => XS.ifNo (g := mkF W.m (pc + 1) L (.int (lcmpW x y) :: S)) X.here C.x rfl (C.b hd') rfl ((icp_long cd x y).trans (decide_eq_false q)) kk
  exact g'.st fun T locs X e t kk => XS.lcmp (g := mkF W.m pc L (.long y :: .long x :: S)) X.here C.x rfl (C.b hd) rfl kk
theorem g_lcmp (C : Cx W Z R own code mx ret nm wsx hx0) {cd : ClassFile.Cond} {o : Int} {x y : Int64} {xi yi : Int} (hd : decode code pc = .ok (.lcmp, 1)) (hd' : decode code pc' = .ok (.ifCond cd o, 3)) (hp : pc + 1 = pc') (ho : 0 ≤ (pc' : Int) + o) (hp1 : ((pc' : Int) + o).toNat = pc1) (hp2 : pc' + 3 = pc2) (hx : x.toInt = xi) (hy : y.toInt = yi) (g1 : icp cd xi yi → Go W Q h k n pc1 L S) (g2 : ¬ icp cd xi yi → Go W Q h k n pc2 L S) : Go W Q h k n pc L (.long y :: .long x :: S) := by
  by_cases q : icp cd xi yi
  · exact g_lcmpY C hd hd' hp ho hp1 hx hy q (g1 q)
  · exact g_lcmpN C hd hd' hp hp2 hx hy q (g2 q)
theorem icp_b0 {P : Prop} [Decidable P] : icp .eq (b2i P).toInt 0 ↔ ¬ P := by
  show (b2i P).toInt = 0 ↔ ¬ P
  rw [b2i_toInt]; split <;> simp [*]
theorem icp_b1 {P : Prop} [Decidable P] : icp .ne (b2i P).toInt 0 ↔ P := by
  show ¬ (b2i P).toInt = 0 ↔ P
  rw [b2i_toInt]; split <;> simp [*]
/-- ifeq on a truth value -/
theorem g_ifeqb (C : Cx W Z R own code mx ret nm wsx hx0) {o : Int} {x : Int32} {P : Prop} [Decidable P] (hd : decode code pc = .ok (.ifCond .eq o, 3)) (ho : 0 ≤ (pc : Int) + o) (hp1 : ((pc : Int) + o).toNat = pc1) (hp2 : pc + 3 = pc2) (hx : x = b2i P) (g1 : ¬ P → Go W Q h k n pc1 L S) (g2 : P → Go W Q h k n pc2 L S) : Go W Q h k n pc L (.int x :: S) := by
  subst hx
  exact g_if C hd ho hp1 hp2 rfl (fun q => g1 (icp_b0.mp q)) (fun q => g2 (Decidable.not_not.mp fun z => q (icp_b0.mpr z)))
/-- ifne on a truth value -/
theorem g_ifneb (C : Cx W Z R own code mx ret nm wsx hx0) {o : Int} {x : Int32} {P : Prop} [Decidable P] (hd : decode code pc = .ok (.ifCond .ne o, 3)) (ho : 0 ≤ (pc : Int) + o) (hp1 : ((pc : Int) + o).toNat = pc1) (hp2 : pc + 3 = pc2) (hx : x = b2i P) (g1 : P → Go W Q h k n pc1 L S) (g2 : ¬ P → Go W Q h k n pc2 L S) : Go W Q h k n pc L (.int x :: S) := by
  subst hx
  exact g_if C hd ho hp1 hp2 rfl (fun q => g1 (icp_b1.mp q)) (fun q => g2 fun z => q (icp_b1.mpr z))
theorem g_icmpbeq (C : Cx W Z R own code mx ret nm wsx hx0) {o : Int} {x y : Int32} {P P' : Prop} [Decidable P] [Decidable P'] (hd : decode code pc = .ok (.if_icmp .eq o, 3)) (ho : 0 ≤ (pc : Int) + o) (hp1 : ((pc : Int) + o).toNat = pc1) (hp2 : pc + 3 = pc2) (hx : x = b2i P) (hy : y = b2i P') (g1 : (P ↔ P') → Go W Q h k n pc1 L S) (g2 : ¬ (P ↔ P') → Go W Q h k n pc2 L S) : Go W Q h k n pc L (.int y :: .int x :: S) := by
  subst hx hy
  exact g_icmp C hd ho hp1 hp2 rfl rfl (fun q => g1 (b2i_inj.mp (Int32.toInt_inj.mp q))) (fun q => g2 fun z => q (congrArg Int32.toInt (b2i_inj.mpr z)))
theorem g_icmpbne (C : Cx W Z R own code mx ret nm wsx hx0) {o : Int} {x y : Int32} {P P' : Prop} [Decidable P] [Decidable P'] (hd : decode code pc = .ok (.if_icmp .ne o, 3)) (ho : 0 ≤ (pc : Int) + o) (hp1 : ((pc : Int) + o).toNat = pc1) (hp2 : pc + 3 = pc2) (hx : x = b2i P) (hy : y = b2i P') (g1 : ¬ (P ↔ P') → Go W Q h k n pc1 L S) (g2 : (P ↔ P') → Go W Q h k n pc2 L S) : Go W Q h k n pc L (.int y :: .int x :: S) := by
  subst hx hy
  exact g_icmp C hd ho hp1 hp2 rfl rfl (fun q => g1 fun z => q (congrArg Int32.toInt (b2i_inj.mpr z))) (fun q => g2 (b2i_inj.mp (Int32.toInt_inj.mp (Decidable.not_not.mp q))))
theorem isRef_cases {v : Value} (hv : v.isRef = true) (h0 : v ≠ .null) : ∃ b, v = .ref b := by
  rcases ref_cases hv with q | q
  · exact absurd q h0
  · exact q
theorem g_ifnonnull (C : Cx W Z R own code mx ret nm wsx hx0) {o : Int} {v : Value} (hd : decode code pc = .ok (.ifnonnull o, 3)) (ho : 0 ≤ (pc : Int) + o) (hp1 : ((pc : Int) + o).toNat = pc1) (hp2 : pc + 3 = pc2) (hv : v.isRef = true) (g1 : v ≠ .null → Go W Q h k n pc1 L S) (g2 : v = .null → Go W Q h k n pc2 L S) : Go W Q h k n pc L (v :: S) := by
  by_cases q : v = .null
  · have g := g2 q
    subst q hp2
    exact g.st fun T locs X e t kk => XS.ifnonnullNo (g := mkF W.m pc L (.null :: S)) X.here C.x rfl (C.b hd) rfl kk
  · have g := g1 q
    obtain ⟨b, rfl⟩ := isRef_cases hv q
    exact g.st fun T locs X e t kk => XS.ifnonnullYes (g := mkF W.m pc L (.ref b :: S)) X.here C.x rfl rfl (C.b hd) rfl ho hp1 kk
theorem g_ifnull (C : Cx W Z R own code mx ret nm wsx hx0) {o : Int} {v : Value} (hd : decode code pc = .ok (.ifnull o, 3)) (ho : 0 ≤ (pc : Int) + o) (hp1 : ((pc : Int) + o).toNat = pc1) (hp2 : pc + 3 = pc2) (hv : v.isRef = true) (g1 : v = .null → Go W Q h k n pc1 L S) (g2 : v ≠ .null → Go W Q h k n pc2 L S) : Go W Q h k n pc L (v :: S) := by
  by_cases q : v = .null
  · have g := g1 q
    subst q
    exact g.st fun T locs X e t kk => XS.ifnullYes (g := mkF W.m pc L (.null :: S)) X.here C.x rfl rfl (C.b hd) rfl ho hp1 kk
  · have g := g2 q
    obtain ⟨b, rfl⟩ := isRef_cases hv q
    subst hp2
    exact g.st fun T locs X e t kk => XS.ifnullNo (g := mkF W.m pc L (.ref b :: S)) X.here C.x rfl (C.b hd) rfl kk
theorem g_acmpne (C : Cx W Z R own code mx ret nm wsx hx0) {o : Int} {v w : Value} (hd : decode code pc = .ok (.if_acmp .ne o, 3)) (ho : 0 ≤ (pc : Int) + o) (hp1 : ((pc : Int) + o).toNat = pc1) (hp2 : pc + 3 = pc2) (hv : v.isRef = true) (hw : w.isRef = true) (g1 : v ≠ w → Go W Q h k n pc1 L S) (g2 : v = w → Go W Q h k n pc2 L S) : Go W Q h k n pc L (w :: v :: S) := by
  by_cases q : v = w
  · exact (g2 q).st fun T locs X e t kk => Jvm.RoadKit.acmp (g := mkF W.m pc L (w :: v :: S)) X C.x rfl hv hw (same := true) rfl (C.b hd) rfl (decide_eq_true q) ho (by rw [← hp2]; rfl) kk
  · exact (g1 q).st fun T locs X e t kk => Jvm.RoadKit.acmp (g := mkF W.m pc L (w :: v :: S)) X C.x rfl hv hw (same := false) rfl (C.b hd) rfl (decide_eq_false q) ho hp1.symm kk
theorem g_acmpeq (C : Cx W Z R own code mx ret nm wsx hx0) {o : Int} {v w : Value} (hd : decode code pc = .ok (.if_acmp .eq o, 3)) (ho : 0 ≤ (pc : Int) + o) (hp1 : ((pc : Int) + o).toNat = pc1) (hp2 : pc + 3 = pc2) (hv : v.isRef = true) (hw : w.isRef = true) (g1 : v = w → Go W Q h k n pc1 L S) (g2 : v ≠ w → Go W Q h k n pc2 L S) : Go W Q h k n pc L (w :: v :: S) := by
  by_cases q : v = w
  · exact (g1 q).st fun T locs X e t kk => Jvm.RoadKit.acmp (g := mkF W.m pc L (w :: v :: S)) X C.x rfl hv hw (same := true) rfl (C.b hd) rfl (decide_eq_true q) ho hp1.symm kk
  · exact (g2 q).st fun T locs X e t kk => Jvm.RoadKit.acmp (g := mkF W.m pc L (w :: v :: S)) X C.x rfl hv hw (same := false) rfl (C.b hd) rfl (decide_eq_false q) ho (by rw [← hp2]; rfl) kk

/-! fields, objects, arrays -/
theorem g_getL (C : Cx W Z R own code mx ret nm wsx hx0) {i : Nat} {R0 O f d host : String} {a : Addr} {v : Value} (hd : decode code pc = .ok (.getfield i, 3)) (hp : pc + 3 = pc') (w : (Jvm.Cond.fieldLink own i R0 f d).before a0 Z = true ∨ (Jvm.Cond.fieldLinkNest own i R0 f d host).before a0 Z = true) (via : Via Z R0 O f d) (F : Fld Z h a O f d v) (g : Go W Q h k n pc' L (v :: S)) : Go W Q h k n pc L (.ref a :: S) := fun T hT => by
  obtain ⟨locs, X, e, N⟩ := hT
  subst hp
  obtain ⟨T', X', e', st⟩ := getF X C.x C.z C.o w via e F (g := mkF W.m pc L (.ref a :: S)) rfl rfl (C.b hd)
  exact Out.st st (g T' ⟨locs, X', e', N⟩)
theorem g_getO (C : Cx W Z R own code mx ret nm wsx hx0) {i j : Nat} {O f d Cl : String} {a : Addr} {v : Value} {fs : List (String × String × String × Value)} (hd : decode code pc = .ok (.getfield i, 3)) (hp : pc + 3 = pc') (w : (Jvm.Cond.fieldLink own i O f d).before a0 Z = true) (F : Ob Z h a Cl fs) (hj : fs[j]? = some (O, f, d, v)) (g : Go W Q h k n pc' L (v :: S)) : Go W Q h k n pc L (.ref a :: S) :=
  g_getL (host := "") C hd hp (Or.inl w) Via.refl (F.get hj) g
theorem pw_size (C : Cx W Z R own code mx ret nm wsx hx0) {T : State} {locs : List Loc} (X : Sta0 W T locs k n) (e : T.heap = h) : Pw W h.size := by
  have q : W.s.heap.size ≤ T.heap.size := X.same.2.1
  rw [e] at q
  exact Or.inr q
theorem g_putO (C : Cx W Z R own code mx ret nm wsx hx0) {i j kk : Nat} {R0 O f d Cl : String} {ty : FieldType} {a : Addr} {v v' old : Value} {fs fs' : List (String × String × String × Value)} (hd : decode code pc = .ok (.putfield i, 3)) (hp : pc + 3 = pc') (w : (Jvm.Cond.fieldLink own i R0 f d).before a0 Z = true) (via : Via Z R0 O f d) (F : Ob Z h a Cl fs) (hj : fs[j]? = some (O, f, d, old))
    (Lw : (Jvm.Cond.lays Cl O f d).before a0 Z = true ∨ ((Jvm.Cond.laysFinal Cl O f d).before a0 Z = true ∧ own = O ∧ nm = "<init>")) (wi : (Jvm.Cond.instantiable Cl kk).before a0 Z = true) (hty : parseFieldDescriptor d = some ty) (hn : narrow ty v = v') (hf : fits ty v' = true) (hset : fs.set j (O, f, d, v') = fs') (q : Pw W a)
    (g : ∀ h', Ob Z h' a Cl fs' → Keep h h' [a] → Go W Q h' k n pc' L S) : Go W Q h k n pc L (v :: .ref a :: S) := fun T hT => by
  obtain ⟨locs, X, e, N⟩ := hT
  subst hp hset
  obtain ⟨T', h', X', e', Wx, st⟩ := putFN X C.x C.z C.o w via e (F.get hj) F.1 (Lw.imp id fun z => ⟨z.1, z.2.1, C.nme.trans z.2.2⟩) wi hty hn hf (g := mkF W.m pc L (v :: .ref a :: S)) rfl rfl (C.b hd)
  refine Out.st st (g h' (F.put hj Wx) (Keep.of_wr Wx) T' ⟨_, X', e', fun y hy => ?_⟩)
  rcases List.mem_append.mp hy with z | z
  · exact N y z
  · cases List.mem_singleton.mp z; exact q
theorem g_new (C : Cx W Z R own code mx ret nm wsx hx0) {i nn : Nat} {Cl : String} (hd : decode code pc = .ok (.new i, 3)) (hp : pc + 3 = pc') (w : (Jvm.Cond.classLink own i Cl).before a0 Z = true) (wi : (Jvm.Cond.instantiable Cl nn).before a0 Z = true) (wz : (Jvm.Cond.initialized Cl).before a0 Z = true) {k' n' : Nat} (hk : k + 1 = k') (hn : n + nn = n') (hc : k' ≤ R.cells) (hs : n' ≤ R.slots)
    (g : ∀ (h' : Heap) (a : Addr), a = h.size → Ext h h' → Exa Z h' a Cl → (∀ {O f d : String} {ty : FieldType}, Laid Z a0 Cl O f d → parseFieldDescriptor d = some ty → Fld Z h' a O f d (defaultValue ty)) → Pw W a → Go W Q h' k' n' pc' L (.ref a :: S)) : Go W Q h k n pc L S := fun T hT => by
  obtain ⟨locs, X, e, N⟩ := hT
  subst hp hk hn
  obtain ⟨T', h', X', e', E, A, D, -, st⟩ := newO X C.x C.z C.o w wi wz e (g := mkF W.m pc L S) rfl (C.b hd) (by rw [C.r]; exact hc) (by rw [C.r]; exact hs)
  exact Out.st st (g h' h.size rfl E A D (pw_size C X e) T' ⟨locs, X', e', N⟩)
theorem def_list (ty : FieldType) (cA : ClassId) {z : Int32} {len : Nat} (hz : z.toInt = len) : (newA cA ty z).slots.toList = List.replicate len (defaultValue ty) := by
  show (Array.replicate z.toNatClampNeg (defaultValue ty)).toList = _
  rw [clamp_of hz, Array.toList_replicate]
theorem g_newarray (C : Cx W Z R own code mx ret nm wsx hx0) {aty : ArrayType} {ty : FieldType} {z : Int32} {len cap : Nat} (hd : decode code pc = .ok (.newarray aty, 2)) (hp : pc + 2 = pc') (hty : newarray.typeOf aty = ty) (w : (Jvm.Cond.arrayClass ty).before a0 Z = true) (hz : z.toInt = len) (hcap : len ≤ cap) (hb8 : cap * 8 ≤ 536870912) {k' n' : Nat} (hk : k + 1 = k') (hn : n + cap = n') (hc : k' ≤ R.cells) (hs : n' ≤ R.slots)
    (g : ∀ (h' : Heap) (a : Addr), a = h.size → Ext h h' → Ar Z h' a ty (List.replicate len (defaultValue ty)) → Pw W a → Go W Q h' k' n' pc' L (.ref a :: S)) : Go W Q h k n pc L (.int z :: S) := fun T hT => by
  obtain ⟨locs, X, e, N⟩ := hT
  subst hp hty hk hn
  obtain ⟨T', h', cA, X', e', E, A, st⟩ := newP X C.x C.z w e (g := mkF W.m pc L (.int z :: S)) rfl (C.b hd) rfl (nneg_of hz) (cap := cap) (by rw [clamp_of hz]; exact hcap) hb8 (by rw [C.r]; exact hc) (by rw [C.r]; exact hs)
  exact Out.st st (g h' h.size rfl E ⟨_, A, def_list _ _ hz⟩ (pw_size C X e) T' ⟨locs, X', e', N⟩)
theorem g_anewarray (C : Cx W Z R own code mx ret nm wsx hx0) {i : Nat} {Cl : String} {z : Int32} {len cap : Nat} (hd : decode code pc = .ok (.anewarray i, 3)) (hp : pc + 3 = pc') (w : (Jvm.Cond.classLink own i Cl).before a0 Z = true) (w2 : (Jvm.Cond.arrayOver (.object Cl)).before a0 Z = true) (hz : z.toInt = len) (hcap : len ≤ cap) (hb8 : cap * 8 ≤ 536870912) {k' n' : Nat} (hk : k + 1 = k') (hn : n + cap = n') (hc : k' ≤ R.cells) (hs : n' ≤ R.slots)
    (g : ∀ (h' : Heap) (a : Addr), a = h.size → Ext h h' → ArR Z h' a Cl (List.replicate len .null) → Pw W a → Go W Q h' k' n' pc' L (.ref a :: S)) : Go W Q h k n pc L (.int z :: S) := fun T hT => by
  obtain ⟨locs, X, e, N⟩ := hT
  subst hp hk hn
  obtain ⟨T', h', cA, X', e', E, A, O, st⟩ := newR X C.x C.z C.o w w2 e (g := mkF W.m pc L (.int z :: S)) rfl (C.b hd) rfl (nneg_of hz) (cap := cap) (by rw [clamp_of hz]; exact hcap) hb8 (by rw [C.r]; exact hc) (by rw [C.r]; exact hs)
  exact Out.st st (g h' h.size rfl E ⟨_, A, def_list _ _ hz, O⟩ (pw_size C X e) T' ⟨locs, X', e', N⟩)
theorem g_arraylength (C : Cx W Z R own code mx ret nm wsx hx0) {a : Addr} {ty : FieldType} {vs : List Value} {z : Int32} (hd : decode code pc = .ok (.arraylength, 1)) (hp : pc + 1 = pc') (A : Ar Z h a ty vs) (hz : vs.length.toInt32 = z) (g : Go W Q h k n pc' L (.int z :: S)) : Go W Q h k n pc L (.ref a :: S) := by
  subst hp hz
  obtain ⟨c, A, e⟩ := A
  rw [← e, Array.length_toList] at g
  exact g.st fun T locs X eT t kk => X.arraylength C.x (by rw [eT]; exact A.1) (State.isArrayOf_alike C.z.alike A.2.1) (g := mkF W.m pc L (.ref a :: S)) rfl rfl (C.b hd) t kk
theorem g_arraylengthR (C : Cx W Z R own code mx ret nm wsx hx0) {a : Addr} {Cl : String} {vs : List Value} {z : Int32} (hd : decode code pc = .ok (.arraylength, 1)) (hp : pc + 1 = pc') (A : ArR Z h a Cl vs) (hz : vs.length.toInt32 = z) (g : Go W Q h k n pc' L (.int z :: S)) : Go W Q h k n pc L (.ref a :: S) := by
  obtain ⟨c, A, e, -⟩ := A
  exact g_arraylength C hd hp ⟨c, A, e⟩ hz g

theorem g_iaload (C : Cx W Z R own code mx ret nm wsx hx0) {a : Addr} {vs : List Value} {v : Value} {j : Int32} {i : Nat} (hd : decode code pc = .ok (.iaload, 1)) (hp : pc + 1 = pc') (A : Ar Z h a .int vs) (hj : j.toInt = i) (hv : vs[i]? = some v) (g : Go W Q h k n pc' L (v :: S)) : Go W Q h k n pc L (.int j :: .ref a :: S) := by
  subst hp
  obtain ⟨c, A, e⟩ := A
  subst e
  have hi := (List.getElem?_eq_some_iff.mp hv).1
  exact g.st fun T locs X eT t kk => X.iaload C.x (by rw [eT]; exact A.1) (State.isArrayOf_alike C.z.alike A.2.1) A.2.2 (in_of hj hi) (by rw [clamp_of hj, ← Array.getElem?_toList]; exact hv) (g := mkF W.m pc L (.int j :: .ref a :: S)) rfl rfl (C.b hd) t kk
theorem g_laload (C : Cx W Z R own code mx ret nm wsx hx0) {a : Addr} {vs : List Value} {v : Value} {j : Int32} {i : Nat} (hd : decode code pc = .ok (.laload, 1)) (hp : pc + 1 = pc') (A : Ar Z h a .long vs) (hj : j.toInt = i) (hv : vs[i]? = some v) (g : Go W Q h k n pc' L (v :: S)) : Go W Q h k n pc L (.int j :: .ref a :: S) := by
  subst hp
  obtain ⟨c, A, e⟩ := A
  subst e
  have hi := (List.getElem?_eq_some_iff.mp hv).1
  exact g.st fun T locs X eT t kk => X.laload C.x (by rw [eT]; exact A.1) (State.isArrayOf_alike C.z.alike A.2.1) A.2.2 (in_of hj hi) (by rw [clamp_of hj, ← Array.getElem?_toList]; exact hv) (g := mkF W.m pc L (.int j :: .ref a :: S)) rfl rfl (C.b hd) t kk
theorem g_caload (C : Cx W Z R own code mx ret nm wsx hx0) {a : Addr} {vs : List Value} {v : Value} {j : Int32} {i : Nat} (hd : decode code pc = .ok (.caload, 1)) (hp : pc + 1 = pc') (A : Ar Z h a .char vs) (hj : j.toInt = i) (hv : vs[i]? = some v) (g : Go W Q h k n pc' L (v :: S)) : Go W Q h k n pc L (.int j :: .ref a :: S) := by
  subst hp
  obtain ⟨c, A, e⟩ := A
  subst e
  have hi := (List.getElem?_eq_some_iff.mp hv).1
  exact g.st fun T locs X eT t kk => X.caload C.x (by rw [eT]; exact A.1) (State.isArrayOf_alike C.z.alike A.2.1) A.2.2 (in_of hj hi) (by rw [clamp_of hj, ← Array.getElem?_toList]; exact hv) (g := mkF W.m pc L (.int j :: .ref a :: S)) rfl rfl (C.b hd) t kk
theorem g_baload (C : Cx W Z R own code mx ret nm wsx hx0) {a : Addr} {vs : List Value} {v : Value} {j : Int32} {i : Nat} (hd : decode code pc = .ok (.baload, 1)) (hp : pc + 1 = pc') (A : Ar Z h a .byte vs) (hj : j.toInt = i) (hv : vs[i]? = some v) (g : Go W Q h k n pc' L (v :: S)) : Go W Q h k n pc L (.int j :: .ref a :: S) := by
  subst hp
  obtain ⟨c, A, e⟩ := A
  subst e
  have hi := (List.getElem?_eq_some_iff.mp hv).1
  exact g.st fun T locs X eT t kk => X.baloadBytes C.x (by rw [eT]; exact A.1) (State.isArrayOf_alike C.z.alike A.2.1) A.2.2 (in_of hj hi) (by rw [clamp_of hj, ← Array.getElem?_toList]; exact hv) (g := mkF W.m pc L (.int j :: .ref a :: S)) rfl rfl (C.b hd) t kk
theorem g_zaload (C : Cx W Z R own code mx ret nm wsx hx0) {a : Addr} {vs : List Value} {v : Value} {j : Int32} {i : Nat} (hd : decode code pc = .ok (.baload, 1)) (hp : pc + 1 = pc') (A : Ar Z h a .boolean vs) (hj : j.toInt = i) (hv : vs[i]? = some v) (g : Go W Q h k n pc' L (v :: S)) : Go W Q h k n pc L (.int j :: .ref a :: S) := by
  subst hp
  obtain ⟨c, A, e⟩ := A
  subst e
  have hi := (List.getElem?_eq_some_iff.mp hv).1
  exact g.st fun T locs X eT t kk => X.baloadBooleans C.x (by rw [eT]; exact A.1) (State.isArrayOf_alike C.z.alike A.2.1) A.2.2 (in_of hj hi) (by rw [clamp_of hj, ← Array.getElem?_toList]; exact hv) (g := mkF W.m pc L (.int j :: .ref a :: S)) rfl rfl (C.b hd) t kk
theorem g_aaload (C : Cx W Z R own code mx ret nm wsx hx0) {a : Addr} {Cl : String} {vs : List Value} {v : Value} {j : Int32} {i : Nat} (hd : decode code pc = .ok (.aaload, 1)) (hp : pc + 1 = pc') (A : ArR Z h a Cl vs) (hj : j.toInt = i) (hv : vs[i]? = some v) (g : Go W Q h k n pc' L (v :: S)) : Go W Q h k n pc L (.int j :: .ref a :: S) := by
  subst hp
  obtain ⟨c, A, e, -⟩ := A
  subst e
  have hi := (List.getElem?_eq_some_iff.mp hv).1
  exact g.st fun T locs X eT t kk => X.aaload C.x (by rw [eT]; exact A.1) (State.isArrayOf_alike C.z.alike A.2.1) rfl A.2.2 (in_of hj hi) (by rw [clamp_of hj, ← Array.getElem?_toList]; exact hv) (g := mkF W.m pc L (.int j :: .ref a :: S)) rfl rfl (C.b hd) t kk
theorem g_iastore (C : Cx W Z R own code mx ret nm wsx hx0) {a : Addr} {vs vs' : List Value} {x : Int32} {j : Int32} {i : Nat} (hd : decode code pc = .ok (.iastore, 1)) (hp : pc + 1 = pc') (A : Ar Z h a .int vs) (hj : j.toInt = i) (hi : i < vs.length) (hset : vs.set i (.int x) = vs') (q : Pw W a) (g : ∀ h', Ar Z h' a .int vs' → Keep h h' [a] → Go W Q h' k n pc' L S) : Go W Q h k n pc L (.int x :: .int j :: .ref a :: S) := fun T hT => by
  obtain ⟨locs, X, e, N⟩ := hT
  subst hp hset
  obtain ⟨c, A, ec⟩ := A
  obtain ⟨T', h', X', e', Wx, st⟩ := stI X C.x C.z e A (in_of hj (ec ▸ hi)) (g := mkF W.m pc L (.int x :: .int j :: .ref a :: S)) rfl rfl (C.b hd)
  refine Out.st st (g h' (Ar.put A ec hj Wx) (Keep.of_wr Wx) T' ⟨_, X', e', fun y hy => ?_⟩)
  rcases List.mem_append.mp hy with z | z
  · exact N y z
  · cases List.mem_singleton.mp z; exact q
theorem g_lastore (C : Cx W Z R own code mx ret nm wsx hx0) {a : Addr} {vs vs' : List Value} {x : Int64} {j : Int32} {i : Nat} (hd : decode code pc = .ok (.lastore, 1)) (hp : pc + 1 = pc') (A : Ar Z h a .long vs) (hj : j.toInt = i) (hi : i < vs.length) (hset : vs.set i (.long x) = vs') (q : Pw W a) (g : ∀ h', Ar Z h' a .long vs' → Keep h h' [a] → Go W Q h' k n pc' L S) : Go W Q h k n pc L (.long x :: .int j :: .ref a :: S) := fun T hT => by
  obtain ⟨locs, X, e, N⟩ := hT
  subst hp hset
  obtain ⟨c, A, ec⟩ := A
  obtain ⟨T', h', X', e', Wx, st⟩ := stJ X C.x C.z e A (in_of hj (ec ▸ hi)) (g := mkF W.m pc L (.long x :: .int j :: .ref a :: S)) rfl rfl (C.b hd)
  refine Out.st st (g h' (Ar.put A ec hj Wx) (Keep.of_wr Wx) T' ⟨_, X', e', fun y hy => ?_⟩)
  rcases List.mem_append.mp hy with z | z
  · exact N y z
  · cases List.mem_singleton.mp z; exact q
theorem g_castore (C : Cx W Z R own code mx ret nm wsx hx0) {a : Addr} {vs vs' : List Value} {x : Int32} {j : Int32} {i : Nat} (hd : decode code pc = .ok (.castore, 1)) (hp : pc + 1 = pc') (A : Ar Z h a .char vs) (hj : j.toInt = i) (hi : i < vs.length) (hset : vs.set i (.int (nar .char x)) = vs') (q : Pw W a) (g : ∀ h', Ar Z h' a .char vs' → Keep h h' [a] → Go W Q h' k n pc' L S) : Go W Q h k n pc L (.int x :: .int j :: .ref a :: S) := fun T hT => by
  obtain ⟨locs, X, e, N⟩ := hT
  subst hp hset
  obtain ⟨c, A, ec⟩ := A
  obtain ⟨T', h', X', e', Wx, st⟩ := stC X C.x C.z e A (in_of hj (ec ▸ hi)) (g := mkF W.m pc L (.int x :: .int j :: .ref a :: S)) rfl rfl (C.b hd)
  refine Out.st st (g h' (Ar.put A ec hj Wx) (Keep.of_wr Wx) T' ⟨_, X', e', fun y hy => ?_⟩)
  rcases List.mem_append.mp hy with z | z
  · exact N y z
  · cases List.mem_singleton.mp z; exact q
theorem g_bastore (C : Cx W Z R own code mx ret nm wsx hx0) {a : Addr} {vs vs' : List Value} {x : Int32} {j : Int32} {i : Nat} (hd : decode code pc = .ok (.bastore, 1)) (hp : pc + 1 = pc') (A : Ar Z h a .byte vs) (hj : j.toInt = i) (hi : i < vs.length) (hset : vs.set i (.int (nar .byte x)) = vs') (q : Pw W a) (g : ∀ h', Ar Z h' a .byte vs' → Keep h h' [a] → Go W Q h' k n pc' L S) : Go W Q h k n pc L (.int x :: .int j :: .ref a :: S) := fun T hT => by
  obtain ⟨locs, X, e, N⟩ := hT
  subst hp hset
  obtain ⟨c, A, ec⟩ := A
  obtain ⟨T', h', X', e', Wx, st⟩ := stB X C.x C.z e A (in_of hj (ec ▸ hi)) (g := mkF W.m pc L (.int x :: .int j :: .ref a :: S)) rfl rfl (C.b hd)
  refine Out.st st (g h' (Ar.put A ec hj Wx) (Keep.of_wr Wx) T' ⟨_, X', e', fun y hy => ?_⟩)
  rcases List.mem_append.mp hy with z | z
  · exact N y z
  · cases List.mem_singleton.mp z; exact q
theorem g_zastore (C : Cx W Z R own code mx ret nm wsx hx0) {a : Addr} {vs vs' : List Value} {x : Int32} {j : Int32} {i : Nat} (hd : decode code pc = .ok (.bastore, 1)) (hp : pc + 1 = pc') (A : Ar Z h a .boolean vs) (hj : j.toInt = i) (hi : i < vs.length) (hset : vs.set i (.int (nar .boolean x)) = vs') (q : Pw W a) (g : ∀ h', Ar Z h' a .boolean vs' → Keep h h' [a] → Go W Q h' k n pc' L S) : Go W Q h k n pc L (.int x :: .int j :: .ref a :: S) := fun T hT => by
  obtain ⟨locs, X, e, N⟩ := hT
  subst hp hset
  obtain ⟨c, A, ec⟩ := A
  obtain ⟨T', h', X', e', Wx, st⟩ := stZ X C.x C.z e A (in_of hj (ec ▸ hi)) (g := mkF W.m pc L (.int x :: .int j :: .ref a :: S)) rfl rfl (C.b hd)
  refine Out.st st (g h' (Ar.put A ec hj Wx) (Keep.of_wr Wx) T' ⟨_, X', e', fun y hy => ?_⟩)
  rcases List.mem_append.mp hy with z | z
  · exact N y z
  · cases List.mem_singleton.mp z; exact q
theorem ArR.put {Z : State} {h h' : Heap} {a : Addr} {Cl : String} {vs : List Value} {v : Value} {c : Cell} (A : Arr Z h a c (.object Cl)) (e : c.slots.toList = vs) (O : Ovr Z c.cls Cl) {j : Int32} {i : Nat} (hj : j.toInt = i) (W : Wr h h' a j.toNatClampNeg v) : ArR Z h' a Cl (vs.set i v) := by
  refine ⟨_, A.same W, ?_, O⟩
  rw [clamp_of hj, set_toList, e]
theorem g_aastore (C : Cx W Z R own code mx ret nm wsx hx0) {a : Addr} {Cl : String} {vs vs' : List Value} {v : Value} {j : Int32} {i : Nat} (hd : decode code pc = .ok (.aastore, 1)) (hp : pc + 1 = pc') (A : ArR Z h a Cl vs) (hj : j.toInt = i) (hi : i < vs.length) (hset : vs.set i v = vs') (hv : v = .null ∨ ∃ y, v = .ref y ∧ Exa Z h y Cl) (q : Pw W a) (g : ∀ h', ArR Z h' a Cl vs' → Keep h h' [a] → Go W Q h' k n pc' L S) : Go W Q h k n pc L (v :: .int j :: .ref a :: S) := fun T hT => by
  obtain ⟨locs, X, e, N⟩ := hT
  subst hp hset
  obtain ⟨c, A, ec, O⟩ := A
  have F : Sto Z h a v := by
    rcases hv with rfl | ⟨y, rfl, E⟩
    · exact Or.inl rfl
    · exact Sto.of A O (Ins.self E)
  obtain ⟨T', h', X', e', Wx, st⟩ := stR X C.x C.z e A (in_of hj (ec ▸ hi)) rfl F (g := mkF W.m pc L (v :: .int j :: .ref a :: S)) rfl rfl (C.b hd)
  refine Out.st st (g h' (ArR.put A ec O hj Wx) (Keep.of_wr Wx) T' ⟨_, X', e', fun y hy => ?_⟩)
  rcases List.mem_append.mp hy with z | z
  · exact N y z
  · cases List.mem_singleton.mp z; exact q
/-! returns -/
theorem g_end (C : Cx W Z R own code mx ret nm wsx hx0) {v : Option Value} (hv : ret = none → v = none) (hc : k ≤ R.cells) (hs : n ≤ R.slots) (q : Q v h)
    (st : ∀ T locs, Sta0 W T locs k n → ∀ fs, (∀ (f : JFrame) (acts : List Action), f.method = W.m → f.locked = none → f.entered = [] → (doReturn W.e (T.setTop f) acts v).1 = T.setFrames fs) → Stp W (T.setTop (mkF W.m pc L S)) (T.setFrames fs)) : Go W Q h k n pc L S := fun T hT => by
  obtain ⟨locs, X, e, N⟩ := hT
  obtain ⟨fs, hr, hrun, hended, hW, hsame⟩ := X.leave (v := v) (fun z => hv (C.rt ▸ z)) C.lk
  refine ⟨_, _, st T locs X fs hr, hrun, hended, v, locs, rfl, ⟨?_, N⟩, ⟨_, rfl⟩, hW, hsame.mono (by rw [C.r]; exact hc) (by rw [C.r]; exact hs)⟩
  show Q v T.heap
  rw [e]; exact q
theorem g_return (C : Cx W Z R own code mx none nm wsx hx0) (hd : decode code pc = .ok (.return_, 1)) (hc : k ≤ R.cells) (hs : n ≤ R.slots) (q : Q none h) : Go W Q h k n pc L [] :=
  g_end C (fun _ => rfl) hc hs q fun T locs X fs hr => X.returnOut C.x C.rt (C.b hd) hr
theorem g_retN {ty0 : FieldType} (C : Cx W Z R own code mx (some ty0) nm wsx hx0) {z : Int32} (ht : ty0 = .boolean ∨ ty0 = .byte ∨ ty0 = .char ∨ ty0 = .short) (hd : decode code pc = .ok (.ireturn, 1)) (hc : k ≤ R.cells) (hs : n ≤ R.slots) (q : Q (some (.int (nar ty0 z))) h) : Go W Q h k n pc L (.int z :: S) :=
  g_end C nofun hc hs q fun T locs X fs hr => retN X C.x C.rt ht (C.b hd) hr
theorem g_retI (C : Cx W Z R own code mx (some .int) nm wsx hx0) {z : Int32} (hd : decode code pc = .ok (.ireturn, 1)) (hc : k ≤ R.cells) (hs : n ≤ R.slots) (q : Q (some (.int z)) h) : Go W Q h k n pc L (.int z :: S) :=
  g_end C nofun hc hs q fun T locs X fs hr => retOut X C.x C.rt rfl (Or.inl ⟨rfl, Or.inl rfl, z, rfl⟩) (C.b hd) hr
theorem g_retL (C : Cx W Z R own code mx (some .long) nm wsx hx0) {z : Int64} (hd : decode code pc = .ok (.lreturn, 1)) (hc : k ≤ R.cells) (hs : n ≤ R.slots) (q : Q (some (.long z)) h) : Go W Q h k n pc L (.long z :: S) :=
  g_end C nofun hc hs q fun T locs X fs hr => retOut X C.x C.rt rfl (Or.inr (Or.inl ⟨rfl, rfl, z, rfl⟩)) (C.b hd) hr
theorem g_retA {ty0 : FieldType} (C : Cx W Z R own code mx (some ty0) nm wsx hx0) {v : Value} (ht : ty0.isReference = true) (hn : narrow ty0 v = v) (hv : v.isRef = true) (hd : decode code pc = .ok (.areturn, 1)) (hc : k ≤ R.cells) (hs : n ≤ R.slots) (q : Q (some v) h) : Go W Q h k n pc L (v :: S) :=
  g_end C nofun hc hs q fun T locs X fs hr => retOut X C.x C.rt hn (Or.inr (Or.inr (Or.inr (Or.inr ⟨rfl, ht, hv⟩)))) (C.b hd) hr
/-! calls -/
theorem g_initO (C : Cx W Z R own code mx ret nm wsx hx0) {i : Nat} {a : Addr} (hd : decode code pc = .ok (.invokespecial i, 3)) (hp : pc + 3 = pc') (w1 : (Jvm.Cond.methodLink own i Lib.objectInit).before a0 Z = true) (w2 : (Jvm.Cond.instanceMethod Lib.objectInit).before a0 Z = true) (w3 : (Jvm.Cond.code Lib.objectInit Jvm.Pilot.@@N@@.object_method_1_code 1 none).before a0 Z = true) (hL : L.size = mx) (hf : 1 ≤ R.frames) (hl : (S.map fun v => v.category).sum + 12 ≤ R.locals) (g : Go W Q h k n pc' L S) : Go W Q h k n pc L (.ref a :: S) := fun T hT => by
  obtain ⟨locs, X, e, N⟩ := hT
  subst hp
  obtain ⟨T', X', e', st⟩ := initO X C.x C.z C.o w1 w2 w3 e (g := mkF W.m pc L (.ref a :: S)) rfl (by rw [C.ml]; exact hL) rfl (C.b hd) (by rw [C.r]; exact hf) (W := (S.map fun v => v.category).sum) (by show 2 * 0 + _ ≤ _; omega) (by rw [C.r]; exact hl)
  exact Out.st st (g T' ⟨locs, X', e', N⟩)
theorem post_call {T T' : State} {locs L' : List Loc} {k' n' : Nat} {ws : List Addr} (X : Sta0 W T locs k n) (e : T.heap = h) (N : ∀ y ∈ locs, Pw W y.base) (hws : ∀ a ∈ ws, Pw W a) (hL : ∀ y ∈ L', y.base ∈ ws ∨ h.size ≤ y.base) : ∀ y ∈ locs ++ L', Pw W y.base := fun y hy => by
  rcases List.mem_append.mp hy with z | z
  · exact N y z
  · rcases hL y z with q | q
    · exact hws _ q
    · have r : W.s.heap.size ≤ T.heap.size := X.same.2.1
      rw [e] at r
      exact Or.inr (Nat.le_trans r q)
/-- the contract, with what it keeps -/
theorem Con.keeps {l : Launch} {w0 : List Jvm.Cond} {y : MethodName} {bytes : ByteArray} {ret' : Option FieldType} {rm : Room} {as : Array Value} {ws : List Addr} {Q' : Option Value → Heap → Prop} {mx' : Nat} (M : Con l Z w0 y bytes mx' ret' rm as h ws Q') :
    MetFree l y (head1 (Jvm.Cond.code y bytes mx' ret' :: w0) rm) (fun a U => a = as ∧ Z.Warmed39 U.vm ∧ U.heap = h) (fun _ _ _ _ _ => True)
      (fun _ U o U' => ∃ v L, o = .returned v ∧ (Q' v U'.heap ∧ (∀ y ∈ L, y.base ∈ ws ∨ h.size ≤ y.base) ∧ Keep h U'.heap ws) ∧ FrameEnd U o U' L rm.cells rm.slots) := by
  intro p e ha hc hk s m args below hf happ hP hK
  obtain ⟨nn, o, h1, h2, h3, v, L, rfl, ⟨hq, hL⟩, hF⟩ := M p e ha hc hk s m args below hf happ hP hK
  refine ⟨nn, _, h1, h2, h3, v, L, rfl, ⟨hq, hL, ?_⟩, hF⟩
  obtain ⟨rfl, -, rfl⟩ := hP
  have K := keep_of_same hF.2.2 hL
  exact K
theorem g_static (C : Cx W Z R own code mx ret nm wsx hx0) {i : Nat} {y : MethodName} {bytes : ByteArray} {mx' : Nat} {ret' : Option FieldType} {rm : Room} {as : List Value} {ws : List Addr} {Q' : Option Value → Heap → Prop} {S0 : List Value} (hd : decode code pc = .ok (.invokestatic i, 3)) (hp : pc + 3 = pc')
    (w1 : (Jvm.Cond.methodLink own i y).before a0 Z = true) (w2 : (Jvm.Cond.static y).before a0 Z = true) (w3 : (Jvm.Cond.initialized y.cls).before a0 Z = true) (w4 : (Jvm.Cond.code y bytes mx' ret').before a0 Z = true) (hy : y.cls ≠ "java/lang/invoke/MethodHandle" ∧ y.cls ≠ "java/lang/invoke/VarHandle")
    (hlen : ∀ sig, parseMethodDescriptor y.desc = some sig → as.length = sig.parameters.length) (M : Con W.l Z [] y bytes mx' ret' rm as.toArray h ws Q') (hS : S0 = as.reverse ++ S) (hL : L.size = mx) (hf : rm.frames + 1 ≤ R.frames) (hl : (S.map fun v => v.category).sum + (mx' + 11) + rm.locals ≤ R.locals) {k' n' : Nat} (hk : k + rm.cells = k') (hn : n + rm.slots = n') (hc : k' ≤ R.cells) (hs : n' ≤ R.slots) (hws : ∀ a ∈ ws, Pw W a)
    (g : ∀ v h', Q' v h' → Keep h h' ws → Go W Q h' k' n' pc' L (v.toList ++ S)) : Go W Q h k n pc L S0 := fun T hT => by
  obtain ⟨locs, X, e, N⟩ := hT
  subst hp hS hk hn
  obtain ⟨v, _, ⟨T', L1, k1, n1⟩, -, X', ⟨L2, ⟨hQ, hL2, hK⟩, l1, y1, z1⟩, st⟩ := Jvm.LawKit.callS X C.x (y := y) C.o (mvT C.z w1) (mvT C.z w2) (mvT C.z w3) (mvT C.z w4) hy (backOf (R := W.R) (W := (S.map fun v => v.category).sum) (Q := fun v h' L => Q' v h' ∧ (∀ y ∈ L, y.base ∈ ws ∨ h.size ≤ y.base) ∧ Keep h h' ws) M.keeps C.z w4 w3 (by rw [C.r]; exact hf) (by rw [C.r]; exact hl)) (g := mkF W.m pc L (as.reverse ++ S)) rfl (by rw [C.ml]; exact hL) (argsL := as) (rest := S) hlen rfl (by show 2 * 0 + _ ≤ _; omega) (C.b hd) (fun _ _ => ⟨rfl, e, by rw [C.r]; exact hc, by rw [C.r]; exact hs⟩)
  dsimp only [Pt.U, Pt.locs, Pt.cells, Pt.slots] at X' l1 y1 z1 st hQ hK
  subst l1 y1 z1
  exact Out.st st (g v T'.heap hQ hK T' ⟨_, X', rfl, post_call (T' := T') (k' := 0) (n' := 0) X e N hws hL2⟩)
theorem g_special (C : Cx W Z R own code mx ret nm wsx hx0) {i : Nat} {y : MethodName} {bytes : ByteArray} {mx' : Nat} {rm : Room} {as : List Value} {ws : List Addr} {Q' : Option Value → Heap → Prop} {S0 : List Value} {a : Addr} (hd : decode code pc = .ok (.invokespecial i, 3)) (hp : pc + 3 = pc') (hy1 : y.name = "<init>")
    (w1 : (Jvm.Cond.methodLink own i y).before a0 Z = true) (w2 : (Jvm.Cond.instanceMethod y).before a0 Z = true) (w3 : (Jvm.Cond.initialized y.cls).before a0 Z = true) (w4 : (Jvm.Cond.code y bytes mx' none).before a0 Z = true) (hy : y.cls ≠ "java/lang/invoke/MethodHandle" ∧ y.cls ≠ "java/lang/invoke/VarHandle")
    (hlen : ∀ sig, parseMethodDescriptor y.desc = some sig → as.length = sig.parameters.length) (M : Con W.l Z [] y bytes mx' none rm (.ref a :: as).toArray h ws Q') (hS : S0 = as.reverse ++ .ref a :: S) (hL : L.size = mx) (hf : rm.frames + 1 ≤ R.frames) (hl : (S.map fun v => v.category).sum + (mx' + 11) + rm.locals ≤ R.locals) {k' n' : Nat} (hk : k + rm.cells = k') (hn : n + rm.slots = n') (hc : k' ≤ R.cells) (hs : n' ≤ R.slots) (hws : ∀ a ∈ ws, Pw W a)
    (g : ∀ v h', Q' v h' → Keep h h' ws → Go W Q h' k' n' pc' L (v.toList ++ S)) : Go W Q h k n pc L S0 := fun T hT => by
  obtain ⟨locs, X, e, N⟩ := hT
  subst hp hS hk hn
  obtain ⟨v, _, ⟨T', L1, k1, n1⟩, -, X', ⟨L2, ⟨hQ, hL2, hK⟩, l1, y1, z1⟩, st⟩ := X.specialBack C.x (y := y) hy1 C.o (mvT C.z w1) (mvT C.z w2) (mvT C.z w4) hy (backOf (R := W.R) (W := (S.map fun v => v.category).sum) (Q := fun v h' L => Q' v h' ∧ (∀ y ∈ L, y.base ∈ ws ∨ h.size ≤ y.base) ∧ Keep h h' ws) M.keeps C.z w4 w3 (by rw [C.r]; exact hf) (by rw [C.r]; exact hl)) (g := mkF W.m pc L (as.reverse ++ .ref a :: S)) rfl (by rw [C.ml]; exact hL) (Steps.refl _) (a := a) (argsL := as) (rest := S) hlen rfl (by show 2 * 0 + _ ≤ _; omega) (C.b hd) (fun _ _ => ⟨rfl, e, by rw [C.r]; exact hc, by rw [C.r]; exact hs⟩)
  dsimp only [Pt.U, Pt.locs, Pt.cells, Pt.slots] at X' l1 y1 z1 st hQ hK
  subst l1 y1 z1
  exact Out.st (fun t z => st.trans z) (g v T'.heap hQ hK T' ⟨_, X', rfl, post_call (T' := T') (k' := 0) (n' := 0) X e N hws hL2⟩)
theorem g_virtual (C : Cx W Z R own code mx ret nm wsx hx0) {i : Nat} {y : MethodName} {bytes : ByteArray} {mx' : Nat} {ret' : Option FieldType} {rm : Room} {as : List Value} {ws : List Addr} {Q' : Option Value → Heap → Prop} {S0 : List Value} {a : Addr} {Cl : String} (hd : decode code pc = .ok (.invokevirtual i, 3)) (hp : pc + 3 = pc')
    (w1 : (Jvm.Cond.methodLink own i y).before a0 Z = true) (w2 : (Jvm.Cond.instanceMethod y).before a0 Z = true) (w3 : (Jvm.Cond.initialized y.cls).before a0 Z = true) (w4 : (Jvm.Cond.code y bytes mx' ret').before a0 Z = true) (w5 : (Jvm.Cond.declares y).before a0 Z = true) (w6 : (Jvm.Cond.selects Cl y y).before a0 Z = true) (hy : y.cls ≠ "java/lang/invoke/MethodHandle" ∧ y.cls ≠ "java/lang/invoke/VarHandle") (hE : Exa Z h a Cl)
    (hlen : ∀ sig, parseMethodDescriptor y.desc = some sig → as.length = sig.parameters.length) (M : Con W.l Z [] y bytes mx' ret' rm (.ref a :: as).toArray h ws Q') (hS : S0 = as.reverse ++ .ref a :: S) (hL : L.size = mx) (hf : rm.frames + 1 ≤ R.frames) (hl : (S.map fun v => v.category).sum + (mx' + 11) + rm.locals ≤ R.locals) {k' n' : Nat} (hk : k + rm.cells = k') (hn : n + rm.slots = n') (hc : k' ≤ R.cells) (hs : n' ≤ R.slots) (hws : ∀ a ∈ ws, Pw W a)
    (g : ∀ v h', Q' v h' → Keep h h' ws → Go W Q h' k' n' pc' L (v.toList ++ S)) : Go W Q h k n pc L S0 := fun T hT => by
  obtain ⟨locs, X, e, N⟩ := hT
  subst hp hS hk hn
  obtain ⟨cq, kq, qa, qb, qc⟩ := isOf C.z e hE
  obtain ⟨v, _, ⟨T', L1, k1, n1⟩, -, X', ⟨L2, ⟨hQ, hL2, hK⟩, l1, y1, z1⟩, st⟩ := X.virtualBack C.x (y := y) (z := y) C.o (mvT C.z w1) (mvT C.z w5) (notFace_of_selects (args := #[]) (mvT C.z w6)) (mvT C.z w6) (mvT C.z w2) hy (backOf (R := W.R) (W := (S.map fun v => v.category).sum) (Q := fun v h' L => Q' v h' ∧ (∀ y ∈ L, y.base ∈ ws ∨ h.size ≤ y.base) ∧ Keep h h' ws) M.keeps C.z w4 w3 (by rw [C.r]; exact hf) (by rw [C.r]; exact hl)) qa qc (g := mkF W.m pc L (as.reverse ++ .ref a :: S)) rfl (by rw [C.ml]; exact hL) (Steps.refl _) (argsL := as) (rest := S) hlen rfl (by show 2 * 0 + _ ≤ _; omega) (C.b hd) (fun _ _ => ⟨rfl, e, by rw [C.r]; exact hc, by rw [C.r]; exact hs⟩)
  dsimp only [Pt.U, Pt.locs, Pt.cells, Pt.slots] at X' l1 y1 z1 st hQ hK
  subst l1 y1 z1
  exact Out.st (fun t z => st.trans z) (g v T'.heap hQ hK T' ⟨_, X', rfl, post_call (T' := T') (k' := 0) (n' := 0) X e N hws hL2⟩)
theorem g_staticP (C : Cx W Z R own code mx ret nm wsx hx0) {i : Nat} {y : MethodName} {bytes : ByteArray} {mx' : Nat} {ret' : Option FieldType} {rm : Room} {as : List Value} {r : Option Value} {S0 S1 : List Value} (hd : decode code pc = .ok (.invokestatic i, 3)) (hp : pc + 3 = pc')
    (w1 : (Jvm.Cond.methodLink own i y).before a0 Z = true) (w2 : (Jvm.Cond.static y).before a0 Z = true) (w3 : (Jvm.Cond.initialized y.cls).before a0 Z = true) (w4 : (Jvm.Cond.code y bytes mx' ret').before a0 Z = true) (hy : y.cls ≠ "java/lang/invoke/MethodHandle" ∧ y.cls ≠ "java/lang/invoke/VarHandle")
    (hlen : ∀ sig, parseMethodDescriptor y.desc = some sig → as.length = sig.parameters.length) (M : Con W.l Z [] y bytes mx' ret' rm as.toArray h [] (fun v h' => v = r ∧ h' = h)) (hS : S0 = as.reverse ++ S) (hL : L.size = mx) (hf : rm.frames + 1 ≤ R.frames) (hl : (S.map fun v => v.category).sum + (mx' + 11) + rm.locals ≤ R.locals) {k' n' : Nat} (hk : k + rm.cells = k') (hn : n + rm.slots = n') (hc : k' ≤ R.cells) (hs : n' ≤ R.slots) (hS1 : r.toList ++ S = S1)
    (g : Go W Q h k' n' pc' L S1) : Go W Q h k n pc L S0 :=
  g_static C hd hp w1 w2 w3 w4 hy hlen M hS hL hf hl hk hn hc hs all0 fun v h' q K => by
    obtain ⟨rfl, rfl⟩ := q
    rw [hS1]; exact g
theorem g_virtualP (C : Cx W Z R own code mx ret nm wsx hx0) {i : Nat} {y : MethodName} {bytes : ByteArray} {mx' : Nat} {ret' : Option FieldType} {rm : Room} {as : List Value} {r : Option Value} {S0 S1 : List Value} {a : Addr} {Cl : String} (hd : decode code pc = .ok (.invokevirtual i, 3)) (hp : pc + 3 = pc')
    (w1 : (Jvm.Cond.methodLink own i y).before a0 Z = true) (w2 : (Jvm.Cond.instanceMethod y).before a0 Z = true) (w3 : (Jvm.Cond.initialized y.cls).before a0 Z = true) (w4 : (Jvm.Cond.code y bytes mx' ret').before a0 Z = true) (w5 : (Jvm.Cond.declares y).before a0 Z = true) (w6 : (Jvm.Cond.selects Cl y y).before a0 Z = true) (hy : y.cls ≠ "java/lang/invoke/MethodHandle" ∧ y.cls ≠ "java/lang/invoke/VarHandle") (hE : Exa Z h a Cl)
    (hlen : ∀ sig, parseMethodDescriptor y.desc = some sig → as.length = sig.parameters.length) (M : Con W.l Z [] y bytes mx' ret' rm (.ref a :: as).toArray h [] (fun v h' => v = r ∧ h' = h)) (hS : S0 = as.reverse ++ .ref a :: S) (hL : L.size = mx) (hf : rm.frames + 1 ≤ R.frames) (hl : (S.map fun v => v.category).sum + (mx' + 11) + rm.locals ≤ R.locals) {k' n' : Nat} (hk : k + rm.cells = k') (hn : n + rm.slots = n') (hc : k' ≤ R.cells) (hs : n' ≤ R.slots) (hS1 : r.toList ++ S = S1)
    (g : Go W Q h k' n' pc' L S1) : Go W Q h k n pc L S0 :=
  g_virtual C hd hp w1 w2 w3 w4 w5 w6 hy hE hlen M hS hL hf hl hk hn hc hs all0 fun v h' q K => by
    obtain ⟨rfl, rfl⟩ := q
    rw [hS1]; exact g
theorem g_nameI {x : Int32} (g : ∀ z : Int32, z = x → Go W Q h k n pc L (.int z :: S)) : Go W Q h k n pc L (.int x :: S) := g x rfl
theorem g_nameJ {x : Int64} (g : ∀ z : Int64, z = x → Go W Q h k n pc L (.long z :: S)) : Go W Q h k n pc L (.long x :: S) := g x rfl
/-! a body's contract out of its walk -/
theorem locals_of {as : List Value} {mx0 : Nat} {Ls : List Slot} (h : (as.flatMap fun v => if v.category = 2 then [.val v, .second] else [.val v]) ++ List.replicate (mx0 - (as.flatMap fun v => if v.category = 2 then [.val v, .second] else [Slot.val v]).length) .unset = Ls) : argsToLocals as.toArray mx0 = Ls.toArray := by
  have e : ∀ (l : List Value) (acc : Array Slot), (l.foldl (fun acc v => if v.category = 2 then (acc.push (.val v)).push .second else acc.push (.val v)) acc) = acc ++ (l.flatMap fun v => if v.category = 2 then [.val v, .second] else [Slot.val v]).toArray := by
    intro l
    induction l with
    | nil => intro acc; simp
    | cons v l ih =>
      intro acc
      rw [List.foldl_cons, ih, List.flatMap_cons]
      split <;> simp
  subst h
  simp only [argsToLocals, List.foldl_toArray', e]
  simp
theorem Con.of_go {l : Launch} {w0 : List Jvm.Cond} {y : MethodName} {bytes : ByteArray} {ret' : Option FieldType} {rm : Room} {as : Array Value} {ws : List Addr} {Q' : Option Value → Heap → Prop} {mx' : Nat} {L0 : Array Slot} (hpl : plainFor y = true) (hL : argsToLocals as mx' = L0)
    (body : ∀ (W : Wk) (Q : Option Value → Heap → Prop), Q = Q' → W.l = l → Cx W Z rm y.cls bytes mx' ret' y.name ws h → Go W Q h 0 0 0 L0 []) : Con l Z w0 y bytes mx' ret' rm as h ws Q' := by
  refine MetFree.of_bodySF hpl hisR ?_
  intro p e s m args below meth c s₁ Bd hml0 hP hK
  obtain ⟨rfl, hZ, rfl⟩ := hP
  subst hL
  have X0 : Stand p l e rm s m args below meth c s₁ [] 0 0 := Stand.of_body Bd
  have e0 : s₁.heap = s.heap := by rw [Bd.state]; rfl
  obtain ⟨s2, o, h1, h2, h3, v, L, h4, ⟨h5, h6⟩, h7⟩ := body (p, l, e, rm, s, m, args, below, meth, c, ws) _ rfl rfl ⟨Bd.exec, hZ, findClass_of_methodNamed Bd.named, Bd.bytes, hml0, Bd.returns, Bd.notSynchronized, (name_of_methodNamed Bd.named Bd.method).1, rfl, rfl, rfl⟩ s₁ ⟨[], X0, e0, fun _ q => nomatch q⟩
  exact ⟨s2, o, h1, h2, h3, v, L, h4, ⟨h5, h6⟩, h7⟩
end Steps0
end Jvm.OwnKit
namespace Jvm.Pilot.@@N@@
open Jvm Jvm.ClassFile Sem Op Lib Jvm.Free Jvm.Stand Jvm.LawKit Jvm.RoadKit Jvm.OwnKit Bundle Jvm.Pilot.@@N@@.Jvm.D
theorem pd_0 : parseMethodDescriptor "()V" = some ⟨[], none⟩ := by decide +kernel
theorem pd_1 : parseMethodDescriptor "()Lcom/example/slot512/slot512/Link;" = some ⟨[], some (.object "com/example/slot512/slot512/Link")⟩ := by decide +kernel
theorem pd_2 : parseMethodDescriptor "(Lcom/example/slot512/slot512/Link;Lcom/example/slot512/slot512/Link;)Z" = some ⟨[(.object "com/example/slot512/slot512/Link"), (.object "com/example/slot512/slot512/Link")], some .boolean⟩ := by decide +kernel
theorem pd_3 : parseMethodDescriptor "(Lcom/example/slot512/slot512/Link;)Z" = some ⟨[(.object "com/example/slot512/slot512/Link")], some .boolean⟩ := by decide +kernel
theorem pd_4 : parseMethodDescriptor "(Lcom/example/slot512/slot512/Link;)V" = some ⟨[(.object "com/example/slot512/slot512/Link")], none⟩ := by decide +kernel
theorem d1_0 : decode prog_3_method_2_code 0 = .ok (.new 7, 3) := by decide +kernel
theorem d1_3 : decode prog_3_method_2_code 3 = .ok (.dup, 1) := by decide +kernel
theorem d1_4 : decode prog_3_method_2_code 4 = .ok (.invokespecial 9, 3) := by decide +kernel
theorem d1_7 : decode prog_3_method_2_code 7 = .ok (.astore_n 0, 1) := by decide +kernel
theorem d1_8 : decode prog_3_method_2_code 8 = .ok (.aload_n 0, 1) := by decide +kernel
theorem d1_9 : decode prog_3_method_2_code 9 = .ok (.aload_n 0, 1) := by decide +kernel
theorem d1_10 : decode prog_3_method_2_code 10 = .ok (.putfield 10, 3) := by decide +kernel
theorem d1_13 : decode prog_3_method_2_code 13 = .ok (.aload_n 0, 1) := by decide +kernel
theorem d1_14 : decode prog_3_method_2_code 14 = .ok (.aload_n 0, 1) := by decide +kernel
theorem d1_15 : decode prog_3_method_2_code 15 = .ok (.putfield 14, 3) := by decide +kernel
theorem d1_18 : decode prog_3_method_2_code 18 = .ok (.aload_n 0, 1) := by decide +kernel
theorem d1_19 : decode prog_3_method_2_code 19 = .ok (.areturn, 1) := by decide +kernel
theorem d2_0 : decode prog_3_method_1_code 0 = .ok (.aload_n 0, 1) := by decide +kernel
theorem d2_1 : decode prog_3_method_1_code 1 = .ok (.invokespecial 1, 3) := by decide +kernel
theorem d2_4 : decode prog_3_method_1_code 4 = .ok (.return_, 1) := by decide +kernel
theorem d4_0 : decode prog_3_method_5_code 0 = .ok (.aload_n 0, 1) := by decide +kernel
theorem d4_1 : decode prog_3_method_5_code 1 = .ok (.getfield 14, 3) := by decide +kernel
theorem d4_4 : decode prog_3_method_5_code 4 = .ok (.ifnonnull 4, 3) := by decide +kernel
theorem d4_7 : decode prog_3_method_5_code 7 = .ok (.return_, 1) := by decide +kernel
theorem d4_8 : decode prog_3_method_5_code 8 = .ok (.aload_n 0, 1) := by decide +kernel
theorem d4_9 : decode prog_3_method_5_code 9 = .ok (.getfield 10, 3) := by decide +kernel
theorem d4_12 : decode prog_3_method_5_code 12 = .ok (.aload_n 0, 1) := by decide +kernel
theorem d4_13 : decode prog_3_method_5_code 13 = .ok (.getfield 14, 3) := by decide +kernel
theorem d4_16 : decode prog_3_method_5_code 16 = .ok (.putfield 14, 3) := by decide +kernel
theorem d4_19 : decode prog_3_method_5_code 19 = .ok (.aload_n 0, 1) := by decide +kernel
theorem d4_20 : decode prog_3_method_5_code 20 = .ok (.getfield 14, 3) := by decide +kernel
theorem d4_23 : decode prog_3_method_5_code 23 = .ok (.aload_n 0, 1) := by decide +kernel
theorem d4_24 : decode prog_3_method_5_code 24 = .ok (.getfield 10, 3) := by decide +kernel
theorem d4_27 : decode prog_3_method_5_code 27 = .ok (.putfield 10, 3) := by decide +kernel
theorem d4_30 : decode prog_3_method_5_code 30 = .ok (.aload_n 0, 1) := by decide +kernel
theorem d4_31 : decode prog_3_method_5_code 31 = .ok (.aconst_null, 1) := by decide +kernel
theorem d4_32 : decode prog_3_method_5_code 32 = .ok (.putfield 10, 3) := by decide +kernel
theorem d4_35 : decode prog_3_method_5_code 35 = .ok (.aload_n 0, 1) := by decide +kernel
theorem d4_36 : decode prog_3_method_5_code 36 = .ok (.aconst_null, 1) := by decide +kernel
theorem d4_37 : decode prog_3_method_5_code 37 = .ok (.putfield 14, 3) := by decide +kernel
theorem d4_40 : decode prog_3_method_5_code 40 = .ok (.return_, 1) := by decide +kernel
theorem d5_0 : decode method_2_code 0 = .ok (.aload_n 0, 1) := by decide +kernel
theorem d5_1 : decode method_2_code 1 = .ok (.getfield 7, 3) := by decide +kernel
theorem d5_4 : decode method_2_code 4 = .ok (.aload_n 1, 1) := by decide +kernel
theorem d5_5 : decode method_2_code 5 = .ok (.if_acmp .ne 15, 3) := by decide +kernel
theorem d5_8 : decode method_2_code 8 = .ok (.aload_n 1, 1) := by decide +kernel
theorem d5_9 : decode method_2_code 9 = .ok (.getfield 13, 3) := by decide +kernel
theorem d5_12 : decode method_2_code 12 = .ok (.aload_n 0, 1) := by decide +kernel
theorem d5_13 : decode method_2_code 13 = .ok (.if_acmp .ne 7, 3) := by decide +kernel
theorem d5_16 : decode method_2_code 16 = .ok (.iconst 1, 1) := by decide +kernel
theorem d5_17 : decode method_2_code 17 = .ok (.goto 4, 3) := by decide +kernel
theorem d5_20 : decode method_2_code 20 = .ok (.iconst 0, 1) := by decide +kernel
theorem d5_21 : decode method_2_code 21 = .ok (.ireturn, 1) := by decide +kernel
theorem d6_0 : decode method_3_code 0 = .ok (.aload_n 0, 1) := by decide +kernel
theorem d6_1 : decode method_3_code 1 = .ok (.getfield 13, 3) := by decide +kernel
theorem d6_4 : decode method_3_code 4 = .ok (.ifnonnull 14, 3) := by decide +kernel
theorem d6_7 : decode method_3_code 7 = .ok (.aload_n 0, 1) := by decide +kernel
theorem d6_8 : decode method_3_code 8 = .ok (.getfield 7, 3) := by decide +kernel
theorem d6_11 : decode method_3_code 11 = .ok (.ifnonnull 7, 3) := by decide +kernel
theorem d6_14 : decode method_3_code 14 = .ok (.iconst 1, 1) := by decide +kernel
theorem d6_15 : decode method_3_code 15 = .ok (.goto 4, 3) := by decide +kernel
theorem d6_18 : decode method_3_code 18 = .ok (.iconst 0, 1) := by decide +kernel
theorem d6_19 : decode method_3_code 19 = .ok (.ireturn, 1) := by decide +kernel
theorem d7_0 : decode prog_3_method_4_code 0 = .ok (.aload_n 1, 1) := by decide +kernel
theorem d7_1 : decode prog_3_method_4_code 1 = .ok (.getfield 10, 3) := by decide +kernel
theorem d7_4 : decode prog_3_method_4_code 4 = .ok (.astore_n 2, 1) := by decide +kernel
theorem d7_5 : decode prog_3_method_4_code 5 = .ok (.aload_n 0, 1) := by decide +kernel
theorem d7_6 : decode prog_3_method_4_code 6 = .ok (.aload_n 2, 1) := by decide +kernel
theorem d7_7 : decode prog_3_method_4_code 7 = .ok (.putfield 10, 3) := by decide +kernel
theorem d7_10 : decode prog_3_method_4_code 10 = .ok (.aload_n 0, 1) := by decide +kernel
theorem d7_11 : decode prog_3_method_4_code 11 = .ok (.aload_n 1, 1) := by decide +kernel
theorem d7_12 : decode prog_3_method_4_code 12 = .ok (.putfield 14, 3) := by decide +kernel
theorem d7_15 : decode prog_3_method_4_code 15 = .ok (.aload_n 2, 1) := by decide +kernel
theorem d7_16 : decode prog_3_method_4_code 16 = .ok (.aload_n 0, 1) := by decide +kernel
theorem d7_17 : decode prog_3_method_4_code 17 = .ok (.putfield 14, 3) := by decide +kernel
theorem d7_20 : decode prog_3_method_4_code 20 = .ok (.aload_n 1, 1) := by decide +kernel
theorem d7_21 : decode prog_3_method_4_code 21 = .ok (.aload_n 0, 1) := by decide +kernel
theorem d7_22 : decode prog_3_method_4_code 22 = .ok (.putfield 10, 3) := by decide +kernel
theorem d7_25 : decode prog_3_method_4_code 25 = .ok (.return_, 1) := by decide +kernel
set_option maxHeartbeats 4000000 in
theorem dis_0 (Z : State) (a0 : Array Value) (hw : ∀ d ∈ tables_1, d.before a0 Z = true) : ([RoadKit.slotOf Z "com/example/slot512/slot512/Link" "prev" "Lcom/example/slot512/slot512/Link;", RoadKit.slotOf Z "com/example/slot512/slot512/Link" "next" "Lcom/example/slot512/slot512/Link;"] : List Nat).Nodup := by
  simp only [List.nodup_cons, List.mem_cons, List.not_mem_nil, or_false, not_or, not_false_eq_true, List.nodup_nil, and_true]
  exact RoadKit.slot_ne (Or.inl (hw _ (List.mem_of_getElem? (i := 13) rfl))) (Or.inl (hw _ (List.mem_of_getElem? (i := 15) rfl))) (by decide) (t := (.object "com/example/slot512/slot512/Link")) (t' := (.object "com/example/slot512/slot512/Link")) (by decide) (by decide)
set_option maxRecDepth 65536 in
set_option maxHeartbeats 2000000 in
theorem con_init (l : Launch) (Z : State) (a0 : Array Value) (hw : ∀ d ∈ tables_1, d.before a0 Z = true) (a : Addr) (h : Heap)  :
    Con l Z [] (⟨"com/example/slot512/slot512/Link", "<init>", "()V"⟩ : MethodName) prog_3_method_1_code 1 none ({ frames := 1, cells := 0, slots := 0, locals := 12 } : Room) #[(.ref a)] h [] (fun v h' => v = none ∧ h = h') := by
  refine Con.of_go (L0 := #[.val (.ref a)]) (plainFor_of_name (by first | (simp [plainName, overriddenIn]; done) | decide +kernel)) (locals_of rfl) fun W Q hQ hl C => ?_
  subst hl
  refine g_aloadN (pc' := 1) C d2_0 rfl rfl rfl ?_
  refine g_initO (pc' := 4) C d2_1 rfl (hw _ (List.mem_of_getElem? (i := 9) rfl)) (hw _ (List.mem_of_getElem? (i := 10) rfl)) (hw _ (List.mem_of_getElem? (i := 11) rfl)) rfl (by decide) (Nat.le_of_ble_eq_true rfl) ?_
  refine g_return C d2_4 (by decide) (by decide) ?_
  subst hQ
  exact ⟨rfl, rfl⟩
set_option maxRecDepth 65536 in
set_option maxHeartbeats 2000000 in
theorem con_empty (l : Launch) (Z : State) (a0 : Array Value) (hw : ∀ d ∈ tables_1, d.before a0 Z = true)  (h : Heap)  :
    Con l Z [] (⟨"com/example/slot512/slot512/Link", "emptyList", "()Lcom/example/slot512/slot512/Link;"⟩ : MethodName) prog_3_method_2_code 1 (some (.object "com/example/slot512/slot512/Link")) ({ frames := 2, cells := 1, slots := 2, locals := 25 } : Room) #[] h [] (fun v h' => ∃ r : Addr, v = some (.ref r) ∧ h.size ≤ r ∧ Ob Z h' r "com/example/slot512/slot512/Link" [("com/example/slot512/slot512/Link", "prev", "Lcom/example/slot512/slot512/Link;", (.ref r)), ("com/example/slot512/slot512/Link", "next", "Lcom/example/slot512/slot512/Link;", (.ref r))]) := by
  refine Con.of_go (L0 := #[.unset]) (plainFor_of_name (by first | (simp [plainName, overriddenIn]; done) | decide +kernel)) (locals_of rfl) fun W Q hQ hl C => ?_
  subst hl
  refine g_new (pc' := 3) (k' := 1) (n' := 2) C d1_0 rfl (hw _ (List.mem_of_getElem? (i := 4) rfl)) (hw _ (List.mem_of_getElem? (i := 5) rfl)) (hw _ (List.mem_of_getElem? (i := 2) rfl)) rfl rfl (by decide) (by decide) fun h1 a1 e_a1 Eh1 Xa1 Da1 w_a1 => ?_
  have Oa1 : Ob Z h1 a1 "com/example/slot512/slot512/Link" [("com/example/slot512/slot512/Link", "prev", "Lcom/example/slot512/slot512/Link;", .null), ("com/example/slot512/slot512/Link", "next", "Lcom/example/slot512/slot512/Link;", .null)] := ⟨Xa1, by
    simp only [List.forall_mem_cons, List.not_mem_nil, false_implies, implies_true, and_true]
    exact ⟨Da1 (Or.inl (hw _ (List.mem_of_getElem? (i := 13) rfl))) (ty := (.object "com/example/slot512/slot512/Link")) (by decide), Da1 (Or.inl (hw _ (List.mem_of_getElem? (i := 15) rfl))) (ty := (.object "com/example/slot512/slot512/Link")) (by decide)⟩, dis_0 Z a0 hw⟩
  refine g_dup (pc' := 4) C d1_3 rfl rfl ?_
  refine g_special (y := (⟨"com/example/slot512/slot512/Link", "<init>", "()V"⟩ : MethodName)) (a := a1) (pc' := 7) (k' := 1) (n' := 2) (S := [(.ref a1)]) (as := []) C d1_4 rfl rfl (hw _ (List.mem_of_getElem? (i := 6) rfl)) (hw _ (List.mem_of_getElem? (i := 7) rfl)) (hw _ (List.mem_of_getElem? (i := 2) rfl)) (hw _ (List.mem_of_getElem? (i := 8) rfl)) (by decide) (lenOf pd_0 rfl) (con_init W.l Z a0 hw a1 h1) rfl rfl (Nat.le_of_ble_eq_true rfl) (Nat.le_of_ble_eq_true rfl) rfl rfl (Nat.le_of_ble_eq_true rfl) (Nat.le_of_ble_eq_true rfl) all0 fun vh2 h2 qh2 Kh2 => ?_
  obtain ⟨rfl, eh⟩ := qh2
  subst eh
  show Go W Q h1 1 2 7 #[.unset] [(.ref a1)]
  refine g_astoreN (pc' := 8) (L' := #[.val (.ref a1)]) C d1_7 rfl rfl rfl ?_
  refine g_aloadN (pc' := 9) C d1_8 rfl rfl rfl ?_
  refine g_aloadN (pc' := 10) C d1_9 rfl rfl rfl ?_
  refine g_putO (pc' := 13) (j := 0) (ty := (.object "com/example/slot512/slot512/Link")) (v' := (.ref a1)) (fs' := [("com/example/slot512/slot512/Link", "prev", "Lcom/example/slot512/slot512/Link;", (.ref a1)), ("com/example/slot512/slot512/Link", "next", "Lcom/example/slot512/slot512/Link;", .null)]) C d1_10 rfl (hw _ (List.mem_of_getElem? (i := 12) rfl)) Via.refl Oa1 rfl (Or.inl (hw _ (List.mem_of_getElem? (i := 13) rfl))) (hw _ (List.mem_of_getElem? (i := 5) rfl)) (by decide) rfl rfl rfl w_a1 fun h3 Oa1 Kh3 => ?_
  refine g_aloadN (pc' := 14) C d1_13 rfl rfl rfl ?_
  refine g_aloadN (pc' := 15) C d1_14 rfl rfl rfl ?_
  refine g_putO (pc' := 18) (j := 1) (ty := (.object "com/example/slot512/slot512/Link")) (v' := (.ref a1)) (fs' := [("com/example/slot512/slot512/Link", "prev", "Lcom/example/slot512/slot512/Link;", (.ref a1)), ("com/example/slot512/slot512/Link", "next", "Lcom/example/slot512/slot512/Link;", (.ref a1))]) C d1_15 rfl (hw _ (List.mem_of_getElem? (i := 14) rfl)) Via.refl Oa1 rfl (Or.inl (hw _ (List.mem_of_getElem? (i := 15) rfl))) (hw _ (List.mem_of_getElem? (i := 5) rfl)) (by decide) rfl rfl rfl w_a1 fun h4 Oa1 Kh4 => ?_
  refine g_aloadN (pc' := 19) C d1_18 rfl rfl rfl ?_
  refine g_retA C rfl rfl rfl d1_19 (by decide) (by decide) ?_
  subst hQ
  exact ⟨_, rfl, Nat.le_of_eq e_a1.symm, Oa1⟩
set_option maxRecDepth 65536 in
set_option maxHeartbeats 2000000 in
theorem con_link0 (l : Launch) (Z : State) (a0 : Array Value) (hw : ∀ d ∈ tables_1, d.before a0 Z = true) (a d : Addr) (v1 v2 v3 : Value) (nad : a ≠ d) (h : Heap) (O1 : Ob Z h a "com/example/slot512/slot512/Link" [("com/example/slot512/slot512/Link", "prev", "Lcom/example/slot512/slot512/Link;", v1), ("com/example/slot512/slot512/Link", "next", "Lcom/example/slot512/slot512/Link;", v2)]) (O2 : Ob Z h d "com/example/slot512/slot512/Link" [("com/example/slot512/slot512/Link", "prev", "Lcom/example/slot512/slot512/Link;", (.ref d)), ("com/example/slot512/slot512/Link", "next", "Lcom/example/slot512/slot512/Link;", v3)]) :
    Con l Z [] (⟨"com/example/slot512/slot512/Link", "linkAtEndOf", "(Lcom/example/slot512/slot512/Link;)V"⟩ : MethodName) prog_3_method_4_code 3 none ({ frames := 0, cells := 0, slots := 0, locals := 0 } : Room) #[(.ref a), (.ref d)] h [a, d] (fun v h' => v = none ∧ Ob Z h' a "com/example/slot512/slot512/Link" [("com/example/slot512/slot512/Link", "prev", "Lcom/example/slot512/slot512/Link;", (.ref d)), ("com/example/slot512/slot512/Link", "next", "Lcom/example/slot512/slot512/Link;", (.ref d))] ∧ Ob Z h' d "com/example/slot512/slot512/Link" [("com/example/slot512/slot512/Link", "prev", "Lcom/example/slot512/slot512/Link;", (.ref a)), ("com/example/slot512/slot512/Link", "next", "Lcom/example/slot512/slot512/Link;", (.ref a))]) := by
  refine Con.of_go (L0 := #[.val (.ref a), .val (.ref d), .unset]) (plainFor_of_name (by first | (simp [plainName, overriddenIn]; done) | decide +kernel)) (locals_of rfl) fun W Q hQ hl C => ?_
  subst hl
  refine g_aloadN (pc' := 1) C d7_0 rfl rfl rfl ?_
  refine g_getO (pc' := 4) (j := 0) C d7_1 rfl (hw _ (List.mem_of_getElem? (i := 12) rfl)) O2 rfl ?_
  refine g_astoreN (pc' := 5) (L' := #[.val (.ref a), .val (.ref d), .val (.ref d)]) C d7_4 rfl rfl rfl ?_
  refine g_aloadN (pc' := 6) C d7_5 rfl rfl rfl ?_
  refine g_aloadN (pc' := 7) C d7_6 rfl rfl rfl ?_
  refine g_putO (pc' := 10) (j := 0) (ty := (.object "com/example/slot512/slot512/Link")) (v' := (.ref d)) (fs' := [("com/example/slot512/slot512/Link", "prev", "Lcom/example/slot512/slot512/Link;", (.ref d)), ("com/example/slot512/slot512/Link", "next", "Lcom/example/slot512/slot512/Link;", v2)]) C d7_7 rfl (hw _ (List.mem_of_getElem? (i := 12) rfl)) Via.refl O1 rfl (Or.inl (hw _ (List.mem_of_getElem? (i := 13) rfl))) (hw _ (List.mem_of_getElem? (i := 5) rfl)) (by decide) rfl rfl rfl (C.old (List.mem_of_getElem? (i := 0) rfl)) fun he1 O1 Khe1 => ?_
  replace O2 := O2.keep Khe1 (ninS (Ne.symm nad) nin0)
  refine g_aloadN (pc' := 11) C d7_10 rfl rfl rfl ?_
  refine g_aloadN (pc' := 12) C d7_11 rfl rfl rfl ?_
  refine g_putO (pc' := 15) (j := 1) (ty := (.object "com/example/slot512/slot512/Link")) (v' := (.ref d)) (fs' := [("com/example/slot512/slot512/Link", "prev", "Lcom/example/slot512/slot512/Link;", (.ref d)), ("com/example/slot512/slot512/Link", "next", "Lcom/example/slot512/slot512/Link;", (.ref d))]) C d7_12 rfl (hw _ (List.mem_of_getElem? (i := 14) rfl)) Via.refl O1 rfl (Or.inl (hw _ (List.mem_of_getElem? (i := 15) rfl))) (hw _ (List.mem_of_getElem? (i := 5) rfl)) (by decide) rfl rfl rfl (C.old (List.mem_of_getElem? (i := 0) rfl)) fun he2 O1 Khe2 => ?_
  replace O2 := O2.keep Khe2 (ninS (Ne.symm nad) nin0)
  refine g_aloadN (pc' := 16) C d7_15 rfl rfl rfl ?_
  refine g_aloadN (pc' := 17) C d7_16 rfl rfl rfl ?_
  refine g_putO (pc' := 20) (j := 1) (ty := (.object "com/example/slot512/slot512/Link")) (v' := (.ref a)) (fs' := [("com/example/slot512/slot512/Link", "prev", "Lcom/example/slot512/slot512/Link;", (.ref d)), ("com/example/slot512/slot512/Link", "next", "Lcom/example/slot512/slot512/Link;", (.ref a))]) C d7_17 rfl (hw _ (List.mem_of_getElem? (i := 14) rfl)) Via.refl O2 rfl (Or.inl (hw _ (List.mem_of_getElem? (i := 15) rfl))) (hw _ (List.mem_of_getElem? (i := 5) rfl)) (by decide) rfl rfl rfl (C.old (List.mem_of_getElem? (i := 1) rfl)) fun he3 O2 Khe3 => ?_
  replace O1 := O1.keep Khe3 (ninS nad nin0)
  refine g_aloadN (pc' := 21) C d7_20 rfl rfl rfl ?_
  refine g_aloadN (pc' := 22) C d7_21 rfl rfl rfl ?_
  refine g_putO (pc' := 25) (j := 0) (ty := (.object "com/example/slot512/slot512/Link")) (v' := (.ref a)) (fs' := [("com/example/slot512/slot512/Link", "prev", "Lcom/example/slot512/slot512/Link;", (.ref a)), ("com/example/slot512/slot512/Link", "next", "Lcom/example/slot512/slot512/Link;", (.ref a))]) C d7_22 rfl (hw _ (List.mem_of_getElem? (i := 12) rfl)) Via.refl O2 rfl (Or.inl (hw _ (List.mem_of_getElem? (i := 13) rfl))) (hw _ (List.mem_of_getElem? (i := 5) rfl)) (by decide) rfl rfl rfl (C.old (List.mem_of_getElem? (i := 1) rfl)) fun he4 O2 Khe4 => ?_
  replace O1 := O1.keep Khe4 (ninS nad nin0)
  refine g_return C d7_25 (by decide) (by decide) ?_
  subst hQ
  exact ⟨rfl, O1, O2⟩
set_option maxRecDepth 65536 in
set_option maxHeartbeats 2000000 in
theorem con_link1 (l : Launch) (Z : State) (a0 : Array Value) (hw : ∀ d ∈ tables_1, d.before a0 Z = true) (a d t : Addr) (v1 v2 v3 v4 v5 : Value) (nad : a ≠ d) (nat : a ≠ t) (ntd : t ≠ d) (h : Heap) (O1 : Ob Z h a "com/example/slot512/slot512/Link" [("com/example/slot512/slot512/Link", "prev", "Lcom/example/slot512/slot512/Link;", v1), ("com/example/slot512/slot512/Link", "next", "Lcom/example/slot512/slot512/Link;", v2)]) (O2 : Ob Z h d "com/example/slot512/slot512/Link" [("com/example/slot512/slot512/Link", "prev", "Lcom/example/slot512/slot512/Link;", (.ref t)), ("com/example/slot512/slot512/Link", "next", "Lcom/example/slot512/slot512/Link;", v3)]) (O3 : Ob Z h t "com/example/slot512/slot512/Link" [("com/example/slot512/slot512/Link", "prev", "Lcom/example/slot512/slot512/Link;", v4), ("com/example/slot512/slot512/Link", "next", "Lcom/example/slot512/slot512/Link;", v5)]) :
    Con l Z [] (⟨"com/example/slot512/slot512/Link", "linkAtEndOf", "(Lcom/example/slot512/slot512/Link;)V"⟩ : MethodName) prog_3_method_4_code 3 none ({ frames := 0, cells := 0, slots := 0, locals := 0 } : Room) #[(.ref a), (.ref d)] h [a, d, t] (fun v h' => v = none ∧ Ob Z h' a "com/example/slot512/slot512/Link" [("com/example/slot512/slot512/Link", "prev", "Lcom/example/slot512/slot512/Link;", (.ref t)), ("com/example/slot512/slot512/Link", "next", "Lcom/example/slot512/slot512/Link;", (.ref d))] ∧ Ob Z h' d "com/example/slot512/slot512/Link" [("com/example/slot512/slot512/Link", "prev", "Lcom/example/slot512/slot512/Link;", (.ref a)), ("com/example/slot512/slot512/Link", "next", "Lcom/example/slot512/slot512/Link;", v3)] ∧ Ob Z h' t "com/example/slot512/slot512/Link" [("com/example/slot512/slot512/Link", "prev", "Lcom/example/slot512/slot512/Link;", v4), ("com/example/slot512/slot512/Link", "next", "Lcom/example/slot512/slot512/Link;", (.ref a))]) := by
  refine Con.of_go (L0 := #[.val (.ref a), .val (.ref d), .unset]) (plainFor_of_name (by first | (simp [plainName, overriddenIn]; done) | decide +kernel)) (locals_of rfl) fun W Q hQ hl C => ?_
  subst hl
  refine g_aloadN (pc' := 1) C d7_0 rfl rfl rfl ?_
  refine g_getO (pc' := 4) (j := 0) C d7_1 rfl (hw _ (List.mem_of_getElem? (i := 12) rfl)) O2 rfl ?_
  refine g_astoreN (pc' := 5) (L' := #[.val (.ref a), .val (.ref d), .val (.ref t)]) C d7_4 rfl rfl rfl ?_
  refine g_aloadN (pc' := 6) C d7_5 rfl rfl rfl ?_
  refine g_aloadN (pc' := 7) C d7_6 rfl rfl rfl ?_
  refine g_putO (pc' := 10) (j := 0) (ty := (.object "com/example/slot512/slot512/Link")) (v' := (.ref t)) (fs' := [("com/example/slot512/slot512/Link", "prev", "Lcom/example/slot512/slot512/Link;", (.ref t)), ("com/example/slot512/slot512/Link", "next", "Lcom/example/slot512/slot512/Link;", v2)]) C d7_7 rfl (hw _ (List.mem_of_getElem? (i := 12) rfl)) Via.refl O1 rfl (Or.inl (hw _ (List.mem_of_getElem? (i := 13) rfl))) (hw _ (List.mem_of_getElem? (i := 5) rfl)) (by decide) rfl rfl rfl (C.old (List.mem_of_getElem? (i := 0) rfl)) fun hn1 O1 Khn1 => ?_
  replace O2 := O2.keep Khn1 (ninS (Ne.symm nad) nin0)
  replace O3 := O3.keep Khn1 (ninS (Ne.symm nat) nin0)
  refine g_aloadN (pc' := 11) C d7_10 rfl rfl rfl ?_
  refine g_aloadN (pc' := 12) C d7_11 rfl rfl rfl ?_
  refine g_putO (pc' := 15) (j := 1) (ty := (.object "com/example/slot512/slot512/Link")) (v' := (.ref d)) (fs' := [("com/example/slot512/slot512/Link", "prev", "Lcom/example/slot512/slot512/Link;", (.ref t)), ("com/example/slot512/slot512/Link", "next", "Lcom/example/slot512/slot512/Link;", (.ref d))]) C d7_12 rfl (hw _ (List.mem_of_getElem? (i := 14) rfl)) Via.refl O1 rfl (Or.inl (hw _ (List.mem_of_getElem? (i := 15) rfl))) (hw _ (List.mem_of_getElem? (i := 5) rfl)) (by decide) rfl rfl rfl (C.old (List.mem_of_getElem? (i := 0) rfl)) fun hn2 O1 Khn2 => ?_
  replace O2 := O2.keep Khn2 (ninS (Ne.symm nad) nin0)
  replace O3 := O3.keep Khn2 (ninS (Ne.symm nat) nin0)
  refine g_aloadN (pc' := 16) C d7_15 rfl rfl rfl ?_
  refine g_aloadN (pc' := 17) C d7_16 rfl rfl rfl ?_
  refine g_putO (pc' := 20) (j := 1) (ty := (.object "com/example/slot512/slot512/Link")) (v' := (.ref a)) (fs' := [("com/example/slot512/slot512/Link", "prev", "Lcom/example/slot512/slot512/Link;", v4), ("com/example/slot512/slot512/Link", "next", "Lcom/example/slot512/slot512/Link;", (.ref a))]) C d7_17 rfl (hw _ (List.mem_of_getElem? (i := 14) rfl)) Via.refl O3 rfl (Or.inl (hw _ (List.mem_of_getElem? (i := 15) rfl))) (hw _ (List.mem_of_getElem? (i := 5) rfl)) (by decide) rfl rfl rfl (C.old (List.mem_of_getElem? (i := 2) rfl)) fun hn3 O3 Khn3 => ?_
  replace O1 := O1.keep Khn3 (ninS nat nin0)
  replace O2 := O2.keep Khn3 (ninS (Ne.symm ntd) nin0)
  refine g_aloadN (pc' := 21) C d7_20 rfl rfl rfl ?_
  refine g_aloadN (pc' := 22) C d7_21 rfl rfl rfl ?_
  refine g_putO (pc' := 25) (j := 0) (ty := (.object "com/example/slot512/slot512/Link")) (v' := (.ref a)) (fs' := [("com/example/slot512/slot512/Link", "prev", "Lcom/example/slot512/slot512/Link;", (.ref a)), ("com/example/slot512/slot512/Link", "next", "Lcom/example/slot512/slot512/Link;", v3)]) C d7_22 rfl (hw _ (List.mem_of_getElem? (i := 12) rfl)) Via.refl O2 rfl (Or.inl (hw _ (List.mem_of_getElem? (i := 13) rfl))) (hw _ (List.mem_of_getElem? (i := 5) rfl)) (by decide) rfl rfl rfl (C.old (List.mem_of_getElem? (i := 1) rfl)) fun hn4 O2 Khn4 => ?_
  replace O1 := O1.keep Khn4 (ninS nad nin0)
  replace O3 := O3.keep Khn4 (ninS ntd nin0)
  refine g_return C d7_25 (by decide) (by decide) ?_
  subst hQ
  exact ⟨rfl, O1, O2, O3⟩
set_option maxRecDepth 65536 in
set_option maxHeartbeats 2000000 in
theorem con_un0 (l : Launch) (Z : State) (a0 : Array Value) (hw : ∀ d ∈ tables_1, d.before a0 Z = true) (a : Addr) (v1 : Value) (h : Heap) (O : Ob Z h a "com/example/slot512/slot512/Link" [("com/example/slot512/slot512/Link", "prev", "Lcom/example/slot512/slot512/Link;", v1), ("com/example/slot512/slot512/Link", "next", "Lcom/example/slot512/slot512/Link;", .null)]) :
    Con l Z [] (⟨"com/example/slot512/slot512/Link", "unlink", "()V"⟩ : MethodName) prog_3_method_5_code 1 none ({ frames := 0, cells := 0, slots := 0, locals := 0 } : Room) #[(.ref a)] h [] (fun v h' => v = none ∧ h = h') := by
  refine Con.of_go (L0 := #[.val (.ref a)]) (plainFor_of_name (by first | (simp [plainName, overriddenIn]; done) | decide +kernel)) (locals_of rfl) fun W Q hQ hl C => ?_
  subst hl
  refine g_aloadN (pc' := 1) C d4_0 rfl rfl rfl ?_
  refine g_getO (pc' := 4) (j := 1) C d4_1 rfl (hw _ (List.mem_of_getElem? (i := 14) rfl)) O rfl ?_
  refine g_ifnonnull (pc1 := 8) (pc2 := 7) C d4_4 (by decide) rfl rfl rfl (fun c => absurd rfl c) (fun _ => ?_)
  refine g_return C d4_7 (by decide) (by decide) ?_
  subst hQ
  exact ⟨rfl, rfl⟩
set_option maxRecDepth 65536 in
set_option maxHeartbeats 2000000 in
theorem con_un1 (l : Launch) (Z : State) (a0 : Array Value) (hw : ∀ d ∈ tables_1, d.before a0 Z = true) (a p : Addr) (v1 v2 : Value) (nap : a ≠ p) (h : Heap) (O : Ob Z h a "com/example/slot512/slot512/Link" [("com/example/slot512/slot512/Link", "prev", "Lcom/example/slot512/slot512/Link;", (.ref p)), ("com/example/slot512/slot512/Link", "next", "Lcom/example/slot512/slot512/Link;", (.ref p))]) (O1 : Ob Z h p "com/example/slot512/slot512/Link" [("com/example/slot512/slot512/Link", "prev", "Lcom/example/slot512/slot512/Link;", v1), ("com/example/slot512/slot512/Link", "next", "Lcom/example/slot512/slot512/Link;", v2)]) :
    Con l Z [] (⟨"com/example/slot512/slot512/Link", "unlink", "()V"⟩ : MethodName) prog_3_method_5_code 1 none ({ frames := 0, cells := 0, slots := 0, locals := 0 } : Room) #[(.ref a)] h [a, p] (fun v h' => v = none ∧ Ob Z h' a "com/example/slot512/slot512/Link" [("com/example/slot512/slot512/Link", "prev", "Lcom/example/slot512/slot512/Link;", .null), ("com/example/slot512/slot512/Link", "next", "Lcom/example/slot512/slot512/Link;", .null)] ∧ Ob Z h' p "com/example/slot512/slot512/Link" [("com/example/slot512/slot512/Link", "prev", "Lcom/example/slot512/slot512/Link;", (.ref p)), ("com/example/slot512/slot512/Link", "next", "Lcom/example/slot512/slot512/Link;", (.ref p))]) := by
  refine Con.of_go (L0 := #[.val (.ref a)]) (plainFor_of_name (by first | (simp [plainName, overriddenIn]; done) | decide +kernel)) (locals_of rfl) fun W Q hQ hl C => ?_
  subst hl
  refine g_aloadN (pc' := 1) C d4_0 rfl rfl rfl ?_
  refine g_getO (pc' := 4) (j := 1) C d4_1 rfl (hw _ (List.mem_of_getElem? (i := 14) rfl)) O rfl ?_
  refine g_ifnonnull (pc1 := 8) (pc2 := 7) C d4_4 (by decide) rfl rfl rfl (fun _ => ?_) (fun c => nomatch c)
  refine g_aloadN (pc' := 9) C d4_8 rfl rfl rfl ?_
  refine g_getO (pc' := 12) (j := 0) C d4_9 rfl (hw _ (List.mem_of_getElem? (i := 12) rfl)) O rfl ?_
  refine g_aloadN (pc' := 13) C d4_12 rfl rfl rfl ?_
  refine g_getO (pc' := 16) (j := 1) C d4_13 rfl (hw _ (List.mem_of_getElem? (i := 14) rfl)) O rfl ?_
  refine g_putO (pc' := 19) (j := 1) (ty := (.object "com/example/slot512/slot512/Link")) (v' := (.ref p)) (fs' := [("com/example/slot512/slot512/Link", "prev", "Lcom/example/slot512/slot512/Link;", v1), ("com/example/slot512/slot512/Link", "next", "Lcom/example/slot512/slot512/Link;", (.ref p))]) C d4_16 rfl (hw _ (List.mem_of_getElem? (i := 14) rfl)) Via.refl O1 rfl (Or.inl (hw _ (List.mem_of_getElem? (i := 15) rfl))) (hw _ (List.mem_of_getElem? (i := 5) rfl)) (by decide) rfl rfl rfl (C.old (List.mem_of_getElem? (i := 1) rfl)) fun hv1 O1 Khv1 => ?_
  replace O := O.keep Khv1 (ninS nap nin0)
  refine g_aloadN (pc' := 20) C d4_19 rfl rfl rfl ?_
  refine g_getO (pc' := 23) (j := 1) C d4_20 rfl (hw _ (List.mem_of_getElem? (i := 14) rfl)) O rfl ?_
  refine g_aloadN (pc' := 24) C d4_23 rfl rfl rfl ?_
  refine g_getO (pc' := 27) (j := 0) C d4_24 rfl (hw _ (List.mem_of_getElem? (i := 12) rfl)) O rfl ?_
  refine g_putO (pc' := 30) (j := 0) (ty := (.object "com/example/slot512/slot512/Link")) (v' := (.ref p)) (fs' := [("com/example/slot512/slot512/Link", "prev", "Lcom/example/slot512/slot512/Link;", (.ref p)), ("com/example/slot512/slot512/Link", "next", "Lcom/example/slot512/slot512/Link;", (.ref p))]) C d4_27 rfl (hw _ (List.mem_of_getElem? (i := 12) rfl)) Via.refl O1 rfl (Or.inl (hw _ (List.mem_of_getElem? (i := 13) rfl))) (hw _ (List.mem_of_getElem? (i := 5) rfl)) (by decide) rfl rfl rfl (C.old (List.mem_of_getElem? (i := 1) rfl)) fun hv2 O1 Khv2 => ?_
  replace O := O.keep Khv2 (ninS nap nin0)
  refine g_aloadN (pc' := 31) C d4_30 rfl rfl rfl ?_
  refine g_aconst_null (pc' := 32) C d4_31 rfl ?_
  refine g_putO (pc' := 35) (j := 0) (ty := (.object "com/example/slot512/slot512/Link")) (v' := .null) (fs' := [("com/example/slot512/slot512/Link", "prev", "Lcom/example/slot512/slot512/Link;", .null), ("com/example/slot512/slot512/Link", "next", "Lcom/example/slot512/slot512/Link;", (.ref p))]) C d4_32 rfl (hw _ (List.mem_of_getElem? (i := 12) rfl)) Via.refl O rfl (Or.inl (hw _ (List.mem_of_getElem? (i := 13) rfl))) (hw _ (List.mem_of_getElem? (i := 5) rfl)) (by decide) rfl rfl rfl (C.old (List.mem_of_getElem? (i := 0) rfl)) fun hv3 O Khv3 => ?_
  replace O1 := O1.keep Khv3 (ninS (Ne.symm nap) nin0)
  refine g_aloadN (pc' := 36) C d4_35 rfl rfl rfl ?_
  refine g_aconst_null (pc' := 37) C d4_36 rfl ?_
  refine g_putO (pc' := 40) (j := 1) (ty := (.object "com/example/slot512/slot512/Link")) (v' := .null) (fs' := [("com/example/slot512/slot512/Link", "prev", "Lcom/example/slot512/slot512/Link;", .null), ("com/example/slot512/slot512/Link", "next", "Lcom/example/slot512/slot512/Link;", .null)]) C d4_37 rfl (hw _ (List.mem_of_getElem? (i := 14) rfl)) Via.refl O rfl (Or.inl (hw _ (List.mem_of_getElem? (i := 15) rfl))) (hw _ (List.mem_of_getElem? (i := 5) rfl)) (by decide) rfl rfl rfl (C.old (List.mem_of_getElem? (i := 0) rfl)) fun hv4 O Khv4 => ?_
  replace O1 := O1.keep Khv4 (ninS (Ne.symm nap) nin0)
  refine g_return C d4_40 (by decide) (by decide) ?_
  subst hQ
  exact ⟨rfl, O, O1⟩
set_option maxRecDepth 65536 in
set_option maxHeartbeats 2000000 in
theorem con_un2 (l : Launch) (Z : State) (a0 : Array Value) (hw : ∀ d ∈ tables_1, d.before a0 Z = true) (a p n : Addr) (v1 v2 v3 v4 : Value) (nap : a ≠ p) (nan : a ≠ n) (npn : p ≠ n) (h : Heap) (O : Ob Z h a "com/example/slot512/slot512/Link" [("com/example/slot512/slot512/Link", "prev", "Lcom/example/slot512/slot512/Link;", (.ref p)), ("com/example/slot512/slot512/Link", "next", "Lcom/example/slot512/slot512/Link;", (.ref n))]) (O1 : Ob Z h p "com/example/slot512/slot512/Link" [("com/example/slot512/slot512/Link", "prev", "Lcom/example/slot512/slot512/Link;", v1), ("com/example/slot512/slot512/Link", "next", "Lcom/example/slot512/slot512/Link;", v2)]) (O2 : Ob Z h n "com/example/slot512/slot512/Link" [("com/example/slot512/slot512/Link", "prev", "Lcom/example/slot512/slot512/Link;", v3), ("com/example/slot512/slot512/Link", "next", "Lcom/example/slot512/slot512/Link;", v4)]) :
    Con l Z [] (⟨"com/example/slot512/slot512/Link", "unlink", "()V"⟩ : MethodName) prog_3_method_5_code 1 none ({ frames := 0, cells := 0, slots := 0, locals := 0 } : Room) #[(.ref a)] h [a, p, n] (fun v h' => v = none ∧ Ob Z h' a "com/example/slot512/slot512/Link" [("com/example/slot512/slot512/Link", "prev", "Lcom/example/slot512/slot512/Link;", .null), ("com/example/slot512/slot512/Link", "next", "Lcom/example/slot512/slot512/Link;", .null)] ∧ Ob Z h' p "com/example/slot512/slot512/Link" [("com/example/slot512/slot512/Link", "prev", "Lcom/example/slot512/slot512/Link;", v1), ("com/example/slot512/slot512/Link", "next", "Lcom/example/slot512/slot512/Link;", (.ref n))] ∧ Ob Z h' n "com/example/slot512/slot512/Link" [("com/example/slot512/slot512/Link", "prev", "Lcom/example/slot512/slot512/Link;", (.ref p)), ("com/example/slot512/slot512/Link", "next", "Lcom/example/slot512/slot512/Link;", v4)]) := by
  refine Con.of_go (L0 := #[.val (.ref a)]) (plainFor_of_name (by first | (simp [plainName, overriddenIn]; done) | decide +kernel)) (locals_of rfl) fun W Q hQ hl C => ?_
  subst hl
  refine g_aloadN (pc' := 1) C d4_0 rfl rfl rfl ?_
  refine g_getO (pc' := 4) (j := 1) C d4_1 rfl (hw _ (List.mem_of_getElem? (i := 14) rfl)) O rfl ?_
  refine g_ifnonnull (pc1 := 8) (pc2 := 7) C d4_4 (by decide) rfl rfl rfl (fun _ => ?_) (fun c => nomatch c)
  refine g_aloadN (pc' := 9) C d4_8 rfl rfl rfl ?_
  refine g_getO (pc' := 12) (j := 0) C d4_9 rfl (hw _ (List.mem_of_getElem? (i := 12) rfl)) O rfl ?_
  refine g_aloadN (pc' := 13) C d4_12 rfl rfl rfl ?_
  refine g_getO (pc' := 16) (j := 1) C d4_13 rfl (hw _ (List.mem_of_getElem? (i := 14) rfl)) O rfl ?_
  refine g_putO (pc' := 19) (j := 1) (ty := (.object "com/example/slot512/slot512/Link")) (v' := (.ref n)) (fs' := [("com/example/slot512/slot512/Link", "prev", "Lcom/example/slot512/slot512/Link;", v1), ("com/example/slot512/slot512/Link", "next", "Lcom/example/slot512/slot512/Link;", (.ref n))]) C d4_16 rfl (hw _ (List.mem_of_getElem? (i := 14) rfl)) Via.refl O1 rfl (Or.inl (hw _ (List.mem_of_getElem? (i := 15) rfl))) (hw _ (List.mem_of_getElem? (i := 5) rfl)) (by decide) rfl rfl rfl (C.old (List.mem_of_getElem? (i := 1) rfl)) fun hw1 O1 Khw1 => ?_
  replace O := O.keep Khw1 (ninS nap nin0)
  replace O2 := O2.keep Khw1 (ninS (Ne.symm npn) nin0)
  refine g_aloadN (pc' := 20) C d4_19 rfl rfl rfl ?_
  refine g_getO (pc' := 23) (j := 1) C d4_20 rfl (hw _ (List.mem_of_getElem? (i := 14) rfl)) O rfl ?_
  refine g_aloadN (pc' := 24) C d4_23 rfl rfl rfl ?_
  refine g_getO (pc' := 27) (j := 0) C d4_24 rfl (hw _ (List.mem_of_getElem? (i := 12) rfl)) O rfl ?_
  refine g_putO (pc' := 30) (j := 0) (ty := (.object "com/example/slot512/slot512/Link")) (v' := (.ref p)) (fs' := [("com/example/slot512/slot512/Link", "prev", "Lcom/example/slot512/slot512/Link;", (.ref p)), ("com/example/slot512/slot512/Link", "next", "Lcom/example/slot512/slot512/Link;", v4)]) C d4_27 rfl (hw _ (List.mem_of_getElem? (i := 12) rfl)) Via.refl O2 rfl (Or.inl (hw _ (List.mem_of_getElem? (i := 13) rfl))) (hw _ (List.mem_of_getElem? (i := 5) rfl)) (by decide) rfl rfl rfl (C.old (List.mem_of_getElem? (i := 2) rfl)) fun hw2 O2 Khw2 => ?_
  replace O := O.keep Khw2 (ninS nan nin0)
  replace O1 := O1.keep Khw2 (ninS npn nin0)
  refine g_aloadN (pc' := 31) C d4_30 rfl rfl rfl ?_
  refine g_aconst_null (pc' := 32) C d4_31 rfl ?_
  refine g_putO (pc' := 35) (j := 0) (ty := (.object "com/example/slot512/slot512/Link")) (v' := .null) (fs' := [("com/example/slot512/slot512/Link", "prev", "Lcom/example/slot512/slot512/Link;", .null), ("com/example/slot512/slot512/Link", "next", "Lcom/example/slot512/slot512/Link;", (.ref n))]) C d4_32 rfl (hw _ (List.mem_of_getElem? (i := 12) rfl)) Via.refl O rfl (Or.inl (hw _ (List.mem_of_getElem? (i := 13) rfl))) (hw _ (List.mem_of_getElem? (i := 5) rfl)) (by decide) rfl rfl rfl (C.old (List.mem_of_getElem? (i := 0) rfl)) fun hw3 O Khw3 => ?_
  replace O1 := O1.keep Khw3 (ninS (Ne.symm nap) nin0)
  replace O2 := O2.keep Khw3 (ninS (Ne.symm nan) nin0)
  refine g_aloadN (pc' := 36) C d4_35 rfl rfl rfl ?_
  refine g_aconst_null (pc' := 37) C d4_36 rfl ?_
  refine g_putO (pc' := 40) (j := 1) (ty := (.object "com/example/slot512/slot512/Link")) (v' := .null) (fs' := [("com/example/slot512/slot512/Link", "prev", "Lcom/example/slot512/slot512/Link;", .null), ("com/example/slot512/slot512/Link", "next", "Lcom/example/slot512/slot512/Link;", .null)]) C d4_37 rfl (hw _ (List.mem_of_getElem? (i := 14) rfl)) Via.refl O rfl (Or.inl (hw _ (List.mem_of_getElem? (i := 15) rfl))) (hw _ (List.mem_of_getElem? (i := 5) rfl)) (by decide) rfl rfl rfl (C.old (List.mem_of_getElem? (i := 0) rfl)) fun hw4 O Khw4 => ?_
  replace O1 := O1.keep Khw4 (ninS (Ne.symm nap) nin0)
  replace O2 := O2.keep Khw4 (ninS (Ne.symm nan) nin0)
  refine g_return C d4_40 (by decide) (by decide) ?_
  subst hQ
  exact ⟨rfl, O, O1, O2⟩
set_option maxRecDepth 65536 in
set_option maxHeartbeats 2000000 in
theorem con_joined (l : Launch) (Z : State) (a0 : Array Value) (hw : ∀ d ∈ tables_1, d.before a0 Z = true) (c x : Addr) (v1 v2 : Value) (h : Heap) (O1 : Ob Z h c "com/example/slot512/slot512/Link" [("com/example/slot512/slot512/Link", "prev", "Lcom/example/slot512/slot512/Link;", v1), ("com/example/slot512/slot512/Link", "next", "Lcom/example/slot512/slot512/Link;", (.ref x))]) (O2 : Ob Z h x "com/example/slot512/slot512/Link" [("com/example/slot512/slot512/Link", "prev", "Lcom/example/slot512/slot512/Link;", (.ref c)), ("com/example/slot512/slot512/Link", "next", "Lcom/example/slot512/slot512/Link;", v2)]) :
    Con l Z [] (⟨"com/example/slot512/slot512/LinkUnlinkPinLaw", "joined", "(Lcom/example/slot512/slot512/Link;Lcom/example/slot512/slot512/Link;)Z"⟩ : MethodName) method_2_code 2 (some .boolean) ({ frames := 0, cells := 0, slots := 0, locals := 0 } : Room) #[(.ref c), (.ref x)] h [] (fun v h' => v = some (.int 1) ∧ h' = h) := by
  refine Con.of_go (L0 := #[.val (.ref c), .val (.ref x)]) (plainFor_of_name (by first | (simp [plainName, overriddenIn]; done) | decide +kernel)) (locals_of rfl) fun W Q hQ hl C => ?_
  subst hl
  refine g_aloadN (pc' := 1) C d5_0 rfl rfl rfl ?_
  refine g_getO (pc' := 4) (j := 1) C d5_1 rfl (hw _ (List.mem_of_getElem? (i := 29) rfl)) O1 rfl ?_
  refine g_aloadN (pc' := 5) C d5_4 rfl rfl rfl ?_
  refine g_acmpne (pc1 := 20) (pc2 := 8) C d5_5 (by decide) rfl rfl rfl rfl (fun c => absurd rfl c) (fun _ => ?_)
  refine g_aloadN (pc' := 9) C d5_8 rfl rfl rfl ?_
  refine g_getO (pc' := 12) (j := 0) C d5_9 rfl (hw _ (List.mem_of_getElem? (i := 30) rfl)) O2 rfl ?_
  refine g_aloadN (pc' := 13) C d5_12 rfl rfl rfl ?_
  refine g_acmpne (pc1 := 20) (pc2 := 16) C d5_13 (by decide) rfl rfl rfl rfl (fun c => absurd rfl c) (fun _ => ?_)
  refine g_iconst (pc' := 17) (z := (1 : Int32)) C d5_16 rfl rfl ?_
  refine g_goto C d5_17 (by decide) (pc' := 21) rfl ?_
  refine g_retN C (by simp) d5_21 (by decide) (by decide) ?_
  subst hQ
  exact ⟨rfl, rfl⟩
set_option maxRecDepth 65536 in
set_option maxHeartbeats 2000000 in
theorem con_det (l : Launch) (Z : State) (a0 : Array Value) (hw : ∀ d ∈ tables_1, d.before a0 Z = true) (c : Addr) (h : Heap) (O1 : Ob Z h c "com/example/slot512/slot512/Link" [("com/example/slot512/slot512/Link", "prev", "Lcom/example/slot512/slot512/Link;", .null), ("com/example/slot512/slot512/Link", "next", "Lcom/example/slot512/slot512/Link;", .null)]) :
    Con l Z [] (⟨"com/example/slot512/slot512/LinkUnlinkPinLaw", "detached", "(Lcom/example/slot512/slot512/Link;)Z"⟩ : MethodName) method_3_code 1 (some .boolean) ({ frames := 0, cells := 0, slots := 0, locals := 0 } : Room) #[(.ref c)] h [] (fun v h' => v = some (.int 1) ∧ h' = h) := by
  refine Con.of_go (L0 := #[.val (.ref c)]) (plainFor_of_name (by first | (simp [plainName, overriddenIn]; done) | decide +kernel)) (locals_of rfl) fun W Q hQ hl C => ?_
  subst hl
  refine g_aloadN (pc' := 1) C d6_0 rfl rfl rfl ?_
  refine g_getO (pc' := 4) (j := 0) C d6_1 rfl (hw _ (List.mem_of_getElem? (i := 30) rfl)) O1 rfl ?_
  refine g_ifnonnull (pc1 := 18) (pc2 := 7) C d6_4 (by decide) rfl rfl rfl (fun c => absurd rfl c) (fun _ => ?_)
  refine g_aloadN (pc' := 8) C d6_7 rfl rfl rfl ?_
  refine g_getO (pc' := 11) (j := 1) C d6_8 rfl (hw _ (List.mem_of_getElem? (i := 29) rfl)) O1 rfl ?_
  refine g_ifnonnull (pc1 := 18) (pc2 := 14) C d6_11 (by decide) rfl rfl rfl (fun c => absurd rfl c) (fun _ => ?_)
  refine g_iconst (pc' := 15) (z := (1 : Int32)) C d6_14 rfl rfl ?_
  refine g_goto C d6_15 (by decide) (pc' := 19) rfl ?_
  refine g_retN C (by simp) d6_19 (by decide) (by decide) ?_
  subst hQ
  exact ⟨rfl, rfl⟩
set_option maxRecDepth 65536 in
set_option maxHeartbeats 2000000 in
theorem con_0 (l : Launch) (Z : State) (a0 : Array Value) (hw : ∀ d ∈ tables_1, d.before a0 Z = true) (p0 p1 p2 : Int32) (h : Heap)  :
    Con l Z tables_1 x code maxLocals ret room_1 #[(.int p0), (.int p1), (.int p2)] h [] (fun v _ => v = some (.int 1)) := by
  refine Con.of_go (L0 := #[.val (.int p0), .val (.int p1), .val (.int p2), .unset, .unset, .unset, .unset, .unset, .unset, .unset, .unset, .unset, .unset, .unset, .unset]) (plainFor_of_name (by first | (simp [plainName, overriddenIn]; done) | decide +kernel)) (locals_of rfl) fun W Q hQ hl C => ?_
  subst hl
  refine g_iloadN (pc' := 1) C at_0 rfl rfl ?_
  refine g_iconst (pc' := 2) (z := (3 : Int32)) C at_1 rfl rfl ?_
  refine g_iand (pc' := 3) C at_2 rfl ?_
  refine g_nameI fun i1 e_i1 => ?_
  refine g_istoreN (pc' := 4) (L' := #[.val (.int p0), .val (.int p1), .val (.int p2), .val (.int i1), .unset, .unset, .unset, .unset, .unset, .unset, .unset, .unset, .unset, .unset, .unset]) C at_3 rfl rfl ?_
  refine g_iloadN (pc' := 5) C at_4 rfl rfl ?_
  refine g_iconst (pc' := 6) (z := (3 : Int32)) C at_5 rfl rfl ?_
  refine g_iand (pc' := 7) C at_6 rfl ?_
  refine g_nameI fun i2 e_i2 => ?_
  refine g_istore (pc' := 9) (L' := #[.val (.int p0), .val (.int p1), .val (.int p2), .val (.int i1), .val (.int i2), .unset, .unset, .unset, .unset, .unset, .unset, .unset, .unset, .unset, .unset]) C at_7 rfl rfl ?_
  refine g_iloadN (pc' := 10) C at_9 rfl rfl ?_
  refine g_iconst (pc' := 11) (z := (1 : Int32)) C at_10 rfl rfl ?_
  refine g_iand (pc' := 12) C at_11 rfl ?_
  suffices K_12 : ∀ z3 : Int32, z3 = b2i (¬ ((p2 &&& (1 : Int32)).toInt = 0)) → Go W Q h 0 0 20 #[.val (.int p0), .val (.int p1), .val (.int p2), .val (.int i1), .val (.int i2), .unset, .unset, .unset, .unset, .unset, .unset, .unset, .unset, .unset, .unset] [(.int z3)] by
    refine g_if (xi := (p2 &&& (1 : Int32)).toInt) (pc1 := 19) (pc2 := 15) C at_12 (by decide) rfl rfl rfl (fun (c12 : (p2 &&& (1 : Int32)).toInt = 0) => ?_) (fun (c12 : ¬ ((p2 &&& (1 : Int32)).toInt = 0)) => ?_)
    ·
      refine g_iconst (pc' := 20) (z := (0 : Int32)) C at_19 rfl rfl ?_
      exact K_12 (0 : Int32) ((rfl : (0 : Int32) = b2i False).trans (b2i_iff (iff_false_intro (fun y => y c12)).symm))
    ·
      refine g_iconst (pc' := 16) (z := (1 : Int32)) C at_15 rfl rfl ?_
      refine g_goto C at_16 (by decide) (pc' := 20) rfl ?_
      exact K_12 (1 : Int32) ((rfl : (1 : Int32) = b2i True).trans (b2i_iff (iff_true_intro c12).symm))
  intro z3 e_z3
  refine g_istore (pc' := 22) (L' := #[.val (.int p0), .val (.int p1), .val (.int p2), .val (.int i1), .val (.int i2), .val (.int z3), .unset, .unset, .unset, .unset, .unset, .unset, .unset, .unset, .unset]) C at_20 rfl rfl ?_
  refine g_static (y := (⟨"com/example/slot512/slot512/Link", "emptyList", "()Lcom/example/slot512/slot512/Link;"⟩ : MethodName)) (pc' := 25) (k' := 1) (n' := 2) (S := []) (as := []) C at_22 rfl (hw _ (List.mem_of_getElem? (i := 0) rfl)) (hw _ (List.mem_of_getElem? (i := 1) rfl)) (hw _ (List.mem_of_getElem? (i := 2) rfl)) (hw _ (List.mem_of_getElem? (i := 3) rfl)) (by decide) (lenOf pd_1 rfl) (con_empty W.l Z a0 hw h) rfl rfl (Nat.le_of_ble_eq_true rfl) (Nat.le_of_ble_eq_true rfl) rfl rfl (Nat.le_of_ble_eq_true rfl) (Nat.le_of_ble_eq_true rfl) all0 fun vh1 h1 qh1 Kh1 => ?_
  obtain ⟨r0, rfl, gr0, Or0⟩ := qh1
  show Go W Q h1 1 2 25 #[.val (.int p0), .val (.int p1), .val (.int p2), .val (.int i1), .val (.int i2), .val (.int z3), .unset, .unset, .unset, .unset, .unset, .unset, .unset, .unset, .unset] [(.ref r0)]
  have w_r0 : Pw W r0 := C.new gr0
  refine g_astore (pc' := 27) (L' := #[.val (.int p0), .val (.int p1), .val (.int p2), .val (.int i1), .val (.int i2), .val (.int z3), .val (.ref r0), .unset, .unset, .unset, .unset, .unset, .unset, .unset, .unset]) C at_25 rfl rfl rfl ?_
  refine g_iconst (pc' := 28) (z := (4 : Int32)) C at_27 rfl rfl ?_
  refine g_anewarray (pc' := 31) (len := 4) (cap := 4) (k' := 2) (n' := 6) C at_28 rfl (hw _ (List.mem_of_getElem? (i := 16) rfl)) (hw _ (List.mem_of_getElem? (i := 17) rfl)) rfl (by decide) (by decide) rfl rfl (by decide) (by decide) fun h2 a4 e_a4 Eh2 Aa4 w_a4 => ?_
  have n_r0_a4 : r0 ≠ a4 := by rw [e_a4]; exact Nat.ne_of_lt Or0.lt
  replace Or0 := Or0.ext Eh2
  replace Aa4 : ArR Z h2 a4 "com/example/slot512/slot512/Link" [.null, .null, .null, .null] := Aa4
  refine g_astore (pc' := 33) (L' := #[.val (.int p0), .val (.int p1), .val (.int p2), .val (.int i1), .val (.int i2), .val (.int z3), .val (.ref r0), .val (.ref a4), .unset, .unset, .unset, .unset, .unset, .unset, .unset]) C at_31 rfl rfl rfl ?_
  refine g_aload (pc' := 35) C at_33 rfl rfl rfl ?_
  refine g_iconst (pc' := 36) (z := (0 : Int32)) C at_35 rfl rfl ?_
  refine g_new (pc' := 39) (k' := 3) (n' := 8) C at_36 rfl (hw _ (List.mem_of_getElem? (i := 16) rfl)) (hw _ (List.mem_of_getElem? (i := 5) rfl)) (hw _ (List.mem_of_getElem? (i := 2) rfl)) rfl rfl (by decide) (by decide) fun h3 a5 e_a5 Eh3 Xa5 Da5 w_a5 => ?_
  have n_r0_a5 : r0 ≠ a5 := by rw [e_a5]; exact Nat.ne_of_lt Or0.lt
  have n_a4_a5 : a4 ≠ a5 := by rw [e_a5]; exact Nat.ne_of_lt Aa4.lt
  replace Or0 := Or0.ext Eh3
  replace Aa4 := Aa4.ext Eh3
  have Oa5 : Ob Z h3 a5 "com/example/slot512/slot512/Link" [("com/example/slot512/slot512/Link", "prev", "Lcom/example/slot512/slot512/Link;", .null), ("com/example/slot512/slot512/Link", "next", "Lcom/example/slot512/slot512/Link;", .null)] := ⟨Xa5, by
    simp only [List.forall_mem_cons, List.not_mem_nil, false_implies, implies_true, and_true]
    exact ⟨Da5 (Or.inl (hw _ (List.mem_of_getElem? (i := 13) rfl))) (ty := (.object "com/example/slot512/slot512/Link")) (by decide), Da5 (Or.inl (hw _ (List.mem_of_getElem? (i := 15) rfl))) (ty := (.object "com/example/slot512/slot512/Link")) (by decide)⟩, dis_0 Z a0 hw⟩
  refine g_dup (pc' := 40) C at_39 rfl rfl ?_
  refine g_special (y := (⟨"com/example/slot512/slot512/Link", "<init>", "()V"⟩ : MethodName)) (a := a5) (pc' := 43) (k' := 3) (n' := 8) (S := [(.ref a5), (.int (0 : Int32)), (.ref a4)]) (as := []) C at_40 rfl rfl (hw _ (List.mem_of_getElem? (i := 18) rfl)) (hw _ (List.mem_of_getElem? (i := 7) rfl)) (hw _ (List.mem_of_getElem? (i := 2) rfl)) (hw _ (List.mem_of_getElem? (i := 8) rfl)) (by decide) (lenOf pd_0 rfl) (con_init W.l Z a0 hw a5 h3) rfl rfl (Nat.le_of_ble_eq_true rfl) (Nat.le_of_ble_eq_true rfl) rfl rfl (Nat.le_of_ble_eq_true rfl) (Nat.le_of_ble_eq_true rfl) all0 fun vh4 h4 qh4 Kh4 => ?_
  obtain ⟨rfl, eh⟩ := qh4
  subst eh
  show Go W Q h3 3 8 43 #[.val (.int p0), .val (.int p1), .val (.int p2), .val (.int i1), .val (.int i2), .val (.int z3), .val (.ref r0), .val (.ref a4), .unset, .unset, .unset, .unset, .unset, .unset, .unset] [(.ref a5), (.int (0 : Int32)), (.ref a4)]
  refine g_aastore (pc' := 44) (i := 0) (vs' := [(.ref a5), .null, .null, .null]) C at_43 rfl Aa4 rfl (Nat.le_of_ble_eq_true rfl) rfl (Or.inr ⟨_, rfl, Oa5.1⟩) w_a4 fun h5 Aa4 Kh5 => ?_
  replace Or0 := Or0.keep Kh5 (ninS n_r0_a4 nin0)
  replace Oa5 := Oa5.keep Kh5 (ninS (Ne.symm n_a4_a5) nin0)
  refine g_aload (pc' := 46) C at_44 rfl rfl rfl ?_
  refine g_iconst (pc' := 47) (z := (1 : Int32)) C at_46 rfl rfl ?_
  refine g_new (pc' := 50) (k' := 4) (n' := 10) C at_47 rfl (hw _ (List.mem_of_getElem? (i := 16) rfl)) (hw _ (List.mem_of_getElem? (i := 5) rfl)) (hw _ (List.mem_of_getElem? (i := 2) rfl)) rfl rfl (by decide) (by decide) fun h6 a6 e_a6 Eh6 Xa6 Da6 w_a6 => ?_
  have n_r0_a6 : r0 ≠ a6 := by rw [e_a6]; exact Nat.ne_of_lt Or0.lt
  have n_a5_a6 : a5 ≠ a6 := by rw [e_a6]; exact Nat.ne_of_lt Oa5.lt
  have n_a4_a6 : a4 ≠ a6 := by rw [e_a6]; exact Nat.ne_of_lt Aa4.lt
  replace Or0 := Or0.ext Eh6
  replace Oa5 := Oa5.ext Eh6
  replace Aa4 := Aa4.ext Eh6
  have Oa6 : Ob Z h6 a6 "com/example/slot512/slot512/Link" [("com/example/slot512/slot512/Link", "prev", "Lcom/example/slot512/slot512/Link;", .null), ("com/example/slot512/slot512/Link", "next", "Lcom/example/slot512/slot512/Link;", .null)] := ⟨Xa6, by
    simp only [List.forall_mem_cons, List.not_mem_nil, false_implies, implies_true, and_true]
    exact ⟨Da6 (Or.inl (hw _ (List.mem_of_getElem? (i := 13) rfl))) (ty := (.object "com/example/slot512/slot512/Link")) (by decide), Da6 (Or.inl (hw _ (List.mem_of_getElem? (i := 15) rfl))) (ty := (.object "com/example/slot512/slot512/Link")) (by decide)⟩, dis_0 Z a0 hw⟩
  refine g_dup (pc' := 51) C at_50 rfl rfl ?_
  refine g_special (y := (⟨"com/example/slot512/slot512/Link", "<init>", "()V"⟩ : MethodName)) (a := a6) (pc' := 54) (k' := 4) (n' := 10) (S := [(.ref a6), (.int (1 : Int32)), (.ref a4)]) (as := []) C at_51 rfl rfl (hw _ (List.mem_of_getElem? (i := 18) rfl)) (hw _ (List.mem_of_getElem? (i := 7) rfl)) (hw _ (List.mem_of_getElem? (i := 2) rfl)) (hw _ (List.mem_of_getElem? (i := 8) rfl)) (by decide) (lenOf pd_0 rfl) (con_init W.l Z a0 hw a6 h6) rfl rfl (Nat.le_of_ble_eq_true rfl) (Nat.le_of_ble_eq_true rfl) rfl rfl (Nat.le_of_ble_eq_true rfl) (Nat.le_of_ble_eq_true rfl) all0 fun vh7 h7 qh7 Kh7 => ?_
  obtain ⟨rfl, eh⟩ := qh7
  subst eh
  show Go W Q h6 4 10 54 #[.val (.int p0), .val (.int p1), .val (.int p2), .val (.int i1), .val (.int i2), .val (.int z3), .val (.ref r0), .val (.ref a4), .unset, .unset, .unset, .unset, .unset, .unset, .unset] [(.ref a6), (.int (1 : Int32)), (.ref a4)]
  refine g_aastore (pc' := 55) (i := 1) (vs' := [(.ref a5), (.ref a6), .null, .null]) C at_54 rfl Aa4 rfl (Nat.le_of_ble_eq_true rfl) rfl (Or.inr ⟨_, rfl, Oa6.1⟩) w_a4 fun h8 Aa4 Kh8 => ?_
  replace Or0 := Or0.keep Kh8 (ninS n_r0_a4 nin0)
  replace Oa5 := Oa5.keep Kh8 (ninS (Ne.symm n_a4_a5) nin0)
  replace Oa6 := Oa6.keep Kh8 (ninS (Ne.symm n_a4_a6) nin0)
  refine g_aload (pc' := 57) C at_55 rfl rfl rfl ?_
  refine g_iconst (pc' := 58) (z := (2 : Int32)) C at_57 rfl rfl ?_
  refine g_new (pc' := 61) (k' := 5) (n' := 12) C at_58 rfl (hw _ (List.mem_of_getElem? (i := 16) rfl)) (hw _ (List.mem_of_getElem? (i := 5) rfl)) (hw _ (List.mem_of_getElem? (i := 2) rfl)) rfl rfl (by decide) (by decide) fun h9 a7 e_a7 Eh9 Xa7 Da7 w_a7 => ?_
  have n_r0_a7 : r0 ≠ a7 := by rw [e_a7]; exact Nat.ne_of_lt Or0.lt
  have n_a5_a7 : a5 ≠ a7 := by rw [e_a7]; exact Nat.ne_of_lt Oa5.lt
  have n_a6_a7 : a6 ≠ a7 := by rw [e_a7]; exact Nat.ne_of_lt Oa6.lt
  have n_a4_a7 : a4 ≠ a7 := by rw [e_a7]; exact Nat.ne_of_lt Aa4.lt
  replace Or0 := Or0.ext Eh9
  replace Oa5 := Oa5.ext Eh9
  replace Oa6 := Oa6.ext Eh9
  replace Aa4 := Aa4.ext Eh9
  have Oa7 : Ob Z h9 a7 "com/example/slot512/slot512/Link" [("com/example/slot512/slot512/Link", "prev", "Lcom/example/slot512/slot512/Link;", .null), ("com/example/slot512/slot512/Link", "next", "Lcom/example/slot512/slot512/Link;", .null)] := ⟨Xa7, by
    simp only [List.forall_mem_cons, List.not_mem_nil, false_implies, implies_true, and_true]
    exact ⟨Da7 (Or.inl (hw _ (List.mem_of_getElem? (i := 13) rfl))) (ty := (.object "com/example/slot512/slot512/Link")) (by decide), Da7 (Or.inl (hw _ (List.mem_of_getElem? (i := 15) rfl))) (ty := (.object "com/example/slot512/slot512/Link")) (by decide)⟩, dis_0 Z a0 hw⟩
  refine g_dup (pc' := 62) C at_61 rfl rfl ?_
  refine g_special (y := (⟨"com/example/slot512/slot512/Link", "<init>", "()V"⟩ : MethodName)) (a := a7) (pc' := 65) (k' := 5) (n' := 12) (S := [(.ref a7), (.int (2 : Int32)), (.ref a4)]) (as := []) C at_62 rfl rfl (hw _ (List.mem_of_getElem? (i := 18) rfl)) (hw _ (List.mem_of_getElem? (i := 7) rfl)) (hw _ (List.mem_of_getElem? (i := 2) rfl)) (hw _ (List.mem_of_getElem? (i := 8) rfl)) (by decide) (lenOf pd_0 rfl) (con_init W.l Z a0 hw a7 h9) rfl rfl (Nat.le_of_ble_eq_true rfl) (Nat.le_of_ble_eq_true rfl) rfl rfl (Nat.le_of_ble_eq_true rfl) (Nat.le_of_ble_eq_true rfl) all0 fun vh10 h10 qh10 Kh10 => ?_
  obtain ⟨rfl, eh⟩ := qh10
  subst eh
  show Go W Q h9 5 12 65 #[.val (.int p0), .val (.int p1), .val (.int p2), .val (.int i1), .val (.int i2), .val (.int z3), .val (.ref r0), .val (.ref a4), .unset, .unset, .unset, .unset, .unset, .unset, .unset] [(.ref a7), (.int (2 : Int32)), (.ref a4)]
  refine g_aastore (pc' := 66) (i := 2) (vs' := [(.ref a5), (.ref a6), (.ref a7), .null]) C at_65 rfl Aa4 rfl (Nat.le_of_ble_eq_true rfl) rfl (Or.inr ⟨_, rfl, Oa7.1⟩) w_a4 fun h11 Aa4 Kh11 => ?_
  replace Or0 := Or0.keep Kh11 (ninS n_r0_a4 nin0)
  replace Oa5 := Oa5.keep Kh11 (ninS (Ne.symm n_a4_a5) nin0)
  replace Oa6 := Oa6.keep Kh11 (ninS (Ne.symm n_a4_a6) nin0)
  replace Oa7 := Oa7.keep Kh11 (ninS (Ne.symm n_a4_a7) nin0)
  refine g_aload (pc' := 68) C at_66 rfl rfl rfl ?_
  refine g_iconst (pc' := 69) (z := (3 : Int32)) C at_68 rfl rfl ?_
  refine g_new (pc' := 72) (k' := 6) (n' := 14) C at_69 rfl (hw _ (List.mem_of_getElem? (i := 16) rfl)) (hw _ (List.mem_of_getElem? (i := 5) rfl)) (hw _ (List.mem_of_getElem? (i := 2) rfl)) rfl rfl (by decide) (by decide) fun h12 a8 e_a8 Eh12 Xa8 Da8 w_a8 => ?_
  have n_r0_a8 : r0 ≠ a8 := by rw [e_a8]; exact Nat.ne_of_lt Or0.lt
  have n_a5_a8 : a5 ≠ a8 := by rw [e_a8]; exact Nat.ne_of_lt Oa5.lt
  have n_a6_a8 : a6 ≠ a8 := by rw [e_a8]; exact Nat.ne_of_lt Oa6.lt
  have n_a7_a8 : a7 ≠ a8 := by rw [e_a8]; exact Nat.ne_of_lt Oa7.lt
  have n_a4_a8 : a4 ≠ a8 := by rw [e_a8]; exact Nat.ne_of_lt Aa4.lt
  replace Or0 := Or0.ext Eh12
  replace Oa5 := Oa5.ext Eh12
  replace Oa6 := Oa6.ext Eh12
  replace Oa7 := Oa7.ext Eh12
  replace Aa4 := Aa4.ext Eh12
  have Oa8 : Ob Z h12 a8 "com/example/slot512/slot512/Link" [("com/example/slot512/slot512/Link", "prev", "Lcom/example/slot512/slot512/Link;", .null), ("com/example/slot512/slot512/Link", "next", "Lcom/example/slot512/slot512/Link;", .null)] := ⟨Xa8, by
    simp only [List.forall_mem_cons, List.not_mem_nil, false_implies, implies_true, and_true]
    exact ⟨Da8 (Or.inl (hw _ (List.mem_of_getElem? (i := 13) rfl))) (ty := (.object "com/example/slot512/slot512/Link")) (by decide), Da8 (Or.inl (hw _ (List.mem_of_getElem? (i := 15) rfl))) (ty := (.object "com/example/slot512/slot512/Link")) (by decide)⟩, dis_0 Z a0 hw⟩
  refine g_dup (pc' := 73) C at_72 rfl rfl ?_
  refine g_special (y := (⟨"com/example/slot512/slot512/Link", "<init>", "()V"⟩ : MethodName)) (a := a8) (pc' := 76) (k' := 6) (n' := 14) (S := [(.ref a8), (.int (3 : Int32)), (.ref a4)]) (as := []) C at_73 rfl rfl (hw _ (List.mem_of_getElem? (i := 18) rfl)) (hw _ (List.mem_of_getElem? (i := 7) rfl)) (hw _ (List.mem_of_getElem? (i := 2) rfl)) (hw _ (List.mem_of_getElem? (i := 8) rfl)) (by decide) (lenOf pd_0 rfl) (con_init W.l Z a0 hw a8 h12) rfl rfl (Nat.le_of_ble_eq_true rfl) (Nat.le_of_ble_eq_true rfl) rfl rfl (Nat.le_of_ble_eq_true rfl) (Nat.le_of_ble_eq_true rfl) all0 fun vh13 h13 qh13 Kh13 => ?_
  obtain ⟨rfl, eh⟩ := qh13
  subst eh
  show Go W Q h12 6 14 76 #[.val (.int p0), .val (.int p1), .val (.int p2), .val (.int i1), .val (.int i2), .val (.int z3), .val (.ref r0), .val (.ref a4), .unset, .unset, .unset, .unset, .unset, .unset, .unset] [(.ref a8), (.int (3 : Int32)), (.ref a4)]
  refine g_aastore (pc' := 77) (i := 3) (vs' := [(.ref a5), (.ref a6), (.ref a7), (.ref a8)]) C at_76 rfl Aa4 rfl (Nat.le_of_ble_eq_true rfl) rfl (Or.inr ⟨_, rfl, Oa8.1⟩) w_a4 fun h14 Aa4 Kh14 => ?_
  replace Or0 := Or0.keep Kh14 (ninS n_r0_a4 nin0)
  replace Oa5 := Oa5.keep Kh14 (ninS (Ne.symm n_a4_a5) nin0)
  replace Oa6 := Oa6.keep Kh14 (ninS (Ne.symm n_a4_a6) nin0)
  replace Oa7 := Oa7.keep Kh14 (ninS (Ne.symm n_a4_a7) nin0)
  replace Oa8 := Oa8.keep Kh14 (ninS (Ne.symm n_a4_a8) nin0)
  have sp_i1 : i1 = 0 ∨ i1 = 1 ∨ i1 = 2 ∨ i1 = 3 := by
    have y1 := c_mask p0 3 2 (by decide) (by decide)
    rw [← e_i1] at y1
    have z0 : (0 : Int32).toInt = 0 := rfl
    have z1 : (1 : Int32).toInt = 1 := rfl
    have z2 : (2 : Int32).toInt = 2 := rfl
    have z3 : (3 : Int32).toInt = 3 := rfl
    rcases (by omega : i1.toInt = 0 ∨ i1.toInt = 1 ∨ i1.toInt = 2 ∨ i1.toInt = 3) with y | y | y | y
    · exact Or.inl (Int32.toInt_inj.mp (by omega))
    · exact Or.inr (Or.inl (Int32.toInt_inj.mp (by omega)))
    · exact Or.inr (Or.inr (Or.inl (Int32.toInt_inj.mp (by omega))))
    · exact Or.inr (Or.inr (Or.inr (Int32.toInt_inj.mp (by omega))))
  clear e_i1
  rcases sp_i1 with sp_i1 | sp_i1 | sp_i1 | sp_i1 <;> subst sp_i1
  ·
    refine g_iloadN (pc' := 78) C at_77 rfl rfl ?_
    refine g_ifY (xi := 0) (pc1 := 90) C at_78 (by decide) rfl rfl (by decide) ?_
    refine g_iloadN (pc' := 91) C at_90 rfl rfl ?_
    refine g_iconst (pc' := 92) (z := (1 : Int32)) C at_91 rfl rfl ?_
    refine g_icmpY (xi := 0) (yi := 1) (pc1 := 104) C at_92 (by decide) rfl rfl rfl (by decide) ?_
    refine g_iloadN (pc' := 105) C at_104 rfl rfl ?_
    refine g_iconst (pc' := 106) (z := (2 : Int32)) C at_105 rfl rfl ?_
    refine g_icmpY (xi := 0) (yi := 2) (pc1 := 118) C at_106 (by decide) rfl rfl rfl (by decide) ?_
    have sp_i2 : i2 = 0 ∨ i2 = 1 ∨ i2 = 2 ∨ i2 = 3 := by
      have y1 := c_mask p1 3 2 (by decide) (by decide)
      rw [← e_i2] at y1
      have z0 : (0 : Int32).toInt = 0 := rfl
      have z1 : (1 : Int32).toInt = 1 := rfl
      have z2 : (2 : Int32).toInt = 2 := rfl
      have z3 : (3 : Int32).toInt = 3 := rfl
      rcases (by omega : i2.toInt = 0 ∨ i2.toInt = 1 ∨ i2.toInt = 2 ∨ i2.toInt = 3) with y | y | y | y
      · exact Or.inl (Int32.toInt_inj.mp (by omega))
      · exact Or.inr (Or.inl (Int32.toInt_inj.mp (by omega)))
      · exact Or.inr (Or.inr (Or.inl (Int32.toInt_inj.mp (by omega))))
      · exact Or.inr (Or.inr (Or.inr (Int32.toInt_inj.mp (by omega))))
    clear e_i2
    rcases sp_i2 with sp_i2 | sp_i2 | sp_i2 | sp_i2 <;> subst sp_i2
    ·
      refine g_aload (pc' := 120) C at_118 rfl rfl rfl ?_
      refine g_iload (pc' := 122) C at_120 rfl rfl ?_
      refine g_aaload (pc' := 123) (i := 0) C at_122 rfl Aa4 rfl rfl ?_
      refine g_astore (pc' := 125) (L' := #[.val (.int p0), .val (.int p1), .val (.int p2), .val (.int (0 : Int32)), .val (.int (0 : Int32)), .val (.int z3), .val (.ref r0), .val (.ref a4), .val (.ref a5), .unset, .unset, .unset, .unset, .unset, .unset]) C at_123 rfl rfl rfl ?_
      refine g_aload (pc' := 127) C at_125 rfl rfl rfl ?_
      refine g_virtual (y := (⟨"com/example/slot512/slot512/Link", "unlink", "()V"⟩ : MethodName)) (a := a5) (pc' := 130) (k' := 6) (n' := 14) (S := []) (as := []) C at_127 rfl (hw _ (List.mem_of_getElem? (i := 20) rfl)) (hw _ (List.mem_of_getElem? (i := 22) rfl)) (hw _ (List.mem_of_getElem? (i := 2) rfl)) (hw _ (List.mem_of_getElem? (i := 24) rfl)) (hw _ (List.mem_of_getElem? (i := 21) rfl)) (hw _ (List.mem_of_getElem? (i := 23) rfl)) (by decide) Oa5.1 (lenOf pd_0 rfl) (con_un0 W.l Z a0 hw a5 .null h14 Oa5) rfl rfl (Nat.le_of_ble_eq_true rfl) (Nat.le_of_ble_eq_true rfl) rfl rfl (Nat.le_of_ble_eq_true rfl) (Nat.le_of_ble_eq_true rfl) all0 fun vh15 h15 qh15 Kh15 => ?_
      obtain ⟨rfl, eh⟩ := qh15
      subst eh
      show Go W Q h14 6 14 130 #[.val (.int p0), .val (.int p1), .val (.int p2), .val (.int (0 : Int32)), .val (.int (0 : Int32)), .val (.int z3), .val (.ref r0), .val (.ref a4), .val (.ref a5), .unset, .unset, .unset, .unset, .unset, .unset] []
      refine g_iload (pc' := 132) C at_130 rfl rfl ?_
      suffices K_132 : Go W Q h14 6 14 140 #[.val (.int p0), .val (.int p1), .val (.int p2), .val (.int (0 : Int32)), .val (.int (0 : Int32)), .val (.int z3), .val (.ref r0), .val (.ref a4), .val (.ref a5), .unset, .unset, .unset, .unset, .unset, .unset] [] by
        refine g_ifeqb (pc1 := 140) (pc2 := 135) C at_132 (by decide) rfl rfl e_z3 (fun (c132 : ¬ (¬ ((p2 &&& (1 : Int32)).toInt = 0))) => ?_) (fun (c132 : ¬ ((p2 &&& (1 : Int32)).toInt = 0)) => ?_)
        ·
          replace c132 : (p2 &&& (1 : Int32)).toInt = 0 := Decidable.not_not.mp c132
          exact K_132
        ·
          refine g_aload (pc' := 137) C at_135 rfl rfl rfl ?_
          refine g_virtual (y := (⟨"com/example/slot512/slot512/Link", "unlink", "()V"⟩ : MethodName)) (a := a5) (pc' := 140) (k' := 6) (n' := 14) (S := []) (as := []) C at_137 rfl (hw _ (List.mem_of_getElem? (i := 20) rfl)) (hw _ (List.mem_of_getElem? (i := 22) rfl)) (hw _ (List.mem_of_getElem? (i := 2) rfl)) (hw _ (List.mem_of_getElem? (i := 24) rfl)) (hw _ (List.mem_of_getElem? (i := 21) rfl)) (hw _ (List.mem_of_getElem? (i := 23) rfl)) (by decide) Oa5.1 (lenOf pd_0 rfl) (con_un0 W.l Z a0 hw a5 .null h14 Oa5) rfl rfl (Nat.le_of_ble_eq_true rfl) (Nat.le_of_ble_eq_true rfl) rfl rfl (Nat.le_of_ble_eq_true rfl) (Nat.le_of_ble_eq_true rfl) all0 fun vh16 h16 qh16 Kh16 => ?_
          obtain ⟨rfl, eh⟩ := qh16
          subst eh
          show Go W Q h14 6 14 140 #[.val (.int p0), .val (.int p1), .val (.int p2), .val (.int (0 : Int32)), .val (.int (0 : Int32)), .val (.int z3), .val (.ref r0), .val (.ref a4), .val (.ref a5), .unset, .unset, .unset, .unset, .unset, .unset] []
          exact K_132
      refine g_iconst (pc' := 141) (z := (4 : Int32)) C at_140 rfl rfl ?_
      refine g_anewarray (pc' := 144) (len := 4) (cap := 4) (k' := 7) (n' := 18) C at_141 rfl (hw _ (List.mem_of_getElem? (i := 16) rfl)) (hw _ (List.mem_of_getElem? (i := 17) rfl)) rfl (by decide) (by decide) rfl rfl (by decide) (by decide) fun h17 a9 e_a9 Eh17 Aa9 w_a9 => ?_
      have n_r0_a9 : r0 ≠ a9 := by rw [e_a9]; exact Nat.ne_of_lt Or0.lt
      have n_a5_a9 : a5 ≠ a9 := by rw [e_a9]; exact Nat.ne_of_lt Oa5.lt
      have n_a6_a9 : a6 ≠ a9 := by rw [e_a9]; exact Nat.ne_of_lt Oa6.lt
      have n_a7_a9 : a7 ≠ a9 := by rw [e_a9]; exact Nat.ne_of_lt Oa7.lt
      have n_a8_a9 : a8 ≠ a9 := by rw [e_a9]; exact Nat.ne_of_lt Oa8.lt
      have n_a4_a9 : a4 ≠ a9 := by rw [e_a9]; exact Nat.ne_of_lt Aa4.lt
      replace Or0 := Or0.ext Eh17
      replace Oa5 := Oa5.ext Eh17
      replace Oa6 := Oa6.ext Eh17
      replace Oa7 := Oa7.ext Eh17
      replace Oa8 := Oa8.ext Eh17
      replace Aa4 := Aa4.ext Eh17
      replace Aa9 : ArR Z h17 a9 "com/example/slot512/slot512/Link" [.null, .null, .null, .null] := Aa9
      refine g_astore (pc' := 146) (L' := #[.val (.int p0), .val (.int p1), .val (.int p2), .val (.int (0 : Int32)), .val (.int (0 : Int32)), .val (.int z3), .val (.ref r0), .val (.ref a4), .val (.ref a5), .val (.ref a9), .unset, .unset, .unset, .unset, .unset]) C at_144 rfl rfl rfl ?_
      refine g_aload (pc' := 148) C at_146 rfl rfl rfl ?_
      refine g_iconst (pc' := 149) (z := (0 : Int32)) C at_148 rfl rfl ?_
      refine g_aload (pc' := 151) C at_149 rfl rfl rfl ?_
      refine g_aastore (pc' := 152) (i := 0) (vs' := [(.ref r0), .null, .null, .null]) C at_151 rfl Aa9 rfl (Nat.le_of_ble_eq_true rfl) rfl (Or.inr ⟨_, rfl, Or0.1⟩) w_a9 fun h18 Aa9 Kh18 => ?_
      replace Or0 := Or0.keep Kh18 (ninS n_r0_a9 nin0)
      replace Oa5 := Oa5.keep Kh18 (ninS n_a5_a9 nin0)
      replace Oa6 := Oa6.keep Kh18 (ninS n_a6_a9 nin0)
      replace Oa7 := Oa7.keep Kh18 (ninS n_a7_a9 nin0)
      replace Oa8 := Oa8.keep Kh18 (ninS n_a8_a9 nin0)
      replace Aa4 := Aa4.keep Kh18 (ninS n_a4_a9 nin0)
      refine g_iconst (pc' := 153) (z := (1 : Int32)) C at_152 rfl rfl ?_
      refine g_istore (pc' := 155) (L' := #[.val (.int p0), .val (.int p1), .val (.int p2), .val (.int (0 : Int32)), .val (.int (0 : Int32)), .val (.int z3), .val (.ref r0), .val (.ref a4), .val (.ref a5), .val (.ref a9), .val (.int (1 : Int32)), .unset, .unset, .unset, .unset]) C at_153 rfl rfl ?_
      refine g_iconst (pc' := 156) (z := (0 : Int32)) C at_155 rfl rfl ?_
      refine g_iloadN (pc' := 157) C at_156 rfl rfl ?_
      refine g_icmpY (xi := 0) (yi := 0) (pc1 := 169) C at_157 (by decide) rfl rfl rfl (by decide) ?_
      refine g_iconst (pc' := 170) (z := (0 : Int32)) C at_169 rfl rfl ?_
      refine g_istore (pc' := 172) (L' := #[.val (.int p0), .val (.int p1), .val (.int p2), .val (.int (0 : Int32)), .val (.int (0 : Int32)), .val (.int z3), .val (.ref r0), .val (.ref a4), .val (.ref a5), .val (.ref a9), .val (.int (1 : Int32)), .val (.int (0 : Int32)), .unset, .unset, .unset]) C at_170 rfl rfl ?_
      refine g_iconst (pc' := 173) (z := (1 : Int32)) C at_172 rfl rfl ?_
      refine g_iloadN (pc' := 174) C at_173 rfl rfl ?_
      refine g_icmpY (xi := 1) (yi := 0) (pc1 := 187) C at_174 (by decide) rfl rfl rfl (by decide) ?_
      refine g_iconst (pc' := 188) (z := (0 : Int32)) C at_187 rfl rfl ?_
      refine g_istore (pc' := 190) (L' := #[.val (.int p0), .val (.int p1), .val (.int p2), .val (.int (0 : Int32)), .val (.int (0 : Int32)), .val (.int z3), .val (.ref r0), .val (.ref a4), .val (.ref a5), .val (.ref a9), .val (.int (1 : Int32)), .val (.int (0 : Int32)), .val (.int (0 : Int32)), .unset, .unset]) C at_188 rfl rfl ?_
      refine g_iconst (pc' := 191) (z := (2 : Int32)) C at_190 rfl rfl ?_
      refine g_iloadN (pc' := 192) C at_191 rfl rfl ?_
      refine g_icmpY (xi := 2) (yi := 0) (pc1 := 205) C at_192 (by decide) rfl rfl rfl (by decide) ?_
      refine g_iconst (pc' := 206) (z := (0 : Int32)) C at_205 rfl rfl ?_
      refine g_istore (pc' := 208) (L' := #[.val (.int p0), .val (.int p1), .val (.int p2), .val (.int (0 : Int32)), .val (.int (0 : Int32)), .val (.int z3), .val (.ref r0), .val (.ref a4), .val (.ref a5), .val (.ref a9), .val (.int (1 : Int32)), .val (.int (0 : Int32)), .val (.int (0 : Int32)), .val (.int (0 : Int32)), .unset]) C at_206 rfl rfl ?_
      refine g_iload (pc' := 210) C at_208 rfl rfl ?_
      refine g_ifY (xi := 0) (pc1 := 228) C at_210 (by decide) rfl rfl (by decide) ?_
      refine g_iload (pc' := 230) C at_228 rfl rfl ?_
      refine g_ifY (xi := 0) (pc1 := 248) C at_230 (by decide) rfl rfl (by decide) ?_
      refine g_iload (pc' := 250) C at_248 rfl rfl ?_
      refine g_ifY (xi := 0) (pc1 := 268) C at_250 (by decide) rfl rfl (by decide) ?_
      refine g_aload (pc' := 270) C at_268 rfl rfl rfl ?_
      refine g_iconst (pc' := 271) (z := (0 : Int32)) C at_270 rfl rfl ?_
      refine g_aaload (pc' := 272) (i := 0) C at_271 rfl Aa9 rfl rfl ?_
      refine g_aload (pc' := 274) C at_272 rfl rfl rfl ?_
      refine g_iconst (pc' := 275) (z := (1 : Int32)) C at_274 rfl rfl ?_
      refine g_iload (pc' := 277) C at_275 rfl rfl ?_
      refine g_irem (pc' := 278) C at_277 rfl (by decide) ?_
      show Go W Q h18 7 18 278 #[.val (.int p0), .val (.int p1), .val (.int p2), .val (.int (0 : Int32)), .val (.int (0 : Int32)), .val (.int z3), .val (.ref r0), .val (.ref a4), .val (.ref a5), .val (.ref a9), .val (.int (1 : Int32)), .val (.int (0 : Int32)), .val (.int (0 : Int32)), .val (.int (0 : Int32)), .unset] [(.int (0 : Int32)), (.ref a9), (.ref r0)]
      refine g_aaload (pc' := 279) (i := 0) C at_278 rfl Aa9 rfl rfl ?_
      refine g_staticP (y := (⟨"com/example/slot512/slot512/LinkUnlinkPinLaw", "joined", "(Lcom/example/slot512/slot512/Link;Lcom/example/slot512/slot512/Link;)Z"⟩ : MethodName)) (pc' := 282) (k' := 7) (n' := 18) (S := []) (as := [(.ref r0), (.ref r0)]) C at_279 rfl (hw _ (List.mem_of_getElem? (i := 25) rfl)) (hw _ (List.mem_of_getElem? (i := 26) rfl)) (hw _ (List.mem_of_getElem? (i := 27) rfl)) (hw _ (List.mem_of_getElem? (i := 28) rfl)) (by decide) (lenOf pd_2 rfl) (con_joined W.l Z a0 hw r0 r0 (.ref r0) (.ref r0) h18 Or0 Or0) rfl rfl (Nat.le_of_ble_eq_true rfl) (Nat.le_of_ble_eq_true rfl) rfl rfl (Nat.le_of_ble_eq_true rfl) (Nat.le_of_ble_eq_true rfl) (S1 := [(.int (1 : Int32))]) rfl ?_
      refine g_istore (pc' := 284) (L' := #[.val (.int p0), .val (.int p1), .val (.int p2), .val (.int (0 : Int32)), .val (.int (0 : Int32)), .val (.int z3), .val (.ref r0), .val (.ref a4), .val (.ref a5), .val (.ref a9), .val (.int (1 : Int32)), .val (.int (0 : Int32)), .val (.int (0 : Int32)), .val (.int (0 : Int32)), .val (.int (1 : Int32))]) C at_282 rfl rfl ?_
      refine g_iload (pc' := 286) C at_284 rfl rfl ?_
      refine g_iconst (pc' := 287) (z := (1 : Int32)) C at_286 rfl rfl ?_
      refine g_icmpY (xi := 1) (yi := 1) (pc1 := 319) C at_287 (by decide) rfl rfl rfl (by decide) ?_
      refine g_iload (pc' := 321) C at_319 rfl rfl ?_
      refine g_iconst (pc' := 322) (z := (2 : Int32)) C at_321 rfl rfl ?_
      refine g_icmpY (xi := 1) (yi := 2) (pc1 := 354) C at_322 (by decide) rfl rfl rfl (by decide) ?_
      refine g_iload (pc' := 356) C at_354 rfl rfl ?_
      refine g_iconst (pc' := 357) (z := (3 : Int32)) C at_356 rfl rfl ?_
      refine g_icmpY (xi := 1) (yi := 3) (pc1 := 386) C at_357 (by decide) rfl rfl rfl (by decide) ?_
      refine g_iload (pc' := 388) C at_386 rfl rfl ?_
      refine g_ifN (xi := 0) (pc2 := 391) C at_388 rfl rfl (by decide) ?_
      refine g_iload (pc' := 393) C at_391 rfl rfl ?_
      refine g_ifN (xi := 1) (pc2 := 396) C at_393 rfl rfl (by decide) ?_
      refine g_aload (pc' := 398) C at_396 rfl rfl rfl ?_
      refine g_iconst (pc' := 399) (z := (0 : Int32)) C at_398 rfl rfl ?_
      refine g_aaload (pc' := 400) (i := 0) C at_399 rfl Aa4 rfl rfl ?_
      refine g_staticP (y := (⟨"com/example/slot512/slot512/LinkUnlinkPinLaw", "detached", "(Lcom/example/slot512/slot512/Link;)Z"⟩ : MethodName)) (pc' := 403) (k' := 7) (n' := 18) (S := []) (as := [(.ref a5)]) C at_400 rfl (hw _ (List.mem_of_getElem? (i := 31) rfl)) (hw _ (List.mem_of_getElem? (i := 32) rfl)) (hw _ (List.mem_of_getElem? (i := 27) rfl)) (hw _ (List.mem_of_getElem? (i := 33) rfl)) (by decide) (lenOf pd_3 rfl) (con_det W.l Z a0 hw a5 h18 Oa5) rfl rfl (Nat.le_of_ble_eq_true rfl) (Nat.le_of_ble_eq_true rfl) rfl rfl (Nat.le_of_ble_eq_true rfl) (Nat.le_of_ble_eq_true rfl) (S1 := [(.int (1 : Int32))]) rfl ?_
      refine g_ifN (xi := 1) (pc2 := 406) C at_403 rfl rfl (by decide) ?_
      refine g_iconst (pc' := 407) (z := (1 : Int32)) C at_406 rfl rfl ?_
      refine g_goto C at_407 (by decide) (pc' := 411) rfl ?_
      refine g_istore (pc' := 413) (L' := #[.val (.int p0), .val (.int p1), .val (.int p2), .val (.int (0 : Int32)), .val (.int (0 : Int32)), .val (.int z3), .val (.ref r0), .val (.ref a4), .val (.ref a5), .val (.ref a9), .val (.int (1 : Int32)), .val (.int (0 : Int32)), .val (.int (0 : Int32)), .val (.int (0 : Int32)), .val (.int (1 : Int32))]) C at_411 rfl rfl ?_
      refine g_iload (pc' := 415) C at_413 rfl rfl ?_
      refine g_ifN (xi := 0) (pc2 := 418) C at_415 rfl rfl (by decide) ?_
      refine g_iload (pc' := 420) C at_418 rfl rfl ?_
      refine g_ifN (xi := 1) (pc2 := 423) C at_420 rfl rfl (by decide) ?_
      refine g_aload (pc' := 425) C at_423 rfl rfl rfl ?_
      refine g_iconst (pc' := 426) (z := (1 : Int32)) C at_425 rfl rfl ?_
      refine g_aaload (pc' := 427) (i := 1) C at_426 rfl Aa4 rfl rfl ?_
      refine g_staticP (y := (⟨"com/example/slot512/slot512/LinkUnlinkPinLaw", "detached", "(Lcom/example/slot512/slot512/Link;)Z"⟩ : MethodName)) (pc' := 430) (k' := 7) (n' := 18) (S := []) (as := [(.ref a6)]) C at_427 rfl (hw _ (List.mem_of_getElem? (i := 31) rfl)) (hw _ (List.mem_of_getElem? (i := 32) rfl)) (hw _ (List.mem_of_getElem? (i := 27) rfl)) (hw _ (List.mem_of_getElem? (i := 33) rfl)) (by decide) (lenOf pd_3 rfl) (con_det W.l Z a0 hw a6 h18 Oa6) rfl rfl (Nat.le_of_ble_eq_true rfl) (Nat.le_of_ble_eq_true rfl) rfl rfl (Nat.le_of_ble_eq_true rfl) (Nat.le_of_ble_eq_true rfl) (S1 := [(.int (1 : Int32))]) rfl ?_
      refine g_ifN (xi := 1) (pc2 := 433) C at_430 rfl rfl (by decide) ?_
      refine g_iconst (pc' := 434) (z := (1 : Int32)) C at_433 rfl rfl ?_
      refine g_goto C at_434 (by decide) (pc' := 438) rfl ?_
      refine g_istore (pc' := 440) (L' := #[.val (.int p0), .val (.int p1), .val (.int p2), .val (.int (0 : Int32)), .val (.int (0 : Int32)), .val (.int z3), .val (.ref r0), .val (.ref a4), .val (.ref a5), .val (.ref a9), .val (.int (1 : Int32)), .val (.int (0 : Int32)), .val (.int (0 : Int32)), .val (.int (0 : Int32)), .val (.int (1 : Int32))]) C at_438 rfl rfl ?_
      refine g_iload (pc' := 442) C at_440 rfl rfl ?_
      refine g_ifN (xi := 0) (pc2 := 445) C at_442 rfl rfl (by decide) ?_
      refine g_iload (pc' := 447) C at_445 rfl rfl ?_
      refine g_ifN (xi := 1) (pc2 := 450) C at_447 rfl rfl (by decide) ?_
      refine g_aload (pc' := 452) C at_450 rfl rfl rfl ?_
      refine g_iconst (pc' := 453) (z := (2 : Int32)) C at_452 rfl rfl ?_
      refine g_aaload (pc' := 454) (i := 2) C at_453 rfl Aa4 rfl rfl ?_
      refine g_staticP (y := (⟨"com/example/slot512/slot512/LinkUnlinkPinLaw", "detached", "(Lcom/example/slot512/slot512/Link;)Z"⟩ : MethodName)) (pc' := 457) (k' := 7) (n' := 18) (S := []) (as := [(.ref a7)]) C at_454 rfl (hw _ (List.mem_of_getElem? (i := 31) rfl)) (hw _ (List.mem_of_getElem? (i := 32) rfl)) (hw _ (List.mem_of_getElem? (i := 27) rfl)) (hw _ (List.mem_of_getElem? (i := 33) rfl)) (by decide) (lenOf pd_3 rfl) (con_det W.l Z a0 hw a7 h18 Oa7) rfl rfl (Nat.le_of_ble_eq_true rfl) (Nat.le_of_ble_eq_true rfl) rfl rfl (Nat.le_of_ble_eq_true rfl) (Nat.le_of_ble_eq_true rfl) (S1 := [(.int (1 : Int32))]) rfl ?_
      refine g_ifN (xi := 1) (pc2 := 460) C at_457 rfl rfl (by decide) ?_
      refine g_iconst (pc' := 461) (z := (1 : Int32)) C at_460 rfl rfl ?_
      refine g_goto C at_461 (by decide) (pc' := 465) rfl ?_
      refine g_istore (pc' := 467) (L' := #[.val (.int p0), .val (.int p1), .val (.int p2), .val (.int (0 : Int32)), .val (.int (0 : Int32)), .val (.int z3), .val (.ref r0), .val (.ref a4), .val (.ref a5), .val (.ref a9), .val (.int (1 : Int32)), .val (.int (0 : Int32)), .val (.int (0 : Int32)), .val (.int (0 : Int32)), .val (.int (1 : Int32))]) C at_465 rfl rfl ?_
      refine g_iload (pc' := 469) C at_467 rfl rfl ?_
      refine g_ifN (xi := 1) (pc2 := 472) C at_469 rfl rfl (by decide) ?_
      refine g_aload (pc' := 474) C at_472 rfl rfl rfl ?_
      refine g_iconst (pc' := 475) (z := (3 : Int32)) C at_474 rfl rfl ?_
      refine g_aaload (pc' := 476) (i := 3) C at_475 rfl Aa4 rfl rfl ?_
      refine g_staticP (y := (⟨"com/example/slot512/slot512/LinkUnlinkPinLaw", "detached", "(Lcom/example/slot512/slot512/Link;)Z"⟩ : MethodName)) (pc' := 479) (k' := 7) (n' := 18) (S := []) (as := [(.ref a8)]) C at_476 rfl (hw _ (List.mem_of_getElem? (i := 31) rfl)) (hw _ (List.mem_of_getElem? (i := 32) rfl)) (hw _ (List.mem_of_getElem? (i := 27) rfl)) (hw _ (List.mem_of_getElem? (i := 33) rfl)) (by decide) (lenOf pd_3 rfl) (con_det W.l Z a0 hw a8 h18 Oa8) rfl rfl (Nat.le_of_ble_eq_true rfl) (Nat.le_of_ble_eq_true rfl) rfl rfl (Nat.le_of_ble_eq_true rfl) (Nat.le_of_ble_eq_true rfl) (S1 := [(.int (1 : Int32))]) rfl ?_
      refine g_ifN (xi := 1) (pc2 := 482) C at_479 rfl rfl (by decide) ?_
      refine g_iconst (pc' := 483) (z := (1 : Int32)) C at_482 rfl rfl ?_
      refine g_goto C at_483 (by decide) (pc' := 487) rfl ?_
      refine g_istore (pc' := 489) (L' := #[.val (.int p0), .val (.int p1), .val (.int p2), .val (.int (0 : Int32)), .val (.int (0 : Int32)), .val (.int z3), .val (.ref r0), .val (.ref a4), .val (.ref a5), .val (.ref a9), .val (.int (1 : Int32)), .val (.int (0 : Int32)), .val (.int (0 : Int32)), .val (.int (0 : Int32)), .val (.int (1 : Int32))]) C at_487 rfl rfl ?_
      refine g_iload (pc' := 491) C at_489 rfl rfl ?_
      refine g_retN C (by simp) at_491 (by decide) (by decide) ?_
      subst hQ
      rfl
    ·
      refine g_aload (pc' := 120) C at_118 rfl rfl rfl ?_
      refine g_iload (pc' := 122) C at_120 rfl rfl ?_
      refine g_aaload (pc' := 123) (i := 1) C at_122 rfl Aa4 rfl rfl ?_
      refine g_astore (pc' := 125) (L' := #[.val (.int p0), .val (.int p1), .val (.int p2), .val (.int (0 : Int32)), .val (.int (1 : Int32)), .val (.int z3), .val (.ref r0), .val (.ref a4), .val (.ref a6), .unset, .unset, .unset, .unset, .unset, .unset]) C at_123 rfl rfl rfl ?_
      refine g_aload (pc' := 127) C at_125 rfl rfl rfl ?_
      refine g_virtual (y := (⟨"com/example/slot512/slot512/Link", "unlink", "()V"⟩ : MethodName)) (a := a6) (pc' := 130) (k' := 6) (n' := 14) (S := []) (as := []) C at_127 rfl (hw _ (List.mem_of_getElem? (i := 20) rfl)) (hw _ (List.mem_of_getElem? (i := 22) rfl)) (hw _ (List.mem_of_getElem? (i := 2) rfl)) (hw _ (List.mem_of_getElem? (i := 24) rfl)) (hw _ (List.mem_of_getElem? (i := 21) rfl)) (hw _ (List.mem_of_getElem? (i := 23) rfl)) (by decide) Oa6.1 (lenOf pd_0 rfl) (con_un0 W.l Z a0 hw a6 .null h14 Oa6) rfl rfl (Nat.le_of_ble_eq_true rfl) (Nat.le_of_ble_eq_true rfl) rfl rfl (Nat.le_of_ble_eq_true rfl) (Nat.le_of_ble_eq_true rfl) all0 fun vh19 h19 qh19 Kh19 => ?_
      obtain ⟨rfl, eh⟩ := qh19
      subst eh
      show Go W Q h14 6 14 130 #[.val (.int p0), .val (.int p1), .val (.int p2), .val (.int (0 : Int32)), .val (.int (1 : Int32)), .val (.int z3), .val (.ref r0), .val (.ref a4), .val (.ref a6), .unset, .unset, .unset, .unset, .unset, .unset] []
      refine g_iload (pc' := 132) C at_130 rfl rfl ?_
      suffices K_132 : Go W Q h14 6 14 140 #[.val (.int p0), .val (.int p1), .val (.int p2), .val (.int (0 : Int32)), .val (.int (1 : Int32)), .val (.int z3), .val (.ref r0), .val (.ref a4), .val (.ref a6), .unset, .unset, .unset, .unset, .unset, .unset] [] by
        refine g_ifeqb (pc1 := 140) (pc2 := 135) C at_132 (by decide) rfl rfl e_z3 (fun (c132 : ¬ (¬ ((p2 &&& (1 : Int32)).toInt = 0))) => ?_) (fun (c132 : ¬ ((p2 &&& (1 : Int32)).toInt = 0)) => ?_)
        ·
          replace c132 : (p2 &&& (1 : Int32)).toInt = 0 := Decidable.not_not.mp c132
          exact K_132
        ·
          refine g_aload (pc' := 137) C at_135 rfl rfl rfl ?_
          refine g_virtual (y := (⟨"com/example/slot512/slot512/Link", "unlink", "()V"⟩ : MethodName)) (a := a6) (pc' := 140) (k' := 6) (n' := 14) (S := []) (as := []) C at_137 rfl (hw _ (List.mem_of_getElem? (i := 20) rfl)) (hw _ (List.mem_of_getElem? (i := 22) rfl)) (hw _ (List.mem_of_getElem? (i := 2) rfl)) (hw _ (List.mem_of_getElem? (i := 24) rfl)) (hw _ (List.mem_of_getElem? (i := 21) rfl)) (hw _ (List.mem_of_getElem? (i := 23) rfl)) (by decide) Oa6.1 (lenOf pd_0 rfl) (con_un0 W.l Z a0 hw a6 .null h14 Oa6) rfl rfl (Nat.le_of_ble_eq_true rfl) (Nat.le_of_ble_eq_true rfl) rfl rfl (Nat.le_of_ble_eq_true rfl) (Nat.le_of_ble_eq_true rfl) all0 fun vh20 h20 qh20 Kh20 => ?_
          obtain ⟨rfl, eh⟩ := qh20
          subst eh
          show Go W Q h14 6 14 140 #[.val (.int p0), .val (.int p1), .val (.int p2), .val (.int (0 : Int32)), .val (.int (1 : Int32)), .val (.int z3), .val (.ref r0), .val (.ref a4), .val (.ref a6), .unset, .unset, .unset, .unset, .unset, .unset] []
          exact K_132
      refine g_iconst (pc' := 141) (z := (4 : Int32)) C at_140 rfl rfl ?_
      refine g_anewarray (pc' := 144) (len := 4) (cap := 4) (k' := 7) (n' := 18) C at_141 rfl (hw _ (List.mem_of_getElem? (i := 16) rfl)) (hw _ (List.mem_of_getElem? (i := 17) rfl)) rfl (by decide) (by decide) rfl rfl (by decide) (by decide) fun h21 a10 e_a10 Eh21 Aa10 w_a10 => ?_
      have n_r0_a10 : r0 ≠ a10 := by rw [e_a10]; exact Nat.ne_of_lt Or0.lt
      have n_a5_a10 : a5 ≠ a10 := by rw [e_a10]; exact Nat.ne_of_lt Oa5.lt
      have n_a6_a10 : a6 ≠ a10 := by rw [e_a10]; exact Nat.ne_of_lt Oa6.lt
      have n_a7_a10 : a7 ≠ a10 := by rw [e_a10]; exact Nat.ne_of_lt Oa7.lt
      have n_a8_a10 : a8 ≠ a10 := by rw [e_a10]; exact Nat.ne_of_lt Oa8.lt
      have n_a4_a10 : a4 ≠ a10 := by rw [e_a10]; exact Nat.ne_of_lt Aa4.lt
      replace Or0 := Or0.ext Eh21
      replace Oa5 := Oa5.ext Eh21
      replace Oa6 := Oa6.ext Eh21
      replace Oa7 := Oa7.ext Eh21
      replace Oa8 := Oa8.ext Eh21
      replace Aa4 := Aa4.ext Eh21
      replace Aa10 : ArR Z h21 a10 "com/example/slot512/slot512/Link" [.null, .null, .null, .null] := Aa10
      refine g_astore (pc' := 146) (L' := #[.val (.int p0), .val (.int p1), .val (.int p2), .val (.int (0 : Int32)), .val (.int (1 : Int32)), .val (.int z3), .val (.ref r0), .val (.ref a4), .val (.ref a6), .val (.ref a10), .unset, .unset, .unset, .unset, .unset]) C at_144 rfl rfl rfl ?_
      refine g_aload (pc' := 148) C at_146 rfl rfl rfl ?_
      refine g_iconst (pc' := 149) (z := (0 : Int32)) C at_148 rfl rfl ?_
      refine g_aload (pc' := 151) C at_149 rfl rfl rfl ?_
      refine g_aastore (pc' := 152) (i := 0) (vs' := [(.ref r0), .null, .null, .null]) C at_151 rfl Aa10 rfl (Nat.le_of_ble_eq_true rfl) rfl (Or.inr ⟨_, rfl, Or0.1⟩) w_a10 fun h22 Aa10 Kh22 => ?_
      replace Or0 := Or0.keep Kh22 (ninS n_r0_a10 nin0)
      replace Oa5 := Oa5.keep Kh22 (ninS n_a5_a10 nin0)
      replace Oa6 := Oa6.keep Kh22 (ninS n_a6_a10 nin0)
      replace Oa7 := Oa7.keep Kh22 (ninS n_a7_a10 nin0)
      replace Oa8 := Oa8.keep Kh22 (ninS n_a8_a10 nin0)
      replace Aa4 := Aa4.keep Kh22 (ninS n_a4_a10 nin0)
      refine g_iconst (pc' := 153) (z := (1 : Int32)) C at_152 rfl rfl ?_
      refine g_istore (pc' := 155) (L' := #[.val (.int p0), .val (.int p1), .val (.int p2), .val (.int (0 : Int32)), .val (.int (1 : Int32)), .val (.int z3), .val (.ref r0), .val (.ref a4), .val (.ref a6), .val (.ref a10), .val (.int (1 : Int32)), .unset, .unset, .unset, .unset]) C at_153 rfl rfl ?_
      refine g_iconst (pc' := 156) (z := (0 : Int32)) C at_155 rfl rfl ?_
      refine g_iloadN (pc' := 157) C at_156 rfl rfl ?_
      refine g_icmpY (xi := 0) (yi := 0) (pc1 := 169) C at_157 (by decide) rfl rfl rfl (by decide) ?_
      refine g_iconst (pc' := 170) (z := (0 : Int32)) C at_169 rfl rfl ?_
      refine g_istore (pc' := 172) (L' := #[.val (.int p0), .val (.int p1), .val (.int p2), .val (.int (0 : Int32)), .val (.int (1 : Int32)), .val (.int z3), .val (.ref r0), .val (.ref a4), .val (.ref a6), .val (.ref a10), .val (.int (1 : Int32)), .val (.int (0 : Int32)), .unset, .unset, .unset]) C at_170 rfl rfl ?_
      refine g_iconst (pc' := 173) (z := (1 : Int32)) C at_172 rfl rfl ?_
      refine g_iloadN (pc' := 174) C at_173 rfl rfl ?_
      refine g_icmpY (xi := 1) (yi := 0) (pc1 := 187) C at_174 (by decide) rfl rfl rfl (by decide) ?_
      refine g_iconst (pc' := 188) (z := (0 : Int32)) C at_187 rfl rfl ?_
      refine g_istore (pc' := 190) (L' := #[.val (.int p0), .val (.int p1), .val (.int p2), .val (.int (0 : Int32)), .val (.int (1 : Int32)), .val (.int z3), .val (.ref r0), .val (.ref a4), .val (.ref a6), .val (.ref a10), .val (.int (1 : Int32)), .val (.int (0 : Int32)), .val (.int (0 : Int32)), .unset, .unset]) C at_188 rfl rfl ?_
      refine g_iconst (pc' := 191) (z := (2 : Int32)) C at_190 rfl rfl ?_
      refine g_iloadN (pc' := 192) C at_191 rfl rfl ?_
      refine g_icmpY (xi := 2) (yi := 0) (pc1 := 205) C at_192 (by decide) rfl rfl rfl (by decide) ?_
      refine g_iconst (pc' := 206) (z := (0 : Int32)) C at_205 rfl rfl ?_
      refine g_istore (pc' := 208) (L' := #[.val (.int p0), .val (.int p1), .val (.int p2), .val (.int (0 : Int32)), .val (.int (1 : Int32)), .val (.int z3), .val (.ref r0), .val (.ref a4), .val (.ref a6), .val (.ref a10), .val (.int (1 : Int32)), .val (.int (0 : Int32)), .val (.int (0 : Int32)), .val (.int (0 : Int32)), .unset]) C at_206 rfl rfl ?_
      refine g_iload (pc' := 210) C at_208 rfl rfl ?_
      refine g_ifY (xi := 0) (pc1 := 228) C at_210 (by decide) rfl rfl (by decide) ?_
      refine g_iload (pc' := 230) C at_228 rfl rfl ?_
      refine g_ifY (xi := 0) (pc1 := 248) C at_230 (by decide) rfl rfl (by decide) ?_
      refine g_iload (pc' := 250) C at_248 rfl rfl ?_
      refine g_ifY (xi := 0) (pc1 := 268) C at_250 (by decide) rfl rfl (by decide) ?_
      refine g_aload (pc' := 270) C at_268 rfl rfl rfl ?_
      refine g_iconst (pc' := 271) (z := (0 : Int32)) C at_270 rfl rfl ?_
      refine g_aaload (pc' := 272) (i := 0) C at_271 rfl Aa10 rfl rfl ?_
      refine g_aload (pc' := 274) C at_272 rfl rfl rfl ?_
      refine g_iconst (pc' := 275) (z := (1 : Int32)) C at_274 rfl rfl ?_
      refine g_iload (pc' := 277) C at_275 rfl rfl ?_
      refine g_irem (pc' := 278) C at_277 rfl (by decide) ?_
      show Go W Q h22 7 18 278 #[.val (.int p0), .val (.int p1), .val (.int p2), .val (.int (0 : Int32)), .val (.int (1 : Int32)), .val (.int z3), .val (.ref r0), .val (.ref a4), .val (.ref a6), .val (.ref a10), .val (.int (1 : Int32)), .val (.int (0 : Int32)), .val (.int (0 : Int32)), .val (.int (0 : Int32)), .unset] [(.int (0 : Int32)), (.ref a10), (.ref r0)]
      refine g_aaload (pc' := 279) (i := 0) C at_278 rfl Aa10 rfl rfl ?_
      refine g_staticP (y := (⟨"com/example/slot512/slot512/LinkUnlinkPinLaw", "joined", "(Lcom/example/slot512/slot512/Link;Lcom/example/slot512/slot512/Link;)Z"⟩ : MethodName)) (pc' := 282) (k' := 7) (n' := 18) (S := []) (as := [(.ref r0), (.ref r0)]) C at_279 rfl (hw _ (List.mem_of_getElem? (i := 25) rfl)) (hw _ (List.mem_of_getElem? (i := 26) rfl)) (hw _ (List.mem_of_getElem? (i := 27) rfl)) (hw _ (List.mem_of_getElem? (i := 28) rfl)) (by decide) (lenOf pd_2 rfl) (con_joined W.l Z a0 hw r0 r0 (.ref r0) (.ref r0) h22 Or0 Or0) rfl rfl (Nat.le_of_ble_eq_true rfl) (Nat.le_of_ble_eq_true rfl) rfl rfl (Nat.le_of_ble_eq_true rfl) (Nat.le_of_ble_eq_true rfl) (S1 := [(.int (1 : Int32))]) rfl ?_
      refine g_istore (pc' := 284) (L' := #[.val (.int p0), .val (.int p1), .val (.int p2), .val (.int (0 : Int32)), .val (.int (1 : Int32)), .val (.int z3), .val (.ref r0), .val (.ref a4), .val (.ref a6), .val (.ref a10), .val (.int (1 : Int32)), .val (.int (0 : Int32)), .val (.int (0 : Int32)), .val (.int (0 : Int32)), .val (.int (1 : Int32))]) C at_282 rfl rfl ?_
      refine g_iload (pc' := 286) C at_284 rfl rfl ?_
      refine g_iconst (pc' := 287) (z := (1 : Int32)) C at_286 rfl rfl ?_
      refine g_icmpY (xi := 1) (yi := 1) (pc1 := 319) C at_287 (by decide) rfl rfl rfl (by decide) ?_
      refine g_iload (pc' := 321) C at_319 rfl rfl ?_
      refine g_iconst (pc' := 322) (z := (2 : Int32)) C at_321 rfl rfl ?_
      refine g_icmpY (xi := 1) (yi := 2) (pc1 := 354) C at_322 (by decide) rfl rfl rfl (by decide) ?_
      refine g_iload (pc' := 356) C at_354 rfl rfl ?_
      refine g_iconst (pc' := 357) (z := (3 : Int32)) C at_356 rfl rfl ?_
      refine g_icmpY (xi := 1) (yi := 3) (pc1 := 386) C at_357 (by decide) rfl rfl rfl (by decide) ?_
      refine g_iload (pc' := 388) C at_386 rfl rfl ?_
      refine g_ifN (xi := 0) (pc2 := 391) C at_388 rfl rfl (by decide) ?_
      refine g_iload (pc' := 393) C at_391 rfl rfl ?_
      refine g_ifN (xi := 1) (pc2 := 396) C at_393 rfl rfl (by decide) ?_
      refine g_aload (pc' := 398) C at_396 rfl rfl rfl ?_
      refine g_iconst (pc' := 399) (z := (0 : Int32)) C at_398 rfl rfl ?_
      refine g_aaload (pc' := 400) (i := 0) C at_399 rfl Aa4 rfl rfl ?_
      refine g_staticP (y := (⟨"com/example/slot512/slot512/LinkUnlinkPinLaw", "detached", "(Lcom/example/slot512/slot512/Link;)Z"⟩ : MethodName)) (pc' := 403) (k' := 7) (n' := 18) (S := []) (as := [(.ref a5)]) C at_400 rfl (hw _ (List.mem_of_getElem? (i := 31) rfl)) (hw _ (List.mem_of_getElem? (i := 32) rfl)) (hw _ (List.mem_of_getElem? (i := 27) rfl)) (hw _ (List.mem_of_getElem? (i := 33) rfl)) (by decide) (lenOf pd_3 rfl) (con_det W.l Z a0 hw a5 h22 Oa5) rfl rfl (Nat.le_of_ble_eq_true rfl) (Nat.le_of_ble_eq_true rfl) rfl rfl (Nat.le_of_ble_eq_true rfl) (Nat.le_of_ble_eq_true rfl) (S1 := [(.int (1 : Int32))]) rfl ?_
      refine g_ifN (xi := 1) (pc2 := 406) C at_403 rfl rfl (by decide) ?_
      refine g_iconst (pc' := 407) (z := (1 : Int32)) C at_406 rfl rfl ?_
      refine g_goto C at_407 (by decide) (pc' := 411) rfl ?_
      refine g_istore (pc' := 413) (L' := #[.val (.int p0), .val (.int p1), .val (.int p2), .val (.int (0 : Int32)), .val (.int (1 : Int32)), .val (.int z3), .val (.ref r0), .val (.ref a4), .val (.ref a6), .val (.ref a10), .val (.int (1 : Int32)), .val (.int (0 : Int32)), .val (.int (0 : Int32)), .val (.int (0 : Int32)), .val (.int (1 : Int32))]) C at_411 rfl rfl ?_
      refine g_iload (pc' := 415) C at_413 rfl rfl ?_
      refine g_ifN (xi := 0) (pc2 := 418) C at_415 rfl rfl (by decide) ?_
      refine g_iload (pc' := 420) C at_418 rfl rfl ?_
      refine g_ifN (xi := 1) (pc2 := 423) C at_420 rfl rfl (by decide) ?_
      refine g_aload (pc' := 425) C at_423 rfl rfl rfl ?_
      refine g_iconst (pc' := 426) (z := (1 : Int32)) C at_425 rfl rfl ?_
      refine g_aaload (pc' := 427) (i := 1) C at_426 rfl Aa4 rfl rfl ?_
      refine g_staticP (y := (⟨"com/example/slot512/slot512/LinkUnlinkPinLaw", "detached", "(Lcom/example/slot512/slot512/Link;)Z"⟩ : MethodName)) (pc' := 430) (k' := 7) (n' := 18) (S := []) (as := [(.ref a6)]) C at_427 rfl (hw _ (List.mem_of_getElem? (i := 31) rfl)) (hw _ (List.mem_of_getElem? (i := 32) rfl)) (hw _ (List.mem_of_getElem? (i := 27) rfl)) (hw _ (List.mem_of_getElem? (i := 33) rfl)) (by decide) (lenOf pd_3 rfl) (con_det W.l Z a0 hw a6 h22 Oa6) rfl rfl (Nat.le_of_ble_eq_true rfl) (Nat.le_of_ble_eq_true rfl) rfl rfl (Nat.le_of_ble_eq_true rfl) (Nat.le_of_ble_eq_true rfl) (S1 := [(.int (1 : Int32))]) rfl ?_
      refine g_ifN (xi := 1) (pc2 := 433) C at_430 rfl rfl (by decide) ?_
      refine g_iconst (pc' := 434) (z := (1 : Int32)) C at_433 rfl rfl ?_
      refine g_goto C at_434 (by decide) (pc' := 438) rfl ?_
      refine g_istore (pc' := 440) (L' := #[.val (.int p0), .val (.int p1), .val (.int p2), .val (.int (0 : Int32)), .val (.int (1 : Int32)), .val (.int z3), .val (.ref r0), .val (.ref a4), .val (.ref a6), .val (.ref a10), .val (.int (1 : Int32)), .val (.int (0 : Int32)), .val (.int (0 : Int32)), .val (.int (0 : Int32)), .val (.int (1 : Int32))]) C at_438 rfl rfl ?_
      refine g_iload (pc' := 442) C at_440 rfl rfl ?_
      refine g_ifN (xi := 0) (pc2 := 445) C at_442 rfl rfl (by decide) ?_
      refine g_iload (pc' := 447) C at_445 rfl rfl ?_
      refine g_ifN (xi := 1) (pc2 := 450) C at_447 rfl rfl (by decide) ?_
      refine g_aload (pc' := 452) C at_450 rfl rfl rfl ?_
      refine g_iconst (pc' := 453) (z := (2 : Int32)) C at_452 rfl rfl ?_
      refine g_aaload (pc' := 454) (i := 2) C at_453 rfl Aa4 rfl rfl ?_
      refine g_staticP (y := (⟨"com/example/slot512/slot512/LinkUnlinkPinLaw", "detached", "(Lcom/example/slot512/slot512/Link;)Z"⟩ : MethodName)) (pc' := 457) (k' := 7) (n' := 18) (S := []) (as := [(.ref a7)]) C at_454 rfl (hw _ (List.mem_of_getElem? (i := 31) rfl)) (hw _ (List.mem_of_getElem? (i := 32) rfl)) (hw _ (List.mem_of_getElem? (i := 27) rfl)) (hw _ (List.mem_of_getElem? (i := 33) rfl)) (by decide) (lenOf pd_3 rfl) (con_det W.l Z a0 hw a7 h22 Oa7) rfl rfl (Nat.le_of_ble_eq_true rfl) (Nat.le_of_ble_eq_true rfl) rfl rfl (Nat.le_of_ble_eq_true rfl) (Nat.le_of_ble_eq_true rfl) (S1 := [(.int (1 : Int32))]) rfl ?_
      refine g_ifN (xi := 1) (pc2 := 460) C at_457 rfl rfl (by decide) ?_
      refine g_iconst (pc' := 461) (z := (1 : Int32)) C at_460 rfl rfl ?_
      refine g_goto C at_461 (by decide) (pc' := 465) rfl ?_
      refine g_istore (pc' := 467) (L' := #[.val (.int p0), .val (.int p1), .val (.int p2), .val (.int (0 : Int32)), .val (.int (1 : Int32)), .val (.int z3), .val (.ref r0), .val (.ref a4), .val (.ref a6), .val (.ref a10), .val (.int (1 : Int32)), .val (.int (0 : Int32)), .val (.int (0 : Int32)), .val (.int (0 : Int32)), .val (.int (1 : Int32))]) C at_465 rfl rfl ?_
      refine g_iload (pc' := 469) C at_467 rfl rfl ?_
      refine g_ifN (xi := 1) (pc2 := 472) C at_469 rfl rfl (by decide) ?_
      refine g_aload (pc' := 474) C at_472 rfl rfl rfl ?_
      refine g_iconst (pc' := 475) (z := (3 : Int32)) C at_474 rfl rfl ?_
      refine g_aaload (pc' := 476) (i := 3) C at_475 rfl Aa4 rfl rfl ?_
      refine g_staticP (y := (⟨"com/example/slot512/slot512/LinkUnlinkPinLaw", "detached", "(Lcom/example/slot512/slot512/Link;)Z"⟩ : MethodName)) (pc' := 479) (k' := 7) (n' := 18) (S := []) (as := [(.ref a8)]) C at_476 rfl (hw _ (List.mem_of_getElem? (i := 31) rfl)) (hw _ (List.mem_of_getElem? (i := 32) rfl)) (hw _ (List.mem_of_getElem? (i := 27) rfl)) (hw _ (List.mem_of_getElem? (i := 33) rfl)) (by decide) (lenOf pd_3 rfl) (con_det W.l Z a0 hw a8 h22 Oa8) rfl rfl (Nat.le_of_ble_eq_true rfl) (Nat.le_of_ble_eq_true rfl) rfl rfl (Nat.le_of_ble_eq_true rfl) (Nat.le_of_ble_eq_true rfl) (S1 := [(.int (1 : Int32))]) rfl ?_
      refine g_ifN (xi := 1) (pc2 := 482) C at_479 rfl rfl (by decide) ?_
      refine g_iconst (pc' := 483) (z := (1 : Int32)) C at_482 rfl rfl ?_
      refine g_goto C at_483 (by decide) (pc' := 487) rfl ?_
      refine g_istore (pc' := 489) (L' := #[.val (.int p0), .val (.int p1), .val (.int p2), .val (.int (0 : Int32)), .val (.int (1 : Int32)), .val (.int z3), .val (.ref r0), .val (.ref a4), .val (.ref a6), .val (.ref a10), .val (.int (1 : Int32)), .val (.int (0 : Int32)), .val (.int (0 : Int32)), .val (.int (0 : Int32)), .val (.int (1 : Int32))]) C at_487 rfl rfl ?_
      refine g_iload (pc' := 491) C at_489 rfl rfl ?_
      refine g_retN C (by simp) at_491 (by decide) (by decide) ?_
      subst hQ
      rfl
    ·
      refine g_aload (pc' := 120) C at_118 rfl rfl rfl ?_
      refine g_iload (pc' := 122) C at_120 rfl rfl ?_
      refine g_aaload (pc' := 123) (i := 2) C at_122 rfl Aa4 rfl rfl ?_
      refine g_astore (pc' := 125) (L' := #[.val (.int p0), .val (.int p1), .val (.int p2), .val (.int (0 : Int32)), .val (.int (2 : Int32)), .val (.int z3), .val (.ref r0), .val (.ref a4), .val (.ref a7), .unset, .unset, .unset, .unset, .unset, .unset]) C at_123 rfl rfl rfl ?_
      refine g_aload (pc' := 127) C at_125 rfl rfl rfl ?_
      refine g_virtual (y := (⟨"com/example/slot512/slot512/Link", "unlink", "()V"⟩ : MethodName)) (a := a7) (pc' := 130) (k' := 6) (n' := 14) (S := []) (as := []) C at_127 rfl (hw _ (List.mem_of_getElem? (i := 20) rfl)) (hw _ (List.mem_of_getElem? (i := 22) rfl)) (hw _ (List.mem_of_getElem? (i := 2) rfl)) (hw _ (List.mem_of_getElem? (i := 24) rfl)) (hw _ (List.mem_of_getElem? (i := 21) rfl)) (hw _ (List.mem_of_getElem? (i := 23) rfl)) (by decide) Oa7.1 (lenOf pd_0 rfl) (con_un0 W.l Z a0 hw a7 .null h14 Oa7) rfl rfl (Nat.le_of_ble_eq_true rfl) (Nat.le_of_ble_eq_true rfl) rfl rfl (Nat.le_of_ble_eq_true rfl) (Nat.le_of_ble_eq_true rfl) all0 fun vh23 h23 qh23 Kh23 => ?_
      obtain ⟨rfl, eh⟩ := qh23
      subst eh
      show Go W Q h14 6 14 130 #[.val (.int p0), .val (.int p1), .val (.int p2), .val (.int (0 : Int32)), .val (.int (2 : Int32)), .val (.int z3), .val (.ref r0), .val (.ref a4), .val (.ref a7), .unset, .unset, .unset, .unset, .unset, .unset] []
      refine g_iload (pc' := 132) C at_130 rfl rfl ?_
      suffices K_132 : Go W Q h14 6 14 140 #[.val (.int p0), .val (.int p1), .val (.int p2), .val (.int (0 : Int32)), .val (.int (2 : Int32)), .val (.int z3), .val (.ref r0), .val (.ref a4), .val (.ref a7), .unset, .unset, .unset, .unset, .unset, .unset] [] by
        refine g_ifeqb (pc1 := 140) (pc2 := 135) C at_132 (by decide) rfl rfl e_z3 (fun (c132 : ¬ (¬ ((p2 &&& (1 : Int32)).toInt = 0))) => ?_) (fun (c132 : ¬ ((p2 &&& (1 : Int32)).toInt = 0)) => ?_)
        ·
          replace c132 : (p2 &&& (1 : Int32)).toInt = 0 := Decidable.not_not.mp c132
          exact K_132
        ·
          refine g_aload (pc' := 137) C at_135 rfl rfl rfl ?_
          refine g_virtual (y := (⟨"com/example/slot512/slot512/Link", "unlink", "()V"⟩ : MethodName)) (a := a7) (pc' := 140) (k' := 6) (n' := 14) (S := []) (as := []) C at_137 rfl (hw _ (List.mem_of_getElem? (i := 20) rfl)) (hw _ (List.mem_of_getElem? (i := 22) rfl)) (hw _ (List.mem_of_getElem? (i := 2) rfl)) (hw _ (List.mem_of_getElem? (i := 24) rfl)) (hw _ (List.mem_of_getElem? (i := 21) rfl)) (hw _ (List.mem_of_getElem? (i := 23) rfl)) (by decide) Oa7.1 (lenOf pd_0 rfl) (con_un0 W.l Z a0 hw a7 .null h14 Oa7) rfl rfl (Nat.le_of_ble_eq_true rfl) (Nat.le_of_ble_eq_true rfl) rfl rfl (Nat.le_of_ble_eq_true rfl) (Nat.le_of_ble_eq_true rfl) all0 fun vh24 h24 qh24 Kh24 => ?_
          obtain ⟨rfl, eh⟩ := qh24
          subst eh
          show Go W Q h14 6 14 140 #[.val (.int p0), .val (.int p1), .val (.int p2), .val (.int (0 : Int32)), .val (.int (2 : Int32)), .val (.int z3), .val (.ref r0), .val (.ref a4), .val (.ref a7), .unset, .unset, .unset, .unset, .unset, .unset] []
          exact K_132
      refine g_iconst (pc' := 141) (z := (4 : Int32)) C at_140 rfl rfl ?_
      refine g_anewarray (pc' := 144) (len := 4) (cap := 4) (k' := 7) (n' := 18) C at_141 rfl (hw _ (List.mem_of_getElem? (i := 16) rfl)) (hw _ (List.mem_of_getElem? (i := 17) rfl)) rfl (by decide) (by decide) rfl rfl (by decide) (by decide) fun h25 a11 e_a11 Eh25 Aa11 w_a11 => ?_
      have n_r0_a11 : r0 ≠ a11 := by rw [e_a11]; exact Nat.ne_of_lt Or0.lt
      have n_a5_a11 : a5 ≠ a11 := by rw [e_a11]; exact Nat.ne_of_lt Oa5.lt
      have n_a6_a11 : a6 ≠ a11 := by rw [e_a11]; exact Nat.ne_of_lt Oa6.lt
      have n_a7_a11 : a7 ≠ a11 := by rw [e_a11]; exact Nat.ne_of_lt Oa7.lt
      have n_a8_a11 : a8 ≠ a11 := by rw [e_a11]; exact Nat.ne_of_lt Oa8.lt
      have n_a4_a11 : a4 ≠ a11 := by rw [e_a11]; exact Nat.ne_of_lt Aa4.lt
      replace Or0 := Or0.ext Eh25
      replace Oa5 := Oa5.ext Eh25
      replace Oa6 := Oa6.ext Eh25
      replace Oa7 := Oa7.ext Eh25
      replace Oa8 := Oa8.ext Eh25
      replace Aa4 := Aa4.ext Eh25
      replace Aa11 : ArR Z h25 a11 "com/example/slot512/slot512/Link" [.null, .null, .null, .null] := Aa11
      refine g_astore (pc' := 146) (L' := #[.val (.int p0), .val (.int p1), .val (.int p2), .val (.int (0 : Int32)), .val (.int (2 : Int32)), .val (.int z3), .val (.ref r0), .val (.ref a4), .val (.ref a7), .val (.ref a11), .unset, .unset, .unset, .unset, .unset]) C at_144 rfl rfl rfl ?_
      refine g_aload (pc' := 148) C at_146 rfl rfl rfl ?_
      refine g_iconst (pc' := 149) (z := (0 : Int32)) C at_148 rfl rfl ?_
      refine g_aload (pc' := 151) C at_149 rfl rfl rfl ?_
      refine g_aastore (pc' := 152) (i := 0) (vs' := [(.ref r0), .null, .null, .null]) C at_151 rfl Aa11 rfl (Nat.le_of_ble_eq_true rfl) rfl (Or.inr ⟨_, rfl, Or0.1⟩) w_a11 fun h26 Aa11 Kh26 => ?_
      replace Or0 := Or0.keep Kh26 (ninS n_r0_a11 nin0)
      replace Oa5 := Oa5.keep Kh26 (ninS n_a5_a11 nin0)
      replace Oa6 := Oa6.keep Kh26 (ninS n_a6_a11 nin0)
      replace Oa7 := Oa7.keep Kh26 (ninS n_a7_a11 nin0)
      replace Oa8 := Oa8.keep Kh26 (ninS n_a8_a11 nin0)
      replace Aa4 := Aa4.keep Kh26 (ninS n_a4_a11 nin0)
      refine g_iconst (pc' := 153) (z := (1 : Int32)) C at_152 rfl rfl ?_
      refine g_istore (pc' := 155) (L' := #[.val (.int p0), .val (.int p1), .val (.int p2), .val (.int (0 : Int32)), .val (.int (2 : Int32)), .val (.int z3), .val (.ref r0), .val (.ref a4), .val (.ref a7), .val (.ref a11), .val (.int (1 : Int32)), .unset, .unset, .unset, .unset]) C at_153 rfl rfl ?_
      refine g_iconst (pc' := 156) (z := (0 : Int32)) C at_155 rfl rfl ?_
      refine g_iloadN (pc' := 157) C at_156 rfl rfl ?_
      refine g_icmpY (xi := 0) (yi := 0) (pc1 := 169) C at_157 (by decide) rfl rfl rfl (by decide) ?_
      refine g_iconst (pc' := 170) (z := (0 : Int32)) C at_169 rfl rfl ?_
      refine g_istore (pc' := 172) (L' := #[.val (.int p0), .val (.int p1), .val (.int p2), .val (.int (0 : Int32)), .val (.int (2 : Int32)), .val (.int z3), .val (.ref r0), .val (.ref a4), .val (.ref a7), .val (.ref a11), .val (.int (1 : Int32)), .val (.int (0 : Int32)), .unset, .unset, .unset]) C at_170 rfl rfl ?_
      refine g_iconst (pc' := 173) (z := (1 : Int32)) C at_172 rfl rfl ?_
      refine g_iloadN (pc' := 174) C at_173 rfl rfl ?_
      refine g_icmpY (xi := 1) (yi := 0) (pc1 := 187) C at_174 (by decide) rfl rfl rfl (by decide) ?_
      refine g_iconst (pc' := 188) (z := (0 : Int32)) C at_187 rfl rfl ?_
      refine g_istore (pc' := 190) (L' := #[.val (.int p0), .val (.int p1), .val (.int p2), .val (.int (0 : Int32)), .val (.int (2 : Int32)), .val (.int z3), .val (.ref r0), .val (.ref a4), .val (.ref a7), .val (.ref a11), .val (.int (1 : Int32)), .val (.int (0 : Int32)), .val (.int (0 : Int32)), .unset, .unset]) C at_188 rfl rfl ?_
      refine g_iconst (pc' := 191) (z := (2 : Int32)) C at_190 rfl rfl ?_
      refine g_iloadN (pc' := 192) C at_191 rfl rfl ?_
      refine g_icmpY (xi := 2) (yi := 0) (pc1 := 205) C at_192 (by decide) rfl rfl rfl (by decide) ?_
      refine g_iconst (pc' := 206) (z := (0 : Int32)) C at_205 rfl rfl ?_
      refine g_istore (pc' := 208) (L' := #[.val (.int p0), .val (.int p1), .val (.int p2), .val (.int (0 : Int32)), .val (.int (2 : Int32)), .val (.int z3), .val (.ref r0), .val (.ref a4), .val (.ref a7), .val (.ref a11), .val (.int (1 : Int32)), .val (.int (0 : Int32)), .val (.int (0 : Int32)), .val (.int (0 : Int32)), .unset]) C at_206 rfl rfl ?_
      refine g_iload (pc' := 210) C at_208 rfl rfl ?_
      refine g_ifY (xi := 0) (pc1 := 228) C at_210 (by decide) rfl rfl (by decide) ?_
      refine g_iload (pc' := 230) C at_228 rfl rfl ?_
      refine g_ifY (xi := 0) (pc1 := 248) C at_230 (by decide) rfl rfl (by decide) ?_
      refine g_iload (pc' := 250) C at_248 rfl rfl ?_
      refine g_ifY (xi := 0) (pc1 := 268) C at_250 (by decide) rfl rfl (by decide) ?_
      refine g_aload (pc' := 270) C at_268 rfl rfl rfl ?_
      refine g_iconst (pc' := 271) (z := (0 : Int32)) C at_270 rfl rfl ?_
      refine g_aaload (pc' := 272) (i := 0) C at_271 rfl Aa11 rfl rfl ?_
      refine g_aload (pc' := 274) C at_272 rfl rfl rfl ?_
      refine g_iconst (pc' := 275) (z := (1 : Int32)) C at_274 rfl rfl ?_
      refine g_iload (pc' := 277) C at_275 rfl rfl ?_
      refine g_irem (pc' := 278) C at_277 rfl (by decide) ?_
      show Go W Q h26 7 18 278 #[.val (.int p0), .val (.int p1), .val (.int p2), .val (.int (0 : Int32)), .val (.int (2 : Int32)), .val (.int z3), .val (.ref r0), .val (.ref a4), .val (.ref a7), .val (.ref a11), .val (.int (1 : Int32)), .val (.int (0 : Int32)), .val (.int (0 : Int32)), .val (.int (0 : Int32)), .unset] [(.int (0 : Int32)), (.ref a11), (.ref r0)]
      refine g_aaload (pc' := 279) (i := 0) C at_278 rfl Aa11 rfl rfl ?_
      refine g_staticP (y := (⟨"com/example/slot512/slot512/LinkUnlinkPinLaw", "joined", "(Lcom/example/slot512/slot512/Link;Lcom/example/slot512/slot512/Link;)Z"⟩ : MethodName)) (pc' := 282) (k' := 7) (n' := 18) (S := []) (as := [(.ref r0), (.ref r0)]) C at_279 rfl (hw _ (List.mem_of_getElem? (i := 25) rfl)) (hw _ (List.mem_of_getElem? (i := 26) rfl)) (hw _ (List.mem_of_getElem? (i := 27) rfl)) (hw _ (List.mem_of_getElem? (i := 28) rfl)) (by decide) (lenOf pd_2 rfl) (con_joined W.l Z a0 hw r0 r0 (.ref r0) (.ref r0) h26 Or0 Or0) rfl rfl (Nat.le_of_ble_eq_true rfl) (Nat.le_of_ble_eq_true rfl) rfl rfl (Nat.le_of_ble_eq_true rfl) (Nat.le_of_ble_eq_true rfl) (S1 := [(.int (1 : Int32))]) rfl ?_
      refine g_istore (pc' := 284) (L' := #[.val (.int p0), .val (.int p1), .val (.int p2), .val (.int (0 : Int32)), .val (.int (2 : Int32)), .val (.int z3), .val (.ref r0), .val (.ref a4), .val (.ref a7), .val (.ref a11), .val (.int (1 : Int32)), .val (.int (0 : Int32)), .val (.int (0 : Int32)), .val (.int (0 : Int32)), .val (.int (1 : Int32))]) C at_282 rfl rfl ?_
      refine g_iload (pc' := 286) C at_284 rfl rfl ?_
      refine g_iconst (pc' := 287) (z := (1 : Int32)) C at_286 rfl rfl ?_
      refine g_icmpY (xi := 1) (yi := 1) (pc1 := 319) C at_287 (by decide) rfl rfl rfl (by decide) ?_
      refine g_iload (pc' := 321) C at_319 rfl rfl ?_
      refine g_iconst (pc' := 322) (z := (2 : Int32)) C at_321 rfl rfl ?_
      refine g_icmpY (xi := 1) (yi := 2) (pc1 := 354) C at_322 (by decide) rfl rfl rfl (by decide) ?_
      refine g_iload (pc' := 356) C at_354 rfl rfl ?_
      refine g_iconst (pc' := 357) (z := (3 : Int32)) C at_356 rfl rfl ?_
      refine g_icmpY (xi := 1) (yi := 3) (pc1 := 386) C at_357 (by decide) rfl rfl rfl (by decide) ?_
      refine g_iload (pc' := 388) C at_386 rfl rfl ?_
      refine g_ifN (xi := 0) (pc2 := 391) C at_388 rfl rfl (by decide) ?_
      refine g_iload (pc' := 393) C at_391 rfl rfl ?_
      refine g_ifN (xi := 1) (pc2 := 396) C at_393 rfl rfl (by decide) ?_
      refine g_aload (pc' := 398) C at_396 rfl rfl rfl ?_
      refine g_iconst (pc' := 399) (z := (0 : Int32)) C at_398 rfl rfl ?_
      refine g_aaload (pc' := 400) (i := 0) C at_399 rfl Aa4 rfl rfl ?_
      refine g_staticP (y := (⟨"com/example/slot512/slot512/LinkUnlinkPinLaw", "detached", "(Lcom/example/slot512/slot512/Link;)Z"⟩ : MethodName)) (pc' := 403) (k' := 7) (n' := 18) (S := []) (as := [(.ref a5)]) C at_400 rfl (hw _ (List.mem_of_getElem? (i := 31) rfl)) (hw _ (List.mem_of_getElem? (i := 32) rfl)) (hw _ (List.mem_of_getElem? (i := 27) rfl)) (hw _ (List.mem_of_getElem? (i := 33) rfl)) (by decide) (lenOf pd_3 rfl) (con_det W.l Z a0 hw a5 h26 Oa5) rfl rfl (Nat.le_of_ble_eq_true rfl) (Nat.le_of_ble_eq_true rfl) rfl rfl (Nat.le_of_ble_eq_true rfl) (Nat.le_of_ble_eq_true rfl) (S1 := [(.int (1 : Int32))]) rfl ?_
      refine g_ifN (xi := 1) (pc2 := 406) C at_403 rfl rfl (by decide) ?_
      refine g_iconst (pc' := 407) (z := (1 : Int32)) C at_406 rfl rfl ?_
      refine g_goto C at_407 (by decide) (pc' := 411) rfl ?_
      refine g_istore (pc' := 413) (L' := #[.val (.int p0), .val (.int p1), .val (.int p2), .val (.int (0 : Int32)), .val (.int (2 : Int32)), .val (.int z3), .val (.ref r0), .val (.ref a4), .val (.ref a7), .val (.ref a11), .val (.int (1 : Int32)), .val (.int (0 : Int32)), .val (.int (0 : Int32)), .val (.int (0 : Int32)), .val (.int (1 : Int32))]) C at_411 rfl rfl ?_
      refine g_iload (pc' := 415) C at_413 rfl rfl ?_
      refine g_ifN (xi := 0) (pc2 := 418) C at_415 rfl rfl (by decide) ?_
      refine g_iload (pc' := 420) C at_418 rfl rfl ?_
      refine g_ifN (xi := 1) (pc2 := 423) C at_420 rfl rfl (by decide) ?_
      refine g_aload (pc' := 425) C at_423 rfl rfl rfl ?_
      refine g_iconst (pc' := 426) (z := (1 : Int32)) C at_425 rfl rfl ?_
      refine g_aaload (pc' := 427) (i := 1) C at_426 rfl Aa4 rfl rfl ?_
      refine g_staticP (y := (⟨"com/example/slot512/slot512/LinkUnlinkPinLaw", "detached", "(Lcom/example/slot512/slot512/Link;)Z"⟩ : MethodName)) (pc' := 430) (k' := 7) (n' := 18) (S := []) (as := [(.ref a6)]) C at_427 rfl (hw _ (List.mem_of_getElem? (i := 31) rfl)) (hw _ (List.mem_of_getElem? (i := 32) rfl)) (hw _ (List.mem_of_getElem? (i := 27) rfl)) (hw _ (List.mem_of_getElem? (i := 33) rfl)) (by decide) (lenOf pd_3 rfl) (con_det W.l Z a0 hw a6 h26 Oa6) rfl rfl (Nat.le_of_ble_eq_true rfl) (Nat.le_of_ble_eq_true rfl) rfl rfl (Nat.le_of_ble_eq_true rfl) (Nat.le_of_ble_eq_true rfl) (S1 := [(.int (1 : Int32))]) rfl ?_
      refine g_ifN (xi := 1) (pc2 := 433) C at_430 rfl rfl (by decide) ?_
      refine g_iconst (pc' := 434) (z := (1 : Int32)) C at_433 rfl rfl ?_
      refine g_goto C at_434 (by decide) (pc' := 438) rfl ?_
      refine g_istore (pc' := 440) (L' := #[.val (.int p0), .val (.int p1), .val (.int p2), .val (.int (0 : Int32)), .val (.int (2 : Int32)), .val (.int z3), .val (.ref r0), .val (.ref a4), .val (.ref a7), .val (.ref a11), .val (.int (1 : Int32)), .val (.int (0 : Int32)), .val (.int (0 : Int32)), .val (.int (0 : Int32)), .val (.int (1 : Int32))]) C at_438 rfl rfl ?_
      refine g_iload (pc' := 442) C at_440 rfl rfl ?_
      refine g_ifN (xi := 0) (pc2 := 445) C at_442 rfl rfl (by decide) ?_
      refine g_iload (pc' := 447) C at_445 rfl rfl ?_
      refine g_ifN (xi := 1) (pc2 := 450) C at_447 rfl rfl (by decide) ?_
      refine g_aload (pc' := 452) C at_450 rfl rfl rfl ?_
      refine g_iconst (pc' := 453) (z := (2 : Int32)) C at_452 rfl rfl ?_
      refine g_aaload (pc' := 454) (i := 2) C at_453 rfl Aa4 rfl rfl ?_
      refine g_staticP (y := (⟨"com/example/slot512/slot512/LinkUnlinkPinLaw", "detached", "(Lcom/example/slot512/slot512/Link;)Z"⟩ : MethodName)) (pc' := 457) (k' := 7) (n' := 18) (S := []) (as := [(.ref a7)]) C at_454 rfl (hw _ (List.mem_of_getElem? (i := 31) rfl)) (hw _ (List.mem_of_getElem? (i := 32) rfl)) (hw _ (List.mem_of_getElem? (i := 27) rfl)) (hw _ (List.mem_of_getElem? (i := 33) rfl)) (by decide) (lenOf pd_3 rfl) (con_det W.l Z a0 hw a7 h26 Oa7) rfl rfl (Nat.le_of_ble_eq_true rfl) (Nat.le_of_ble_eq_true rfl) rfl rfl (Nat.le_of_ble_eq_true rfl) (Nat.le_of_ble_eq_true rfl) (S1 := [(.int (1 : Int32))]) rfl ?_
      refine g_ifN (xi := 1) (pc2 := 460) C at_457 rfl rfl (by decide) ?_
      refine g_iconst (pc' := 461) (z := (1 : Int32)) C at_460 rfl rfl ?_
      refine g_goto C at_461 (by decide) (pc' := 465) rfl ?_
      refine g_istore (pc' := 467) (L' := #[.val (.int p0), .val (.int p1), .val (.int p2), .val (.int (0 : Int32)), .val (.int (2 : Int32)), .val (.int z3), .val (.ref r0), .val (.ref a4), .val (.ref a7), .val (.ref a11), .val (.int (1 : Int32)), .val (.int (0 : Int32)), .val (.int (0 : Int32)), .val (.int (0 : Int32)), .val (.int (1 : Int32))]) C at_465 rfl rfl ?_
      refine g_iload (pc' := 469) C at_467 rfl rfl ?_
      refine g_ifN (xi := 1) (pc2 := 472) C at_469 rfl rfl (by decide) ?_
      refine g_aload (pc' := 474) C at_472 rfl rfl rfl ?_
      refine g_iconst (pc' := 475) (z := (3 : Int32)) C at_474 rfl rfl ?_
      refine g_aaload (pc' := 476) (i := 3) C at_475 rfl Aa4 rfl rfl ?_
      refine g_staticP (y := (⟨"com/example/slot512/slot512/LinkUnlinkPinLaw", "detached", "(Lcom/example/slot512/slot512/Link;)Z"⟩ : MethodName)) (pc' := 479) (k' := 7) (n' := 18) (S := []) (as := [(.ref a8)]) C at_476 rfl (hw _ (List.mem_of_getElem? (i := 31) rfl)) (hw _ (List.mem_of_getElem? (i := 32) rfl)) (hw _ (List.mem_of_getElem? (i := 27) rfl)) (hw _ (List.mem_of_getElem? (i := 33) rfl)) (by decide) (lenOf pd_3 rfl) (con_det W.l Z a0 hw a8 h26 Oa8) rfl rfl (Nat.le_of_ble_eq_true rfl) (Nat.le_of_ble_eq_true rfl) rfl rfl (Nat.le_of_ble_eq_true rfl) (Nat.le_of_ble_eq_true rfl) (S1 := [(.int (1 : Int32))]) rfl ?_
      refine g_ifN (xi := 1) (pc2 := 482) C at_479 rfl rfl (by decide) ?_
      refine g_iconst (pc' := 483) (z := (1 : Int32)) C at_482 rfl rfl ?_
      refine g_goto C at_483 (by decide) (pc' := 487) rfl ?_
      refine g_istore (pc' := 489) (L' := #[.val (.int p0), .val (.int p1), .val (.int p2), .val (.int (0 : Int32)), .val (.int (2 : Int32)), .val (.int z3), .val (.ref r0), .val (.ref a4), .val (.ref a7), .val (.ref a11), .val (.int (1 : Int32)), .val (.int (0 : Int32)), .val (.int (0 : Int32)), .val (.int (0 : Int32)), .val (.int (1 : Int32))]) C at_487 rfl rfl ?_
      refine g_iload (pc' := 491) C at_489 rfl rfl ?_
      refine g_retN C (by simp) at_491 (by decide) (by decide) ?_
      subst hQ
      rfl
    ·
      refine g_aload (pc' := 120) C at_118 rfl rfl rfl ?_
      refine g_iload (pc' := 122) C at_120 rfl rfl ?_
      refine g_aaload (pc' := 123) (i := 3) C at_122 rfl Aa4 rfl rfl ?_
      refine g_astore (pc' := 125) (L' := #[.val (.int p0), .val (.int p1), .val (.int p2), .val (.int (0 : Int32)), .val (.int (3 : Int32)), .val (.int z3), .val (.ref r0), .val (.ref a4), .val (.ref a8), .unset, .unset, .unset, .unset, .unset, .unset]) C at_123 rfl rfl rfl ?_
      refine g_aload (pc' := 127) C at_125 rfl rfl rfl ?_
      refine g_virtual (y := (⟨"com/example/slot512/slot512/Link", "unlink", "()V"⟩ : MethodName)) (a := a8) (pc' := 130) (k' := 6) (n' := 14) (S := []) (as := []) C at_127 rfl (hw _ (List.mem_of_getElem? (i := 20) rfl)) (hw _ (List.mem_of_getElem? (i := 22) rfl)) (hw _ (List.mem_of_getElem? (i := 2) rfl)) (hw _ (List.mem_of_getElem? (i := 24) rfl)) (hw _ (List.mem_of_getElem? (i := 21) rfl)) (hw _ (List.mem_of_getElem? (i := 23) rfl)) (by decide) Oa8.1 (lenOf pd_0 rfl) (con_un0 W.l Z a0 hw a8 .null h14 Oa8) rfl rfl (Nat.le_of_ble_eq_true rfl) (Nat.le_of_ble_eq_true rfl) rfl rfl (Nat.le_of_ble_eq_true rfl) (Nat.le_of_ble_eq_true rfl) all0 fun vh27 h27 qh27 Kh27 => ?_
      obtain ⟨rfl, eh⟩ := qh27
      subst eh
      show Go W Q h14 6 14 130 #[.val (.int p0), .val (.int p1), .val (.int p2), .val (.int (0 : Int32)), .val (.int (3 : Int32)), .val (.int z3), .val (.ref r0), .val (.ref a4), .val (.ref a8), .unset, .unset, .unset, .unset, .unset, .unset] []
      refine g_iload (pc' := 132) C at_130 rfl rfl ?_
      suffices K_132 : Go W Q h14 6 14 140 #[.val (.int p0), .val (.int p1), .val (.int p2), .val (.int (0 : Int32)), .val (.int (3 : Int32)), .val (.int z3), .val (.ref r0), .val (.ref a4), .val (.ref a8), .unset, .unset, .unset, .unset, .unset, .unset] [] by
        refine g_ifeqb (pc1 := 140) (pc2 := 135) C at_132 (by decide) rfl rfl e_z3 (fun (c132 : ¬ (¬ ((p2 &&& (1 : Int32)).toInt = 0))) => ?_) (fun (c132 : ¬ ((p2 &&& (1 : Int32)).toInt = 0)) => ?_)
        ·
          replace c132 : (p2 &&& (1 : Int32)).toInt = 0 := Decidable.not_not.mp c132
          exact K_132
        ·
          refine g_aload (pc' := 137) C at_135 rfl rfl rfl ?_
          refine g_virtual (y := (⟨"com/example/slot512/slot512/Link", "unlink", "()V"⟩ : MethodName)) (a := a8) (pc' := 140) (k' := 6) (n' := 14) (S := []) (as := []) C at_137 rfl (hw _ (List.mem_of_getElem? (i := 20) rfl)) (hw _ (List.mem_of_getElem? (i := 22) rfl)) (hw _ (List.mem_of_getElem? (i := 2) rfl)) (hw _ (List.mem_of_getElem? (i := 24) rfl)) (hw _ (List.mem_of_getElem? (i := 21) rfl)) (hw _ (List.mem_of_getElem? (i := 23) rfl)) (by decide) Oa8.1 (lenOf pd_0 rfl) (con_un0 W.l Z a0 hw a8 .null h14 Oa8) rfl rfl (Nat.le_of_ble_eq_true rfl) (Nat.le_of_ble_eq_true rfl) rfl rfl (Nat.le_of_ble_eq_true rfl) (Nat.le_of_ble_eq_true rfl) all0 fun vh28 h28 qh28 Kh28 => ?_
          obtain ⟨rfl, eh⟩ := qh28
          subst eh
          show Go W Q h14 6 14 140 #[.val (.int p0), .val (.int p1), .val (.int p2), .val (.int (0 : Int32)), .val (.int (3 : Int32)), .val (.int z3), .val (.ref r0), .val (.ref a4), .val (.ref a8), .unset, .unset, .unset, .unset, .unset, .unset] []
          exact K_132
      refine g_iconst (pc' := 141) (z := (4 : Int32)) C at_140 rfl rfl ?_
      refine g_anewarray (pc' := 144) (len := 4) (cap := 4) (k' := 7) (n' := 18) C at_141 rfl (hw _ (List.mem_of_getElem? (i := 16) rfl)) (hw _ (List.mem_of_getElem? (i := 17) rfl)) rfl (by decide) (by decide) rfl rfl (by decide) (by decide) fun h29 a12 e_a12 Eh29 Aa12 w_a12 => ?_
      have n_r0_a12 : r0 ≠ a12 := by rw [e_a12]; exact Nat.ne_of_lt Or0.lt
      have n_a5_a12 : a5 ≠ a12 := by rw [e_a12]; exact Nat.ne_of_lt Oa5.lt
      have n_a6_a12 : a6 ≠ a12 := by rw [e_a12]; exact Nat.ne_of_lt Oa6.lt
      have n_a7_a12 : a7 ≠ a12 := by rw [e_a12]; exact Nat.ne_of_lt Oa7.lt
      have n_a8_a12 : a8 ≠ a12 := by rw [e_a12]; exact Nat.ne_of_lt Oa8.lt
      have n_a4_a12 : a4 ≠ a12 := by rw [e_a12]; exact Nat.ne_of_lt Aa4.lt
      replace Or0 := Or0.ext Eh29
      replace Oa5 := Oa5.ext Eh29
      replace Oa6 := Oa6.ext Eh29
      replace Oa7 := Oa7.ext Eh29
      replace Oa8 := Oa8.ext Eh29
      replace Aa4 := Aa4.ext Eh29
      replace Aa12 : ArR Z h29 a12 "com/example/slot512/slot512/Link" [.null, .null, .null, .null] := Aa12
      refine g_astore (pc' := 146) (L' := #[.val (.int p0), .val (.int p1), .val (.int p2), .val (.int (0 : Int32)), .val (.int (3 : Int32)), .val (.int z3), .val (.ref r0), .val (.ref a4), .val (.ref a8), .val (.ref a12), .unset, .unset, .unset, .unset, .unset]) C at_144 rfl rfl rfl ?_
      refine g_aload (pc' := 148) C at_146 rfl rfl rfl ?_
      refine g_iconst (pc' := 149) (z := (0 : Int32)) C at_148 rfl rfl ?_
      refine g_aload (pc' := 151) C at_149 rfl rfl rfl ?_
      refine g_aastore (pc' := 152) (i := 0) (vs' := [(.ref r0), .null, .null, .null]) C at_151 rfl Aa12 rfl (Nat.le_of_ble_eq_true rfl) rfl (Or.inr ⟨_, rfl, Or0.1⟩) w_a12 fun h30 Aa12 Kh30 => ?_
      replace Or0 := Or0.keep Kh30 (ninS n_r0_a12 nin0)
      replace Oa5 := Oa5.keep Kh30 (ninS n_a5_a12 nin0)
      replace Oa6 := Oa6.keep Kh30 (ninS n_a6_a12 nin0)
      replace Oa7 := Oa7.keep Kh30 (ninS n_a7_a12 nin0)
      replace Oa8 := Oa8.keep Kh30 (ninS n_a8_a12 nin0)
      replace Aa4 := Aa4.keep Kh30 (ninS n_a4_a12 nin0)
      refine g_iconst (pc' := 153) (z := (1 : Int32)) C at_152 rfl rfl ?_
      refine g_istore (pc' := 155) (L' := #[.val (.int p0), .val (.int p1), .val (.int p2), .val (.int (0 : Int32)), .val (.int (3 : Int32)), .val (.int z3), .val (.ref r0), .val (.ref a4), .val (.ref a8), .val (.ref a12), .val (.int (1 : Int32)), .unset, .unset, .unset, .unset]) C at_153 rfl rfl ?_
      refine g_iconst (pc' := 156) (z := (0 : Int32)) C at_155 rfl rfl ?_
      refine g_iloadN (pc' := 157) C at_156 rfl rfl ?_
      refine g_icmpY (xi := 0) (yi := 0) (pc1 := 169) C at_157 (by decide) rfl rfl rfl (by decide) ?_
      refine g_iconst (pc' := 170) (z := (0 : Int32)) C at_169 rfl rfl ?_
      refine g_istore (pc' := 172) (L' := #[.val (.int p0), .val (.int p1), .val (.int p2), .val (.int (0 : Int32)), .val (.int (3 : Int32)), .val (.int z3), .val (.ref r0), .val (.ref a4), .val (.ref a8), .val (.ref a12), .val (.int (1 : Int32)), .val (.int (0 : Int32)), .unset, .unset, .unset]) C at_170 rfl rfl ?_
      refine g_iconst (pc' := 173) (z := (1 : Int32)) C at_172 rfl rfl ?_
      refine g_iloadN (pc' := 174) C at_173 rfl rfl ?_
      refine g_icmpY (xi := 1) (yi := 0) (pc1 := 187) C at_174 (by decide) rfl rfl rfl (by decide) ?_
      refine g_iconst (pc' := 188) (z := (0 : Int32)) C at_187 rfl rfl ?_
      refine g_istore (pc' := 190) (L' := #[.val (.int p0), .val (.int p1), .val (.int p2), .val (.int (0 : Int32)), .val (.int (3 : Int32)), .val (.int z3), .val (.ref r0), .val (.ref a4), .val (.ref a8), .val (.ref a12), .val (.int (1 : Int32)), .val (.int (0 : Int32)), .val (.int (0 : Int32)), .unset, .unset]) C at_188 rfl rfl ?_
      refine g_iconst (pc' := 191) (z := (2 : Int32)) C at_190 rfl rfl ?_
      refine g_iloadN (pc' := 192) C at_191 rfl rfl ?_
      refine g_icmpY (xi := 2) (yi := 0) (pc1 := 205) C at_192 (by decide) rfl rfl rfl (by decide) ?_
      refine g_iconst (pc' := 206) (z := (0 : Int32)) C at_205 rfl rfl ?_
      refine g_istore (pc' := 208) (L' := #[.val (.int p0), .val (.int p1), .val (.int p2), .val (.int (0 : Int32)), .val (.int (3 : Int32)), .val (.int z3), .val (.ref r0), .val (.ref a4), .val (.ref a8), .val (.ref a12), .val (.int (1 : Int32)), .val (.int (0 : Int32)), .val (.int (0 : Int32)), .val (.int (0 : Int32)), .unset]) C at_206 rfl rfl ?_
      refine g_iload (pc' := 210) C at_208 rfl rfl ?_
      refine g_ifY (xi := 0) (pc1 := 228) C at_210 (by decide) rfl rfl (by decide) ?_
      refine g_iload (pc' := 230) C at_228 rfl rfl ?_
      refine g_ifY (xi := 0) (pc1 := 248) C at_230 (by decide) rfl rfl (by decide) ?_
      refine g_iload (pc' := 250) C at_248 rfl rfl ?_
      refine g_ifY (xi := 0) (pc1 := 268) C at_250 (by decide) rfl rfl (by decide) ?_
      refine g_aload (pc' := 270) C at_268 rfl rfl rfl ?_
      refine g_iconst (pc' := 271) (z := (0 : Int32)) C at_270 rfl rfl ?_
      refine g_aaload (pc' := 272) (i := 0) C at_271 rfl Aa12 rfl rfl ?_
      refine g_aload (pc' := 274) C at_272 rfl rfl rfl ?_
      refine g_iconst (pc' := 275) (z := (1 : Int32)) C at_274 rfl rfl ?_
      refine g_iload (pc' := 277) C at_275 rfl rfl ?_
      refine g_irem (pc' := 278) C at_277 rfl (by decide) ?_
      show Go W Q h30 7 18 278 #[.val (.int p0), .val (.int p1), .val (.int p2), .val (.int (0 : Int32)), .val (.int (3 : Int32)), .val (.int z3), .val (.ref r0), .val (.ref a4), .val (.ref a8), .val (.ref a12), .val (.int (1 : Int32)), .val (.int (0 : Int32)), .val (.int (0 : Int32)), .val (.int (0 : Int32)), .unset] [(.int (0 : Int32)), (.ref a12), (.ref r0)]
      refine g_aaload (pc' := 279) (i := 0) C at_278 rfl Aa12 rfl rfl ?_
      refine g_staticP (y := (⟨"com/example/slot512/slot512/LinkUnlinkPinLaw", "joined", "(Lcom/example/slot512/slot512/Link;Lcom/example/slot512/slot512/Link;)Z"⟩ : MethodName)) (pc' := 282) (k' := 7) (n' := 18) (S := []) (as := [(.ref r0), (.ref r0)]) C at_279 rfl (hw _ (List.mem_of_getElem? (i := 25) rfl)) (hw _ (List.mem_of_getElem? (i := 26) rfl)) (hw _ (List.mem_of_getElem? (i := 27) rfl)) (hw _ (List.mem_of_getElem? (i := 28) rfl)) (by decide) (lenOf pd_2 rfl) (con_joined W.l Z a0 hw r0 r0 (.ref r0) (.ref r0) h30 Or0 Or0) rfl rfl (Nat.le_of_ble_eq_true rfl) (Nat.le_of_ble_eq_true rfl) rfl rfl (Nat.le_of_ble_eq_true rfl) (Nat.le_of_ble_eq_true rfl) (S1 := [(.int (1 : Int32))]) rfl ?_
      refine g_istore (pc' := 284) (L' := #[.val (.int p0), .val (.int p1), .val (.int p2), .val (.int (0 : Int32)), .val (.int (3 : Int32)), .val (.int z3), .val (.ref r0), .val (.ref a4), .val (.ref a8), .val (.ref a12), .val (.int (1 : Int32)), .val (.int (0 : Int32)), .val (.int (0 : Int32)), .val (.int (0 : Int32)), .val (.int (1 : Int32))]) C at_282 rfl rfl ?_
      refine g_iload (pc' := 286) C at_284 rfl rfl ?_
      refine g_iconst (pc' := 287) (z := (1 : Int32)) C at_286 rfl rfl ?_
      refine g_icmpY (xi := 1) (yi := 1) (pc1 := 319) C at_287 (by decide) rfl rfl rfl (by decide) ?_
      refine g_iload (pc' := 321) C at_319 rfl rfl ?_
      refine g_iconst (pc' := 322) (z := (2 : Int32)) C at_321 rfl rfl ?_
      refine g_icmpY (xi := 1) (yi := 2) (pc1 := 354) C at_322 (by decide) rfl rfl rfl (by decide) ?_
      refine g_iload (pc' := 356) C at_354 rfl rfl ?_
      refine g_iconst (pc' := 357) (z := (3 : Int32)) C at_356 rfl rfl ?_
      refine g_icmpY (xi := 1) (yi := 3) (pc1 := 386) C at_357 (by decide) rfl rfl rfl (by decide) ?_
      refine g_iload (pc' := 388) C at_386 rfl rfl ?_
      refine g_ifN (xi := 0) (pc2 := 391) C at_388 rfl rfl (by decide) ?_
      refine g_iload (pc' := 393) C at_391 rfl rfl ?_
      refine g_ifN (xi := 1) (pc2 := 396) C at_393 rfl rfl (by decide) ?_
      refine g_aload (pc' := 398) C at_396 rfl rfl rfl ?_
      refine g_iconst (pc' := 399) (z := (0 : Int32)) C at_398 rfl rfl ?_
      refine g_aaload (pc' := 400) (i := 0) C at_399 rfl Aa4 rfl rfl ?_
      refine g_staticP (y := (⟨"com/example/slot512/slot512/LinkUnlinkPinLaw", "detached", "(Lcom/example/slot512/slot512/Link;)Z"⟩ : MethodName)) (pc' := 403) (k' := 7) (n' := 18) (S := []) (as := [(.ref a5)]) C at_400 rfl (hw _ (List.mem_of_getElem? (i := 31) rfl)) (hw _ (List.mem_of_getElem? (i := 32) rfl)) (hw _ (List.mem_of_getElem? (i := 27) rfl)) (hw _ (List.mem_of_getElem? (i := 33) rfl)) (by decide) (lenOf pd_3 rfl) (con_det W.l Z a0 hw a5 h30 Oa5) rfl rfl (Nat.le_of_ble_eq_true rfl) (Nat.le_of_ble_eq_true rfl) rfl rfl (Nat.le_of_ble_eq_true rfl) (Nat.le_of_ble_eq_true rfl) (S1 := [(.int (1 : Int32))]) rfl ?_
      refine g_ifN (xi := 1) (pc2 := 406) C at_403 rfl rfl (by decide) ?_
      refine g_iconst (pc' := 407) (z := (1 : Int32)) C at_406 rfl rfl ?_
      refine g_goto C at_407 (by decide) (pc' := 411) rfl ?_
      refine g_istore (pc' := 413) (L' := #[.val (.int p0), .val (.int p1), .val (.int p2), .val (.int (0 : Int32)), .val (.int (3 : Int32)), .val (.int z3), .val (.ref r0), .val (.ref a4), .val (.ref a8), .val (.ref a12), .val (.int (1 : Int32)), .val (.int (0 : Int32)), .val (.int (0 : Int32)), .val (.int (0 : Int32)), .val (.int (1 : Int32))]) C at_411 rfl rfl ?_
      refine g_iload (pc' := 415) C at_413 rfl rfl ?_
      refine g_ifN (xi := 0) (pc2 := 418) C at_415 rfl rfl (by decide) ?_
      refine g_iload (pc' := 420) C at_418 rfl rfl ?_
      refine g_ifN (xi := 1) (pc2 := 423) C at_420 rfl rfl (by decide) ?_
      refine g_aload (pc' := 425) C at_423 rfl rfl rfl ?_
      refine g_iconst (pc' := 426) (z := (1 : Int32)) C at_425 rfl rfl ?_
      refine g_aaload (pc' := 427) (i := 1) C at_426 rfl Aa4 rfl rfl ?_
      refine g_staticP (y := (⟨"com/example/slot512/slot512/LinkUnlinkPinLaw", "detached", "(Lcom/example/slot512/slot512/Link;)Z"⟩ : MethodName)) (pc' := 430) (k' := 7) (n' := 18) (S := []) (as := [(.ref a6)]) C at_427 rfl (hw _ (List.mem_of_getElem? (i := 31) rfl)) (hw _ (List.mem_of_getElem? (i := 32) rfl)) (hw _ (List.mem_of_getElem? (i := 27) rfl)) (hw _ (List.mem_of_getElem? (i := 33) rfl)) (by decide) (lenOf pd_3 rfl) (con_det W.l Z a0 hw a6 h30 Oa6) rfl rfl (Nat.le_of_ble_eq_true rfl) (Nat.le_of_ble_eq_true rfl) rfl rfl (Nat.le_of_ble_eq_true rfl) (Nat.le_of_ble_eq_true rfl) (S1 := [(.int (1 : Int32))]) rfl ?_
      refine g_ifN (xi := 1) (pc2 := 433) C at_430 rfl rfl (by decide) ?_
      refine g_iconst (pc' := 434) (z := (1 : Int32)) C at_433 rfl rfl ?_
      refine g_goto C at_434 (by decide) (pc' := 438) rfl ?_
      refine g_istore (pc' := 440) (L' := #[.val (.int p0), .val (.int p1), .val (.int p2), .val (.int (0 : Int32)), .val (.int (3 : Int32)), .val (.int z3), .val (.ref r0), .val (.ref a4), .val (.ref a8), .val (.ref a12), .val (.int (1 : Int32)), .val (.int (0 : Int32)), .val (.int (0 : Int32)), .val (.int (0 : Int32)), .val (.int (1 : Int32))]) C at_438 rfl rfl ?_
      refine g_iload (pc' := 442) C at_440 rfl rfl ?_
      refine g_ifN (xi := 0) (pc2 := 445) C at_442 rfl rfl (by decide) ?_
      refine g_iload (pc' := 447) C at_445 rfl rfl ?_
      refine g_ifN (xi := 1) (pc2 := 450) C at_447 rfl rfl (by decide) ?_
      refine g_aload (pc' := 452) C at_450 rfl rfl rfl ?_
      refine g_iconst (pc' := 453) (z := (2 : Int32)) C at_452 rfl rfl ?_
      refine g_aaload (pc' := 454) (i := 2) C at_453 rfl Aa4 rfl rfl ?_
      refine g_staticP (y := (⟨"com/example/slot512/slot512/LinkUnlinkPinLaw", "detached", "(Lcom/example/slot512/slot512/Link;)Z"⟩ : MethodName)) (pc' := 457) (k' := 7) (n' := 18) (S := []) (as := [(.ref a7)]) C at_454 rfl (hw _ (List.mem_of_getElem? (i := 31) rfl)) (hw _ (List.mem_of_getElem? (i := 32) rfl)) (hw _ (List.mem_of_getElem? (i := 27) rfl)) (hw _ (List.mem_of_getElem? (i := 33) rfl)) (by decide) (lenOf pd_3 rfl) (con_det W.l Z a0 hw a7 h30 Oa7) rfl rfl (Nat.le_of_ble_eq_true rfl) (Nat.le_of_ble_eq_true rfl) rfl rfl (Nat.le_of_ble_eq_true rfl) (Nat.le_of_ble_eq_true rfl) (S1 := [(.int (1 : Int32))]) rfl ?_
      refine g_ifN (xi := 1) (pc2 := 460) C at_457 rfl rfl (by decide) ?_
      refine g_iconst (pc' := 461) (z := (1 : Int32)) C at_460 rfl rfl ?_
      refine g_goto C at_461 (by decide) (pc' := 465) rfl ?_
      refine g_istore (pc' := 467) (L' := #[.val (.int p0), .val (.int p1), .val (.int p2), .val (.int (0 : Int32)), .val (.int (3 : Int32)), .val (.int z3), .val (.ref r0), .val (.ref a4), .val (.ref a8), .val (.ref a12), .val (.int (1 : Int32)), .val (.int (0 : Int32)), .val (.int (0 : Int32)), .val (.int (0 : Int32)), .val (.int (1 : Int32))]) C at_465 rfl rfl ?_
      refine g_iload (pc' := 469) C at_467 rfl rfl ?_
      refine g_ifN (xi := 1) (pc2 := 472) C at_469 rfl rfl (by decide) ?_
      refine g_aload (pc' := 474) C at_472 rfl rfl rfl ?_
      refine g_iconst (pc' := 475) (z := (3 : Int32)) C at_474 rfl rfl ?_
      refine g_aaload (pc' := 476) (i := 3) C at_475 rfl Aa4 rfl rfl ?_
      refine g_staticP (y := (⟨"com/example/slot512/slot512/LinkUnlinkPinLaw", "detached", "(Lcom/example/slot512/slot512/Link;)Z"⟩ : MethodName)) (pc' := 479) (k' := 7) (n' := 18) (S := []) (as := [(.ref a8)]) C at_476 rfl (hw _ (List.mem_of_getElem? (i := 31) rfl)) (hw _ (List.mem_of_getElem? (i := 32) rfl)) (hw _ (List.mem_of_getElem? (i := 27) rfl)) (hw _ (List.mem_of_getElem? (i := 33) rfl)) (by decide) (lenOf pd_3 rfl) (con_det W.l Z a0 hw a8 h30 Oa8) rfl rfl (Nat.le_of_ble_eq_true rfl) (Nat.le_of_ble_eq_true rfl) rfl rfl (Nat.le_of_ble_eq_true rfl) (Nat.le_of_ble_eq_true rfl) (S1 := [(.int (1 : Int32))]) rfl ?_
      refine g_ifN (xi := 1) (pc2 := 482) C at_479 rfl rfl (by decide) ?_
      refine g_iconst (pc' := 483) (z := (1 : Int32)) C at_482 rfl rfl ?_
      refine g_goto C at_483 (by decide) (pc' := 487) rfl ?_
      refine g_istore (pc' := 489) (L' := #[.val (.int p0), .val (.int p1), .val (.int p2), .val (.int (0 : Int32)), .val (.int (3 : Int32)), .val (.int z3), .val (.ref r0), .val (.ref a4), .val (.ref a8), .val (.ref a12), .val (.int (1 : Int32)), .val (.int (0 : Int32)), .val (.int (0 : Int32)), .val (.int (0 : Int32)), .val (.int (1 : Int32))]) C at_487 rfl rfl ?_
      refine g_iload (pc' := 491) C at_489 rfl rfl ?_
      refine g_retN C (by simp) at_491 (by decide) (by decide) ?_
      subst hQ
      rfl
  ·
    refine g_iloadN (pc' := 78) C at_77 rfl rfl ?_
    refine g_ifN (xi := 1) (pc2 := 81) C at_78 rfl rfl (by decide) ?_
    refine g_aload (pc' := 83) C at_81 rfl rfl rfl ?_
    refine g_iconst (pc' := 84) (z := (0 : Int32)) C at_83 rfl rfl ?_
    refine g_aaload (pc' := 85) (i := 0) C at_84 rfl Aa4 rfl rfl ?_
    refine g_aload (pc' := 87) C at_85 rfl rfl rfl ?_
    refine g_virtual (y := (⟨"com/example/slot512/slot512/Link", "linkAtEndOf", "(Lcom/example/slot512/slot512/Link;)V"⟩ : MethodName)) (a := a5) (pc' := 90) (k' := 6) (n' := 14) (S := []) (as := [(.ref r0)]) C at_87 rfl (hw _ (List.mem_of_getElem? (i := 34) rfl)) (hw _ (List.mem_of_getElem? (i := 36) rfl)) (hw _ (List.mem_of_getElem? (i := 2) rfl)) (hw _ (List.mem_of_getElem? (i := 38) rfl)) (hw _ (List.mem_of_getElem? (i := 35) rfl)) (hw _ (List.mem_of_getElem? (i := 37) rfl)) (by decide) Oa5.1 (lenOf pd_4 rfl) (con_link0 W.l Z a0 hw a5 r0 .null .null (.ref r0) (Ne.symm n_r0_a5) h14 Oa5 Or0) rfl rfl (Nat.le_of_ble_eq_true rfl) (Nat.le_of_ble_eq_true rfl) rfl rfl (Nat.le_of_ble_eq_true rfl) (Nat.le_of_ble_eq_true rfl) (allS w_a5 (allS w_r0 all0)) fun vh31 h31 qh31 Kh31 => ?_
    obtain ⟨rfl, Oa5, Or0⟩ := qh31
    replace Oa6 := Oa6.keep Kh31 (ninS (Ne.symm n_a5_a6) (ninS (Ne.symm n_r0_a6) nin0))
    replace Oa7 := Oa7.keep Kh31 (ninS (Ne.symm n_a5_a7) (ninS (Ne.symm n_r0_a7) nin0))
    replace Oa8 := Oa8.keep Kh31 (ninS (Ne.symm n_a5_a8) (ninS (Ne.symm n_r0_a8) nin0))
    replace Aa4 := Aa4.keep Kh31 (ninS n_a4_a5 (ninS (Ne.symm n_r0_a4) nin0))
    show Go W Q h31 6 14 90 #[.val (.int p0), .val (.int p1), .val (.int p2), .val (.int (1 : Int32)), .val (.int i2), .val (.int z3), .val (.ref r0), .val (.ref a4), .unset, .unset, .unset, .unset, .unset, .unset, .unset] []
    refine g_iloadN (pc' := 91) C at_90 rfl rfl ?_
    refine g_iconst (pc' := 92) (z := (1 : Int32)) C at_91 rfl rfl ?_
    refine g_icmpY (xi := 1) (yi := 1) (pc1 := 104) C at_92 (by decide) rfl rfl rfl (by decide) ?_
    refine g_iloadN (pc' := 105) C at_104 rfl rfl ?_
    refine g_iconst (pc' := 106) (z := (2 : Int32)) C at_105 rfl rfl ?_
    refine g_icmpY (xi := 1) (yi := 2) (pc1 := 118) C at_106 (by decide) rfl rfl rfl (by decide) ?_
    have sp_i2 : i2 = 0 ∨ i2 = 1 ∨ i2 = 2 ∨ i2 = 3 := by
      have y1 := c_mask p1 3 2 (by decide) (by decide)
      rw [← e_i2] at y1
      have z0 : (0 : Int32).toInt = 0 := rfl
      have z1 : (1 : Int32).toInt = 1 := rfl
      have z2 : (2 : Int32).toInt = 2 := rfl
      have z3 : (3 : Int32).toInt = 3 := rfl
      rcases (by omega : i2.toInt = 0 ∨ i2.toInt = 1 ∨ i2.toInt = 2 ∨ i2.toInt = 3) with y | y | y | y
      · exact Or.inl (Int32.toInt_inj.mp (by omega))
      · exact Or.inr (Or.inl (Int32.toInt_inj.mp (by omega)))
      · exact Or.inr (Or.inr (Or.inl (Int32.toInt_inj.mp (by omega))))
      · exact Or.inr (Or.inr (Or.inr (Int32.toInt_inj.mp (by omega))))
    clear e_i2
    rcases sp_i2 with sp_i2 | sp_i2 | sp_i2 | sp_i2 <;> subst sp_i2
    ·
      refine g_aload (pc' := 120) C at_118 rfl rfl rfl ?_
      refine g_iload (pc' := 122) C at_120 rfl rfl ?_
      refine g_aaload (pc' := 123) (i := 0) C at_122 rfl Aa4 rfl rfl ?_
      refine g_astore (pc' := 125) (L' := #[.val (.int p0), .val (.int p1), .val (.int p2), .val (.int (1 : Int32)), .val (.int (0 : Int32)), .val (.int z3), .val (.ref r0), .val (.ref a4), .val (.ref a5), .unset, .unset, .unset, .unset, .unset, .unset]) C at_123 rfl rfl rfl ?_
      refine g_aload (pc' := 127) C at_125 rfl rfl rfl ?_
      refine g_virtual (y := (⟨"com/example/slot512/slot512/Link", "unlink", "()V"⟩ : MethodName)) (a := a5) (pc' := 130) (k' := 6) (n' := 14) (S := []) (as := []) C at_127 rfl (hw _ (List.mem_of_getElem? (i := 20) rfl)) (hw _ (List.mem_of_getElem? (i := 22) rfl)) (hw _ (List.mem_of_getElem? (i := 2) rfl)) (hw _ (List.mem_of_getElem? (i := 24) rfl)) (hw _ (List.mem_of_getElem? (i := 21) rfl)) (hw _ (List.mem_of_getElem? (i := 23) rfl)) (by decide) Oa5.1 (lenOf pd_0 rfl) (con_un1 W.l Z a0 hw a5 r0 (.ref a5) (.ref a5) (Ne.symm n_r0_a5) h31 Oa5 Or0) rfl rfl (Nat.le_of_ble_eq_true rfl) (Nat.le_of_ble_eq_true rfl) rfl rfl (Nat.le_of_ble_eq_true rfl) (Nat.le_of_ble_eq_true rfl) (allS w_a5 (allS w_r0 all0)) fun vh32 h32 qh32 Kh32 => ?_
      obtain ⟨rfl, Oa5, Or0⟩ := qh32
      replace Oa6 := Oa6.keep Kh32 (ninS (Ne.symm n_a5_a6) (ninS (Ne.symm n_r0_a6) nin0))
      replace Oa7 := Oa7.keep Kh32 (ninS (Ne.symm n_a5_a7) (ninS (Ne.symm n_r0_a7) nin0))
      replace Oa8 := Oa8.keep Kh32 (ninS (Ne.symm n_a5_a8) (ninS (Ne.symm n_r0_a8) nin0))
      replace Aa4 := Aa4.keep Kh32 (ninS n_a4_a5 (ninS (Ne.symm n_r0_a4) nin0))
      show Go W Q h32 6 14 130 #[.val (.int p0), .val (.int p1), .val (.int p2), .val (.int (1 : Int32)), .val (.int (0 : Int32)), .val (.int z3), .val (.ref r0), .val (.ref a4), .val (.ref a5), .unset, .unset, .unset, .unset, .unset, .unset] []
      refine g_iload (pc' := 132) C at_130 rfl rfl ?_
      suffices K_132 : Go W Q h32 6 14 140 #[.val (.int p0), .val (.int p1), .val (.int p2), .val (.int (1 : Int32)), .val (.int (0 : Int32)), .val (.int z3), .val (.ref r0), .val (.ref a4), .val (.ref a5), .unset, .unset, .unset, .unset, .unset, .unset] [] by
        refine g_ifeqb (pc1 := 140) (pc2 := 135) C at_132 (by decide) rfl rfl e_z3 (fun (c132 : ¬ (¬ ((p2 &&& (1 : Int32)).toInt = 0))) => ?_) (fun (c132 : ¬ ((p2 &&& (1 : Int32)).toInt = 0)) => ?_)
        ·
          replace c132 : (p2 &&& (1 : Int32)).toInt = 0 := Decidable.not_not.mp c132
          exact K_132
        ·
          refine g_aload (pc' := 137) C at_135 rfl rfl rfl ?_
          refine g_virtual (y := (⟨"com/example/slot512/slot512/Link", "unlink", "()V"⟩ : MethodName)) (a := a5) (pc' := 140) (k' := 6) (n' := 14) (S := []) (as := []) C at_137 rfl (hw _ (List.mem_of_getElem? (i := 20) rfl)) (hw _ (List.mem_of_getElem? (i := 22) rfl)) (hw _ (List.mem_of_getElem? (i := 2) rfl)) (hw _ (List.mem_of_getElem? (i := 24) rfl)) (hw _ (List.mem_of_getElem? (i := 21) rfl)) (hw _ (List.mem_of_getElem? (i := 23) rfl)) (by decide) Oa5.1 (lenOf pd_0 rfl) (con_un0 W.l Z a0 hw a5 .null h32 Oa5) rfl rfl (Nat.le_of_ble_eq_true rfl) (Nat.le_of_ble_eq_true rfl) rfl rfl (Nat.le_of_ble_eq_true rfl) (Nat.le_of_ble_eq_true rfl) all0 fun vh33 h33 qh33 Kh33 => ?_
          obtain ⟨rfl, eh⟩ := qh33
          subst eh
          show Go W Q h32 6 14 140 #[.val (.int p0), .val (.int p1), .val (.int p2), .val (.int (1 : Int32)), .val (.int (0 : Int32)), .val (.int z3), .val (.ref r0), .val (.ref a4), .val (.ref a5), .unset, .unset, .unset, .unset, .unset, .unset] []
          exact K_132
      refine g_iconst (pc' := 141) (z := (4 : Int32)) C at_140 rfl rfl ?_
      refine g_anewarray (pc' := 144) (len := 4) (cap := 4) (k' := 7) (n' := 18) C at_141 rfl (hw _ (List.mem_of_getElem? (i := 16) rfl)) (hw _ (List.mem_of_getElem? (i := 17) rfl)) rfl (by decide) (by decide) rfl rfl (by decide) (by decide) fun h34 a13 e_a13 Eh34 Aa13 w_a13 => ?_
      have n_r0_a13 : r0 ≠ a13 := by rw [e_a13]; exact Nat.ne_of_lt Or0.lt
      have n_a5_a13 : a5 ≠ a13 := by rw [e_a13]; exact Nat.ne_of_lt Oa5.lt
      have n_a6_a13 : a6 ≠ a13 := by rw [e_a13]; exact Nat.ne_of_lt Oa6.lt
      have n_a7_a13 : a7 ≠ a13 := by rw [e_a13]; exact Nat.ne_of_lt Oa7.lt
      have n_a8_a13 : a8 ≠ a13 := by rw [e_a13]; exact Nat.ne_of_lt Oa8.lt
      have n_a4_a13 : a4 ≠ a13 := by rw [e_a13]; exact Nat.ne_of_lt Aa4.lt
      replace Or0 := Or0.ext Eh34
      replace Oa5 := Oa5.ext Eh34
      replace Oa6 := Oa6.ext Eh34
      replace Oa7 := Oa7.ext Eh34
      replace Oa8 := Oa8.ext Eh34
      replace Aa4 := Aa4.ext Eh34
      replace Aa13 : ArR Z h34 a13 "com/example/slot512/slot512/Link" [.null, .null, .null, .null] := Aa13
      refine g_astore (pc' := 146) (L' := #[.val (.int p0), .val (.int p1), .val (.int p2), .val (.int (1 : Int32)), .val (.int (0 : Int32)), .val (.int z3), .val (.ref r0), .val (.ref a4), .val (.ref a5), .val (.ref a13), .unset, .unset, .unset, .unset, .unset]) C at_144 rfl rfl rfl ?_
      refine g_aload (pc' := 148) C at_146 rfl rfl rfl ?_
      refine g_iconst (pc' := 149) (z := (0 : Int32)) C at_148 rfl rfl ?_
      refine g_aload (pc' := 151) C at_149 rfl rfl rfl ?_
      refine g_aastore (pc' := 152) (i := 0) (vs' := [(.ref r0), .null, .null, .null]) C at_151 rfl Aa13 rfl (Nat.le_of_ble_eq_true rfl) rfl (Or.inr ⟨_, rfl, Or0.1⟩) w_a13 fun h35 Aa13 Kh35 => ?_
      replace Or0 := Or0.keep Kh35 (ninS n_r0_a13 nin0)
      replace Oa5 := Oa5.keep Kh35 (ninS n_a5_a13 nin0)
      replace Oa6 := Oa6.keep Kh35 (ninS n_a6_a13 nin0)
      replace Oa7 := Oa7.keep Kh35 (ninS n_a7_a13 nin0)
      replace Oa8 := Oa8.keep Kh35 (ninS n_a8_a13 nin0)
      replace Aa4 := Aa4.keep Kh35 (ninS n_a4_a13 nin0)
      refine g_iconst (pc' := 153) (z := (1 : Int32)) C at_152 rfl rfl ?_
      refine g_istore (pc' := 155) (L' := #[.val (.int p0), .val (.int p1), .val (.int p2), .val (.int (1 : Int32)), .val (.int (0 : Int32)), .val (.int z3), .val (.ref r0), .val (.ref a4), .val (.ref a5), .val (.ref a13), .val (.int (1 : Int32)), .unset, .unset, .unset, .unset]) C at_153 rfl rfl ?_
      refine g_iconst (pc' := 156) (z := (0 : Int32)) C at_155 rfl rfl ?_
      refine g_iloadN (pc' := 157) C at_156 rfl rfl ?_
      refine g_icmpN (xi := 0) (yi := 1) (pc2 := 160) C at_157 rfl rfl rfl (by decide) ?_
      refine g_iload (pc' := 162) C at_160 rfl rfl ?_
      refine g_ifY (xi := 0) (pc1 := 169) C at_162 (by decide) rfl rfl (by decide) ?_
      refine g_iconst (pc' := 170) (z := (0 : Int32)) C at_169 rfl rfl ?_
      refine g_istore (pc' := 172) (L' := #[.val (.int p0), .val (.int p1), .val (.int p2), .val (.int (1 : Int32)), .val (.int (0 : Int32)), .val (.int z3), .val (.ref r0), .val (.ref a4), .val (.ref a5), .val (.ref a13), .val (.int (1 : Int32)), .val (.int (0 : Int32)), .unset, .unset, .unset]) C at_170 rfl rfl ?_
      refine g_iconst (pc' := 173) (z := (1 : Int32)) C at_172 rfl rfl ?_
      refine g_iloadN (pc' := 174) C at_173 rfl rfl ?_
      refine g_icmpY (xi := 1) (yi := 1) (pc1 := 187) C at_174 (by decide) rfl rfl rfl (by decide) ?_
      refine g_iconst (pc' := 188) (z := (0 : Int32)) C at_187 rfl rfl ?_
      refine g_istore (pc' := 190) (L' := #[.val (.int p0), .val (.int p1), .val (.int p2), .val (.int (1 : Int32)), .val (.int (0 : Int32)), .val (.int z3), .val (.ref r0), .val (.ref a4), .val (.ref a5), .val (.ref a13), .val (.int (1 : Int32)), .val (.int (0 : Int32)), .val (.int (0 : Int32)), .unset, .unset]) C at_188 rfl rfl ?_
      refine g_iconst (pc' := 191) (z := (2 : Int32)) C at_190 rfl rfl ?_
      refine g_iloadN (pc' := 192) C at_191 rfl rfl ?_
      refine g_icmpY (xi := 2) (yi := 1) (pc1 := 205) C at_192 (by decide) rfl rfl rfl (by decide) ?_
      refine g_iconst (pc' := 206) (z := (0 : Int32)) C at_205 rfl rfl ?_
      refine g_istore (pc' := 208) (L' := #[.val (.int p0), .val (.int p1), .val (.int p2), .val (.int (1 : Int32)), .val (.int (0 : Int32)), .val (.int z3), .val (.ref r0), .val (.ref a4), .val (.ref a5), .val (.ref a13), .val (.int (1 : Int32)), .val (.int (0 : Int32)), .val (.int (0 : Int32)), .val (.int (0 : Int32)), .unset]) C at_206 rfl rfl ?_
      refine g_iload (pc' := 210) C at_208 rfl rfl ?_
      refine g_ifY (xi := 0) (pc1 := 228) C at_210 (by decide) rfl rfl (by decide) ?_
      refine g_iload (pc' := 230) C at_228 rfl rfl ?_
      refine g_ifY (xi := 0) (pc1 := 248) C at_230 (by decide) rfl rfl (by decide) ?_
      refine g_iload (pc' := 250) C at_248 rfl rfl ?_
      refine g_ifY (xi := 0) (pc1 := 268) C at_250 (by decide) rfl rfl (by decide) ?_
      refine g_aload (pc' := 270) C at_268 rfl rfl rfl ?_
      refine g_iconst (pc' := 271) (z := (0 : Int32)) C at_270 rfl rfl ?_
      refine g_aaload (pc' := 272) (i := 0) C at_271 rfl Aa13 rfl rfl ?_
      refine g_aload (pc' := 274) C at_272 rfl rfl rfl ?_
      refine g_iconst (pc' := 275) (z := (1 : Int32)) C at_274 rfl rfl ?_
      refine g_iload (pc' := 277) C at_275 rfl rfl ?_
      refine g_irem (pc' := 278) C at_277 rfl (by decide) ?_
      show Go W Q h35 7 18 278 #[.val (.int p0), .val (.int p1), .val (.int p2), .val (.int (1 : Int32)), .val (.int (0 : Int32)), .val (.int z3), .val (.ref r0), .val (.ref a4), .val (.ref a5), .val (.ref a13), .val (.int (1 : Int32)), .val (.int (0 : Int32)), .val (.int (0 : Int32)), .val (.int (0 : Int32)), .unset] [(.int (0 : Int32)), (.ref a13), (.ref r0)]
      refine g_aaload (pc' := 279) (i := 0) C at_278 rfl Aa13 rfl rfl ?_
      refine g_staticP (y := (⟨"com/example/slot512/slot512/LinkUnlinkPinLaw", "joined", "(Lcom/example/slot512/slot512/Link;Lcom/example/slot512/slot512/Link;)Z"⟩ : MethodName)) (pc' := 282) (k' := 7) (n' := 18) (S := []) (as := [(.ref r0), (.ref r0)]) C at_279 rfl (hw _ (List.mem_of_getElem? (i := 25) rfl)) (hw _ (List.mem_of_getElem? (i := 26) rfl)) (hw _ (List.mem_of_getElem? (i := 27) rfl)) (hw _ (List.mem_of_getElem? (i := 28) rfl)) (by decide) (lenOf pd_2 rfl) (con_joined W.l Z a0 hw r0 r0 (.ref r0) (.ref r0) h35 Or0 Or0) rfl rfl (Nat.le_of_ble_eq_true rfl) (Nat.le_of_ble_eq_true rfl) rfl rfl (Nat.le_of_ble_eq_true rfl) (Nat.le_of_ble_eq_true rfl) (S1 := [(.int (1 : Int32))]) rfl ?_
      refine g_istore (pc' := 284) (L' := #[.val (.int p0), .val (.int p1), .val (.int p2), .val (.int (1 : Int32)), .val (.int (0 : Int32)), .val (.int z3), .val (.ref r0), .val (.ref a4), .val (.ref a5), .val (.ref a13), .val (.int (1 : Int32)), .val (.int (0 : Int32)), .val (.int (0 : Int32)), .val (.int (0 : Int32)), .val (.int (1 : Int32))]) C at_282 rfl rfl ?_
      refine g_iload (pc' := 286) C at_284 rfl rfl ?_
      refine g_iconst (pc' := 287) (z := (1 : Int32)) C at_286 rfl rfl ?_
      refine g_icmpY (xi := 1) (yi := 1) (pc1 := 319) C at_287 (by decide) rfl rfl rfl (by decide) ?_
      refine g_iload (pc' := 321) C at_319 rfl rfl ?_
      refine g_iconst (pc' := 322) (z := (2 : Int32)) C at_321 rfl rfl ?_
      refine g_icmpY (xi := 1) (yi := 2) (pc1 := 354) C at_322 (by decide) rfl rfl rfl (by decide) ?_
      refine g_iload (pc' := 356) C at_354 rfl rfl ?_
      refine g_iconst (pc' := 357) (z := (3 : Int32)) C at_356 rfl rfl ?_
      refine g_icmpY (xi := 1) (yi := 3) (pc1 := 386) C at_357 (by decide) rfl rfl rfl (by decide) ?_
      refine g_iload (pc' := 388) C at_386 rfl rfl ?_
      refine g_ifN (xi := 0) (pc2 := 391) C at_388 rfl rfl (by decide) ?_
      refine g_iload (pc' := 393) C at_391 rfl rfl ?_
      refine g_ifN (xi := 1) (pc2 := 396) C at_393 rfl rfl (by decide) ?_
      refine g_aload (pc' := 398) C at_396 rfl rfl rfl ?_
      refine g_iconst (pc' := 399) (z := (0 : Int32)) C at_398 rfl rfl ?_
      refine g_aaload (pc' := 400) (i := 0) C at_399 rfl Aa4 rfl rfl ?_
      refine g_staticP (y := (⟨"com/example/slot512/slot512/LinkUnlinkPinLaw", "detached", "(Lcom/example/slot512/slot512/Link;)Z"⟩ : MethodName)) (pc' := 403) (k' := 7) (n' := 18) (S := []) (as := [(.ref a5)]) C at_400 rfl (hw _ (List.mem_of_getElem? (i := 31) rfl)) (hw _ (List.mem_of_getElem? (i := 32) rfl)) (hw _ (List.mem_of_getElem? (i := 27) rfl)) (hw _ (List.mem_of_getElem? (i := 33) rfl)) (by decide) (lenOf pd_3 rfl) (con_det W.l Z a0 hw a5 h35 Oa5) rfl rfl (Nat.le_of_ble_eq_true rfl) (Nat.le_of_ble_eq_true rfl) rfl rfl (Nat.le_of_ble_eq_true rfl) (Nat.le_of_ble_eq_true rfl) (S1 := [(.int (1 : Int32))]) rfl ?_
      refine g_ifN (xi := 1) (pc2 := 406) C at_403 rfl rfl (by decide) ?_
      refine g_iconst (pc' := 407) (z := (1 : Int32)) C at_406 rfl rfl ?_
      refine g_goto C at_407 (by decide) (pc' := 411) rfl ?_
      refine g_istore (pc' := 413) (L' := #[.val (.int p0), .val (.int p1), .val (.int p2), .val (.int (1 : Int32)), .val (.int (0 : Int32)), .val (.int z3), .val (.ref r0), .val (.ref a4), .val (.ref a5), .val (.ref a13), .val (.int (1 : Int32)), .val (.int (0 : Int32)), .val (.int (0 : Int32)), .val (.int (0 : Int32)), .val (.int (1 : Int32))]) C at_411 rfl rfl ?_
      refine g_iload (pc' := 415) C at_413 rfl rfl ?_
      refine g_ifN (xi := 0) (pc2 := 418) C at_415 rfl rfl (by decide) ?_
      refine g_iload (pc' := 420) C at_418 rfl rfl ?_
      refine g_ifN (xi := 1) (pc2 := 423) C at_420 rfl rfl (by decide) ?_
      refine g_aload (pc' := 425) C at_423 rfl rfl rfl ?_
      refine g_iconst (pc' := 426) (z := (1 : Int32)) C at_425 rfl rfl ?_
      refine g_aaload (pc' := 427) (i := 1) C at_426 rfl Aa4 rfl rfl ?_
      refine g_staticP (y := (⟨"com/example/slot512/slot512/LinkUnlinkPinLaw", "detached", "(Lcom/example/slot512/slot512/Link;)Z"⟩ : MethodName)) (pc' := 430) (k' := 7) (n' := 18) (S := []) (as := [(.ref a6)]) C at_427 rfl (hw _ (List.mem_of_getElem? (i := 31) rfl)) (hw _ (List.mem_of_getElem? (i := 32) rfl)) (hw _ (List.mem_of_getElem? (i := 27) rfl)) (hw _ (List.mem_of_getElem? (i := 33) rfl)) (by decide) (lenOf pd_3 rfl) (con_det W.l Z a0 hw a6 h35 Oa6) rfl rfl (Nat.le_of_ble_eq_true rfl) (Nat.le_of_ble_eq_true rfl) rfl rfl (Nat.le_of_ble_eq_true rfl) (Nat.le_of_ble_eq_true rfl) (S1 := [(.int (1 : Int32))]) rfl ?_
      refine g_ifN (xi := 1) (pc2 := 433) C at_430 rfl rfl (by decide) ?_
      refine g_iconst (pc' := 434) (z := (1 : Int32)) C at_433 rfl rfl ?_
      refine g_goto C at_434 (by decide) (pc' := 438) rfl ?_
      refine g_istore (pc' := 440) (L' := #[.val (.int p0), .val (.int p1), .val (.int p2), .val (.int (1 : Int32)), .val (.int (0 : Int32)), .val (.int z3), .val (.ref r0), .val (.ref a4), .val (.ref a5), .val (.ref a13), .val (.int (1 : Int32)), .val (.int (0 : Int32)), .val (.int (0 : Int32)), .val (.int (0 : Int32)), .val (.int (1 : Int32))]) C at_438 rfl rfl ?_
      refine g_iload (pc' := 442) C at_440 rfl rfl ?_
      refine g_ifN (xi := 0) (pc2 := 445) C at_442 rfl rfl (by decide) ?_
      refine g_iload (pc' := 447) C at_445 rfl rfl ?_
      refine g_ifN (xi := 1) (pc2 := 450) C at_447 rfl rfl (by decide) ?_
      refine g_aload (pc' := 452) C at_450 rfl rfl rfl ?_
      refine g_iconst (pc' := 453) (z := (2 : Int32)) C at_452 rfl rfl ?_
      refine g_aaload (pc' := 454) (i := 2) C at_453 rfl Aa4 rfl rfl ?_
      refine g_staticP (y := (⟨"com/example/slot512/slot512/LinkUnlinkPinLaw", "detached", "(Lcom/example/slot512/slot512/Link;)Z"⟩ : MethodName)) (pc' := 457) (k' := 7) (n' := 18) (S := []) (as := [(.ref a7)]) C at_454 rfl (hw _ (List.mem_of_getElem? (i := 31) rfl)) (hw _ (List.mem_of_getElem? (i := 32) rfl)) (hw _ (List.mem_of_getElem? (i := 27) rfl)) (hw _ (List.mem_of_getElem? (i := 33) rfl)) (by decide) (lenOf pd_3 rfl) (con_det W.l Z a0 hw a7 h35 Oa7) rfl rfl (Nat.le_of_ble_eq_true rfl) (Nat.le_of_ble_eq_true rfl) rfl rfl (Nat.le_of_ble_eq_true rfl) (Nat.le_of_ble_eq_true rfl) (S1 := [(.int (1 : Int32))]) rfl ?_
      refine g_ifN (xi := 1) (pc2 := 460) C at_457 rfl rfl (by decide) ?_
      refine g_iconst (pc' := 461) (z := (1 : Int32)) C at_460 rfl rfl ?_
      refine g_goto C at_461 (by decide) (pc' := 465) rfl ?_
      refine g_istore (pc' := 467) (L' := #[.val (.int p0), .val (.int p1), .val (.int p2), .val (.int (1 : Int32)), .val (.int (0 : Int32)), .val (.int z3), .val (.ref r0), .val (.ref a4), .val (.ref a5), .val (.ref a13), .val (.int (1 : Int32)), .val (.int (0 : Int32)), .val (.int (0 : Int32)), .val (.int (0 : Int32)), .val (.int (1 : Int32))]) C at_465 rfl rfl ?_
      refine g_iload (pc' := 469) C at_467 rfl rfl ?_
      refine g_ifN (xi := 1) (pc2 := 472) C at_469 rfl rfl (by decide) ?_
      refine g_aload (pc' := 474) C at_472 rfl rfl rfl ?_
      refine g_iconst (pc' := 475) (z := (3 : Int32)) C at_474 rfl rfl ?_
      refine g_aaload (pc' := 476) (i := 3) C at_475 rfl Aa4 rfl rfl ?_
      refine g_staticP (y := (⟨"com/example/slot512/slot512/LinkUnlinkPinLaw", "detached", "(Lcom/example/slot512/slot512/Link;)Z"⟩ : MethodName)) (pc' := 479) (k' := 7) (n' := 18) (S := []) (as := [(.ref a8)]) C at_476 rfl (hw _ (List.mem_of_getElem? (i := 31) rfl)) (hw _ (List.mem_of_getElem? (i := 32) rfl)) (hw _ (List.mem_of_getElem? (i := 27) rfl)) (hw _ (List.mem_of_getElem? (i := 33) rfl)) (by decide) (lenOf pd_3 rfl) (con_det W.l Z a0 hw a8 h35 Oa8) rfl rfl (Nat.le_of_ble_eq_true rfl) (Nat.le_of_ble_eq_true rfl) rfl rfl (Nat.le_of_ble_eq_true rfl) (Nat.le_of_ble_eq_true rfl) (S1 := [(.int (1 : Int32))]) rfl ?_
      refine g_ifN (xi := 1) (pc2 := 482) C at_479 rfl rfl (by decide) ?_
      refine g_iconst (pc' := 483) (z := (1 : Int32)) C at_482 rfl rfl ?_
      refine g_goto C at_483 (by decide) (pc' := 487) rfl ?_
      refine g_istore (pc' := 489) (L' := #[.val (.int p0), .val (.int p1), .val (.int p2), .val (.int (1 : Int32)), .val (.int (0 : Int32)), .val (.int z3), .val (.ref r0), .val (.ref a4), .val (.ref a5), .val (.ref a13), .val (.int (1 : Int32)), .val (.int (0 : Int32)), .val (.int (0 : Int32)), .val (.int (0 : Int32)), .val (.int (1 : Int32))]) C at_487 rfl rfl ?_
      refine g_iload (pc' := 491) C at_489 rfl rfl ?_
      refine g_retN C (by simp) at_491 (by decide) (by decide) ?_
      subst hQ
      rfl
    ·
      refine g_aload (pc' := 120) C at_118 rfl rfl rfl ?_
      refine g_iload (pc' := 122) C at_120 rfl rfl ?_
      refine g_aaload (pc' := 123) (i := 1) C at_122 rfl Aa4 rfl rfl ?_
      refine g_astore (pc' := 125) (L' := #[.val (.int p0), .val (.int p1), .val (.int p2), .val (.int (1 : Int32)), .val (.int (1 : Int32)), .val (.int z3), .val (.ref r0), .val (.ref a4), .val (.ref a6), .unset, .unset, .unset, .unset, .unset, .unset]) C at_123 rfl rfl rfl ?_
      refine g_aload (pc' := 127) C at_125 rfl rfl rfl ?_
      refine g_virtual (y := (⟨"com/example/slot512/slot512/Link", "unlink", "()V"⟩ : MethodName)) (a := a6) (pc' := 130) (k' := 6) (n' := 14) (S := []) (as := []) C at_127 rfl (hw _ (List.mem_of_getElem? (i := 20) rfl)) (hw _ (List.mem_of_getElem? (i := 22) rfl)) (hw _ (List.mem_of_getElem? (i := 2) rfl)) (hw _ (List.mem_of_getElem? (i := 24) rfl)) (hw _ (List.mem_of_getElem? (i := 21) rfl)) (hw _ (List.mem_of_getElem? (i := 23) rfl)) (by decide) Oa6.1 (lenOf pd_0 rfl) (con_un0 W.l Z a0 hw a6 .null h31 Oa6) rfl rfl (Nat.le_of_ble_eq_true rfl) (Nat.le_of_ble_eq_true rfl) rfl rfl (Nat.le_of_ble_eq_true rfl) (Nat.le_of_ble_eq_true rfl) all0 fun vh36 h36 qh36 Kh36 => ?_
      obtain ⟨rfl, eh⟩ := qh36
      subst eh
      show Go W Q h31 6 14 130 #[.val (.int p0), .val (.int p1), .val (.int p2), .val (.int (1 : Int32)), .val (.int (1 : Int32)), .val (.int z3), .val (.ref r0), .val (.ref a4), .val (.ref a6), .unset, .unset, .unset, .unset, .unset, .unset] []
      refine g_iload (pc' := 132) C at_130 rfl rfl ?_
      suffices K_132 : Go W Q h31 6 14 140 #[.val (.int p0), .val (.int p1), .val (.int p2), .val (.int (1 : Int32)), .val (.int (1 : Int32)), .val (.int z3), .val (.ref r0), .val (.ref a4), .val (.ref a6), .unset, .unset, .unset, .unset, .unset, .unset] [] by
        refine g_ifeqb (pc1 := 140) (pc2 := 135) C at_132 (by decide) rfl rfl e_z3 (fun (c132 : ¬ (¬ ((p2 &&& (1 : Int32)).toInt = 0))) => ?_) (fun (c132 : ¬ ((p2 &&& (1 : Int32)).toInt = 0)) => ?_)
        ·
          replace c132 : (p2 &&& (1 : Int32)).toInt = 0 := Decidable.not_not.mp c132
          exact K_132
        ·
          refine g_aload (pc' := 137) C at_135 rfl rfl rfl ?_
          refine g_virtual (y := (⟨"com/example/slot512/slot512/Link", "unlink", "()V"⟩ : MethodName)) (a := a6) (pc' := 140) (k' := 6) (n' := 14) (S := []) (as := []) C at_137 rfl (hw _ (List.mem_of_getElem? (i := 20) rfl)) (hw _ (List.mem_of_getElem? (i := 22) rfl)) (hw _ (List.mem_of_getElem? (i := 2) rfl)) (hw _ (List.mem_of_getElem? (i := 24) rfl)) (hw _ (List.mem_of_getElem? (i := 21) rfl)) (hw _ (List.mem_of_getElem? (i := 23) rfl)) (by decide) Oa6.1 (lenOf pd_0 rfl) (con_un0 W.l Z a0 hw a6 .null h31 Oa6) rfl rfl (Nat.le_of_ble_eq_true rfl) (Nat.le_of_ble_eq_true rfl) rfl rfl (Nat.le_of_ble_eq_true rfl) (Nat.le_of_ble_eq_true rfl) all0 fun vh37 h37 qh37 Kh37 => ?_
          obtain ⟨rfl, eh⟩ := qh37
          subst eh
          show Go W Q h31 6 14 140 #[.val (.int p0), .val (.int p1), .val (.int p2), .val (.int (1 : Int32)), .val (.int (1 : Int32)), .val (.int z3), .val (.ref r0), .val (.ref a4), .val (.ref a6), .unset, .unset, .unset, .unset, .unset, .unset] []
          exact K_132
      refine g_iconst (pc' := 141) (z := (4 : Int32)) C at_140 rfl rfl ?_
      refine g_anewarray (pc' := 144) (len := 4) (cap := 4) (k' := 7) (n' := 18) C at_141 rfl (hw _ (List.mem_of_getElem? (i := 16) rfl)) (hw _ (List.mem_of_getElem? (i := 17) rfl)) rfl (by decide) (by decide) rfl rfl (by decide) (by decide) fun h38 a14 e_a14 Eh38 Aa14 w_a14 => ?_
      have n_r0_a14 : r0 ≠ a14 := by rw [e_a14]; exact Nat.ne_of_lt Or0.lt
      have n_a5_a14 : a5 ≠ a14 := by rw [e_a14]; exact Nat.ne_of_lt Oa5.lt
      have n_a6_a14 : a6 ≠ a14 := by rw [e_a14]; exact Nat.ne_of_lt Oa6.lt
      have n_a7_a14 : a7 ≠ a14 := by rw [e_a14]; exact Nat.ne_of_lt Oa7.lt
      have n_a8_a14 : a8 ≠ a14 := by rw [e_a14]; exact Nat.ne_of_lt Oa8.lt
      have n_a4_a14 : a4 ≠ a14 := by rw [e_a14]; exact Nat.ne_of_lt Aa4.lt
      replace Or0 := Or0.ext Eh38
      replace Oa5 := Oa5.ext Eh38
      replace Oa6 := Oa6.ext Eh38
      replace Oa7 := Oa7.ext Eh38
      replace Oa8 := Oa8.ext Eh38
      replace Aa4 := Aa4.ext Eh38
      replace Aa14 : ArR Z h38 a14 "com/example/slot512/slot512/Link" [.null, .null, .null, .null] := Aa14
      refine g_astore (pc' := 146) (L' := #[.val (.int p0), .val (.int p1), .val (.int p2), .val (.int (1 : Int32)), .val (.int (1 : Int32)), .val (.int z3), .val (.ref r0), .val (.ref a4), .val (.ref a6), .val (.ref a14), .unset, .unset, .unset, .unset, .unset]) C at_144 rfl rfl rfl ?_
      refine g_aload (pc' := 148) C at_146 rfl rfl rfl ?_
      refine g_iconst (pc' := 149) (z := (0 : Int32)) C at_148 rfl rfl ?_
      refine g_aload (pc' := 151) C at_149 rfl rfl rfl ?_
      refine g_aastore (pc' := 152) (i := 0) (vs' := [(.ref r0), .null, .null, .null]) C at_151 rfl Aa14 rfl (Nat.le_of_ble_eq_true rfl) rfl (Or.inr ⟨_, rfl, Or0.1⟩) w_a14 fun h39 Aa14 Kh39 => ?_
      replace Or0 := Or0.keep Kh39 (ninS n_r0_a14 nin0)
      replace Oa5 := Oa5.keep Kh39 (ninS n_a5_a14 nin0)
      replace Oa6 := Oa6.keep Kh39 (ninS n_a6_a14 nin0)
      replace Oa7 := Oa7.keep Kh39 (ninS n_a7_a14 nin0)
      replace Oa8 := Oa8.keep Kh39 (ninS n_a8_a14 nin0)
      replace Aa4 := Aa4.keep Kh39 (ninS n_a4_a14 nin0)
      refine g_iconst (pc' := 153) (z := (1 : Int32)) C at_152 rfl rfl ?_
      refine g_istore (pc' := 155) (L' := #[.val (.int p0), .val (.int p1), .val (.int p2), .val (.int (1 : Int32)), .val (.int (1 : Int32)), .val (.int z3), .val (.ref r0), .val (.ref a4), .val (.ref a6), .val (.ref a14), .val (.int (1 : Int32)), .unset, .unset, .unset, .unset]) C at_153 rfl rfl ?_
      refine g_iconst (pc' := 156) (z := (0 : Int32)) C at_155 rfl rfl ?_
      refine g_iloadN (pc' := 157) C at_156 rfl rfl ?_
      refine g_icmpN (xi := 0) (yi := 1) (pc2 := 160) C at_157 rfl rfl rfl (by decide) ?_
      refine g_iload (pc' := 162) C at_160 rfl rfl ?_
      refine g_ifN (xi := 1) (pc2 := 165) C at_162 rfl rfl (by decide) ?_
      refine g_iconst (pc' := 166) (z := (1 : Int32)) C at_165 rfl rfl ?_
      refine g_goto C at_166 (by decide) (pc' := 170) rfl ?_
      refine g_istore (pc' := 172) (L' := #[.val (.int p0), .val (.int p1), .val (.int p2), .val (.int (1 : Int32)), .val (.int (1 : Int32)), .val (.int z3), .val (.ref r0), .val (.ref a4), .val (.ref a6), .val (.ref a14), .val (.int (1 : Int32)), .val (.int (1 : Int32)), .unset, .unset, .unset]) C at_170 rfl rfl ?_
      refine g_iconst (pc' := 173) (z := (1 : Int32)) C at_172 rfl rfl ?_
      refine g_iloadN (pc' := 174) C at_173 rfl rfl ?_
      refine g_icmpY (xi := 1) (yi := 1) (pc1 := 187) C at_174 (by decide) rfl rfl rfl (by decide) ?_
      refine g_iconst (pc' := 188) (z := (0 : Int32)) C at_187 rfl rfl ?_
      refine g_istore (pc' := 190) (L' := #[.val (.int p0), .val (.int p1), .val (.int p2), .val (.int (1 : Int32)), .val (.int (1 : Int32)), .val (.int z3), .val (.ref r0), .val (.ref a4), .val (.ref a6), .val (.ref a14), .val (.int (1 : Int32)), .val (.int (1 : Int32)), .val (.int (0 : Int32)), .unset, .unset]) C at_188 rfl rfl ?_
      refine g_iconst (pc' := 191) (z := (2 : Int32)) C at_190 rfl rfl ?_
      refine g_iloadN (pc' := 192) C at_191 rfl rfl ?_
      refine g_icmpY (xi := 2) (yi := 1) (pc1 := 205) C at_192 (by decide) rfl rfl rfl (by decide) ?_
      refine g_iconst (pc' := 206) (z := (0 : Int32)) C at_205 rfl rfl ?_
      refine g_istore (pc' := 208) (L' := #[.val (.int p0), .val (.int p1), .val (.int p2), .val (.int (1 : Int32)), .val (.int (1 : Int32)), .val (.int z3), .val (.ref r0), .val (.ref a4), .val (.ref a6), .val (.ref a14), .val (.int (1 : Int32)), .val (.int (1 : Int32)), .val (.int (0 : Int32)), .val (.int (0 : Int32)), .unset]) C at_206 rfl rfl ?_
      refine g_iload (pc' := 210) C at_208 rfl rfl ?_
      refine g_ifN (xi := 1) (pc2 := 213) C at_210 rfl rfl (by decide) ?_
      refine g_aload (pc' := 215) C at_213 rfl rfl rfl ?_
      refine g_iload (pc' := 217) C at_215 rfl rfl ?_
      refine g_aload (pc' := 219) C at_217 rfl rfl rfl ?_
      refine g_iconst (pc' := 220) (z := (0 : Int32)) C at_219 rfl rfl ?_
      refine g_aaload (pc' := 221) (i := 0) C at_220 rfl Aa4 rfl rfl ?_
      refine g_aastore (pc' := 222) (i := 1) (vs' := [(.ref r0), (.ref a5), .null, .null]) C at_221 rfl Aa14 rfl (Nat.le_of_ble_eq_true rfl) rfl (Or.inr ⟨_, rfl, Oa5.1⟩) w_a14 fun h40 Aa14 Kh40 => ?_
      replace Or0 := Or0.keep Kh40 (ninS n_r0_a14 nin0)
      replace Oa5 := Oa5.keep Kh40 (ninS n_a5_a14 nin0)
      replace Oa6 := Oa6.keep Kh40 (ninS n_a6_a14 nin0)
      replace Oa7 := Oa7.keep Kh40 (ninS n_a7_a14 nin0)
      replace Oa8 := Oa8.keep Kh40 (ninS n_a8_a14 nin0)
      replace Aa4 := Aa4.keep Kh40 (ninS n_a4_a14 nin0)
      refine g_iload (pc' := 224) C at_222 rfl rfl ?_
      refine g_iconst (pc' := 225) (z := (1 : Int32)) C at_224 rfl rfl ?_
      refine g_iadd (pc' := 226) C at_225 rfl ?_
      show Go W Q h40 7 18 226 #[.val (.int p0), .val (.int p1), .val (.int p2), .val (.int (1 : Int32)), .val (.int (1 : Int32)), .val (.int z3), .val (.ref r0), .val (.ref a4), .val (.ref a6), .val (.ref a14), .val (.int (1 : Int32)), .val (.int (1 : Int32)), .val (.int (0 : Int32)), .val (.int (0 : Int32)), .unset] [(.int (2 : Int32))]
      refine g_istore (pc' := 228) (L' := #[.val (.int p0), .val (.int p1), .val (.int p2), .val (.int (1 : Int32)), .val (.int (1 : Int32)), .val (.int z3), .val (.ref r0), .val (.ref a4), .val (.ref a6), .val (.ref a14), .val (.int (2 : Int32)), .val (.int (1 : Int32)), .val (.int (0 : Int32)), .val (.int (0 : Int32)), .unset]) C at_226 rfl rfl ?_
      refine g_iload (pc' := 230) C at_228 rfl rfl ?_
      refine g_ifY (xi := 0) (pc1 := 248) C at_230 (by decide) rfl rfl (by decide) ?_
      refine g_iload (pc' := 250) C at_248 rfl rfl ?_
      refine g_ifY (xi := 0) (pc1 := 268) C at_250 (by decide) rfl rfl (by decide) ?_
      refine g_aload (pc' := 270) C at_268 rfl rfl rfl ?_
      refine g_iconst (pc' := 271) (z := (0 : Int32)) C at_270 rfl rfl ?_
      refine g_aaload (pc' := 272) (i := 0) C at_271 rfl Aa14 rfl rfl ?_
      refine g_aload (pc' := 274) C at_272 rfl rfl rfl ?_
      refine g_iconst (pc' := 275) (z := (1 : Int32)) C at_274 rfl rfl ?_
      refine g_iload (pc' := 277) C at_275 rfl rfl ?_
      refine g_irem (pc' := 278) C at_277 rfl (by decide) ?_
      show Go W Q h40 7 18 278 #[.val (.int p0), .val (.int p1), .val (.int p2), .val (.int (1 : Int32)), .val (.int (1 : Int32)), .val (.int z3), .val (.ref r0), .val (.ref a4), .val (.ref a6), .val (.ref a14), .val (.int (2 : Int32)), .val (.int (1 : Int32)), .val (.int (0 : Int32)), .val (.int (0 : Int32)), .unset] [(.int (1 : Int32)), (.ref a14), (.ref r0)]
      refine g_aaload (pc' := 279) (i := 1) C at_278 rfl Aa14 rfl rfl ?_
      refine g_staticP (y := (⟨"com/example/slot512/slot512/LinkUnlinkPinLaw", "joined", "(Lcom/example/slot512/slot512/Link;Lcom/example/slot512/slot512/Link;)Z"⟩ : MethodName)) (pc' := 282) (k' := 7) (n' := 18) (S := []) (as := [(.ref r0), (.ref a5)]) C at_279 rfl (hw _ (List.mem_of_getElem? (i := 25) rfl)) (hw _ (List.mem_of_getElem? (i := 26) rfl)) (hw _ (List.mem_of_getElem? (i := 27) rfl)) (hw _ (List.mem_of_getElem? (i := 28) rfl)) (by decide) (lenOf pd_2 rfl) (con_joined W.l Z a0 hw r0 a5 (.ref a5) (.ref r0) h40 Or0 Oa5) rfl rfl (Nat.le_of_ble_eq_true rfl) (Nat.le_of_ble_eq_true rfl) rfl rfl (Nat.le_of_ble_eq_true rfl) (Nat.le_of_ble_eq_true rfl) (S1 := [(.int (1 : Int32))]) rfl ?_
      refine g_istore (pc' := 284) (L' := #[.val (.int p0), .val (.int p1), .val (.int p2), .val (.int (1 : Int32)), .val (.int (1 : Int32)), .val (.int z3), .val (.ref r0), .val (.ref a4), .val (.ref a6), .val (.ref a14), .val (.int (2 : Int32)), .val (.int (1 : Int32)), .val (.int (0 : Int32)), .val (.int (0 : Int32)), .val (.int (1 : Int32))]) C at_282 rfl rfl ?_
      refine g_iload (pc' := 286) C at_284 rfl rfl ?_
      refine g_iconst (pc' := 287) (z := (1 : Int32)) C at_286 rfl rfl ?_
      refine g_icmpN (xi := 2) (yi := 1) (pc2 := 290) C at_287 rfl rfl rfl (by decide) ?_
      refine g_iload (pc' := 292) C at_290 rfl rfl ?_
      refine g_ifN (xi := 1) (pc2 := 295) C at_292 rfl rfl (by decide) ?_
      refine g_aload (pc' := 297) C at_295 rfl rfl rfl ?_
      refine g_iconst (pc' := 298) (z := (1 : Int32)) C at_297 rfl rfl ?_
      refine g_aaload (pc' := 299) (i := 1) C at_298 rfl Aa14 rfl rfl ?_
      refine g_aload (pc' := 301) C at_299 rfl rfl rfl ?_
      refine g_iconst (pc' := 302) (z := (2 : Int32)) C at_301 rfl rfl ?_
      refine g_iload (pc' := 304) C at_302 rfl rfl ?_
      refine g_irem (pc' := 305) C at_304 rfl (by decide) ?_
      show Go W Q h40 7 18 305 #[.val (.int p0), .val (.int p1), .val (.int p2), .val (.int (1 : Int32)), .val (.int (1 : Int32)), .val (.int z3), .val (.ref r0), .val (.ref a4), .val (.ref a6), .val (.ref a14), .val (.int (2 : Int32)), .val (.int (1 : Int32)), .val (.int (0 : Int32)), .val (.int (0 : Int32)), .val (.int (1 : Int32))] [(.int (0 : Int32)), (.ref a14), (.ref a5)]
      refine g_aaload (pc' := 306) (i := 0) C at_305 rfl Aa14 rfl rfl ?_
      refine g_staticP (y := (⟨"com/example/slot512/slot512/LinkUnlinkPinLaw", "joined", "(Lcom/example/slot512/slot512/Link;Lcom/example/slot512/slot512/Link;)Z"⟩ : MethodName)) (pc' := 309) (k' := 7) (n' := 18) (S := []) (as := [(.ref a5), (.ref r0)]) C at_306 rfl (hw _ (List.mem_of_getElem? (i := 25) rfl)) (hw _ (List.mem_of_getElem? (i := 26) rfl)) (hw _ (List.mem_of_getElem? (i := 27) rfl)) (hw _ (List.mem_of_getElem? (i := 28) rfl)) (by decide) (lenOf pd_2 rfl) (con_joined W.l Z a0 hw a5 r0 (.ref r0) (.ref a5) h40 Oa5 Or0) rfl rfl (Nat.le_of_ble_eq_true rfl) (Nat.le_of_ble_eq_true rfl) rfl rfl (Nat.le_of_ble_eq_true rfl) (Nat.le_of_ble_eq_true rfl) (S1 := [(.int (1 : Int32))]) rfl ?_
      refine g_ifN (xi := 1) (pc2 := 312) C at_309 rfl rfl (by decide) ?_
      refine g_iconst (pc' := 313) (z := (1 : Int32)) C at_312 rfl rfl ?_
      refine g_goto C at_313 (by decide) (pc' := 317) rfl ?_
      refine g_istore (pc' := 319) (L' := #[.val (.int p0), .val (.int p1), .val (.int p2), .val (.int (1 : Int32)), .val (.int (1 : Int32)), .val (.int z3), .val (.ref r0), .val (.ref a4), .val (.ref a6), .val (.ref a14), .val (.int (2 : Int32)), .val (.int (1 : Int32)), .val (.int (0 : Int32)), .val (.int (0 : Int32)), .val (.int (1 : Int32))]) C at_317 rfl rfl ?_
      refine g_iload (pc' := 321) C at_319 rfl rfl ?_
      refine g_iconst (pc' := 322) (z := (2 : Int32)) C at_321 rfl rfl ?_
      refine g_icmpY (xi := 2) (yi := 2) (pc1 := 354) C at_322 (by decide) rfl rfl rfl (by decide) ?_
      refine g_iload (pc' := 356) C at_354 rfl rfl ?_
      refine g_iconst (pc' := 357) (z := (3 : Int32)) C at_356 rfl rfl ?_
      refine g_icmpY (xi := 2) (yi := 3) (pc1 := 386) C at_357 (by decide) rfl rfl rfl (by decide) ?_
      refine g_iload (pc' := 388) C at_386 rfl rfl ?_
      refine g_ifY (xi := 1) (pc1 := 413) C at_388 (by decide) rfl rfl (by decide) ?_
      refine g_iload (pc' := 415) C at_413 rfl rfl ?_
      refine g_ifN (xi := 0) (pc2 := 418) C at_415 rfl rfl (by decide) ?_
      refine g_iload (pc' := 420) C at_418 rfl rfl ?_
      refine g_ifN (xi := 1) (pc2 := 423) C at_420 rfl rfl (by decide) ?_
      refine g_aload (pc' := 425) C at_423 rfl rfl rfl ?_
      refine g_iconst (pc' := 426) (z := (1 : Int32)) C at_425 rfl rfl ?_
      refine g_aaload (pc' := 427) (i := 1) C at_426 rfl Aa4 rfl rfl ?_
      refine g_staticP (y := (⟨"com/example/slot512/slot512/LinkUnlinkPinLaw", "detached", "(Lcom/example/slot512/slot512/Link;)Z"⟩ : MethodName)) (pc' := 430) (k' := 7) (n' := 18) (S := []) (as := [(.ref a6)]) C at_427 rfl (hw _ (List.mem_of_getElem? (i := 31) rfl)) (hw _ (List.mem_of_getElem? (i := 32) rfl)) (hw _ (List.mem_of_getElem? (i := 27) rfl)) (hw _ (List.mem_of_getElem? (i := 33) rfl)) (by decide) (lenOf pd_3 rfl) (con_det W.l Z a0 hw a6 h40 Oa6) rfl rfl (Nat.le_of_ble_eq_true rfl) (Nat.le_of_ble_eq_true rfl) rfl rfl (Nat.le_of_ble_eq_true rfl) (Nat.le_of_ble_eq_true rfl) (S1 := [(.int (1 : Int32))]) rfl ?_
      refine g_ifN (xi := 1) (pc2 := 433) C at_430 rfl rfl (by decide) ?_
      refine g_iconst (pc' := 434) (z := (1 : Int32)) C at_433 rfl rfl ?_
      refine g_goto C at_434 (by decide) (pc' := 438) rfl ?_
      refine g_istore (pc' := 440) (L' := #[.val (.int p0), .val (.int p1), .val (.int p2), .val (.int (1 : Int32)), .val (.int (1 : Int32)), .val (.int z3), .val (.ref r0), .val (.ref a4), .val (.ref a6), .val (.ref a14), .val (.int (2 : Int32)), .val (.int (1 : Int32)), .val (.int (0 : Int32)), .val (.int (0 : Int32)), .val (.int (1 : Int32))]) C at_438 rfl rfl ?_
      refine g_iload (pc' := 442) C at_440 rfl rfl ?_
      refine g_ifN (xi := 0) (pc2 := 445) C at_442 rfl rfl (by decide) ?_
      refine g_iload (pc' := 447) C at_445 rfl rfl ?_
      refine g_ifN (xi := 1) (pc2 := 450) C at_447 rfl rfl (by decide) ?_
      refine g_aload (pc' := 452) C at_450 rfl rfl rfl ?_
      refine g_iconst (pc' := 453) (z := (2 : Int32)) C at_452 rfl rfl ?_
      refine g_aaload (pc' := 454) (i := 2) C at_453 rfl Aa4 rfl rfl ?_
      refine g_staticP (y := (⟨"com/example/slot512/slot512/LinkUnlinkPinLaw", "detached", "(Lcom/example/slot512/slot512/Link;)Z"⟩ : MethodName)) (pc' := 457) (k' := 7) (n' := 18) (S := []) (as := [(.ref a7)]) C at_454 rfl (hw _ (List.mem_of_getElem? (i := 31) rfl)) (hw _ (List.mem_of_getElem? (i := 32) rfl)) (hw _ (List.mem_of_getElem? (i := 27) rfl)) (hw _ (List.mem_of_getElem? (i := 33) rfl)) (by decide) (lenOf pd_3 rfl) (con_det W.l Z a0 hw a7 h40 Oa7) rfl rfl (Nat.le_of_ble_eq_true rfl) (Nat.le_of_ble_eq_true rfl) rfl rfl (Nat.le_of_ble_eq_true rfl) (Nat.le_of_ble_eq_true rfl) (S1 := [(.int (1 : Int32))]) rfl ?_
      refine g_ifN (xi := 1) (pc2 := 460) C at_457 rfl rfl (by decide) ?_
      refine g_iconst (pc' := 461) (z := (1 : Int32)) C at_460 rfl rfl ?_
      refine g_goto C at_461 (by decide) (pc' := 465) rfl ?_
      refine g_istore (pc' := 467) (L' := #[.val (.int p0), .val (.int p1), .val (.int p2), .val (.int (1 : Int32)), .val (.int (1 : Int32)), .val (.int z3), .val (.ref r0), .val (.ref a4), .val (.ref a6), .val (.ref a14), .val (.int (2 : Int32)), .val (.int (1 : Int32)), .val (.int (0 : Int32)), .val (.int (0 : Int32)), .val (.int (1 : Int32))]) C at_465 rfl rfl ?_
      refine g_iload (pc' := 469) C at_467 rfl rfl ?_
      refine g_ifN (xi := 1) (pc2 := 472) C at_469 rfl rfl (by decide) ?_
      refine g_aload (pc' := 474) C at_472 rfl rfl rfl ?_
      refine g_iconst (pc' := 475) (z := (3 : Int32)) C at_474 rfl rfl ?_
      refine g_aaload (pc' := 476) (i := 3) C at_475 rfl Aa4 rfl rfl ?_
      refine g_staticP (y := (⟨"com/example/slot512/slot512/LinkUnlinkPinLaw", "detached", "(Lcom/example/slot512/slot512/Link;)Z"⟩ : MethodName)) (pc' := 479) (k' := 7) (n' := 18) (S := []) (as := [(.ref a8)]) C at_476 rfl (hw _ (List.mem_of_getElem? (i := 31) rfl)) (hw _ (List.mem_of_getElem? (i := 32) rfl)) (hw _ (List.mem_of_getElem? (i := 27) rfl)) (hw _ (List.mem_of_getElem? (i := 33) rfl)) (by decide) (lenOf pd_3 rfl) (con_det W.l Z a0 hw a8 h40 Oa8) rfl rfl (Nat.le_of_ble_eq_true rfl) (Nat.le_of_ble_eq_true rfl) rfl rfl (Nat.le_of_ble_eq_true rfl) (Nat.le_of_ble_eq_true rfl) (S1 := [(.int (1 : Int32))]) rfl ?_
      refine g_ifN (xi := 1) (pc2 := 482) C at_479 rfl rfl (by decide) ?_
      refine g_iconst (pc' := 483) (z := (1 : Int32)) C at_482 rfl rfl ?_
      refine g_goto C at_483 (by decide) (pc' := 487) rfl ?_
      refine g_istore (pc' := 489) (L' := #[.val (.int p0), .val (.int p1), .val (.int p2), .val (.int (1 : Int32)), .val (.int (1 : Int32)), .val (.int z3), .val (.ref r0), .val (.ref a4), .val (.ref a6), .val (.ref a14), .val (.int (2 : Int32)), .val (.int (1 : Int32)), .val (.int (0 : Int32)), .val (.int (0 : Int32)), .val (.int (1 : Int32))]) C at_487 rfl rfl ?_
      refine g_iload (pc' := 491) C at_489 rfl rfl ?_
      refine g_retN C (by simp) at_491 (by decide) (by decide) ?_
      subst hQ
      rfl
    ·
      refine g_aload (pc' := 120) C at_118 rfl rfl rfl ?_
      refine g_iload (pc' := 122) C at_120 rfl rfl ?_
      refine g_aaload (pc' := 123) (i := 2) C at_122 rfl Aa4 rfl rfl ?_
      refine g_astore (pc' := 125) (L' := #[.val (.int p0), .val (.int p1), .val (.int p2), .val (.int (1 : Int32)), .val (.int (2 : Int32)), .val (.int z3), .val (.ref r0), .val (.ref a4), .val (.ref a7), .unset, .unset, .unset, .unset, .unset, .unset]) C at_123 rfl rfl rfl ?_
      refine g_aload (pc' := 127) C at_125 rfl rfl rfl ?_
      refine g_virtual (y := (⟨"com/example/slot512/slot512/Link", "unlink", "()V"⟩ : MethodName)) (a := a7) (pc' := 130) (k' := 6) (n' := 14) (S := []) (as := []) C at_127 rfl (hw _ (List.mem_of_getElem? (i := 20) rfl)) (hw _ (List.mem_of_getElem? (i := 22) rfl)) (hw _ (List.mem_of_getElem? (i := 2) rfl)) (hw _ (List.mem_of_getElem? (i := 24) rfl)) (hw _ (List.mem_of_getElem? (i := 21) rfl)) (hw _ (List.mem_of_getElem? (i := 23) rfl)) (by decide) Oa7.1 (lenOf pd_0 rfl) (con_un0 W.l Z a0 hw a7 .null h31 Oa7) rfl rfl (Nat.le_of_ble_eq_true rfl) (Nat.le_of_ble_eq_true rfl) rfl rfl (Nat.le_of_ble_eq_true rfl) (Nat.le_of_ble_eq_true rfl) all0 fun vh41 h41 qh41 Kh41 => ?_
      obtain ⟨rfl, eh⟩ := qh41
      subst eh
      show Go W Q h31 6 14 130 #[.val (.int p0), .val (.int p1), .val (.int p2), .val (.int (1 : Int32)), .val (.int (2 : Int32)), .val (.int z3), .val (.ref r0), .val (.ref a4), .val (.ref a7), .unset, .unset, .unset, .unset, .unset, .unset] []
      refine g_iload (pc' := 132) C at_130 rfl rfl ?_
      suffices K_132 : Go W Q h31 6 14 140 #[.val (.int p0), .val (.int p1), .val (.int p2), .val (.int (1 : Int32)), .val (.int (2 : Int32)), .val (.int z3), .val (.ref r0), .val (.ref a4), .val (.ref a7), .unset, .unset, .unset, .unset, .unset, .unset] [] by
        refine g_ifeqb (pc1 := 140) (pc2 := 135) C at_132 (by decide) rfl rfl e_z3 (fun (c132 : ¬ (¬ ((p2 &&& (1 : Int32)).toInt = 0))) => ?_) (fun (c132 : ¬ ((p2 &&& (1 : Int32)).toInt = 0)) => ?_)
        ·
          replace c132 : (p2 &&& (1 : Int32)).toInt = 0 := Decidable.not_not.mp c132
          exact K_132
        ·
          refine g_aload (pc' := 137) C at_135 rfl rfl rfl ?_
          refine g_virtual (y := (⟨"com/example/slot512/slot512/Link", "unlink", "()V"⟩ : MethodName)) (a := a7) (pc' := 140) (k' := 6) (n' := 14) (S := []) (as := []) C at_137 rfl (hw _ (List.mem_of_getElem? (i := 20) rfl)) (hw _ (List.mem_of_getElem? (i := 22) rfl)) (hw _ (List.mem_of_getElem? (i := 2) rfl)) (hw _ (List.mem_of_getElem? (i := 24) rfl)) (hw _ (List.mem_of_getElem? (i := 21) rfl)) (hw _ (List.mem_of_getElem? (i := 23) rfl)) (by decide) Oa7.1 (lenOf pd_0 rfl) (con_un0 W.l Z a0 hw a7 .null h31 Oa7) rfl rfl (Nat.le_of_ble_eq_true rfl) (Nat.le_of_ble_eq_true rfl) rfl rfl (Nat.le_of_ble_eq_true rfl) (Nat.le_of_ble_eq_true rfl) all0 fun vh42 h42 qh42 Kh42 => ?_
          obtain ⟨rfl, eh⟩ := qh42
          subst eh
          show Go W Q h31 6 14 140 #[.val (.int p0), .val (.int p1), .val (.int p2), .val (.int (1 : Int32)), .val (.int (2 : Int32)), .val (.int z3), .val (.ref r0), .val (.ref a4), .val (.ref a7), .unset, .unset, .unset, .unset, .unset, .unset] []
          exact K_132
      refine g_iconst (pc' := 141) (z := (4 : Int32)) C at_140 rfl rfl ?_
      refine g_anewarray (pc' := 144) (len := 4) (cap := 4) (k' := 7) (n' := 18) C at_141 rfl (hw _ (List.mem_of_getElem? (i := 16) rfl)) (hw _ (List.mem_of_getElem? (i := 17) rfl)) rfl (by decide) (by decide) rfl rfl (by decide) (by decide) fun h43 a15 e_a15 Eh43 Aa15 w_a15 => ?_
      have n_r0_a15 : r0 ≠ a15 := by rw [e_a15]; exact Nat.ne_of_lt Or0.lt
      have n_a5_a15 : a5 ≠ a15 := by rw [e_a15]; exact Nat.ne_of_lt Oa5.lt
      have n_a6_a15 : a6 ≠ a15 := by rw [e_a15]; exact Nat.ne_of_lt Oa6.lt
      have n_a7_a15 : a7 ≠ a15 := by rw [e_a15]; exact Nat.ne_of_lt Oa7.lt
      have n_a8_a15 : a8 ≠ a15 := by rw [e_a15]; exact Nat.ne_of_lt Oa8.lt
      have n_a4_a15 : a4 ≠ a15 := by rw [e_a15]; exact Nat.ne_of_lt Aa4.lt
      replace Or0 := Or0.ext Eh43
      replace Oa5 := Oa5.ext Eh43
      replace Oa6 := Oa6.ext Eh43
      replace Oa7 := Oa7.ext Eh43
      replace Oa8 := Oa8.ext Eh43
      replace Aa4 := Aa4.ext Eh43
      replace Aa15 : ArR Z h43 a15 "com/example/slot512/slot512/Link" [.null, .null, .null, .null] := Aa15
      refine g_astore (pc' := 146) (L' := #[.val (.int p0), .val (.int p1), .val (.int p2), .val (.int (1 : Int32)), .val (.int (2 : Int32)), .val (.int z3), .val (.ref r0), .val (.ref a4), .val (.ref a7), .val (.ref a15), .unset, .unset, .unset, .unset, .unset]) C at_144 rfl rfl rfl ?_
      refine g_aload (pc' := 148) C at_146 rfl rfl rfl ?_
      refine g_iconst (pc' := 149) (z := (0 : Int32)) C at_148 rfl rfl ?_
      refine g_aload (pc' := 151) C at_149 rfl rfl rfl ?_
      refine g_aastore (pc' := 152) (i := 0) (vs' := [(.ref r0), .null, .null, .null]) C at_151 rfl Aa15 rfl (Nat.le_of_ble_eq_true rfl) rfl (Or.inr ⟨_, rfl, Or0.1⟩) w_a15 fun h44 Aa15 Kh44 => ?_
      replace Or0 := Or0.keep Kh44 (ninS n_r0_a15 nin0)
      replace Oa5 := Oa5.keep Kh44 (ninS n_a5_a15 nin0)
      replace Oa6 := Oa6.keep Kh44 (ninS n_a6_a15 nin0)
      replace Oa7 := Oa7.keep Kh44 (ninS n_a7_a15 nin0)
      replace Oa8 := Oa8.keep Kh44 (ninS n_a8_a15 nin0)
      replace Aa4 := Aa4.keep Kh44 (ninS n_a4_a15 nin0)
      refine g_iconst (pc' := 153) (z := (1 : Int32)) C at_152 rfl rfl ?_
      refine g_istore (pc' := 155) (L' := #[.val (.int p0), .val (.int p1), .val (.int p2), .val (.int (1 : Int32)), .val (.int (2 : Int32)), .val (.int z3), .val (.ref r0), .val (.ref a4), .val (.ref a7), .val (.ref a15), .val (.int (1 : Int32)), .unset, .unset, .unset, .unset]) C at_153 rfl rfl ?_
      refine g_iconst (pc' := 156) (z := (0 : Int32)) C at_155 rfl rfl ?_
      refine g_iloadN (pc' := 157) C at_156 rfl rfl ?_
      refine g_icmpN (xi := 0) (yi := 1) (pc2 := 160) C at_157 rfl rfl rfl (by decide) ?_
      refine g_iload (pc' := 162) C at_160 rfl rfl ?_
      refine g_ifN (xi := 2) (pc2 := 165) C at_162 rfl rfl (by decide) ?_
      refine g_iconst (pc' := 166) (z := (1 : Int32)) C at_165 rfl rfl ?_
      refine g_goto C at_166 (by decide) (pc' := 170) rfl ?_
      refine g_istore (pc' := 172) (L' := #[.val (.int p0), .val (.int p1), .val (.int p2), .val (.int (1 : Int32)), .val (.int (2 : Int32)), .val (.int z3), .val (.ref r0), .val (.ref a4), .val (.ref a7), .val (.ref a15), .val (.int (1 : Int32)), .val (.int (1 : Int32)), .unset, .unset, .unset]) C at_170 rfl rfl ?_
      refine g_iconst (pc' := 173) (z := (1 : Int32)) C at_172 rfl rfl ?_
      refine g_iloadN (pc' := 174) C at_173 rfl rfl ?_
      refine g_icmpY (xi := 1) (yi := 1) (pc1 := 187) C at_174 (by decide) rfl rfl rfl (by decide) ?_
      refine g_iconst (pc' := 188) (z := (0 : Int32)) C at_187 rfl rfl ?_
      refine g_istore (pc' := 190) (L' := #[.val (.int p0), .val (.int p1), .val (.int p2), .val (.int (1 : Int32)), .val (.int (2 : Int32)), .val (.int z3), .val (.ref r0), .val (.ref a4), .val (.ref a7), .val (.ref a15), .val (.int (1 : Int32)), .val (.int (1 : Int32)), .val (.int (0 : Int32)), .unset, .unset]) C at_188 rfl rfl ?_
      refine g_iconst (pc' := 191) (z := (2 : Int32)) C at_190 rfl rfl ?_
      refine g_iloadN (pc' := 192) C at_191 rfl rfl ?_
      refine g_icmpY (xi := 2) (yi := 1) (pc1 := 205) C at_192 (by decide) rfl rfl rfl (by decide) ?_
      refine g_iconst (pc' := 206) (z := (0 : Int32)) C at_205 rfl rfl ?_
      refine g_istore (pc' := 208) (L' := #[.val (.int p0), .val (.int p1), .val (.int p2), .val (.int (1 : Int32)), .val (.int (2 : Int32)), .val (.int z3), .val (.ref r0), .val (.ref a4), .val (.ref a7), .val (.ref a15), .val (.int (1 : Int32)), .val (.int (1 : Int32)), .val (.int (0 : Int32)), .val (.int (0 : Int32)), .unset]) C at_206 rfl rfl ?_
      refine g_iload (pc' := 210) C at_208 rfl rfl ?_
      refine g_ifN (xi := 1) (pc2 := 213) C at_210 rfl rfl (by decide) ?_
      refine g_aload (pc' := 215) C at_213 rfl rfl rfl ?_
      refine g_iload (pc' := 217) C at_215 rfl rfl ?_
      refine g_aload (pc' := 219) C at_217 rfl rfl rfl ?_
      refine g_iconst (pc' := 220) (z := (0 : Int32)) C at_219 rfl rfl ?_
      refine g_aaload (pc' := 221) (i := 0) C at_220 rfl Aa4 rfl rfl ?_
      refine g_aastore (pc' := 222) (i := 1) (vs' := [(.ref r0), (.ref a5), .null, .null]) C at_221 rfl Aa15 rfl (Nat.le_of_ble_eq_true rfl) rfl (Or.inr ⟨_, rfl, Oa5.1⟩) w_a15 fun h45 Aa15 Kh45 => ?_
      replace Or0 := Or0.keep Kh45 (ninS n_r0_a15 nin0)
      replace Oa5 := Oa5.keep Kh45 (ninS n_a5_a15 nin0)
      replace Oa6 := Oa6.keep Kh45 (ninS n_a6_a15 nin0)
      replace Oa7 := Oa7.keep Kh45 (ninS n_a7_a15 nin0)
      replace Oa8 := Oa8.keep Kh45 (ninS n_a8_a15 nin0)
      replace Aa4 := Aa4.keep Kh45 (ninS n_a4_a15 nin0)
      refine g_iload (pc' := 224) C at_222 rfl rfl ?_
      refine g_iconst (pc' := 225) (z := (1 : Int32)) C at_224 rfl rfl ?_
      refine g_iadd (pc' := 226) C at_225 rfl ?_
      show Go W Q h45 7 18 226 #[.val (.int p0), .val (.int p1), .val (.int p2), .val (.int (1 : Int32)), .val (.int (2 : Int32)), .val (.int z3), .val (.ref r0), .val (.ref a4), .val (.ref a7), .val (.ref a15), .val (.int (1 : Int32)), .val (.int (1 : Int32)), .val (.int (0 : Int32)), .val (.int (0 : Int32)), .unset] [(.int (2 : Int32))]
      refine g_istore (pc' := 228) (L' := #[.val (.int p0), .val (.int p1), .val (.int p2), .val (.int (1 : Int32)), .val (.int (2 : Int32)), .val (.int z3), .val (.ref r0), .val (.ref a4), .val (.ref a7), .val (.ref a15), .val (.int (2 : Int32)), .val (.int (1 : Int32)), .val (.int (0 : Int32)), .val (.int (0 : Int32)), .unset]) C at_226 rfl rfl ?_
      refine g_iload (pc' := 230) C at_228 rfl rfl ?_
      refine g_ifY (xi := 0) (pc1 := 248) C at_230 (by decide) rfl rfl (by decide) ?_
      refine g_iload (pc' := 250) C at_248 rfl rfl ?_
      refine g_ifY (xi := 0) (pc1 := 268) C at_250 (by decide) rfl rfl (by decide) ?_
      refine g_aload (pc' := 270) C at_268 rfl rfl rfl ?_
      refine g_iconst (pc' := 271) (z := (0 : Int32)) C at_270 rfl rfl ?_
      refine g_aaload (pc' := 272) (i := 0) C at_271 rfl Aa15 rfl rfl ?_
      refine g_aload (pc' := 274) C at_272 rfl rfl rfl ?_
      refine g_iconst (pc' := 275) (z := (1 : Int32)) C at_274 rfl rfl ?_
      refine g_iload (pc' := 277) C at_275 rfl rfl ?_
      refine g_irem (pc' := 278) C at_277 rfl (by decide) ?_
      show Go W Q h45 7 18 278 #[.val (.int p0), .val (.int p1), .val (.int p2), .val (.int (1 : Int32)), .val (.int (2 : Int32)), .val (.int z3), .val (.ref r0), .val (.ref a4), .val (.ref a7), .val (.ref a15), .val (.int (2 : Int32)), .val (.int (1 : Int32)), .val (.int (0 : Int32)), .val (.int (0 : Int32)), .unset] [(.int (1 : Int32)), (.ref a15), (.ref r0)]
      refine g_aaload (pc' := 279) (i := 1) C at_278 rfl Aa15 rfl rfl ?_
      refine g_staticP (y := (⟨"com/example/slot512/slot512/LinkUnlinkPinLaw", "joined", "(Lcom/example/slot512/slot512/Link;Lcom/example/slot512/slot512/Link;)Z"⟩ : MethodName)) (pc' := 282) (k' := 7) (n' := 18) (S := []) (as := [(.ref r0), (.ref a5)]) C at_279 rfl (hw _ (List.mem_of_getElem? (i := 25) rfl)) (hw _ (List.mem_of_getElem? (i := 26) rfl)) (hw _ (List.mem_of_getElem? (i := 27) rfl)) (hw _ (List.mem_of_getElem? (i := 28) rfl)) (by decide) (lenOf pd_2 rfl) (con_joined W.l Z a0 hw r0 a5 (.ref a5) (.ref r0) h45 Or0 Oa5) rfl rfl (Nat.le_of_ble_eq_true rfl) (Nat.le_of_ble_eq_true rfl) rfl rfl (Nat.le_of_ble_eq_true rfl) (Nat.le_of_ble_eq_true rfl) (S1 := [(.int (1 : Int32))]) rfl ?_
      refine g_istore (pc' := 284) (L' := #[.val (.int p0), .val (.int p1), .val (.int p2), .val (.int (1 : Int32)), .val (.int (2 : Int32)), .val (.int z3), .val (.ref r0), .val (.ref a4), .val (.ref a7), .val (.ref a15), .val (.int (2 : Int32)), .val (.int (1 : Int32)), .val (.int (0 : Int32)), .val (.int (0 : Int32)), .val (.int (1 : Int32))]) C at_282 rfl rfl ?_
      refine g_iload (pc' := 286) C at_284 rfl rfl ?_
      refine g_iconst (pc' := 287) (z := (1 : Int32)) C at_286 rfl rfl ?_
      refine g_icmpN (xi := 2) (yi := 1) (pc2 := 290) C at_287 rfl rfl rfl (by decide) ?_
      refine g_iload (pc' := 292) C at_290 rfl rfl ?_
      refine g_ifN (xi := 1) (pc2 := 295) C at_292 rfl rfl (by decide) ?_
      refine g_aload (pc' := 297) C at_295 rfl rfl rfl ?_
      refine g_iconst (pc' := 298) (z := (1 : Int32)) C at_297 rfl rfl ?_
      refine g_aaload (pc' := 299) (i := 1) C at_298 rfl Aa15 rfl rfl ?_
      refine g_aload (pc' := 301) C at_299 rfl rfl rfl ?_
      refine g_iconst (pc' := 302) (z := (2 : Int32)) C at_301 rfl rfl ?_
      refine g_iload (pc' := 304) C at_302 rfl rfl ?_
      refine g_irem (pc' := 305) C at_304 rfl (by decide) ?_
      show Go W Q h45 7 18 305 #[.val (.int p0), .val (.int p1), .val (.int p2), .val (.int (1 : Int32)), .val (.int (2 : Int32)), .val (.int z3), .val (.ref r0), .val (.ref a4), .val (.ref a7), .val (.ref a15), .val (.int (2 : Int32)), .val (.int (1 : Int32)), .val (.int (0 : Int32)), .val (.int (0 : Int32)), .val (.int (1 : Int32))] [(.int (0 : Int32)), (.ref a15), (.ref a5)]
      refine g_aaload (pc' := 306) (i := 0) C at_305 rfl Aa15 rfl rfl ?_
      refine g_staticP (y := (⟨"com/example/slot512/slot512/LinkUnlinkPinLaw", "joined", "(Lcom/example/slot512/slot512/Link;Lcom/example/slot512/slot512/Link;)Z"⟩ : MethodName)) (pc' := 309) (k' := 7) (n' := 18) (S := []) (as := [(.ref a5), (.ref r0)]) C at_306 rfl (hw _ (List.mem_of_getElem? (i := 25) rfl)) (hw _ (List.mem_of_getElem? (i := 26) rfl)) (hw _ (List.mem_of_getElem? (i := 27) rfl)) (hw _ (List.mem_of_getElem? (i := 28) rfl)) (by decide) (lenOf pd_2 rfl) (con_joined W.l Z a0 hw a5 r0 (.ref r0) (.ref a5) h45 Oa5 Or0) rfl rfl (Nat.le_of_ble_eq_true rfl) (Nat.le_of_ble_eq_true rfl) rfl rfl (Nat.le_of_ble_eq_true rfl) (Nat.le_of_ble_eq_true rfl) (S1 := [(.int (1 : Int32))]) rfl ?_
      refine g_ifN (xi := 1) (pc2 := 312) C at_309 rfl rfl (by decide) ?_
      refine g_iconst (pc' := 313) (z := (1 : Int32)) C at_312 rfl rfl ?_
      refine g_goto C at_313 (by decide) (pc' := 317) rfl ?_
      refine g_istore (pc' := 319) (L' := #[.val (.int p0), .val (.int p1), .val (.int p2), .val (.int (1 : Int32)), .val (.int (2 : Int32)), .val (.int z3), .val (.ref r0), .val (.ref a4), .val (.ref a7), .val (.ref a15), .val (.int (2 : Int32)), .val (.int (1 : Int32)), .val (.int (0 : Int32)), .val (.int (0 : Int32)), .val (.int (1 : Int32))]) C at_317 rfl rfl ?_
      refine g_iload (pc' := 321) C at_319 rfl rfl ?_
      refine g_iconst (pc' := 322) (z := (2 : Int32)) C at_321 rfl rfl ?_
      refine g_icmpY (xi := 2) (yi := 2) (pc1 := 354) C at_322 (by decide) rfl rfl rfl (by decide) ?_
      refine g_iload (pc' := 356) C at_354 rfl rfl ?_
      refine g_iconst (pc' := 357) (z := (3 : Int32)) C at_356 rfl rfl ?_
      refine g_icmpY (xi := 2) (yi := 3) (pc1 := 386) C at_357 (by decide) rfl rfl rfl (by decide) ?_
      refine g_iload (pc' := 388) C at_386 rfl rfl ?_
      refine g_ifY (xi := 1) (pc1 := 413) C at_388 (by decide) rfl rfl (by decide) ?_
      refine g_iload (pc' := 415) C at_413 rfl rfl ?_
      refine g_ifN (xi := 0) (pc2 := 418) C at_415 rfl rfl (by decide) ?_
      refine g_iload (pc' := 420) C at_418 rfl rfl ?_
      refine g_ifN (xi := 1) (pc2 := 423) C at_420 rfl rfl (by decide) ?_
      refine g_aload (pc' := 425) C at_423 rfl rfl rfl ?_
      refine g_iconst (pc' := 426) (z := (1 : Int32)) C at_425 rfl rfl ?_
      refine g_aaload (pc' := 427) (i := 1) C at_426 rfl Aa4 rfl rfl ?_
      refine g_staticP (y := (⟨"com/example/slot512/slot512/LinkUnlinkPinLaw", "detached", "(Lcom/example/slot512/slot512/Link;)Z"⟩ : MethodName)) (pc' := 430) (k' := 7) (n' := 18) (S := []) (as := [(.ref a6)]) C at_427 rfl (hw _ (List.mem_of_getElem? (i := 31) rfl)) (hw _ (List.mem_of_getElem? (i := 32) rfl)) (hw _ (List.mem_of_getElem? (i := 27) rfl)) (hw _ (List.mem_of_getElem? (i := 33) rfl)) (by decide) (lenOf pd_3 rfl) (con_det W.l Z a0 hw a6 h45 Oa6) rfl rfl (Nat.le_of_ble_eq_true rfl) (Nat.le_of_ble_eq_true rfl) rfl rfl (Nat.le_of_ble_eq_true rfl) (Nat.le_of_ble_eq_true rfl) (S1 := [(.int (1 : Int32))]) rfl ?_
      refine g_ifN (xi := 1) (pc2 := 433) C at_430 rfl rfl (by decide) ?_
      refine g_iconst (pc' := 434) (z := (1 : Int32)) C at_433 rfl rfl ?_
      refine g_goto C at_434 (by decide) (pc' := 438) rfl ?_
      refine g_istore (pc' := 440) (L' := #[.val (.int p0), .val (.int p1), .val (.int p2), .val (.int (1 : Int32)), .val (.int (2 : Int32)), .val (.int z3), .val (.ref r0), .val (.ref a4), .val (.ref a7), .val (.ref a15), .val (.int (2 : Int32)), .val (.int (1 : Int32)), .val (.int (0 : Int32)), .val (.int (0 : Int32)), .val (.int (1 : Int32))]) C at_438 rfl rfl ?_
      refine g_iload (pc' := 442) C at_440 rfl rfl ?_
      refine g_ifN (xi := 0) (pc2 := 445) C at_442 rfl rfl (by decide) ?_
      refine g_iload (pc' := 447) C at_445 rfl rfl ?_
      refine g_ifN (xi := 1) (pc2 := 450) C at_447 rfl rfl (by decide) ?_
      refine g_aload (pc' := 452) C at_450 rfl rfl rfl ?_
      refine g_iconst (pc' := 453) (z := (2 : Int32)) C at_452 rfl rfl ?_
      refine g_aaload (pc' := 454) (i := 2) C at_453 rfl Aa4 rfl rfl ?_
      refine g_staticP (y := (⟨"com/example/slot512/slot512/LinkUnlinkPinLaw", "detached", "(Lcom/example/slot512/slot512/Link;)Z"⟩ : MethodName)) (pc' := 457) (k' := 7) (n' := 18) (S := []) (as := [(.ref a7)]) C at_454 rfl (hw _ (List.mem_of_getElem? (i := 31) rfl)) (hw _ (List.mem_of_getElem? (i := 32) rfl)) (hw _ (List.mem_of_getElem? (i := 27) rfl)) (hw _ (List.mem_of_getElem? (i := 33) rfl)) (by decide) (lenOf pd_3 rfl) (con_det W.l Z a0 hw a7 h45 Oa7) rfl rfl (Nat.le_of_ble_eq_true rfl) (Nat.le_of_ble_eq_true rfl) rfl rfl (Nat.le_of_ble_eq_true rfl) (Nat.le_of_ble_eq_true rfl) (S1 := [(.int (1 : Int32))]) rfl ?_
      refine g_ifN (xi := 1) (pc2 := 460) C at_457 rfl rfl (by decide) ?_
      refine g_iconst (pc' := 461) (z := (1 : Int32)) C at_460 rfl rfl ?_
      refine g_goto C at_461 (by decide) (pc' := 465) rfl ?_
      refine g_istore (pc' := 467) (L' := #[.val (.int p0), .val (.int p1), .val (.int p2), .val (.int (1 : Int32)), .val (.int (2 : Int32)), .val (.int z3), .val (.ref r0), .val (.ref a4), .val (.ref a7), .val (.ref a15), .val (.int (2 : Int32)), .val (.int (1 : Int32)), .val (.int (0 : Int32)), .val (.int (0 : Int32)), .val (.int (1 : Int32))]) C at_465 rfl rfl ?_
      refine g_iload (pc' := 469) C at_467 rfl rfl ?_
      refine g_ifN (xi := 1) (pc2 := 472) C at_469 rfl rfl (by decide) ?_
      refine g_aload (pc' := 474) C at_472 rfl rfl rfl ?_
      refine g_iconst (pc' := 475) (z := (3 : Int32)) C at_474 rfl rfl ?_
      refine g_aaload (pc' := 476) (i := 3) C at_475 rfl Aa4 rfl rfl ?_
      refine g_staticP (y := (⟨"com/example/slot512/slot512/LinkUnlinkPinLaw", "detached", "(Lcom/example/slot512/slot512/Link;)Z"⟩ : MethodName)) (pc' := 479) (k' := 7) (n' := 18) (S := []) (as := [(.ref a8)]) C at_476 rfl (hw _ (List.mem_of_getElem? (i := 31) rfl)) (hw _ (List.mem_of_getElem? (i := 32) rfl)) (hw _ (List.mem_of_getElem? (i := 27) rfl)) (hw _ (List.mem_of_getElem? (i := 33) rfl)) (by decide) (lenOf pd_3 rfl) (con_det W.l Z a0 hw a8 h45 Oa8) rfl rfl (Nat.le_of_ble_eq_true rfl) (Nat.le_of_ble_eq_true rfl) rfl rfl (Nat.le_of_ble_eq_true rfl) (Nat.le_of_ble_eq_true rfl) (S1 := [(.int (1 : Int32))]) rfl ?_
      refine g_ifN (xi := 1) (pc2 := 482) C at_479 rfl rfl (by decide) ?_
      refine g_iconst (pc' := 483) (z := (1 : Int32)) C at_482 rfl rfl ?_
      refine g_goto C at_483 (by decide) (pc' := 487) rfl ?_
      refine g_istore (pc' := 489) (L' := #[.val (.int p0), .val (.int p1), .val (.int p2), .val (.int (1 : Int32)), .val (.int (2 : Int32)), .val (.int z3), .val (.ref r0), .val (.ref a4), .val (.ref a7), .val (.ref a15), .val (.int (2 : Int32)), .val (.int (1 : Int32)), .val (.int (0 : Int32)), .val (.int (0 : Int32)), .val (.int (1 : Int32))]) C at_487 rfl rfl ?_
      refine g_iload (pc' := 491) C at_489 rfl rfl ?_
      refine g_retN C (by simp) at_491 (by decide) (by decide) ?_
      subst hQ
      rfl
    ·
      refine g_aload (pc' := 120) C at_118 rfl rfl rfl ?_
      refine g_iload (pc' := 122) C at_120 rfl rfl ?_
      refine g_aaload (pc' := 123) (i := 3) C at_122 rfl Aa4 rfl rfl ?_
      refine g_astore (pc' := 125) (L' := #[.val (.int p0), .val (.int p1), .val (.int p2), .val (.int (1 : Int32)), .val (.int (3 : Int32)), .val (.int z3), .val (.ref r0), .val (.ref a4), .val (.ref a8), .unset, .unset, .unset, .unset, .unset, .unset]) C at_123 rfl rfl rfl ?_
      refine g_aload (pc' := 127) C at_125 rfl rfl rfl ?_
      refine g_virtual (y := (⟨"com/example/slot512/slot512/Link", "unlink", "()V"⟩ : MethodName)) (a := a8) (pc' := 130) (k' := 6) (n' := 14) (S := []) (as := []) C at_127 rfl (hw _ (List.mem_of_getElem? (i := 20) rfl)) (hw _ (List.mem_of_getElem? (i := 22) rfl)) (hw _ (List.mem_of_getElem? (i := 2) rfl)) (hw _ (List.mem_of_getElem? (i := 24) rfl)) (hw _ (List.mem_of_getElem? (i := 21) rfl)) (hw _ (List.mem_of_getElem? (i := 23) rfl)) (by decide) Oa8.1 (lenOf pd_0 rfl) (con_un0 W.l Z a0 hw a8 .null h31 Oa8) rfl rfl (Nat.le_of_ble_eq_true rfl) (Nat.le_of_ble_eq_true rfl) rfl rfl (Nat.le_of_ble_eq_true rfl) (Nat.le_of_ble_eq_true rfl) all0 fun vh46 h46 qh46 Kh46 => ?_
      obtain ⟨rfl, eh⟩ := qh46
      subst eh
      show Go W Q h31 6 14 130 #[.val (.int p0), .val (.int p1), .val (.int p2), .val (.int (1 : Int32)), .val (.int (3 : Int32)), .val (.int z3), .val (.ref r0), .val (.ref a4), .val (.ref a8), .unset, .unset, .unset, .unset, .unset, .unset] []
      refine g_iload (pc' := 132) C at_130 rfl rfl ?_
      suffices K_132 : Go W Q h31 6 14 140 #[.val (.int p0), .val (.int p1), .val (.int p2), .val (.int (1 : Int32)), .val (.int (3 : Int32)), .val (.int z3), .val (.ref r0), .val (.ref a4), .val (.ref a8), .unset, .unset, .unset, .unset, .unset, .unset] [] by
        refine g_ifeqb (pc1 := 140) (pc2 := 135) C at_132 (by decide) rfl rfl e_z3 (fun (c132 : ¬ (¬ ((p2 &&& (1 : Int32)).toInt = 0))) => ?_) (fun (c132 : ¬ ((p2 &&& (1 : Int32)).toInt = 0)) => ?_)
        ·
          replace c132 : (p2 &&& (1 : Int32)).toInt = 0 := Decidable.not_not.mp c132
          exact K_132
        ·
          refine g_aload (pc' := 137) C at_135 rfl rfl rfl ?_
          refine g_virtual (y := (⟨"com/example/slot512/slot512/Link", "unlink", "()V"⟩ : MethodName)) (a := a8) (pc' := 140) (k' := 6) (n' := 14) (S := []) (as := []) C at_137 rfl (hw _ (List.mem_of_getElem? (i := 20) rfl)) (hw _ (List.mem_of_getElem? (i := 22) rfl)) (hw _ (List.mem_of_getElem? (i := 2) rfl)) (hw _ (List.mem_of_getElem? (i := 24) rfl)) (hw _ (List.mem_of_getElem? (i := 21) rfl)) (hw _ (List.mem_of_getElem? (i := 23) rfl)) (by decide) Oa8.1 (lenOf pd_0 rfl) (con_un0 W.l Z a0 hw a8 .null h31 Oa8) rfl rfl (Nat.le_of_ble_eq_true rfl) (Nat.le_of_ble_eq_true rfl) rfl rfl (Nat.le_of_ble_eq_true rfl) (Nat.le_of_ble_eq_true rfl) all0 fun vh47 h47 qh47 Kh47 => ?_
          obtain ⟨rfl, eh⟩ := qh47
          subst eh
          show Go W Q h31 6 14 140 #[.val (.int p0), .val (.int p1), .val (.int p2), .val (.int (1 : Int32)), .val (.int (3 : Int32)), .val (.int z3), .val (.ref r0), .val (.ref a4), .val (.ref a8), .unset, .unset, .unset, .unset, .unset, .unset] []
          exact K_132
      refine g_iconst (pc' := 141) (z := (4 : Int32)) C at_140 rfl rfl ?_
      refine g_anewarray (pc' := 144) (len := 4) (cap := 4) (k' := 7) (n' := 18) C at_141 rfl (hw _ (List.mem_of_getElem? (i := 16) rfl)) (hw _ (List.mem_of_getElem? (i := 17) rfl)) rfl (by decide) (by decide) rfl rfl (by decide) (by decide) fun h48 a16 e_a16 Eh48 Aa16 w_a16 => ?_
      have n_r0_a16 : r0 ≠ a16 := by rw [e_a16]; exact Nat.ne_of_lt Or0.lt
      have n_a5_a16 : a5 ≠ a16 := by rw [e_a16]; exact Nat.ne_of_lt Oa5.lt
      have n_a6_a16 : a6 ≠ a16 := by rw [e_a16]; exact Nat.ne_of_lt Oa6.lt
      have n_a7_a16 : a7 ≠ a16 := by rw [e_a16]; exact Nat.ne_of_lt Oa7.lt
      have n_a8_a16 : a8 ≠ a16 := by rw [e_a16]; exact Nat.ne_of_lt Oa8.lt
      have n_a4_a16 : a4 ≠ a16 := by rw [e_a16]; exact Nat.ne_of_lt Aa4.lt
      replace Or0 := Or0.ext Eh48
      replace Oa5 := Oa5.ext Eh48
      replace Oa6 := Oa6.ext Eh48
      replace Oa7 := Oa7.ext Eh48
      replace Oa8 := Oa8.ext Eh48
      replace Aa4 := Aa4.ext Eh48
      replace Aa16 : ArR Z h48 a16 "com/example/slot512/slot512/Link" [.null, .null, .null, .null] := Aa16
      refine g_astore (pc' := 146) (L' := #[.val (.int p0), .val (.int p1), .val (.int p2), .val (.int (1 : Int32)), .val (.int (3 : Int32)), .val (.int z3), .val (.ref r0), .val (.ref a4), .val (.ref a8), .val (.ref a16), .unset, .unset, .unset, .unset, .unset]) C at_144 rfl rfl rfl ?_
      refine g_aload (pc' := 148) C at_146 rfl rfl rfl ?_
      refine g_iconst (pc' := 149) (z := (0 : Int32)) C at_148 rfl rfl ?_
      refine g_aload (pc' := 151) C at_149 rfl rfl rfl ?_
      refine g_aastore (pc' := 152) (i := 0) (vs' := [(.ref r0), .null, .null, .null]) C at_151 rfl Aa16 rfl (Nat.le_of_ble_eq_true rfl) rfl (Or.inr ⟨_, rfl, Or0.1⟩) w_a16 fun h49 Aa16 Kh49 => ?_
      replace Or0 := Or0.keep Kh49 (ninS n_r0_a16 nin0)
      replace Oa5 := Oa5.keep Kh49 (ninS n_a5_a16 nin0)
      replace Oa6 := Oa6.keep Kh49 (ninS n_a6_a16 nin0)
      replace Oa7 := Oa7.keep Kh49 (ninS n_a7_a16 nin0)
      replace Oa8 := Oa8.keep Kh49 (ninS n_a8_a16 nin0)
      replace Aa4 := Aa4.keep Kh49 (ninS n_a4_a16 nin0)
      refine g_iconst (pc' := 153) (z := (1 : Int32)) C at_152 rfl rfl ?_
      refine g_istore (pc' := 155) (L' := #[.val (.int p0), .val (.int p1), .val (.int p2), .val (.int (1 : Int32)), .val (.int (3 : Int32)), .val (.int z3), .val (.ref r0), .val (.ref a4), .val (.ref a8), .val (.ref a16), .val (.int (1 : Int32)), .unset, .unset, .unset, .unset]) C at_153 rfl rfl ?_
      refine g_iconst (pc' := 156) (z := (0 : Int32)) C at_155 rfl rfl ?_
      refine g_iloadN (pc' := 157) C at_156 rfl rfl ?_
      refine g_icmpN (xi := 0) (yi := 1) (pc2 := 160) C at_157 rfl rfl rfl (by decide) ?_
      refine g_iload (pc' := 162) C at_160 rfl rfl ?_
      refine g_ifN (xi := 3) (pc2 := 165) C at_162 rfl rfl (by decide) ?_
      refine g_iconst (pc' := 166) (z := (1 : Int32)) C at_165 rfl rfl ?_
      refine g_goto C at_166 (by decide) (pc' := 170) rfl ?_
      refine g_istore (pc' := 172) (L' := #[.val (.int p0), .val (.int p1), .val (.int p2), .val (.int (1 : Int32)), .val (.int (3 : Int32)), .val (.int z3), .val (.ref r0), .val (.ref a4), .val (.ref a8), .val (.ref a16), .val (.int (1 : Int32)), .val (.int (1 : Int32)), .unset, .unset, .unset]) C at_170 rfl rfl ?_
      refine g_iconst (pc' := 173) (z := (1 : Int32)) C at_172 rfl rfl ?_
      refine g_iloadN (pc' := 174) C at_173 rfl rfl ?_
      refine g_icmpY (xi := 1) (yi := 1) (pc1 := 187) C at_174 (by decide) rfl rfl rfl (by decide) ?_
      refine g_iconst (pc' := 188) (z := (0 : Int32)) C at_187 rfl rfl ?_
      refine g_istore (pc' := 190) (L' := #[.val (.int p0), .val (.int p1), .val (.int p2), .val (.int (1 : Int32)), .val (.int (3 : Int32)), .val (.int z3), .val (.ref r0), .val (.ref a4), .val (.ref a8), .val (.ref a16), .val (.int (1 : Int32)), .val (.int (1 : Int32)), .val (.int (0 : Int32)), .unset, .unset]) C at_188 rfl rfl ?_
      refine g_iconst (pc' := 191) (z := (2 : Int32)) C at_190 rfl rfl ?_
      refine g_iloadN (pc' := 192) C at_191 rfl rfl ?_
      refine g_icmpY (xi := 2) (yi := 1) (pc1 := 205) C at_192 (by decide) rfl rfl rfl (by decide) ?_
      refine g_iconst (pc' := 206) (z := (0 : Int32)) C at_205 rfl rfl ?_
      refine g_istore (pc' := 208) (L' := #[.val (.int p0), .val (.int p1), .val (.int p2), .val (.int (1 : Int32)), .val (.int (3 : Int32)), .val (.int z3), .val (.ref r0), .val (.ref a4), .val (.ref a8), .val (.ref a16), .val (.int (1 : Int32)), .val (.int (1 : Int32)), .val (.int (0 : Int32)), .val (.int (0 : Int32)), .unset]) C at_206 rfl rfl ?_
      refine g_iload (pc' := 210) C at_208 rfl rfl ?_
      refine g_ifN (xi := 1) (pc2 := 213) C at_210 rfl rfl (by decide) ?_
      refine g_aload (pc' := 215) C at_213 rfl rfl rfl ?_
      refine g_iload (pc' := 217) C at_215 rfl rfl ?_
      refine g_aload (pc' := 219) C at_217 rfl rfl rfl ?_
      refine g_iconst (pc' := 220) (z := (0 : Int32)) C at_219 rfl rfl ?_
      refine g_aaload (pc' := 221) (i := 0) C at_220 rfl Aa4 rfl rfl ?_
      refine g_aastore (pc' := 222) (i := 1) (vs' := [(.ref r0), (.ref a5), .null, .null]) C at_221 rfl Aa16 rfl (Nat.le_of_ble_eq_true rfl) rfl (Or.inr ⟨_, rfl, Oa5.1⟩) w_a16 fun h50 Aa16 Kh50 => ?_
      replace Or0 := Or0.keep Kh50 (ninS n_r0_a16 nin0)
      replace Oa5 := Oa5.keep Kh50 (ninS n_a5_a16 nin0)
      replace Oa6 := Oa6.keep Kh50 (ninS n_a6_a16 nin0)
      replace Oa7 := Oa7.keep Kh50 (ninS n_a7_a16 nin0)
      replace Oa8 := Oa8.keep Kh50 (ninS n_a8_a16 nin0)
      replace Aa4 := Aa4.keep Kh50 (ninS n_a4_a16 nin0)
      refine g_iload (pc' := 224) C at_222 rfl rfl ?_
      refine g_iconst (pc' := 225) (z := (1 : Int32)) C at_224 rfl rfl ?_
      refine g_iadd (pc' := 226) C at_225 rfl ?_
      show Go W Q h50 7 18 226 #[.val (.int p0), .val (.int p1), .val (.int p2), .val (.int (1 : Int32)), .val (.int (3 : Int32)), .val (.int z3), .val (.ref r0), .val (.ref a4), .val (.ref a8), .val (.ref a16), .val (.int (1 : Int32)), .val (.int (1 : Int32)), .val (.int (0 : Int32)), .val (.int (0 : Int32)), .unset] [(.int (2 : Int32))]
      refine g_istore (pc' := 228) (L' := #[.val (.int p0), .val (.int p1), .val (.int p2), .val (.int (1 : Int32)), .val (.int (3 : Int32)), .val (.int z3), .val (.ref r0), .val (.ref a4), .val (.ref a8), .val (.ref a16), .val (.int (2 : Int32)), .val (.int (1 : Int32)), .val (.int (0 : Int32)), .val (.int (0 : Int32)), .unset]) C at_226 rfl rfl ?_
      refine g_iload (pc' := 230) C at_228 rfl rfl ?_
      refine g_ifY (xi := 0) (pc1 := 248) C at_230 (by decide) rfl rfl (by decide) ?_
      refine g_iload (pc' := 250) C at_248 rfl rfl ?_
      refine g_ifY (xi := 0) (pc1 := 268) C at_250 (by decide) rfl rfl (by decide) ?_
      refine g_aload (pc' := 270) C at_268 rfl rfl rfl ?_
      refine g_iconst (pc' := 271) (z := (0 : Int32)) C at_270 rfl rfl ?_
      refine g_aaload (pc' := 272) (i := 0) C at_271 rfl Aa16 rfl rfl ?_
      refine g_aload (pc' := 274) C at_272 rfl rfl rfl ?_
      refine g_iconst (pc' := 275) (z := (1 : Int32)) C at_274 rfl rfl ?_
      refine g_iload (pc' := 277) C at_275 rfl rfl ?_
      refine g_irem (pc' := 278) C at_277 rfl (by decide) ?_
      show Go W Q h50 7 18 278 #[.val (.int p0), .val (.int p1), .val (.int p2), .val (.int (1 : Int32)), .val (.int (3 : Int32)), .val (.int z3), .val (.ref r0), .val (.ref a4), .val (.ref a8), .val (.ref a16), .val (.int (2 : Int32)), .val (.int (1 : Int32)), .val (.int (0 : Int32)), .val (.int (0 : Int32)), .unset] [(.int (1 : Int32)), (.ref a16), (.ref r0)]
      refine g_aaload (pc' := 279) (i := 1) C at_278 rfl Aa16 rfl rfl ?_
      refine g_staticP (y := (⟨"com/example/slot512/slot512/LinkUnlinkPinLaw", "joined", "(Lcom/example/slot512/slot512/Link;Lcom/example/slot512/slot512/Link;)Z"⟩ : MethodName)) (pc' := 282) (k' := 7) (n' := 18) (S := []) (as := [(.ref r0), (.ref a5)]) C at_279 rfl (hw _ (List.mem_of_getElem? (i := 25) rfl)) (hw _ (List.mem_of_getElem? (i := 26) rfl)) (hw _ (List.mem_of_getElem? (i := 27) rfl)) (hw _ (List.mem_of_getElem? (i := 28) rfl)) (by decide) (lenOf pd_2 rfl) (con_joined W.l Z a0 hw r0 a5 (.ref a5) (.ref r0) h50 Or0 Oa5) rfl rfl (Nat.le_of_ble_eq_true rfl) (Nat.le_of_ble_eq_true rfl) rfl rfl (Nat.le_of_ble_eq_true rfl) (Nat.le_of_ble_eq_true rfl) (S1 := [(.int (1 : Int32))]) rfl ?_
      refine g_istore (pc' := 284) (L' := #[.val (.int p0), .val (.int p1), .val (.int p2), .val (.int (1 : Int32)), .val (.int (3 : Int32)), .val (.int z3), .val (.ref r0), .val (.ref a4), .val (.ref a8), .val (.ref a16), .val (.int (2 : Int32)), .val (.int (1 : Int32)), .val (.int (0 : Int32)), .val (.int (0 : Int32)), .val (.int (1 : Int32))]) C at_282 rfl rfl ?_
      refine g_iload (pc' := 286) C at_284 rfl rfl ?_
      refine g_iconst (pc' := 287) (z := (1 : Int32)) C at_286 rfl rfl ?_
      refine g_icmpN (xi := 2) (yi := 1) (pc2 := 290) C at_287 rfl rfl rfl (by decide) ?_
      refine g_iload (pc' := 292) C at_290 rfl rfl ?_
      refine g_ifN (xi := 1) (pc2 := 295) C at_292 rfl rfl (by decide) ?_
      refine g_aload (pc' := 297) C at_295 rfl rfl rfl ?_
      refine g_iconst (pc' := 298) (z := (1 : Int32)) C at_297 rfl rfl ?_
      refine g_aaload (pc' := 299) (i := 1) C at_298 rfl Aa16 rfl rfl ?_
      refine g_aload (pc' := 301) C at_299 rfl rfl rfl ?_
      refine g_iconst (pc' := 302) (z := (2 : Int32)) C at_301 rfl rfl ?_
      refine g_iload (pc' := 304) C at_302 rfl rfl ?_
      refine g_irem (pc' := 305) C at_304 rfl (by decide) ?_
      show Go W Q h50 7 18 305 #[.val (.int p0), .val (.int p1), .val (.int p2), .val (.int (1 : Int32)), .val (.int (3 : Int32)), .val (.int z3), .val (.ref r0), .val (.ref a4), .val (.ref a8), .val (.ref a16), .val (.int (2 : Int32)), .val (.int (1 : Int32)), .val (.int (0 : Int32)), .val (.int (0 : Int32)), .val (.int (1 : Int32))] [(.int (0 : Int32)), (.ref a16), (.ref a5)]
      refine g_aaload (pc' := 306) (i := 0) C at_305 rfl Aa16 rfl rfl ?_
      refine g_staticP (y := (⟨"com/example/slot512/slot512/LinkUnlinkPinLaw", "joined", "(Lcom/example/slot512/slot512/Link;Lcom/example/slot512/slot512/Link;)Z"⟩ : MethodName)) (pc' := 309) (k' := 7) (n' := 18) (S := []) (as := [(.ref a5), (.ref r0)]) C at_306 rfl (hw _ (List.mem_of_getElem? (i := 25) rfl)) (hw _ (List.mem_of_getElem? (i := 26) rfl)) (hw _ (List.mem_of_getElem? (i := 27) rfl)) (hw _ (List.mem_of_getElem? (i := 28) rfl)) (by decide) (lenOf pd_2 rfl) (con_joined W.l Z a0 hw a5 r0 (.ref r0) (.ref a5) h50 Oa5 Or0) rfl rfl (Nat.le_of_ble_eq_true rfl) (Nat.le_of_ble_eq_true rfl) rfl rfl (Nat.le_of_ble_eq_true rfl) (Nat.le_of_ble_eq_true rfl) (S1 := [(.int (1 : Int32))]) rfl ?_
      refine g_ifN (xi := 1) (pc2 := 312) C at_309 rfl rfl (by decide) ?_
      refine g_iconst (pc' := 313) (z := (1 : Int32)) C at_312 rfl rfl ?_
      refine g_goto C at_313 (by decide) (pc' := 317) rfl ?_
      refine g_istore (pc' := 319) (L' := #[.val (.int p0), .val (.int p1), .val (.int p2), .val (.int (1 : Int32)), .val (.int (3 : Int32)), .val (.int z3), .val (.ref r0), .val (.ref a4), .val (.ref a8), .val (.ref a16), .val (.int (2 : Int32)), .val (.int (1 : Int32)), .val (.int (0 : Int32)), .val (.int (0 : Int32)), .val (.int (1 : Int32))]) C at_317 rfl rfl ?_
      refine g_iload (pc' := 321) C at_319 rfl rfl ?_
      refine g_iconst (pc' := 322) (z := (2 : Int32)) C at_321 rfl rfl ?_
      refine g_icmpY (xi := 2) (yi := 2) (pc1 := 354) C at_322 (by decide) rfl rfl rfl (by decide) ?_
      refine g_iload (pc' := 356) C at_354 rfl rfl ?_
      refine g_iconst (pc' := 357) (z := (3 : Int32)) C at_356 rfl rfl ?_
      refine g_icmpY (xi := 2) (yi := 3) (pc1 := 386) C at_357 (by decide) rfl rfl rfl (by decide) ?_
      refine g_iload (pc' := 388) C at_386 rfl rfl ?_
      refine g_ifY (xi := 1) (pc1 := 413) C at_388 (by decide) rfl rfl (by decide) ?_
      refine g_iload (pc' := 415) C at_413 rfl rfl ?_
      refine g_ifN (xi := 0) (pc2 := 418) C at_415 rfl rfl (by decide) ?_
      refine g_iload (pc' := 420) C at_418 rfl rfl ?_
      refine g_ifN (xi := 1) (pc2 := 423) C at_420 rfl rfl (by decide) ?_
      refine g_aload (pc' := 425) C at_423 rfl rfl rfl ?_
      refine g_iconst (pc' := 426) (z := (1 : Int32)) C at_425 rfl rfl ?_
      refine g_aaload (pc' := 427) (i := 1) C at_426 rfl Aa4 rfl rfl ?_
      refine g_staticP (y := (⟨"com/example/slot512/slot512/LinkUnlinkPinLaw", "detached", "(Lcom/example/slot512/slot512/Link;)Z"⟩ : MethodName)) (pc' := 430) (k' := 7) (n' := 18) (S := []) (as := [(.ref a6)]) C at_427 rfl (hw _ (List.mem_of_getElem? (i := 31) rfl)) (hw _ (List.mem_of_getElem? (i := 32) rfl)) (hw _ (List.mem_of_getElem? (i := 27) rfl)) (hw _ (List.mem_of_getElem? (i := 33) rfl)) (by decide) (lenOf pd_3 rfl) (con_det W.l Z a0 hw a6 h50 Oa6) rfl rfl (Nat.le_of_ble_eq_true rfl) (Nat.le_of_ble_eq_true rfl) rfl rfl (Nat.le_of_ble_eq_true rfl) (Nat.le_of_ble_eq_true rfl) (S1 := [(.int (1 : Int32))]) rfl ?_
      refine g_ifN (xi := 1) (pc2 := 433) C at_430 rfl rfl (by decide) ?_
      refine g_iconst (pc' := 434) (z := (1 : Int32)) C at_433 rfl rfl ?_
      refine g_goto C at_434 (by decide) (pc' := 438) rfl ?_
      refine g_istore (pc' := 440) (L' := #[.val (.int p0), .val (.int p1), .val (.int p2), .val (.int (1 : Int32)), .val (.int (3 : Int32)), .val (.int z3), .val (.ref r0), .val (.ref a4), .val (.ref a8), .val (.ref a16), .val (.int (2 : Int32)), .val (.int (1 : Int32)), .val (.int (0 : Int32)), .val (.int (0 : Int32)), .val (.int (1 : Int32))]) C at_438 rfl rfl ?_
      refine g_iload (pc' := 442) C at_440 rfl rfl ?_
      refine g_ifN (xi := 0) (pc2 := 445) C at_442 rfl rfl (by decide) ?_
      refine g_iload (pc' := 447) C at_445 rfl rfl ?_
      refine g_ifN (xi := 1) (pc2 := 450) C at_447 rfl rfl (by decide) ?_
      refine g_aload (pc' := 452) C at_450 rfl rfl rfl ?_
      refine g_iconst (pc' := 453) (z := (2 : Int32)) C at_452 rfl rfl ?_
      refine g_aaload (pc' := 454) (i := 2) C at_453 rfl Aa4 rfl rfl ?_
      refine g_staticP (y := (⟨"com/example/slot512/slot512/LinkUnlinkPinLaw", "detached", "(Lcom/example/slot512/slot512/Link;)Z"⟩ : MethodName)) (pc' := 457) (k' := 7) (n' := 18) (S := []) (as := [(.ref a7)]) C at_454 rfl (hw _ (List.mem_of_getElem? (i := 31) rfl)) (hw _ (List.mem_of_getElem? (i := 32) rfl)) (hw _ (List.mem_of_getElem? (i := 27) rfl)) (hw _ (List.mem_of_getElem? (i := 33) rfl)) (by decide) (lenOf pd_3 rfl) (con_det W.l Z a0 hw a7 h50 Oa7) rfl rfl (Nat.le_of_ble_eq_true rfl) (Nat.le_of_ble_eq_true rfl) rfl rfl (Nat.le_of_ble_eq_true rfl) (Nat.le_of_ble_eq_true rfl) (S1 := [(.int (1 : Int32))]) rfl ?_
      refine g_ifN (xi := 1) (pc2 := 460) C at_457 rfl rfl (by decide) ?_
      refine g_iconst (pc' := 461) (z := (1 : Int32)) C at_460 rfl rfl ?_
      refine g_goto C at_461 (by decide) (pc' := 465) rfl ?_
      refine g_istore (pc' := 467) (L' := #[.val (.int p0), .val (.int p1), .val (.int p2), .val (.int (1 : Int32)), .val (.int (3 : Int32)), .val (.int z3), .val (.ref r0), .val (.ref a4), .val (.ref a8), .val (.ref a16), .val (.int (2 : Int32)), .val (.int (1 : Int32)), .val (.int (0 : Int32)), .val (.int (0 : Int32)), .val (.int (1 : Int32))]) C at_465 rfl rfl ?_
      refine g_iload (pc' := 469) C at_467 rfl rfl ?_
      refine g_ifN (xi := 1) (pc2 := 472) C at_469 rfl rfl (by decide) ?_
      refine g_aload (pc' := 474) C at_472 rfl rfl rfl ?_
      refine g_iconst (pc' := 475) (z := (3 : Int32)) C at_474 rfl rfl ?_
      refine g_aaload (pc' := 476) (i := 3) C at_475 rfl Aa4 rfl rfl ?_
      refine g_staticP (y := (⟨"com/example/slot512/slot512/LinkUnlinkPinLaw", "detached", "(Lcom/example/slot512/slot512/Link;)Z"⟩ : MethodName)) (pc' := 479) (k' := 7) (n' := 18) (S := []) (as := [(.ref a8)]) C at_476 rfl (hw _ (List.mem_of_getElem? (i := 31) rfl)) (hw _ (List.mem_of_getElem? (i := 32) rfl)) (hw _ (List.mem_of_getElem? (i := 27) rfl)) (hw _ (List.mem_of_getElem? (i := 33) rfl)) (by decide) (lenOf pd_3 rfl) (con_det W.l Z a0 hw a8 h50 Oa8) rfl rfl (Nat.le_of_ble_eq_true rfl) (Nat.le_of_ble_eq_true rfl) rfl rfl (Nat.le_of_ble_eq_true rfl) (Nat.le_of_ble_eq_true rfl) (S1 := [(.int (1 : Int32))]) rfl ?_
      refine g_ifN (xi := 1) (pc2 := 482) C at_479 rfl rfl (by decide) ?_
      refine g_iconst (pc' := 483) (z := (1 : Int32)) C at_482 rfl rfl ?_
      refine g_goto C at_483 (by decide) (pc' := 487) rfl ?_
      refine g_istore (pc' := 489) (L' := #[.val (.int p0), .val (.int p1), .val (.int p2), .val (.int (1 : Int32)), .val (.int (3 : Int32)), .val (.int z3), .val (.ref r0), .val (.ref a4), .val (.ref a8), .val (.ref a16), .val (.int (2 : Int32)), .val (.int (1 : Int32)), .val (.int (0 : Int32)), .val (.int (0 : Int32)), .val (.int (1 : Int32))]) C at_487 rfl rfl ?_
      refine g_iload (pc' := 491) C at_489 rfl rfl ?_
      refine g_retN C (by simp) at_491 (by decide) (by decide) ?_
      subst hQ
      rfl
  ·
    refine g_iloadN (pc' := 78) C at_77 rfl rfl ?_
    refine g_ifN (xi := 2) (pc2 := 81) C at_78 rfl rfl (by decide) ?_
    refine g_aload (pc' := 83) C at_81 rfl rfl rfl ?_
    refine g_iconst (pc' := 84) (z := (0 : Int32)) C at_83 rfl rfl ?_
    refine g_aaload (pc' := 85) (i := 0) C at_84 rfl Aa4 rfl rfl ?_
    refine g_aload (pc' := 87) C at_85 rfl rfl rfl ?_
    refine g_virtual (y := (⟨"com/example/slot512/slot512/Link", "linkAtEndOf", "(Lcom/example/slot512/slot512/Link;)V"⟩ : MethodName)) (a := a5) (pc' := 90) (k' := 6) (n' := 14) (S := []) (as := [(.ref r0)]) C at_87 rfl (hw _ (List.mem_of_getElem? (i := 34) rfl)) (hw _ (List.mem_of_getElem? (i := 36) rfl)) (hw _ (List.mem_of_getElem? (i := 2) rfl)) (hw _ (List.mem_of_getElem? (i := 38) rfl)) (hw _ (List.mem_of_getElem? (i := 35) rfl)) (hw _ (List.mem_of_getElem? (i := 37) rfl)) (by decide) Oa5.1 (lenOf pd_4 rfl) (con_link0 W.l Z a0 hw a5 r0 .null .null (.ref r0) (Ne.symm n_r0_a5) h14 Oa5 Or0) rfl rfl (Nat.le_of_ble_eq_true rfl) (Nat.le_of_ble_eq_true rfl) rfl rfl (Nat.le_of_ble_eq_true rfl) (Nat.le_of_ble_eq_true rfl) (allS w_a5 (allS w_r0 all0)) fun vh51 h51 qh51 Kh51 => ?_
    obtain ⟨rfl, Oa5, Or0⟩ := qh51
    replace Oa6 := Oa6.keep Kh51 (ninS (Ne.symm n_a5_a6) (ninS (Ne.symm n_r0_a6) nin0))
    replace Oa7 := Oa7.keep Kh51 (ninS (Ne.symm n_a5_a7) (ninS (Ne.symm n_r0_a7) nin0))
    replace Oa8 := Oa8.keep Kh51 (ninS (Ne.symm n_a5_a8) (ninS (Ne.symm n_r0_a8) nin0))
    replace Aa4 := Aa4.keep Kh51 (ninS n_a4_a5 (ninS (Ne.symm n_r0_a4) nin0))
    show Go W Q h51 6 14 90 #[.val (.int p0), .val (.int p1), .val (.int p2), .val (.int (2 : Int32)), .val (.int i2), .val (.int z3), .val (.ref r0), .val (.ref a4), .unset, .unset, .unset, .unset, .unset, .unset, .unset] []
    refine g_iloadN (pc' := 91) C at_90 rfl rfl ?_
    refine g_iconst (pc' := 92) (z := (1 : Int32)) C at_91 rfl rfl ?_
    refine g_icmpN (xi := 2) (yi := 1) (pc2 := 95) C at_92 rfl rfl rfl (by decide) ?_
    refine g_aload (pc' := 97) C at_95 rfl rfl rfl ?_
    refine g_iconst (pc' := 98) (z := (1 : Int32)) C at_97 rfl rfl ?_
    refine g_aaload (pc' := 99) (i := 1) C at_98 rfl Aa4 rfl rfl ?_
    refine g_aload (pc' := 101) C at_99 rfl rfl rfl ?_
    refine g_virtual (y := (⟨"com/example/slot512/slot512/Link", "linkAtEndOf", "(Lcom/example/slot512/slot512/Link;)V"⟩ : MethodName)) (a := a6) (pc' := 104) (k' := 6) (n' := 14) (S := []) (as := [(.ref r0)]) C at_101 rfl (hw _ (List.mem_of_getElem? (i := 34) rfl)) (hw _ (List.mem_of_getElem? (i := 36) rfl)) (hw _ (List.mem_of_getElem? (i := 2) rfl)) (hw _ (List.mem_of_getElem? (i := 38) rfl)) (hw _ (List.mem_of_getElem? (i := 35) rfl)) (hw _ (List.mem_of_getElem? (i := 37) rfl)) (by decide) Oa6.1 (lenOf pd_4 rfl) (con_link1 W.l Z a0 hw a6 r0 a5 .null .null (.ref a5) (.ref r0) (.ref r0) (Ne.symm n_r0_a6) (Ne.symm n_a5_a6) (Ne.symm n_r0_a5) h51 Oa6 Or0 Oa5) rfl rfl (Nat.le_of_ble_eq_true rfl) (Nat.le_of_ble_eq_true rfl) rfl rfl (Nat.le_of_ble_eq_true rfl) (Nat.le_of_ble_eq_true rfl) (allS w_a6 (allS w_r0 (allS w_a5 all0))) fun vh52 h52 qh52 Kh52 => ?_
    obtain ⟨rfl, Oa6, Or0, Oa5⟩ := qh52
    replace Oa7 := Oa7.keep Kh52 (ninS (Ne.symm n_a6_a7) (ninS (Ne.symm n_r0_a7) (ninS (Ne.symm n_a5_a7) nin0)))
    replace Oa8 := Oa8.keep Kh52 (ninS (Ne.symm n_a6_a8) (ninS (Ne.symm n_r0_a8) (ninS (Ne.symm n_a5_a8) nin0)))
    replace Aa4 := Aa4.keep Kh52 (ninS n_a4_a6 (ninS (Ne.symm n_r0_a4) (ninS n_a4_a5 nin0)))
    show Go W Q h52 6 14 104 #[.val (.int p0), .val (.int p1), .val (.int p2), .val (.int (2 : Int32)), .val (.int i2), .val (.int z3), .val (.ref r0), .val (.ref a4), .unset, .unset, .unset, .unset, .unset, .unset, .unset] []
    refine g_iloadN (pc' := 105) C at_104 rfl rfl ?_
    refine g_iconst (pc' := 106) (z := (2 : Int32)) C at_105 rfl rfl ?_
    refine g_icmpY (xi := 2) (yi := 2) (pc1 := 118) C at_106 (by decide) rfl rfl rfl (by decide) ?_
    have sp_i2 : i2 = 0 ∨ i2 = 1 ∨ i2 = 2 ∨ i2 = 3 := by
      have y1 := c_mask p1 3 2 (by decide) (by decide)
      rw [← e_i2] at y1
      have z0 : (0 : Int32).toInt = 0 := rfl
      have z1 : (1 : Int32).toInt = 1 := rfl
      have z2 : (2 : Int32).toInt = 2 := rfl
      have z3 : (3 : Int32).toInt = 3 := rfl
      rcases (by omega : i2.toInt = 0 ∨ i2.toInt = 1 ∨ i2.toInt = 2 ∨ i2.toInt = 3) with y | y | y | y
      · exact Or.inl (Int32.toInt_inj.mp (by omega))
      · exact Or.inr (Or.inl (Int32.toInt_inj.mp (by omega)))
      · exact Or.inr (Or.inr (Or.inl (Int32.toInt_inj.mp (by omega))))
      · exact Or.inr (Or.inr (Or.inr (Int32.toInt_inj.mp (by omega))))
    clear e_i2
    rcases sp_i2 with sp_i2 | sp_i2 | sp_i2 | sp_i2 <;> subst sp_i2
    ·
      refine g_aload (pc' := 120) C at_118 rfl rfl rfl ?_
      refine g_iload (pc' := 122) C at_120 rfl rfl ?_
      refine g_aaload (pc' := 123) (i := 0) C at_122 rfl Aa4 rfl rfl ?_
      refine g_astore (pc' := 125) (L' := #[.val (.int p0), .val (.int p1), .val (.int p2), .val (.int (2 : Int32)), .val (.int (0 : Int32)), .val (.int z3), .val (.ref r0), .val (.ref a4), .val (.ref a5), .unset, .unset, .unset, .unset, .unset, .unset]) C at_123 rfl rfl rfl ?_
      refine g_aload (pc' := 127) C at_125 rfl rfl rfl ?_
      refine g_virtual (y := (⟨"com/example/slot512/slot512/Link", "unlink", "()V"⟩ : MethodName)) (a := a5) (pc' := 130) (k' := 6) (n' := 14) (S := []) (as := []) C at_127 rfl (hw _ (List.mem_of_getElem? (i := 20) rfl)) (hw _ (List.mem_of_getElem? (i := 22) rfl)) (hw _ (List.mem_of_getElem? (i := 2) rfl)) (hw _ (List.mem_of_getElem? (i := 24) rfl)) (hw _ (List.mem_of_getElem? (i := 21) rfl)) (hw _ (List.mem_of_getElem? (i := 23) rfl)) (by decide) Oa5.1 (lenOf pd_0 rfl) (con_un2 W.l Z a0 hw a5 r0 a6 (.ref a6) (.ref a5) (.ref a5) (.ref r0) (Ne.symm n_r0_a5) n_a5_a6 n_r0_a6 h52 Oa5 Or0 Oa6) rfl rfl (Nat.le_of_ble_eq_true rfl) (Nat.le_of_ble_eq_true rfl) rfl rfl (Nat.le_of_ble_eq_true rfl) (Nat.le_of_ble_eq_true rfl) (allS w_a5 (allS w_r0 (allS w_a6 all0))) fun vh53 h53 qh53 Kh53 => ?_
      obtain ⟨rfl, Oa5, Or0, Oa6⟩ := qh53
      replace Oa7 := Oa7.keep Kh53 (ninS (Ne.symm n_a5_a7) (ninS (Ne.symm n_r0_a7) (ninS (Ne.symm n_a6_a7) nin0)))
      replace Oa8 := Oa8.keep Kh53 (ninS (Ne.symm n_a5_a8) (ninS (Ne.symm n_r0_a8) (ninS (Ne.symm n_a6_a8) nin0)))
      replace Aa4 := Aa4.keep Kh53 (ninS n_a4_a5 (ninS (Ne.symm n_r0_a4) (ninS n_a4_a6 nin0)))
      show Go W Q h53 6 14 130 #[.val (.int p0), .val (.int p1), .val (.int p2), .val (.int (2 : Int32)), .val (.int (0 : Int32)), .val (.int z3), .val (.ref r0), .val (.ref a4), .val (.ref a5), .unset, .unset, .unset, .unset, .unset, .unset] []
      refine g_iload (pc' := 132) C at_130 rfl rfl ?_
      suffices K_132 : Go W Q h53 6 14 140 #[.val (.int p0), .val (.int p1), .val (.int p2), .val (.int (2 : Int32)), .val (.int (0 : Int32)), .val (.int z3), .val (.ref r0), .val (.ref a4), .val (.ref a5), .unset, .unset, .unset, .unset, .unset, .unset] [] by
        refine g_ifeqb (pc1 := 140) (pc2 := 135) C at_132 (by decide) rfl rfl e_z3 (fun (c132 : ¬ (¬ ((p2 &&& (1 : Int32)).toInt = 0))) => ?_) (fun (c132 : ¬ ((p2 &&& (1 : Int32)).toInt = 0)) => ?_)
        ·
          replace c132 : (p2 &&& (1 : Int32)).toInt = 0 := Decidable.not_not.mp c132
          exact K_132
        ·
          refine g_aload (pc' := 137) C at_135 rfl rfl rfl ?_
          refine g_virtual (y := (⟨"com/example/slot512/slot512/Link", "unlink", "()V"⟩ : MethodName)) (a := a5) (pc' := 140) (k' := 6) (n' := 14) (S := []) (as := []) C at_137 rfl (hw _ (List.mem_of_getElem? (i := 20) rfl)) (hw _ (List.mem_of_getElem? (i := 22) rfl)) (hw _ (List.mem_of_getElem? (i := 2) rfl)) (hw _ (List.mem_of_getElem? (i := 24) rfl)) (hw _ (List.mem_of_getElem? (i := 21) rfl)) (hw _ (List.mem_of_getElem? (i := 23) rfl)) (by decide) Oa5.1 (lenOf pd_0 rfl) (con_un0 W.l Z a0 hw a5 .null h53 Oa5) rfl rfl (Nat.le_of_ble_eq_true rfl) (Nat.le_of_ble_eq_true rfl) rfl rfl (Nat.le_of_ble_eq_true rfl) (Nat.le_of_ble_eq_true rfl) all0 fun vh54 h54 qh54 Kh54 => ?_
          obtain ⟨rfl, eh⟩ := qh54
          subst eh
          show Go W Q h53 6 14 140 #[.val (.int p0), .val (.int p1), .val (.int p2), .val (.int (2 : Int32)), .val (.int (0 : Int32)), .val (.int z3), .val (.ref r0), .val (.ref a4), .val (.ref a5), .unset, .unset, .unset, .unset, .unset, .unset] []
          exact K_132
      refine g_iconst (pc' := 141) (z := (4 : Int32)) C at_140 rfl rfl ?_
      refine g_anewarray (pc' := 144) (len := 4) (cap := 4) (k' := 7) (n' := 18) C at_141 rfl (hw _ (List.mem_of_getElem? (i := 16) rfl)) (hw _ (List.mem_of_getElem? (i := 17) rfl)) rfl (by decide) (by decide) rfl rfl (by decide) (by decide) fun h55 a17 e_a17 Eh55 Aa17 w_a17 => ?_
      have n_r0_a17 : r0 ≠ a17 := by rw [e_a17]; exact Nat.ne_of_lt Or0.lt
      have n_a5_a17 : a5 ≠ a17 := by rw [e_a17]; exact Nat.ne_of_lt Oa5.lt
      have n_a6_a17 : a6 ≠ a17 := by rw [e_a17]; exact Nat.ne_of_lt Oa6.lt
      have n_a7_a17 : a7 ≠ a17 := by rw [e_a17]; exact Nat.ne_of_lt Oa7.lt
      have n_a8_a17 : a8 ≠ a17 := by rw [e_a17]; exact Nat.ne_of_lt Oa8.lt
      have n_a4_a17 : a4 ≠ a17 := by rw [e_a17]; exact Nat.ne_of_lt Aa4.lt
      replace Or0 := Or0.ext Eh55
      replace Oa5 := Oa5.ext Eh55
      replace Oa6 := Oa6.ext Eh55
      replace Oa7 := Oa7.ext Eh55
      replace Oa8 := Oa8.ext Eh55
      replace Aa4 := Aa4.ext Eh55
      replace Aa17 : ArR Z h55 a17 "com/example/slot512/slot512/Link" [.null, .null, .null, .null] := Aa17
      refine g_astore (pc' := 146) (L' := #[.val (.int p0), .val (.int p1), .val (.int p2), .val (.int (2 : Int32)), .val (.int (0 : Int32)), .val (.int z3), .val (.ref r0), .val (.ref a4), .val (.ref a5), .val (.ref a17), .unset, .unset, .unset, .unset, .unset]) C at_144 rfl rfl rfl ?_
      refine g_aload (pc' := 148) C at_146 rfl rfl rfl ?_
      refine g_iconst (pc' := 149) (z := (0 : Int32)) C at_148 rfl rfl ?_
      refine g_aload (pc' := 151) C at_149 rfl rfl rfl ?_
      refine g_aastore (pc' := 152) (i := 0) (vs' := [(.ref r0), .null, .null, .null]) C at_151 rfl Aa17 rfl (Nat.le_of_ble_eq_true rfl) rfl (Or.inr ⟨_, rfl, Or0.1⟩) w_a17 fun h56 Aa17 Kh56 => ?_
      replace Or0 := Or0.keep Kh56 (ninS n_r0_a17 nin0)
      replace Oa5 := Oa5.keep Kh56 (ninS n_a5_a17 nin0)
      replace Oa6 := Oa6.keep Kh56 (ninS n_a6_a17 nin0)
      replace Oa7 := Oa7.keep Kh56 (ninS n_a7_a17 nin0)
      replace Oa8 := Oa8.keep Kh56 (ninS n_a8_a17 nin0)
      replace Aa4 := Aa4.keep Kh56 (ninS n_a4_a17 nin0)
      refine g_iconst (pc' := 153) (z := (1 : Int32)) C at_152 rfl rfl ?_
      refine g_istore (pc' := 155) (L' := #[.val (.int p0), .val (.int p1), .val (.int p2), .val (.int (2 : Int32)), .val (.int (0 : Int32)), .val (.int z3), .val (.ref r0), .val (.ref a4), .val (.ref a5), .val (.ref a17), .val (.int (1 : Int32)), .unset, .unset, .unset, .unset]) C at_153 rfl rfl ?_
      refine g_iconst (pc' := 156) (z := (0 : Int32)) C at_155 rfl rfl ?_
      refine g_iloadN (pc' := 157) C at_156 rfl rfl ?_
      refine g_icmpN (xi := 0) (yi := 2) (pc2 := 160) C at_157 rfl rfl rfl (by decide) ?_
      refine g_iload (pc' := 162) C at_160 rfl rfl ?_
      refine g_ifY (xi := 0) (pc1 := 169) C at_162 (by decide) rfl rfl (by decide) ?_
      refine g_iconst (pc' := 170) (z := (0 : Int32)) C at_169 rfl rfl ?_
      refine g_istore (pc' := 172) (L' := #[.val (.int p0), .val (.int p1), .val (.int p2), .val (.int (2 : Int32)), .val (.int (0 : Int32)), .val (.int z3), .val (.ref r0), .val (.ref a4), .val (.ref a5), .val (.ref a17), .val (.int (1 : Int32)), .val (.int (0 : Int32)), .unset, .unset, .unset]) C at_170 rfl rfl ?_
      refine g_iconst (pc' := 173) (z := (1 : Int32)) C at_172 rfl rfl ?_
      refine g_iloadN (pc' := 174) C at_173 rfl rfl ?_
      refine g_icmpN (xi := 1) (yi := 2) (pc2 := 177) C at_174 rfl rfl rfl (by decide) ?_
      refine g_iload (pc' := 179) C at_177 rfl rfl ?_
      refine g_iconst (pc' := 180) (z := (1 : Int32)) C at_179 rfl rfl ?_
      refine g_icmpN (xi := 0) (yi := 1) (pc2 := 183) C at_180 rfl rfl rfl (by decide) ?_
      refine g_iconst (pc' := 184) (z := (1 : Int32)) C at_183 rfl rfl ?_
      refine g_goto C at_184 (by decide) (pc' := 188) rfl ?_
      refine g_istore (pc' := 190) (L' := #[.val (.int p0), .val (.int p1), .val (.int p2), .val (.int (2 : Int32)), .val (.int (0 : Int32)), .val (.int z3), .val (.ref r0), .val (.ref a4), .val (.ref a5), .val (.ref a17), .val (.int (1 : Int32)), .val (.int (0 : Int32)), .val (.int (1 : Int32)), .unset, .unset]) C at_188 rfl rfl ?_
      refine g_iconst (pc' := 191) (z := (2 : Int32)) C at_190 rfl rfl ?_
      refine g_iloadN (pc' := 192) C at_191 rfl rfl ?_
      refine g_icmpY (xi := 2) (yi := 2) (pc1 := 205) C at_192 (by decide) rfl rfl rfl (by decide) ?_
      refine g_iconst (pc' := 206) (z := (0 : Int32)) C at_205 rfl rfl ?_
      refine g_istore (pc' := 208) (L' := #[.val (.int p0), .val (.int p1), .val (.int p2), .val (.int (2 : Int32)), .val (.int (0 : Int32)), .val (.int z3), .val (.ref r0), .val (.ref a4), .val (.ref a5), .val (.ref a17), .val (.int (1 : Int32)), .val (.int (0 : Int32)), .val (.int (1 : Int32)), .val (.int (0 : Int32)), .unset]) C at_206 rfl rfl ?_
      refine g_iload (pc' := 210) C at_208 rfl rfl ?_
      refine g_ifY (xi := 0) (pc1 := 228) C at_210 (by decide) rfl rfl (by decide) ?_
      refine g_iload (pc' := 230) C at_228 rfl rfl ?_
      refine g_ifN (xi := 1) (pc2 := 233) C at_230 rfl rfl (by decide) ?_
      refine g_aload (pc' := 235) C at_233 rfl rfl rfl ?_
      refine g_iload (pc' := 237) C at_235 rfl rfl ?_
      refine g_aload (pc' := 239) C at_237 rfl rfl rfl ?_
      refine g_iconst (pc' := 240) (z := (1 : Int32)) C at_239 rfl rfl ?_
      refine g_aaload (pc' := 241) (i := 1) C at_240 rfl Aa4 rfl rfl ?_
      refine g_aastore (pc' := 242) (i := 1) (vs' := [(.ref r0), (.ref a6), .null, .null]) C at_241 rfl Aa17 rfl (Nat.le_of_ble_eq_true rfl) rfl (Or.inr ⟨_, rfl, Oa6.1⟩) w_a17 fun h57 Aa17 Kh57 => ?_
      replace Or0 := Or0.keep Kh57 (ninS n_r0_a17 nin0)
      replace Oa5 := Oa5.keep Kh57 (ninS n_a5_a17 nin0)
      replace Oa6 := Oa6.keep Kh57 (ninS n_a6_a17 nin0)
      replace Oa7 := Oa7.keep Kh57 (ninS n_a7_a17 nin0)
      replace Oa8 := Oa8.keep Kh57 (ninS n_a8_a17 nin0)
      replace Aa4 := Aa4.keep Kh57 (ninS n_a4_a17 nin0)
      refine g_iload (pc' := 244) C at_242 rfl rfl ?_
      refine g_iconst (pc' := 245) (z := (1 : Int32)) C at_244 rfl rfl ?_
      refine g_iadd (pc' := 246) C at_245 rfl ?_
      show Go W Q h57 7 18 246 #[.val (.int p0), .val (.int p1), .val (.int p2), .val (.int (2 : Int32)), .val (.int (0 : Int32)), .val (.int z3), .val (.ref r0), .val (.ref a4), .val (.ref a5), .val (.ref a17), .val (.int (1 : Int32)), .val (.int (0 : Int32)), .val (.int (1 : Int32)), .val (.int (0 : Int32)), .unset] [(.int (2 : Int32))]
      refine g_istore (pc' := 248) (L' := #[.val (.int p0), .val (.int p1), .val (.int p2), .val (.int (2 : Int32)), .val (.int (0 : Int32)), .val (.int z3), .val (.ref r0), .val (.ref a4), .val (.ref a5), .val (.ref a17), .val (.int (2 : Int32)), .val (.int (0 : Int32)), .val (.int (1 : Int32)), .val (.int (0 : Int32)), .unset]) C at_246 rfl rfl ?_
      refine g_iload (pc' := 250) C at_248 rfl rfl ?_
      refine g_ifY (xi := 0) (pc1 := 268) C at_250 (by decide) rfl rfl (by decide) ?_
      refine g_aload (pc' := 270) C at_268 rfl rfl rfl ?_
      refine g_iconst (pc' := 271) (z := (0 : Int32)) C at_270 rfl rfl ?_
      refine g_aaload (pc' := 272) (i := 0) C at_271 rfl Aa17 rfl rfl ?_
      refine g_aload (pc' := 274) C at_272 rfl rfl rfl ?_
      refine g_iconst (pc' := 275) (z := (1 : Int32)) C at_274 rfl rfl ?_
      refine g_iload (pc' := 277) C at_275 rfl rfl ?_
      refine g_irem (pc' := 278) C at_277 rfl (by decide) ?_
      show Go W Q h57 7 18 278 #[.val (.int p0), .val (.int p1), .val (.int p2), .val (.int (2 : Int32)), .val (.int (0 : Int32)), .val (.int z3), .val (.ref r0), .val (.ref a4), .val (.ref a5), .val (.ref a17), .val (.int (2 : Int32)), .val (.int (0 : Int32)), .val (.int (1 : Int32)), .val (.int (0 : Int32)), .unset] [(.int (1 : Int32)), (.ref a17), (.ref r0)]
      refine g_aaload (pc' := 279) (i := 1) C at_278 rfl Aa17 rfl rfl ?_
      refine g_staticP (y := (⟨"com/example/slot512/slot512/LinkUnlinkPinLaw", "joined", "(Lcom/example/slot512/slot512/Link;Lcom/example/slot512/slot512/Link;)Z"⟩ : MethodName)) (pc' := 282) (k' := 7) (n' := 18) (S := []) (as := [(.ref r0), (.ref a6)]) C at_279 rfl (hw _ (List.mem_of_getElem? (i := 25) rfl)) (hw _ (List.mem_of_getElem? (i := 26) rfl)) (hw _ (List.mem_of_getElem? (i := 27) rfl)) (hw _ (List.mem_of_getElem? (i := 28) rfl)) (by decide) (lenOf pd_2 rfl) (con_joined W.l Z a0 hw r0 a6 (.ref a6) (.ref r0) h57 Or0 Oa6) rfl rfl (Nat.le_of_ble_eq_true rfl) (Nat.le_of_ble_eq_true rfl) rfl rfl (Nat.le_of_ble_eq_true rfl) (Nat.le_of_ble_eq_true rfl) (S1 := [(.int (1 : Int32))]) rfl ?_
      refine g_istore (pc' := 284) (L' := #[.val (.int p0), .val (.int p1), .val (.int p2), .val (.int (2 : Int32)), .val (.int (0 : Int32)), .val (.int z3), .val (.ref r0), .val (.ref a4), .val (.ref a5), .val (.ref a17), .val (.int (2 : Int32)), .val (.int (0 : Int32)), .val (.int (1 : Int32)), .val (.int (0 : Int32)), .val (.int (1 : Int32))]) C at_282 rfl rfl ?_
      refine g_iload (pc' := 286) C at_284 rfl rfl ?_
      refine g_iconst (pc' := 287) (z := (1 : Int32)) C at_286 rfl rfl ?_
      refine g_icmpN (xi := 2) (yi := 1) (pc2 := 290) C at_287 rfl rfl rfl (by decide) ?_
      refine g_iload (pc' := 292) C at_290 rfl rfl ?_
      refine g_ifN (xi := 1) (pc2 := 295) C at_292 rfl rfl (by decide) ?_
      refine g_aload (pc' := 297) C at_295 rfl rfl rfl ?_
      refine g_iconst (pc' := 298) (z := (1 : Int32)) C at_297 rfl rfl ?_
      refine g_aaload (pc' := 299) (i := 1) C at_298 rfl Aa17 rfl rfl ?_
      refine g_aload (pc' := 301) C at_299 rfl rfl rfl ?_
      refine g_iconst (pc' := 302) (z := (2 : Int32)) C at_301 rfl rfl ?_
      refine g_iload (pc' := 304) C at_302 rfl rfl ?_
      refine g_irem (pc' := 305) C at_304 rfl (by decide) ?_
      show Go W Q h57 7 18 305 #[.val (.int p0), .val (.int p1), .val (.int p2), .val (.int (2 : Int32)), .val (.int (0 : Int32)), .val (.int z3), .val (.ref r0), .val (.ref a4), .val (.ref a5), .val (.ref a17), .val (.int (2 : Int32)), .val (.int (0 : Int32)), .val (.int (1 : Int32)), .val (.int (0 : Int32)), .val (.int (1 : Int32))] [(.int (0 : Int32)), (.ref a17), (.ref a6)]
      refine g_aaload (pc' := 306) (i := 0) C at_305 rfl Aa17 rfl rfl ?_
      refine g_staticP (y := (⟨"com/example/slot512/slot512/LinkUnlinkPinLaw", "joined", "(Lcom/example/slot512/slot512/Link;Lcom/example/slot512/slot512/Link;)Z"⟩ : MethodName)) (pc' := 309) (k' := 7) (n' := 18) (S := []) (as := [(.ref a6), (.ref r0)]) C at_306 rfl (hw _ (List.mem_of_getElem? (i := 25) rfl)) (hw _ (List.mem_of_getElem? (i := 26) rfl)) (hw _ (List.mem_of_getElem? (i := 27) rfl)) (hw _ (List.mem_of_getElem? (i := 28) rfl)) (by decide) (lenOf pd_2 rfl) (con_joined W.l Z a0 hw a6 r0 (.ref r0) (.ref a6) h57 Oa6 Or0) rfl rfl (Nat.le_of_ble_eq_true rfl) (Nat.le_of_ble_eq_true rfl) rfl rfl (Nat.le_of_ble_eq_true rfl) (Nat.le_of_ble_eq_true rfl) (S1 := [(.int (1 : Int32))]) rfl ?_
      refine g_ifN (xi := 1) (pc2 := 312) C at_309 rfl rfl (by decide) ?_
      refine g_iconst (pc' := 313) (z := (1 : Int32)) C at_312 rfl rfl ?_
      refine g_goto C at_313 (by decide) (pc' := 317) rfl ?_
      refine g_istore (pc' := 319) (L' := #[.val (.int p0), .val (.int p1), .val (.int p2), .val (.int (2 : Int32)), .val (.int (0 : Int32)), .val (.int z3), .val (.ref r0), .val (.ref a4), .val (.ref a5), .val (.ref a17), .val (.int (2 : Int32)), .val (.int (0 : Int32)), .val (.int (1 : Int32)), .val (.int (0 : Int32)), .val (.int (1 : Int32))]) C at_317 rfl rfl ?_
      refine g_iload (pc' := 321) C at_319 rfl rfl ?_
      refine g_iconst (pc' := 322) (z := (2 : Int32)) C at_321 rfl rfl ?_
      refine g_icmpY (xi := 2) (yi := 2) (pc1 := 354) C at_322 (by decide) rfl rfl rfl (by decide) ?_
      refine g_iload (pc' := 356) C at_354 rfl rfl ?_
      refine g_iconst (pc' := 357) (z := (3 : Int32)) C at_356 rfl rfl ?_
      refine g_icmpY (xi := 2) (yi := 3) (pc1 := 386) C at_357 (by decide) rfl rfl rfl (by decide) ?_
      refine g_iload (pc' := 388) C at_386 rfl rfl ?_
      refine g_ifN (xi := 0) (pc2 := 391) C at_388 rfl rfl (by decide) ?_
      refine g_iload (pc' := 393) C at_391 rfl rfl ?_
      refine g_ifN (xi := 1) (pc2 := 396) C at_393 rfl rfl (by decide) ?_
      refine g_aload (pc' := 398) C at_396 rfl rfl rfl ?_
      refine g_iconst (pc' := 399) (z := (0 : Int32)) C at_398 rfl rfl ?_
      refine g_aaload (pc' := 400) (i := 0) C at_399 rfl Aa4 rfl rfl ?_
      refine g_staticP (y := (⟨"com/example/slot512/slot512/LinkUnlinkPinLaw", "detached", "(Lcom/example/slot512/slot512/Link;)Z"⟩ : MethodName)) (pc' := 403) (k' := 7) (n' := 18) (S := []) (as := [(.ref a5)]) C at_400 rfl (hw _ (List.mem_of_getElem? (i := 31) rfl)) (hw _ (List.mem_of_getElem? (i := 32) rfl)) (hw _ (List.mem_of_getElem? (i := 27) rfl)) (hw _ (List.mem_of_getElem? (i := 33) rfl)) (by decide) (lenOf pd_3 rfl) (con_det W.l Z a0 hw a5 h57 Oa5) rfl rfl (Nat.le_of_ble_eq_true rfl) (Nat.le_of_ble_eq_true rfl) rfl rfl (Nat.le_of_ble_eq_true rfl) (Nat.le_of_ble_eq_true rfl) (S1 := [(.int (1 : Int32))]) rfl ?_
      refine g_ifN (xi := 1) (pc2 := 406) C at_403 rfl rfl (by decide) ?_
      refine g_iconst (pc' := 407) (z := (1 : Int32)) C at_406 rfl rfl ?_
      refine g_goto C at_407 (by decide) (pc' := 411) rfl ?_
      refine g_istore (pc' := 413) (L' := #[.val (.int p0), .val (.int p1), .val (.int p2), .val (.int (2 : Int32)), .val (.int (0 : Int32)), .val (.int z3), .val (.ref r0), .val (.ref a4), .val (.ref a5), .val (.ref a17), .val (.int (2 : Int32)), .val (.int (0 : Int32)), .val (.int (1 : Int32)), .val (.int (0 : Int32)), .val (.int (1 : Int32))]) C at_411 rfl rfl ?_
      refine g_iload (pc' := 415) C at_413 rfl rfl ?_
      refine g_ifY (xi := 1) (pc1 := 440) C at_415 (by decide) rfl rfl (by decide) ?_
      refine g_iload (pc' := 442) C at_440 rfl rfl ?_
      refine g_ifN (xi := 0) (pc2 := 445) C at_442 rfl rfl (by decide) ?_
      refine g_iload (pc' := 447) C at_445 rfl rfl ?_
      refine g_ifN (xi := 1) (pc2 := 450) C at_447 rfl rfl (by decide) ?_
      refine g_aload (pc' := 452) C at_450 rfl rfl rfl ?_
      refine g_iconst (pc' := 453) (z := (2 : Int32)) C at_452 rfl rfl ?_
      refine g_aaload (pc' := 454) (i := 2) C at_453 rfl Aa4 rfl rfl ?_
      refine g_staticP (y := (⟨"com/example/slot512/slot512/LinkUnlinkPinLaw", "detached", "(Lcom/example/slot512/slot512/Link;)Z"⟩ : MethodName)) (pc' := 457) (k' := 7) (n' := 18) (S := []) (as := [(.ref a7)]) C at_454 rfl (hw _ (List.mem_of_getElem? (i := 31) rfl)) (hw _ (List.mem_of_getElem? (i := 32) rfl)) (hw _ (List.mem_of_getElem? (i := 27) rfl)) (hw _ (List.mem_of_getElem? (i := 33) rfl)) (by decide) (lenOf pd_3 rfl) (con_det W.l Z a0 hw a7 h57 Oa7) rfl rfl (Nat.le_of_ble_eq_true rfl) (Nat.le_of_ble_eq_true rfl) rfl rfl (Nat.le_of_ble_eq_true rfl) (Nat.le_of_ble_eq_true rfl) (S1 := [(.int (1 : Int32))]) rfl ?_
      refine g_ifN (xi := 1) (pc2 := 460) C at_457 rfl rfl (by decide) ?_
      refine g_iconst (pc' := 461) (z := (1 : Int32)) C at_460 rfl rfl ?_
      refine g_goto C at_461 (by decide) (pc' := 465) rfl ?_
      refine g_istore (pc' := 467) (L' := #[.val (.int p0), .val (.int p1), .val (.int p2), .val (.int (2 : Int32)), .val (.int (0 : Int32)), .val (.int z3), .val (.ref r0), .val (.ref a4), .val (.ref a5), .val (.ref a17), .val (.int (2 : Int32)), .val (.int (0 : Int32)), .val (.int (1 : Int32)), .val (.int (0 : Int32)), .val (.int (1 : Int32))]) C at_465 rfl rfl ?_
      refine g_iload (pc' := 469) C at_467 rfl rfl ?_
      refine g_ifN (xi := 1) (pc2 := 472) C at_469 rfl rfl (by decide) ?_
      refine g_aload (pc' := 474) C at_472 rfl rfl rfl ?_
      refine g_iconst (pc' := 475) (z := (3 : Int32)) C at_474 rfl rfl ?_
      refine g_aaload (pc' := 476) (i := 3) C at_475 rfl Aa4 rfl rfl ?_
      refine g_staticP (y := (⟨"com/example/slot512/slot512/LinkUnlinkPinLaw", "detached", "(Lcom/example/slot512/slot512/Link;)Z"⟩ : MethodName)) (pc' := 479) (k' := 7) (n' := 18) (S := []) (as := [(.ref a8)]) C at_476 rfl (hw _ (List.mem_of_getElem? (i := 31) rfl)) (hw _ (List.mem_of_getElem? (i := 32) rfl)) (hw _ (List.mem_of_getElem? (i := 27) rfl)) (hw _ (List.mem_of_getElem? (i := 33) rfl)) (by decide) (lenOf pd_3 rfl) (con_det W.l Z a0 hw a8 h57 Oa8) rfl rfl (Nat.le_of_ble_eq_true rfl) (Nat.le_of_ble_eq_true rfl) rfl rfl (Nat.le_of_ble_eq_true rfl) (Nat.le_of_ble_eq_true rfl) (S1 := [(.int (1 : Int32))]) rfl ?_
      refine g_ifN (xi := 1) (pc2 := 482) C at_479 rfl rfl (by decide) ?_
      refine g_iconst (pc' := 483) (z := (1 : Int32)) C at_482 rfl rfl ?_
      refine g_goto C at_483 (by decide) (pc' := 487) rfl ?_
      refine g_istore (pc' := 489) (L' := #[.val (.int p0), .val (.int p1), .val (.int p2), .val (.int (2 : Int32)), .val (.int (0 : Int32)), .val (.int z3), .val (.ref r0), .val (.ref a4), .val (.ref a5), .val (.ref a17), .val (.int (2 : Int32)), .val (.int (0 : Int32)), .val (.int (1 : Int32)), .val (.int (0 : Int32)), .val (.int (1 : Int32))]) C at_487 rfl rfl ?_
      refine g_iload (pc' := 491) C at_489 rfl rfl ?_
      refine g_retN C (by simp) at_491 (by decide) (by decide) ?_
      subst hQ
      rfl
    ·
      refine g_aload (pc' := 120) C at_118 rfl rfl rfl ?_
      refine g_iload (pc' := 122) C at_120 rfl rfl ?_
      refine g_aaload (pc' := 123) (i := 1) C at_122 rfl Aa4 rfl rfl ?_
      refine g_astore (pc' := 125) (L' := #[.val (.int p0), .val (.int p1), .val (.int p2), .val (.int (2 : Int32)), .val (.int (1 : Int32)), .val (.int z3), .val (.ref r0), .val (.ref a4), .val (.ref a6), .unset, .unset, .unset, .unset, .unset, .unset]) C at_123 rfl rfl rfl ?_
      refine g_aload (pc' := 127) C at_125 rfl rfl rfl ?_
      refine g_virtual (y := (⟨"com/example/slot512/slot512/Link", "unlink", "()V"⟩ : MethodName)) (a := a6) (pc' := 130) (k' := 6) (n' := 14) (S := []) (as := []) C at_127 rfl (hw _ (List.mem_of_getElem? (i := 20) rfl)) (hw _ (List.mem_of_getElem? (i := 22) rfl)) (hw _ (List.mem_of_getElem? (i := 2) rfl)) (hw _ (List.mem_of_getElem? (i := 24) rfl)) (hw _ (List.mem_of_getElem? (i := 21) rfl)) (hw _ (List.mem_of_getElem? (i := 23) rfl)) (by decide) Oa6.1 (lenOf pd_0 rfl) (con_un2 W.l Z a0 hw a6 a5 r0 (.ref r0) (.ref a6) (.ref a6) (.ref a5) (Ne.symm n_a5_a6) (Ne.symm n_r0_a6) (Ne.symm n_r0_a5) h52 Oa6 Oa5 Or0) rfl rfl (Nat.le_of_ble_eq_true rfl) (Nat.le_of_ble_eq_true rfl) rfl rfl (Nat.le_of_ble_eq_true rfl) (Nat.le_of_ble_eq_true rfl) (allS w_a6 (allS w_a5 (allS w_r0 all0))) fun vh58 h58 qh58 Kh58 => ?_
      obtain ⟨rfl, Oa6, Oa5, Or0⟩ := qh58
      replace Oa7 := Oa7.keep Kh58 (ninS (Ne.symm n_a6_a7) (ninS (Ne.symm n_a5_a7) (ninS (Ne.symm n_r0_a7) nin0)))
      replace Oa8 := Oa8.keep Kh58 (ninS (Ne.symm n_a6_a8) (ninS (Ne.symm n_a5_a8) (ninS (Ne.symm n_r0_a8) nin0)))
      replace Aa4 := Aa4.keep Kh58 (ninS n_a4_a6 (ninS n_a4_a5 (ninS (Ne.symm n_r0_a4) nin0)))
      show Go W Q h58 6 14 130 #[.val (.int p0), .val (.int p1), .val (.int p2), .val (.int (2 : Int32)), .val (.int (1 : Int32)), .val (.int z3), .val (.ref r0), .val (.ref a4), .val (.ref a6), .unset, .unset, .unset, .unset, .unset, .unset] []
      refine g_iload (pc' := 132) C at_130 rfl rfl ?_
      suffices K_132 : Go W Q h58 6 14 140 #[.val (.int p0), .val (.int p1), .val (.int p2), .val (.int (2 : Int32)), .val (.int (1 : Int32)), .val (.int z3), .val (.ref r0), .val (.ref a4), .val (.ref a6), .unset, .unset, .unset, .unset, .unset, .unset] [] by
        refine g_ifeqb (pc1 := 140) (pc2 := 135) C at_132 (by decide) rfl rfl e_z3 (fun (c132 : ¬ (¬ ((p2 &&& (1 : Int32)).toInt = 0))) => ?_) (fun (c132 : ¬ ((p2 &&& (1 : Int32)).toInt = 0)) => ?_)
        ·
          replace c132 : (p2 &&& (1 : Int32)).toInt = 0 := Decidable.not_not.mp c132
          exact K_132
        ·
          refine g_aload (pc' := 137) C at_135 rfl rfl rfl ?_
          refine g_virtual (y := (⟨"com/example/slot512/slot512/Link", "unlink", "()V"⟩ : MethodName)) (a := a6) (pc' := 140) (k' := 6) (n' := 14) (S := []) (as := []) C at_137 rfl (hw _ (List.mem_of_getElem? (i := 20) rfl)) (hw _ (List.mem_of_getElem? (i := 22) rfl)) (hw _ (List.mem_of_getElem? (i := 2) rfl)) (hw _ (List.mem_of_getElem? (i := 24) rfl)) (hw _ (List.mem_of_getElem? (i := 21) rfl)) (hw _ (List.mem_of_getElem? (i := 23) rfl)) (by decide) Oa6.1 (lenOf pd_0 rfl) (con_un0 W.l Z a0 hw a6 .null h58 Oa6) rfl rfl (Nat.le_of_ble_eq_true rfl) (Nat.le_of_ble_eq_true rfl) rfl rfl (Nat.le_of_ble_eq_true rfl) (Nat.le_of_ble_eq_true rfl) all0 fun vh59 h59 qh59 Kh59 => ?_
          obtain ⟨rfl, eh⟩ := qh59
          subst eh
          show Go W Q h58 6 14 140 #[.val (.int p0), .val (.int p1), .val (.int p2), .val (.int (2 : Int32)), .val (.int (1 : Int32)), .val (.int z3), .val (.ref r0), .val (.ref a4), .val (.ref a6), .unset, .unset, .unset, .unset, .unset, .unset] []
          exact K_132
      refine g_iconst (pc' := 141) (z := (4 : Int32)) C at_140 rfl rfl ?_
      refine g_anewarray (pc' := 144) (len := 4) (cap := 4) (k' := 7) (n' := 18) C at_141 rfl (hw _ (List.mem_of_getElem? (i := 16) rfl)) (hw _ (List.mem_of_getElem? (i := 17) rfl)) rfl (by decide) (by decide) rfl rfl (by decide) (by decide) fun h60 a18 e_a18 Eh60 Aa18 w_a18 => ?_
      have n_r0_a18 : r0 ≠ a18 := by rw [e_a18]; exact Nat.ne_of_lt Or0.lt
      have n_a5_a18 : a5 ≠ a18 := by rw [e_a18]; exact Nat.ne_of_lt Oa5.lt
      have n_a6_a18 : a6 ≠ a18 := by rw [e_a18]; exact Nat.ne_of_lt Oa6.lt
      have n_a7_a18 : a7 ≠ a18 := by rw [e_a18]; exact Nat.ne_of_lt Oa7.lt
      have n_a8_a18 : a8 ≠ a18 := by rw [e_a18]; exact Nat.ne_of_lt Oa8.lt
      have n_a4_a18 : a4 ≠ a18 := by rw [e_a18]; exact Nat.ne_of_lt Aa4.lt
      replace Or0 := Or0.ext Eh60
      replace Oa5 := Oa5.ext Eh60
      replace Oa6 := Oa6.ext Eh60
      replace Oa7 := Oa7.ext Eh60
      replace Oa8 := Oa8.ext Eh60
      replace Aa4 := Aa4.ext Eh60
      replace Aa18 : ArR Z h60 a18 "com/example/slot512/slot512/Link" [.null, .null, .null, .null] := Aa18
      refine g_astore (pc' := 146) (L' := #[.val (.int p0), .val (.int p1), .val (.int p2), .val (.int (2 : Int32)), .val (.int (1 : Int32)), .val (.int z3), .val (.ref r0), .val (.ref a4), .val (.ref a6), .val (.ref a18), .unset, .unset, .unset, .unset, .unset]) C at_144 rfl rfl rfl ?_
      refine g_aload (pc' := 148) C at_146 rfl rfl rfl ?_
      refine g_iconst (pc' := 149) (z := (0 : Int32)) C at_148 rfl rfl ?_
      refine g_aload (pc' := 151) C at_149 rfl rfl rfl ?_
      refine g_aastore (pc' := 152) (i := 0) (vs' := [(.ref r0), .null, .null, .null]) C at_151 rfl Aa18 rfl (Nat.le_of_ble_eq_true rfl) rfl (Or.inr ⟨_, rfl, Or0.1⟩) w_a18 fun h61 Aa18 Kh61 => ?_
      replace Or0 := Or0.keep Kh61 (ninS n_r0_a18 nin0)
      replace Oa5 := Oa5.keep Kh61 (ninS n_a5_a18 nin0)
      replace Oa6 := Oa6.keep Kh61 (ninS n_a6_a18 nin0)
      replace Oa7 := Oa7.keep Kh61 (ninS n_a7_a18 nin0)
      replace Oa8 := Oa8.keep Kh61 (ninS n_a8_a18 nin0)
      replace Aa4 := Aa4.keep Kh61 (ninS n_a4_a18 nin0)
      refine g_iconst (pc' := 153) (z := (1 : Int32)) C at_152 rfl rfl ?_
      refine g_istore (pc' := 155) (L' := #[.val (.int p0), .val (.int p1), .val (.int p2), .val (.int (2 : Int32)), .val (.int (1 : Int32)), .val (.int z3), .val (.ref r0), .val (.ref a4), .val (.ref a6), .val (.ref a18), .val (.int (1 : Int32)), .unset, .unset, .unset, .unset]) C at_153 rfl rfl ?_
      refine g_iconst (pc' := 156) (z := (0 : Int32)) C at_155 rfl rfl ?_
      refine g_iloadN (pc' := 157) C at_156 rfl rfl ?_
      refine g_icmpN (xi := 0) (yi := 2) (pc2 := 160) C at_157 rfl rfl rfl (by decide) ?_
      refine g_iload (pc' := 162) C at_160 rfl rfl ?_
      refine g_ifN (xi := 1) (pc2 := 165) C at_162 rfl rfl (by decide) ?_
      refine g_iconst (pc' := 166) (z := (1 : Int32)) C at_165 rfl rfl ?_
      refine g_goto C at_166 (by decide) (pc' := 170) rfl ?_
      refine g_istore (pc' := 172) (L' := #[.val (.int p0), .val (.int p1), .val (.int p2), .val (.int (2 : Int32)), .val (.int (1 : Int32)), .val (.int z3), .val (.ref r0), .val (.ref a4), .val (.ref a6), .val (.ref a18), .val (.int (1 : Int32)), .val (.int (1 : Int32)), .unset, .unset, .unset]) C at_170 rfl rfl ?_
      refine g_iconst (pc' := 173) (z := (1 : Int32)) C at_172 rfl rfl ?_
      refine g_iloadN (pc' := 174) C at_173 rfl rfl ?_
      refine g_icmpN (xi := 1) (yi := 2) (pc2 := 177) C at_174 rfl rfl rfl (by decide) ?_
      refine g_iload (pc' := 179) C at_177 rfl rfl ?_
      refine g_iconst (pc' := 180) (z := (1 : Int32)) C at_179 rfl rfl ?_
      refine g_icmpY (xi := 1) (yi := 1) (pc1 := 187) C at_180 (by decide) rfl rfl rfl (by decide) ?_
      refine g_iconst (pc' := 188) (z := (0 : Int32)) C at_187 rfl rfl ?_
      refine g_istore (pc' := 190) (L' := #[.val (.int p0), .val (.int p1), .val (.int p2), .val (.int (2 : Int32)), .val (.int (1 : Int32)), .val (.int z3), .val (.ref r0), .val (.ref a4), .val (.ref a6), .val (.ref a18), .val (.int (1 : Int32)), .val (.int (1 : Int32)), .val (.int (0 : Int32)), .unset, .unset]) C at_188 rfl rfl ?_
      refine g_iconst (pc' := 191) (z := (2 : Int32)) C at_190 rfl rfl ?_
      refine g_iloadN (pc' := 192) C at_191 rfl rfl ?_
      refine g_icmpY (xi := 2) (yi := 2) (pc1 := 205) C at_192 (by decide) rfl rfl rfl (by decide) ?_
      refine g_iconst (pc' := 206) (z := (0 : Int32)) C at_205 rfl rfl ?_
      refine g_istore (pc' := 208) (L' := #[.val (.int p0), .val (.int p1), .val (.int p2), .val (.int (2 : Int32)), .val (.int (1 : Int32)), .val (.int z3), .val (.ref r0), .val (.ref a4), .val (.ref a6), .val (.ref a18), .val (.int (1 : Int32)), .val (.int (1 : Int32)), .val (.int (0 : Int32)), .val (.int (0 : Int32)), .unset]) C at_206 rfl rfl ?_
      refine g_iload (pc' := 210) C at_208 rfl rfl ?_
      refine g_ifN (xi := 1) (pc2 := 213) C at_210 rfl rfl (by decide) ?_
      refine g_aload (pc' := 215) C at_213 rfl rfl rfl ?_
      refine g_iload (pc' := 217) C at_215 rfl rfl ?_
      refine g_aload (pc' := 219) C at_217 rfl rfl rfl ?_
      refine g_iconst (pc' := 220) (z := (0 : Int32)) C at_219 rfl rfl ?_
      refine g_aaload (pc' := 221) (i := 0) C at_220 rfl Aa4 rfl rfl ?_
      refine g_aastore (pc' := 222) (i := 1) (vs' := [(.ref r0), (.ref a5), .null, .null]) C at_221 rfl Aa18 rfl (Nat.le_of_ble_eq_true rfl) rfl (Or.inr ⟨_, rfl, Oa5.1⟩) w_a18 fun h62 Aa18 Kh62 => ?_
      replace Or0 := Or0.keep Kh62 (ninS n_r0_a18 nin0)
      replace Oa5 := Oa5.keep Kh62 (ninS n_a5_a18 nin0)
      replace Oa6 := Oa6.keep Kh62 (ninS n_a6_a18 nin0)
      replace Oa7 := Oa7.keep Kh62 (ninS n_a7_a18 nin0)
      replace Oa8 := Oa8.keep Kh62 (ninS n_a8_a18 nin0)
      replace Aa4 := Aa4.keep Kh62 (ninS n_a4_a18 nin0)
      refine g_iload (pc' := 224) C at_222 rfl rfl ?_
      refine g_iconst (pc' := 225) (z := (1 : Int32)) C at_224 rfl rfl ?_
      refine g_iadd (pc' := 226) C at_225 rfl ?_
      show Go W Q h62 7 18 226 #[.val (.int p0), .val (.int p1), .val (.int p2), .val (.int (2 : Int32)), .val (.int (1 : Int32)), .val (.int z3), .val (.ref r0), .val (.ref a4), .val (.ref a6), .val (.ref a18), .val (.int (1 : Int32)), .val (.int (1 : Int32)), .val (.int (0 : Int32)), .val (.int (0 : Int32)), .unset] [(.int (2 : Int32))]
      refine g_istore (pc' := 228) (L' := #[.val (.int p0), .val (.int p1), .val (.int p2), .val (.int (2 : Int32)), .val (.int (1 : Int32)), .val (.int z3), .val (.ref r0), .val (.ref a4), .val (.ref a6), .val (.ref a18), .val (.int (2 : Int32)), .val (.int (1 : Int32)), .val (.int (0 : Int32)), .val (.int (0 : Int32)), .unset]) C at_226 rfl rfl ?_
      refine g_iload (pc' := 230) C at_228 rfl rfl ?_
      refine g_ifY (xi := 0) (pc1 := 248) C at_230 (by decide) rfl rfl (by decide) ?_
      refine g_iload (pc' := 250) C at_248 rfl rfl ?_
      refine g_ifY (xi := 0) (pc1 := 268) C at_250 (by decide) rfl rfl (by decide) ?_
      refine g_aload (pc' := 270) C at_268 rfl rfl rfl ?_
      refine g_iconst (pc' := 271) (z := (0 : Int32)) C at_270 rfl rfl ?_
      refine g_aaload (pc' := 272) (i := 0) C at_271 rfl Aa18 rfl rfl ?_
      refine g_aload (pc' := 274) C at_272 rfl rfl rfl ?_
      refine g_iconst (pc' := 275) (z := (1 : Int32)) C at_274 rfl rfl ?_
      refine g_iload (pc' := 277) C at_275 rfl rfl ?_
      refine g_irem (pc' := 278) C at_277 rfl (by decide) ?_
      show Go W Q h62 7 18 278 #[.val (.int p0), .val (.int p1), .val (.int p2), .val (.int (2 : Int32)), .val (.int (1 : Int32)), .val (.int z3), .val (.ref r0), .val (.ref a4), .val (.ref a6), .val (.ref a18), .val (.int (2 : Int32)), .val (.int (1 : Int32)), .val (.int (0 : Int32)), .val (.int (0 : Int32)), .unset] [(.int (1 : Int32)), (.ref a18), (.ref r0)]
      refine g_aaload (pc' := 279) (i := 1) C at_278 rfl Aa18 rfl rfl ?_
      refine g_staticP (y := (⟨"com/example/slot512/slot512/LinkUnlinkPinLaw", "joined", "(Lcom/example/slot512/slot512/Link;Lcom/example/slot512/slot512/Link;)Z"⟩ : MethodName)) (pc' := 282) (k' := 7) (n' := 18) (S := []) (as := [(.ref r0), (.ref a5)]) C at_279 rfl (hw _ (List.mem_of_getElem? (i := 25) rfl)) (hw _ (List.mem_of_getElem? (i := 26) rfl)) (hw _ (List.mem_of_getElem? (i := 27) rfl)) (hw _ (List.mem_of_getElem? (i := 28) rfl)) (by decide) (lenOf pd_2 rfl) (con_joined W.l Z a0 hw r0 a5 (.ref a5) (.ref r0) h62 Or0 Oa5) rfl rfl (Nat.le_of_ble_eq_true rfl) (Nat.le_of_ble_eq_true rfl) rfl rfl (Nat.le_of_ble_eq_true rfl) (Nat.le_of_ble_eq_true rfl) (S1 := [(.int (1 : Int32))]) rfl ?_
      refine g_istore (pc' := 284) (L' := #[.val (.int p0), .val (.int p1), .val (.int p2), .val (.int (2 : Int32)), .val (.int (1 : Int32)), .val (.int z3), .val (.ref r0), .val (.ref a4), .val (.ref a6), .val (.ref a18), .val (.int (2 : Int32)), .val (.int (1 : Int32)), .val (.int (0 : Int32)), .val (.int (0 : Int32)), .val (.int (1 : Int32))]) C at_282 rfl rfl ?_
      refine g_iload (pc' := 286) C at_284 rfl rfl ?_
      refine g_iconst (pc' := 287) (z := (1 : Int32)) C at_286 rfl rfl ?_
      refine g_icmpN (xi := 2) (yi := 1) (pc2 := 290) C at_287 rfl rfl rfl (by decide) ?_
      refine g_iload (pc' := 292) C at_290 rfl rfl ?_
      refine g_ifN (xi := 1) (pc2 := 295) C at_292 rfl rfl (by decide) ?_
      refine g_aload (pc' := 297) C at_295 rfl rfl rfl ?_
      refine g_iconst (pc' := 298) (z := (1 : Int32)) C at_297 rfl rfl ?_
      refine g_aaload (pc' := 299) (i := 1) C at_298 rfl Aa18 rfl rfl ?_
      refine g_aload (pc' := 301) C at_299 rfl rfl rfl ?_
      refine g_iconst (pc' := 302) (z := (2 : Int32)) C at_301 rfl rfl ?_
      refine g_iload (pc' := 304) C at_302 rfl rfl ?_
      refine g_irem (pc' := 305) C at_304 rfl (by decide) ?_
      show Go W Q h62 7 18 305 #[.val (.int p0), .val (.int p1), .val (.int p2), .val (.int (2 : Int32)), .val (.int (1 : Int32)), .val (.int z3), .val (.ref r0), .val (.ref a4), .val (.ref a6), .val (.ref a18), .val (.int (2 : Int32)), .val (.int (1 : Int32)), .val (.int (0 : Int32)), .val (.int (0 : Int32)), .val (.int (1 : Int32))] [(.int (0 : Int32)), (.ref a18), (.ref a5)]
      refine g_aaload (pc' := 306) (i := 0) C at_305 rfl Aa18 rfl rfl ?_
      refine g_staticP (y := (⟨"com/example/slot512/slot512/LinkUnlinkPinLaw", "joined", "(Lcom/example/slot512/slot512/Link;Lcom/example/slot512/slot512/Link;)Z"⟩ : MethodName)) (pc' := 309) (k' := 7) (n' := 18) (S := []) (as := [(.ref a5), (.ref r0)]) C at_306 rfl (hw _ (List.mem_of_getElem? (i := 25) rfl)) (hw _ (List.mem_of_getElem? (i := 26) rfl)) (hw _ (List.mem_of_getElem? (i := 27) rfl)) (hw _ (List.mem_of_getElem? (i := 28) rfl)) (by decide) (lenOf pd_2 rfl) (con_joined W.l Z a0 hw a5 r0 (.ref r0) (.ref a5) h62 Oa5 Or0) rfl rfl (Nat.le_of_ble_eq_true rfl) (Nat.le_of_ble_eq_true rfl) rfl rfl (Nat.le_of_ble_eq_true rfl) (Nat.le_of_ble_eq_true rfl) (S1 := [(.int (1 : Int32))]) rfl ?_
      refine g_ifN (xi := 1) (pc2 := 312) C at_309 rfl rfl (by decide) ?_
      refine g_iconst (pc' := 313) (z := (1 : Int32)) C at_312 rfl rfl ?_
      refine g_goto C at_313 (by decide) (pc' := 317) rfl ?_
      refine g_istore (pc' := 319) (L' := #[.val (.int p0), .val (.int p1), .val (.int p2), .val (.int (2 : Int32)), .val (.int (1 : Int32)), .val (.int z3), .val (.ref r0), .val (.ref a4), .val (.ref a6), .val (.ref a18), .val (.int (2 : Int32)), .val (.int (1 : Int32)), .val (.int (0 : Int32)), .val (.int (0 : Int32)), .val (.int (1 : Int32))]) C at_317 rfl rfl ?_
      refine g_iload (pc' := 321) C at_319 rfl rfl ?_
      refine g_iconst (pc' := 322) (z := (2 : Int32)) C at_321 rfl rfl ?_
      refine g_icmpY (xi := 2) (yi := 2) (pc1 := 354) C at_322 (by decide) rfl rfl rfl (by decide) ?_
      refine g_iload (pc' := 356) C at_354 rfl rfl ?_
      refine g_iconst (pc' := 357) (z := (3 : Int32)) C at_356 rfl rfl ?_
      refine g_icmpY (xi := 2) (yi := 3) (pc1 := 386) C at_357 (by decide) rfl rfl rfl (by decide) ?_
      refine g_iload (pc' := 388) C at_386 rfl rfl ?_
      refine g_ifY (xi := 1) (pc1 := 413) C at_388 (by decide) rfl rfl (by decide) ?_
      refine g_iload (pc' := 415) C at_413 rfl rfl ?_
      refine g_ifN (xi := 0) (pc2 := 418) C at_415 rfl rfl (by decide) ?_
      refine g_iload (pc' := 420) C at_418 rfl rfl ?_
      refine g_ifN (xi := 1) (pc2 := 423) C at_420 rfl rfl (by decide) ?_
      refine g_aload (pc' := 425) C at_423 rfl rfl rfl ?_
      refine g_iconst (pc' := 426) (z := (1 : Int32)) C at_425 rfl rfl ?_
      refine g_aaload (pc' := 427) (i := 1) C at_426 rfl Aa4 rfl rfl ?_
      refine g_staticP (y := (⟨"com/example/slot512/slot512/LinkUnlinkPinLaw", "detached", "(Lcom/example/slot512/slot512/Link;)Z"⟩ : MethodName)) (pc' := 430) (k' := 7) (n' := 18) (S := []) (as := [(.ref a6)]) C at_427 rfl (hw _ (List.mem_of_getElem? (i := 31) rfl)) (hw _ (List.mem_of_getElem? (i := 32) rfl)) (hw _ (List.mem_of_getElem? (i := 27) rfl)) (hw _ (List.mem_of_getElem? (i := 33) rfl)) (by decide) (lenOf pd_3 rfl) (con_det W.l Z a0 hw a6 h62 Oa6) rfl rfl (Nat.le_of_ble_eq_true rfl) (Nat.le_of_ble_eq_true rfl) rfl rfl (Nat.le_of_ble_eq_true rfl) (Nat.le_of_ble_eq_true rfl) (S1 := [(.int (1 : Int32))]) rfl ?_
      refine g_ifN (xi := 1) (pc2 := 433) C at_430 rfl rfl (by decide) ?_
      refine g_iconst (pc' := 434) (z := (1 : Int32)) C at_433 rfl rfl ?_
      refine g_goto C at_434 (by decide) (pc' := 438) rfl ?_
      refine g_istore (pc' := 440) (L' := #[.val (.int p0), .val (.int p1), .val (.int p2), .val (.int (2 : Int32)), .val (.int (1 : Int32)), .val (.int z3), .val (.ref r0), .val (.ref a4), .val (.ref a6), .val (.ref a18), .val (.int (2 : Int32)), .val (.int (1 : Int32)), .val (.int (0 : Int32)), .val (.int (0 : Int32)), .val (.int (1 : Int32))]) C at_438 rfl rfl ?_
      refine g_iload (pc' := 442) C at_440 rfl rfl ?_
      refine g_ifN (xi := 0) (pc2 := 445) C at_442 rfl rfl (by decide) ?_
      refine g_iload (pc' := 447) C at_445 rfl rfl ?_
      refine g_ifN (xi := 1) (pc2 := 450) C at_447 rfl rfl (by decide) ?_
      refine g_aload (pc' := 452) C at_450 rfl rfl rfl ?_
      refine g_iconst (pc' := 453) (z := (2 : Int32)) C at_452 rfl rfl ?_
      refine g_aaload (pc' := 454) (i := 2) C at_453 rfl Aa4 rfl rfl ?_
      refine g_staticP (y := (⟨"com/example/slot512/slot512/LinkUnlinkPinLaw", "detached", "(Lcom/example/slot512/slot512/Link;)Z"⟩ : MethodName)) (pc' := 457) (k' := 7) (n' := 18) (S := []) (as := [(.ref a7)]) C at_454 rfl (hw _ (List.mem_of_getElem? (i := 31) rfl)) (hw _ (List.mem_of_getElem? (i := 32) rfl)) (hw _ (List.mem_of_getElem? (i := 27) rfl)) (hw _ (List.mem_of_getElem? (i := 33) rfl)) (by decide) (lenOf pd_3 rfl) (con_det W.l Z a0 hw a7 h62 Oa7) rfl rfl (Nat.le_of_ble_eq_true rfl) (Nat.le_of_ble_eq_true rfl) rfl rfl (Nat.le_of_ble_eq_true rfl) (Nat.le_of_ble_eq_true rfl) (S1 := [(.int (1 : Int32))]) rfl ?_
      refine g_ifN (xi := 1) (pc2 := 460) C at_457 rfl rfl (by decide) ?_
      refine g_iconst (pc' := 461) (z := (1 : Int32)) C at_460 rfl rfl ?_
      refine g_goto C at_461 (by decide) (pc' := 465) rfl ?_
      refine g_istore (pc' := 467) (L' := #[.val (.int p0), .val (.int p1), .val (.int p2), .val (.int (2 : Int32)), .val (.int (1 : Int32)), .val (.int z3), .val (.ref r0), .val (.ref a4), .val (.ref a6), .val (.ref a18), .val (.int (2 : Int32)), .val (.int (1 : Int32)), .val (.int (0 : Int32)), .val (.int (0 : Int32)), .val (.int (1 : Int32))]) C at_465 rfl rfl ?_
      refine g_iload (pc' := 469) C at_467 rfl rfl ?_
      refine g_ifN (xi := 1) (pc2 := 472) C at_469 rfl rfl (by decide) ?_
      refine g_aload (pc' := 474) C at_472 rfl rfl rfl ?_
      refine g_iconst (pc' := 475) (z := (3 : Int32)) C at_474 rfl rfl ?_
      refine g_aaload (pc' := 476) (i := 3) C at_475 rfl Aa4 rfl rfl ?_
      refine g_staticP (y := (⟨"com/example/slot512/slot512/LinkUnlinkPinLaw", "detached", "(Lcom/example/slot512/slot512/Link;)Z"⟩ : MethodName)) (pc' := 479) (k' := 7) (n' := 18) (S := []) (as := [(.ref a8)]) C at_476 rfl (hw _ (List.mem_of_getElem? (i := 31) rfl)) (hw _ (List.mem_of_getElem? (i := 32) rfl)) (hw _ (List.mem_of_getElem? (i := 27) rfl)) (hw _ (List.mem_of_getElem? (i := 33) rfl)) (by decide) (lenOf pd_3 rfl) (con_det W.l Z a0 hw a8 h62 Oa8) rfl rfl (Nat.le_of_ble_eq_true rfl) (Nat.le_of_ble_eq_true rfl) rfl rfl (Nat.le_of_ble_eq_true rfl) (Nat.le_of_ble_eq_true rfl) (S1 := [(.int (1 : Int32))]) rfl ?_
      refine g_ifN (xi := 1) (pc2 := 482) C at_479 rfl rfl (by decide) ?_
      refine g_iconst (pc' := 483) (z := (1 : Int32)) C at_482 rfl rfl ?_
      refine g_goto C at_483 (by decide) (pc' := 487) rfl ?_
      refine g_istore (pc' := 489) (L' := #[.val (.int p0), .val (.int p1), .val (.int p2), .val (.int (2 : Int32)), .val (.int (1 : Int32)), .val (.int z3), .val (.ref r0), .val (.ref a4), .val (.ref a6), .val (.ref a18), .val (.int (2 : Int32)), .val (.int (1 : Int32)), .val (.int (0 : Int32)), .val (.int (0 : Int32)), .val (.int (1 : Int32))]) C at_487 rfl rfl ?_
      refine g_iload (pc' := 491) C at_489 rfl rfl ?_
      refine g_retN C (by simp) at_491 (by decide) (by decide) ?_
      subst hQ
      rfl
    ·
      refine g_aload (pc' := 120) C at_118 rfl rfl rfl ?_
      refine g_iload (pc' := 122) C at_120 rfl rfl ?_
      refine g_aaload (pc' := 123) (i := 2) C at_122 rfl Aa4 rfl rfl ?_
      refine g_astore (pc' := 125) (L' := #[.val (.int p0), .val (.int p1), .val (.int p2), .val (.int (2 : Int32)), .val (.int (2 : Int32)), .val (.int z3), .val (.ref r0), .val (.ref a4), .val (.ref a7), .unset, .unset, .unset, .unset, .unset, .unset]) C at_123 rfl rfl rfl ?_
      refine g_aload (pc' := 127) C at_125 rfl rfl rfl ?_
      refine g_virtual (y := (⟨"com/example/slot512/slot512/Link", "unlink", "()V"⟩ : MethodName)) (a := a7) (pc' := 130) (k' := 6) (n' := 14) (S := []) (as := []) C at_127 rfl (hw _ (List.mem_of_getElem? (i := 20) rfl)) (hw _ (List.mem_of_getElem? (i := 22) rfl)) (hw _ (List.mem_of_getElem? (i := 2) rfl)) (hw _ (List.mem_of_getElem? (i := 24) rfl)) (hw _ (List.mem_of_getElem? (i := 21) rfl)) (hw _ (List.mem_of_getElem? (i := 23) rfl)) (by decide) Oa7.1 (lenOf pd_0 rfl) (con_un0 W.l Z a0 hw a7 .null h52 Oa7) rfl rfl (Nat.le_of_ble_eq_true rfl) (Nat.le_of_ble_eq_true rfl) rfl rfl (Nat.le_of_ble_eq_true rfl) (Nat.le_of_ble_eq_true rfl) all0 fun vh63 h63 qh63 Kh63 => ?_
      obtain ⟨rfl, eh⟩ := qh63
      subst eh
      show Go W Q h52 6 14 130 #[.val (.int p0), .val (.int p1), .val (.int p2), .val (.int (2 : Int32)), .val (.int (2 : Int32)), .val (.int z3), .val (.ref r0), .val (.ref a4), .val (.ref a7), .unset, .unset, .unset, .unset, .unset, .unset] []
      refine g_iload (pc' := 132) C at_130 rfl rfl ?_
      suffices K_132 : Go W Q h52 6 14 140 #[.val (.int p0), .val (.int p1), .val (.int p2), .val (.int (2 : Int32)), .val (.int (2 : Int32)), .val (.int z3), .val (.ref r0), .val (.ref a4), .val (.ref a7), .unset, .unset, .unset, .unset, .unset, .unset] [] by
        refine g_ifeqb (pc1 := 140) (pc2 := 135) C at_132 (by decide) rfl rfl e_z3 (fun (c132 : ¬ (¬ ((p2 &&& (1 : Int32)).toInt = 0))) => ?_) (fun (c132 : ¬ ((p2 &&& (1 : Int32)).toInt = 0)) => ?_)
        ·
          replace c132 : (p2 &&& (1 : Int32)).toInt = 0 := Decidable.not_not.mp c132
          exact K_132
        ·
          refine g_aload (pc' := 137) C at_135 rfl rfl rfl ?_
          refine g_virtual (y := (⟨"com/example/slot512/slot512/Link", "unlink", "()V"⟩ : MethodName)) (a := a7) (pc' := 140) (k' := 6) (n' := 14) (S := []) (as := []) C at_137 rfl (hw _ (List.mem_of_getElem? (i := 20) rfl)) (hw _ (List.mem_of_getElem? (i := 22) rfl)) (hw _ (List.mem_of_getElem? (i := 2) rfl)) (hw _ (List.mem_of_getElem? (i := 24) rfl)) (hw _ (List.mem_of_getElem? (i := 21) rfl)) (hw _ (List.mem_of_getElem? (i := 23) rfl)) (by decide) Oa7.1 (lenOf pd_0 rfl) (con_un0 W.l Z a0 hw a7 .null h52 Oa7) rfl rfl (Nat.le_of_ble_eq_true rfl) (Nat.le_of_ble_eq_true rfl) rfl rfl (Nat.le_of_ble_eq_true rfl) (Nat.le_of_ble_eq_true rfl) all0 fun vh64 h64 qh64 Kh64 => ?_
          obtain ⟨rfl, eh⟩ := qh64
          subst eh
          show Go W Q h52 6 14 140 #[.val (.int p0), .val (.int p1), .val (.int p2), .val (.int (2 : Int32)), .val (.int (2 : Int32)), .val (.int z3), .val (.ref r0), .val (.ref a4), .val (.ref a7), .unset, .unset, .unset, .unset, .unset, .unset] []
          exact K_132
      refine g_iconst (pc' := 141) (z := (4 : Int32)) C at_140 rfl rfl ?_
      refine g_anewarray (pc' := 144) (len := 4) (cap := 4) (k' := 7) (n' := 18) C at_141 rfl (hw _ (List.mem_of_getElem? (i := 16) rfl)) (hw _ (List.mem_of_getElem? (i := 17) rfl)) rfl (by decide) (by decide) rfl rfl (by decide) (by decide) fun h65 a19 e_a19 Eh65 Aa19 w_a19 => ?_
      have n_r0_a19 : r0 ≠ a19 := by rw [e_a19]; exact Nat.ne_of_lt Or0.lt
      have n_a5_a19 : a5 ≠ a19 := by rw [e_a19]; exact Nat.ne_of_lt Oa5.lt
      have n_a6_a19 : a6 ≠ a19 := by rw [e_a19]; exact Nat.ne_of_lt Oa6.lt
      have n_a7_a19 : a7 ≠ a19 := by rw [e_a19]; exact Nat.ne_of_lt Oa7.lt
      have n_a8_a19 : a8 ≠ a19 := by rw [e_a19]; exact Nat.ne_of_lt Oa8.lt
      have n_a4_a19 : a4 ≠ a19 := by rw [e_a19]; exact Nat.ne_of_lt Aa4.lt
      replace Or0 := Or0.ext Eh65
      replace Oa5 := Oa5.ext Eh65
      replace Oa6 := Oa6.ext Eh65
      replace Oa7 := Oa7.ext Eh65
      replace Oa8 := Oa8.ext Eh65
      replace Aa4 := Aa4.ext Eh65
      replace Aa19 : ArR Z h65 a19 "com/example/slot512/slot512/Link" [.null, .null, .null, .null] := Aa19
      refine g_astore (pc' := 146) (L' := #[.val (.int p0), .val (.int p1), .val (.int p2), .val (.int (2 : Int32)), .val (.int (2 : Int32)), .val (.int z3), .val (.ref r0), .val (.ref a4), .val (.ref a7), .val (.ref a19), .unset, .unset, .unset, .unset, .unset]) C at_144 rfl rfl rfl ?_
      refine g_aload (pc' := 148) C at_146 rfl rfl rfl ?_
      refine g_iconst (pc' := 149) (z := (0 : Int32)) C at_148 rfl rfl ?_
      refine g_aload (pc' := 151) C at_149 rfl rfl rfl ?_
      refine g_aastore (pc' := 152) (i := 0) (vs' := [(.ref r0), .null, .null, .null]) C at_151 rfl Aa19 rfl (Nat.le_of_ble_eq_true rfl) rfl (Or.inr ⟨_, rfl, Or0.1⟩) w_a19 fun h66 Aa19 Kh66 => ?_
      replace Or0 := Or0.keep Kh66 (ninS n_r0_a19 nin0)
      replace Oa5 := Oa5.keep Kh66 (ninS n_a5_a19 nin0)
      replace Oa6 := Oa6.keep Kh66 (ninS n_a6_a19 nin0)
      replace Oa7 := Oa7.keep Kh66 (ninS n_a7_a19 nin0)
      replace Oa8 := Oa8.keep Kh66 (ninS n_a8_a19 nin0)
      replace Aa4 := Aa4.keep Kh66 (ninS n_a4_a19 nin0)
      refine g_iconst (pc' := 153) (z := (1 : Int32)) C at_152 rfl rfl ?_
      refine g_istore (pc' := 155) (L' := #[.val (.int p0), .val (.int p1), .val (.int p2), .val (.int (2 : Int32)), .val (.int (2 : Int32)), .val (.int z3), .val (.ref r0), .val (.ref a4), .val (.ref a7), .val (.ref a19), .val (.int (1 : Int32)), .unset, .unset, .unset, .unset]) C at_153 rfl rfl ?_
      refine g_iconst (pc' := 156) (z := (0 : Int32)) C at_155 rfl rfl ?_
      refine g_iloadN (pc' := 157) C at_156 rfl rfl ?_
      refine g_icmpN (xi := 0) (yi := 2) (pc2 := 160) C at_157 rfl rfl rfl (by decide) ?_
      refine g_iload (pc' := 162) C at_160 rfl rfl ?_
      refine g_ifN (xi := 2) (pc2 := 165) C at_162 rfl rfl (by decide) ?_
      refine g_iconst (pc' := 166) (z := (1 : Int32)) C at_165 rfl rfl ?_
      refine g_goto C at_166 (by decide) (pc' := 170) rfl ?_
      refine g_istore (pc' := 172) (L' := #[.val (.int p0), .val (.int p1), .val (.int p2), .val (.int (2 : Int32)), .val (.int (2 : Int32)), .val (.int z3), .val (.ref r0), .val (.ref a4), .val (.ref a7), .val (.ref a19), .val (.int (1 : Int32)), .val (.int (1 : Int32)), .unset, .unset, .unset]) C at_170 rfl rfl ?_
      refine g_iconst (pc' := 173) (z := (1 : Int32)) C at_172 rfl rfl ?_
      refine g_iloadN (pc' := 174) C at_173 rfl rfl ?_
      refine g_icmpN (xi := 1) (yi := 2) (pc2 := 177) C at_174 rfl rfl rfl (by decide) ?_
      refine g_iload (pc' := 179) C at_177 rfl rfl ?_
      refine g_iconst (pc' := 180) (z := (1 : Int32)) C at_179 rfl rfl ?_
      refine g_icmpN (xi := 2) (yi := 1) (pc2 := 183) C at_180 rfl rfl rfl (by decide) ?_
      refine g_iconst (pc' := 184) (z := (1 : Int32)) C at_183 rfl rfl ?_
      refine g_goto C at_184 (by decide) (pc' := 188) rfl ?_
      refine g_istore (pc' := 190) (L' := #[.val (.int p0), .val (.int p1), .val (.int p2), .val (.int (2 : Int32)), .val (.int (2 : Int32)), .val (.int z3), .val (.ref r0), .val (.ref a4), .val (.ref a7), .val (.ref a19), .val (.int (1 : Int32)), .val (.int (1 : Int32)), .val (.int (1 : Int32)), .unset, .unset]) C at_188 rfl rfl ?_
      refine g_iconst (pc' := 191) (z := (2 : Int32)) C at_190 rfl rfl ?_
      refine g_iloadN (pc' := 192) C at_191 rfl rfl ?_
      refine g_icmpY (xi := 2) (yi := 2) (pc1 := 205) C at_192 (by decide) rfl rfl rfl (by decide) ?_
      refine g_iconst (pc' := 206) (z := (0 : Int32)) C at_205 rfl rfl ?_
      refine g_istore (pc' := 208) (L' := #[.val (.int p0), .val (.int p1), .val (.int p2), .val (.int (2 : Int32)), .val (.int (2 : Int32)), .val (.int z3), .val (.ref r0), .val (.ref a4), .val (.ref a7), .val (.ref a19), .val (.int (1 : Int32)), .val (.int (1 : Int32)), .val (.int (1 : Int32)), .val (.int (0 : Int32)), .unset]) C at_206 rfl rfl ?_
      refine g_iload (pc' := 210) C at_208 rfl rfl ?_
      refine g_ifN (xi := 1) (pc2 := 213) C at_210 rfl rfl (by decide) ?_
      refine g_aload (pc' := 215) C at_213 rfl rfl rfl ?_
      refine g_iload (pc' := 217) C at_215 rfl rfl ?_
      refine g_aload (pc' := 219) C at_217 rfl rfl rfl ?_
      refine g_iconst (pc' := 220) (z := (0 : Int32)) C at_219 rfl rfl ?_
      refine g_aaload (pc' := 221) (i := 0) C at_220 rfl Aa4 rfl rfl ?_
      refine g_aastore (pc' := 222) (i := 1) (vs' := [(.ref r0), (.ref a5), .null, .null]) C at_221 rfl Aa19 rfl (Nat.le_of_ble_eq_true rfl) rfl (Or.inr ⟨_, rfl, Oa5.1⟩) w_a19 fun h67 Aa19 Kh67 => ?_
      replace Or0 := Or0.keep Kh67 (ninS n_r0_a19 nin0)
      replace Oa5 := Oa5.keep Kh67 (ninS n_a5_a19 nin0)
      replace Oa6 := Oa6.keep Kh67 (ninS n_a6_a19 nin0)
      replace Oa7 := Oa7.keep Kh67 (ninS n_a7_a19 nin0)
      replace Oa8 := Oa8.keep Kh67 (ninS n_a8_a19 nin0)
      replace Aa4 := Aa4.keep Kh67 (ninS n_a4_a19 nin0)
      refine g_iload (pc' := 224) C at_222 rfl rfl ?_
      refine g_iconst (pc' := 225) (z := (1 : Int32)) C at_224 rfl rfl ?_
      refine g_iadd (pc' := 226) C at_225 rfl ?_
      show Go W Q h67 7 18 226 #[.val (.int p0), .val (.int p1), .val (.int p2), .val (.int (2 : Int32)), .val (.int (2 : Int32)), .val (.int z3), .val (.ref r0), .val (.ref a4), .val (.ref a7), .val (.ref a19), .val (.int (1 : Int32)), .val (.int (1 : Int32)), .val (.int (1 : Int32)), .val (.int (0 : Int32)), .unset] [(.int (2 : Int32))]
      refine g_istore (pc' := 228) (L' := #[.val (.int p0), .val (.int p1), .val (.int p2), .val (.int (2 : Int32)), .val (.int (2 : Int32)), .val (.int z3), .val (.ref r0), .val (.ref a4), .val (.ref a7), .val (.ref a19), .val (.int (2 : Int32)), .val (.int (1 : Int32)), .val (.int (1 : Int32)), .val (.int (0 : Int32)), .unset]) C at_226 rfl rfl ?_
      refine g_iload (pc' := 230) C at_228 rfl rfl ?_
      refine g_ifN (xi := 1) (pc2 := 233) C at_230 rfl rfl (by decide) ?_
      refine g_aload (pc' := 235) C at_233 rfl rfl rfl ?_
      refine g_iload (pc' := 237) C at_235 rfl rfl ?_
      refine g_aload (pc' := 239) C at_237 rfl rfl rfl ?_
      refine g_iconst (pc' := 240) (z := (1 : Int32)) C at_239 rfl rfl ?_
      refine g_aaload (pc' := 241) (i := 1) C at_240 rfl Aa4 rfl rfl ?_
      refine g_aastore (pc' := 242) (i := 2) (vs' := [(.ref r0), (.ref a5), (.ref a6), .null]) C at_241 rfl Aa19 rfl (Nat.le_of_ble_eq_true rfl) rfl (Or.inr ⟨_, rfl, Oa6.1⟩) w_a19 fun h68 Aa19 Kh68 => ?_
      replace Or0 := Or0.keep Kh68 (ninS n_r0_a19 nin0)
      replace Oa5 := Oa5.keep Kh68 (ninS n_a5_a19 nin0)
      replace Oa6 := Oa6.keep Kh68 (ninS n_a6_a19 nin0)
      replace Oa7 := Oa7.keep Kh68 (ninS n_a7_a19 nin0)
      replace Oa8 := Oa8.keep Kh68 (ninS n_a8_a19 nin0)
      replace Aa4 := Aa4.keep Kh68 (ninS n_a4_a19 nin0)
      refine g_iload (pc' := 244) C at_242 rfl rfl ?_
      refine g_iconst (pc' := 245) (z := (1 : Int32)) C at_244 rfl rfl ?_
      refine g_iadd (pc' := 246) C at_245 rfl ?_
      show Go W Q h68 7 18 246 #[.val (.int p0), .val (.int p1), .val (.int p2), .val (.int (2 : Int32)), .val (.int (2 : Int32)), .val (.int z3), .val (.ref r0), .val (.ref a4), .val (.ref a7), .val (.ref a19), .val (.int (2 : Int32)), .val (.int (1 : Int32)), .val (.int (1 : Int32)), .val (.int (0 : Int32)), .unset] [(.int (3 : Int32))]
      refine g_istore (pc' := 248) (L' := #[.val (.int p0), .val (.int p1), .val (.int p2), .val (.int (2 : Int32)), .val (.int (2 : Int32)), .val (.int z3), .val (.ref r0), .val (.ref a4), .val (.ref a7), .val (.ref a19), .val (.int (3 : Int32)), .val (.int (1 : Int32)), .val (.int (1 : Int32)), .val (.int (0 : Int32)), .unset]) C at_246 rfl rfl ?_
      refine g_iload (pc' := 250) C at_248 rfl rfl ?_
      refine g_ifY (xi := 0) (pc1 := 268) C at_250 (by decide) rfl rfl (by decide) ?_
      refine g_aload (pc' := 270) C at_268 rfl rfl rfl ?_
      refine g_iconst (pc' := 271) (z := (0 : Int32)) C at_270 rfl rfl ?_
      refine g_aaload (pc' := 272) (i := 0) C at_271 rfl Aa19 rfl rfl ?_
      refine g_aload (pc' := 274) C at_272 rfl rfl rfl ?_
      refine g_iconst (pc' := 275) (z := (1 : Int32)) C at_274 rfl rfl ?_
      refine g_iload (pc' := 277) C at_275 rfl rfl ?_
      refine g_irem (pc' := 278) C at_277 rfl (by decide) ?_
      show Go W Q h68 7 18 278 #[.val (.int p0), .val (.int p1), .val (.int p2), .val (.int (2 : Int32)), .val (.int (2 : Int32)), .val (.int z3), .val (.ref r0), .val (.ref a4), .val (.ref a7), .val (.ref a19), .val (.int (3 : Int32)), .val (.int (1 : Int32)), .val (.int (1 : Int32)), .val (.int (0 : Int32)), .unset] [(.int (1 : Int32)), (.ref a19), (.ref r0)]
      refine g_aaload (pc' := 279) (i := 1) C at_278 rfl Aa19 rfl rfl ?_
      refine g_staticP (y := (⟨"com/example/slot512/slot512/LinkUnlinkPinLaw", "joined", "(Lcom/example/slot512/slot512/Link;Lcom/example/slot512/slot512/Link;)Z"⟩ : MethodName)) (pc' := 282) (k' := 7) (n' := 18) (S := []) (as := [(.ref r0), (.ref a5)]) C at_279 rfl (hw _ (List.mem_of_getElem? (i := 25) rfl)) (hw _ (List.mem_of_getElem? (i := 26) rfl)) (hw _ (List.mem_of_getElem? (i := 27) rfl)) (hw _ (List.mem_of_getElem? (i := 28) rfl)) (by decide) (lenOf pd_2 rfl) (con_joined W.l Z a0 hw r0 a5 (.ref a6) (.ref a6) h68 Or0 Oa5) rfl rfl (Nat.le_of_ble_eq_true rfl) (Nat.le_of_ble_eq_true rfl) rfl rfl (Nat.le_of_ble_eq_true rfl) (Nat.le_of_ble_eq_true rfl) (S1 := [(.int (1 : Int32))]) rfl ?_
      refine g_istore (pc' := 284) (L' := #[.val (.int p0), .val (.int p1), .val (.int p2), .val (.int (2 : Int32)), .val (.int (2 : Int32)), .val (.int z3), .val (.ref r0), .val (.ref a4), .val (.ref a7), .val (.ref a19), .val (.int (3 : Int32)), .val (.int (1 : Int32)), .val (.int (1 : Int32)), .val (.int (0 : Int32)), .val (.int (1 : Int32))]) C at_282 rfl rfl ?_
      refine g_iload (pc' := 286) C at_284 rfl rfl ?_
      refine g_iconst (pc' := 287) (z := (1 : Int32)) C at_286 rfl rfl ?_
      refine g_icmpN (xi := 3) (yi := 1) (pc2 := 290) C at_287 rfl rfl rfl (by decide) ?_
      refine g_iload (pc' := 292) C at_290 rfl rfl ?_
      refine g_ifN (xi := 1) (pc2 := 295) C at_292 rfl rfl (by decide) ?_
      refine g_aload (pc' := 297) C at_295 rfl rfl rfl ?_
      refine g_iconst (pc' := 298) (z := (1 : Int32)) C at_297 rfl rfl ?_
      refine g_aaload (pc' := 299) (i := 1) C at_298 rfl Aa19 rfl rfl ?_
      refine g_aload (pc' := 301) C at_299 rfl rfl rfl ?_
      refine g_iconst (pc' := 302) (z := (2 : Int32)) C at_301 rfl rfl ?_
      refine g_iload (pc' := 304) C at_302 rfl rfl ?_
      refine g_irem (pc' := 305) C at_304 rfl (by decide) ?_
      show Go W Q h68 7 18 305 #[.val (.int p0), .val (.int p1), .val (.int p2), .val (.int (2 : Int32)), .val (.int (2 : Int32)), .val (.int z3), .val (.ref r0), .val (.ref a4), .val (.ref a7), .val (.ref a19), .val (.int (3 : Int32)), .val (.int (1 : Int32)), .val (.int (1 : Int32)), .val (.int (0 : Int32)), .val (.int (1 : Int32))] [(.int (2 : Int32)), (.ref a19), (.ref a5)]
      refine g_aaload (pc' := 306) (i := 2) C at_305 rfl Aa19 rfl rfl ?_
      refine g_staticP (y := (⟨"com/example/slot512/slot512/LinkUnlinkPinLaw", "joined", "(Lcom/example/slot512/slot512/Link;Lcom/example/slot512/slot512/Link;)Z"⟩ : MethodName)) (pc' := 309) (k' := 7) (n' := 18) (S := []) (as := [(.ref a5), (.ref a6)]) C at_306 rfl (hw _ (List.mem_of_getElem? (i := 25) rfl)) (hw _ (List.mem_of_getElem? (i := 26) rfl)) (hw _ (List.mem_of_getElem? (i := 27) rfl)) (hw _ (List.mem_of_getElem? (i := 28) rfl)) (by decide) (lenOf pd_2 rfl) (con_joined W.l Z a0 hw a5 a6 (.ref r0) (.ref r0) h68 Oa5 Oa6) rfl rfl (Nat.le_of_ble_eq_true rfl) (Nat.le_of_ble_eq_true rfl) rfl rfl (Nat.le_of_ble_eq_true rfl) (Nat.le_of_ble_eq_true rfl) (S1 := [(.int (1 : Int32))]) rfl ?_
      refine g_ifN (xi := 1) (pc2 := 312) C at_309 rfl rfl (by decide) ?_
      refine g_iconst (pc' := 313) (z := (1 : Int32)) C at_312 rfl rfl ?_
      refine g_goto C at_313 (by decide) (pc' := 317) rfl ?_
      refine g_istore (pc' := 319) (L' := #[.val (.int p0), .val (.int p1), .val (.int p2), .val (.int (2 : Int32)), .val (.int (2 : Int32)), .val (.int z3), .val (.ref r0), .val (.ref a4), .val (.ref a7), .val (.ref a19), .val (.int (3 : Int32)), .val (.int (1 : Int32)), .val (.int (1 : Int32)), .val (.int (0 : Int32)), .val (.int (1 : Int32))]) C at_317 rfl rfl ?_
      refine g_iload (pc' := 321) C at_319 rfl rfl ?_
      refine g_iconst (pc' := 322) (z := (2 : Int32)) C at_321 rfl rfl ?_
      refine g_icmpN (xi := 3) (yi := 2) (pc2 := 325) C at_322 rfl rfl rfl (by decide) ?_
      refine g_iload (pc' := 327) C at_325 rfl rfl ?_
      refine g_ifN (xi := 1) (pc2 := 330) C at_327 rfl rfl (by decide) ?_
      refine g_aload (pc' := 332) C at_330 rfl rfl rfl ?_
      refine g_iconst (pc' := 333) (z := (2 : Int32)) C at_332 rfl rfl ?_
      refine g_aaload (pc' := 334) (i := 2) C at_333 rfl Aa19 rfl rfl ?_
      refine g_aload (pc' := 336) C at_334 rfl rfl rfl ?_
      refine g_iconst (pc' := 337) (z := (3 : Int32)) C at_336 rfl rfl ?_
      refine g_iload (pc' := 339) C at_337 rfl rfl ?_
      refine g_irem (pc' := 340) C at_339 rfl (by decide) ?_
      show Go W Q h68 7 18 340 #[.val (.int p0), .val (.int p1), .val (.int p2), .val (.int (2 : Int32)), .val (.int (2 : Int32)), .val (.int z3), .val (.ref r0), .val (.ref a4), .val (.ref a7), .val (.ref a19), .val (.int (3 : Int32)), .val (.int (1 : Int32)), .val (.int (1 : Int32)), .val (.int (0 : Int32)), .val (.int (1 : Int32))] [(.int (0 : Int32)), (.ref a19), (.ref a6)]
      refine g_aaload (pc' := 341) (i := 0) C at_340 rfl Aa19 rfl rfl ?_
      refine g_staticP (y := (⟨"com/example/slot512/slot512/LinkUnlinkPinLaw", "joined", "(Lcom/example/slot512/slot512/Link;Lcom/example/slot512/slot512/Link;)Z"⟩ : MethodName)) (pc' := 344) (k' := 7) (n' := 18) (S := []) (as := [(.ref a6), (.ref r0)]) C at_341 rfl (hw _ (List.mem_of_getElem? (i := 25) rfl)) (hw _ (List.mem_of_getElem? (i := 26) rfl)) (hw _ (List.mem_of_getElem? (i := 27) rfl)) (hw _ (List.mem_of_getElem? (i := 28) rfl)) (by decide) (lenOf pd_2 rfl) (con_joined W.l Z a0 hw a6 r0 (.ref a5) (.ref a5) h68 Oa6 Or0) rfl rfl (Nat.le_of_ble_eq_true rfl) (Nat.le_of_ble_eq_true rfl) rfl rfl (Nat.le_of_ble_eq_true rfl) (Nat.le_of_ble_eq_true rfl) (S1 := [(.int (1 : Int32))]) rfl ?_
      refine g_ifN (xi := 1) (pc2 := 347) C at_344 rfl rfl (by decide) ?_
      refine g_iconst (pc' := 348) (z := (1 : Int32)) C at_347 rfl rfl ?_
      refine g_goto C at_348 (by decide) (pc' := 352) rfl ?_
      refine g_istore (pc' := 354) (L' := #[.val (.int p0), .val (.int p1), .val (.int p2), .val (.int (2 : Int32)), .val (.int (2 : Int32)), .val (.int z3), .val (.ref r0), .val (.ref a4), .val (.ref a7), .val (.ref a19), .val (.int (3 : Int32)), .val (.int (1 : Int32)), .val (.int (1 : Int32)), .val (.int (0 : Int32)), .val (.int (1 : Int32))]) C at_352 rfl rfl ?_
      refine g_iload (pc' := 356) C at_354 rfl rfl ?_
      refine g_iconst (pc' := 357) (z := (3 : Int32)) C at_356 rfl rfl ?_
      refine g_icmpY (xi := 3) (yi := 3) (pc1 := 386) C at_357 (by decide) rfl rfl rfl (by decide) ?_
      refine g_iload (pc' := 388) C at_386 rfl rfl ?_
      refine g_ifY (xi := 1) (pc1 := 413) C at_388 (by decide) rfl rfl (by decide) ?_
      refine g_iload (pc' := 415) C at_413 rfl rfl ?_
      refine g_ifY (xi := 1) (pc1 := 440) C at_415 (by decide) rfl rfl (by decide) ?_
      refine g_iload (pc' := 442) C at_440 rfl rfl ?_
      refine g_ifN (xi := 0) (pc2 := 445) C at_442 rfl rfl (by decide) ?_
      refine g_iload (pc' := 447) C at_445 rfl rfl ?_
      refine g_ifN (xi := 1) (pc2 := 450) C at_447 rfl rfl (by decide) ?_
      refine g_aload (pc' := 452) C at_450 rfl rfl rfl ?_
      refine g_iconst (pc' := 453) (z := (2 : Int32)) C at_452 rfl rfl ?_
      refine g_aaload (pc' := 454) (i := 2) C at_453 rfl Aa4 rfl rfl ?_
      refine g_staticP (y := (⟨"com/example/slot512/slot512/LinkUnlinkPinLaw", "detached", "(Lcom/example/slot512/slot512/Link;)Z"⟩ : MethodName)) (pc' := 457) (k' := 7) (n' := 18) (S := []) (as := [(.ref a7)]) C at_454 rfl (hw _ (List.mem_of_getElem? (i := 31) rfl)) (hw _ (List.mem_of_getElem? (i := 32) rfl)) (hw _ (List.mem_of_getElem? (i := 27) rfl)) (hw _ (List.mem_of_getElem? (i := 33) rfl)) (by decide) (lenOf pd_3 rfl) (con_det W.l Z a0 hw a7 h68 Oa7) rfl rfl (Nat.le_of_ble_eq_true rfl) (Nat.le_of_ble_eq_true rfl) rfl rfl (Nat.le_of_ble_eq_true rfl) (Nat.le_of_ble_eq_true rfl) (S1 := [(.int (1 : Int32))]) rfl ?_
      refine g_ifN (xi := 1) (pc2 := 460) C at_457 rfl rfl (by decide) ?_
      refine g_iconst (pc' := 461) (z := (1 : Int32)) C at_460 rfl rfl ?_
      refine g_goto C at_461 (by decide) (pc' := 465) rfl ?_
      refine g_istore (pc' := 467) (L' := #[.val (.int p0), .val (.int p1), .val (.int p2), .val (.int (2 : Int32)), .val (.int (2 : Int32)), .val (.int z3), .val (.ref r0), .val (.ref a4), .val (.ref a7), .val (.ref a19), .val (.int (3 : Int32)), .val (.int (1 : Int32)), .val (.int (1 : Int32)), .val (.int (0 : Int32)), .val (.int (1 : Int32))]) C at_465 rfl rfl ?_
      refine g_iload (pc' := 469) C at_467 rfl rfl ?_
      refine g_ifN (xi := 1) (pc2 := 472) C at_469 rfl rfl (by decide) ?_
      refine g_aload (pc' := 474) C at_472 rfl rfl rfl ?_
      refine g_iconst (pc' := 475) (z := (3 : Int32)) C at_474 rfl rfl ?_
      refine g_aaload (pc' := 476) (i := 3) C at_475 rfl Aa4 rfl rfl ?_
      refine g_staticP (y := (⟨"com/example/slot512/slot512/LinkUnlinkPinLaw", "detached", "(Lcom/example/slot512/slot512/Link;)Z"⟩ : MethodName)) (pc' := 479) (k' := 7) (n' := 18) (S := []) (as := [(.ref a8)]) C at_476 rfl (hw _ (List.mem_of_getElem? (i := 31) rfl)) (hw _ (List.mem_of_getElem? (i := 32) rfl)) (hw _ (List.mem_of_getElem? (i := 27) rfl)) (hw _ (List.mem_of_getElem? (i := 33) rfl)) (by decide) (lenOf pd_3 rfl) (con_det W.l Z a0 hw a8 h68 Oa8) rfl rfl (Nat.le_of_ble_eq_true rfl) (Nat.le_of_ble_eq_true rfl) rfl rfl (Nat.le_of_ble_eq_true rfl) (Nat.le_of_ble_eq_true rfl) (S1 := [(.int (1 : Int32))]) rfl ?_
      refine g_ifN (xi := 1) (pc2 := 482) C at_479 rfl rfl (by decide) ?_
      refine g_iconst (pc' := 483) (z := (1 : Int32)) C at_482 rfl rfl ?_
      refine g_goto C at_483 (by decide) (pc' := 487) rfl ?_
      refine g_istore (pc' := 489) (L' := #[.val (.int p0), .val (.int p1), .val (.int p2), .val (.int (2 : Int32)), .val (.int (2 : Int32)), .val (.int z3), .val (.ref r0), .val (.ref a4), .val (.ref a7), .val (.ref a19), .val (.int (3 : Int32)), .val (.int (1 : Int32)), .val (.int (1 : Int32)), .val (.int (0 : Int32)), .val (.int (1 : Int32))]) C at_487 rfl rfl ?_
      refine g_iload (pc' := 491) C at_489 rfl rfl ?_
      refine g_retN C (by simp) at_491 (by decide) (by decide) ?_
      subst hQ
      rfl
    ·
      refine g_aload (pc' := 120) C at_118 rfl rfl rfl ?_
      refine g_iload (pc' := 122) C at_120 rfl rfl ?_
      refine g_aaload (pc' := 123) (i := 3) C at_122 rfl Aa4 rfl rfl ?_
      refine g_astore (pc' := 125) (L' := #[.val (.int p0), .val (.int p1), .val (.int p2), .val (.int (2 : Int32)), .val (.int (3 : Int32)), .val (.int z3), .val (.ref r0), .val (.ref a4), .val (.ref a8), .unset, .unset, .unset, .unset, .unset, .unset]) C at_123 rfl rfl rfl ?_
      refine g_aload (pc' := 127) C at_125 rfl rfl rfl ?_
      refine g_virtual (y := (⟨"com/example/slot512/slot512/Link", "unlink", "()V"⟩ : MethodName)) (a := a8) (pc' := 130) (k' := 6) (n' := 14) (S := []) (as := []) C at_127 rfl (hw _ (List.mem_of_getElem? (i := 20) rfl)) (hw _ (List.mem_of_getElem? (i := 22) rfl)) (hw _ (List.mem_of_getElem? (i := 2) rfl)) (hw _ (List.mem_of_getElem? (i := 24) rfl)) (hw _ (List.mem_of_getElem? (i := 21) rfl)) (hw _ (List.mem_of_getElem? (i := 23) rfl)) (by decide) Oa8.1 (lenOf pd_0 rfl) (con_un0 W.l Z a0 hw a8 .null h52 Oa8) rfl rfl (Nat.le_of_ble_eq_true rfl) (Nat.le_of_ble_eq_true rfl) rfl rfl (Nat.le_of_ble_eq_true rfl) (Nat.le_of_ble_eq_true rfl) all0 fun vh69 h69 qh69 Kh69 => ?_
      obtain ⟨rfl, eh⟩ := qh69
      subst eh
      show Go W Q h52 6 14 130 #[.val (.int p0), .val (.int p1), .val (.int p2), .val (.int (2 : Int32)), .val (.int (3 : Int32)), .val (.int z3), .val (.ref r0), .val (.ref a4), .val (.ref a8), .unset, .unset, .unset, .unset, .unset, .unset] []
      refine g_iload (pc' := 132) C at_130 rfl rfl ?_
      suffices K_132 : Go W Q h52 6 14 140 #[.val (.int p0), .val (.int p1), .val (.int p2), .val (.int (2 : Int32)), .val (.int (3 : Int32)), .val (.int z3), .val (.ref r0), .val (.ref a4), .val (.ref a8), .unset, .unset, .unset, .unset, .unset, .unset] [] by
        refine g_ifeqb (pc1 := 140) (pc2 := 135) C at_132 (by decide) rfl rfl e_z3 (fun (c132 : ¬ (¬ ((p2 &&& (1 : Int32)).toInt = 0))) => ?_) (fun (c132 : ¬ ((p2 &&& (1 : Int32)).toInt = 0)) => ?_)
        ·
          replace c132 : (p2 &&& (1 : Int32)).toInt = 0 := Decidable.not_not.mp c132
          exact K_132
        ·
          refine g_aload (pc' := 137) C at_135 rfl rfl rfl ?_
          refine g_virtual (y := (⟨"com/example/slot512/slot512/Link", "unlink", "()V"⟩ : MethodName)) (a := a8) (pc' := 140) (k' := 6) (n' := 14) (S := []) (as := []) C at_137 rfl (hw _ (List.mem_of_getElem? (i := 20) rfl)) (hw _ (List.mem_of_getElem? (i := 22) rfl)) (hw _ (List.mem_of_getElem? (i := 2) rfl)) (hw _ (List.mem_of_getElem? (i := 24) rfl)) (hw _ (List.mem_of_getElem? (i := 21) rfl)) (hw _ (List.mem_of_getElem? (i := 23) rfl)) (by decide) Oa8.1 (lenOf pd_0 rfl) (con_un0 W.l Z a0 hw a8 .null h52 Oa8) rfl rfl (Nat.le_of_ble_eq_true rfl) (Nat.le_of_ble_eq_true rfl) rfl rfl (Nat.le_of_ble_eq_true rfl) (Nat.le_of_ble_eq_true rfl) all0 fun vh70 h70 qh70 Kh70 => ?_
          obtain ⟨rfl, eh⟩ := qh70
          subst eh
          show Go W Q h52 6 14 140 #[.val (.int p0), .val (.int p1), .val (.int p2), .val (.int (2 : Int32)), .val (.int (3 : Int32)), .val (.int z3), .val (.ref r0), .val (.ref a4), .val (.ref a8), .unset, .unset, .unset, .unset, .unset, .unset] []
          exact K_132
      refine g_iconst (pc' := 141) (z := (4 : Int32)) C at_140 rfl rfl ?_
      refine g_anewarray (pc' := 144) (len := 4) (cap := 4) (k' := 7) (n' := 18) C at_141 rfl (hw _ (List.mem_of_getElem? (i := 16) rfl)) (hw _ (List.mem_of_getElem? (i := 17) rfl)) rfl (by decide) (by decide) rfl rfl (by decide) (by decide) fun h71 a20 e_a20 Eh71 Aa20 w_a20 => ?_
      have n_r0_a20 : r0 ≠ a20 := by rw [e_a20]; exact Nat.ne_of_lt Or0.lt
      have n_a5_a20 : a5 ≠ a20 := by rw [e_a20]; exact Nat.ne_of_lt Oa5.lt
      have n_a6_a20 : a6 ≠ a20 := by rw [e_a20]; exact Nat.ne_of_lt Oa6.lt
      have n_a7_a20 : a7 ≠ a20 := by rw [e_a20]; exact Nat.ne_of_lt Oa7.lt
      have n_a8_a20 : a8 ≠ a20 := by rw [e_a20]; exact Nat.ne_of_lt Oa8.lt
      have n_a4_a20 : a4 ≠ a20 := by rw [e_a20]; exact Nat.ne_of_lt Aa4.lt
      replace Or0 := Or0.ext Eh71
      replace Oa5 := Oa5.ext Eh71
      replace Oa6 := Oa6.ext Eh71
      replace Oa7 := Oa7.ext Eh71
      replace Oa8 := Oa8.ext Eh71
      replace Aa4 := Aa4.ext Eh71
      replace Aa20 : ArR Z h71 a20 "com/example/slot512/slot512/Link" [.null, .null, .null, .null] := Aa20
      refine g_astore (pc' := 146) (L' := #[.val (.int p0), .val (.int p1), .val (.int p2), .val (.int (2 : Int32)), .val (.int (3 : Int32)), .val (.int z3), .val (.ref r0), .val (.ref a4), .val (.ref a8), .val (.ref a20), .unset, .unset, .unset, .unset, .unset]) C at_144 rfl rfl rfl ?_
      refine g_aload (pc' := 148) C at_146 rfl rfl rfl ?_
      refine g_iconst (pc' := 149) (z := (0 : Int32)) C at_148 rfl rfl ?_
      refine g_aload (pc' := 151) C at_149 rfl rfl rfl ?_
      refine g_aastore (pc' := 152) (i := 0) (vs' := [(.ref r0), .null, .null, .null]) C at_151 rfl Aa20 rfl (Nat.le_of_ble_eq_true rfl) rfl (Or.inr ⟨_, rfl, Or0.1⟩) w_a20 fun h72 Aa20 Kh72 => ?_
      replace Or0 := Or0.keep Kh72 (ninS n_r0_a20 nin0)
      replace Oa5 := Oa5.keep Kh72 (ninS n_a5_a20 nin0)
      replace Oa6 := Oa6.keep Kh72 (ninS n_a6_a20 nin0)
      replace Oa7 := Oa7.keep Kh72 (ninS n_a7_a20 nin0)
      replace Oa8 := Oa8.keep Kh72 (ninS n_a8_a20 nin0)
      replace Aa4 := Aa4.keep Kh72 (ninS n_a4_a20 nin0)
      refine g_iconst (pc' := 153) (z := (1 : Int32)) C at_152 rfl rfl ?_
      refine g_istore (pc' := 155) (L' := #[.val (.int p0), .val (.int p1), .val (.int p2), .val (.int (2 : Int32)), .val (.int (3 : Int32)), .val (.int z3), .val (.ref r0), .val (.ref a4), .val (.ref a8), .val (.ref a20), .val (.int (1 : Int32)), .unset, .unset, .unset, .unset]) C at_153 rfl rfl ?_
      refine g_iconst (pc' := 156) (z := (0 : Int32)) C at_155 rfl rfl ?_
      refine g_iloadN (pc' := 157) C at_156 rfl rfl ?_
      refine g_icmpN (xi := 0) (yi := 2) (pc2 := 160) C at_157 rfl rfl rfl (by decide) ?_
      refine g_iload (pc' := 162) C at_160 rfl rfl ?_
      refine g_ifN (xi := 3) (pc2 := 165) C at_162 rfl rfl (by decide) ?_
      refine g_iconst (pc' := 166) (z := (1 : Int32)) C at_165 rfl rfl ?_
      refine g_goto C at_166 (by decide) (pc' := 170) rfl ?_
      refine g_istore (pc' := 172) (L' := #[.val (.int p0), .val (.int p1), .val (.int p2), .val (.int (2 : Int32)), .val (.int (3 : Int32)), .val (.int z3), .val (.ref r0), .val (.ref a4), .val (.ref a8), .val (.ref a20), .val (.int (1 : Int32)), .val (.int (1 : Int32)), .unset, .unset, .unset]) C at_170 rfl rfl ?_
      refine g_iconst (pc' := 173) (z := (1 : Int32)) C at_172 rfl rfl ?_
      refine g_iloadN (pc' := 174) C at_173 rfl rfl ?_
      refine g_icmpN (xi := 1) (yi := 2) (pc2 := 177) C at_174 rfl rfl rfl (by decide) ?_
      refine g_iload (pc' := 179) C at_177 rfl rfl ?_
      refine g_iconst (pc' := 180) (z := (1 : Int32)) C at_179 rfl rfl ?_
      refine g_icmpN (xi := 3) (yi := 1) (pc2 := 183) C at_180 rfl rfl rfl (by decide) ?_
      refine g_iconst (pc' := 184) (z := (1 : Int32)) C at_183 rfl rfl ?_
      refine g_goto C at_184 (by decide) (pc' := 188) rfl ?_
      refine g_istore (pc' := 190) (L' := #[.val (.int p0), .val (.int p1), .val (.int p2), .val (.int (2 : Int32)), .val (.int (3 : Int32)), .val (.int z3), .val (.ref r0), .val (.ref a4), .val (.ref a8), .val (.ref a20), .val (.int (1 : Int32)), .val (.int (1 : Int32)), .val (.int (1 : Int32)), .unset, .unset]) C at_188 rfl rfl ?_
      refine g_iconst (pc' := 191) (z := (2 : Int32)) C at_190 rfl rfl ?_
      refine g_iloadN (pc' := 192) C at_191 rfl rfl ?_
      refine g_icmpY (xi := 2) (yi := 2) (pc1 := 205) C at_192 (by decide) rfl rfl rfl (by decide) ?_
      refine g_iconst (pc' := 206) (z := (0 : Int32)) C at_205 rfl rfl ?_
      refine g_istore (pc' := 208) (L' := #[.val (.int p0), .val (.int p1), .val (.int p2), .val (.int (2 : Int32)), .val (.int (3 : Int32)), .val (.int z3), .val (.ref r0), .val (.ref a4), .val (.ref a8), .val (.ref a20), .val (.int (1 : Int32)), .val (.int (1 : Int32)), .val (.int (1 : Int32)), .val (.int (0 : Int32)), .unset]) C at_206 rfl rfl ?_
      refine g_iload (pc' := 210) C at_208 rfl rfl ?_
      refine g_ifN (xi := 1) (pc2 := 213) C at_210 rfl rfl (by decide) ?_
      refine g_aload (pc' := 215) C at_213 rfl rfl rfl ?_
      refine g_iload (pc' := 217) C at_215 rfl rfl ?_
      refine g_aload (pc' := 219) C at_217 rfl rfl rfl ?_
      refine g_iconst (pc' := 220) (z := (0 : Int32)) C at_219 rfl rfl ?_
      refine g_aaload (pc' := 221) (i := 0) C at_220 rfl Aa4 rfl rfl ?_
      refine g_aastore (pc' := 222) (i := 1) (vs' := [(.ref r0), (.ref a5), .null, .null]) C at_221 rfl Aa20 rfl (Nat.le_of_ble_eq_true rfl) rfl (Or.inr ⟨_, rfl, Oa5.1⟩) w_a20 fun h73 Aa20 Kh73 => ?_
      replace Or0 := Or0.keep Kh73 (ninS n_r0_a20 nin0)
      replace Oa5 := Oa5.keep Kh73 (ninS n_a5_a20 nin0)
      replace Oa6 := Oa6.keep Kh73 (ninS n_a6_a20 nin0)
      replace Oa7 := Oa7.keep Kh73 (ninS n_a7_a20 nin0)
      replace Oa8 := Oa8.keep Kh73 (ninS n_a8_a20 nin0)
      replace Aa4 := Aa4.keep Kh73 (ninS n_a4_a20 nin0)
      refine g_iload (pc' := 224) C at_222 rfl rfl ?_
      refine g_iconst (pc' := 225) (z := (1 : Int32)) C at_224 rfl rfl ?_
      refine g_iadd (pc' := 226) C at_225 rfl ?_
      show Go W Q h73 7 18 226 #[.val (.int p0), .val (.int p1), .val (.int p2), .val (.int (2 : Int32)), .val (.int (3 : Int32)), .val (.int z3), .val (.ref r0), .val (.ref a4), .val (.ref a8), .val (.ref a20), .val (.int (1 : Int32)), .val (.int (1 : Int32)), .val (.int (1 : Int32)), .val (.int (0 : Int32)), .unset] [(.int (2 : Int32))]
      refine g_istore (pc' := 228) (L' := #[.val (.int p0), .val (.int p1), .val (.int p2), .val (.int (2 : Int32)), .val (.int (3 : Int32)), .val (.int z3), .val (.ref r0), .val (.ref a4), .val (.ref a8), .val (.ref a20), .val (.int (2 : Int32)), .val (.int (1 : Int32)), .val (.int (1 : Int32)), .val (.int (0 : Int32)), .unset]) C at_226 rfl rfl ?_
      refine g_iload (pc' := 230) C at_228 rfl rfl ?_
      refine g_ifN (xi := 1) (pc2 := 233) C at_230 rfl rfl (by decide) ?_
      refine g_aload (pc' := 235) C at_233 rfl rfl rfl ?_
      refine g_iload (pc' := 237) C at_235 rfl rfl ?_
      refine g_aload (pc' := 239) C at_237 rfl rfl rfl ?_
      refine g_iconst (pc' := 240) (z := (1 : Int32)) C at_239 rfl rfl ?_
      refine g_aaload (pc' := 241) (i := 1) C at_240 rfl Aa4 rfl rfl ?_
      refine g_aastore (pc' := 242) (i := 2) (vs' := [(.ref r0), (.ref a5), (.ref a6), .null]) C at_241 rfl Aa20 rfl (Nat.le_of_ble_eq_true rfl) rfl (Or.inr ⟨_, rfl, Oa6.1⟩) w_a20 fun h74 Aa20 Kh74 => ?_
      replace Or0 := Or0.keep Kh74 (ninS n_r0_a20 nin0)
      replace Oa5 := Oa5.keep Kh74 (ninS n_a5_a20 nin0)
      replace Oa6 := Oa6.keep Kh74 (ninS n_a6_a20 nin0)
      replace Oa7 := Oa7.keep Kh74 (ninS n_a7_a20 nin0)
      replace Oa8 := Oa8.keep Kh74 (ninS n_a8_a20 nin0)
      replace Aa4 := Aa4.keep Kh74 (ninS n_a4_a20 nin0)
      refine g_iload (pc' := 244) C at_242 rfl rfl ?_
      refine g_iconst (pc' := 245) (z := (1 : Int32)) C at_244 rfl rfl ?_
      refine g_iadd (pc' := 246) C at_245 rfl ?_
      show Go W Q h74 7 18 246 #[.val (.int p0), .val (.int p1), .val (.int p2), .val (.int (2 : Int32)), .val (.int (3 : Int32)), .val (.int z3), .val (.ref r0), .val (.ref a4), .val (.ref a8), .val (.ref a20), .val (.int (2 : Int32)), .val (.int (1 : Int32)), .val (.int (1 : Int32)), .val (.int (0 : Int32)), .unset] [(.int (3 : Int32))]
      refine g_istore (pc' := 248) (L' := #[.val (.int p0), .val (.int p1), .val (.int p2), .val (.int (2 : Int32)), .val (.int (3 : Int32)), .val (.int z3), .val (.ref r0), .val (.ref a4), .val (.ref a8), .val (.ref a20), .val (.int (3 : Int32)), .val (.int (1 : Int32)), .val (.int (1 : Int32)), .val (.int (0 : Int32)), .unset]) C at_246 rfl rfl ?_
      refine g_iload (pc' := 250) C at_248 rfl rfl ?_
      refine g_ifY (xi := 0) (pc1 := 268) C at_250 (by decide) rfl rfl (by decide) ?_
      refine g_aload (pc' := 270) C at_268 rfl rfl rfl ?_
      refine g_iconst (pc' := 271) (z := (0 : Int32)) C at_270 rfl rfl ?_
      refine g_aaload (pc' := 272) (i := 0) C at_271 rfl Aa20 rfl rfl ?_
      refine g_aload (pc' := 274) C at_272 rfl rfl rfl ?_
      refine g_iconst (pc' := 275) (z := (1 : Int32)) C at_274 rfl rfl ?_
      refine g_iload (pc' := 277) C at_275 rfl rfl ?_
      refine g_irem (pc' := 278) C at_277 rfl (by decide) ?_
      show Go W Q h74 7 18 278 #[.val (.int p0), .val (.int p1), .val (.int p2), .val (.int (2 : Int32)), .val (.int (3 : Int32)), .val (.int z3), .val (.ref r0), .val (.ref a4), .val (.ref a8), .val (.ref a20), .val (.int (3 : Int32)), .val (.int (1 : Int32)), .val (.int (1 : Int32)), .val (.int (0 : Int32)), .unset] [(.int (1 : Int32)), (.ref a20), (.ref r0)]
      refine g_aaload (pc' := 279) (i := 1) C at_278 rfl Aa20 rfl rfl ?_
      refine g_staticP (y := (⟨"com/example/slot512/slot512/LinkUnlinkPinLaw", "joined", "(Lcom/example/slot512/slot512/Link;Lcom/example/slot512/slot512/Link;)Z"⟩ : MethodName)) (pc' := 282) (k' := 7) (n' := 18) (S := []) (as := [(.ref r0), (.ref a5)]) C at_279 rfl (hw _ (List.mem_of_getElem? (i := 25) rfl)) (hw _ (List.mem_of_getElem? (i := 26) rfl)) (hw _ (List.mem_of_getElem? (i := 27) rfl)) (hw _ (List.mem_of_getElem? (i := 28) rfl)) (by decide) (lenOf pd_2 rfl) (con_joined W.l Z a0 hw r0 a5 (.ref a6) (.ref a6) h74 Or0 Oa5) rfl rfl (Nat.le_of_ble_eq_true rfl) (Nat.le_of_ble_eq_true rfl) rfl rfl (Nat.le_of_ble_eq_true rfl) (Nat.le_of_ble_eq_true rfl) (S1 := [(.int (1 : Int32))]) rfl ?_
      refine g_istore (pc' := 284) (L' := #[.val (.int p0), .val (.int p1), .val (.int p2), .val (.int (2 : Int32)), .val (.int (3 : Int32)), .val (.int z3), .val (.ref r0), .val (.ref a4), .val (.ref a8), .val (.ref a20), .val (.int (3 : Int32)), .val (.int (1 : Int32)), .val (.int (1 : Int32)), .val (.int (0 : Int32)), .val (.int (1 : Int32))]) C at_282 rfl rfl ?_
      refine g_iload (pc' := 286) C at_284 rfl rfl ?_
      refine g_iconst (pc' := 287) (z := (1 : Int32)) C at_286 rfl rfl ?_
      refine g_icmpN (xi := 3) (yi := 1) (pc2 := 290) C at_287 rfl rfl rfl (by decide) ?_
      refine g_iload (pc' := 292) C at_290 rfl rfl ?_
      refine g_ifN (xi := 1) (pc2 := 295) C at_292 rfl rfl (by decide) ?_
      refine g_aload (pc' := 297) C at_295 rfl rfl rfl ?_
      refine g_iconst (pc' := 298) (z := (1 : Int32)) C at_297 rfl rfl ?_
      refine g_aaload (pc' := 299) (i := 1) C at_298 rfl Aa20 rfl rfl ?_
      refine g_aload (pc' := 301) C at_299 rfl rfl rfl ?_
      refine g_iconst (pc' := 302) (z := (2 : Int32)) C at_301 rfl rfl ?_
      refine g_iload (pc' := 304) C at_302 rfl rfl ?_
      refine g_irem (pc' := 305) C at_304 rfl (by decide) ?_
      show Go W Q h74 7 18 305 #[.val (.int p0), .val (.int p1), .val (.int p2), .val (.int (2 : Int32)), .val (.int (3 : Int32)), .val (.int z3), .val (.ref r0), .val (.ref a4), .val (.ref a8), .val (.ref a20), .val (.int (3 : Int32)), .val (.int (1 : Int32)), .val (.int (1 : Int32)), .val (.int (0 : Int32)), .val (.int (1 : Int32))] [(.int (2 : Int32)), (.ref a20), (.ref a5)]
      refine g_aaload (pc' := 306) (i := 2) C at_305 rfl Aa20 rfl rfl ?_
      refine g_staticP (y := (⟨"com/example/slot512/slot512/LinkUnlinkPinLaw", "joined", "(Lcom/example/slot512/slot512/Link;Lcom/example/slot512/slot512/Link;)Z"⟩ : MethodName)) (pc' := 309) (k' := 7) (n' := 18) (S := []) (as := [(.ref a5), (.ref a6)]) C at_306 rfl (hw _ (List.mem_of_getElem? (i := 25) rfl)) (hw _ (List.mem_of_getElem? (i := 26) rfl)) (hw _ (List.mem_of_getElem? (i := 27) rfl)) (hw _ (List.mem_of_getElem? (i := 28) rfl)) (by decide) (lenOf pd_2 rfl) (con_joined W.l Z a0 hw a5 a6 (.ref r0) (.ref r0) h74 Oa5 Oa6) rfl rfl (Nat.le_of_ble_eq_true rfl) (Nat.le_of_ble_eq_true rfl) rfl rfl (Nat.le_of_ble_eq_true rfl) (Nat.le_of_ble_eq_true rfl) (S1 := [(.int (1 : Int32))]) rfl ?_
      refine g_ifN (xi := 1) (pc2 := 312) C at_309 rfl rfl (by decide) ?_
      refine g_iconst (pc' := 313) (z := (1 : Int32)) C at_312 rfl rfl ?_
      refine g_goto C at_313 (by decide) (pc' := 317) rfl ?_
      refine g_istore (pc' := 319) (L' := #[.val (.int p0), .val (.int p1), .val (.int p2), .val (.int (2 : Int32)), .val (.int (3 : Int32)), .val (.int z3), .val (.ref r0), .val (.ref a4), .val (.ref a8), .val (.ref a20), .val (.int (3 : Int32)), .val (.int (1 : Int32)), .val (.int (1 : Int32)), .val (.int (0 : Int32)), .val (.int (1 : Int32))]) C at_317 rfl rfl ?_
      refine g_iload (pc' := 321) C at_319 rfl rfl ?_
      refine g_iconst (pc' := 322) (z := (2 : Int32)) C at_321 rfl rfl ?_
      refine g_icmpN (xi := 3) (yi := 2) (pc2 := 325) C at_322 rfl rfl rfl (by decide) ?_
      refine g_iload (pc' := 327) C at_325 rfl rfl ?_
      refine g_ifN (xi := 1) (pc2 := 330) C at_327 rfl rfl (by decide) ?_
      refine g_aload (pc' := 332) C at_330 rfl rfl rfl ?_
      refine g_iconst (pc' := 333) (z := (2 : Int32)) C at_332 rfl rfl ?_
      refine g_aaload (pc' := 334) (i := 2) C at_333 rfl Aa20 rfl rfl ?_
      refine g_aload (pc' := 336) C at_334 rfl rfl rfl ?_
      refine g_iconst (pc' := 337) (z := (3 : Int32)) C at_336 rfl rfl ?_
      refine g_iload (pc' := 339) C at_337 rfl rfl ?_
      refine g_irem (pc' := 340) C at_339 rfl (by decide) ?_
      show Go W Q h74 7 18 340 #[.val (.int p0), .val (.int p1), .val (.int p2), .val (.int (2 : Int32)), .val (.int (3 : Int32)), .val (.int z3), .val (.ref r0), .val (.ref a4), .val (.ref a8), .val (.ref a20), .val (.int (3 : Int32)), .val (.int (1 : Int32)), .val (.int (1 : Int32)), .val (.int (0 : Int32)), .val (.int (1 : Int32))] [(.int (0 : Int32)), (.ref a20), (.ref a6)]
      refine g_aaload (pc' := 341) (i := 0) C at_340 rfl Aa20 rfl rfl ?_
      refine g_staticP (y := (⟨"com/example/slot512/slot512/LinkUnlinkPinLaw", "joined", "(Lcom/example/slot512/slot512/Link;Lcom/example/slot512/slot512/Link;)Z"⟩ : MethodName)) (pc' := 344) (k' := 7) (n' := 18) (S := []) (as := [(.ref a6), (.ref r0)]) C at_341 rfl (hw _ (List.mem_of_getElem? (i := 25) rfl)) (hw _ (List.mem_of_getElem? (i := 26) rfl)) (hw _ (List.mem_of_getElem? (i := 27) rfl)) (hw _ (List.mem_of_getElem? (i := 28) rfl)) (by decide) (lenOf pd_2 rfl) (con_joined W.l Z a0 hw a6 r0 (.ref a5) (.ref a5) h74 Oa6 Or0) rfl rfl (Nat.le_of_ble_eq_true rfl) (Nat.le_of_ble_eq_true rfl) rfl rfl (Nat.le_of_ble_eq_true rfl) (Nat.le_of_ble_eq_true rfl) (S1 := [(.int (1 : Int32))]) rfl ?_
      refine g_ifN (xi := 1) (pc2 := 347) C at_344 rfl rfl (by decide) ?_
      refine g_iconst (pc' := 348) (z := (1 : Int32)) C at_347 rfl rfl ?_
      refine g_goto C at_348 (by decide) (pc' := 352) rfl ?_
      refine g_istore (pc' := 354) (L' := #[.val (.int p0), .val (.int p1), .val (.int p2), .val (.int (2 : Int32)), .val (.int (3 : Int32)), .val (.int z3), .val (.ref r0), .val (.ref a4), .val (.ref a8), .val (.ref a20), .val (.int (3 : Int32)), .val (.int (1 : Int32)), .val (.int (1 : Int32)), .val (.int (0 : Int32)), .val (.int (1 : Int32))]) C at_352 rfl rfl ?_
      refine g_iload (pc' := 356) C at_354 rfl rfl ?_
      refine g_iconst (pc' := 357) (z := (3 : Int32)) C at_356 rfl rfl ?_
      refine g_icmpY (xi := 3) (yi := 3) (pc1 := 386) C at_357 (by decide) rfl rfl rfl (by decide) ?_
      refine g_iload (pc' := 388) C at_386 rfl rfl ?_
      refine g_ifY (xi := 1) (pc1 := 413) C at_388 (by decide) rfl rfl (by decide) ?_
      refine g_iload (pc' := 415) C at_413 rfl rfl ?_
      refine g_ifY (xi := 1) (pc1 := 440) C at_415 (by decide) rfl rfl (by decide) ?_
      refine g_iload (pc' := 442) C at_440 rfl rfl ?_
      refine g_ifN (xi := 0) (pc2 := 445) C at_442 rfl rfl (by decide) ?_
      refine g_iload (pc' := 447) C at_445 rfl rfl ?_
      refine g_ifN (xi := 1) (pc2 := 450) C at_447 rfl rfl (by decide) ?_
      refine g_aload (pc' := 452) C at_450 rfl rfl rfl ?_
      refine g_iconst (pc' := 453) (z := (2 : Int32)) C at_452 rfl rfl ?_
      refine g_aaload (pc' := 454) (i := 2) C at_453 rfl Aa4 rfl rfl ?_
      refine g_staticP (y := (⟨"com/example/slot512/slot512/LinkUnlinkPinLaw", "detached", "(Lcom/example/slot512/slot512/Link;)Z"⟩ : MethodName)) (pc' := 457) (k' := 7) (n' := 18) (S := []) (as := [(.ref a7)]) C at_454 rfl (hw _ (List.mem_of_getElem? (i := 31) rfl)) (hw _ (List.mem_of_getElem? (i := 32) rfl)) (hw _ (List.mem_of_getElem? (i := 27) rfl)) (hw _ (List.mem_of_getElem? (i := 33) rfl)) (by decide) (lenOf pd_3 rfl) (con_det W.l Z a0 hw a7 h74 Oa7) rfl rfl (Nat.le_of_ble_eq_true rfl) (Nat.le_of_ble_eq_true rfl) rfl rfl (Nat.le_of_ble_eq_true rfl) (Nat.le_of_ble_eq_true rfl) (S1 := [(.int (1 : Int32))]) rfl ?_
      refine g_ifN (xi := 1) (pc2 := 460) C at_457 rfl rfl (by decide) ?_
      refine g_iconst (pc' := 461) (z := (1 : Int32)) C at_460 rfl rfl ?_
      refine g_goto C at_461 (by decide) (pc' := 465) rfl ?_
      refine g_istore (pc' := 467) (L' := #[.val (.int p0), .val (.int p1), .val (.int p2), .val (.int (2 : Int32)), .val (.int (3 : Int32)), .val (.int z3), .val (.ref r0), .val (.ref a4), .val (.ref a8), .val (.ref a20), .val (.int (3 : Int32)), .val (.int (1 : Int32)), .val (.int (1 : Int32)), .val (.int (0 : Int32)), .val (.int (1 : Int32))]) C at_465 rfl rfl ?_
      refine g_iload (pc' := 469) C at_467 rfl rfl ?_
      refine g_ifN (xi := 1) (pc2 := 472) C at_469 rfl rfl (by decide) ?_
      refine g_aload (pc' := 474) C at_472 rfl rfl rfl ?_
      refine g_iconst (pc' := 475) (z := (3 : Int32)) C at_474 rfl rfl ?_
      refine g_aaload (pc' := 476) (i := 3) C at_475 rfl Aa4 rfl rfl ?_
      refine g_staticP (y := (⟨"com/example/slot512/slot512/LinkUnlinkPinLaw", "detached", "(Lcom/example/slot512/slot512/Link;)Z"⟩ : MethodName)) (pc' := 479) (k' := 7) (n' := 18) (S := []) (as := [(.ref a8)]) C at_476 rfl (hw _ (List.mem_of_getElem? (i := 31) rfl)) (hw _ (List.mem_of_getElem? (i := 32) rfl)) (hw _ (List.mem_of_getElem? (i := 27) rfl)) (hw _ (List.mem_of_getElem? (i := 33) rfl)) (by decide) (lenOf pd_3 rfl) (con_det W.l Z a0 hw a8 h74 Oa8) rfl rfl (Nat.le_of_ble_eq_true rfl) (Nat.le_of_ble_eq_true rfl) rfl rfl (Nat.le_of_ble_eq_true rfl) (Nat.le_of_ble_eq_true rfl) (S1 := [(.int (1 : Int32))]) rfl ?_
      refine g_ifN (xi := 1) (pc2 := 482) C at_479 rfl rfl (by decide) ?_
      refine g_iconst (pc' := 483) (z := (1 : Int32)) C at_482 rfl rfl ?_
      refine g_goto C at_483 (by decide) (pc' := 487) rfl ?_
      refine g_istore (pc' := 489) (L' := #[.val (.int p0), .val (.int p1), .val (.int p2), .val (.int (2 : Int32)), .val (.int (3 : Int32)), .val (.int z3), .val (.ref r0), .val (.ref a4), .val (.ref a8), .val (.ref a20), .val (.int (3 : Int32)), .val (.int (1 : Int32)), .val (.int (1 : Int32)), .val (.int (0 : Int32)), .val (.int (1 : Int32))]) C at_487 rfl rfl ?_
      refine g_iload (pc' := 491) C at_489 rfl rfl ?_
      refine g_retN C (by simp) at_491 (by decide) (by decide) ?_
      subst hQ
      rfl
  ·
    refine g_iloadN (pc' := 78) C at_77 rfl rfl ?_
    refine g_ifN (xi := 3) (pc2 := 81) C at_78 rfl rfl (by decide) ?_
    refine g_aload (pc' := 83) C at_81 rfl rfl rfl ?_
    refine g_iconst (pc' := 84) (z := (0 : Int32)) C at_83 rfl rfl ?_
    refine g_aaload (pc' := 85) (i := 0) C at_84 rfl Aa4 rfl rfl ?_
    refine g_aload (pc' := 87) C at_85 rfl rfl rfl ?_
    refine g_virtual (y := (⟨"com/example/slot512/slot512/Link", "linkAtEndOf", "(Lcom/example/slot512/slot512/Link;)V"⟩ : MethodName)) (a := a5) (pc' := 90) (k' := 6) (n' := 14) (S := []) (as := [(.ref r0)]) C at_87 rfl (hw _ (List.mem_of_getElem? (i := 34) rfl)) (hw _ (List.mem_of_getElem? (i := 36) rfl)) (hw _ (List.mem_of_getElem? (i := 2) rfl)) (hw _ (List.mem_of_getElem? (i := 38) rfl)) (hw _ (List.mem_of_getElem? (i := 35) rfl)) (hw _ (List.mem_of_getElem? (i := 37) rfl)) (by decide) Oa5.1 (lenOf pd_4 rfl) (con_link0 W.l Z a0 hw a5 r0 .null .null (.ref r0) (Ne.symm n_r0_a5) h14 Oa5 Or0) rfl rfl (Nat.le_of_ble_eq_true rfl) (Nat.le_of_ble_eq_true rfl) rfl rfl (Nat.le_of_ble_eq_true rfl) (Nat.le_of_ble_eq_true rfl) (allS w_a5 (allS w_r0 all0)) fun vh75 h75 qh75 Kh75 => ?_
    obtain ⟨rfl, Oa5, Or0⟩ := qh75
    replace Oa6 := Oa6.keep Kh75 (ninS (Ne.symm n_a5_a6) (ninS (Ne.symm n_r0_a6) nin0))
    replace Oa7 := Oa7.keep Kh75 (ninS (Ne.symm n_a5_a7) (ninS (Ne.symm n_r0_a7) nin0))
    replace Oa8 := Oa8.keep Kh75 (ninS (Ne.symm n_a5_a8) (ninS (Ne.symm n_r0_a8) nin0))
    replace Aa4 := Aa4.keep Kh75 (ninS n_a4_a5 (ninS (Ne.symm n_r0_a4) nin0))
    show Go W Q h75 6 14 90 #[.val (.int p0), .val (.int p1), .val (.int p2), .val (.int (3 : Int32)), .val (.int i2), .val (.int z3), .val (.ref r0), .val (.ref a4), .unset, .unset, .unset, .unset, .unset, .unset, .unset] []
    refine g_iloadN (pc' := 91) C at_90 rfl rfl ?_
    refine g_iconst (pc' := 92) (z := (1 : Int32)) C at_91 rfl rfl ?_
    refine g_icmpN (xi := 3) (yi := 1) (pc2 := 95) C at_92 rfl rfl rfl (by decide) ?_
    refine g_aload (pc' := 97) C at_95 rfl rfl rfl ?_
    refine g_iconst (pc' := 98) (z := (1 : Int32)) C at_97 rfl rfl ?_
    refine g_aaload (pc' := 99) (i := 1) C at_98 rfl Aa4 rfl rfl ?_
    refine g_aload (pc' := 101) C at_99 rfl rfl rfl ?_
    refine g_virtual (y := (⟨"com/example/slot512/slot512/Link", "linkAtEndOf", "(Lcom/example/slot512/slot512/Link;)V"⟩ : MethodName)) (a := a6) (pc' := 104) (k' := 6) (n' := 14) (S := []) (as := [(.ref r0)]) C at_101 rfl (hw _ (List.mem_of_getElem? (i := 34) rfl)) (hw _ (List.mem_of_getElem? (i := 36) rfl)) (hw _ (List.mem_of_getElem? (i := 2) rfl)) (hw _ (List.mem_of_getElem? (i := 38) rfl)) (hw _ (List.mem_of_getElem? (i := 35) rfl)) (hw _ (List.mem_of_getElem? (i := 37) rfl)) (by decide) Oa6.1 (lenOf pd_4 rfl) (con_link1 W.l Z a0 hw a6 r0 a5 .null .null (.ref a5) (.ref r0) (.ref r0) (Ne.symm n_r0_a6) (Ne.symm n_a5_a6) (Ne.symm n_r0_a5) h75 Oa6 Or0 Oa5) rfl rfl (Nat.le_of_ble_eq_true rfl) (Nat.le_of_ble_eq_true rfl) rfl rfl (Nat.le_of_ble_eq_true rfl) (Nat.le_of_ble_eq_true rfl) (allS w_a6 (allS w_r0 (allS w_a5 all0))) fun vh76 h76 qh76 Kh76 => ?_
    obtain ⟨rfl, Oa6, Or0, Oa5⟩ := qh76
    replace Oa7 := Oa7.keep Kh76 (ninS (Ne.symm n_a6_a7) (ninS (Ne.symm n_r0_a7) (ninS (Ne.symm n_a5_a7) nin0)))
    replace Oa8 := Oa8.keep Kh76 (ninS (Ne.symm n_a6_a8) (ninS (Ne.symm n_r0_a8) (ninS (Ne.symm n_a5_a8) nin0)))
    replace Aa4 := Aa4.keep Kh76 (ninS n_a4_a6 (ninS (Ne.symm n_r0_a4) (ninS n_a4_a5 nin0)))
    show Go W Q h76 6 14 104 #[.val (.int p0), .val (.int p1), .val (.int p2), .val (.int (3 : Int32)), .val (.int i2), .val (.int z3), .val (.ref r0), .val (.ref a4), .unset, .unset, .unset, .unset, .unset, .unset, .unset] []
    refine g_iloadN (pc' := 105) C at_104 rfl rfl ?_
    refine g_iconst (pc' := 106) (z := (2 : Int32)) C at_105 rfl rfl ?_
    refine g_icmpN (xi := 3) (yi := 2) (pc2 := 109) C at_106 rfl rfl rfl (by decide) ?_
    refine g_aload (pc' := 111) C at_109 rfl rfl rfl ?_
    refine g_iconst (pc' := 112) (z := (2 : Int32)) C at_111 rfl rfl ?_
    refine g_aaload (pc' := 113) (i := 2) C at_112 rfl Aa4 rfl rfl ?_
    refine g_aload (pc' := 115) C at_113 rfl rfl rfl ?_
    refine g_virtual (y := (⟨"com/example/slot512/slot512/Link", "linkAtEndOf", "(Lcom/example/slot512/slot512/Link;)V"⟩ : MethodName)) (a := a7) (pc' := 118) (k' := 6) (n' := 14) (S := []) (as := [(.ref r0)]) C at_115 rfl (hw _ (List.mem_of_getElem? (i := 34) rfl)) (hw _ (List.mem_of_getElem? (i := 36) rfl)) (hw _ (List.mem_of_getElem? (i := 2) rfl)) (hw _ (List.mem_of_getElem? (i := 38) rfl)) (hw _ (List.mem_of_getElem? (i := 35) rfl)) (hw _ (List.mem_of_getElem? (i := 37) rfl)) (by decide) Oa7.1 (lenOf pd_4 rfl) (con_link1 W.l Z a0 hw a7 r0 a6 .null .null (.ref a5) (.ref a5) (.ref r0) (Ne.symm n_r0_a7) (Ne.symm n_a6_a7) (Ne.symm n_r0_a6) h76 Oa7 Or0 Oa6) rfl rfl (Nat.le_of_ble_eq_true rfl) (Nat.le_of_ble_eq_true rfl) rfl rfl (Nat.le_of_ble_eq_true rfl) (Nat.le_of_ble_eq_true rfl) (allS w_a7 (allS w_r0 (allS w_a6 all0))) fun vh77 h77 qh77 Kh77 => ?_
    obtain ⟨rfl, Oa7, Or0, Oa6⟩ := qh77
    replace Oa5 := Oa5.keep Kh77 (ninS n_a5_a7 (ninS (Ne.symm n_r0_a5) (ninS n_a5_a6 nin0)))
    replace Oa8 := Oa8.keep Kh77 (ninS (Ne.symm n_a7_a8) (ninS (Ne.symm n_r0_a8) (ninS (Ne.symm n_a6_a8) nin0)))
    replace Aa4 := Aa4.keep Kh77 (ninS n_a4_a7 (ninS (Ne.symm n_r0_a4) (ninS n_a4_a6 nin0)))
    show Go W Q h77 6 14 118 #[.val (.int p0), .val (.int p1), .val (.int p2), .val (.int (3 : Int32)), .val (.int i2), .val (.int z3), .val (.ref r0), .val (.ref a4), .unset, .unset, .unset, .unset, .unset, .unset, .unset] []
    have sp_i2 : i2 = 0 ∨ i2 = 1 ∨ i2 = 2 ∨ i2 = 3 := by
      have y1 := c_mask p1 3 2 (by decide) (by decide)
      rw [← e_i2] at y1
      have z0 : (0 : Int32).toInt = 0 := rfl
      have z1 : (1 : Int32).toInt = 1 := rfl
      have z2 : (2 : Int32).toInt = 2 := rfl
      have z3 : (3 : Int32).toInt = 3 := rfl
      rcases (by omega : i2.toInt = 0 ∨ i2.toInt = 1 ∨ i2.toInt = 2 ∨ i2.toInt = 3) with y | y | y | y
      · exact Or.inl (Int32.toInt_inj.mp (by omega))
      · exact Or.inr (Or.inl (Int32.toInt_inj.mp (by omega)))
      · exact Or.inr (Or.inr (Or.inl (Int32.toInt_inj.mp (by omega))))
      · exact Or.inr (Or.inr (Or.inr (Int32.toInt_inj.mp (by omega))))
    clear e_i2
    rcases sp_i2 with sp_i2 | sp_i2 | sp_i2 | sp_i2 <;> subst sp_i2
    ·
      refine g_aload (pc' := 120) C at_118 rfl rfl rfl ?_
      refine g_iload (pc' := 122) C at_120 rfl rfl ?_
      refine g_aaload (pc' := 123) (i := 0) C at_122 rfl Aa4 rfl rfl ?_
      refine g_astore (pc' := 125) (L' := #[.val (.int p0), .val (.int p1), .val (.int p2), .val (.int (3 : Int32)), .val (.int (0 : Int32)), .val (.int z3), .val (.ref r0), .val (.ref a4), .val (.ref a5), .unset, .unset, .unset, .unset, .unset, .unset]) C at_123 rfl rfl rfl ?_
      refine g_aload (pc' := 127) C at_125 rfl rfl rfl ?_
      refine g_virtual (y := (⟨"com/example/slot512/slot512/Link", "unlink", "()V"⟩ : MethodName)) (a := a5) (pc' := 130) (k' := 6) (n' := 14) (S := []) (as := []) C at_127 rfl (hw _ (List.mem_of_getElem? (i := 20) rfl)) (hw _ (List.mem_of_getElem? (i := 22) rfl)) (hw _ (List.mem_of_getElem? (i := 2) rfl)) (hw _ (List.mem_of_getElem? (i := 24) rfl)) (hw _ (List.mem_of_getElem? (i := 21) rfl)) (hw _ (List.mem_of_getElem? (i := 23) rfl)) (by decide) Oa5.1 (lenOf pd_0 rfl) (con_un2 W.l Z a0 hw a5 r0 a6 (.ref a7) (.ref a5) (.ref a5) (.ref a7) (Ne.symm n_r0_a5) n_a5_a6 n_r0_a6 h77 Oa5 Or0 Oa6) rfl rfl (Nat.le_of_ble_eq_true rfl) (Nat.le_of_ble_eq_true rfl) rfl rfl (Nat.le_of_ble_eq_true rfl) (Nat.le_of_ble_eq_true rfl) (allS w_a5 (allS w_r0 (allS w_a6 all0))) fun vh78 h78 qh78 Kh78 => ?_
      obtain ⟨rfl, Oa5, Or0, Oa6⟩ := qh78
      replace Oa7 := Oa7.keep Kh78 (ninS (Ne.symm n_a5_a7) (ninS (Ne.symm n_r0_a7) (ninS (Ne.symm n_a6_a7) nin0)))
      replace Oa8 := Oa8.keep Kh78 (ninS (Ne.symm n_a5_a8) (ninS (Ne.symm n_r0_a8) (ninS (Ne.symm n_a6_a8) nin0)))
      replace Aa4 := Aa4.keep Kh78 (ninS n_a4_a5 (ninS (Ne.symm n_r0_a4) (ninS n_a4_a6 nin0)))
      show Go W Q h78 6 14 130 #[.val (.int p0), .val (.int p1), .val (.int p2), .val (.int (3 : Int32)), .val (.int (0 : Int32)), .val (.int z3), .val (.ref r0), .val (.ref a4), .val (.ref a5), .unset, .unset, .unset, .unset, .unset, .unset] []
      refine g_iload (pc' := 132) C at_130 rfl rfl ?_
      suffices K_132 : Go W Q h78 6 14 140 #[.val (.int p0), .val (.int p1), .val (.int p2), .val (.int (3 : Int32)), .val (.int (0 : Int32)), .val (.int z3), .val (.ref r0), .val (.ref a4), .val (.ref a5), .unset, .unset, .unset, .unset, .unset, .unset] [] by
        refine g_ifeqb (pc1 := 140) (pc2 := 135) C at_132 (by decide) rfl rfl e_z3 (fun (c132 : ¬ (¬ ((p2 &&& (1 : Int32)).toInt = 0))) => ?_) (fun (c132 : ¬ ((p2 &&& (1 : Int32)).toInt = 0)) => ?_)
        ·
          replace c132 : (p2 &&& (1 : Int32)).toInt = 0 := Decidable.not_not.mp c132
          exact K_132
        ·
          refine g_aload (pc' := 137) C at_135 rfl rfl rfl ?_
          refine g_virtual (y := (⟨"com/example/slot512/slot512/Link", "unlink", "()V"⟩ : MethodName)) (a := a5) (pc' := 140) (k' := 6) (n' := 14) (S := []) (as := []) C at_137 rfl (hw _ (List.mem_of_getElem? (i := 20) rfl)) (hw _ (List.mem_of_getElem? (i := 22) rfl)) (hw _ (List.mem_of_getElem? (i := 2) rfl)) (hw _ (List.mem_of_getElem? (i := 24) rfl)) (hw _ (List.mem_of_getElem? (i := 21) rfl)) (hw _ (List.mem_of_getElem? (i := 23) rfl)) (by decide) Oa5.1 (lenOf pd_0 rfl) (con_un0 W.l Z a0 hw a5 .null h78 Oa5) rfl rfl (Nat.le_of_ble_eq_true rfl) (Nat.le_of_ble_eq_true rfl) rfl rfl (Nat.le_of_ble_eq_true rfl) (Nat.le_of_ble_eq_true rfl) all0 fun vh79 h79 qh79 Kh79 => ?_
          obtain ⟨rfl, eh⟩ := qh79
          subst eh
          show Go W Q h78 6 14 140 #[.val (.int p0), .val (.int p1), .val (.int p2), .val (.int (3 : Int32)), .val (.int (0 : Int32)), .val (.int z3), .val (.ref r0), .val (.ref a4), .val (.ref a5), .unset, .unset, .unset, .unset, .unset, .unset] []
          exact K_132
      refine g_iconst (pc' := 141) (z := (4 : Int32)) C at_140 rfl rfl ?_
      refine g_anewarray (pc' := 144) (len := 4) (cap := 4) (k' := 7) (n' := 18) C at_141 rfl (hw _ (List.mem_of_getElem? (i := 16) rfl)) (hw _ (List.mem_of_getElem? (i := 17) rfl)) rfl (by decide) (by decide) rfl rfl (by decide) (by decide) fun h80 a21 e_a21 Eh80 Aa21 w_a21 => ?_
      have n_r0_a21 : r0 ≠ a21 := by rw [e_a21]; exact Nat.ne_of_lt Or0.lt
      have n_a5_a21 : a5 ≠ a21 := by rw [e_a21]; exact Nat.ne_of_lt Oa5.lt
      have n_a6_a21 : a6 ≠ a21 := by rw [e_a21]; exact Nat.ne_of_lt Oa6.lt
      have n_a7_a21 : a7 ≠ a21 := by rw [e_a21]; exact Nat.ne_of_lt Oa7.lt
      have n_a8_a21 : a8 ≠ a21 := by rw [e_a21]; exact Nat.ne_of_lt Oa8.lt
      have n_a4_a21 : a4 ≠ a21 := by rw [e_a21]; exact Nat.ne_of_lt Aa4.lt
      replace Or0 := Or0.ext Eh80
      replace Oa5 := Oa5.ext Eh80
      replace Oa6 := Oa6.ext Eh80
      replace Oa7 := Oa7.ext Eh80
      replace Oa8 := Oa8.ext Eh80
      replace Aa4 := Aa4.ext Eh80
      replace Aa21 : ArR Z h80 a21 "com/example/slot512/slot512/Link" [.null, .null, .null, .null] := Aa21
      refine g_astore (pc' := 146) (L' := #[.val (.int p0), .val (.int p1), .val (.int p2), .val (.int (3 : Int32)), .val (.int (0 : Int32)), .val (.int z3), .val (.ref r0), .val (.ref a4), .val (.ref a5), .val (.ref a21), .unset, .unset, .unset, .unset, .unset]) C at_144 rfl rfl rfl ?_
      refine g_aload (pc' := 148) C at_146 rfl rfl rfl ?_
      refine g_iconst (pc' := 149) (z := (0 : Int32)) C at_148 rfl rfl ?_
      refine g_aload (pc' := 151) C at_149 rfl rfl rfl ?_
      refine g_aastore (pc' := 152) (i := 0) (vs' := [(.ref r0), .null, .null, .null]) C at_151 rfl Aa21 rfl (Nat.le_of_ble_eq_true rfl) rfl (Or.inr ⟨_, rfl, Or0.1⟩) w_a21 fun h81 Aa21 Kh81 => ?_
      replace Or0 := Or0.keep Kh81 (ninS n_r0_a21 nin0)
      replace Oa5 := Oa5.keep Kh81 (ninS n_a5_a21 nin0)
      replace Oa6 := Oa6.keep Kh81 (ninS n_a6_a21 nin0)
      replace Oa7 := Oa7.keep Kh81 (ninS n_a7_a21 nin0)
      replace Oa8 := Oa8.keep Kh81 (ninS n_a8_a21 nin0)
      replace Aa4 := Aa4.keep Kh81 (ninS n_a4_a21 nin0)
      refine g_iconst (pc' := 153) (z := (1 : Int32)) C at_152 rfl rfl ?_
      refine g_istore (pc' := 155) (L' := #[.val (.int p0), .val (.int p1), .val (.int p2), .val (.int (3 : Int32)), .val (.int (0 : Int32)), .val (.int z3), .val (.ref r0), .val (.ref a4), .val (.ref a5), .val (.ref a21), .val (.int (1 : Int32)), .unset, .unset, .unset, .unset]) C at_153 rfl rfl ?_
      refine g_iconst (pc' := 156) (z := (0 : Int32)) C at_155 rfl rfl ?_
      refine g_iloadN (pc' := 157) C at_156 rfl rfl ?_
      refine g_icmpN (xi := 0) (yi := 3) (pc2 := 160) C at_157 rfl rfl rfl (by decide) ?_
      refine g_iload (pc' := 162) C at_160 rfl rfl ?_
      refine g_ifY (xi := 0) (pc1 := 169) C at_162 (by decide) rfl rfl (by decide) ?_
      refine g_iconst (pc' := 170) (z := (0 : Int32)) C at_169 rfl rfl ?_
      refine g_istore (pc' := 172) (L' := #[.val (.int p0), .val (.int p1), .val (.int p2), .val (.int (3 : Int32)), .val (.int (0 : Int32)), .val (.int z3), .val (.ref r0), .val (.ref a4), .val (.ref a5), .val (.ref a21), .val (.int (1 : Int32)), .val (.int (0 : Int32)), .unset, .unset, .unset]) C at_170 rfl rfl ?_
      refine g_iconst (pc' := 173) (z := (1 : Int32)) C at_172 rfl rfl ?_
      refine g_iloadN (pc' := 174) C at_173 rfl rfl ?_
      refine g_icmpN (xi := 1) (yi := 3) (pc2 := 177) C at_174 rfl rfl rfl (by decide) ?_
      refine g_iload (pc' := 179) C at_177 rfl rfl ?_
      refine g_iconst (pc' := 180) (z := (1 : Int32)) C at_179 rfl rfl ?_
      refine g_icmpN (xi := 0) (yi := 1) (pc2 := 183) C at_180 rfl rfl rfl (by decide) ?_
      refine g_iconst (pc' := 184) (z := (1 : Int32)) C at_183 rfl rfl ?_
      refine g_goto C at_184 (by decide) (pc' := 188) rfl ?_
      refine g_istore (pc' := 190) (L' := #[.val (.int p0), .val (.int p1), .val (.int p2), .val (.int (3 : Int32)), .val (.int (0 : Int32)), .val (.int z3), .val (.ref r0), .val (.ref a4), .val (.ref a5), .val (.ref a21), .val (.int (1 : Int32)), .val (.int (0 : Int32)), .val (.int (1 : Int32)), .unset, .unset]) C at_188 rfl rfl ?_
      refine g_iconst (pc' := 191) (z := (2 : Int32)) C at_190 rfl rfl ?_
      refine g_iloadN (pc' := 192) C at_191 rfl rfl ?_
      refine g_icmpN (xi := 2) (yi := 3) (pc2 := 195) C at_192 rfl rfl rfl (by decide) ?_
      refine g_iload (pc' := 197) C at_195 rfl rfl ?_
      refine g_iconst (pc' := 198) (z := (2 : Int32)) C at_197 rfl rfl ?_
      refine g_icmpN (xi := 0) (yi := 2) (pc2 := 201) C at_198 rfl rfl rfl (by decide) ?_
      refine g_iconst (pc' := 202) (z := (1 : Int32)) C at_201 rfl rfl ?_
      refine g_goto C at_202 (by decide) (pc' := 206) rfl ?_
      refine g_istore (pc' := 208) (L' := #[.val (.int p0), .val (.int p1), .val (.int p2), .val (.int (3 : Int32)), .val (.int (0 : Int32)), .val (.int z3), .val (.ref r0), .val (.ref a4), .val (.ref a5), .val (.ref a21), .val (.int (1 : Int32)), .val (.int (0 : Int32)), .val (.int (1 : Int32)), .val (.int (1 : Int32)), .unset]) C at_206 rfl rfl ?_
      refine g_iload (pc' := 210) C at_208 rfl rfl ?_
      refine g_ifY (xi := 0) (pc1 := 228) C at_210 (by decide) rfl rfl (by decide) ?_
      refine g_iload (pc' := 230) C at_228 rfl rfl ?_
      refine g_ifN (xi := 1) (pc2 := 233) C at_230 rfl rfl (by decide) ?_
      refine g_aload (pc' := 235) C at_233 rfl rfl rfl ?_
      refine g_iload (pc' := 237) C at_235 rfl rfl ?_
      refine g_aload (pc' := 239) C at_237 rfl rfl rfl ?_
      refine g_iconst (pc' := 240) (z := (1 : Int32)) C at_239 rfl rfl ?_
      refine g_aaload (pc' := 241) (i := 1) C at_240 rfl Aa4 rfl rfl ?_
      refine g_aastore (pc' := 242) (i := 1) (vs' := [(.ref r0), (.ref a6), .null, .null]) C at_241 rfl Aa21 rfl (Nat.le_of_ble_eq_true rfl) rfl (Or.inr ⟨_, rfl, Oa6.1⟩) w_a21 fun h82 Aa21 Kh82 => ?_
      replace Or0 := Or0.keep Kh82 (ninS n_r0_a21 nin0)
      replace Oa5 := Oa5.keep Kh82 (ninS n_a5_a21 nin0)
      replace Oa6 := Oa6.keep Kh82 (ninS n_a6_a21 nin0)
      replace Oa7 := Oa7.keep Kh82 (ninS n_a7_a21 nin0)
      replace Oa8 := Oa8.keep Kh82 (ninS n_a8_a21 nin0)
      replace Aa4 := Aa4.keep Kh82 (ninS n_a4_a21 nin0)
      refine g_iload (pc' := 244) C at_242 rfl rfl ?_
      refine g_iconst (pc' := 245) (z := (1 : Int32)) C at_244 rfl rfl ?_
      refine g_iadd (pc' := 246) C at_245 rfl ?_
      show Go W Q h82 7 18 246 #[.val (.int p0), .val (.int p1), .val (.int p2), .val (.int (3 : Int32)), .val (.int (0 : Int32)), .val (.int z3), .val (.ref r0), .val (.ref a4), .val (.ref a5), .val (.ref a21), .val (.int (1 : Int32)), .val (.int (0 : Int32)), .val (.int (1 : Int32)), .val (.int (1 : Int32)), .unset] [(.int (2 : Int32))]
      refine g_istore (pc' := 248) (L' := #[.val (.int p0), .val (.int p1), .val (.int p2), .val (.int (3 : Int32)), .val (.int (0 : Int32)), .val (.int z3), .val (.ref r0), .val (.ref a4), .val (.ref a5), .val (.ref a21), .val (.int (2 : Int32)), .val (.int (0 : Int32)), .val (.int (1 : Int32)), .val (.int (1 : Int32)), .unset]) C at_246 rfl rfl ?_
      refine g_iload (pc' := 250) C at_248 rfl rfl ?_
      refine g_ifN (xi := 1) (pc2 := 253) C at_250 rfl rfl (by decide) ?_
      refine g_aload (pc' := 255) C at_253 rfl rfl rfl ?_
      refine g_iload (pc' := 257) C at_255 rfl rfl ?_
      refine g_aload (pc' := 259) C at_257 rfl rfl rfl ?_
      refine g_iconst (pc' := 260) (z := (2 : Int32)) C at_259 rfl rfl ?_
      refine g_aaload (pc' := 261) (i := 2) C at_260 rfl Aa4 rfl rfl ?_
      refine g_aastore (pc' := 262) (i := 2) (vs' := [(.ref r0), (.ref a6), (.ref a7), .null]) C at_261 rfl Aa21 rfl (Nat.le_of_ble_eq_true rfl) rfl (Or.inr ⟨_, rfl, Oa7.1⟩) w_a21 fun h83 Aa21 Kh83 => ?_
      replace Or0 := Or0.keep Kh83 (ninS n_r0_a21 nin0)
      replace Oa5 := Oa5.keep Kh83 (ninS n_a5_a21 nin0)
      replace Oa6 := Oa6.keep Kh83 (ninS n_a6_a21 nin0)
      replace Oa7 := Oa7.keep Kh83 (ninS n_a7_a21 nin0)
      replace Oa8 := Oa8.keep Kh83 (ninS n_a8_a21 nin0)
      replace Aa4 := Aa4.keep Kh83 (ninS n_a4_a21 nin0)
      refine g_iload (pc' := 264) C at_262 rfl rfl ?_
      refine g_iconst (pc' := 265) (z := (1 : Int32)) C at_264 rfl rfl ?_
      refine g_iadd (pc' := 266) C at_265 rfl ?_
      show Go W Q h83 7 18 266 #[.val (.int p0), .val (.int p1), .val (.int p2), .val (.int (3 : Int32)), .val (.int (0 : Int32)), .val (.int z3), .val (.ref r0), .val (.ref a4), .val (.ref a5), .val (.ref a21), .val (.int (2 : Int32)), .val (.int (0 : Int32)), .val (.int (1 : Int32)), .val (.int (1 : Int32)), .unset] [(.int (3 : Int32))]
      refine g_istore (pc' := 268) (L' := #[.val (.int p0), .val (.int p1), .val (.int p2), .val (.int (3 : Int32)), .val (.int (0 : Int32)), .val (.int z3), .val (.ref r0), .val (.ref a4), .val (.ref a5), .val (.ref a21), .val (.int (3 : Int32)), .val (.int (0 : Int32)), .val (.int (1 : Int32)), .val (.int (1 : Int32)), .unset]) C at_266 rfl rfl ?_
      refine g_aload (pc' := 270) C at_268 rfl rfl rfl ?_
      refine g_iconst (pc' := 271) (z := (0 : Int32)) C at_270 rfl rfl ?_
      refine g_aaload (pc' := 272) (i := 0) C at_271 rfl Aa21 rfl rfl ?_
      refine g_aload (pc' := 274) C at_272 rfl rfl rfl ?_
      refine g_iconst (pc' := 275) (z := (1 : Int32)) C at_274 rfl rfl ?_
      refine g_iload (pc' := 277) C at_275 rfl rfl ?_
      refine g_irem (pc' := 278) C at_277 rfl (by decide) ?_
      show Go W Q h83 7 18 278 #[.val (.int p0), .val (.int p1), .val (.int p2), .val (.int (3 : Int32)), .val (.int (0 : Int32)), .val (.int z3), .val (.ref r0), .val (.ref a4), .val (.ref a5), .val (.ref a21), .val (.int (3 : Int32)), .val (.int (0 : Int32)), .val (.int (1 : Int32)), .val (.int (1 : Int32)), .unset] [(.int (1 : Int32)), (.ref a21), (.ref r0)]
      refine g_aaload (pc' := 279) (i := 1) C at_278 rfl Aa21 rfl rfl ?_
      refine g_staticP (y := (⟨"com/example/slot512/slot512/LinkUnlinkPinLaw", "joined", "(Lcom/example/slot512/slot512/Link;Lcom/example/slot512/slot512/Link;)Z"⟩ : MethodName)) (pc' := 282) (k' := 7) (n' := 18) (S := []) (as := [(.ref r0), (.ref a6)]) C at_279 rfl (hw _ (List.mem_of_getElem? (i := 25) rfl)) (hw _ (List.mem_of_getElem? (i := 26) rfl)) (hw _ (List.mem_of_getElem? (i := 27) rfl)) (hw _ (List.mem_of_getElem? (i := 28) rfl)) (by decide) (lenOf pd_2 rfl) (con_joined W.l Z a0 hw r0 a6 (.ref a7) (.ref a7) h83 Or0 Oa6) rfl rfl (Nat.le_of_ble_eq_true rfl) (Nat.le_of_ble_eq_true rfl) rfl rfl (Nat.le_of_ble_eq_true rfl) (Nat.le_of_ble_eq_true rfl) (S1 := [(.int (1 : Int32))]) rfl ?_
      refine g_istore (pc' := 284) (L' := #[.val (.int p0), .val (.int p1), .val (.int p2), .val (.int (3 : Int32)), .val (.int (0 : Int32)), .val (.int z3), .val (.ref r0), .val (.ref a4), .val (.ref a5), .val (.ref a21), .val (.int (3 : Int32)), .val (.int (0 : Int32)), .val (.int (1 : Int32)), .val (.int (1 : Int32)), .val (.int (1 : Int32))]) C at_282 rfl rfl ?_
      refine g_iload (pc' := 286) C at_284 rfl rfl ?_
      refine g_iconst (pc' := 287) (z := (1 : Int32)) C at_286 rfl rfl ?_
      refine g_icmpN (xi := 3) (yi := 1) (pc2 := 290) C at_287 rfl rfl rfl (by decide) ?_
      refine g_iload (pc' := 292) C at_290 rfl rfl ?_
      refine g_ifN (xi := 1) (pc2 := 295) C at_292 rfl rfl (by decide) ?_
      refine g_aload (pc' := 297) C at_295 rfl rfl rfl ?_
      refine g_iconst (pc' := 298) (z := (1 : Int32)) C at_297 rfl rfl ?_
      refine g_aaload (pc' := 299) (i := 1) C at_298 rfl Aa21 rfl rfl ?_
      refine g_aload (pc' := 301) C at_299 rfl rfl rfl ?_
      refine g_iconst (pc' := 302) (z := (2 : Int32)) C at_301 rfl rfl ?_
      refine g_iload (pc' := 304) C at_302 rfl rfl ?_
      refine g_irem (pc' := 305) C at_304 rfl (by decide) ?_
      show Go W Q h83 7 18 305 #[.val (.int p0), .val (.int p1), .val (.int p2), .val (.int (3 : Int32)), .val (.int (0 : Int32)), .val (.int z3), .val (.ref r0), .val (.ref a4), .val (.ref a5), .val (.ref a21), .val (.int (3 : Int32)), .val (.int (0 : Int32)), .val (.int (1 : Int32)), .val (.int (1 : Int32)), .val (.int (1 : Int32))] [(.int (2 : Int32)), (.ref a21), (.ref a6)]
      refine g_aaload (pc' := 306) (i := 2) C at_305 rfl Aa21 rfl rfl ?_
      refine g_staticP (y := (⟨"com/example/slot512/slot512/LinkUnlinkPinLaw", "joined", "(Lcom/example/slot512/slot512/Link;Lcom/example/slot512/slot512/Link;)Z"⟩ : MethodName)) (pc' := 309) (k' := 7) (n' := 18) (S := []) (as := [(.ref a6), (.ref a7)]) C at_306 rfl (hw _ (List.mem_of_getElem? (i := 25) rfl)) (hw _ (List.mem_of_getElem? (i := 26) rfl)) (hw _ (List.mem_of_getElem? (i := 27) rfl)) (hw _ (List.mem_of_getElem? (i := 28) rfl)) (by decide) (lenOf pd_2 rfl) (con_joined W.l Z a0 hw a6 a7 (.ref r0) (.ref r0) h83 Oa6 Oa7) rfl rfl (Nat.le_of_ble_eq_true rfl) (Nat.le_of_ble_eq_true rfl) rfl rfl (Nat.le_of_ble_eq_true rfl) (Nat.le_of_ble_eq_true rfl) (S1 := [(.int (1 : Int32))]) rfl ?_
      refine g_ifN (xi := 1) (pc2 := 312) C at_309 rfl rfl (by decide) ?_
      refine g_iconst (pc' := 313) (z := (1 : Int32)) C at_312 rfl rfl ?_
      refine g_goto C at_313 (by decide) (pc' := 317) rfl ?_
      refine g_istore (pc' := 319) (L' := #[.val (.int p0), .val (.int p1), .val (.int p2), .val (.int (3 : Int32)), .val (.int (0 : Int32)), .val (.int z3), .val (.ref r0), .val (.ref a4), .val (.ref a5), .val (.ref a21), .val (.int (3 : Int32)), .val (.int (0 : Int32)), .val (.int (1 : Int32)), .val (.int (1 : Int32)), .val (.int (1 : Int32))]) C at_317 rfl rfl ?_
      refine g_iload (pc' := 321) C at_319 rfl rfl ?_
      refine g_iconst (pc' := 322) (z := (2 : Int32)) C at_321 rfl rfl ?_
      refine g_icmpN (xi := 3) (yi := 2) (pc2 := 325) C at_322 rfl rfl rfl (by decide) ?_
      refine g_iload (pc' := 327) C at_325 rfl rfl ?_
      refine g_ifN (xi := 1) (pc2 := 330) C at_327 rfl rfl (by decide) ?_
      refine g_aload (pc' := 332) C at_330 rfl rfl rfl ?_
      refine g_iconst (pc' := 333) (z := (2 : Int32)) C at_332 rfl rfl ?_
      refine g_aaload (pc' := 334) (i := 2) C at_333 rfl Aa21 rfl rfl ?_
      refine g_aload (pc' := 336) C at_334 rfl rfl rfl ?_
      refine g_iconst (pc' := 337) (z := (3 : Int32)) C at_336 rfl rfl ?_
      refine g_iload (pc' := 339) C at_337 rfl rfl ?_
      refine g_irem (pc' := 340) C at_339 rfl (by decide) ?_
      show Go W Q h83 7 18 340 #[.val (.int p0), .val (.int p1), .val (.int p2), .val (.int (3 : Int32)), .val (.int (0 : Int32)), .val (.int z3), .val (.ref r0), .val (.ref a4), .val (.ref a5), .val (.ref a21), .val (.int (3 : Int32)), .val (.int (0 : Int32)), .val (.int (1 : Int32)), .val (.int (1 : Int32)), .val (.int (1 : Int32))] [(.int (0 : Int32)), (.ref a21), (.ref a7)]
      refine g_aaload (pc' := 341) (i := 0) C at_340 rfl Aa21 rfl rfl ?_
      refine g_staticP (y := (⟨"com/example/slot512/slot512/LinkUnlinkPinLaw", "joined", "(Lcom/example/slot512/slot512/Link;Lcom/example/slot512/slot512/Link;)Z"⟩ : MethodName)) (pc' := 344) (k' := 7) (n' := 18) (S := []) (as := [(.ref a7), (.ref r0)]) C at_341 rfl (hw _ (List.mem_of_getElem? (i := 25) rfl)) (hw _ (List.mem_of_getElem? (i := 26) rfl)) (hw _ (List.mem_of_getElem? (i := 27) rfl)) (hw _ (List.mem_of_getElem? (i := 28) rfl)) (by decide) (lenOf pd_2 rfl) (con_joined W.l Z a0 hw a7 r0 (.ref a6) (.ref a6) h83 Oa7 Or0) rfl rfl (Nat.le_of_ble_eq_true rfl) (Nat.le_of_ble_eq_true rfl) rfl rfl (Nat.le_of_ble_eq_true rfl) (Nat.le_of_ble_eq_true rfl) (S1 := [(.int (1 : Int32))]) rfl ?_
      refine g_ifN (xi := 1) (pc2 := 347) C at_344 rfl rfl (by decide) ?_
      refine g_iconst (pc' := 348) (z := (1 : Int32)) C at_347 rfl rfl ?_
      refine g_goto C at_348 (by decide) (pc' := 352) rfl ?_
      refine g_istore (pc' := 354) (L' := #[.val (.int p0), .val (.int p1), .val (.int p2), .val (.int (3 : Int32)), .val (.int (0 : Int32)), .val (.int z3), .val (.ref r0), .val (.ref a4), .val (.ref a5), .val (.ref a21), .val (.int (3 : Int32)), .val (.int (0 : Int32)), .val (.int (1 : Int32)), .val (.int (1 : Int32)), .val (.int (1 : Int32))]) C at_352 rfl rfl ?_
      refine g_iload (pc' := 356) C at_354 rfl rfl ?_
      refine g_iconst (pc' := 357) (z := (3 : Int32)) C at_356 rfl rfl ?_
      refine g_icmpY (xi := 3) (yi := 3) (pc1 := 386) C at_357 (by decide) rfl rfl rfl (by decide) ?_
      refine g_iload (pc' := 388) C at_386 rfl rfl ?_
      refine g_ifN (xi := 0) (pc2 := 391) C at_388 rfl rfl (by decide) ?_
      refine g_iload (pc' := 393) C at_391 rfl rfl ?_
      refine g_ifN (xi := 1) (pc2 := 396) C at_393 rfl rfl (by decide) ?_
      refine g_aload (pc' := 398) C at_396 rfl rfl rfl ?_
      refine g_iconst (pc' := 399) (z := (0 : Int32)) C at_398 rfl rfl ?_
      refine g_aaload (pc' := 400) (i := 0) C at_399 rfl Aa4 rfl rfl ?_
      refine g_staticP (y := (⟨"com/example/slot512/slot512/LinkUnlinkPinLaw", "detached", "(Lcom/example/slot512/slot512/Link;)Z"⟩ : MethodName)) (pc' := 403) (k' := 7) (n' := 18) (S := []) (as := [(.ref a5)]) C at_400 rfl (hw _ (List.mem_of_getElem? (i := 31) rfl)) (hw _ (List.mem_of_getElem? (i := 32) rfl)) (hw _ (List.mem_of_getElem? (i := 27) rfl)) (hw _ (List.mem_of_getElem? (i := 33) rfl)) (by decide) (lenOf pd_3 rfl) (con_det W.l Z a0 hw a5 h83 Oa5) rfl rfl (Nat.le_of_ble_eq_true rfl) (Nat.le_of_ble_eq_true rfl) rfl rfl (Nat.le_of_ble_eq_true rfl) (Nat.le_of_ble_eq_true rfl) (S1 := [(.int (1 : Int32))]) rfl ?_
      refine g_ifN (xi := 1) (pc2 := 406) C at_403 rfl rfl (by decide) ?_
      refine g_iconst (pc' := 407) (z := (1 : Int32)) C at_406 rfl rfl ?_
      refine g_goto C at_407 (by decide) (pc' := 411) rfl ?_
      refine g_istore (pc' := 413) (L' := #[.val (.int p0), .val (.int p1), .val (.int p2), .val (.int (3 : Int32)), .val (.int (0 : Int32)), .val (.int z3), .val (.ref r0), .val (.ref a4), .val (.ref a5), .val (.ref a21), .val (.int (3 : Int32)), .val (.int (0 : Int32)), .val (.int (1 : Int32)), .val (.int (1 : Int32)), .val (.int (1 : Int32))]) C at_411 rfl rfl ?_
      refine g_iload (pc' := 415) C at_413 rfl rfl ?_
      refine g_ifY (xi := 1) (pc1 := 440) C at_415 (by decide) rfl rfl (by decide) ?_
      refine g_iload (pc' := 442) C at_440 rfl rfl ?_
      refine g_ifY (xi := 1) (pc1 := 467) C at_442 (by decide) rfl rfl (by decide) ?_
      refine g_iload (pc' := 469) C at_467 rfl rfl ?_
      refine g_ifN (xi := 1) (pc2 := 472) C at_469 rfl rfl (by decide) ?_
      refine g_aload (pc' := 474) C at_472 rfl rfl rfl ?_
      refine g_iconst (pc' := 475) (z := (3 : Int32)) C at_474 rfl rfl ?_
      refine g_aaload (pc' := 476) (i := 3) C at_475 rfl Aa4 rfl rfl ?_
      refine g_staticP (y := (⟨"com/example/slot512/slot512/LinkUnlinkPinLaw", "detached", "(Lcom/example/slot512/slot512/Link;)Z"⟩ : MethodName)) (pc' := 479) (k' := 7) (n' := 18) (S := []) (as := [(.ref a8)]) C at_476 rfl (hw _ (List.mem_of_getElem? (i := 31) rfl)) (hw _ (List.mem_of_getElem? (i := 32) rfl)) (hw _ (List.mem_of_getElem? (i := 27) rfl)) (hw _ (List.mem_of_getElem? (i := 33) rfl)) (by decide) (lenOf pd_3 rfl) (con_det W.l Z a0 hw a8 h83 Oa8) rfl rfl (Nat.le_of_ble_eq_true rfl) (Nat.le_of_ble_eq_true rfl) rfl rfl (Nat.le_of_ble_eq_true rfl) (Nat.le_of_ble_eq_true rfl) (S1 := [(.int (1 : Int32))]) rfl ?_
      refine g_ifN (xi := 1) (pc2 := 482) C at_479 rfl rfl (by decide) ?_
      refine g_iconst (pc' := 483) (z := (1 : Int32)) C at_482 rfl rfl ?_
      refine g_goto C at_483 (by decide) (pc' := 487) rfl ?_
      refine g_istore (pc' := 489) (L' := #[.val (.int p0), .val (.int p1), .val (.int p2), .val (.int (3 : Int32)), .val (.int (0 : Int32)), .val (.int z3), .val (.ref r0), .val (.ref a4), .val (.ref a5), .val (.ref a21), .val (.int (3 : Int32)), .val (.int (0 : Int32)), .val (.int (1 : Int32)), .val (.int (1 : Int32)), .val (.int (1 : Int32))]) C at_487 rfl rfl ?_
      refine g_iload (pc' := 491) C at_489 rfl rfl ?_
      refine g_retN C (by simp) at_491 (by decide) (by decide) ?_
      subst hQ
      rfl
    ·
      refine g_aload (pc' := 120) C at_118 rfl rfl rfl ?_
      refine g_iload (pc' := 122) C at_120 rfl rfl ?_
      refine g_aaload (pc' := 123) (i := 1) C at_122 rfl Aa4 rfl rfl ?_
      refine g_astore (pc' := 125) (L' := #[.val (.int p0), .val (.int p1), .val (.int p2), .val (.int (3 : Int32)), .val (.int (1 : Int32)), .val (.int z3), .val (.ref r0), .val (.ref a4), .val (.ref a6), .unset, .unset, .unset, .unset, .unset, .unset]) C at_123 rfl rfl rfl ?_
      refine g_aload (pc' := 127) C at_125 rfl rfl rfl ?_
      refine g_virtual (y := (⟨"com/example/slot512/slot512/Link", "unlink", "()V"⟩ : MethodName)) (a := a6) (pc' := 130) (k' := 6) (n' := 14) (S := []) (as := []) C at_127 rfl (hw _ (List.mem_of_getElem? (i := 20) rfl)) (hw _ (List.mem_of_getElem? (i := 22) rfl)) (hw _ (List.mem_of_getElem? (i := 2) rfl)) (hw _ (List.mem_of_getElem? (i := 24) rfl)) (hw _ (List.mem_of_getElem? (i := 21) rfl)) (hw _ (List.mem_of_getElem? (i := 23) rfl)) (by decide) Oa6.1 (lenOf pd_0 rfl) (con_un2 W.l Z a0 hw a6 a5 a7 (.ref r0) (.ref a6) (.ref a6) (.ref r0) (Ne.symm n_a5_a6) n_a6_a7 n_a5_a7 h77 Oa6 Oa5 Oa7) rfl rfl (Nat.le_of_ble_eq_true rfl) (Nat.le_of_ble_eq_true rfl) rfl rfl (Nat.le_of_ble_eq_true rfl) (Nat.le_of_ble_eq_true rfl) (allS w_a6 (allS w_a5 (allS w_a7 all0))) fun vh84 h84 qh84 Kh84 => ?_
      obtain ⟨rfl, Oa6, Oa5, Oa7⟩ := qh84
      replace Or0 := Or0.keep Kh84 (ninS n_r0_a6 (ninS n_r0_a5 (ninS n_r0_a7 nin0)))
      replace Oa8 := Oa8.keep Kh84 (ninS (Ne.symm n_a6_a8) (ninS (Ne.symm n_a5_a8) (ninS (Ne.symm n_a7_a8) nin0)))
      replace Aa4 := Aa4.keep Kh84 (ninS n_a4_a6 (ninS n_a4_a5 (ninS n_a4_a7 nin0)))
      show Go W Q h84 6 14 130 #[.val (.int p0), .val (.int p1), .val (.int p2), .val (.int (3 : Int32)), .val (.int (1 : Int32)), .val (.int z3), .val (.ref r0), .val (.ref a4), .val (.ref a6), .unset, .unset, .unset, .unset, .unset, .unset] []
      refine g_iload (pc' := 132) C at_130 rfl rfl ?_
      suffices K_132 : Go W Q h84 6 14 140 #[.val (.int p0), .val (.int p1), .val (.int p2), .val (.int (3 : Int32)), .val (.int (1 : Int32)), .val (.int z3), .val (.ref r0), .val (.ref a4), .val (.ref a6), .unset, .unset, .unset, .unset, .unset, .unset] [] by
        refine g_ifeqb (pc1 := 140) (pc2 := 135) C at_132 (by decide) rfl rfl e_z3 (fun (c132 : ¬ (¬ ((p2 &&& (1 : Int32)).toInt = 0))) => ?_) (fun (c132 : ¬ ((p2 &&& (1 : Int32)).toInt = 0)) => ?_)
        ·
          replace c132 : (p2 &&& (1 : Int32)).toInt = 0 := Decidable.not_not.mp c132
          exact K_132
        ·
          refine g_aload (pc' := 137) C at_135 rfl rfl rfl ?_
          refine g_virtual (y := (⟨"com/example/slot512/slot512/Link", "unlink", "()V"⟩ : MethodName)) (a := a6) (pc' := 140) (k' := 6) (n' := 14) (S := []) (as := []) C at_137 rfl (hw _ (List.mem_of_getElem? (i := 20) rfl)) (hw _ (List.mem_of_getElem? (i := 22) rfl)) (hw _ (List.mem_of_getElem? (i := 2) rfl)) (hw _ (List.mem_of_getElem? (i := 24) rfl)) (hw _ (List.mem_of_getElem? (i := 21) rfl)) (hw _ (List.mem_of_getElem? (i := 23) rfl)) (by decide) Oa6.1 (lenOf pd_0 rfl) (con_un0 W.l Z a0 hw a6 .null h84 Oa6) rfl rfl (Nat.le_of_ble_eq_true rfl) (Nat.le_of_ble_eq_true rfl) rfl rfl (Nat.le_of_ble_eq_true rfl) (Nat.le_of_ble_eq_true rfl) all0 fun vh85 h85 qh85 Kh85 => ?_
          obtain ⟨rfl, eh⟩ := qh85
          subst eh
          show Go W Q h84 6 14 140 #[.val (.int p0), .val (.int p1), .val (.int p2), .val (.int (3 : Int32)), .val (.int (1 : Int32)), .val (.int z3), .val (.ref r0), .val (.ref a4), .val (.ref a6), .unset, .unset, .unset, .unset, .unset, .unset] []
          exact K_132
      refine g_iconst (pc' := 141) (z := (4 : Int32)) C at_140 rfl rfl ?_
      refine g_anewarray (pc' := 144) (len := 4) (cap := 4) (k' := 7) (n' := 18) C at_141 rfl (hw _ (List.mem_of_getElem? (i := 16) rfl)) (hw _ (List.mem_of_getElem? (i := 17) rfl)) rfl (by decide) (by decide) rfl rfl (by decide) (by decide) fun h86 a22 e_a22 Eh86 Aa22 w_a22 => ?_
      have n_r0_a22 : r0 ≠ a22 := by rw [e_a22]; exact Nat.ne_of_lt Or0.lt
      have n_a5_a22 : a5 ≠ a22 := by rw [e_a22]; exact Nat.ne_of_lt Oa5.lt
      have n_a6_a22 : a6 ≠ a22 := by rw [e_a22]; exact Nat.ne_of_lt Oa6.lt
      have n_a7_a22 : a7 ≠ a22 := by rw [e_a22]; exact Nat.ne_of_lt Oa7.lt
      have n_a8_a22 : a8 ≠ a22 := by rw [e_a22]; exact Nat.ne_of_lt Oa8.lt
      have n_a4_a22 : a4 ≠ a22 := by rw [e_a22]; exact Nat.ne_of_lt Aa4.lt
      replace Or0 := Or0.ext Eh86
      replace Oa5 := Oa5.ext Eh86
      replace Oa6 := Oa6.ext Eh86
      replace Oa7 := Oa7.ext Eh86
      replace Oa8 := Oa8.ext Eh86
      replace Aa4 := Aa4.ext Eh86
      replace Aa22 : ArR Z h86 a22 "com/example/slot512/slot512/Link" [.null, .null, .null, .null] := Aa22
      refine g_astore (pc' := 146) (L' := #[.val (.int p0), .val (.int p1), .val (.int p2), .val (.int (3 : Int32)), .val (.int (1 : Int32)), .val (.int z3), .val (.ref r0), .val (.ref a4), .val (.ref a6), .val (.ref a22), .unset, .unset, .unset, .unset, .unset]) C at_144 rfl rfl rfl ?_
      refine g_aload (pc' := 148) C at_146 rfl rfl rfl ?_
      refine g_iconst (pc' := 149) (z := (0 : Int32)) C at_148 rfl rfl ?_
      refine g_aload (pc' := 151) C at_149 rfl rfl rfl ?_
      refine g_aastore (pc' := 152) (i := 0) (vs' := [(.ref r0), .null, .null, .null]) C at_151 rfl Aa22 rfl (Nat.le_of_ble_eq_true rfl) rfl (Or.inr ⟨_, rfl, Or0.1⟩) w_a22 fun h87 Aa22 Kh87 => ?_
      replace Or0 := Or0.keep Kh87 (ninS n_r0_a22 nin0)
      replace Oa5 := Oa5.keep Kh87 (ninS n_a5_a22 nin0)
      replace Oa6 := Oa6.keep Kh87 (ninS n_a6_a22 nin0)
      replace Oa7 := Oa7.keep Kh87 (ninS n_a7_a22 nin0)
      replace Oa8 := Oa8.keep Kh87 (ninS n_a8_a22 nin0)
      replace Aa4 := Aa4.keep Kh87 (ninS n_a4_a22 nin0)
      refine g_iconst (pc' := 153) (z := (1 : Int32)) C at_152 rfl rfl ?_
      refine g_istore (pc' := 155) (L' := #[.val (.int p0), .val (.int p1), .val (.int p2), .val (.int (3 : Int32)), .val (.int (1 : Int32)), .val (.int z3), .val (.ref r0), .val (.ref a4), .val (.ref a6), .val (.ref a22), .val (.int (1 : Int32)), .unset, .unset, .unset, .unset]) C at_153 rfl rfl ?_
      refine g_iconst (pc' := 156) (z := (0 : Int32)) C at_155 rfl rfl ?_
      refine g_iloadN (pc' := 157) C at_156 rfl rfl ?_
      refine g_icmpN (xi := 0) (yi := 3) (pc2 := 160) C at_157 rfl rfl rfl (by decide) ?_
      refine g_iload (pc' := 162) C at_160 rfl rfl ?_
      refine g_ifN (xi := 1) (pc2 := 165) C at_162 rfl rfl (by decide) ?_
      refine g_iconst (pc' := 166) (z := (1 : Int32)) C at_165 rfl rfl ?_
      refine g_goto C at_166 (by decide) (pc' := 170) rfl ?_
      refine g_istore (pc' := 172) (L' := #[.val (.int p0), .val (.int p1), .val (.int p2), .val (.int (3 : Int32)), .val (.int (1 : Int32)), .val (.int z3), .val (.ref r0), .val (.ref a4), .val (.ref a6), .val (.ref a22), .val (.int (1 : Int32)), .val (.int (1 : Int32)), .unset, .unset, .unset]) C at_170 rfl rfl ?_
      refine g_iconst (pc' := 173) (z := (1 : Int32)) C at_172 rfl rfl ?_
      refine g_iloadN (pc' := 174) C at_173 rfl rfl ?_
      refine g_icmpN (xi := 1) (yi := 3) (pc2 := 177) C at_174 rfl rfl rfl (by decide) ?_
      refine g_iload (pc' := 179) C at_177 rfl rfl ?_
      refine g_iconst (pc' := 180) (z := (1 : Int32)) C at_179 rfl rfl ?_
      refine g_icmpY (xi := 1) (yi := 1) (pc1 := 187) C at_180 (by decide) rfl rfl rfl (by decide) ?_
      refine g_iconst (pc' := 188) (z := (0 : Int32)) C at_187 rfl rfl ?_
      refine g_istore (pc' := 190) (L' := #[.val (.int p0), .val (.int p1), .val (.int p2), .val (.int (3 : Int32)), .val (.int (1 : Int32)), .val (.int z3), .val (.ref r0), .val (.ref a4), .val (.ref a6), .val (.ref a22), .val (.int (1 : Int32)), .val (.int (1 : Int32)), .val (.int (0 : Int32)), .unset, .unset]) C at_188 rfl rfl ?_
      refine g_iconst (pc' := 191) (z := (2 : Int32)) C at_190 rfl rfl ?_
      refine g_iloadN (pc' := 192) C at_191 rfl rfl ?_
      refine g_icmpN (xi := 2) (yi := 3) (pc2 := 195) C at_192 rfl rfl rfl (by decide) ?_
      refine g_iload (pc' := 197) C at_195 rfl rfl ?_
      refine g_iconst (pc' := 198) (z := (2 : Int32)) C at_197 rfl rfl ?_
      refine g_icmpN (xi := 1) (yi := 2) (pc2 := 201) C at_198 rfl rfl rfl (by decide) ?_
      refine g_iconst (pc' := 202) (z := (1 : Int32)) C at_201 rfl rfl ?_
      refine g_goto C at_202 (by decide) (pc' := 206) rfl ?_
      refine g_istore (pc' := 208) (L' := #[.val (.int p0), .val (.int p1), .val (.int p2), .val (.int (3 : Int32)), .val (.int (1 : Int32)), .val (.int z3), .val (.ref r0), .val (.ref a4), .val (.ref a6), .val (.ref a22), .val (.int (1 : Int32)), .val (.int (1 : Int32)), .val (.int (0 : Int32)), .val (.int (1 : Int32)), .unset]) C at_206 rfl rfl ?_
      refine g_iload (pc' := 210) C at_208 rfl rfl ?_
      refine g_ifN (xi := 1) (pc2 := 213) C at_210 rfl rfl (by decide) ?_
      refine g_aload (pc' := 215) C at_213 rfl rfl rfl ?_
      refine g_iload (pc' := 217) C at_215 rfl rfl ?_
      refine g_aload (pc' := 219) C at_217 rfl rfl rfl ?_
      refine g_iconst (pc' := 220) (z := (0 : Int32)) C at_219 rfl rfl ?_
      refine g_aaload (pc' := 221) (i := 0) C at_220 rfl Aa4 rfl rfl ?_
      refine g_aastore (pc' := 222) (i := 1) (vs' := [(.ref r0), (.ref a5), .null, .null]) C at_221 rfl Aa22 rfl (Nat.le_of_ble_eq_true rfl) rfl (Or.inr ⟨_, rfl, Oa5.1⟩) w_a22 fun h88 Aa22 Kh88 => ?_
      replace Or0 := Or0.keep Kh88 (ninS n_r0_a22 nin0)
      replace Oa5 := Oa5.keep Kh88 (ninS n_a5_a22 nin0)
      replace Oa6 := Oa6.keep Kh88 (ninS n_a6_a22 nin0)
      replace Oa7 := Oa7.keep Kh88 (ninS n_a7_a22 nin0)
      replace Oa8 := Oa8.keep Kh88 (ninS n_a8_a22 nin0)
      replace Aa4 := Aa4.keep Kh88 (ninS n_a4_a22 nin0)
      refine g_iload (pc' := 224) C at_222 rfl rfl ?_
      refine g_iconst (pc' := 225) (z := (1 : Int32)) C at_224 rfl rfl ?_
      refine g_iadd (pc' := 226) C at_225 rfl ?_
      show Go W Q h88 7 18 226 #[.val (.int p0), .val (.int p1), .val (.int p2), .val (.int (3 : Int32)), .val (.int (1 : Int32)), .val (.int z3), .val (.ref r0), .val (.ref a4), .val (.ref a6), .val (.ref a22), .val (.int (1 : Int32)), .val (.int (1 : Int32)), .val (.int (0 : Int32)), .val (.int (1 : Int32)), .unset] [(.int (2 : Int32))]
      refine g_istore (pc' := 228) (L' := #[.val (.int p0), .val (.int p1), .val (.int p2), .val (.int (3 : Int32)), .val (.int (1 : Int32)), .val (.int z3), .val (.ref r0), .val (.ref a4), .val (.ref a6), .val (.ref a22), .val (.int (2 : Int32)), .val (.int (1 : Int32)), .val (.int (0 : Int32)), .val (.int (1 : Int32)), .unset]) C at_226 rfl rfl ?_
      refine g_iload (pc' := 230) C at_228 rfl rfl ?_
      refine g_ifY (xi := 0) (pc1 := 248) C at_230 (by decide) rfl rfl (by decide) ?_
      refine g_iload (pc' := 250) C at_248 rfl rfl ?_
      refine g_ifN (xi := 1) (pc2 := 253) C at_250 rfl rfl (by decide) ?_
      refine g_aload (pc' := 255) C at_253 rfl rfl rfl ?_
      refine g_iload (pc' := 257) C at_255 rfl rfl ?_
      refine g_aload (pc' := 259) C at_257 rfl rfl rfl ?_
      refine g_iconst (pc' := 260) (z := (2 : Int32)) C at_259 rfl rfl ?_
      refine g_aaload (pc' := 261) (i := 2) C at_260 rfl Aa4 rfl rfl ?_
      refine g_aastore (pc' := 262) (i := 2) (vs' := [(.ref r0), (.ref a5), (.ref a7), .null]) C at_261 rfl Aa22 rfl (Nat.le_of_ble_eq_true rfl) rfl (Or.inr ⟨_, rfl, Oa7.1⟩) w_a22 fun h89 Aa22 Kh89 => ?_
      replace Or0 := Or0.keep Kh89 (ninS n_r0_a22 nin0)
      replace Oa5 := Oa5.keep Kh89 (ninS n_a5_a22 nin0)
      replace Oa6 := Oa6.keep Kh89 (ninS n_a6_a22 nin0)
      replace Oa7 := Oa7.keep Kh89 (ninS n_a7_a22 nin0)
      replace Oa8 := Oa8.keep Kh89 (ninS n_a8_a22 nin0)
      replace Aa4 := Aa4.keep Kh89 (ninS n_a4_a22 nin0)
      refine g_iload (pc' := 264) C at_262 rfl rfl ?_
      refine g_iconst (pc' := 265) (z := (1 : Int32)) C at_264 rfl rfl ?_
      refine g_iadd (pc' := 266) C at_265 rfl ?_
      show Go W Q h89 7 18 266 #[.val (.int p0), .val (.int p1), .val (.int p2), .val (.int (3 : Int32)), .val (.int (1 : Int32)), .val (.int z3), .val (.ref r0), .val (.ref a4), .val (.ref a6), .val (.ref a22), .val (.int (2 : Int32)), .val (.int (1 : Int32)), .val (.int (0 : Int32)), .val (.int (1 : Int32)), .unset] [(.int (3 : Int32))]
      refine g_istore (pc' := 268) (L' := #[.val (.int p0), .val (.int p1), .val (.int p2), .val (.int (3 : Int32)), .val (.int (1 : Int32)), .val (.int z3), .val (.ref r0), .val (.ref a4), .val (.ref a6), .val (.ref a22), .val (.int (3 : Int32)), .val (.int (1 : Int32)), .val (.int (0 : Int32)), .val (.int (1 : Int32)), .unset]) C at_266 rfl rfl ?_
      refine g_aload (pc' := 270) C at_268 rfl rfl rfl ?_
      refine g_iconst (pc' := 271) (z := (0 : Int32)) C at_270 rfl rfl ?_
      refine g_aaload (pc' := 272) (i := 0) C at_271 rfl Aa22 rfl rfl ?_
      refine g_aload (pc' := 274) C at_272 rfl rfl rfl ?_
      refine g_iconst (pc' := 275) (z := (1 : Int32)) C at_274 rfl rfl ?_
      refine g_iload (pc' := 277) C at_275 rfl rfl ?_
      refine g_irem (pc' := 278) C at_277 rfl (by decide) ?_
      show Go W Q h89 7 18 278 #[.val (.int p0), .val (.int p1), .val (.int p2), .val (.int (3 : Int32)), .val (.int (1 : Int32)), .val (.int z3), .val (.ref r0), .val (.ref a4), .val (.ref a6), .val (.ref a22), .val (.int (3 : Int32)), .val (.int (1 : Int32)), .val (.int (0 : Int32)), .val (.int (1 : Int32)), .unset] [(.int (1 : Int32)), (.ref a22), (.ref r0)]
      refine g_aaload (pc' := 279) (i := 1) C at_278 rfl Aa22 rfl rfl ?_
      refine g_staticP (y := (⟨"com/example/slot512/slot512/LinkUnlinkPinLaw", "joined", "(Lcom/example/slot512/slot512/Link;Lcom/example/slot512/slot512/Link;)Z"⟩ : MethodName)) (pc' := 282) (k' := 7) (n' := 18) (S := []) (as := [(.ref r0), (.ref a5)]) C at_279 rfl (hw _ (List.mem_of_getElem? (i := 25) rfl)) (hw _ (List.mem_of_getElem? (i := 26) rfl)) (hw _ (List.mem_of_getElem? (i := 27) rfl)) (hw _ (List.mem_of_getElem? (i := 28) rfl)) (by decide) (lenOf pd_2 rfl) (con_joined W.l Z a0 hw r0 a5 (.ref a7) (.ref a7) h89 Or0 Oa5) rfl rfl (Nat.le_of_ble_eq_true rfl) (Nat.le_of_ble_eq_true rfl) rfl rfl (Nat.le_of_ble_eq_true rfl) (Nat.le_of_ble_eq_true rfl) (S1 := [(.int (1 : Int32))]) rfl ?_
      refine g_istore (pc' := 284) (L' := #[.val (.int p0), .val (.int p1), .val (.int p2), .val (.int (3 : Int32)), .val (.int (1 : Int32)), .val (.int z3), .val (.ref r0), .val (.ref a4), .val (.ref a6), .val (.ref a22), .val (.int (3 : Int32)), .val (.int (1 : Int32)), .val (.int (0 : Int32)), .val (.int (1 : Int32)), .val (.int (1 : Int32))]) C at_282 rfl rfl ?_
      refine g_iload (pc' := 286) C at_284 rfl rfl ?_
      refine g_iconst (pc' := 287) (z := (1 : Int32)) C at_286 rfl rfl ?_
      refine g_icmpN (xi := 3) (yi := 1) (pc2 := 290) C at_287 rfl rfl rfl (by decide) ?_
      refine g_iload (pc' := 292) C at_290 rfl rfl ?_
      refine g_ifN (xi := 1) (pc2 := 295) C at_292 rfl rfl (by decide) ?_
      refine g_aload (pc' := 297) C at_295 rfl rfl rfl ?_
      refine g_iconst (pc' := 298) (z := (1 : Int32)) C at_297 rfl rfl ?_
      refine g_aaload (pc' := 299) (i := 1) C at_298 rfl Aa22 rfl rfl ?_
      refine g_aload (pc' := 301) C at_299 rfl rfl rfl ?_
      refine g_iconst (pc' := 302) (z := (2 : Int32)) C at_301 rfl rfl ?_
      refine g_iload (pc' := 304) C at_302 rfl rfl ?_
      refine g_irem (pc' := 305) C at_304 rfl (by decide) ?_
      show Go W Q h89 7 18 305 #[.val (.int p0), .val (.int p1), .val (.int p2), .val (.int (3 : Int32)), .val (.int (1 : Int32)), .val (.int z3), .val (.ref r0), .val (.ref a4), .val (.ref a6), .val (.ref a22), .val (.int (3 : Int32)), .val (.int (1 : Int32)), .val (.int (0 : Int32)), .val (.int (1 : Int32)), .val (.int (1 : Int32))] [(.int (2 : Int32)), (.ref a22), (.ref a5)]
      refine g_aaload (pc' := 306) (i := 2) C at_305 rfl Aa22 rfl rfl ?_
      refine g_staticP (y := (⟨"com/example/slot512/slot512/LinkUnlinkPinLaw", "joined", "(Lcom/example/slot512/slot512/Link;Lcom/example/slot512/slot512/Link;)Z"⟩ : MethodName)) (pc' := 309) (k' := 7) (n' := 18) (S := []) (as := [(.ref a5), (.ref a7)]) C at_306 rfl (hw _ (List.mem_of_getElem? (i := 25) rfl)) (hw _ (List.mem_of_getElem? (i := 26) rfl)) (hw _ (List.mem_of_getElem? (i := 27) rfl)) (hw _ (List.mem_of_getElem? (i := 28) rfl)) (by decide) (lenOf pd_2 rfl) (con_joined W.l Z a0 hw a5 a7 (.ref r0) (.ref r0) h89 Oa5 Oa7) rfl rfl (Nat.le_of_ble_eq_true rfl) (Nat.le_of_ble_eq_true rfl) rfl rfl (Nat.le_of_ble_eq_true rfl) (Nat.le_of_ble_eq_true rfl) (S1 := [(.int (1 : Int32))]) rfl ?_
      refine g_ifN (xi := 1) (pc2 := 312) C at_309 rfl rfl (by decide) ?_
      refine g_iconst (pc' := 313) (z := (1 : Int32)) C at_312 rfl rfl ?_
      refine g_goto C at_313 (by decide) (pc' := 317) rfl ?_
      refine g_istore (pc' := 319) (L' := #[.val (.int p0), .val (.int p1), .val (.int p2), .val (.int (3 : Int32)), .val (.int (1 : Int32)), .val (.int z3), .val (.ref r0), .val (.ref a4), .val (.ref a6), .val (.ref a22), .val (.int (3 : Int32)), .val (.int (1 : Int32)), .val (.int (0 : Int32)), .val (.int (1 : Int32)), .val (.int (1 : Int32))]) C at_317 rfl rfl ?_
      refine g_iload (pc' := 321) C at_319 rfl rfl ?_
      refine g_iconst (pc' := 322) (z := (2 : Int32)) C at_321 rfl rfl ?_
      refine g_icmpN (xi := 3) (yi := 2) (pc2 := 325) C at_322 rfl rfl rfl (by decide) ?_
      refine g_iload (pc' := 327) C at_325 rfl rfl ?_
      refine g_ifN (xi := 1) (pc2 := 330) C at_327 rfl rfl (by decide) ?_
      refine g_aload (pc' := 332) C at_330 rfl rfl rfl ?_
      refine g_iconst (pc' := 333) (z := (2 : Int32)) C at_332 rfl rfl ?_
      refine g_aaload (pc' := 334) (i := 2) C at_333 rfl Aa22 rfl rfl ?_
      refine g_aload (pc' := 336) C at_334 rfl rfl rfl ?_
      refine g_iconst (pc' := 337) (z := (3 : Int32)) C at_336 rfl rfl ?_
      refine g_iload (pc' := 339) C at_337 rfl rfl ?_
      refine g_irem (pc' := 340) C at_339 rfl (by decide) ?_
      show Go W Q h89 7 18 340 #[.val (.int p0), .val (.int p1), .val (.int p2), .val (.int (3 : Int32)), .val (.int (1 : Int32)), .val (.int z3), .val (.ref r0), .val (.ref a4), .val (.ref a6), .val (.ref a22), .val (.int (3 : Int32)), .val (.int (1 : Int32)), .val (.int (0 : Int32)), .val (.int (1 : Int32)), .val (.int (1 : Int32))] [(.int (0 : Int32)), (.ref a22), (.ref a7)]
      refine g_aaload (pc' := 341) (i := 0) C at_340 rfl Aa22 rfl rfl ?_
      refine g_staticP (y := (⟨"com/example/slot512/slot512/LinkUnlinkPinLaw", "joined", "(Lcom/example/slot512/slot512/Link;Lcom/example/slot512/slot512/Link;)Z"⟩ : MethodName)) (pc' := 344) (k' := 7) (n' := 18) (S := []) (as := [(.ref a7), (.ref r0)]) C at_341 rfl (hw _ (List.mem_of_getElem? (i := 25) rfl)) (hw _ (List.mem_of_getElem? (i := 26) rfl)) (hw _ (List.mem_of_getElem? (i := 27) rfl)) (hw _ (List.mem_of_getElem? (i := 28) rfl)) (by decide) (lenOf pd_2 rfl) (con_joined W.l Z a0 hw a7 r0 (.ref a5) (.ref a5) h89 Oa7 Or0) rfl rfl (Nat.le_of_ble_eq_true rfl) (Nat.le_of_ble_eq_true rfl) rfl rfl (Nat.le_of_ble_eq_true rfl) (Nat.le_of_ble_eq_true rfl) (S1 := [(.int (1 : Int32))]) rfl ?_
      refine g_ifN (xi := 1) (pc2 := 347) C at_344 rfl rfl (by decide) ?_
      refine g_iconst (pc' := 348) (z := (1 : Int32)) C at_347 rfl rfl ?_
      refine g_goto C at_348 (by decide) (pc' := 352) rfl ?_
      refine g_istore (pc' := 354) (L' := #[.val (.int p0), .val (.int p1), .val (.int p2), .val (.int (3 : Int32)), .val (.int (1 : Int32)), .val (.int z3), .val (.ref r0), .val (.ref a4), .val (.ref a6), .val (.ref a22), .val (.int (3 : Int32)), .val (.int (1 : Int32)), .val (.int (0 : Int32)), .val (.int (1 : Int32)), .val (.int (1 : Int32))]) C at_352 rfl rfl ?_
      refine g_iload (pc' := 356) C at_354 rfl rfl ?_
      refine g_iconst (pc' := 357) (z := (3 : Int32)) C at_356 rfl rfl ?_
      refine g_icmpY (xi := 3) (yi := 3) (pc1 := 386) C at_357 (by decide) rfl rfl rfl (by decide) ?_
      refine g_iload (pc' := 388) C at_386 rfl rfl ?_
      refine g_ifY (xi := 1) (pc1 := 413) C at_388 (by decide) rfl rfl (by decide) ?_
      refine g_iload (pc' := 415) C at_413 rfl rfl ?_
      refine g_ifN (xi := 0) (pc2 := 418) C at_415 rfl rfl (by decide) ?_
      refine g_iload (pc' := 420) C at_418 rfl rfl ?_
      refine g_ifN (xi := 1) (pc2 := 423) C at_420 rfl rfl (by decide) ?_
      refine g_aload (pc' := 425) C at_423 rfl rfl rfl ?_
      refine g_iconst (pc' := 426) (z := (1 : Int32)) C at_425 rfl rfl ?_
      refine g_aaload (pc' := 427) (i := 1) C at_426 rfl Aa4 rfl rfl ?_
      refine g_staticP (y := (⟨"com/example/slot512/slot512/LinkUnlinkPinLaw", "detached", "(Lcom/example/slot512/slot512/Link;)Z"⟩ : MethodName)) (pc' := 430) (k' := 7) (n' := 18) (S := []) (as := [(.ref a6)]) C at_427 rfl (hw _ (List.mem_of_getElem? (i := 31) rfl)) (hw _ (List.mem_of_getElem? (i := 32) rfl)) (hw _ (List.mem_of_getElem? (i := 27) rfl)) (hw _ (List.mem_of_getElem? (i := 33) rfl)) (by decide) (lenOf pd_3 rfl) (con_det W.l Z a0 hw a6 h89 Oa6) rfl rfl (Nat.le_of_ble_eq_true rfl) (Nat.le_of_ble_eq_true rfl) rfl rfl (Nat.le_of_ble_eq_true rfl) (Nat.le_of_ble_eq_true rfl) (S1 := [(.int (1 : Int32))]) rfl ?_
      refine g_ifN (xi := 1) (pc2 := 433) C at_430 rfl rfl (by decide) ?_
      refine g_iconst (pc' := 434) (z := (1 : Int32)) C at_433 rfl rfl ?_
      refine g_goto C at_434 (by decide) (pc' := 438) rfl ?_
      refine g_istore (pc' := 440) (L' := #[.val (.int p0), .val (.int p1), .val (.int p2), .val (.int (3 : Int32)), .val (.int (1 : Int32)), .val (.int z3), .val (.ref r0), .val (.ref a4), .val (.ref a6), .val (.ref a22), .val (.int (3 : Int32)), .val (.int (1 : Int32)), .val (.int (0 : Int32)), .val (.int (1 : Int32)), .val (.int (1 : Int32))]) C at_438 rfl rfl ?_
      refine g_iload (pc' := 442) C at_440 rfl rfl ?_
      refine g_ifY (xi := 1) (pc1 := 467) C at_442 (by decide) rfl rfl (by decide) ?_
      refine g_iload (pc' := 469) C at_467 rfl rfl ?_
      refine g_ifN (xi := 1) (pc2 := 472) C at_469 rfl rfl (by decide) ?_
      refine g_aload (pc' := 474) C at_472 rfl rfl rfl ?_
      refine g_iconst (pc' := 475) (z := (3 : Int32)) C at_474 rfl rfl ?_
      refine g_aaload (pc' := 476) (i := 3) C at_475 rfl Aa4 rfl rfl ?_
      refine g_staticP (y := (⟨"com/example/slot512/slot512/LinkUnlinkPinLaw", "detached", "(Lcom/example/slot512/slot512/Link;)Z"⟩ : MethodName)) (pc' := 479) (k' := 7) (n' := 18) (S := []) (as := [(.ref a8)]) C at_476 rfl (hw _ (List.mem_of_getElem? (i := 31) rfl)) (hw _ (List.mem_of_getElem? (i := 32) rfl)) (hw _ (List.mem_of_getElem? (i := 27) rfl)) (hw _ (List.mem_of_getElem? (i := 33) rfl)) (by decide) (lenOf pd_3 rfl) (con_det W.l Z a0 hw a8 h89 Oa8) rfl rfl (Nat.le_of_ble_eq_true rfl) (Nat.le_of_ble_eq_true rfl) rfl rfl (Nat.le_of_ble_eq_true rfl) (Nat.le_of_ble_eq_true rfl) (S1 := [(.int (1 : Int32))]) rfl ?_
      refine g_ifN (xi := 1) (pc2 := 482) C at_479 rfl rfl (by decide) ?_
      refine g_iconst (pc' := 483) (z := (1 : Int32)) C at_482 rfl rfl ?_
      refine g_goto C at_483 (by decide) (pc' := 487) rfl ?_
      refine g_istore (pc' := 489) (L' := #[.val (.int p0), .val (.int p1), .val (.int p2), .val (.int (3 : Int32)), .val (.int (1 : Int32)), .val (.int z3), .val (.ref r0), .val (.ref a4), .val (.ref a6), .val (.ref a22), .val (.int (3 : Int32)), .val (.int (1 : Int32)), .val (.int (0 : Int32)), .val (.int (1 : Int32)), .val (.int (1 : Int32))]) C at_487 rfl rfl ?_
      refine g_iload (pc' := 491) C at_489 rfl rfl ?_
      refine g_retN C (by simp) at_491 (by decide) (by decide) ?_
      subst hQ
      rfl
    ·
      refine g_aload (pc' := 120) C at_118 rfl rfl rfl ?_
      refine g_iload (pc' := 122) C at_120 rfl rfl ?_
      refine g_aaload (pc' := 123) (i := 2) C at_122 rfl Aa4 rfl rfl ?_
      refine g_astore (pc' := 125) (L' := #[.val (.int p0), .val (.int p1), .val (.int p2), .val (.int (3 : Int32)), .val (.int (2 : Int32)), .val (.int z3), .val (.ref r0), .val (.ref a4), .val (.ref a7), .unset, .unset, .unset, .unset, .unset, .unset]) C at_123 rfl rfl rfl ?_
      refine g_aload (pc' := 127) C at_125 rfl rfl rfl ?_
      refine g_virtual (y := (⟨"com/example/slot512/slot512/Link", "unlink", "()V"⟩ : MethodName)) (a := a7) (pc' := 130) (k' := 6) (n' := 14) (S := []) (as := []) C at_127 rfl (hw _ (List.mem_of_getElem? (i := 20) rfl)) (hw _ (List.mem_of_getElem? (i := 22) rfl)) (hw _ (List.mem_of_getElem? (i := 2) rfl)) (hw _ (List.mem_of_getElem? (i := 24) rfl)) (hw _ (List.mem_of_getElem? (i := 21) rfl)) (hw _ (List.mem_of_getElem? (i := 23) rfl)) (by decide) Oa7.1 (lenOf pd_0 rfl) (con_un2 W.l Z a0 hw a7 a6 r0 (.ref a5) (.ref a7) (.ref a7) (.ref a5) (Ne.symm n_a6_a7) (Ne.symm n_r0_a7) (Ne.symm n_r0_a6) h77 Oa7 Oa6 Or0) rfl rfl (Nat.le_of_ble_eq_true rfl) (Nat.le_of_ble_eq_true rfl) rfl rfl (Nat.le_of_ble_eq_true rfl) (Nat.le_of_ble_eq_true rfl) (allS w_a7 (allS w_a6 (allS w_r0 all0))) fun vh90 h90 qh90 Kh90 => ?_
      obtain ⟨rfl, Oa7, Oa6, Or0⟩ := qh90
      replace Oa5 := Oa5.keep Kh90 (ninS n_a5_a7 (ninS n_a5_a6 (ninS (Ne.symm n_r0_a5) nin0)))
      replace Oa8 := Oa8.keep Kh90 (ninS (Ne.symm n_a7_a8) (ninS (Ne.symm n_a6_a8) (ninS (Ne.symm n_r0_a8) nin0)))
      replace Aa4 := Aa4.keep Kh90 (ninS n_a4_a7 (ninS n_a4_a6 (ninS (Ne.symm n_r0_a4) nin0)))
      show Go W Q h90 6 14 130 #[.val (.int p0), .val (.int p1), .val (.int p2), .val (.int (3 : Int32)), .val (.int (2 : Int32)), .val (.int z3), .val (.ref r0), .val (.ref a4), .val (.ref a7), .unset, .unset, .unset, .unset, .unset, .unset] []
      refine g_iload (pc' := 132) C at_130 rfl rfl ?_
      suffices K_132 : Go W Q h90 6 14 140 #[.val (.int p0), .val (.int p1), .val (.int p2), .val (.int (3 : Int32)), .val (.int (2 : Int32)), .val (.int z3), .val (.ref r0), .val (.ref a4), .val (.ref a7), .unset, .unset, .unset, .unset, .unset, .unset] [] by
        refine g_ifeqb (pc1 := 140) (pc2 := 135) C at_132 (by decide) rfl rfl e_z3 (fun (c132 : ¬ (¬ ((p2 &&& (1 : Int32)).toInt = 0))) => ?_) (fun (c132 : ¬ ((p2 &&& (1 : Int32)).toInt = 0)) => ?_)
        ·
          replace c132 : (p2 &&& (1 : Int32)).toInt = 0 := Decidable.not_not.mp c132
          exact K_132
        ·
          refine g_aload (pc' := 137) C at_135 rfl rfl rfl ?_
          refine g_virtual (y := (⟨"com/example/slot512/slot512/Link", "unlink", "()V"⟩ : MethodName)) (a := a7) (pc' := 140) (k' := 6) (n' := 14) (S := []) (as := []) C at_137 rfl (hw _ (List.mem_of_getElem? (i := 20) rfl)) (hw _ (List.mem_of_getElem? (i := 22) rfl)) (hw _ (List.mem_of_getElem? (i := 2) rfl)) (hw _ (List.mem_of_getElem? (i := 24) rfl)) (hw _ (List.mem_of_getElem? (i := 21) rfl)) (hw _ (List.mem_of_getElem? (i := 23) rfl)) (by decide) Oa7.1 (lenOf pd_0 rfl) (con_un0 W.l Z a0 hw a7 .null h90 Oa7) rfl rfl (Nat.le_of_ble_eq_true rfl) (Nat.le_of_ble_eq_true rfl) rfl rfl (Nat.le_of_ble_eq_true rfl) (Nat.le_of_ble_eq_true rfl) all0 fun vh91 h91 qh91 Kh91 => ?_
          obtain ⟨rfl, eh⟩ := qh91
          subst eh
          show Go W Q h90 6 14 140 #[.val (.int p0), .val (.int p1), .val (.int p2), .val (.int (3 : Int32)), .val (.int (2 : Int32)), .val (.int z3), .val (.ref r0), .val (.ref a4), .val (.ref a7), .unset, .unset, .unset, .unset, .unset, .unset] []
          exact K_132
      refine g_iconst (pc' := 141) (z := (4 : Int32)) C at_140 rfl rfl ?_
      refine g_anewarray (pc' := 144) (len := 4) (cap := 4) (k' := 7) (n' := 18) C at_141 rfl (hw _ (List.mem_of_getElem? (i := 16) rfl)) (hw _ (List.mem_of_getElem? (i := 17) rfl)) rfl (by decide) (by decide) rfl rfl (by decide) (by decide) fun h92 a23 e_a23 Eh92 Aa23 w_a23 => ?_
      have n_r0_a23 : r0 ≠ a23 := by rw [e_a23]; exact Nat.ne_of_lt Or0.lt
      have n_a5_a23 : a5 ≠ a23 := by rw [e_a23]; exact Nat.ne_of_lt Oa5.lt
      have n_a6_a23 : a6 ≠ a23 := by rw [e_a23]; exact Nat.ne_of_lt Oa6.lt
      have n_a7_a23 : a7 ≠ a23 := by rw [e_a23]; exact Nat.ne_of_lt Oa7.lt
      have n_a8_a23 : a8 ≠ a23 := by rw [e_a23]; exact Nat.ne_of_lt Oa8.lt
      have n_a4_a23 : a4 ≠ a23 := by rw [e_a23]; exact Nat.ne_of_lt Aa4.lt
      replace Or0 := Or0.ext Eh92
      replace Oa5 := Oa5.ext Eh92
      replace Oa6 := Oa6.ext Eh92
      replace Oa7 := Oa7.ext Eh92
      replace Oa8 := Oa8.ext Eh92
      replace Aa4 := Aa4.ext Eh92
      replace Aa23 : ArR Z h92 a23 "com/example/slot512/slot512/Link" [.null, .null, .null, .null] := Aa23
      refine g_astore (pc' := 146) (L' := #[.val (.int p0), .val (.int p1), .val (.int p2), .val (.int (3 : Int32)), .val (.int (2 : Int32)), .val (.int z3), .val (.ref r0), .val (.ref a4), .val (.ref a7), .val (.ref a23), .unset, .unset, .unset, .unset, .unset]) C at_144 rfl rfl rfl ?_
      refine g_aload (pc' := 148) C at_146 rfl rfl rfl ?_
      refine g_iconst (pc' := 149) (z := (0 : Int32)) C at_148 rfl rfl ?_
      refine g_aload (pc' := 151) C at_149 rfl rfl rfl ?_
      refine g_aastore (pc' := 152) (i := 0) (vs' := [(.ref r0), .null, .null, .null]) C at_151 rfl Aa23 rfl (Nat.le_of_ble_eq_true rfl) rfl (Or.inr ⟨_, rfl, Or0.1⟩) w_a23 fun h93 Aa23 Kh93 => ?_
      replace Or0 := Or0.keep Kh93 (ninS n_r0_a23 nin0)
      replace Oa5 := Oa5.keep Kh93 (ninS n_a5_a23 nin0)
      replace Oa6 := Oa6.keep Kh93 (ninS n_a6_a23 nin0)
      replace Oa7 := Oa7.keep Kh93 (ninS n_a7_a23 nin0)
      replace Oa8 := Oa8.keep Kh93 (ninS n_a8_a23 nin0)
      replace Aa4 := Aa4.keep Kh93 (ninS n_a4_a23 nin0)
      refine g_iconst (pc' := 153) (z := (1 : Int32)) C at_152 rfl rfl ?_
      refine g_istore (pc' := 155) (L' := #[.val (.int p0), .val (.int p1), .val (.int p2), .val (.int (3 : Int32)), .val (.int (2 : Int32)), .val (.int z3), .val (.ref r0), .val (.ref a4), .val (.ref a7), .val (.ref a23), .val (.int (1 : Int32)), .unset, .unset, .unset, .unset]) C at_153 rfl rfl ?_
      refine g_iconst (pc' := 156) (z := (0 : Int32)) C at_155 rfl rfl ?_
      refine g_iloadN (pc' := 157) C at_156 rfl rfl ?_
      refine g_icmpN (xi := 0) (yi := 3) (pc2 := 160) C at_157 rfl rfl rfl (by decide) ?_
      refine g_iload (pc' := 162) C at_160 rfl rfl ?_
      refine g_ifN (xi := 2) (pc2 := 165) C at_162 rfl rfl (by decide) ?_
      refine g_iconst (pc' := 166) (z := (1 : Int32)) C at_165 rfl rfl ?_
      refine g_goto C at_166 (by decide) (pc' := 170) rfl ?_
      refine g_istore (pc' := 172) (L' := #[.val (.int p0), .val (.int p1), .val (.int p2), .val (.int (3 : Int32)), .val (.int (2 : Int32)), .val (.int z3), .val (.ref r0), .val (.ref a4), .val (.ref a7), .val (.ref a23), .val (.int (1 : Int32)), .val (.int (1 : Int32)), .unset, .unset, .unset]) C at_170 rfl rfl ?_
      refine g_iconst (pc' := 173) (z := (1 : Int32)) C at_172 rfl rfl ?_
      refine g_iloadN (pc' := 174) C at_173 rfl rfl ?_
      refine g_icmpN (xi := 1) (yi := 3) (pc2 := 177) C at_174 rfl rfl rfl (by decide) ?_
      refine g_iload (pc' := 179) C at_177 rfl rfl ?_
      refine g_iconst (pc' := 180) (z := (1 : Int32)) C at_179 rfl rfl ?_
      refine g_icmpN (xi := 2) (yi := 1) (pc2 := 183) C at_180 rfl rfl rfl (by decide) ?_
      refine g_iconst (pc' := 184) (z := (1 : Int32)) C at_183 rfl rfl ?_
      refine g_goto C at_184 (by decide) (pc' := 188) rfl ?_
      refine g_istore (pc' := 190) (L' := #[.val (.int p0), .val (.int p1), .val (.int p2), .val (.int (3 : Int32)), .val (.int (2 : Int32)), .val (.int z3), .val (.ref r0), .val (.ref a4), .val (.ref a7), .val (.ref a23), .val (.int (1 : Int32)), .val (.int (1 : Int32)), .val (.int (1 : Int32)), .unset, .unset]) C at_188 rfl rfl ?_
      refine g_iconst (pc' := 191) (z := (2 : Int32)) C at_190 rfl rfl ?_
      refine g_iloadN (pc' := 192) C at_191 rfl rfl ?_
      refine g_icmpN (xi := 2) (yi := 3) (pc2 := 195) C at_192 rfl rfl rfl (by decide) ?_
      refine g_iload (pc' := 197) C at_195 rfl rfl ?_
      refine g_iconst (pc' := 198) (z := (2 : Int32)) C at_197 rfl rfl ?_
      refine g_icmpY (xi := 2) (yi := 2) (pc1 := 205) C at_198 (by decide) rfl rfl rfl (by decide) ?_
      refine g_iconst (pc' := 206) (z := (0 : Int32)) C at_205 rfl rfl ?_
      refine g_istore (pc' := 208) (L' := #[.val (.int p0), .val (.int p1), .val (.int p2), .val (.int (3 : Int32)), .val (.int (2 : Int32)), .val (.int z3), .val (.ref r0), .val (.ref a4), .val (.ref a7), .val (.ref a23), .val (.int (1 : Int32)), .val (.int (1 : Int32)), .val (.int (1 : Int32)), .val (.int (0 : Int32)), .unset]) C at_206 rfl rfl ?_
      refine g_iload (pc' := 210) C at_208 rfl rfl ?_
      refine g_ifN (xi := 1) (pc2 := 213) C at_210 rfl rfl (by decide) ?_
      refine g_aload (pc' := 215) C at_213 rfl rfl rfl ?_
      refine g_iload (pc' := 217) C at_215 rfl rfl ?_
      refine g_aload (pc' := 219) C at_217 rfl rfl rfl ?_
      refine g_iconst (pc' := 220) (z := (0 : Int32)) C at_219 rfl rfl ?_
      refine g_aaload (pc' := 221) (i := 0) C at_220 rfl Aa4 rfl rfl ?_
      refine g_aastore (pc' := 222) (i := 1) (vs' := [(.ref r0), (.ref a5), .null, .null]) C at_221 rfl Aa23 rfl (Nat.le_of_ble_eq_true rfl) rfl (Or.inr ⟨_, rfl, Oa5.1⟩) w_a23 fun h94 Aa23 Kh94 => ?_
      replace Or0 := Or0.keep Kh94 (ninS n_r0_a23 nin0)
      replace Oa5 := Oa5.keep Kh94 (ninS n_a5_a23 nin0)
      replace Oa6 := Oa6.keep Kh94 (ninS n_a6_a23 nin0)
      replace Oa7 := Oa7.keep Kh94 (ninS n_a7_a23 nin0)
      replace Oa8 := Oa8.keep Kh94 (ninS n_a8_a23 nin0)
      replace Aa4 := Aa4.keep Kh94 (ninS n_a4_a23 nin0)
      refine g_iload (pc' := 224) C at_222 rfl rfl ?_
      refine g_iconst (pc' := 225) (z := (1 : Int32)) C at_224 rfl rfl ?_
      refine g_iadd (pc' := 226) C at_225 rfl ?_
      show Go W Q h94 7 18 226 #[.val (.int p0), .val (.int p1), .val (.int p2), .val (.int (3 : Int32)), .val (.int (2 : Int32)), .val (.int z3), .val (.ref r0), .val (.ref a4), .val (.ref a7), .val (.ref a23), .val (.int (1 : Int32)), .val (.int (1 : Int32)), .val (.int (1 : Int32)), .val (.int (0 : Int32)), .unset] [(.int (2 : Int32))]
      refine g_istore (pc' := 228) (L' := #[.val (.int p0), .val (.int p1), .val (.int p2), .val (.int (3 : Int32)), .val (.int (2 : Int32)), .val (.int z3), .val (.ref r0), .val (.ref a4), .val (.ref a7), .val (.ref a23), .val (.int (2 : Int32)), .val (.int (1 : Int32)), .val (.int (1 : Int32)), .val (.int (0 : Int32)), .unset]) C at_226 rfl rfl ?_
      refine g_iload (pc' := 230) C at_228 rfl rfl ?_
      refine g_ifN (xi := 1) (pc2 := 233) C at_230 rfl rfl (by decide) ?_
      refine g_aload (pc' := 235) C at_233 rfl rfl rfl ?_
      refine g_iload (pc' := 237) C at_235 rfl rfl ?_
      refine g_aload (pc' := 239) C at_237 rfl rfl rfl ?_
      refine g_iconst (pc' := 240) (z := (1 : Int32)) C at_239 rfl rfl ?_
      refine g_aaload (pc' := 241) (i := 1) C at_240 rfl Aa4 rfl rfl ?_
      refine g_aastore (pc' := 242) (i := 2) (vs' := [(.ref r0), (.ref a5), (.ref a6), .null]) C at_241 rfl Aa23 rfl (Nat.le_of_ble_eq_true rfl) rfl (Or.inr ⟨_, rfl, Oa6.1⟩) w_a23 fun h95 Aa23 Kh95 => ?_
      replace Or0 := Or0.keep Kh95 (ninS n_r0_a23 nin0)
      replace Oa5 := Oa5.keep Kh95 (ninS n_a5_a23 nin0)
      replace Oa6 := Oa6.keep Kh95 (ninS n_a6_a23 nin0)
      replace Oa7 := Oa7.keep Kh95 (ninS n_a7_a23 nin0)
      replace Oa8 := Oa8.keep Kh95 (ninS n_a8_a23 nin0)
      replace Aa4 := Aa4.keep Kh95 (ninS n_a4_a23 nin0)
      refine g_iload (pc' := 244) C at_242 rfl rfl ?_
      refine g_iconst (pc' := 245) (z := (1 : Int32)) C at_244 rfl rfl ?_
      refine g_iadd (pc' := 246) C at_245 rfl ?_
      show Go W Q h95 7 18 246 #[.val (.int p0), .val (.int p1), .val (.int p2), .val (.int (3 : Int32)), .val (.int (2 : Int32)), .val (.int z3), .val (.ref r0), .val (.ref a4), .val (.ref a7), .val (.ref a23), .val (.int (2 : Int32)), .val (.int (1 : Int32)), .val (.int (1 : Int32)), .val (.int (0 : Int32)), .unset] [(.int (3 : Int32))]
      refine g_istore (pc' := 248) (L' := #[.val (.int p0), .val (.int p1), .val (.int p2), .val (.int (3 : Int32)), .val (.int (2 : Int32)), .val (.int z3), .val (.ref r0), .val (.ref a4), .val (.ref a7), .val (.ref a23), .val (.int (3 : Int32)), .val (.int (1 : Int32)), .val (.int (1 : Int32)), .val (.int (0 : Int32)), .unset]) C at_246 rfl rfl ?_
      refine g_iload (pc' := 250) C at_248 rfl rfl ?_
      refine g_ifY (xi := 0) (pc1 := 268) C at_250 (by decide) rfl rfl (by decide) ?_
      refine g_aload (pc' := 270) C at_268 rfl rfl rfl ?_
      refine g_iconst (pc' := 271) (z := (0 : Int32)) C at_270 rfl rfl ?_
      refine g_aaload (pc' := 272) (i := 0) C at_271 rfl Aa23 rfl rfl ?_
      refine g_aload (pc' := 274) C at_272 rfl rfl rfl ?_
      refine g_iconst (pc' := 275) (z := (1 : Int32)) C at_274 rfl rfl ?_
      refine g_iload (pc' := 277) C at_275 rfl rfl ?_
      refine g_irem (pc' := 278) C at_277 rfl (by decide) ?_
      show Go W Q h95 7 18 278 #[.val (.int p0), .val (.int p1), .val (.int p2), .val (.int (3 : Int32)), .val (.int (2 : Int32)), .val (.int z3), .val (.ref r0), .val (.ref a4), .val (.ref a7), .val (.ref a23), .val (.int (3 : Int32)), .val (.int (1 : Int32)), .val (.int (1 : Int32)), .val (.int (0 : Int32)), .unset] [(.int (1 : Int32)), (.ref a23), (.ref r0)]
      refine g_aaload (pc' := 279) (i := 1) C at_278 rfl Aa23 rfl rfl ?_
      refine g_staticP (y := (⟨"com/example/slot512/slot512/LinkUnlinkPinLaw", "joined", "(Lcom/example/slot512/slot512/Link;Lcom/example/slot512/slot512/Link;)Z"⟩ : MethodName)) (pc' := 282) (k' := 7) (n' := 18) (S := []) (as := [(.ref r0), (.ref a5)]) C at_279 rfl (hw _ (List.mem_of_getElem? (i := 25) rfl)) (hw _ (List.mem_of_getElem? (i := 26) rfl)) (hw _ (List.mem_of_getElem? (i := 27) rfl)) (hw _ (List.mem_of_getElem? (i := 28) rfl)) (by decide) (lenOf pd_2 rfl) (con_joined W.l Z a0 hw r0 a5 (.ref a6) (.ref a6) h95 Or0 Oa5) rfl rfl (Nat.le_of_ble_eq_true rfl) (Nat.le_of_ble_eq_true rfl) rfl rfl (Nat.le_of_ble_eq_true rfl) (Nat.le_of_ble_eq_true rfl) (S1 := [(.int (1 : Int32))]) rfl ?_
      refine g_istore (pc' := 284) (L' := #[.val (.int p0), .val (.int p1), .val (.int p2), .val (.int (3 : Int32)), .val (.int (2 : Int32)), .val (.int z3), .val (.ref r0), .val (.ref a4), .val (.ref a7), .val (.ref a23), .val (.int (3 : Int32)), .val (.int (1 : Int32)), .val (.int (1 : Int32)), .val (.int (0 : Int32)), .val (.int (1 : Int32))]) C at_282 rfl rfl ?_
      refine g_iload (pc' := 286) C at_284 rfl rfl ?_
      refine g_iconst (pc' := 287) (z := (1 : Int32)) C at_286 rfl rfl ?_
      refine g_icmpN (xi := 3) (yi := 1) (pc2 := 290) C at_287 rfl rfl rfl (by decide) ?_
      refine g_iload (pc' := 292) C at_290 rfl rfl ?_
      refine g_ifN (xi := 1) (pc2 := 295) C at_292 rfl rfl (by decide) ?_
      refine g_aload (pc' := 297) C at_295 rfl rfl rfl ?_
      refine g_iconst (pc' := 298) (z := (1 : Int32)) C at_297 rfl rfl ?_
      refine g_aaload (pc' := 299) (i := 1) C at_298 rfl Aa23 rfl rfl ?_
      refine g_aload (pc' := 301) C at_299 rfl rfl rfl ?_
      refine g_iconst (pc' := 302) (z := (2 : Int32)) C at_301 rfl rfl ?_
      refine g_iload (pc' := 304) C at_302 rfl rfl ?_
      refine g_irem (pc' := 305) C at_304 rfl (by decide) ?_
      show Go W Q h95 7 18 305 #[.val (.int p0), .val (.int p1), .val (.int p2), .val (.int (3 : Int32)), .val (.int (2 : Int32)), .val (.int z3), .val (.ref r0), .val (.ref a4), .val (.ref a7), .val (.ref a23), .val (.int (3 : Int32)), .val (.int (1 : Int32)), .val (.int (1 : Int32)), .val (.int (0 : Int32)), .val (.int (1 : Int32))] [(.int (2 : Int32)), (.ref a23), (.ref a5)]
      refine g_aaload (pc' := 306) (i := 2) C at_305 rfl Aa23 rfl rfl ?_
      refine g_staticP (y := (⟨"com/example/slot512/slot512/LinkUnlinkPinLaw", "joined", "(Lcom/example/slot512/slot512/Link;Lcom/example/slot512/slot512/Link;)Z"⟩ : MethodName)) (pc' := 309) (k' := 7) (n' := 18) (S := []) (as := [(.ref a5), (.ref a6)]) C at_306 rfl (hw _ (List.mem_of_getElem? (i := 25) rfl)) (hw _ (List.mem_of_getElem? (i := 26) rfl)) (hw _ (List.mem_of_getElem? (i := 27) rfl)) (hw _ (List.mem_of_getElem? (i := 28) rfl)) (by decide) (lenOf pd_2 rfl) (con_joined W.l Z a0 hw a5 a6 (.ref r0) (.ref r0) h95 Oa5 Oa6) rfl rfl (Nat.le_of_ble_eq_true rfl) (Nat.le_of_ble_eq_true rfl) rfl rfl (Nat.le_of_ble_eq_true rfl) (Nat.le_of_ble_eq_true rfl) (S1 := [(.int (1 : Int32))]) rfl ?_
      refine g_ifN (xi := 1) (pc2 := 312) C at_309 rfl rfl (by decide) ?_
      refine g_iconst (pc' := 313) (z := (1 : Int32)) C at_312 rfl rfl ?_
      refine g_goto C at_313 (by decide) (pc' := 317) rfl ?_
      refine g_istore (pc' := 319) (L' := #[.val (.int p0), .val (.int p1), .val (.int p2), .val (.int (3 : Int32)), .val (.int (2 : Int32)), .val (.int z3), .val (.ref r0), .val (.ref a4), .val (.ref a7), .val (.ref a23), .val (.int (3 : Int32)), .val (.int (1 : Int32)), .val (.int (1 : Int32)), .val (.int (0 : Int32)), .val (.int (1 : Int32))]) C at_317 rfl rfl ?_
      refine g_iload (pc' := 321) C at_319 rfl rfl ?_
      refine g_iconst (pc' := 322) (z := (2 : Int32)) C at_321 rfl rfl ?_
      refine g_icmpN (xi := 3) (yi := 2) (pc2 := 325) C at_322 rfl rfl rfl (by decide) ?_
      refine g_iload (pc' := 327) C at_325 rfl rfl ?_
      refine g_ifN (xi := 1) (pc2 := 330) C at_327 rfl rfl (by decide) ?_
      refine g_aload (pc' := 332) C at_330 rfl rfl rfl ?_
      refine g_iconst (pc' := 333) (z := (2 : Int32)) C at_332 rfl rfl ?_
      refine g_aaload (pc' := 334) (i := 2) C at_333 rfl Aa23 rfl rfl ?_
      refine g_aload (pc' := 336) C at_334 rfl rfl rfl ?_
      refine g_iconst (pc' := 337) (z := (3 : Int32)) C at_336 rfl rfl ?_
      refine g_iload (pc' := 339) C at_337 rfl rfl ?_
      refine g_irem (pc' := 340) C at_339 rfl (by decide) ?_
      show Go W Q h95 7 18 340 #[.val (.int p0), .val (.int p1), .val (.int p2), .val (.int (3 : Int32)), .val (.int (2 : Int32)), .val (.int z3), .val (.ref r0), .val (.ref a4), .val (.ref a7), .val (.ref a23), .val (.int (3 : Int32)), .val (.int (1 : Int32)), .val (.int (1 : Int32)), .val (.int (0 : Int32)), .val (.int (1 : Int32))] [(.int (0 : Int32)), (.ref a23), (.ref a6)]
      refine g_aaload (pc' := 341) (i := 0) C at_340 rfl Aa23 rfl rfl ?_
      refine g_staticP (y := (⟨"com/example/slot512/slot512/LinkUnlinkPinLaw", "joined", "(Lcom/example/slot512/slot512/Link;Lcom/example/slot512/slot512/Link;)Z"⟩ : MethodName)) (pc' := 344) (k' := 7) (n' := 18) (S := []) (as := [(.ref a6), (.ref r0)]) C at_341 rfl (hw _ (List.mem_of_getElem? (i := 25) rfl)) (hw _ (List.mem_of_getElem? (i := 26) rfl)) (hw _ (List.mem_of_getElem? (i := 27) rfl)) (hw _ (List.mem_of_getElem? (i := 28) rfl)) (by decide) (lenOf pd_2 rfl) (con_joined W.l Z a0 hw a6 r0 (.ref a5) (.ref a5) h95 Oa6 Or0) rfl rfl (Nat.le_of_ble_eq_true rfl) (Nat.le_of_ble_eq_true rfl) rfl rfl (Nat.le_of_ble_eq_true rfl) (Nat.le_of_ble_eq_true rfl) (S1 := [(.int (1 : Int32))]) rfl ?_
      refine g_ifN (xi := 1) (pc2 := 347) C at_344 rfl rfl (by decide) ?_
      refine g_iconst (pc' := 348) (z := (1 : Int32)) C at_347 rfl rfl ?_
      refine g_goto C at_348 (by decide) (pc' := 352) rfl ?_
      refine g_istore (pc' := 354) (L' := #[.val (.int p0), .val (.int p1), .val (.int p2), .val (.int (3 : Int32)), .val (.int (2 : Int32)), .val (.int z3), .val (.ref r0), .val (.ref a4), .val (.ref a7), .val (.ref a23), .val (.int (3 : Int32)), .val (.int (1 : Int32)), .val (.int (1 : Int32)), .val (.int (0 : Int32)), .val (.int (1 : Int32))]) C at_352 rfl rfl ?_
      refine g_iload (pc' := 356) C at_354 rfl rfl ?_
      refine g_iconst (pc' := 357) (z := (3 : Int32)) C at_356 rfl rfl ?_
      refine g_icmpY (xi := 3) (yi := 3) (pc1 := 386) C at_357 (by decide) rfl rfl rfl (by decide) ?_
      refine g_iload (pc' := 388) C at_386 rfl rfl ?_
      refine g_ifY (xi := 1) (pc1 := 413) C at_388 (by decide) rfl rfl (by decide) ?_
      refine g_iload (pc' := 415) C at_413 rfl rfl ?_
      refine g_ifY (xi := 1) (pc1 := 440) C at_415 (by decide) rfl rfl (by decide) ?_
      refine g_iload (pc' := 442) C at_440 rfl rfl ?_
      refine g_ifN (xi := 0) (pc2 := 445) C at_442 rfl rfl (by decide) ?_
      refine g_iload (pc' := 447) C at_445 rfl rfl ?_
      refine g_ifN (xi := 1) (pc2 := 450) C at_447 rfl rfl (by decide) ?_
      refine g_aload (pc' := 452) C at_450 rfl rfl rfl ?_
      refine g_iconst (pc' := 453) (z := (2 : Int32)) C at_452 rfl rfl ?_
      refine g_aaload (pc' := 454) (i := 2) C at_453 rfl Aa4 rfl rfl ?_
      refine g_staticP (y := (⟨"com/example/slot512/slot512/LinkUnlinkPinLaw", "detached", "(Lcom/example/slot512/slot512/Link;)Z"⟩ : MethodName)) (pc' := 457) (k' := 7) (n' := 18) (S := []) (as := [(.ref a7)]) C at_454 rfl (hw _ (List.mem_of_getElem? (i := 31) rfl)) (hw _ (List.mem_of_getElem? (i := 32) rfl)) (hw _ (List.mem_of_getElem? (i := 27) rfl)) (hw _ (List.mem_of_getElem? (i := 33) rfl)) (by decide) (lenOf pd_3 rfl) (con_det W.l Z a0 hw a7 h95 Oa7) rfl rfl (Nat.le_of_ble_eq_true rfl) (Nat.le_of_ble_eq_true rfl) rfl rfl (Nat.le_of_ble_eq_true rfl) (Nat.le_of_ble_eq_true rfl) (S1 := [(.int (1 : Int32))]) rfl ?_
      refine g_ifN (xi := 1) (pc2 := 460) C at_457 rfl rfl (by decide) ?_
      refine g_iconst (pc' := 461) (z := (1 : Int32)) C at_460 rfl rfl ?_
      refine g_goto C at_461 (by decide) (pc' := 465) rfl ?_
      refine g_istore (pc' := 467) (L' := #[.val (.int p0), .val (.int p1), .val (.int p2), .val (.int (3 : Int32)), .val (.int (2 : Int32)), .val (.int z3), .val (.ref r0), .val (.ref a4), .val (.ref a7), .val (.ref a23), .val (.int (3 : Int32)), .val (.int (1 : Int32)), .val (.int (1 : Int32)), .val (.int (0 : Int32)), .val (.int (1 : Int32))]) C at_465 rfl rfl ?_
      refine g_iload (pc' := 469) C at_467 rfl rfl ?_
      refine g_ifN (xi := 1) (pc2 := 472) C at_469 rfl rfl (by decide) ?_
      refine g_aload (pc' := 474) C at_472 rfl rfl rfl ?_
      refine g_iconst (pc' := 475) (z := (3 : Int32)) C at_474 rfl rfl ?_
      refine g_aaload (pc' := 476) (i := 3) C at_475 rfl Aa4 rfl rfl ?_
      refine g_staticP (y := (⟨"com/example/slot512/slot512/LinkUnlinkPinLaw", "detached", "(Lcom/example/slot512/slot512/Link;)Z"⟩ : MethodName)) (pc' := 479) (k' := 7) (n' := 18) (S := []) (as := [(.ref a8)]) C at_476 rfl (hw _ (List.mem_of_getElem? (i := 31) rfl)) (hw _ (List.mem_of_getElem? (i := 32) rfl)) (hw _ (List.mem_of_getElem? (i := 27) rfl)) (hw _ (List.mem_of_getElem? (i := 33) rfl)) (by decide) (lenOf pd_3 rfl) (con_det W.l Z a0 hw a8 h95 Oa8) rfl rfl (Nat.le_of_ble_eq_true rfl) (Nat.le_of_ble_eq_true rfl) rfl rfl (Nat.le_of_ble_eq_true rfl) (Nat.le_of_ble_eq_true rfl) (S1 := [(.int (1 : Int32))]) rfl ?_
      refine g_ifN (xi := 1) (pc2 := 482) C at_479 rfl rfl (by decide) ?_
      refine g_iconst (pc' := 483) (z := (1 : Int32)) C at_482 rfl rfl ?_
      refine g_goto C at_483 (by decide) (pc' := 487) rfl ?_
      refine g_istore (pc' := 489) (L' := #[.val (.int p0), .val (.int p1), .val (.int p2), .val (.int (3 : Int32)), .val (.int (2 : Int32)), .val (.int z3), .val (.ref r0), .val (.ref a4), .val (.ref a7), .val (.ref a23), .val (.int (3 : Int32)), .val (.int (1 : Int32)), .val (.int (1 : Int32)), .val (.int (0 : Int32)), .val (.int (1 : Int32))]) C at_487 rfl rfl ?_
      refine g_iload (pc' := 491) C at_489 rfl rfl ?_
      refine g_retN C (by simp) at_491 (by decide) (by decide) ?_
      subst hQ
      rfl
    ·
      refine g_aload (pc' := 120) C at_118 rfl rfl rfl ?_
      refine g_iload (pc' := 122) C at_120 rfl rfl ?_
      refine g_aaload (pc' := 123) (i := 3) C at_122 rfl Aa4 rfl rfl ?_
      refine g_astore (pc' := 125) (L' := #[.val (.int p0), .val (.int p1), .val (.int p2), .val (.int (3 : Int32)), .val (.int (3 : Int32)), .val (.int z3), .val (.ref r0), .val (.ref a4), .val (.ref a8), .unset, .unset, .unset, .unset, .unset, .unset]) C at_123 rfl rfl rfl ?_
      refine g_aload (pc' := 127) C at_125 rfl rfl rfl ?_
      refine g_virtual (y := (⟨"com/example/slot512/slot512/Link", "unlink", "()V"⟩ : MethodName)) (a := a8) (pc' := 130) (k' := 6) (n' := 14) (S := []) (as := []) C at_127 rfl (hw _ (List.mem_of_getElem? (i := 20) rfl)) (hw _ (List.mem_of_getElem? (i := 22) rfl)) (hw _ (List.mem_of_getElem? (i := 2) rfl)) (hw _ (List.mem_of_getElem? (i := 24) rfl)) (hw _ (List.mem_of_getElem? (i := 21) rfl)) (hw _ (List.mem_of_getElem? (i := 23) rfl)) (by decide) Oa8.1 (lenOf pd_0 rfl) (con_un0 W.l Z a0 hw a8 .null h77 Oa8) rfl rfl (Nat.le_of_ble_eq_true rfl) (Nat.le_of_ble_eq_true rfl) rfl rfl (Nat.le_of_ble_eq_true rfl) (Nat.le_of_ble_eq_true rfl) all0 fun vh96 h96 qh96 Kh96 => ?_
      obtain ⟨rfl, eh⟩ := qh96
      subst eh
      show Go W Q h77 6 14 130 #[.val (.int p0), .val (.int p1), .val (.int p2), .val (.int (3 : Int32)), .val (.int (3 : Int32)), .val (.int z3), .val (.ref r0), .val (.ref a4), .val (.ref a8), .unset, .unset, .unset, .unset, .unset, .unset] []
      refine g_iload (pc' := 132) C at_130 rfl rfl ?_
      suffices K_132 : Go W Q h77 6 14 140 #[.val (.int p0), .val (.int p1), .val (.int p2), .val (.int (3 : Int32)), .val (.int (3 : Int32)), .val (.int z3), .val (.ref r0), .val (.ref a4), .val (.ref a8), .unset, .unset, .unset, .unset, .unset, .unset] [] by
        refine g_ifeqb (pc1 := 140) (pc2 := 135) C at_132 (by decide) rfl rfl e_z3 (fun (c132 : ¬ (¬ ((p2 &&& (1 : Int32)).toInt = 0))) => ?_) (fun (c132 : ¬ ((p2 &&& (1 : Int32)).toInt = 0)) => ?_)
        ·
          replace c132 : (p2 &&& (1 : Int32)).toInt = 0 := Decidable.not_not.mp c132
          exact K_132
        ·
          refine g_aload (pc' := 137) C at_135 rfl rfl rfl ?_
          refine g_virtual (y := (⟨"com/example/slot512/slot512/Link", "unlink", "()V"⟩ : MethodName)) (a := a8) (pc' := 140) (k' := 6) (n' := 14) (S := []) (as := []) C at_137 rfl (hw _ (List.mem_of_getElem? (i := 20) rfl)) (hw _ (List.mem_of_getElem? (i := 22) rfl)) (hw _ (List.mem_of_getElem? (i := 2) rfl)) (hw _ (List.mem_of_getElem? (i := 24) rfl)) (hw _ (List.mem_of_getElem? (i := 21) rfl)) (hw _ (List.mem_of_getElem? (i := 23) rfl)) (by decide) Oa8.1 (lenOf pd_0 rfl) (con_un0 W.l Z a0 hw a8 .null h77 Oa8) rfl rfl (Nat.le_of_ble_eq_true rfl) (Nat.le_of_ble_eq_true rfl) rfl rfl (Nat.le_of_ble_eq_true rfl) (Nat.le_of_ble_eq_true rfl) all0 fun vh97 h97 qh97 Kh97 => ?_
          obtain ⟨rfl, eh⟩ := qh97
          subst eh
          show Go W Q h77 6 14 140 #[.val (.int p0), .val (.int p1), .val (.int p2), .val (.int (3 : Int32)), .val (.int (3 : Int32)), .val (.int z3), .val (.ref r0), .val (.ref a4), .val (.ref a8), .unset, .unset, .unset, .unset, .unset, .unset] []
          exact K_132
      refine g_iconst (pc' := 141) (z := (4 : Int32)) C at_140 rfl rfl ?_
      refine g_anewarray (pc' := 144) (len := 4) (cap := 4) (k' := 7) (n' := 18) C at_141 rfl (hw _ (List.mem_of_getElem? (i := 16) rfl)) (hw _ (List.mem_of_getElem? (i := 17) rfl)) rfl (by decide) (by decide) rfl rfl (by decide) (by decide) fun h98 a24 e_a24 Eh98 Aa24 w_a24 => ?_
      have n_r0_a24 : r0 ≠ a24 := by rw [e_a24]; exact Nat.ne_of_lt Or0.lt
      have n_a5_a24 : a5 ≠ a24 := by rw [e_a24]; exact Nat.ne_of_lt Oa5.lt
      have n_a6_a24 : a6 ≠ a24 := by rw [e_a24]; exact Nat.ne_of_lt Oa6.lt
      have n_a7_a24 : a7 ≠ a24 := by rw [e_a24]; exact Nat.ne_of_lt Oa7.lt
      have n_a8_a24 : a8 ≠ a24 := by rw [e_a24]; exact Nat.ne_of_lt Oa8.lt
      have n_a4_a24 : a4 ≠ a24 := by rw [e_a24]; exact Nat.ne_of_lt Aa4.lt
      replace Or0 := Or0.ext Eh98
      replace Oa5 := Oa5.ext Eh98
      replace Oa6 := Oa6.ext Eh98
      replace Oa7 := Oa7.ext Eh98
      replace Oa8 := Oa8.ext Eh98
      replace Aa4 := Aa4.ext Eh98
      replace Aa24 : ArR Z h98 a24 "com/example/slot512/slot512/Link" [.null, .null, .null, .null] := Aa24
      refine g_astore (pc' := 146) (L' := #[.val (.int p0), .val (.int p1), .val (.int p2), .val (.int (3 : Int32)), .val (.int (3 : Int32)), .val (.int z3), .val (.ref r0), .val (.ref a4), .val (.ref a8), .val (.ref a24), .unset, .unset, .unset, .unset, .unset]) C at_144 rfl rfl rfl ?_
      refine g_aload (pc' := 148) C at_146 rfl rfl rfl ?_
      refine g_iconst (pc' := 149) (z := (0 : Int32)) C at_148 rfl rfl ?_
      refine g_aload (pc' := 151) C at_149 rfl rfl rfl ?_
      refine g_aastore (pc' := 152) (i := 0) (vs' := [(.ref r0), .null, .null, .null]) C at_151 rfl Aa24 rfl (Nat.le_of_ble_eq_true rfl) rfl (Or.inr ⟨_, rfl, Or0.1⟩) w_a24 fun h99 Aa24 Kh99 => ?_
      replace Or0 := Or0.keep Kh99 (ninS n_r0_a24 nin0)
      replace Oa5 := Oa5.keep Kh99 (ninS n_a5_a24 nin0)
      replace Oa6 := Oa6.keep Kh99 (ninS n_a6_a24 nin0)
      replace Oa7 := Oa7.keep Kh99 (ninS n_a7_a24 nin0)
      replace Oa8 := Oa8.keep Kh99 (ninS n_a8_a24 nin0)
      replace Aa4 := Aa4.keep Kh99 (ninS n_a4_a24 nin0)
      refine g_iconst (pc' := 153) (z := (1 : Int32)) C at_152 rfl rfl ?_
      refine g_istore (pc' := 155) (L' := #[.val (.int p0), .val (.int p1), .val (.int p2), .val (.int (3 : Int32)), .val (.int (3 : Int32)), .val (.int z3), .val (.ref r0), .val (.ref a4), .val (.ref a8), .val (.ref a24), .val (.int (1 : Int32)), .unset, .unset, .unset, .unset]) C at_153 rfl rfl ?_
      refine g_iconst (pc' := 156) (z := (0 : Int32)) C at_155 rfl rfl ?_
      refine g_iloadN (pc' := 157) C at_156 rfl rfl ?_
      refine g_icmpN (xi := 0) (yi := 3) (pc2 := 160) C at_157 rfl rfl rfl (by decide) ?_
      refine g_iload (pc' := 162) C at_160 rfl rfl ?_
      refine g_ifN (xi := 3) (pc2 := 165) C at_162 rfl rfl (by decide) ?_
      refine g_iconst (pc' := 166) (z := (1 : Int32)) C at_165 rfl rfl ?_
      refine g_goto C at_166 (by decide) (pc' := 170) rfl ?_
      refine g_istore (pc' := 172) (L' := #[.val (.int p0), .val (.int p1), .val (.int p2), .val (.int (3 : Int32)), .val (.int (3 : Int32)), .val (.int z3), .val (.ref r0), .val (.ref a4), .val (.ref a8), .val (.ref a24), .val (.int (1 : Int32)), .val (.int (1 : Int32)), .unset, .unset, .unset]) C at_170 rfl rfl ?_
      refine g_iconst (pc' := 173) (z := (1 : Int32)) C at_172 rfl rfl ?_
      refine g_iloadN (pc' := 174) C at_173 rfl rfl ?_
      refine g_icmpN (xi := 1) (yi := 3) (pc2 := 177) C at_174 rfl rfl rfl (by decide) ?_
      refine g_iload (pc' := 179) C at_177 rfl rfl ?_
      refine g_iconst (pc' := 180) (z := (1 : Int32)) C at_179 rfl rfl ?_
      refine g_icmpN (xi := 3) (yi := 1) (pc2 := 183) C at_180 rfl rfl rfl (by decide) ?_
      refine g_iconst (pc' := 184) (z := (1 : Int32)) C at_183 rfl rfl ?_
      refine g_goto C at_184 (by decide) (pc' := 188) rfl ?_
      refine g_istore (pc' := 190) (L' := #[.val (.int p0), .val (.int p1), .val (.int p2), .val (.int (3 : Int32)), .val (.int (3 : Int32)), .val (.int z3), .val (.ref r0), .val (.ref a4), .val (.ref a8), .val (.ref a24), .val (.int (1 : Int32)), .val (.int (1 : Int32)), .val (.int (1 : Int32)), .unset, .unset]) C at_188 rfl rfl ?_
      refine g_iconst (pc' := 191) (z := (2 : Int32)) C at_190 rfl rfl ?_
      refine g_iloadN (pc' := 192) C at_191 rfl rfl ?_
      refine g_icmpN (xi := 2) (yi := 3) (pc2 := 195) C at_192 rfl rfl rfl (by decide) ?_
      refine g_iload (pc' := 197) C at_195 rfl rfl ?_
      refine g_iconst (pc' := 198) (z := (2 : Int32)) C at_197 rfl rfl ?_
      refine g_icmpN (xi := 3) (yi := 2) (pc2 := 201) C at_198 rfl rfl rfl (by decide) ?_
      refine g_iconst (pc' := 202) (z := (1 : Int32)) C at_201 rfl rfl ?_
      refine g_goto C at_202 (by decide) (pc' := 206) rfl ?_
      refine g_istore (pc' := 208) (L' := #[.val (.int p0), .val (.int p1), .val (.int p2), .val (.int (3 : Int32)), .val (.int (3 : Int32)), .val (.int z3), .val (.ref r0), .val (.ref a4), .val (.ref a8), .val (.ref a24), .val (.int (1 : Int32)), .val (.int (1 : Int32)), .val (.int (1 : Int32)), .val (.int (1 : Int32)), .unset]) C at_206 rfl rfl ?_
      refine g_iload (pc' := 210) C at_208 rfl rfl ?_
      refine g_ifN (xi := 1) (pc2 := 213) C at_210 rfl rfl (by decide) ?_
      refine g_aload (pc' := 215) C at_213 rfl rfl rfl ?_
      refine g_iload (pc' := 217) C at_215 rfl rfl ?_
      refine g_aload (pc' := 219) C at_217 rfl rfl rfl ?_
      refine g_iconst (pc' := 220) (z := (0 : Int32)) C at_219 rfl rfl ?_
      refine g_aaload (pc' := 221) (i := 0) C at_220 rfl Aa4 rfl rfl ?_
      refine g_aastore (pc' := 222) (i := 1) (vs' := [(.ref r0), (.ref a5), .null, .null]) C at_221 rfl Aa24 rfl (Nat.le_of_ble_eq_true rfl) rfl (Or.inr ⟨_, rfl, Oa5.1⟩) w_a24 fun h100 Aa24 Kh100 => ?_
      replace Or0 := Or0.keep Kh100 (ninS n_r0_a24 nin0)
      replace Oa5 := Oa5.keep Kh100 (ninS n_a5_a24 nin0)
      replace Oa6 := Oa6.keep Kh100 (ninS n_a6_a24 nin0)
      replace Oa7 := Oa7.keep Kh100 (ninS n_a7_a24 nin0)
      replace Oa8 := Oa8.keep Kh100 (ninS n_a8_a24 nin0)
      replace Aa4 := Aa4.keep Kh100 (ninS n_a4_a24 nin0)
      refine g_iload (pc' := 224) C at_222 rfl rfl ?_
      refine g_iconst (pc' := 225) (z := (1 : Int32)) C at_224 rfl rfl ?_
      refine g_iadd (pc' := 226) C at_225 rfl ?_
      show Go W Q h100 7 18 226 #[.val (.int p0), .val (.int p1), .val (.int p2), .val (.int (3 : Int32)), .val (.int (3 : Int32)), .val (.int z3), .val (.ref r0), .val (.ref a4), .val (.ref a8), .val (.ref a24), .val (.int (1 : Int32)), .val (.int (1 : Int32)), .val (.int (1 : Int32)), .val (.int (1 : Int32)), .unset] [(.int (2 : Int32))]
      refine g_istore (pc' := 228) (L' := #[.val (.int p0), .val (.int p1), .val (.int p2), .val (.int (3 : Int32)), .val (.int (3 : Int32)), .val (.int z3), .val (.ref r0), .val (.ref a4), .val (.ref a8), .val (.ref a24), .val (.int (2 : Int32)), .val (.int (1 : Int32)), .val (.int (1 : Int32)), .val (.int (1 : Int32)), .unset]) C at_226 rfl rfl ?_
      refine g_iload (pc' := 230) C at_228 rfl rfl ?_
      refine g_ifN (xi := 1) (pc2 := 233) C at_230 rfl rfl (by decide) ?_
      refine g_aload (pc' := 235) C at_233 rfl rfl rfl ?_
      refine g_iload (pc' := 237) C at_235 rfl rfl ?_
      refine g_aload (pc' := 239) C at_237 rfl rfl rfl ?_
      refine g_iconst (pc' := 240) (z := (1 : Int32)) C at_239 rfl rfl ?_
      refine g_aaload (pc' := 241) (i := 1) C at_240 rfl Aa4 rfl rfl ?_
      refine g_aastore (pc' := 242) (i := 2) (vs' := [(.ref r0), (.ref a5), (.ref a6), .null]) C at_241 rfl Aa24 rfl (Nat.le_of_ble_eq_true rfl) rfl (Or.inr ⟨_, rfl, Oa6.1⟩) w_a24 fun h101 Aa24 Kh101 => ?_
      replace Or0 := Or0.keep Kh101 (ninS n_r0_a24 nin0)
      replace Oa5 := Oa5.keep Kh101 (ninS n_a5_a24 nin0)
      replace Oa6 := Oa6.keep Kh101 (ninS n_a6_a24 nin0)
      replace Oa7 := Oa7.keep Kh101 (ninS n_a7_a24 nin0)
      replace Oa8 := Oa8.keep Kh101 (ninS n_a8_a24 nin0)
      replace Aa4 := Aa4.keep Kh101 (ninS n_a4_a24 nin0)
      refine g_iload (pc' := 244) C at_242 rfl rfl ?_
      refine g_iconst (pc' := 245) (z := (1 : Int32)) C at_244 rfl rfl ?_
      refine g_iadd (pc' := 246) C at_245 rfl ?_
      show Go W Q h101 7 18 246 #[.val (.int p0), .val (.int p1), .val (.int p2), .val (.int (3 : Int32)), .val (.int (3 : Int32)), .val (.int z3), .val (.ref r0), .val (.ref a4), .val (.ref a8), .val (.ref a24), .val (.int (2 : Int32)), .val (.int (1 : Int32)), .val (.int (1 : Int32)), .val (.int (1 : Int32)), .unset] [(.int (3 : Int32))]
      refine g_istore (pc' := 248) (L' := #[.val (.int p0), .val (.int p1), .val (.int p2), .val (.int (3 : Int32)), .val (.int (3 : Int32)), .val (.int z3), .val (.ref r0), .val (.ref a4), .val (.ref a8), .val (.ref a24), .val (.int (3 : Int32)), .val (.int (1 : Int32)), .val (.int (1 : Int32)), .val (.int (1 : Int32)), .unset]) C at_246 rfl rfl ?_
      refine g_iload (pc' := 250) C at_248 rfl rfl ?_
      refine g_ifN (xi := 1) (pc2 := 253) C at_250 rfl rfl (by decide) ?_
      refine g_aload (pc' := 255) C at_253 rfl rfl rfl ?_
      refine g_iload (pc' := 257) C at_255 rfl rfl ?_
      refine g_aload (pc' := 259) C at_257 rfl rfl rfl ?_
      refine g_iconst (pc' := 260) (z := (2 : Int32)) C at_259 rfl rfl ?_
      refine g_aaload (pc' := 261) (i := 2) C at_260 rfl Aa4 rfl rfl ?_
      refine g_aastore (pc' := 262) (i := 3) (vs' := [(.ref r0), (.ref a5), (.ref a6), (.ref a7)]) C at_261 rfl Aa24 rfl (Nat.le_of_ble_eq_true rfl) rfl (Or.inr ⟨_, rfl, Oa7.1⟩) w_a24 fun h102 Aa24 Kh102 => ?_
      replace Or0 := Or0.keep Kh102 (ninS n_r0_a24 nin0)
      replace Oa5 := Oa5.keep Kh102 (ninS n_a5_a24 nin0)
      replace Oa6 := Oa6.keep Kh102 (ninS n_a6_a24 nin0)
      replace Oa7 := Oa7.keep Kh102 (ninS n_a7_a24 nin0)
      replace Oa8 := Oa8.keep Kh102 (ninS n_a8_a24 nin0)
      replace Aa4 := Aa4.keep Kh102 (ninS n_a4_a24 nin0)
      refine g_iload (pc' := 264) C at_262 rfl rfl ?_
      refine g_iconst (pc' := 265) (z := (1 : Int32)) C at_264 rfl rfl ?_
      refine g_iadd (pc' := 266) C at_265 rfl ?_
      show Go W Q h102 7 18 266 #[.val (.int p0), .val (.int p1), .val (.int p2), .val (.int (3 : Int32)), .val (.int (3 : Int32)), .val (.int z3), .val (.ref r0), .val (.ref a4), .val (.ref a8), .val (.ref a24), .val (.int (3 : Int32)), .val (.int (1 : Int32)), .val (.int (1 : Int32)), .val (.int (1 : Int32)), .unset] [(.int (4 : Int32))]
      refine g_istore (pc' := 268) (L' := #[.val (.int p0), .val (.int p1), .val (.int p2), .val (.int (3 : Int32)), .val (.int (3 : Int32)), .val (.int z3), .val (.ref r0), .val (.ref a4), .val (.ref a8), .val (.ref a24), .val (.int (4 : Int32)), .val (.int (1 : Int32)), .val (.int (1 : Int32)), .val (.int (1 : Int32)), .unset]) C at_266 rfl rfl ?_
      refine g_aload (pc' := 270) C at_268 rfl rfl rfl ?_
      refine g_iconst (pc' := 271) (z := (0 : Int32)) C at_270 rfl rfl ?_
      refine g_aaload (pc' := 272) (i := 0) C at_271 rfl Aa24 rfl rfl ?_
      refine g_aload (pc' := 274) C at_272 rfl rfl rfl ?_
      refine g_iconst (pc' := 275) (z := (1 : Int32)) C at_274 rfl rfl ?_
      refine g_iload (pc' := 277) C at_275 rfl rfl ?_
      refine g_irem (pc' := 278) C at_277 rfl (by decide) ?_
      show Go W Q h102 7 18 278 #[.val (.int p0), .val (.int p1), .val (.int p2), .val (.int (3 : Int32)), .val (.int (3 : Int32)), .val (.int z3), .val (.ref r0), .val (.ref a4), .val (.ref a8), .val (.ref a24), .val (.int (4 : Int32)), .val (.int (1 : Int32)), .val (.int (1 : Int32)), .val (.int (1 : Int32)), .unset] [(.int (1 : Int32)), (.ref a24), (.ref r0)]
      refine g_aaload (pc' := 279) (i := 1) C at_278 rfl Aa24 rfl rfl ?_
      refine g_staticP (y := (⟨"com/example/slot512/slot512/LinkUnlinkPinLaw", "joined", "(Lcom/example/slot512/slot512/Link;Lcom/example/slot512/slot512/Link;)Z"⟩ : MethodName)) (pc' := 282) (k' := 7) (n' := 18) (S := []) (as := [(.ref r0), (.ref a5)]) C at_279 rfl (hw _ (List.mem_of_getElem? (i := 25) rfl)) (hw _ (List.mem_of_getElem? (i := 26) rfl)) (hw _ (List.mem_of_getElem? (i := 27) rfl)) (hw _ (List.mem_of_getElem? (i := 28) rfl)) (by decide) (lenOf pd_2 rfl) (con_joined W.l Z a0 hw r0 a5 (.ref a7) (.ref a6) h102 Or0 Oa5) rfl rfl (Nat.le_of_ble_eq_true rfl) (Nat.le_of_ble_eq_true rfl) rfl rfl (Nat.le_of_ble_eq_true rfl) (Nat.le_of_ble_eq_true rfl) (S1 := [(.int (1 : Int32))]) rfl ?_
      refine g_istore (pc' := 284) (L' := #[.val (.int p0), .val (.int p1), .val (.int p2), .val (.int (3 : Int32)), .val (.int (3 : Int32)), .val (.int z3), .val (.ref r0), .val (.ref a4), .val (.ref a8), .val (.ref a24), .val (.int (4 : Int32)), .val (.int (1 : Int32)), .val (.int (1 : Int32)), .val (.int (1 : Int32)), .val (.int (1 : Int32))]) C at_282 rfl rfl ?_
      refine g_iload (pc' := 286) C at_284 rfl rfl ?_
      refine g_iconst (pc' := 287) (z := (1 : Int32)) C at_286 rfl rfl ?_
      refine g_icmpN (xi := 4) (yi := 1) (pc2 := 290) C at_287 rfl rfl rfl (by decide) ?_
      refine g_iload (pc' := 292) C at_290 rfl rfl ?_
      refine g_ifN (xi := 1) (pc2 := 295) C at_292 rfl rfl (by decide) ?_
      refine g_aload (pc' := 297) C at_295 rfl rfl rfl ?_
      refine g_iconst (pc' := 298) (z := (1 : Int32)) C at_297 rfl rfl ?_
      refine g_aaload (pc' := 299) (i := 1) C at_298 rfl Aa24 rfl rfl ?_
      refine g_aload (pc' := 301) C at_299 rfl rfl rfl ?_
      refine g_iconst (pc' := 302) (z := (2 : Int32)) C at_301 rfl rfl ?_
      refine g_iload (pc' := 304) C at_302 rfl rfl ?_
      refine g_irem (pc' := 305) C at_304 rfl (by decide) ?_
      show Go W Q h102 7 18 305 #[.val (.int p0), .val (.int p1), .val (.int p2), .val (.int (3 : Int32)), .val (.int (3 : Int32)), .val (.int z3), .val (.ref r0), .val (.ref a4), .val (.ref a8), .val (.ref a24), .val (.int (4 : Int32)), .val (.int (1 : Int32)), .val (.int (1 : Int32)), .val (.int (1 : Int32)), .val (.int (1 : Int32))] [(.int (2 : Int32)), (.ref a24), (.ref a5)]
      refine g_aaload (pc' := 306) (i := 2) C at_305 rfl Aa24 rfl rfl ?_
      refine g_staticP (y := (⟨"com/example/slot512/slot512/LinkUnlinkPinLaw", "joined", "(Lcom/example/slot512/slot512/Link;Lcom/example/slot512/slot512/Link;)Z"⟩ : MethodName)) (pc' := 309) (k' := 7) (n' := 18) (S := []) (as := [(.ref a5), (.ref a6)]) C at_306 rfl (hw _ (List.mem_of_getElem? (i := 25) rfl)) (hw _ (List.mem_of_getElem? (i := 26) rfl)) (hw _ (List.mem_of_getElem? (i := 27) rfl)) (hw _ (List.mem_of_getElem? (i := 28) rfl)) (by decide) (lenOf pd_2 rfl) (con_joined W.l Z a0 hw a5 a6 (.ref r0) (.ref a7) h102 Oa5 Oa6) rfl rfl (Nat.le_of_ble_eq_true rfl) (Nat.le_of_ble_eq_true rfl) rfl rfl (Nat.le_of_ble_eq_true rfl) (Nat.le_of_ble_eq_true rfl) (S1 := [(.int (1 : Int32))]) rfl ?_
      refine g_ifN (xi := 1) (pc2 := 312) C at_309 rfl rfl (by decide) ?_
      refine g_iconst (pc' := 313) (z := (1 : Int32)) C at_312 rfl rfl ?_
      refine g_goto C at_313 (by decide) (pc' := 317) rfl ?_
      refine g_istore (pc' := 319) (L' := #[.val (.int p0), .val (.int p1), .val (.int p2), .val (.int (3 : Int32)), .val (.int (3 : Int32)), .val (.int z3), .val (.ref r0), .val (.ref a4), .val (.ref a8), .val (.ref a24), .val (.int (4 : Int32)), .val (.int (1 : Int32)), .val (.int (1 : Int32)), .val (.int (1 : Int32)), .val (.int (1 : Int32))]) C at_317 rfl rfl ?_
      refine g_iload (pc' := 321) C at_319 rfl rfl ?_
      refine g_iconst (pc' := 322) (z := (2 : Int32)) C at_321 rfl rfl ?_
      refine g_icmpN (xi := 4) (yi := 2) (pc2 := 325) C at_322 rfl rfl rfl (by decide) ?_
      refine g_iload (pc' := 327) C at_325 rfl rfl ?_
      refine g_ifN (xi := 1) (pc2 := 330) C at_327 rfl rfl (by decide) ?_
      refine g_aload (pc' := 332) C at_330 rfl rfl rfl ?_
      refine g_iconst (pc' := 333) (z := (2 : Int32)) C at_332 rfl rfl ?_
      refine g_aaload (pc' := 334) (i := 2) C at_333 rfl Aa24 rfl rfl ?_
      refine g_aload (pc' := 336) C at_334 rfl rfl rfl ?_
      refine g_iconst (pc' := 337) (z := (3 : Int32)) C at_336 rfl rfl ?_
      refine g_iload (pc' := 339) C at_337 rfl rfl ?_
      refine g_irem (pc' := 340) C at_339 rfl (by decide) ?_
      show Go W Q h102 7 18 340 #[.val (.int p0), .val (.int p1), .val (.int p2), .val (.int (3 : Int32)), .val (.int (3 : Int32)), .val (.int z3), .val (.ref r0), .val (.ref a4), .val (.ref a8), .val (.ref a24), .val (.int (4 : Int32)), .val (.int (1 : Int32)), .val (.int (1 : Int32)), .val (.int (1 : Int32)), .val (.int (1 : Int32))] [(.int (3 : Int32)), (.ref a24), (.ref a6)]
      refine g_aaload (pc' := 341) (i := 3) C at_340 rfl Aa24 rfl rfl ?_
      refine g_staticP (y := (⟨"com/example/slot512/slot512/LinkUnlinkPinLaw", "joined", "(Lcom/example/slot512/slot512/Link;Lcom/example/slot512/slot512/Link;)Z"⟩ : MethodName)) (pc' := 344) (k' := 7) (n' := 18) (S := []) (as := [(.ref a6), (.ref a7)]) C at_341 rfl (hw _ (List.mem_of_getElem? (i := 25) rfl)) (hw _ (List.mem_of_getElem? (i := 26) rfl)) (hw _ (List.mem_of_getElem? (i := 27) rfl)) (hw _ (List.mem_of_getElem? (i := 28) rfl)) (by decide) (lenOf pd_2 rfl) (con_joined W.l Z a0 hw a6 a7 (.ref a5) (.ref r0) h102 Oa6 Oa7) rfl rfl (Nat.le_of_ble_eq_true rfl) (Nat.le_of_ble_eq_true rfl) rfl rfl (Nat.le_of_ble_eq_true rfl) (Nat.le_of_ble_eq_true rfl) (S1 := [(.int (1 : Int32))]) rfl ?_
      refine g_ifN (xi := 1) (pc2 := 347) C at_344 rfl rfl (by decide) ?_
      refine g_iconst (pc' := 348) (z := (1 : Int32)) C at_347 rfl rfl ?_
      refine g_goto C at_348 (by decide) (pc' := 352) rfl ?_
      refine g_istore (pc' := 354) (L' := #[.val (.int p0), .val (.int p1), .val (.int p2), .val (.int (3 : Int32)), .val (.int (3 : Int32)), .val (.int z3), .val (.ref r0), .val (.ref a4), .val (.ref a8), .val (.ref a24), .val (.int (4 : Int32)), .val (.int (1 : Int32)), .val (.int (1 : Int32)), .val (.int (1 : Int32)), .val (.int (1 : Int32))]) C at_352 rfl rfl ?_
      refine g_iload (pc' := 356) C at_354 rfl rfl ?_
      refine g_iconst (pc' := 357) (z := (3 : Int32)) C at_356 rfl rfl ?_
      refine g_icmpN (xi := 4) (yi := 3) (pc2 := 360) C at_357 rfl rfl rfl (by decide) ?_
      refine g_iload (pc' := 362) C at_360 rfl rfl ?_
      refine g_ifN (xi := 1) (pc2 := 365) C at_362 rfl rfl (by decide) ?_
      refine g_aload (pc' := 367) C at_365 rfl rfl rfl ?_
      refine g_iconst (pc' := 368) (z := (3 : Int32)) C at_367 rfl rfl ?_
      refine g_aaload (pc' := 369) (i := 3) C at_368 rfl Aa24 rfl rfl ?_
      refine g_aload (pc' := 371) C at_369 rfl rfl rfl ?_
      refine g_iconst (pc' := 372) (z := (0 : Int32)) C at_371 rfl rfl ?_
      refine g_aaload (pc' := 373) (i := 0) C at_372 rfl Aa24 rfl rfl ?_
      refine g_staticP (y := (⟨"com/example/slot512/slot512/LinkUnlinkPinLaw", "joined", "(Lcom/example/slot512/slot512/Link;Lcom/example/slot512/slot512/Link;)Z"⟩ : MethodName)) (pc' := 376) (k' := 7) (n' := 18) (S := []) (as := [(.ref a7), (.ref r0)]) C at_373 rfl (hw _ (List.mem_of_getElem? (i := 25) rfl)) (hw _ (List.mem_of_getElem? (i := 26) rfl)) (hw _ (List.mem_of_getElem? (i := 27) rfl)) (hw _ (List.mem_of_getElem? (i := 28) rfl)) (by decide) (lenOf pd_2 rfl) (con_joined W.l Z a0 hw a7 r0 (.ref a6) (.ref a5) h102 Oa7 Or0) rfl rfl (Nat.le_of_ble_eq_true rfl) (Nat.le_of_ble_eq_true rfl) rfl rfl (Nat.le_of_ble_eq_true rfl) (Nat.le_of_ble_eq_true rfl) (S1 := [(.int (1 : Int32))]) rfl ?_
      refine g_ifN (xi := 1) (pc2 := 379) C at_376 rfl rfl (by decide) ?_
      refine g_iconst (pc' := 380) (z := (1 : Int32)) C at_379 rfl rfl ?_
      refine g_goto C at_380 (by decide) (pc' := 384) rfl ?_
      refine g_istore (pc' := 386) (L' := #[.val (.int p0), .val (.int p1), .val (.int p2), .val (.int (3 : Int32)), .val (.int (3 : Int32)), .val (.int z3), .val (.ref r0), .val (.ref a4), .val (.ref a8), .val (.ref a24), .val (.int (4 : Int32)), .val (.int (1 : Int32)), .val (.int (1 : Int32)), .val (.int (1 : Int32)), .val (.int (1 : Int32))]) C at_384 rfl rfl ?_
      refine g_iload (pc' := 388) C at_386 rfl rfl ?_
      refine g_ifY (xi := 1) (pc1 := 413) C at_388 (by decide) rfl rfl (by decide) ?_
      refine g_iload (pc' := 415) C at_413 rfl rfl ?_
      refine g_ifY (xi := 1) (pc1 := 440) C at_415 (by decide) rfl rfl (by decide) ?_
      refine g_iload (pc' := 442) C at_440 rfl rfl ?_
      refine g_ifY (xi := 1) (pc1 := 467) C at_442 (by decide) rfl rfl (by decide) ?_
      refine g_iload (pc' := 469) C at_467 rfl rfl ?_
      refine g_ifN (xi := 1) (pc2 := 472) C at_469 rfl rfl (by decide) ?_
      refine g_aload (pc' := 474) C at_472 rfl rfl rfl ?_
      refine g_iconst (pc' := 475) (z := (3 : Int32)) C at_474 rfl rfl ?_
      refine g_aaload (pc' := 476) (i := 3) C at_475 rfl Aa4 rfl rfl ?_
      refine g_staticP (y := (⟨"com/example/slot512/slot512/LinkUnlinkPinLaw", "detached", "(Lcom/example/slot512/slot512/Link;)Z"⟩ : MethodName)) (pc' := 479) (k' := 7) (n' := 18) (S := []) (as := [(.ref a8)]) C at_476 rfl (hw _ (List.mem_of_getElem? (i := 31) rfl)) (hw _ (List.mem_of_getElem? (i := 32) rfl)) (hw _ (List.mem_of_getElem? (i := 27) rfl)) (hw _ (List.mem_of_getElem? (i := 33) rfl)) (by decide) (lenOf pd_3 rfl) (con_det W.l Z a0 hw a8 h102 Oa8) rfl rfl (Nat.le_of_ble_eq_true rfl) (Nat.le_of_ble_eq_true rfl) rfl rfl (Nat.le_of_ble_eq_true rfl) (Nat.le_of_ble_eq_true rfl) (S1 := [(.int (1 : Int32))]) rfl ?_
      refine g_ifN (xi := 1) (pc2 := 482) C at_479 rfl rfl (by decide) ?_
      refine g_iconst (pc' := 483) (z := (1 : Int32)) C at_482 rfl rfl ?_
      refine g_goto C at_483 (by decide) (pc' := 487) rfl ?_
      refine g_istore (pc' := 489) (L' := #[.val (.int p0), .val (.int p1), .val (.int p2), .val (.int (3 : Int32)), .val (.int (3 : Int32)), .val (.int z3), .val (.ref r0), .val (.ref a4), .val (.ref a8), .val (.ref a24), .val (.int (4 : Int32)), .val (.int (1 : Int32)), .val (.int (1 : Int32)), .val (.int (1 : Int32)), .val (.int (1 : Int32))]) C at_487 rfl rfl ?_
      refine g_iload (pc' := 491) C at_489 rfl rfl ?_
      refine g_retN C (by simp) at_491 (by decide) (by decide) ?_
      subst hQ
      rfl
set_option maxRecDepth 65536 in
set_option maxHeartbeats 2000000 in
theorem comes_1 {Post : Tables → Env → Array Value → State → Outcome → State → Prop} (hpost : ∀ tb e args s v u, (limb_1_1.after args s (.returned v) u = true ∧ limb_1_2.after args s (.returned v) u = true ∧ True) → FrameEnd s (.returned v) u (Jvm.fieldLocs frame_1_writes args s ++ Jvm.arrayLocs frame_1_arrays args s ++ Jvm.staticLocs frame_1_statics s) 24 128 → Post tb e args s (.returned v) u) :
    ArmFor flags0 classFile x code maxLocals ret World_1 tables_1 room_1 Calls_1 rest_1 Pre_1 Post := by
  intro l hfl _ _ p e ha hc hk s m args below hf hA hF happ hP
  obtain ⟨hcalls, hrest, hpre⟩ := hP
  obtain ⟨-, -, -, hnamed, -, -, -, hat⟩ := (Spec.applies_iff hf).mp happ
  obtain ⟨hg, hn⟩ := and_e (Cond.before_iff.mp (show (Jvm.Cond.and given_1 narrow_1).before args s = true from hpre))
  obtain ⟨g1, g2⟩ := and_e hg
  obtain ⟨g3, g4⟩ := and_e g2
  obtain ⟨g5, g6⟩ := and_e g4
  obtain ⟨w0, w1, w2, rfl⟩ : ∃ w0 w1 w2 : Value, args = #[w0, w1, w2] := by
    have hs : args.size = 3 := by simpa [Cond.value, given_1] using g1
    obtain ⟨L⟩ := args
    match L, hs with
    | [w0, w1, w2], _ => exact ⟨w0, w1, w2, rfl⟩
  have hw := fun d (hd : d ∈ tables_1) => atoms_spec (ws := Jvm.Cond.code x code maxLocals ret :: tables_1) hat d (List.mem_cons_of_mem _ hd)
  obtain ⟨i0, ei0⟩ := is_v g3
  obtain rfl : w0 = (.int i0) := Option.some.inj ei0
  obtain ⟨i1, ei1⟩ := is_v g5
  obtain rfl : w1 = (.int i1) := Option.some.inj ei1
  obtain ⟨i2, ei2⟩ := is_v g6
  obtain rfl : w2 = (.int i2) := Option.some.inj ei2
  obtain ⟨n, o, h1, h2, h3, _, L, rfl, ⟨rfl, N⟩, hq⟩ := con_0 l s _ hw i0 i1 i2 s.heap p e ha hc hk s m _ below hf ((Spec.applies_iff_loose hf).mp happ).1 ⟨rfl, State.Warmed39.refl s, rfl⟩ trivial
  refine ⟨n, _, h1, h2, h3, hpost _ _ _ _ _ _ ⟨Cond.after_iff.mpr rfl, Cond.after_iff.mpr (eq_i res_at (Term.int_eval (1)) rfl), trivial⟩ ⟨hq.1, hq.2.1, (hq.2.2.sift fun y hy => Or.inr ((N y hy).resolve_left (fun q => nomatch q))).mono (by decide) (by decide)⟩⟩
theorem main_1_1 : Claimed_1_1 := comes_1 fun _ _ _ _ _ _ h hF => ⟨h.1, hF⟩
theorem main_1_2 : Claimed_1_2 := comes_1 fun _ _ _ _ _ _ h hF => ⟨h.2.1, hF⟩
end Jvm.Pilot.@@N@@
namespace Jvm.Pilot.@@N@@
open Jvm Jvm.ClassFile Sem Op Lib Jvm.Free Jvm.Stand Jvm.Pilot.@@N@@.Jvm.D
/-! MADE BY PROGRAM (witnessworld.py) out of the Statement's table words and the real class files: 10 classes; the members and pool entries that the words name. The judged class is class 1, her method 3. -/
namespace start1
open Jvm.ClassFile
def u (s : String) : CpInfo := .utf8 (stringToUtf16 s)
/-- a pool by its gaps: so many unusable entries, then the entry; so many at the end -/
def gap : Nat → List CpInfo → List CpInfo
  | 0, r => r
  | n + 1, r => .unusable :: gap n r
def poolList (es : List (Nat × CpInfo)) (last : Nat) : List CpInfo := es.foldr (fun e r => gap e.1 (e.2 :: r)) (gap last [])
def pool (es : List (Nat × CpInfo)) (last : Nat) : Array CpInfo := ⟨poolList es last⟩
def fileOf (pool : Array CpInfo) (this : Nat) (attrs : Array Attribute := #[]) (ms : Array MethodInfo := #[]) (fl : Nat := 33) (sup : Nat := 0) (ifs : Array Nat := #[]) (fds : Array FieldInfo := #[]) : ClassFile where
  minorVersion := 0
  majorVersion := 65
  constantPool := pool
  accessFlags := fl
  thisClass := this
  superClass := sup
  interfaces := ifs
  fields := fds
  methods := ms
  attributes := attrs
def plain (name : String) (sup : Option ClassId) : Class where
  name := name
  kind := .ordinary
  loader := none
  accessFlags := 33
  super := sup
  interfaces := #[]
  cf := none
  fields := #[]
  methods := #[]
  instanceTypes := #[]
  staticTypes := #[]
  resolved := #[]
  callSites := []
  init := .initialized
  statics := none
  mirror := none

def pool0 : Array CpInfo := pool [(5, u "<init>"), (0, u "()V"), (1, .class_ 10), (1, u "java/lang/Object")] 113

def k0c0 : Code := { maxStack := 0, maxLocals := 1, code := object_method_1_code, exceptionTable := #[], attributes := #[] }
def k0m0 : Method := { name := "<init>", desc := "()V", sig := { parameters := [], returnType := none }, accessFlags := 1, code := some k0c0 }
/-- java/lang/Object -/
def k0 : Class := { plain "java/lang/Object" none with
  accessFlags := 33
  interfaces := #[]
  cf := some (fileOf pool0 8 #[] #[{ accessFlags := 1, nameIndex := 5, descriptorIndex := 6, attributes := #[] }] 33 0 #[] #[])
  fields := #[]
  methods := #[k0m0]
  instanceTypes := #[]
  staticTypes := #[]
  resolved := Array.replicate 124 none
  statics := none }

def pool1 : Array CpInfo := pool [(2, .class_ 4), (0, .nameAndType 5 6), (0, u "java/lang/Object"), (0, u "<init>"), (0, u "()V"), (0, .fieldref 8 9), (0, .class_ 10), (0, .nameAndType 11 12), (0, u "com/example/slot512/slot512/Link"), (0, u "next"), (0, u "Lcom/example/slot512/slot512/Link;"), (0, .fieldref 8 14), (0, .nameAndType 15 12), (0, u "prev"), (0, .methodref 8 17), (0, .nameAndType 18 19), (0, u "emptyList"), (0, u "()Lcom/example/slot512/slot512/Link;"), (0, .methodref 8 3), (0, .methodref 8 22), (0, .nameAndType 23 24), (0, u "linkAtEndOf"), (0, u "(Lcom/example/slot512/slot512/Link;)V"), (0, .methodref 8 26), (0, .nameAndType 27 6), (0, u "unlink"), (0, .methodref 29 30), (0, .class_ 31), (0, .nameAndType 32 33), (0, u "com/example/slot512/slot512/LinkUnlinkPinLaw"), (0, u "joined"), (0, u "(Lcom/example/slot512/slot512/Link;Lcom/example/slot512/slot512/Link;)Z"), (0, .methodref 29 35), (0, .nameAndType 36 37), (0, u "detached"), (0, u "(Lcom/example/slot512/slot512/Link;)Z"), (3, u "law"), (0, u "(III)Z")] 4

def k1m0 : Method := { name := "<init>", desc := "()V", sig := { parameters := [], returnType := none }, accessFlags := 1, code := none }
def k1c1 : Code := { maxStack := 2, maxLocals := 2, code := method_2_code, exceptionTable := #[], attributes := #[] }
def k1m1 : Method := { name := "joined", desc := "(Lcom/example/slot512/slot512/Link;Lcom/example/slot512/slot512/Link;)Z", sig := { parameters := [(.object "com/example/slot512/slot512/Link"), (.object "com/example/slot512/slot512/Link")], returnType := some .boolean }, accessFlags := 10, code := some k1c1 }
def k1c2 : Code := { maxStack := 1, maxLocals := 1, code := method_3_code, exceptionTable := #[], attributes := #[] }
def k1m2 : Method := { name := "detached", desc := "(Lcom/example/slot512/slot512/Link;)Z", sig := { parameters := [(.object "com/example/slot512/slot512/Link")], returnType := some .boolean }, accessFlags := 10, code := some k1c2 }
def k1c3 : Code := { maxStack := 4, maxLocals := 15, code := code, exceptionTable := #[], attributes := #[] }
def k1m3 : Method := { name := "law", desc := "(III)Z", sig := { parameters := [.int, .int, .int], returnType := some .boolean }, accessFlags := 9, code := some k1c3 }
/-- com/example/slot512/slot512/LinkUnlinkPinLaw -/
def k1 : Class := { plain "com/example/slot512/slot512/LinkUnlinkPinLaw" (some 0) with
  accessFlags := 49
  interfaces := #[]
  cf := some (fileOf pool1 29 #[] #[{ accessFlags := 1, nameIndex := 5, descriptorIndex := 6, attributes := #[] }, { accessFlags := 10, nameIndex := 32, descriptorIndex := 33, attributes := #[] }, { accessFlags := 10, nameIndex := 36, descriptorIndex := 37, attributes := #[] }, { accessFlags := 9, nameIndex := 41, descriptorIndex := 42, attributes := #[] }] 49 2 #[] #[])
  fields := #[]
  methods := #[k1m0, k1m1, k1m2, k1m3]
  instanceTypes := #[]
  staticTypes := #[]
  resolved := Array.replicate 47 none
  statics := none }

def pool2 : Array CpInfo := pool [(1, .methodref 2 3), (0, .class_ 4), (0, .nameAndType 5 6), (0, u "java/lang/Object"), (0, u "<init>"), (0, u "()V"), (0, .class_ 8), (0, u "com/example/slot512/slot512/Link"), (0, .methodref 7 3), (0, .fieldref 7 11), (0, .nameAndType 12 13), (0, u "prev"), (0, u "Lcom/example/slot512/slot512/Link;"), (0, .fieldref 7 15), (0, .nameAndType 16 13), (0, u "next"), (2, u "emptyList"), (0, u "()Lcom/example/slot512/slot512/Link;"), (3, u "linkAtEndOf"), (0, u "(Lcom/example/slot512/slot512/Link;)V"), (0, u "unlink")] 2

def k2c0 : Code := { maxStack := 1, maxLocals := 1, code := prog_3_method_1_code, exceptionTable := #[], attributes := #[] }
def k2m0 : Method := { name := "<init>", desc := "()V", sig := { parameters := [], returnType := none }, accessFlags := 0, code := some k2c0 }
def k2c1 : Code := { maxStack := 2, maxLocals := 1, code := prog_3_method_2_code, exceptionTable := #[], attributes := #[] }
def k2m1 : Method := { name := "emptyList", desc := "()Lcom/example/slot512/slot512/Link;", sig := { parameters := [], returnType := some (.object "com/example/slot512/slot512/Link") }, accessFlags := 8, code := some k2c1 }
def k2c2 : Code := { maxStack := 2, maxLocals := 3, code := prog_3_method_4_code, exceptionTable := #[], attributes := #[] }
def k2m2 : Method := { name := "linkAtEndOf", desc := "(Lcom/example/slot512/slot512/Link;)V", sig := { parameters := [(.object "com/example/slot512/slot512/Link")], returnType := none }, accessFlags := 0, code := some k2c2 }
def k2c3 : Code := { maxStack := 2, maxLocals := 1, code := prog_3_method_5_code, exceptionTable := #[], attributes := #[] }
def k2m3 : Method := { name := "unlink", desc := "()V", sig := { parameters := [], returnType := none }, accessFlags := 0, code := some k2c3 }
/-- com/example/slot512/slot512/Link -/
def k2 : Class := { plain "com/example/slot512/slot512/Link" (some 0) with
  accessFlags := 32
  interfaces := #[]
  cf := some (fileOf pool2 7 #[] #[{ accessFlags := 0, nameIndex := 5, descriptorIndex := 6, attributes := #[] }, { accessFlags := 8, nameIndex := 19, descriptorIndex := 20, attributes := #[] }, { accessFlags := 0, nameIndex := 24, descriptorIndex := 25, attributes := #[] }, { accessFlags := 0, nameIndex := 26, descriptorIndex := 6, attributes := #[] }] 32 2 #[] #[{ accessFlags := 0, nameIndex := 12, descriptorIndex := 13, attributes := #[] }, { accessFlags := 0, nameIndex := 16, descriptorIndex := 13, attributes := #[] }])
  fields := #[{ name := "prev", type := (.object "com/example/slot512/slot512/Link"), accessFlags := 0, slot := 0, constantValue := 0 }, { name := "next", type := (.object "com/example/slot512/slot512/Link"), accessFlags := 0, slot := 1, constantValue := 0 }]
  methods := #[k2m0, k2m1, k2m2, k2m3]
  instanceTypes := #[(.object "com/example/slot512/slot512/Link"), (.object "com/example/slot512/slot512/Link")]
  staticTypes := #[]
  resolved := Array.replicate 29 none
  statics := none }

def pool3 : Array CpInfo := pool [(1, u "java/lang/Cloneable"), (0, .class_ 1), (0, u "java/lang/Object"), (0, .class_ 3)] 3

/-- java/lang/Cloneable -/
def k3 : Class := { plain "java/lang/Cloneable" (some 0) with
  accessFlags := 1537
  interfaces := #[]
  cf := some (fileOf pool3 2 #[] #[] 1537 4 #[] #[])
  fields := #[]
  methods := #[]
  instanceTypes := #[]
  staticTypes := #[]
  resolved := Array.replicate 8 none
  statics := none }

def pool4 : Array CpInfo := pool [(1, u "java/io/Serializable"), (0, .class_ 1), (0, u "java/lang/Object"), (0, .class_ 3)] 3

/-- java/io/Serializable -/
def k4 : Class := { plain "java/io/Serializable" (some 0) with
  accessFlags := 1537
  interfaces := #[]
  cf := some (fileOf pool4 2 #[] #[] 1537 4 #[] #[])
  fields := #[]
  methods := #[]
  instanceTypes := #[]
  staticTypes := #[]
  resolved := Array.replicate 8 none
  statics := none }

/-- the primitive byte -/
def k5 : Class := { plain "byte" none with kind := .primitive 'B', accessFlags := 0x411 }
/-- [B -/
def k6 : Class := { plain "[B" (some 0) with kind := .array 5 .byte, interfaces := #[3, 4], accessFlags := 1041 }

/-- the primitive int -/
def k7 : Class := { plain "int" none with kind := .primitive 'I', accessFlags := 0x411 }
/-- [I -/
def k8 : Class := { plain "[I" (some 0) with kind := .array 7 .int, interfaces := #[3, 4], accessFlags := 1041 }

/-- [Lcom/example/slot512/slot512/Link; -/
def k9 : Class := { plain "[Lcom/example/slot512/slot512/Link;" (some 0) with kind := .array 2 (.object "com/example/slot512/slot512/Link"), interfaces := #[3, 4], accessFlags := 1041 }

def heap : Heap := #[]
def classes : Array Class := #[k0, k1, k2, k3, k4, k5, k6, k7, k8, k9]
def interned : List (Array UInt16 × Addr) := []
def slotsUsed : Nat := 0
def theMethod : MethodId := ⟨1, 3⟩
def args0 : Array Value := #[.int 2, .int 1, .int 1]
def aboutOver (below : List Frame) : State where
  vm := { classes := classes, interned := interned.toArray }
  heap := heap
  slotsUsed := slotsUsed
  threads := #[{ frames := .invoking theMethod args0 :: below }]
def below0 : List Frame := [.native { method := ⟨0, 0⟩, args := #[] }]
def about1 : State := aboutOver below0
def p0 : Program := .bare "" "" ""
def e0 : Env := launch0.env 0 0 0
theorem w_frames : about1.frames = Frame.invoking theMethod args0 :: below0 := rfl
set_option maxRecDepth 65536 in
theorem w_args : argsFit about1.vm theMethod args0 = true := by decide +kernel
set_option maxRecDepth 65536 in
theorem w_heap : heapFits about1 = true := by decide +kernel
set_option maxRecDepth 65536 in
theorem w_runnable : about1.curStatus? = some .runnable := by decide +kernel
set_option maxRecDepth 65536 in
theorem w_alone : about1.alone = true := by decide +kernel
set_option maxRecDepth 65536 in
theorem w_named : about1.methodNamed? x = some theMethod := by decide +kernel
set_option maxRecDepth 65536 in
theorem w_hears : about1.hears theMethod below0 = true := by decide +kernel
set_option maxRecDepth 65536 in
theorem w_ripe : about1.ripe theMethod args0 below0 = true := by decide +kernel
theorem w_running : about1.status = .running := rfl
set_option maxRecDepth 65536 in
theorem w_room : about1.hasRoom e0.platform room_1 = true :=
  launch0.hasRoom_least _ room_1 (by decide +kernel) (by decide +kernel) (by decide +kernel) (by decide +kernel) (by decide +kernel) (by decide +kernel)
theorem allAtoms_all (ts : List Jvm.Cond) (a : Array Jvm.Value) (st : Jvm.State) : (allAtoms ts).before a st = ts.all (fun c => c.before a st) := by
  induction ts with
  | nil => rfl
  | cons c t ih =>
    show (Jvm.Cond.and c (allAtoms t)).before a st = _
    rw [Jvm.Cond.before_and, ih, List.all_cons]
def words1 : List Jvm.Cond := Jvm.Cond.code x code maxLocals ret :: tables_1
/-- a 'code' word, met by the world's own term for the bytes: nothing is compared byte by byte -/
theorem code_word {y : MethodName} {bytes : ByteArray} {mx : Nat} {rt : Option FieldType} {a : Array Value} {s : State} {m : MethodId} {meth : Method} {c : Code} (h1 : s.methodNamed? y = some m) (h2 : s.vm.method? m = some meth) (h3 : meth.code = some c) (h4 : c.code = bytes)
    (h5 : (c.maxLocals == mx && c.exceptionTable.isEmpty && decide (c.maxStack ≤ mostOperands) && decide (meth.sig.returnType = rt) && !meth.locks && decide (parseMethodDescriptor y.desc = some meth.sig)) = true) : (Jvm.Cond.code y bytes mx rt).before a s = true := by
  simp only [Bool.and_eq_true, beq_iff_eq, Bool.not_eq_true', decide_eq_true_eq] at h5
  obtain ⟨⟨⟨⟨⟨g1, g2⟩, g3⟩, g4⟩, g5⟩, g6⟩ := h5
  simp [Cond.before, Cond.holds, Cond.value, h1, h2, h3, h4, g1, g2, g3, g4, g5, g6]
def isCode : Jvm.Cond → Bool
  | .code _ _ _ _ => true
  | _ => false
theorem all_split {L : List Jvm.Cond} {P : Jvm.Cond → Bool} (h1 : L.all (fun c => isCode c || P c) = true) (h2 : ∀ c ∈ L.filter isCode, P c = true) : L.all P = true := by
  refine List.all_eq_true.mpr fun c hc => ?_
  have h := List.all_eq_true.mp h1 c hc
  rcases Bool.eq_false_or_eq_true (isCode c) with hi | hi
  · exact h2 c (List.mem_filter.mpr ⟨hc, hi⟩)
  · simpa [hi] using h
set_option maxRecDepth 65536 in
theorem w_c0 : (Jvm.Cond.code x code maxLocals ret).before args0 about1 = true := code_word (m := ⟨1, 3⟩) (meth := k1m3) (c := k1c3) (by decide +kernel) rfl rfl rfl (by decide +kernel)
set_option maxRecDepth 65536 in
theorem w_c1 : (Jvm.Cond.code ({ cls := "com/example/slot512/slot512/Link", name := "emptyList", desc := "()Lcom/example/slot512/slot512/Link;" } : Jvm.MethodName) prog_3_method_2_code (1 : Nat) (Option.some (Jvm.ClassFile.FieldType.object "com/example/slot512/slot512/Link"))).before args0 about1 = true := code_word (m := ⟨2, 1⟩) (meth := k2m1) (c := k2c1) (by decide +kernel) rfl rfl rfl (by decide +kernel)
set_option maxRecDepth 65536 in
theorem w_c2 : (Jvm.Cond.code ({ cls := "com/example/slot512/slot512/Link", name := "<init>", desc := "()V" } : Jvm.MethodName) prog_3_method_1_code (1 : Nat) (Option.none : Option Jvm.ClassFile.FieldType)).before args0 about1 = true := code_word (m := ⟨2, 0⟩) (meth := k2m0) (c := k2c0) (by decide +kernel) rfl rfl rfl (by decide +kernel)
set_option maxRecDepth 65536 in
theorem w_c3 : (Jvm.Cond.code ({ cls := "java/lang/Object", name := "<init>", desc := "()V" } : Jvm.MethodName) object_method_1_code (1 : Nat) (Option.none : Option Jvm.ClassFile.FieldType)).before args0 about1 = true := code_word (m := ⟨0, 0⟩) (meth := k0m0) (c := k0c0) (by decide +kernel) rfl rfl rfl (by decide +kernel)
set_option maxRecDepth 65536 in
theorem w_c4 : (Jvm.Cond.code ({ cls := "com/example/slot512/slot512/Link", name := "unlink", desc := "()V" } : Jvm.MethodName) prog_3_method_5_code (1 : Nat) (Option.none : Option Jvm.ClassFile.FieldType)).before args0 about1 = true := code_word (m := ⟨2, 3⟩) (meth := k2m3) (c := k2c3) (by decide +kernel) rfl rfl rfl (by decide +kernel)
set_option maxRecDepth 65536 in
theorem w_c5 : (Jvm.Cond.code ({ cls := "com/example/slot512/slot512/LinkUnlinkPinLaw", name := "joined", desc := "(Lcom/example/slot512/slot512/Link;Lcom/example/slot512/slot512/Link;)Z" } : Jvm.MethodName) method_2_code (2 : Nat) (Option.some Jvm.ClassFile.FieldType.boolean)).before args0 about1 = true := code_word (m := ⟨1, 1⟩) (meth := k1m1) (c := k1c1) (by decide +kernel) rfl rfl rfl (by decide +kernel)
set_option maxRecDepth 65536 in
theorem w_c6 : (Jvm.Cond.code ({ cls := "com/example/slot512/slot512/LinkUnlinkPinLaw", name := "detached", desc := "(Lcom/example/slot512/slot512/Link;)Z" } : Jvm.MethodName) method_3_code (1 : Nat) (Option.some Jvm.ClassFile.FieldType.boolean)).before args0 about1 = true := code_word (m := ⟨1, 2⟩) (meth := k1m2) (c := k1c2) (by decide +kernel) rfl rfl rfl (by decide +kernel)
set_option maxRecDepth 65536 in
theorem w_c7 : (Jvm.Cond.code ({ cls := "com/example/slot512/slot512/Link", name := "linkAtEndOf", desc := "(Lcom/example/slot512/slot512/Link;)V" } : Jvm.MethodName) prog_3_method_4_code (3 : Nat) (Option.none : Option Jvm.ClassFile.FieldType)).before args0 about1 = true := code_word (m := ⟨2, 2⟩) (meth := k2m2) (c := k2c2) (by decide +kernel) rfl rfl rfl (by decide +kernel)
def codes1 : List Jvm.Cond := [Jvm.Cond.code x code maxLocals ret, Jvm.Cond.code ({ cls := "com/example/slot512/slot512/Link", name := "emptyList", desc := "()Lcom/example/slot512/slot512/Link;" } : Jvm.MethodName) prog_3_method_2_code (1 : Nat) (Option.some (Jvm.ClassFile.FieldType.object "com/example/slot512/slot512/Link")), Jvm.Cond.code ({ cls := "com/example/slot512/slot512/Link", name := "<init>", desc := "()V" } : Jvm.MethodName) prog_3_method_1_code (1 : Nat) (Option.none : Option Jvm.ClassFile.FieldType), Jvm.Cond.code ({ cls := "java/lang/Object", name := "<init>", desc := "()V" } : Jvm.MethodName) object_method_1_code (1 : Nat) (Option.none : Option Jvm.ClassFile.FieldType), Jvm.Cond.code ({ cls := "com/example/slot512/slot512/Link", name := "unlink", desc := "()V" } : Jvm.MethodName) prog_3_method_5_code (1 : Nat) (Option.none : Option Jvm.ClassFile.FieldType), Jvm.Cond.code ({ cls := "com/example/slot512/slot512/LinkUnlinkPinLaw", name := "joined", desc := "(Lcom/example/slot512/slot512/Link;Lcom/example/slot512/slot512/Link;)Z" } : Jvm.MethodName) method_2_code (2 : Nat) (Option.some Jvm.ClassFile.FieldType.boolean), Jvm.Cond.code ({ cls := "com/example/slot512/slot512/LinkUnlinkPinLaw", name := "detached", desc := "(Lcom/example/slot512/slot512/Link;)Z" } : Jvm.MethodName) method_3_code (1 : Nat) (Option.some Jvm.ClassFile.FieldType.boolean), Jvm.Cond.code ({ cls := "com/example/slot512/slot512/Link", name := "linkAtEndOf", desc := "(Lcom/example/slot512/slot512/Link;)V" } : Jvm.MethodName) prog_3_method_4_code (3 : Nat) (Option.none : Option Jvm.ClassFile.FieldType)]
set_option maxRecDepth 65536 in
theorem codes_eq : words1.filter isCode = codes1 := rfl
theorem w_codes : ∀ c ∈ words1.filter isCode, c.before args0 about1 = true := by
  rw [codes_eq]
  intro c hc
  simp only [codes1, List.mem_cons, List.not_mem_nil, or_false] at hc
  rcases hc with rfl | rfl | rfl | rfl | rfl | rfl | rfl | rfl
  · exact w_c0
  · exact w_c1
  · exact w_c2
  · exact w_c3
  · exact w_c4
  · exact w_c5
  · exact w_c6
  · exact w_c7
set_option maxRecDepth 65536 in
theorem w_t1 : (words1.take 24).all (fun c => isCode c || c.before args0 about1) = true := by decide +kernel
set_option maxRecDepth 65536 in
theorem w_t2 : (words1.drop 24).all (fun c => isCode c || c.before args0 about1) = true := by decide +kernel
theorem w_tables : (allAtoms (Jvm.Cond.code x code maxLocals ret :: tables_1)).before args0 about1 = true := by
  rw [allAtoms_all]
  show words1.all (fun c => c.before args0 about1) = true
  refine all_split ?_ w_codes
  rw [← List.take_append_drop 24 words1, List.all_append, w_t1, w_t2]
  rfl
set_option maxRecDepth 65536 in
theorem w_case : (Jvm.Cond.and given_1 narrow_1).before args0 about1 = true := by decide +kernel
theorem w_applies : (headSpec (Jvm.Cond.code x code maxLocals ret :: tables_1) room_1).applies x e0.platform about1 = true :=
  (Spec.applies_iff w_frames).mpr ⟨w_running, w_runnable, w_alone, w_named, w_hears, w_ripe, w_room, w_tables⟩
theorem atStart : AtStart classFile x code maxLocals ret World_1 tables_1 room_1 Calls_1 rest_1 Pre_1 launch0 p0 e0 about1 theMethod args0 below0 :=
  ⟨lists_1, trivial, launch0.admits_env _ _ _, launch0.least_env, fairChoices_fair.cas, fairChoices_fair.clock, w_frames, w_args, w_heap, w_applies, trivial, trivial, w_case⟩
end start1
theorem witness_1 : WitnessClaimed_1 := ⟨start1.p0, start1.e0, start1.about1, start1.theMethod, start1.args0, start1.below0, start1.atStart⟩
end Jvm.Pilot.@@N@@
