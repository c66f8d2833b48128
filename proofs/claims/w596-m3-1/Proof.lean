import JvmDerived
import JvmDerived.Pilot.@@N@@Statement
import JvmDerived.Pilot.@@N@@Code
set_option linter.unusedVariables false
set_option linter.unusedSimpArgs false
namespace Jvm.OwnKit
open Jvm Jvm.ClassFile Sem Op Lib Jvm.Free Jvm.Stand Jvm.LawKit Jvm.RoadKit Bundle
/-- what is fixed in one body's walk: program, launch, environment, room, state at the call, method, arguments, frames below, its record, its code, the old addresses that it may write -/
abbrev Wk : Type := Program × Launch × Env × Room × State × MethodId × Array Value × List Frame × Method × Code × List Addr
abbrev Wk.p (W : Wk) : Program := W.1
abbrev Wk.l (W : Wk) : Launch := W.2.1
abbrev Wk.e (W : Wk) : Env := W.2.2.1
abbrev Wk.R (W : Wk) : Room := W.2.2.2.1
abbrev Wk.s (W : Wk) : State := W.2.2.2.2.1
abbrev Wk.m (W : Wk) : MethodId := W.2.2.2.2.2.1
abbrev Wk.args (W : Wk) : Array Value := W.2.2.2.2.2.2.1
abbrev Wk.below (W : Wk) : List Frame := W.2.2.2.2.2.2.2.1
abbrev Wk.meth (W : Wk) : Method := W.2.2.2.2.2.2.2.2.1
abbrev Wk.c (W : Wk) : Code := W.2.2.2.2.2.2.2.2.2.1
abbrev Wk.ws (W : Wk) : List Addr := W.2.2.2.2.2.2.2.2.2.2
/-- an address that may be written: a named old one, or a new one -/
def Pw (W : Wk) (a : Addr) : Prop := a ∈ W.ws ∨ W.s.heap.size ≤ a
abbrev Sta0 (W : Wk) (T : State) (locs : List Loc) (k n : Nat) : Prop := Stand W.p W.l W.e W.R W.s W.m W.args W.below W.meth W.c T locs k n
abbrev Stp (W : Wk) (S t : State) : Prop := Steps W.p.tables W.e W.below S t
def Sd (W : Wk) (T : State) (h : Heap) (k n : Nat) : Prop := ∃ locs, Sta0 W T locs k n ∧ T.heap = h ∧ ∀ y ∈ locs, Pw W y.base
/-- from S the body comes to its end, returning what Q says -/
def Out (W : Wk) (Q : Option Value → Heap → Prop) (S : State) : Prop := ∃ s₂ o, Stp W S s₂ ∧ s₂.status = .running ∧ Ended s₂ W.below o ∧ ∃ v L, o = .returned v ∧ (Q v s₂.heap ∧ ∀ y ∈ L, Pw W y.base) ∧ FrameEnd W.s o s₂ L W.R.cells W.R.slots
/-- from every state that stands here over the heap h, the body comes to its end as Q says -/
def Go (W : Wk) (Q : Option Value → Heap → Prop) (h : Heap) (k n pc : Nat) (L : Array Slot) (S : List Value) : Prop := ∀ T, Sd W T h k n → Out W Q (T.setTop (mkF W.m pc L S))
def Cx (W : Wk) (Z : State) (R : Room) (own : String) (code : ByteArray) (mx : Nat) (ret : Option FieldType) (nm : String) (ws : List Addr) (h0 : Heap) : Prop :=
  W.p.tables.exec = Jvm.exec ∧ Z.Warmed39 W.s.vm ∧ W.s.vm.findClass own = some W.m.cls ∧ W.c.code = code ∧ W.c.maxLocals = mx ∧ W.meth.sig.returnType = ret ∧ W.meth.locks = false ∧ W.meth.name = nm ∧ W.R = R ∧ W.ws = ws ∧ W.s.heap = h0
/-- a body's contract at the heap h: ws: the old addresses that it may write -/
def Con (l : Launch) (Z : State) (w0 : List Jvm.Cond) (y : MethodName) (bytes : ByteArray) (mx : Nat) (ret : Option FieldType) (rm : Room) (as : Array Value) (h : Heap) (ws : List Addr) (Q : Option Value → Heap → Prop) : Prop :=
  MetFree l y (head1 (Jvm.Cond.code y bytes mx ret :: w0) rm) (fun a U => a = as ∧ Z.Warmed39 U.vm ∧ U.heap = h) (fun _ _ _ _ _ => True)
    (fun _ U o U' => ∃ v L, o = .returned v ∧ (Q v U'.heap ∧ ∀ y ∈ L, y.base ∈ ws ∨ h.size ≤ y.base) ∧ FrameEnd U o U' L rm.cells rm.slots)
/-- a truth value as an int -/
def b2i (P : Prop) [Decidable P] : Int32 := if P then 1 else 0
theorem b2i_pos {P : Prop} [Decidable P] (h : P) : b2i P = 1 := if_pos h
theorem b2i_neg {P : Prop} [Decidable P] (h : ¬ P) : b2i P = 0 := if_neg h
theorem b2i_iff {P Q : Prop} [Decidable P] [Decidable Q] (h : P ↔ Q) : b2i P = b2i Q := by by_cases q : Q <;> simp [b2i, h, q]
theorem b2i_toInt (P : Prop) [Decidable P] : (b2i P).toInt = if P then 1 else 0 := by unfold b2i; split <;> rfl
theorem b2i_one {P : Prop} [Decidable P] : b2i P = 1 ↔ P := by unfold b2i; split <;> simp [*]
theorem b2i_zero {P : Prop} [Decidable P] : b2i P = 0 ↔ ¬ P := by unfold b2i; split <;> simp [*]
theorem nar_b2i (P : Prop) [Decidable P] : nar .boolean (b2i P) = b2i P := by unfold b2i; split <;> rfl
theorem b2i_inj {P Q : Prop} [Decidable P] [Decidable Q] : b2i P = b2i Q ↔ (P ↔ Q) := by unfold b2i; split <;> split <;> simp [*]
theorem ref_cat {v : Value} (h : v.isRef = true) : v.category = 1 := by cases v <;> simp [Value.isRef] at h ⊢ <;> rfl
theorem narrow_ref {t : FieldType} {v : Value} (h : v.isRef = true) : narrow t v = v := by cases v <;> simp [Value.isRef] at h <;> cases t <;> rfl
theorem fits_b2i (P : Prop) [Decidable P] : fits .boolean (.int (b2i P)) = true := by unfold b2i; split <;> rfl
theorem fits_ref0 {t : FieldType} {v : Value} (h : v.isRef = true) (ht : refKind t = true := by rfl) : fits t v = true := by cases v <;> simp [Value.isRef] at h <;> cases t <;> simp_all [refKind, fits]
section Facts
variable {Z : State} {h h' : Heap} {a b : Addr} {C : String} {ws : List Addr}
/-- an object of the class C: its fields (declaring class, name, descriptor, value) -/
def Ob (Z : State) (h : Heap) (a : Addr) (C : String) (fs : List (String × String × String × Value)) : Prop :=
  Exa Z h a C ∧ (∀ f ∈ fs, Fld Z h a f.1 f.2.1 f.2.2.1 f.2.2.2) ∧ (fs.map fun f => RoadKit.slotOf Z f.1 f.2.1 f.2.2.1).Nodup
variable {fs fs' : List (String × String × String × Value)} {o n d : String} {v old : Value} {i : Nat}
theorem Ob.exa (O : Ob Z h a C fs) : Exa Z h a C := O.1
theorem Ob.lt (O : Ob Z h a C fs) : a < h.size := O.1.lt
theorem Ob.get (O : Ob Z h a C fs) (hi : fs[i]? = some (o, n, d, v)) : Fld Z h a o n d v := O.2.1 _ (List.mem_of_getElem? hi)
theorem Ob.keep (O : Ob Z h a C fs) (K : Keep h h' ws) (q : a ∉ ws) : Ob Z h' a C fs := ⟨O.1.keep K, fun f hf => (O.2.1 f hf).keep K q, O.2.2⟩
theorem Ob.ext (O : Ob Z h a C fs) (E : Ext h h') : Ob Z h' a C fs := ⟨O.1.ext E, fun f hf => (O.2.1 f hf).ext E, O.2.2⟩
theorem Ob.other (O : Ob Z h b C fs) {sl : Nat} (W : Wr h h' a sl v) (q : b ≠ a) : Ob Z h' b C fs := O.keep (Keep.of_wr W) (ninS q nin0)
theorem Ob.put (O : Ob Z h a C fs) (hi : fs[i]? = some (o, n, d, old)) (W : Wr h h' a (RoadKit.slotOf Z o n d) v) : Ob Z h' a C (fs.set i (o, n, d, v)) := by
  obtain ⟨E, F, N⟩ := O
  have hlt : i < fs.length := (List.getElem?_eq_some_iff.mp hi).1
  have hm : (fs.set i (o, n, d, v)).map (fun f => RoadKit.slotOf Z f.1 f.2.1 f.2.2.1) = fs.map (fun f => RoadKit.slotOf Z f.1 f.2.1 f.2.2.1) := by
    rw [List.map_set]
    have e : (fs.map fun f => RoadKit.slotOf Z f.1 f.2.1 f.2.2.1)[i]? = some (RoadKit.slotOf Z o n d) := by rw [List.getElem?_map, hi]; rfl
    obtain ⟨hl, he⟩ := List.getElem?_eq_some_iff.mp e
    have q := List.set_getElem_self hl
    rw [he] at q
    exact q
  refine ⟨E.wr W, fun f hf => ?_, by rw [hm]; exact N⟩
  obtain ⟨j, hj⟩ := List.mem_iff_getElem?.mp hf
  by_cases e : j = i
  · subst e
    rw [List.getElem?_set_self hlt] at hj
    cases hj
    exact (F _ (List.mem_of_getElem? hi)).same W
  · rw [List.getElem?_set_ne (Ne.symm e)] at hj
    refine (F f (List.mem_of_getElem? hj)).other W (Or.inr fun q => ?_)
    have e1 : (fs.map fun f => RoadKit.slotOf Z f.1 f.2.1 f.2.2.1)[j]? = some (RoadKit.slotOf Z f.1 f.2.1 f.2.2.1) := by rw [List.getElem?_map, hj]; rfl
    have e2 : (fs.map fun f => RoadKit.slotOf Z f.1 f.2.1 f.2.2.1)[i]? = some (RoadKit.slotOf Z o n d) := by rw [List.getElem?_map, hi]; rfl
    rw [q] at e1
    obtain ⟨l1, q1⟩ := List.getElem?_eq_some_iff.mp e1
    obtain ⟨l2, q2⟩ := List.getElem?_eq_some_iff.mp e2
    exact e ((List.getElem_inj N).mp (q1.trans q2.symm))
/-- an array: its components -/
def Ar (Z : State) (h : Heap) (a : Addr) (ty : FieldType) (vs : List Value) : Prop := ∃ c : Cell, Arr Z h a c ty ∧ c.slots.toList = vs
/-- ... of references to objects of the class C -/
def ArR (Z : State) (h : Heap) (a : Addr) (C : String) (vs : List Value) : Prop := ∃ c : Cell, Arr Z h a c (.object C) ∧ c.slots.toList = vs ∧ Ovr Z c.cls C
variable {ty : FieldType} {vs : List Value}
theorem Ar.lt (A : Ar Z h a ty vs) : a < h.size := A.elim fun _ q => q.1.lt
theorem Ar.keep (A : Ar Z h a ty vs) (K : Keep h h' ws) (q : a ∉ ws) : Ar Z h' a ty vs := by obtain ⟨c, A, e⟩ := A; exact ⟨c, ⟨K.2.1 a c A.1 q, A.2⟩, e⟩
theorem Ar.ext (A : Ar Z h a ty vs) (E : Ext h h') : Ar Z h' a ty vs := by obtain ⟨c, A, e⟩ := A; exact ⟨c, A.ext E, e⟩
theorem ArR.lt (A : ArR Z h a C vs) : a < h.size := A.elim fun _ q => q.1.lt
theorem ArR.keep (A : ArR Z h a C vs) (K : Keep h h' ws) (q : a ∉ ws) : ArR Z h' a C vs := by obtain ⟨c, A, e⟩ := A; exact ⟨c, ⟨K.2.1 a c A.1 q, A.2⟩, e⟩
theorem ArR.ext (A : ArR Z h a C vs) (E : Ext h h') : ArR Z h' a C vs := by obtain ⟨c, A, e⟩ := A; exact ⟨c, A.ext E, e⟩
theorem nin1 (q : b ≠ a) : b ∉ [a] := ninS q nin0
theorem clamp_of {j : Int32} {i : Nat} (hj : j.toInt = i) : j.toNatClampNeg = i := by
  show j.toInt.toNat = i
  omega
theorem nneg_of {j : Int32} {i : Nat} (hj : j.toInt = i) : ¬ j < 0 := by
  rw [Int32.lt_iff_toInt_lt, hj]
  show ¬ ((i : Int) < 0)
  omega
theorem in_of {j : Int32} {i : Nat} {c : Cell} (hj : j.toInt = i) (hi : i < c.slots.toList.length) : ¬ (j < 0 ∨ c.slots.size ≤ j.toNatClampNeg) := by
  rw [clamp_of hj]
  rintro (q | q)
  · exact nneg_of hj q
  · rw [Array.length_toList] at hi; omega
theorem set_toList (c : Cell) (i : Nat) (v : Value) : (c.setSlot i v).slots.toList = c.slots.toList.set i v := by
  show (c.slots.setIfInBounds i v).toList = _
  rw [Array.toList_setIfInBounds]
theorem Ar.put {c : Cell} (A : Arr Z h a c ty) (e : c.slots.toList = vs) {j : Int32} {i : Nat} (hj : j.toInt = i) (W : Wr h h' a j.toNatClampNeg v) : Ar Z h' a ty (vs.set i v) := by
  refine ⟨_, A.same W, ?_⟩
  rw [clamp_of hj, set_toList, e]
theorem map_getI {l : List Int32} {i : Nat} (hi : i < l.length) : (l.map Value.int)[i]? = some (.int (l.getD i 0)) := by
  rw [List.getElem?_map, List.getElem?_eq_getElem hi, List.getD_eq_getElem?_getD, List.getElem?_eq_getElem hi]; rfl
theorem map_getJ {l : List Int64} {i : Nat} (hi : i < l.length) : (l.map Value.long)[i]? = some (.long (l.getD i 0)) := by
  rw [List.getElem?_map, List.getElem?_eq_getElem hi, List.getD_eq_getElem?_getD, List.getElem?_eq_getElem hi]; rfl
theorem map_setI (l : List Int32) (i : Nat) (x : Int32) : (l.map Value.int).set i (.int x) = (l.set i x).map Value.int := by rw [List.map_set]
theorem map_setJ (l : List Int64) (i : Nat) (x : Int64) : (l.map Value.long).set i (.long x) = (l.set i x).map Value.long := by rw [List.map_set]
theorem nat32 {n : Nat} (h : n < 2147483648) : n.toInt32.toInt = n := by
  show (Int32.ofNat n).toInt = n
  rw [Int32.toInt_ofNat_of_lt (by omega)]
theorem keep_of_same {s t : State} {L : List Loc} {k n : Nat} {ws : List Addr} (H : s.sameButNew t L k n) (hL : ∀ y ∈ L, y.base ∈ ws ∨ s.heap.size ≤ y.base) : Keep s.heap t.heap ws := by
  obtain ⟨-, h1, -, -, -, h5⟩ := H
  have lt : ∀ (x : Addr) (c : Cell), s.heap[x]? = some c → x < s.heap.size := fun x c q => (Array.getElem?_eq_some_iff.mp q).1
  refine ⟨h1, fun x c q r => ?_, fun x c q => ?_⟩
  · obtain ⟨c', e1, e2, e3, e4⟩ := h5 x c q
    have hs : c'.slots = c.slots := by
      refine Array.ext_getElem? fun i => e4 i fun hm => ?_
      rcases hL _ hm with z | z
      · exact r z
      · exact absurd (lt x c q) (Nat.not_lt.mpr z)
    rw [e1, e2, hs]
  · obtain ⟨c', e1, e2, e3, -⟩ := h5 x c q
    exact ⟨c', e1, by rw [e2], by rw [e2], e3⟩
end Facts
section Steps0
variable {W : Wk} {Z : State} {R : Room} {own nm : String} {code : ByteArray} {mx : Nat} {ret : Option FieldType} {wsx : List Addr} {hx0 : Heap} {Q : Option Value → Heap → Prop} {h : Heap} {k n pc pc' pc1 pc2 : Nat} {L L' : Array Slot} {S S' : List Value} {a0 : Array Value}
theorem Cx.x (C : Cx W Z R own code mx ret nm wsx hx0) : W.p.tables.exec = Jvm.exec := C.1
theorem Cx.z (C : Cx W Z R own code mx ret nm wsx hx0) : Z.Warmed39 W.s.vm := C.2.1
theorem Cx.o (C : Cx W Z R own code mx ret nm wsx hx0) : W.s.vm.findClass own = some W.m.cls := C.2.2.1
theorem Cx.b (C : Cx W Z R own code mx ret nm wsx hx0) {r : Except ClassFile.DecodeError (ClassFile.Instr × Nat)} (hd : decode code pc = r) : decode W.c.code pc = r := hb C.2.2.2.1 hd
theorem Cx.ml (C : Cx W Z R own code mx ret nm wsx hx0) : W.c.maxLocals = mx := C.2.2.2.2.1
theorem Cx.rt (C : Cx W Z R own code mx ret nm wsx hx0) : W.meth.sig.returnType = ret := C.2.2.2.2.2.1
theorem Cx.lk (C : Cx W Z R own code mx ret nm wsx hx0) : W.meth.locks = false := C.2.2.2.2.2.2.1
theorem Cx.nme (C : Cx W Z R own code mx ret nm wsx hx0) : W.meth.name = nm := C.2.2.2.2.2.2.2.1
theorem Cx.r (C : Cx W Z R own code mx ret nm wsx hx0) : W.R = R := C.2.2.2.2.2.2.2.2.1
theorem Cx.ws (C : Cx W Z R own code mx ret nm wsx hx0) : W.ws = wsx := C.2.2.2.2.2.2.2.2.2.1
theorem Cx.h0 (C : Cx W Z R own code mx ret nm wsx hx0) : W.s.heap = hx0 := C.2.2.2.2.2.2.2.2.2.2
theorem Cx.old (C : Cx W Z R own code mx ret nm wsx hx0) {a : Addr} (q : a ∈ wsx) : Pw W a := Or.inl (C.ws ▸ q)
theorem Cx.new (C : Cx W Z R own code mx ret nm wsx hx0) {a : Addr} (q : hx0.size ≤ a) : Pw W a := Or.inr (C.h0 ▸ q)
theorem Out.st {S S' : State} (f : ∀ t, Stp W S' t → Stp W S t) (g : Out W Q S') : Out W Q S := by
  obtain ⟨s2, o, q, r⟩ := g
  exact ⟨s2, o, f _ q, r⟩
theorem Go.st (f : ∀ T locs, Sta0 W T locs k n → T.heap = h → ∀ t, Stp W (T.setTop (mkF W.m pc' L' S')) t → Stp W (T.setTop (mkF W.m pc L S)) t) (g : Go W Q h k n pc' L' S') : Go W Q h k n pc L S := fun T hT => by
  obtain ⟨locs, X, e, N⟩ := hT
  exact Out.st (f T locs X e) (g T ⟨locs, X, e, N⟩)
theorem Go.same {k' n' : Nat} (g : Go W Q h k n pc L S) (e1 : k' = k) (e2 : n' = n) : Go W Q h k' n' pc L S := by subst e1 e2; exact g
theorem Go.more {k' n' : Nat} (g : Go W Q h k' n' pc L S) (e1 : k ≤ k') (e2 : n ≤ n') : Go W Q h k n pc L S := fun T hT => by
  obtain ⟨locs, X, e, N⟩ := hT
  exact g T ⟨locs, ⟨X.admits, X.cas, X.clock, X.frames, X.room, X.hears, X.method, X.code, X.here, X.tail, X.warmed, X.limits, X.bytes, X.same.mono e1 e2⟩, e, N⟩
theorem Go.cell (g : hx0.size ≤ h.size → Go W Q h k n pc L S) (C : Cx W Z R own code mx ret nm wsx hx0) : Go W Q h k n pc L S := fun T hT => by
  obtain ⟨locs, X, e, N⟩ := hT
  have q : W.s.heap.size ≤ T.heap.size := X.same.2.1
  rw [C.h0, e] at q
  exact g q T ⟨locs, X, e, N⟩

theorem g_iadd (C : Cx W Z R own code mx ret nm wsx hx0) {x y : Int32} (hd : decode code pc = .ok (.iadd, 1)) (hp : pc + 1 = pc') (g : Go W Q h k n pc' L (.int (x + y) :: S)) : Go W Q h k n pc L (.int y :: .int x :: S) := by
  subst hp
  exact g.st fun T locs X e t kk => XS.iadd (g := mkF W.m pc L (.int y :: .int x :: S)) X.here C.x rfl (C.b hd) rfl kk
theorem g_isub (C : Cx W Z R own code mx ret nm wsx hx0) {x y : Int32} (hd : decode code pc = .ok (.isub, 1)) (hp : pc + 1 = pc') (g : Go W Q h k n pc' L (.int (x - y) :: S)) : Go W Q h k n pc L (.int y :: .int x :: S) := by
  subst hp
  exact g.st fun T locs X e t kk => XS.isub (g := mkF W.m pc L (.int y :: .int x :: S)) X.here C.x rfl (C.b hd) rfl kk
theorem g_imul (C : Cx W Z R own code mx ret nm wsx hx0) {x y : Int32} (hd : decode code pc = .ok (.imul, 1)) (hp : pc + 1 = pc') (g : Go W Q h k n pc' L (.int (x * y) :: S)) : Go W Q h k n pc L (.int y :: .int x :: S) := by
  subst hp
  exact g.st fun T locs X e t kk => XS.imul (g := mkF W.m pc L (.int y :: .int x :: S)) X.here C.x rfl (C.b hd) rfl kk
theorem g_iand (C : Cx W Z R own code mx ret nm wsx hx0) {x y : Int32} (hd : decode code pc = .ok (.iand, 1)) (hp : pc + 1 = pc') (g : Go W Q h k n pc' L (.int (x &&& y) :: S)) : Go W Q h k n pc L (.int y :: .int x :: S) := by
  subst hp
  exact g.st fun T locs X e t kk => XS.iand (g := mkF W.m pc L (.int y :: .int x :: S)) X.here C.x rfl (C.b hd) rfl kk
theorem g_ior (C : Cx W Z R own code mx ret nm wsx hx0) {x y : Int32} (hd : decode code pc = .ok (.ior, 1)) (hp : pc + 1 = pc') (g : Go W Q h k n pc' L (.int (x ||| y) :: S)) : Go W Q h k n pc L (.int y :: .int x :: S) := by
  subst hp
  exact g.st fun T locs X e t kk => XS.ior (g := mkF W.m pc L (.int y :: .int x :: S)) X.here C.x rfl (C.b hd) rfl kk
theorem g_ixor (C : Cx W Z R own code mx ret nm wsx hx0) {x y : Int32} (hd : decode code pc = .ok (.ixor, 1)) (hp : pc + 1 = pc') (g : Go W Q h k n pc' L (.int (x ^^^ y) :: S)) : Go W Q h k n pc L (.int y :: .int x :: S) := by
  subst hp
  exact g.st fun T locs X e t kk => XS.ixor (g := mkF W.m pc L (.int y :: .int x :: S)) X.here C.x rfl (C.b hd) rfl kk
theorem g_ishl (C : Cx W Z R own code mx ret nm wsx hx0) {x y : Int32} (hd : decode code pc = .ok (.ishl, 1)) (hp : pc + 1 = pc') (g : Go W Q h k n pc' L (.int (x <<< (y &&& 31)) :: S)) : Go W Q h k n pc L (.int y :: .int x :: S) := by
  subst hp
  exact g.st fun T locs X e t kk => XS.ishl (g := mkF W.m pc L (.int y :: .int x :: S)) X.here C.x rfl (C.b hd) rfl kk
theorem g_ishr (C : Cx W Z R own code mx ret nm wsx hx0) {x y : Int32} (hd : decode code pc = .ok (.ishr, 1)) (hp : pc + 1 = pc') (g : Go W Q h k n pc' L (.int (x >>> (y &&& 31)) :: S)) : Go W Q h k n pc L (.int y :: .int x :: S) := by
  subst hp
  exact g.st fun T locs X e t kk => XS.ishr (g := mkF W.m pc L (.int y :: .int x :: S)) X.here C.x rfl (C.b hd) rfl kk
theorem g_iushr (C : Cx W Z R own code mx ret nm wsx hx0) {x y : Int32} (hd : decode code pc = .ok (.iushr, 1)) (hp : pc + 1 = pc') (g : Go W Q h k n pc' L (.int ((x.toUInt32 >>> (y &&& 31).toUInt32).toInt32) :: S)) : Go W Q h k n pc L (.int y :: .int x :: S) := by
  subst hp
  exact g.st fun T locs X e t kk => XS.iushr (g := mkF W.m pc L (.int y :: .int x :: S)) X.here C.x rfl (C.b hd) rfl kk
theorem g_ladd (C : Cx W Z R own code mx ret nm wsx hx0) {x y : Int64} (hd : decode code pc = .ok (.ladd, 1)) (hp : pc + 1 = pc') (g : Go W Q h k n pc' L (.long (x + y) :: S)) : Go W Q h k n pc L (.long y :: .long x :: S) := by
  subst hp
  exact g.st fun T locs X e t kk => XS.ladd (g := mkF W.m pc L (.long y :: .long x :: S)) X.here C.x rfl (C.b hd) rfl kk
theorem g_lsub (C : Cx W Z R own code mx ret nm wsx hx0) {x y : Int64} (hd : decode code pc = .ok (.lsub, 1)) (hp : pc + 1 = pc') (g : Go W Q h k n pc' L (.long (x - y) :: S)) : Go W Q h k n pc L (.long y :: .long x :: S) := by
  subst hp
  exact g.st fun T locs X e t kk => XS.lsub (g := mkF W.m pc L (.long y :: .long x :: S)) X.here C.x rfl (C.b hd) rfl kk
theorem g_lmul (C : Cx W Z R own code mx ret nm wsx hx0) {x y : Int64} (hd : decode code pc = .ok (.lmul, 1)) (hp : pc + 1 = pc') (g : Go W Q h k n pc' L (.long (x * y) :: S)) : Go W Q h k n pc L (.long y :: .long x :: S) := by
  subst hp
  exact g.st fun T locs X e t kk => XS.lmul (g := mkF W.m pc L (.long y :: .long x :: S)) X.here C.x rfl (C.b hd) rfl kk
theorem g_land (C : Cx W Z R own code mx ret nm wsx hx0) {x y : Int64} (hd : decode code pc = .ok (.land, 1)) (hp : pc + 1 = pc') (g : Go W Q h k n pc' L (.long (x &&& y) :: S)) : Go W Q h k n pc L (.long y :: .long x :: S) := by
  subst hp
  exact g.st fun T locs X e t kk => XS.land (g := mkF W.m pc L (.long y :: .long x :: S)) X.here C.x rfl (C.b hd) rfl kk
theorem g_lor (C : Cx W Z R own code mx ret nm wsx hx0) {x y : Int64} (hd : decode code pc = .ok (.lor, 1)) (hp : pc + 1 = pc') (g : Go W Q h k n pc' L (.long (x ||| y) :: S)) : Go W Q h k n pc L (.long y :: .long x :: S) := by
  subst hp
  exact g.st fun T locs X e t kk => XS.lor (g := mkF W.m pc L (.long y :: .long x :: S)) X.here C.x rfl (C.b hd) rfl kk
theorem g_lxor (C : Cx W Z R own code mx ret nm wsx hx0) {x y : Int64} (hd : decode code pc = .ok (.lxor, 1)) (hp : pc + 1 = pc') (g : Go W Q h k n pc' L (.long (x ^^^ y) :: S)) : Go W Q h k n pc L (.long y :: .long x :: S) := by
  subst hp
  exact g.st fun T locs X e t kk => XS.lxor (g := mkF W.m pc L (.long y :: .long x :: S)) X.here C.x rfl (C.b hd) rfl kk
theorem g_lshl (C : Cx W Z R own code mx ret nm wsx hx0) {x : Int64} {y : Int32} (hd : decode code pc = .ok (.lshl, 1)) (hp : pc + 1 = pc') (g : Go W Q h k n pc' L (.long (x <<< (y &&& 0x3f).toInt64) :: S)) : Go W Q h k n pc L (.int y :: .long x :: S) := by
  subst hp
  exact g.st fun T locs X e t kk => XS.lshl (g := mkF W.m pc L (.int y :: .long x :: S)) X.here C.x rfl (C.b hd) rfl kk
theorem g_lshr (C : Cx W Z R own code mx ret nm wsx hx0) {x : Int64} {y : Int32} (hd : decode code pc = .ok (.lshr, 1)) (hp : pc + 1 = pc') (g : Go W Q h k n pc' L (.long (x >>> (y &&& 0x3f).toInt64) :: S)) : Go W Q h k n pc L (.int y :: .long x :: S) := by
  subst hp
  exact g.st fun T locs X e t kk => XS.lshr (g := mkF W.m pc L (.int y :: .long x :: S)) X.here C.x rfl (C.b hd) rfl kk
theorem g_lushr (C : Cx W Z R own code mx ret nm wsx hx0) {x : Int64} {y : Int32} (hd : decode code pc = .ok (.lushr, 1)) (hp : pc + 1 = pc') (g : Go W Q h k n pc' L (.long ((x.toUInt64 >>> (y &&& 0x3f).toInt64.toUInt64).toInt64) :: S)) : Go W Q h k n pc L (.int y :: .long x :: S) := by
  subst hp
  exact g.st fun T locs X e t kk => XS.lushr (g := mkF W.m pc L (.int y :: .long x :: S)) X.here C.x rfl (C.b hd) rfl kk
theorem g_idiv (C : Cx W Z R own code mx ret nm wsx hx0) {x y : Int32} (hd : decode code pc = .ok (.idiv, 1)) (hp : pc + 1 = pc') (hy : y ≠ 0) (g : Go W Q h k n pc' L (.int (x / y) :: S)) : Go W Q h k n pc L (.int y :: .int x :: S) := by
  subst hp
  exact g.st fun T locs X e t kk => XS.idiv (g := mkF W.m pc L (.int y :: .int x :: S)) X.here C.x rfl (C.b hd) rfl hy kk
theorem g_irem (C : Cx W Z R own code mx ret nm wsx hx0) {x y : Int32} (hd : decode code pc = .ok (.irem, 1)) (hp : pc + 1 = pc') (hy : y ≠ 0) (g : Go W Q h k n pc' L (.int (x % y) :: S)) : Go W Q h k n pc L (.int y :: .int x :: S) := by
  subst hp
  exact g.st fun T locs X e t kk => iremM (g := mkF W.m pc L (.int y :: .int x :: S)) X C.x rfl (C.b hd) rfl hy kk
theorem g_ldiv (C : Cx W Z R own code mx ret nm wsx hx0) {x y : Int64} (hd : decode code pc = .ok (.ldiv, 1)) (hp : pc + 1 = pc') (hy : y ≠ 0) (g : Go W Q h k n pc' L (.long (x / y) :: S)) : Go W Q h k n pc L (.long y :: .long x :: S) := by
  subst hp
  exact g.st fun T locs X e t kk => XS.ldiv (g := mkF W.m pc L (.long y :: .long x :: S)) X.here C.x rfl (C.b hd) rfl hy kk
theorem g_lrem (C : Cx W Z R own code mx ret nm wsx hx0) {x y : Int64} (hd : decode code pc = .ok (.lrem, 1)) (hp : pc + 1 = pc') (hy : y ≠ 0) (g : Go W Q h k n pc' L (.long (x % y) :: S)) : Go W Q h k n pc L (.long y :: .long x :: S) := by
  subst hp
  rw [← lrem_mod] at g
  exact g.st fun T locs X e t kk => XS.lrem (g := mkF W.m pc L (.long y :: .long x :: S)) X.here C.x rfl (C.b hd) rfl hy kk
theorem g_ineg (C : Cx W Z R own code mx ret nm wsx hx0) {x : Int32} (hd : decode code pc = .ok (.ineg, 1)) (hp : pc + 1 = pc') (g : Go W Q h k n pc' L (.int (-x) :: S)) : Go W Q h k n pc L (.int x :: S) := by
  subst hp
  exact g.st fun T locs X e t kk => XS.ineg (g := mkF W.m pc L (.int x :: S)) X.here C.x rfl (C.b hd) rfl kk
theorem g_lneg (C : Cx W Z R own code mx ret nm wsx hx0) {x : Int64} (hd : decode code pc = .ok (.lneg, 1)) (hp : pc + 1 = pc') (g : Go W Q h k n pc' L (.long (-x) :: S)) : Go W Q h k n pc L (.long x :: S) := by
  subst hp
  exact g.st fun T locs X e t kk => XS.lneg (g := mkF W.m pc L (.long x :: S)) X.here C.x rfl (C.b hd) rfl kk
theorem g_i2l (C : Cx W Z R own code mx ret nm wsx hx0) {x : Int32} (hd : decode code pc = .ok (.i2l, 1)) (hp : pc + 1 = pc') (g : Go W Q h k n pc' L (.long (x.toInt64) :: S)) : Go W Q h k n pc L (.int x :: S) := by
  subst hp
  exact g.st fun T locs X e t kk => XS.i2l (g := mkF W.m pc L (.int x :: S)) X.here C.x rfl (C.b hd) rfl kk
theorem g_l2i (C : Cx W Z R own code mx ret nm wsx hx0) {x : Int64} (hd : decode code pc = .ok (.l2i, 1)) (hp : pc + 1 = pc') (g : Go W Q h k n pc' L (.int (x.toInt32) :: S)) : Go W Q h k n pc L (.long x :: S) := by
  subst hp
  exact g.st fun T locs X e t kk => XS.l2i (g := mkF W.m pc L (.long x :: S)) X.here C.x rfl (C.b hd) rfl kk
theorem g_i2b (C : Cx W Z R own code mx ret nm wsx hx0) {x : Int32} (hd : decode code pc = .ok (.i2b, 1)) (hp : pc + 1 = pc') (g : Go W Q h k n pc' L (.int (x.toInt8.toInt32) :: S)) : Go W Q h k n pc L (.int x :: S) := by
  subst hp
  exact g.st fun T locs X e t kk => XS.i2b (g := mkF W.m pc L (.int x :: S)) X.here C.x rfl (C.b hd) rfl kk
theorem g_i2c (C : Cx W Z R own code mx ret nm wsx hx0) {x : Int32} (hd : decode code pc = .ok (.i2c, 1)) (hp : pc + 1 = pc') (g : Go W Q h k n pc' L (.int (x.toUInt32.toUInt16.toUInt32.toInt32) :: S)) : Go W Q h k n pc L (.int x :: S) := by
  subst hp
  exact g.st fun T locs X e t kk => XS.i2c (g := mkF W.m pc L (.int x :: S)) X.here C.x rfl (C.b hd) rfl kk
theorem g_i2s (C : Cx W Z R own code mx ret nm wsx hx0) {x : Int32} (hd : decode code pc = .ok (.i2s, 1)) (hp : pc + 1 = pc') (g : Go W Q h k n pc' L (.int (x.toInt16.toInt32) :: S)) : Go W Q h k n pc L (.int x :: S) := by
  subst hp
  exact g.st fun T locs X e t kk => XS.i2s (g := mkF W.m pc L (.int x :: S)) X.here C.x rfl (C.b hd) rfl kk
theorem g_iconst (C : Cx W Z R own code mx ret nm wsx hx0) {i : Int} {z : Int32} (hd : decode code pc = .ok (.iconst i, 1)) (hp : pc + 1 = pc') (hz : Int32.ofInt i = z) (g : Go W Q h k n pc' L (.int z :: S)) : Go W Q h k n pc L S := by
  subst hp hz
  exact g.st fun T locs X e t kk => XS.iconst (g := mkF W.m pc L S) X.here C.x rfl (C.b hd) kk
theorem g_bipush (C : Cx W Z R own code mx ret nm wsx hx0) {i : Int} {z : Int32} (hd : decode code pc = .ok (.bipush i, 2)) (hp : pc + 2 = pc') (hz : (Int8.ofInt i).toInt32 = z) (g : Go W Q h k n pc' L (.int z :: S)) : Go W Q h k n pc L S := by
  subst hp hz
  exact g.st fun T locs X e t kk => XS.bipush (g := mkF W.m pc L S) X.here C.x rfl (C.b hd) kk
theorem g_sipush (C : Cx W Z R own code mx ret nm wsx hx0) {i : Int} {z : Int32} (hd : decode code pc = .ok (.sipush i, 3)) (hp : pc + 3 = pc') (hz : (Int16.ofInt i).toInt32 = z) (g : Go W Q h k n pc' L (.int z :: S)) : Go W Q h k n pc L S := by
  subst hp hz
  exact g.st fun T locs X e t kk => XS.sipush (g := mkF W.m pc L S) X.here C.x rfl (C.b hd) kk
theorem g_lconst (C : Cx W Z R own code mx ret nm wsx hx0) {i : Fin 2} {z : Int64} (hd : decode code pc = .ok (.lconst i, 1)) (hp : pc + 1 = pc') (hz : Int64.ofNat i = z) (g : Go W Q h k n pc' L (.long z :: S)) : Go W Q h k n pc L S := by
  subst hp hz
  exact g.st fun T locs X e t kk => XS.lconst (g := mkF W.m pc L S) X.here C.x rfl (C.b hd) kk
theorem g_aconst_null (C : Cx W Z R own code mx ret nm wsx hx0)  (hd : decode code pc = .ok (.aconst_null, 1)) (hp : pc + 1 = pc') (g : Go W Q h k n pc' L (.null :: S)) : Go W Q h k n pc L (S) := by
  subst hp
  exact g.st fun T locs X e t kk => XS.aconstNull (g := mkF W.m pc L (S)) X.here C.x rfl (C.b hd) kk
theorem g_dup (C : Cx W Z R own code mx ret nm wsx hx0) {x : Value} (hd : decode code pc = .ok (.dup, 1)) (hp : pc + 1 = pc') (hc : x.category = 1) (g : Go W Q h k n pc' L (x :: x :: S)) : Go W Q h k n pc L (x :: S) := by
  subst hp
  exact g.st fun T locs X e t kk => XS.dup (g := mkF W.m pc L (x :: S)) X.here C.x rfl (C.b hd) rfl hc kk
theorem g_dup_x1 (C : Cx W Z R own code mx ret nm wsx hx0) {x y : Value} (hd : decode code pc = .ok (.dup_x1, 1)) (hp : pc + 1 = pc') (hc : x.category = 1) (hc' : y.category = 1) (g : Go W Q h k n pc' L (x :: y :: x :: S)) : Go W Q h k n pc L (x :: y :: S) := by
  subst hp
  exact g.st fun T locs X e t kk => XS.dupX1 (g := mkF W.m pc L (x :: y :: S)) X.here C.x rfl (C.b hd) rfl hc hc' kk
theorem dupX2s {tb : Tables} [Ours tb] {e : Env} {below : List Frame} {T target : State} {m : MethodId} {c : Code} {g : JFrame} (h : At T m c below) (hx : tb.exec = Jvm.exec) (hg : g.method = m) {x y z : Value} {rest : List Value} (hd : decode c.code g.pc = .ok (.dup_x2, 1)) (hs : g.stack = x :: y :: z :: rest) (hc : x.category = 1) (hc' : y.category = 1) (hc'' : z.category = 1)
    (hr : Steps tb e below (T.setTop { g with pc := g.pc + 1, stack := x :: y :: z :: x :: rest }) target) : Steps tb e below (T.setTop g) target := by
  subst hg
  jvm_step h [h.top, hx, hd, hs, hc, hc', hc'']
  exact hr
theorem g_dup_x2 (C : Cx W Z R own code mx ret nm wsx hx0) {x y z : Value} (hd : decode code pc = .ok (.dup_x2, 1)) (hp : pc + 1 = pc') (hc : x.category = 1) (hc' : y.category = 1) (hc'' : z.category = 1) (g : Go W Q h k n pc' L (x :: y :: z :: x :: S)) : Go W Q h k n pc L (x :: y :: z :: S) := by
  subst hp
  exact g.st fun T locs X e t kk => dupX2s (g := mkF W.m pc L (x :: y :: z :: S)) X.here C.x rfl (C.b hd) rfl hc hc' hc'' kk
theorem g_dup2 (C : Cx W Z R own code mx ret nm wsx hx0) {x y : Value} (hd : decode code pc = .ok (.dup2, 1)) (hp : pc + 1 = pc') (hc : x.category = 1) (hc' : y.category = 1) (g : Go W Q h k n pc' L (x :: y :: x :: y :: S)) : Go W Q h k n pc L (x :: y :: S) := by
  subst hp
  exact g.st fun T locs X e t kk => XT.dup2 (g := mkF W.m pc L (x :: y :: S)) X.here C.x rfl (C.b hd) rfl hc hc' kk
theorem g_dup2L (C : Cx W Z R own code mx ret nm wsx hx0) {x : Int64} (hd : decode code pc = .ok (.dup2, 1)) (hp : pc + 1 = pc') (g : Go W Q h k n pc' L (.long x :: .long x :: S)) : Go W Q h k n pc L (.long x :: S) := by
  subst hp
  exact g.st fun T locs X e t kk => XT.dup2L (g := mkF W.m pc L (.long x :: S)) X.here C.x rfl (C.b hd) rfl kk
theorem g_pop (C : Cx W Z R own code mx ret nm wsx hx0) {x : Value} (hd : decode code pc = .ok (.pop, 1)) (hp : pc + 1 = pc') (hc : x.category = 1) (g : Go W Q h k n pc' L (S)) : Go W Q h k n pc L (x :: S) := by
  subst hp
  exact g.st fun T locs X e t kk => XS.pop (g := mkF W.m pc L (x :: S)) X.here C.x rfl (C.b hd) rfl hc kk
theorem g_iload (C : Cx W Z R own code mx ret nm wsx hx0) {i : Nat} {x : Int32} (hd : decode code pc = .ok (.iload i, 2)) (hp : pc + 2 = pc') (hl : L[i]? = some (.val (.int x))) (g : Go W Q h k n pc' L (.int x :: S)) : Go W Q h k n pc L (S) := by
  subst hp
  exact g.st fun T locs X e t kk => XS.iload (g := mkF W.m pc L (S)) X.here C.x rfl (C.b hd) hl kk
theorem g_iloadN (C : Cx W Z R own code mx ret nm wsx hx0) {i : Fin 4} {x : Int32} (hd : decode code pc = .ok (.iload_n i, 1)) (hp : pc + 1 = pc') (hl : L[i.val]? = some (.val (.int x))) (g : Go W Q h k n pc' L (.int x :: S)) : Go W Q h k n pc L (S) := by
  subst hp
  exact g.st fun T locs X e t kk => XS.iloadN (g := mkF W.m pc L (S)) X.here C.x rfl (C.b hd) hl kk
theorem g_lload (C : Cx W Z R own code mx ret nm wsx hx0) {i : Nat} {x : Int64} (hd : decode code pc = .ok (.lload i, 2)) (hp : pc + 2 = pc') (hl : L[i]? = some (.val (.long x))) (g : Go W Q h k n pc' L (.long x :: S)) : Go W Q h k n pc L (S) := by
  subst hp
  exact g.st fun T locs X e t kk => XS.lload (g := mkF W.m pc L (S)) X.here C.x rfl (C.b hd) hl kk
theorem g_lloadN (C : Cx W Z R own code mx ret nm wsx hx0) {i : Fin 4} {x : Int64} (hd : decode code pc = .ok (.lload_n i, 1)) (hp : pc + 1 = pc') (hl : L[i.val]? = some (.val (.long x))) (g : Go W Q h k n pc' L (.long x :: S)) : Go W Q h k n pc L (S) := by
  subst hp
  exact g.st fun T locs X e t kk => XS.lloadN (g := mkF W.m pc L (S)) X.here C.x rfl (C.b hd) hl kk
theorem g_aload (C : Cx W Z R own code mx ret nm wsx hx0) {i : Nat} {x : Value} (hd : decode code pc = .ok (.aload i, 2)) (hp : pc + 2 = pc') (hl : L[i]? = some (.val x)) (hv : x.isRef = true) (g : Go W Q h k n pc' L (x :: S)) : Go W Q h k n pc L (S) := by
  subst hp
  exact g.st fun T locs X e t kk => XS.aload (g := mkF W.m pc L (S)) X.here C.x rfl (C.b hd) hl hv kk
theorem g_istore (C : Cx W Z R own code mx ret nm wsx hx0) {i : Nat} {x : Int32} (hd : decode code pc = .ok (.istore i, 2)) (hp : pc + 2 = pc') (hl : storeLocals L i (.int x) = some L') (g : Go W Q h k n pc' L' (S)) : Go W Q h k n pc L (.int x :: S) := by
  subst hp
  exact g.st fun T locs X e t kk => XS.istore (g := mkF W.m pc L (.int x :: S)) X.here C.x rfl (C.b hd) rfl hl kk
theorem g_lstore (C : Cx W Z R own code mx ret nm wsx hx0) {i : Nat} {x : Int64} (hd : decode code pc = .ok (.lstore i, 2)) (hp : pc + 2 = pc') (hl : storeLocals L i (.long x) = some L') (g : Go W Q h k n pc' L' (S)) : Go W Q h k n pc L (.long x :: S) := by
  subst hp
  exact g.st fun T locs X e t kk => XS.lstore (g := mkF W.m pc L (.long x :: S)) X.here C.x rfl (C.b hd) rfl hl kk
theorem g_astore (C : Cx W Z R own code mx ret nm wsx hx0) {i : Nat} {x : Value} (hd : decode code pc = .ok (.astore i, 2)) (hp : pc + 2 = pc') (hv : x.isRef = true) (hl : storeLocals L i x = some L') (g : Go W Q h k n pc' L' (S)) : Go W Q h k n pc L (x :: S) := by
  subst hp
  exact g.st fun T locs X e t kk => XS.astore (g := mkF W.m pc L (x :: S)) X.here C.x rfl (C.b hd) rfl hv hl kk
theorem g_aloadN (C : Cx W Z R own code mx ret nm wsx hx0) {i : Fin 4} {x : Value} (hd : decode code pc = .ok (.aload_n i, 1)) (hp : pc + 1 = pc') (hl : L[i.val]? = some (.val x)) (hv : x.isRef = true) (g : Go W Q h k n pc' L (x :: S)) : Go W Q h k n pc L (S) := by
  subst hp
  exact g.st fun T locs X e t kk => XS.aloadN (g := mkF W.m pc L (S)) X.here C.x rfl (C.b hd) hl hv kk
theorem g_istoreN (C : Cx W Z R own code mx ret nm wsx hx0) {i : Fin 4} {x : Int32} (hd : decode code pc = .ok (.istore_n i, 1)) (hp : pc + 1 = pc') (hl : storeLocals L i.val (.int x) = some L') (g : Go W Q h k n pc' L' (S)) : Go W Q h k n pc L (.int x :: S) := by
  subst hp
  exact g.st fun T locs X e t kk => XS.istoreN (g := mkF W.m pc L (.int x :: S)) X.here C.x rfl (C.b hd) rfl hl kk
theorem g_lstoreN (C : Cx W Z R own code mx ret nm wsx hx0) {i : Fin 4} {x : Int64} (hd : decode code pc = .ok (.lstore_n i, 1)) (hp : pc + 1 = pc') (hl : storeLocals L i.val (.long x) = some L') (g : Go W Q h k n pc' L' (S)) : Go W Q h k n pc L (.long x :: S) := by
  subst hp
  exact g.st fun T locs X e t kk => XS.lstoreN (g := mkF W.m pc L (.long x :: S)) X.here C.x rfl (C.b hd) rfl hl kk
theorem g_astoreN (C : Cx W Z R own code mx ret nm wsx hx0) {i : Fin 4} {x : Value} (hd : decode code pc = .ok (.astore_n i, 1)) (hp : pc + 1 = pc') (hv : x.isRef = true) (hl : storeLocals L i.val x = some L') (g : Go W Q h k n pc' L' (S)) : Go W Q h k n pc L (x :: S) := by
  subst hp
  exact g.st fun T locs X e t kk => XS.astoreN (g := mkF W.m pc L (x :: S)) X.here C.x rfl (C.b hd) rfl hv hl kk
theorem g_iinc (C : Cx W Z R own code mx ret nm wsx hx0) {i : Nat} {cst : Int} {x z : Int32} (hd : decode code pc = .ok (.iinc i cst, 3)) (hp : pc + 3 = pc') (hl : L[i]? = some (.val (.int x))) (hz : x + Int32.ofInt cst = z) (hl' : storeLocals L i (.int z) = some L') (g : Go W Q h k n pc' L' (S)) : Go W Q h k n pc L (S) := by
  subst hp
  exact g.st fun T locs X e t kk => XS.iinc (g := mkF W.m pc L (S)) X.here C.x rfl (C.b hd) hl (hz ▸ hl') kk
theorem g_goto (C : Cx W Z R own code mx ret nm wsx hx0) {o : Int} (hd : decode code pc = .ok (.goto o, 3)) (ho : 0 ≤ (pc : Int) + o) (hp : ((pc : Int) + o).toNat = pc') (g : Go W Q h k n pc' L S) : Go W Q h k n pc L S :=
  g.st fun T locs X e t kk => XS.goto (g := mkF W.m pc L S) X.here C.x rfl rfl (C.b hd) ho hp kk
theorem g_ldcI (C : Cx W Z R own code mx ret nm wsx hx0) {i : Nat} {z : Int32} (hd : decode code pc = .ok (.ldc i, 2)) (hp : pc + 2 = pc') (w : (Jvm.Cond.constant own i z).before a0 Z = true) (g : Go W Q h k n pc' L (.int z :: S)) : Go W Q h k n pc L S := by
  subst hp
  exact g.st fun T locs X e t kk => X.ldcInt C.x C.o (mvT C.z w) (g := mkF W.m pc L S) rfl (C.b hd) t kk
theorem g_ldcwI (C : Cx W Z R own code mx ret nm wsx hx0) {i : Nat} {z : Int32} (hd : decode code pc = .ok (.ldc_w i, 3)) (hp : pc + 3 = pc') (w : (Jvm.Cond.constant own i z).before a0 Z = true) (g : Go W Q h k n pc' L (.int z :: S)) : Go W Q h k n pc L S := by
  subst hp
  exact g.st fun T locs X e t kk => X.ldcwInt C.x C.o (mvT C.z w) (g := mkF W.m pc L S) rfl (C.b hd) t kk
theorem g_ldc2L (C : Cx W Z R own code mx ret nm wsx hx0) {i : Nat} {z : Int64} (hd : decode code pc = .ok (.ldc2_w i, 3)) (hp : pc + 3 = pc') (w : (Jvm.Cond.constantLong own i z).before a0 Z = true) (g : Go W Q h k n pc' L (.long z :: S)) : Go W Q h k n pc L S := by
  subst hp
  exact g.st fun T locs X e t kk => X.ldc2Long C.x C.o (mvT C.z w) (g := mkF W.m pc L S) rfl (C.b hd) t kk
theorem g_ldcF (C : Cx W Z R own code mx ret nm wsx hx0) {i : Nat} {z : UInt32} (hd : decode code pc = .ok (.ldc i, 2)) (hp : pc + 2 = pc') (w : (Jvm.Cond.constantFloat own i z).before a0 Z = true) (g : Go W Q h k n pc' L (.float z :: S)) : Go W Q h k n pc L S := by
  subst hp
  obtain ⟨kk, cf, hk, hcf, hcp⟩ := Cond.constantFloat_spec C.o (mvT (args := #[]) C.z w)
  exact g.st fun T locs X e t kt => X.ldcFloat C.x hk hcf hcp (g := mkF W.m pc L S) rfl (C.b hd) t kt
/-- what a branch asks of two integers -/
def icp : ClassFile.Cond → Int → Int → Prop
  | .eq, x, y => x = y
  | .ne, x, y => ¬ x = y
  | .lt, x, y => x < y
  | .ge, x, y => y ≤ x
  | .gt, x, y => y < x
  | .le, x, y => x ≤ y
instance instIcp : (cd : ClassFile.Cond) → (x y : Int) → Decidable (icp cd x y)
  | .eq, x, y => inferInstanceAs (Decidable (x = y))
  | .ne, x, y => inferInstanceAs (Decidable (¬ x = y))
  | .lt, x, y => inferInstanceAs (Decidable (x < y))
  | .ge, x, y => inferInstanceAs (Decidable (y ≤ x))
  | .gt, x, y => inferInstanceAs (Decidable (y < x))
  | .le, x, y => inferInstanceAs (Decidable (x ≤ y))
theorem icp_eq (cd : ClassFile.Cond) (x y : Int32) : if_icmp.holds cd x y = decide (icp cd x.toInt y.toInt) := by
  rw [Bool.eq_iff_iff, decide_eq_true_iff]
  cases cd <;> simp [if_icmp.holds, icp, Int32.lt_iff_toInt_lt, Int32.le_iff_toInt_le, Int32.toInt_inj]
theorem icp_long (cd : ClassFile.Cond) (x y : Int64) : ifCond.holds cd (lcmpW x y) = decide (icp cd x.toInt y.toInt) := by
  rw [if0, icp_eq, Bool.eq_iff_iff, decide_eq_true_iff, decide_eq_true_iff]
  have c := c_lcmp x y
  have z : (0 : Int32).toInt = 0 := rfl
  rw [z]
  rcases Int.lt_trichotomy x.toInt y.toInt with q | q | q
  · rw [c.1 q]; cases cd <;> simp only [icp] <;> omega
  · rw [c.2.1 q]; cases cd <;> simp only [icp] <;> first | omega | simp [q]
  · rw [c.2.2 q]; cases cd <;> simp only [icp] <;> omega

theorem g_icmpY (C : Cx W Z R own code mx ret nm wsx hx0) {cd : ClassFile.Cond} {o : Int} {x y : Int32} {xi yi : Int} (hd : decode code pc = .ok (.if_icmp cd o, 3)) (ho : 0 ≤ (pc : Int) + o) (hp1 : ((pc : Int) + o).toNat = pc1) (hx : x.toInt = xi) (hy : y.toInt = yi) (q : icp cd xi yi) (g : Go W Q h k n pc1 L S) : Go W Q h k n pc L (.int y :: .int x :: S) := by
  subst hx hy
  exact g.st fun T locs X e t kk => XS.icmpYes (g := mkF W.m pc L (.int y :: .int x :: S)) X.here C.x rfl rfl (C.b hd) rfl ((icp_eq cd x y).trans (decide_eq_true q)) ho hp1 kk
theorem g_icmpN (C : Cx W Z R own code mx ret nm wsx hx0) {cd : ClassFile.Cond} {o : Int} {x y : Int32} {xi yi : Int} (hd : decode code pc = .ok (.if_icmp cd o, 3)) (hp2 : pc + 3 = pc2) (hx : x.toInt = xi) (hy : y.toInt = yi) (q : ¬ (icp cd xi yi)) (g : Go W Q h k n pc2 L S) : Go W Q h k n pc L (.int y :: .int x :: S) := by
  subst hx hy hp2
  exact g.st fun T locs X e t kk => XS.icmpNo (g := mkF W.m pc L (.int y :: .int x :: S)) X.here C.x rfl (C.b hd) rfl ((icp_eq cd x y).trans (decide_eq_false q)) kk
theorem g_icmp (C : Cx W Z R own code mx ret nm wsx hx0) {cd : ClassFile.Cond} {o : Int} {x y : Int32} {xi yi : Int} (hd : decode code pc = .ok (.if_icmp cd o, 3)) (ho : 0 ≤ (pc : Int) + o) (hp1 : ((pc : Int) + o).toNat = pc1) (hp2 : pc + 3 = pc2) (hx : x.toInt = xi) (hy : y.toInt = yi) (g1 : icp cd xi yi → Go W Q h k n pc1 L S) (g2 : ¬ (icp cd xi yi) → Go W Q h k n pc2 L S) : Go W Q h k n pc L (.int y :: .int x :: S) := by
  by_cases q : icp cd xi yi
  · exact g_icmpY C hd ho hp1 hx hy q (g1 q)
  · exact g_icmpN C hd hp2 hx hy q (g2 q)
theorem g_ifY (C : Cx W Z R own code mx ret nm wsx hx0) {cd : ClassFile.Cond} {o : Int} {x : Int32} {xi : Int} (hd : decode code pc = .ok (.ifCond cd o, 3)) (ho : 0 ≤ (pc : Int) + o) (hp1 : ((pc : Int) + o).toNat = pc1) (hx : x.toInt = xi) (q : icp cd xi 0) (g : Go W Q h k n pc1 L S) : Go W Q h k n pc L (.int x :: S) := by
  subst hx
  exact g.st fun T locs X e t kk => XS.ifYes (g := mkF W.m pc L (.int x :: S)) X.here C.x rfl rfl (C.b hd) rfl ((if0 cd x).trans ((icp_eq cd x 0).trans (decide_eq_true q))) ho hp1 kk
theorem g_ifN (C : Cx W Z R own code mx ret nm wsx hx0) {cd : ClassFile.Cond} {o : Int} {x : Int32} {xi : Int} (hd : decode code pc = .ok (.ifCond cd o, 3)) (hp2 : pc + 3 = pc2) (hx : x.toInt = xi) (q : ¬ (icp cd xi 0)) (g : Go W Q h k n pc2 L S) : Go W Q h k n pc L (.int x :: S) := by
  subst hx hp2
  exact g.st fun T locs X e t kk => XS.ifNo (g := mkF W.m pc L (.int x :: S)) X.here C.x rfl (C.b hd) rfl ((if0 cd x).trans ((icp_eq cd x 0).trans (decide_eq_false q))) kk
theorem g_if (C : Cx W Z R own code mx ret nm wsx hx0) {cd : ClassFile.Cond} {o : Int} {x : Int32} {xi : Int} (hd : decode code pc = .ok (.ifCond cd o, 3)) (ho : 0 ≤ (pc : Int) + o) (hp1 : ((pc : Int) + o).toNat = pc1) (hp2 : pc + 3 = pc2) (hx : x.toInt = xi) (g1 : icp cd xi 0 → Go W Q h k n pc1 L S) (g2 : ¬ (icp cd xi 0) → Go W Q h k n pc2 L S) : Go W Q h k n pc L (.int x :: S) := by
  by_cases q : icp cd xi 0
  · exact g_ifY C hd ho hp1 hx q (g1 q)
  · exact g_ifN C hd hp2 hx q (g2 q)
/-- lcmp and the branch behind it -/
theorem g_lcmpY (C : Cx W Z R own code mx ret nm wsx hx0) {cd : ClassFile.Cond} {o : Int} {x y : Int64} {xi yi : Int} (hd : decode code pc = .ok (.lcmp, 1)) (hd' : decode code pc' = .ok (.ifCond cd o, 3)) (hp : pc + 1 = pc') (ho : 0 ≤ (pc' : Int) + o) (hp1 : ((pc' : Int) + o).toNat = pc1) (hx : x.toInt = xi) (hy : y.toInt = yi) (q : icp cd xi yi) (g : Go W Q h k n pc1 L S) : Go W Q h k n pc L (.long y :: .long x :: S) := by
  subst hp hx hy
  have g' : Go W Q h k n (pc + 1) L (.int (lcmpW x y) :: S) := g.st fun T locs X e t kk => XS.ifYes (g := mkF W.m (pc + 1) L (.int (lcmpW x y) :: S)) X.here C.x rfl rfl (C.b hd') rfl ((icp_long cd x y).trans (decide_eq_true q)) ho hp1 kk
  exact g'.st fun T locs X e t kk => XS.lcmp (g := mkF W.m pc L (.long y :: .long x :: S)) X.here C.x rfl (C.b hd) rfl kk
theorem g_lcmpN (C : Cx W Z R own code mx ret nm wsx hx0) {cd : ClassFile.Cond} {o : Int} {x y : Int64} {xi yi : Int} (hd : decode code pc = .ok (.lcmp, 1)) (hd' : decode code pc' = .ok (.ifCond cd o, 3)) (hp : pc + 1 = pc') (hp2 : pc' + 3 = pc2) (hx : x.toInt = xi) (hy : y.toInt = yi) (q : ¬ icp cd xi yi) (g : Go W Q h k n pc2 L S) : Go W Q h k n pc L (.long y :: .long x :: S) := by
  subst hp hx hy hp2
  have g' : Go W Q h k n (pc + 1) L (.int (lcmpW x y) :: S) := g.st fun T locs X e t kk => XS.ifNo (g := mkF W.m (pc + 1) L (.int (lcmpW x y) :: S)) X.here C.x rfl (C.b hd') rfl ((icp_long cd x y).trans (decide_eq_false q)) kk
  exact g'.st fun T locs X e t kk => XS.lcmp (g := mkF W.m pc L (.long y :: .long x :: S)) X.here C.x rfl (C.b hd) rfl kk
theorem g_lcmp (C : Cx W Z R own code mx ret nm wsx hx0) {cd : ClassFile.Cond} {o : Int} {x y : Int64} {xi yi : Int} (hd : decode code pc = .ok (.lcmp, 1)) (hd' : decode code pc' = .ok (.ifCond cd o, 3)) (hp : pc + 1 = pc') (ho : 0 ≤ (pc' : Int) + o) (hp1 : ((pc' : Int) + o).toNat = pc1) (hp2 : pc' + 3 = pc2) (hx : x.toInt = xi) (hy : y.toInt = yi) (g1 : icp cd xi yi → Go W Q h k n pc1 L S) (g2 : ¬ icp cd xi yi → Go W Q h k n pc2 L S) : Go W Q h k n pc L (.long y :: .long x :: S) := by
  by_cases q : icp cd xi yi
  · exact g_lcmpY C hd hd' hp ho hp1 hx hy q (g1 q)
  · exact g_lcmpN C hd hd' hp hp2 hx hy q (g2 q)
theorem icp_b0 {P : Prop} [Decidable P] : icp .eq (b2i P).toInt 0 ↔ ¬ P := by
  show (b2i P).toInt = 0 ↔ ¬ P
  rw [b2i_toInt]; split <;> simp [*]
theorem icp_b1 {P : Prop} [Decidable P] : icp .ne (b2i P).toInt 0 ↔ P := by
  show ¬ (b2i P).toInt = 0 ↔ P
  rw [b2i_toInt]; split <;> simp [*]
/-- ifeq on a truth value -/
theorem g_ifeqb (C : Cx W Z R own code mx ret nm wsx hx0) {o : Int} {x : Int32} {P : Prop} [Decidable P] (hd : decode code pc = .ok (.ifCond .eq o, 3)) (ho : 0 ≤ (pc : Int) + o) (hp1 : ((pc : Int) + o).toNat = pc1) (hp2 : pc + 3 = pc2) (hx : x = b2i P) (g1 : ¬ P → Go W Q h k n pc1 L S) (g2 : P → Go W Q h k n pc2 L S) : Go W Q h k n pc L (.int x :: S) := by
  subst hx
  exact g_if C hd ho hp1 hp2 rfl (fun q => g1 (icp_b0.mp q)) (fun q => g2 (Decidable.not_not.mp fun z => q (icp_b0.mpr z)))
/-- ifne on a truth value -/
theorem g_ifneb (C : Cx W Z R own code mx ret nm wsx hx0) {o : Int} {x : Int32} {P : Prop} [Decidable P] (hd : decode code pc = .ok (.ifCond .ne o, 3)) (ho : 0 ≤ (pc : Int) + o) (hp1 : ((pc : Int) + o).toNat = pc1) (hp2 : pc + 3 = pc2) (hx : x = b2i P) (g1 : P → Go W Q h k n pc1 L S) (g2 : ¬ P → Go W Q h k n pc2 L S) : Go W Q h k n pc L (.int x :: S) := by
  subst hx
  exact g_if C hd ho hp1 hp2 rfl (fun q => g1 (icp_b1.mp q)) (fun q => g2 fun z => q (icp_b1.mpr z))
theorem g_icmpbeq (C : Cx W Z R own code mx ret nm wsx hx0) {o : Int} {x y : Int32} {P P' : Prop} [Decidable P] [Decidable P'] (hd : decode code pc = .ok (.if_icmp .eq o, 3)) (ho : 0 ≤ (pc : Int) + o) (hp1 : ((pc : Int) + o).toNat = pc1) (hp2 : pc + 3 = pc2) (hx : x = b2i P) (hy : y = b2i P') (g1 : (P ↔ P') → Go W Q h k n pc1 L S) (g2 : ¬ (P ↔ P') → Go W Q h k n pc2 L S) : Go W Q h k n pc L (.int y :: .int x :: S) := by
  subst hx hy
  exact g_icmp C hd ho hp1 hp2 rfl rfl (fun q => g1 (b2i_inj.mp (Int32.toInt_inj.mp q))) (fun q => g2 fun z => q (congrArg Int32.toInt (b2i_inj.mpr z)))
theorem g_icmpbne (C : Cx W Z R own code mx ret nm wsx hx0) {o : Int} {x y : Int32} {P P' : Prop} [Decidable P] [Decidable P'] (hd : decode code pc = .ok (.if_icmp .ne o, 3)) (ho : 0 ≤ (pc : Int) + o) (hp1 : ((pc : Int) + o).toNat = pc1) (hp2 : pc + 3 = pc2) (hx : x = b2i P) (hy : y = b2i P') (g1 : ¬ (P ↔ P') → Go W Q h k n pc1 L S) (g2 : (P ↔ P') → Go W Q h k n pc2 L S) : Go W Q h k n pc L (.int y :: .int x :: S) := by
  subst hx hy
  exact g_icmp C hd ho hp1 hp2 rfl rfl (fun q => g1 fun z => q (congrArg Int32.toInt (b2i_inj.mpr z))) (fun q => g2 (b2i_inj.mp (Int32.toInt_inj.mp (Decidable.not_not.mp q))))
theorem isRef_cases {v : Value} (hv : v.isRef = true) (h0 : v ≠ .null) : ∃ b, v = .ref b := by
  rcases ref_cases hv with q | q
  · exact absurd q h0
  · exact q
theorem g_ifnonnull (C : Cx W Z R own code mx ret nm wsx hx0) {o : Int} {v : Value} (hd : decode code pc = .ok (.ifnonnull o, 3)) (ho : 0 ≤ (pc : Int) + o) (hp1 : ((pc : Int) + o).toNat = pc1) (hp2 : pc + 3 = pc2) (hv : v.isRef = true) (g1 : v ≠ .null → Go W Q h k n pc1 L S) (g2 : v = .null → Go W Q h k n pc2 L S) : Go W Q h k n pc L (v :: S) := by
  by_cases q : v = .null
  · have g := g2 q
    subst q hp2
    exact g.st fun T locs X e t kk => XS.ifnonnullNo (g := mkF W.m pc L (.null :: S)) X.here C.x rfl (C.b hd) rfl kk
  · have g := g1 q
    obtain ⟨b, rfl⟩ := isRef_cases hv q
    exact g.st fun T locs X e t kk => XS.ifnonnullYes (g := mkF W.m pc L (.ref b :: S)) X.here C.x rfl rfl (C.b hd) rfl ho hp1 kk
theorem g_ifnull (C : Cx W Z R own code mx ret nm wsx hx0) {o : Int} {v : Value} (hd : decode code pc = .ok (.ifnull o, 3)) (ho : 0 ≤ (pc : Int) + o) (hp1 : ((pc : Int) + o).toNat = pc1) (hp2 : pc + 3 = pc2) (hv : v.isRef = true) (g1 : v = .null → Go W Q h k n pc1 L S) (g2 : v ≠ .null → Go W Q h k n pc2 L S) : Go W Q h k n pc L (v :: S) := by
  by_cases q : v = .null
  · have g := g1 q
    subst q
    exact g.st fun T locs X e t kk => XS.ifnullYes (g := mkF W.m pc L (.null :: S)) X.here C.x rfl rfl (C.b hd) rfl ho hp1 kk
  · have g := g2 q
    obtain ⟨b, rfl⟩ := isRef_cases hv q
    subst hp2
    exact g.st fun T locs X e t kk => XS.ifnullNo (g := mkF W.m pc L (.ref b :: S)) X.here C.x rfl (C.b hd) rfl kk
theorem g_acmpne (C : Cx W Z R own code mx ret nm wsx hx0) {o : Int} {v w : Value} (hd : decode code pc = .ok (.if_acmp .ne o, 3)) (ho : 0 ≤ (pc : Int) + o) (hp1 : ((pc : Int) + o).toNat = pc1) (hp2 : pc + 3 = pc2) (hv : v.isRef = true) (hw : w.isRef = true) (g1 : v ≠ w → Go W Q h k n pc1 L S) (g2 : v = w → Go W Q h k n pc2 L S) : Go W Q h k n pc L (w :: v :: S) := by
  by_cases q : v = w
  · exact (g2 q).st fun T locs X e t kk => Jvm.RoadKit.acmp (g := mkF W.m pc L (w :: v :: S)) X C.x rfl hv hw (same := true) rfl (C.b hd) rfl (decide_eq_true q) ho (by rw [← hp2]; rfl) kk
  · exact (g1 q).st fun T locs X e t kk => Jvm.RoadKit.acmp (g := mkF W.m pc L (w :: v :: S)) X C.x rfl hv hw (same := false) rfl (C.b hd) rfl (decide_eq_false q) ho hp1.symm kk
theorem g_acmpeq (C : Cx W Z R own code mx ret nm wsx hx0) {o : Int} {v w : Value} (hd : decode code pc = .ok (.if_acmp .eq o, 3)) (ho : 0 ≤ (pc : Int) + o) (hp1 : ((pc : Int) + o).toNat = pc1) (hp2 : pc + 3 = pc2) (hv : v.isRef = true) (hw : w.isRef = true) (g1 : v = w → Go W Q h k n pc1 L S) (g2 : v ≠ w → Go W Q h k n pc2 L S) : Go W Q h k n pc L (w :: v :: S) := by
  by_cases q : v = w
  · exact (g1 q).st fun T locs X e t kk => Jvm.RoadKit.acmp (g := mkF W.m pc L (w :: v :: S)) X C.x rfl hv hw (same := true) rfl (C.b hd) rfl (decide_eq_true q) ho hp1.symm kk
  · exact (g2 q).st fun T locs X e t kk => Jvm.RoadKit.acmp (g := mkF W.m pc L (w :: v :: S)) X C.x rfl hv hw (same := false) rfl (C.b hd) rfl (decide_eq_false q) ho (by rw [← hp2]; rfl) kk

/-! fields, objects, arrays -/
theorem g_getL (C : Cx W Z R own code mx ret nm wsx hx0) {i : Nat} {R0 O f d host : String} {a : Addr} {v : Value} (hd : decode code pc = .ok (.getfield i, 3)) (hp : pc + 3 = pc') (w : (Jvm.Cond.fieldLink own i R0 f d).before a0 Z = true ∨ (Jvm.Cond.fieldLinkNest own i R0 f d host).before a0 Z = true) (via : Via Z R0 O f d) (F : Fld Z h a O f d v) (g : Go W Q h k n pc' L (v :: S)) : Go W Q h k n pc L (.ref a :: S) := fun T hT => by
  obtain ⟨locs, X, e, N⟩ := hT
  subst hp
  obtain ⟨T', X', e', st⟩ := getF X C.x C.z C.o w via e F (g := mkF W.m pc L (.ref a :: S)) rfl rfl (C.b hd)
  exact Out.st st (g T' ⟨locs, X', e', N⟩)
theorem g_getO (C : Cx W Z R own code mx ret nm wsx hx0) {i j : Nat} {O f d Cl : String} {a : Addr} {v : Value} {fs : List (String × String × String × Value)} (hd : decode code pc = .ok (.getfield i, 3)) (hp : pc + 3 = pc') (w : (Jvm.Cond.fieldLink own i O f d).before a0 Z = true) (F : Ob Z h a Cl fs) (hj : fs[j]? = some (O, f, d, v)) (g : Go W Q h k n pc' L (v :: S)) : Go W Q h k n pc L (.ref a :: S) :=
  g_getL (host := "") C hd hp (Or.inl w) Via.refl (F.get hj) g
theorem pw_size (C : Cx W Z R own code mx ret nm wsx hx0) {T : State} {locs : List Loc} (X : Sta0 W T locs k n) (e : T.heap = h) : Pw W h.size := by
  have q : W.s.heap.size ≤ T.heap.size := X.same.2.1
  rw [e] at q
  exact Or.inr q
theorem g_putO (C : Cx W Z R own code mx ret nm wsx hx0) {i j kk : Nat} {R0 O f d Cl : String} {ty : FieldType} {a : Addr} {v v' old : Value} {fs fs' : List (String × String × String × Value)} (hd : decode code pc = .ok (.putfield i, 3)) (hp : pc + 3 = pc') (w : (Jvm.Cond.fieldLink own i R0 f d).before a0 Z = true) (via : Via Z R0 O f d) (F : Ob Z h a Cl fs) (hj : fs[j]? = some (O, f, d, old))
    (Lw : (Jvm.Cond.lays Cl O f d).before a0 Z = true ∨ ((Jvm.Cond.laysFinal Cl O f d).before a0 Z = true ∧ own = O ∧ nm = "<init>")) (wi : (Jvm.Cond.instantiable Cl kk).before a0 Z = true) (hty : parseFieldDescriptor d = some ty) (hn : narrow ty v = v') (hf : fits ty v' = true) (hset : fs.set j (O, f, d, v') = fs') (q : Pw W a)
    (g : ∀ h', Ob Z h' a Cl fs' → Keep h h' [a] → Go W Q h' k n pc' L S) : Go W Q h k n pc L (v :: .ref a :: S) := fun T hT => by
  obtain ⟨locs, X, e, N⟩ := hT
  subst hp hset
  obtain ⟨T', h', X', e', Wx, st⟩ := putFN X C.x C.z C.o w via e (F.get hj) F.1 (Lw.imp id fun z => ⟨z.1, z.2.1, C.nme.trans z.2.2⟩) wi hty hn hf (g := mkF W.m pc L (v :: .ref a :: S)) rfl rfl (C.b hd)
  refine Out.st st (g h' (F.put hj Wx) (Keep.of_wr Wx) T' ⟨_, X', e', fun y hy => ?_⟩)
  rcases List.mem_append.mp hy with z | z
  · exact N y z
  · cases List.mem_singleton.mp z; exact q
theorem g_new (C : Cx W Z R own code mx ret nm wsx hx0) {i nn : Nat} {Cl : String} (hd : decode code pc = .ok (.new i, 3)) (hp : pc + 3 = pc') (w : (Jvm.Cond.classLink own i Cl).before a0 Z = true) (wi : (Jvm.Cond.instantiable Cl nn).before a0 Z = true) (wz : (Jvm.Cond.initialized Cl).before a0 Z = true) {k' n' : Nat} (hk : k + 1 = k') (hn : n + nn = n') (hc : k' ≤ R.cells) (hs : n' ≤ R.slots)
    (g : ∀ (h' : Heap) (a : Addr), a = h.size → Ext h h' → Exa Z h' a Cl → (∀ {O f d : String} {ty : FieldType}, Laid Z a0 Cl O f d → parseFieldDescriptor d = some ty → Fld Z h' a O f d (defaultValue ty)) → Pw W a → Go W Q h' k' n' pc' L (.ref a :: S)) : Go W Q h k n pc L S := fun T hT => by
  obtain ⟨locs, X, e, N⟩ := hT
  subst hp hk hn
  obtain ⟨T', h', X', e', E, A, D, -, st⟩ := newO X C.x C.z C.o w wi wz e (g := mkF W.m pc L S) rfl (C.b hd) (by rw [C.r]; exact hc) (by rw [C.r]; exact hs)
  exact Out.st st (g h' h.size rfl E A D (pw_size C X e) T' ⟨locs, X', e', N⟩)
theorem def_list (ty : FieldType) (cA : ClassId) {z : Int32} {len : Nat} (hz : z.toInt = len) : (newA cA ty z).slots.toList = List.replicate len (defaultValue ty) := by
  show (Array.replicate z.toNatClampNeg (defaultValue ty)).toList = _
  rw [clamp_of hz, Array.toList_replicate]
theorem g_newarray (C : Cx W Z R own code mx ret nm wsx hx0) {aty : ArrayType} {ty : FieldType} {z : Int32} {len cap : Nat} (hd : decode code pc = .ok (.newarray aty, 2)) (hp : pc + 2 = pc') (hty : newarray.typeOf aty = ty) (w : (Jvm.Cond.arrayClass ty).before a0 Z = true) (hz : z.toInt = len) (hcap : len ≤ cap) (hb8 : cap * 8 ≤ 536870912) {k' n' : Nat} (hk : k + 1 = k') (hn : n + cap = n') (hc : k' ≤ R.cells) (hs : n' ≤ R.slots)
    (g : ∀ (h' : Heap) (a : Addr), a = h.size → Ext h h' → Ar Z h' a ty (List.replicate len (defaultValue ty)) → Pw W a → Go W Q h' k' n' pc' L (.ref a :: S)) : Go W Q h k n pc L (.int z :: S) := fun T hT => by
  obtain ⟨locs, X, e, N⟩ := hT
  subst hp hty hk hn
  obtain ⟨T', h', cA, X', e', E, A, st⟩ := newP X C.x C.z w e (g := mkF W.m pc L (.int z :: S)) rfl (C.b hd) rfl (nneg_of hz) (cap := cap) (by rw [clamp_of hz]; exact hcap) hb8 (by rw [C.r]; exact hc) (by rw [C.r]; exact hs)
  exact Out.st st (g h' h.size rfl E ⟨_, A, def_list _ _ hz⟩ (pw_size C X e) T' ⟨locs, X', e', N⟩)
theorem g_anewarray (C : Cx W Z R own code mx ret nm wsx hx0) {i : Nat} {Cl : String} {z : Int32} {len cap : Nat} (hd : decode code pc = .ok (.anewarray i, 3)) (hp : pc + 3 = pc') (w : (Jvm.Cond.classLink own i Cl).before a0 Z = true) (w2 : (Jvm.Cond.arrayOver (.object Cl)).before a0 Z = true) (hz : z.toInt = len) (hcap : len ≤ cap) (hb8 : cap * 8 ≤ 536870912) {k' n' : Nat} (hk : k + 1 = k') (hn : n + cap = n') (hc : k' ≤ R.cells) (hs : n' ≤ R.slots)
    (g : ∀ (h' : Heap) (a : Addr), a = h.size → Ext h h' → ArR Z h' a Cl (List.replicate len .null) → Pw W a → Go W Q h' k' n' pc' L (.ref a :: S)) : Go W Q h k n pc L (.int z :: S) := fun T hT => by
  obtain ⟨locs, X, e, N⟩ := hT
  subst hp hk hn
  obtain ⟨T', h', cA, X', e', E, A, O, st⟩ := newR X C.x C.z C.o w w2 e (g := mkF W.m pc L (.int z :: S)) rfl (C.b hd) rfl (nneg_of hz) (cap := cap) (by rw [clamp_of hz]; exact hcap) hb8 (by rw [C.r]; exact hc) (by rw [C.r]; exact hs)
  exact Out.st st (g h' h.size rfl E ⟨_, A, def_list _ _ hz, O⟩ (pw_size C X e) T' ⟨locs, X', e', N⟩)
theorem g_arraylength (C : Cx W Z R own code mx ret nm wsx hx0) {a : Addr} {ty : FieldType} {vs : List Value} {z : Int32} (hd : decode code pc = .ok (.arraylength, 1)) (hp : pc + 1 = pc') (A : Ar Z h a ty vs) (hz : vs.length.toInt32 = z) (g : Go W Q h k n pc' L (.int z :: S)) : Go W Q h k n pc L (.ref a :: S) := by
  subst hp hz
  obtain ⟨c, A, e⟩ := A
  rw [← e, Array.length_toList] at g
  exact g.st fun T locs X eT t kk => X.arraylength C.x (by rw [eT]; exact A.1) (State.isArrayOf_alike C.z.alike A.2.1) (g := mkF W.m pc L (.ref a :: S)) rfl rfl (C.b hd) t kk
theorem g_arraylengthR (C : Cx W Z R own code mx ret nm wsx hx0) {a : Addr} {Cl : String} {vs : List Value} {z : Int32} (hd : decode code pc = .ok (.arraylength, 1)) (hp : pc + 1 = pc') (A : ArR Z h a Cl vs) (hz : vs.length.toInt32 = z) (g : Go W Q h k n pc' L (.int z :: S)) : Go W Q h k n pc L (.ref a :: S) := by
  obtain ⟨c, A, e, -⟩ := A
  exact g_arraylength C hd hp ⟨c, A, e⟩ hz g

theorem g_iaload (C : Cx W Z R own code mx ret nm wsx hx0) {a : Addr} {vs : List Value} {v : Value} {j : Int32} {i : Nat} (hd : decode code pc = .ok (.iaload, 1)) (hp : pc + 1 = pc') (A : Ar Z h a .int vs) (hj : j.toInt = i) (hv : vs[i]? = some v) (g : Go W Q h k n pc' L (v :: S)) : Go W Q h k n pc L (.int j :: .ref a :: S) := by
  subst hp
  obtain ⟨c, A, e⟩ := A
  subst e
  have hi := (List.getElem?_eq_some_iff.mp hv).1
  exact g.st fun T locs X eT t kk => X.iaload C.x (by rw [eT]; exact A.1) (State.isArrayOf_alike C.z.alike A.2.1) A.2.2 (in_of hj hi) (by rw [clamp_of hj, ← Array.getElem?_toList]; exact hv) (g := mkF W.m pc L (.int j :: .ref a :: S)) rfl rfl (C.b hd) t kk
theorem g_laload (C : Cx W Z R own code mx ret nm wsx hx0) {a : Addr} {vs : List Value} {v : Value} {j : Int32} {i : Nat} (hd : decode code pc = .ok (.laload, 1)) (hp : pc + 1 = pc') (A : Ar Z h a .long vs) (hj : j.toInt = i) (hv : vs[i]? = some v) (g : Go W Q h k n pc' L (v :: S)) : Go W Q h k n pc L (.int j :: .ref a :: S) := by
  subst hp
  obtain ⟨c, A, e⟩ := A
  subst e
  have hi := (List.getElem?_eq_some_iff.mp hv).1
  exact g.st fun T locs X eT t kk => X.laload C.x (by rw [eT]; exact A.1) (State.isArrayOf_alike C.z.alike A.2.1) A.2.2 (in_of hj hi) (by rw [clamp_of hj, ← Array.getElem?_toList]; exact hv) (g := mkF W.m pc L (.int j :: .ref a :: S)) rfl rfl (C.b hd) t kk
theorem g_caload (C : Cx W Z R own code mx ret nm wsx hx0) {a : Addr} {vs : List Value} {v : Value} {j : Int32} {i : Nat} (hd : decode code pc = .ok (.caload, 1)) (hp : pc + 1 = pc') (A : Ar Z h a .char vs) (hj : j.toInt = i) (hv : vs[i]? = some v) (g : Go W Q h k n pc' L (v :: S)) : Go W Q h k n pc L (.int j :: .ref a :: S) := by
  subst hp
  obtain ⟨c, A, e⟩ := A
  subst e
  have hi := (List.getElem?_eq_some_iff.mp hv).1
  exact g.st fun T locs X eT t kk => X.caload C.x (by rw [eT]; exact A.1) (State.isArrayOf_alike C.z.alike A.2.1) A.2.2 (in_of hj hi) (by rw [clamp_of hj, ← Array.getElem?_toList]; exact hv) (g := mkF W.m pc L (.int j :: .ref a :: S)) rfl rfl (C.b hd) t kk
theorem g_baload (C : Cx W Z R own code mx ret nm wsx hx0) {a : Addr} {vs : List Value} {v : Value} {j : Int32} {i : Nat} (hd : decode code pc = .ok (.baload, 1)) (hp : pc + 1 = pc') (A : Ar Z h a .byte vs) (hj : j.toInt = i) (hv : vs[i]? = some v) (g : Go W Q h k n pc' L (v :: S)) : Go W Q h k n pc L (.int j :: .ref a :: S) := by
  subst hp
  obtain ⟨c, A, e⟩ := A
  subst e
  have hi := (List.getElem?_eq_some_iff.mp hv).1
  exact g.st fun T locs X eT t kk => X.baloadBytes C.x (by rw [eT]; exact A.1) (State.isArrayOf_alike C.z.alike A.2.1) A.2.2 (in_of hj hi) (by rw [clamp_of hj, ← Array.getElem?_toList]; exact hv) (g := mkF W.m pc L (.int j :: .ref a :: S)) rfl rfl (C.b hd) t kk
theorem g_zaload (C : Cx W Z R own code mx ret nm wsx hx0) {a : Addr} {vs : List Value} {v : Value} {j : Int32} {i : Nat} (hd : decode code pc = .ok (.baload, 1)) (hp : pc + 1 = pc') (A : Ar Z h a .boolean vs) (hj : j.toInt = i) (hv : vs[i]? = some v) (g : Go W Q h k n pc' L (v :: S)) : Go W Q h k n pc L (.int j :: .ref a :: S) := by
  subst hp
  obtain ⟨c, A, e⟩ := A
  subst e
  have hi := (List.getElem?_eq_some_iff.mp hv).1
  exact g.st fun T locs X eT t kk => X.baloadBooleans C.x (by rw [eT]; exact A.1) (State.isArrayOf_alike C.z.alike A.2.1) A.2.2 (in_of hj hi) (by rw [clamp_of hj, ← Array.getElem?_toList]; exact hv) (g := mkF W.m pc L (.int j :: .ref a :: S)) rfl rfl (C.b hd) t kk
theorem g_aaload (C : Cx W Z R own code mx ret nm wsx hx0) {a : Addr} {Cl : String} {vs : List Value} {v : Value} {j : Int32} {i : Nat} (hd : decode code pc = .ok (.aaload, 1)) (hp : pc + 1 = pc') (A : ArR Z h a Cl vs) (hj : j.toInt = i) (hv : vs[i]? = some v) (g : Go W Q h k n pc' L (v :: S)) : Go W Q h k n pc L (.int j :: .ref a :: S) := by
  subst hp
  obtain ⟨c, A, e, -⟩ := A
  subst e
  have hi := (List.getElem?_eq_some_iff.mp hv).1
  exact g.st fun T locs X eT t kk => X.aaload C.x (by rw [eT]; exact A.1) (State.isArrayOf_alike C.z.alike A.2.1) rfl A.2.2 (in_of hj hi) (by rw [clamp_of hj, ← Array.getElem?_toList]; exact hv) (g := mkF W.m pc L (.int j :: .ref a :: S)) rfl rfl (C.b hd) t kk
theorem g_iastore (C : Cx W Z R own code mx ret nm wsx hx0) {a : Addr} {vs vs' : List Value} {x : Int32} {j : Int32} {i : Nat} (hd : decode code pc = .ok (.iastore, 1)) (hp : pc + 1 = pc') (A : Ar Z h a .int vs) (hj : j.toInt = i) (hi : i < vs.length) (hset : vs.set i (.int x) = vs') (q : Pw W a) (g : ∀ h', Ar Z h' a .int vs' → Keep h h' [a] → Go W Q h' k n pc' L S) : Go W Q h k n pc L (.int x :: .int j :: .ref a :: S) := fun T hT => by
  obtain ⟨locs, X, e, N⟩ := hT
  subst hp hset
  obtain ⟨c, A, ec⟩ := A
  obtain ⟨T', h', X', e', Wx, st⟩ := stI X C.x C.z e A (in_of hj (ec ▸ hi)) (g := mkF W.m pc L (.int x :: .int j :: .ref a :: S)) rfl rfl (C.b hd)
  refine Out.st st (g h' (Ar.put A ec hj Wx) (Keep.of_wr Wx) T' ⟨_, X', e', fun y hy => ?_⟩)
  rcases List.mem_append.mp hy with z | z
  · exact N y z
  · cases List.mem_singleton.mp z; exact q
theorem g_lastore (C : Cx W Z R own code mx ret nm wsx hx0) {a : Addr} {vs vs' : List Value} {x : Int64} {j : Int32} {i : Nat} (hd : decode code pc = .ok (.lastore, 1)) (hp : pc + 1 = pc') (A : Ar Z h a .long vs) (hj : j.toInt = i) (hi : i < vs.length) (hset : vs.set i (.long x) = vs') (q : Pw W a) (g : ∀ h', Ar Z h' a .long vs' → Keep h h' [a] → Go W Q h' k n pc' L S) : Go W Q h k n pc L (.long x :: .int j :: .ref a :: S) := fun T hT => by
  obtain ⟨locs, X, e, N⟩ := hT
  subst hp hset
  obtain ⟨c, A, ec⟩ := A
  obtain ⟨T', h', X', e', Wx, st⟩ := stJ X C.x C.z e A (in_of hj (ec ▸ hi)) (g := mkF W.m pc L (.long x :: .int j :: .ref a :: S)) rfl rfl (C.b hd)
  refine Out.st st (g h' (Ar.put A ec hj Wx) (Keep.of_wr Wx) T' ⟨_, X', e', fun y hy => ?_⟩)
  rcases List.mem_append.mp hy with z | z
  · exact N y z
  · cases List.mem_singleton.mp z; exact q
theorem g_castore (C : Cx W Z R own code mx ret nm wsx hx0) {a : Addr} {vs vs' : List Value} {x : Int32} {j : Int32} {i : Nat} (hd : decode code pc = .ok (.castore, 1)) (hp : pc + 1 = pc') (A : Ar Z h a .char vs) (hj : j.toInt = i) (hi : i < vs.length) (hset : vs.set i (.int (nar .char x)) = vs') (q : Pw W a) (g : ∀ h', Ar Z h' a .char vs' → Keep h h' [a] → Go W Q h' k n pc' L S) : Go W Q h k n pc L (.int x :: .int j :: .ref a :: S) := fun T hT => by
  obtain ⟨locs, X, e, N⟩ := hT
  subst hp hset
  obtain ⟨c, A, ec⟩ := A
  obtain ⟨T', h', X', e', Wx, st⟩ := stC X C.x C.z e A (in_of hj (ec ▸ hi)) (g := mkF W.m pc L (.int x :: .int j :: .ref a :: S)) rfl rfl (C.b hd)
  refine Out.st st (g h' (Ar.put A ec hj Wx) (Keep.of_wr Wx) T' ⟨_, X', e', fun y hy => ?_⟩)
  rcases List.mem_append.mp hy with z | z
  · exact N y z
  · cases List.mem_singleton.mp z; exact q
theorem g_bastore (C : Cx W Z R own code mx ret nm wsx hx0) {a : Addr} {vs vs' : List Value} {x : Int32} {j : Int32} {i : Nat} (hd : decode code pc = .ok (.bastore, 1)) (hp : pc + 1 = pc') (A : Ar Z h a .byte vs) (hj : j.toInt = i) (hi : i < vs.length) (hset : vs.set i (.int (nar .byte x)) = vs') (q : Pw W a) (g : ∀ h', Ar Z h' a .byte vs' → Keep h h' [a] → Go W Q h' k n pc' L S) : Go W Q h k n pc L (.int x :: .int j :: .ref a :: S) := fun T hT => by
  obtain ⟨locs, X, e, N⟩ := hT
  subst hp hset
  obtain ⟨c, A, ec⟩ := A
  obtain ⟨T', h', X', e', Wx, st⟩ := stB X C.x C.z e A (in_of hj (ec ▸ hi)) (g := mkF W.m pc L (.int x :: .int j :: .ref a :: S)) rfl rfl (C.b hd)
  refine Out.st st (g h' (Ar.put A ec hj Wx) (Keep.of_wr Wx) T' ⟨_, X', e', fun y hy => ?_⟩)
  rcases List.mem_append.mp hy with z | z
  · exact N y z
  · cases List.mem_singleton.mp z; exact q
theorem g_zastore (C : Cx W Z R own code mx ret nm wsx hx0) {a : Addr} {vs vs' : List Value} {x : Int32} {j : Int32} {i : Nat} (hd : decode code pc = .ok (.bastore, 1)) (hp : pc + 1 = pc') (A : Ar Z h a .boolean vs) (hj : j.toInt = i) (hi : i < vs.length) (hset : vs.set i (.int (nar .boolean x)) = vs') (q : Pw W a) (g : ∀ h', Ar Z h' a .boolean vs' → Keep h h' [a] → Go W Q h' k n pc' L S) : Go W Q h k n pc L (.int x :: .int j :: .ref a :: S) := fun T hT => by
  obtain ⟨locs, X, e, N⟩ := hT
  subst hp hset
  obtain ⟨c, A, ec⟩ := A
  obtain ⟨T', h', X', e', Wx, st⟩ := stZ X C.x C.z e A (in_of hj (ec ▸ hi)) (g := mkF W.m pc L (.int x :: .int j :: .ref a :: S)) rfl rfl (C.b hd)
  refine Out.st st (g h' (Ar.put A ec hj Wx) (Keep.of_wr Wx) T' ⟨_, X', e', fun y hy => ?_⟩)
  rcases List.mem_append.mp hy with z | z
  · exact N y z
  · cases List.mem_singleton.mp z; exact q
theorem ArR.put {Z : State} {h h' : Heap} {a : Addr} {Cl : String} {vs : List Value} {v : Value} {c : Cell} (A : Arr Z h a c (.object Cl)) (e : c.slots.toList = vs) (O : Ovr Z c.cls Cl) {j : Int32} {i : Nat} (hj : j.toInt = i) (W : Wr h h' a j.toNatClampNeg v) : ArR Z h' a Cl (vs.set i v) := by
  refine ⟨_, A.same W, ?_, O⟩
  rw [clamp_of hj, set_toList, e]
theorem g_aastore (C : Cx W Z R own code mx ret nm wsx hx0) {a : Addr} {Cl : String} {vs vs' : List Value} {v : Value} {j : Int32} {i : Nat} (hd : decode code pc = .ok (.aastore, 1)) (hp : pc + 1 = pc') (A : ArR Z h a Cl vs) (hj : j.toInt = i) (hi : i < vs.length) (hset : vs.set i v = vs') (hv : v = .null ∨ ∃ y, v = .ref y ∧ Exa Z h y Cl) (q : Pw W a) (g : ∀ h', ArR Z h' a Cl vs' → Keep h h' [a] → Go W Q h' k n pc' L S) : Go W Q h k n pc L (v :: .int j :: .ref a :: S) := fun T hT => by
  obtain ⟨locs, X, e, N⟩ := hT
  subst hp hset
  obtain ⟨c, A, ec, O⟩ := A
  have F : Sto Z h a v := by
    rcases hv with rfl | ⟨y, rfl, E⟩
    · exact Or.inl rfl
    · exact Sto.of A O (Ins.self E)
  obtain ⟨T', h', X', e', Wx, st⟩ := stR X C.x C.z e A (in_of hj (ec ▸ hi)) rfl F (g := mkF W.m pc L (v :: .int j :: .ref a :: S)) rfl rfl (C.b hd)
  refine Out.st st (g h' (ArR.put A ec O hj Wx) (Keep.of_wr Wx) T' ⟨_, X', e', fun y hy => ?_⟩)
  rcases List.mem_append.mp hy with z | z
  · exact N y z
  · cases List.mem_singleton.mp z; exact q
/-! returns -/
theorem g_end (C : Cx W Z R own code mx ret nm wsx hx0) {v : Option Value} (hv : ret = none → v = none) (hc : k ≤ R.cells) (hs : n ≤ R.slots) (q : Q v h)
    (st : ∀ T locs, Sta0 W T locs k n → ∀ fs, (∀ (f : JFrame) (acts : List Action), f.method = W.m → f.locked = none → f.entered = [] → (doReturn W.e (T.setTop f) acts v).1 = T.setFrames fs) → Stp W (T.setTop (mkF W.m pc L S)) (T.setFrames fs)) : Go W Q h k n pc L S := fun T hT => by
  obtain ⟨locs, X, e, N⟩ := hT
  obtain ⟨fs, hr, hrun, hended, hW, hsame⟩ := X.leave (v := v) (fun z => hv (C.rt ▸ z)) C.lk
  refine ⟨_, _, st T locs X fs hr, hrun, hended, v, locs, rfl, ⟨?_, N⟩, ⟨_, rfl⟩, hW, hsame.mono (by rw [C.r]; exact hc) (by rw [C.r]; exact hs)⟩
  show Q v T.heap
  rw [e]; exact q
theorem g_return (C : Cx W Z R own code mx none nm wsx hx0) (hd : decode code pc = .ok (.return_, 1)) (hc : k ≤ R.cells) (hs : n ≤ R.slots) (q : Q none h) : Go W Q h k n pc L [] :=
  g_end C (fun _ => rfl) hc hs q fun T locs X fs hr => X.returnOut C.x C.rt (C.b hd) hr
theorem g_retN {ty0 : FieldType} (C : Cx W Z R own code mx (some ty0) nm wsx hx0) {z : Int32} (ht : ty0 = .boolean ∨ ty0 = .byte ∨ ty0 = .char ∨ ty0 = .short) (hd : decode code pc = .ok (.ireturn, 1)) (hc : k ≤ R.cells) (hs : n ≤ R.slots) (q : Q (some (.int (nar ty0 z))) h) : Go W Q h k n pc L (.int z :: S) :=
  g_end C nofun hc hs q fun T locs X fs hr => retN X C.x C.rt ht (C.b hd) hr
theorem g_retI (C : Cx W Z R own code mx (some .int) nm wsx hx0) {z : Int32} (hd : decode code pc = .ok (.ireturn, 1)) (hc : k ≤ R.cells) (hs : n ≤ R.slots) (q : Q (some (.int z)) h) : Go W Q h k n pc L (.int z :: S) :=
  g_end C nofun hc hs q fun T locs X fs hr => retOut X C.x C.rt rfl (Or.inl ⟨rfl, Or.inl rfl, z, rfl⟩) (C.b hd) hr
theorem g_retL (C : Cx W Z R own code mx (some .long) nm wsx hx0) {z : Int64} (hd : decode code pc = .ok (.lreturn, 1)) (hc : k ≤ R.cells) (hs : n ≤ R.slots) (q : Q (some (.long z)) h) : Go W Q h k n pc L (.long z :: S) :=
  g_end C nofun hc hs q fun T locs X fs hr => retOut X C.x C.rt rfl (Or.inr (Or.inl ⟨rfl, rfl, z, rfl⟩)) (C.b hd) hr
theorem g_retA {ty0 : FieldType} (C : Cx W Z R own code mx (some ty0) nm wsx hx0) {v : Value} (ht : ty0.isReference = true) (hn : narrow ty0 v = v) (hv : v.isRef = true) (hd : decode code pc = .ok (.areturn, 1)) (hc : k ≤ R.cells) (hs : n ≤ R.slots) (q : Q (some v) h) : Go W Q h k n pc L (v :: S) :=
  g_end C nofun hc hs q fun T locs X fs hr => retOut X C.x C.rt hn (Or.inr (Or.inr (Or.inr (Or.inr ⟨rfl, ht, hv⟩)))) (C.b hd) hr
/-! calls -/
theorem g_initO (C : Cx W Z R own code mx ret nm wsx hx0) {i : Nat} {a : Addr} (hd : decode code pc = .ok (.invokespecial i, 3)) (hp : pc + 3 = pc') (w1 : (Jvm.Cond.methodLink own i Lib.objectInit).before a0 Z = true) (w2 : (Jvm.Cond.instanceMethod Lib.objectInit).before a0 Z = true) (w3 : (Jvm.Cond.code Lib.objectInit Jvm.Pilot.@@N@@.object_method_1_code 1 none).before a0 Z = true) (hL : L.size = mx) (hf : 1 ≤ R.frames) (hl : (S.map fun v => v.category).sum + 12 ≤ R.locals) (g : Go W Q h k n pc' L S) : Go W Q h k n pc L (.ref a :: S) := fun T hT => by
  obtain ⟨locs, X, e, N⟩ := hT
  subst hp
  obtain ⟨T', X', e', st⟩ := initO X C.x C.z C.o w1 w2 w3 e (g := mkF W.m pc L (.ref a :: S)) rfl (by rw [C.ml]; exact hL) rfl (C.b hd) (by rw [C.r]; exact hf) (W := (S.map fun v => v.category).sum) (by show 2 * 0 + _ ≤ _; omega) (by rw [C.r]; exact hl)
  exact Out.st st (g T' ⟨locs, X', e', N⟩)
theorem post_call {T T' : State} {locs L' : List Loc} {k' n' : Nat} {ws : List Addr} (X : Sta0 W T locs k n) (e : T.heap = h) (N : ∀ y ∈ locs, Pw W y.base) (hws : ∀ a ∈ ws, Pw W a) (hL : ∀ y ∈ L', y.base ∈ ws ∨ h.size ≤ y.base) : ∀ y ∈ locs ++ L', Pw W y.base := fun y hy => by
  rcases List.mem_append.mp hy with z | z
  · exact N y z
  · rcases hL y z with q | q
    · exact hws _ q
    · have r : W.s.heap.size ≤ T.heap.size := X.same.2.1
      rw [e] at r
      exact Or.inr (Nat.le_trans r q)
/-- the contract, with what it keeps -/
theorem Con.keeps {l : Launch} {w0 : List Jvm.Cond} {y : MethodName} {bytes : ByteArray} {ret' : Option FieldType} {rm : Room} {as : Array Value} {ws : List Addr} {Q' : Option Value → Heap → Prop} {mx' : Nat} (M : Con l Z w0 y bytes mx' ret' rm as h ws Q') :
    MetFree l y (head1 (Jvm.Cond.code y bytes mx' ret' :: w0) rm) (fun a U => a = as ∧ Z.Warmed39 U.vm ∧ U.heap = h) (fun _ _ _ _ _ => True)
      (fun _ U o U' => ∃ v L, o = .returned v ∧ (Q' v U'.heap ∧ (∀ y ∈ L, y.base ∈ ws ∨ h.size ≤ y.base) ∧ Keep h U'.heap ws) ∧ FrameEnd U o U' L rm.cells rm.slots) := by
  intro p e ha hc hk s m args below hf happ hP hK
  obtain ⟨nn, o, h1, h2, h3, v, L, rfl, ⟨hq, hL⟩, hF⟩ := M p e ha hc hk s m args below hf happ hP hK
  refine ⟨nn, _, h1, h2, h3, v, L, rfl, ⟨hq, hL, ?_⟩, hF⟩
  obtain ⟨rfl, -, rfl⟩ := hP
  have K := keep_of_same hF.2.2 hL
  exact K
theorem g_static (C : Cx W Z R own code mx ret nm wsx hx0) {i : Nat} {y : MethodName} {bytes : ByteArray} {mx' : Nat} {ret' : Option FieldType} {rm : Room} {as : List Value} {ws : List Addr} {Q' : Option Value → Heap → Prop} {S0 : List Value} (hd : decode code pc = .ok (.invokestatic i, 3)) (hp : pc + 3 = pc')
    (w1 : (Jvm.Cond.methodLink own i y).before a0 Z = true) (w2 : (Jvm.Cond.static y).before a0 Z = true) (w3 : (Jvm.Cond.initialized y.cls).before a0 Z = true) (w4 : (Jvm.Cond.code y bytes mx' ret').before a0 Z = true) (hy : y.cls ≠ "java/lang/invoke/MethodHandle" ∧ y.cls ≠ "java/lang/invoke/VarHandle")
    (hlen : ∀ sig, parseMethodDescriptor y.desc = some sig → as.length = sig.parameters.length) (M : Con W.l Z [] y bytes mx' ret' rm as.toArray h ws Q') (hS : S0 = as.reverse ++ S) (hL : L.size = mx) (hf : rm.frames + 1 ≤ R.frames) (hl : (S.map fun v => v.category).sum + (mx' + 11) + rm.locals ≤ R.locals) {k' n' : Nat} (hk : k + rm.cells = k') (hn : n + rm.slots = n') (hc : k' ≤ R.cells) (hs : n' ≤ R.slots) (hws : ∀ a ∈ ws, Pw W a)
    (g : ∀ v h', Q' v h' → Keep h h' ws → Go W Q h' k' n' pc' L (v.toList ++ S)) : Go W Q h k n pc L S0 := fun T hT => by
  obtain ⟨locs, X, e, N⟩ := hT
  subst hp hS hk hn
  obtain ⟨v, _, ⟨T', L1, k1, n1⟩, -, X', ⟨L2, ⟨hQ, hL2, hK⟩, l1, y1, z1⟩, st⟩ := Jvm.LawKit.callS X C.x (y := y) C.o (mvT C.z w1) (mvT C.z w2) (mvT C.z w3) (mvT C.z w4) hy (backOf (R := W.R) (W := (S.map fun v => v.category).sum) (Q := fun v h' L => Q' v h' ∧ (∀ y ∈ L, y.base ∈ ws ∨ h.size ≤ y.base) ∧ Keep h h' ws) M.keeps C.z w4 w3 (by rw [C.r]; exact hf) (by rw [C.r]; exact hl)) (g := mkF W.m pc L (as.reverse ++ S)) rfl (by rw [C.ml]; exact hL) (argsL := as) (rest := S) hlen rfl (by show 2 * 0 + _ ≤ _; omega) (C.b hd) (fun _ _ => ⟨rfl, e, by rw [C.r]; exact hc, by rw [C.r]; exact hs⟩)
  dsimp only [Pt.U, Pt.locs, Pt.cells, Pt.slots] at X' l1 y1 z1 st hQ hK
  subst l1 y1 z1
  exact Out.st st (g v T'.heap hQ hK T' ⟨_, X', rfl, post_call (T' := T') (k' := 0) (n' := 0) X e N hws hL2⟩)
theorem g_special (C : Cx W Z R own code mx ret nm wsx hx0) {i : Nat} {y : MethodName} {bytes : ByteArray} {mx' : Nat} {rm : Room} {as : List Value} {ws : List Addr} {Q' : Option Value → Heap → Prop} {S0 : List Value} {a : Addr} (hd : decode code pc = .ok (.invokespecial i, 3)) (hp : pc + 3 = pc') (hy1 : y.name = "<init>")
    (w1 : (Jvm.Cond.methodLink own i y).before a0 Z = true) (w2 : (Jvm.Cond.instanceMethod y).before a0 Z = true) (w3 : (Jvm.Cond.initialized y.cls).before a0 Z = true) (w4 : (Jvm.Cond.code y bytes mx' none).before a0 Z = true) (hy : y.cls ≠ "java/lang/invoke/MethodHandle" ∧ y.cls ≠ "java/lang/invoke/VarHandle")
    (hlen : ∀ sig, parseMethodDescriptor y.desc = some sig → as.length = sig.parameters.length) (M : Con W.l Z [] y bytes mx' none rm (.ref a :: as).toArray h ws Q') (hS : S0 = as.reverse ++ .ref a :: S) (hL : L.size = mx) (hf : rm.frames + 1 ≤ R.frames) (hl : (S.map fun v => v.category).sum + (mx' + 11) + rm.locals ≤ R.locals) {k' n' : Nat} (hk : k + rm.cells = k') (hn : n + rm.slots = n') (hc : k' ≤ R.cells) (hs : n' ≤ R.slots) (hws : ∀ a ∈ ws, Pw W a)
    (g : ∀ v h', Q' v h' → Keep h h' ws → Go W Q h' k' n' pc' L (v.toList ++ S)) : Go W Q h k n pc L S0 := fun T hT => by
  obtain ⟨locs, X, e, N⟩ := hT
  subst hp hS hk hn
  obtain ⟨v, _, ⟨T', L1, k1, n1⟩, -, X', ⟨L2, ⟨hQ, hL2, hK⟩, l1, y1, z1⟩, st⟩ := X.specialBack C.x (y := y) hy1 C.o (mvT C.z w1) (mvT C.z w2) (mvT C.z w4) hy (backOf (R := W.R) (W := (S.map fun v => v.category).sum) (Q := fun v h' L => Q' v h' ∧ (∀ y ∈ L, y.base ∈ ws ∨ h.size ≤ y.base) ∧ Keep h h' ws) M.keeps C.z w4 w3 (by rw [C.r]; exact hf) (by rw [C.r]; exact hl)) (g := mkF W.m pc L (as.reverse ++ .ref a :: S)) rfl (by rw [C.ml]; exact hL) (Steps.refl _) (a := a) (argsL := as) (rest := S) hlen rfl (by show 2 * 0 + _ ≤ _; omega) (C.b hd) (fun _ _ => ⟨rfl, e, by rw [C.r]; exact hc, by rw [C.r]; exact hs⟩)
  dsimp only [Pt.U, Pt.locs, Pt.cells, Pt.slots] at X' l1 y1 z1 st hQ hK
  subst l1 y1 z1
  exact Out.st (fun t z => st.trans z) (g v T'.heap hQ hK T' ⟨_, X', rfl, post_call (T' := T') (k' := 0) (n' := 0) X e N hws hL2⟩)
theorem g_virtual (C : Cx W Z R own code mx ret nm wsx hx0) {i : Nat} {y : MethodName} {bytes : ByteArray} {mx' : Nat} {ret' : Option FieldType} {rm : Room} {as : List Value} {ws : List Addr} {Q' : Option Value → Heap → Prop} {S0 : List Value} {a : Addr} {Cl : String} (hd : decode code pc = .ok (.invokevirtual i, 3)) (hp : pc + 3 = pc')
    (w1 : (Jvm.Cond.methodLink own i y).before a0 Z = true) (w2 : (Jvm.Cond.instanceMethod y).before a0 Z = true) (w3 : (Jvm.Cond.initialized y.cls).before a0 Z = true) (w4 : (Jvm.Cond.code y bytes mx' ret').before a0 Z = true) (w5 : (Jvm.Cond.declares y).before a0 Z = true) (w6 : (Jvm.Cond.selects Cl y y).before a0 Z = true) (hy : y.cls ≠ "java/lang/invoke/MethodHandle" ∧ y.cls ≠ "java/lang/invoke/VarHandle") (hE : Exa Z h a Cl)
    (hlen : ∀ sig, parseMethodDescriptor y.desc = some sig → as.length = sig.parameters.length) (M : Con W.l Z [] y bytes mx' ret' rm (.ref a :: as).toArray h ws Q') (hS : S0 = as.reverse ++ .ref a :: S) (hL : L.size = mx) (hf : rm.frames + 1 ≤ R.frames) (hl : (S.map fun v => v.category).sum + (mx' + 11) + rm.locals ≤ R.locals) {k' n' : Nat} (hk : k + rm.cells = k') (hn : n + rm.slots = n') (hc : k' ≤ R.cells) (hs : n' ≤ R.slots) (hws : ∀ a ∈ ws, Pw W a)
    (g : ∀ v h', Q' v h' → Keep h h' ws → Go W Q h' k' n' pc' L (v.toList ++ S)) : Go W Q h k n pc L S0 := fun T hT => by
  obtain ⟨locs, X, e, N⟩ := hT
  subst hp hS hk hn
  obtain ⟨cq, kq, qa, qb, qc⟩ := isOf C.z e hE
  obtain ⟨v, _, ⟨T', L1, k1, n1⟩, -, X', ⟨L2, ⟨hQ, hL2, hK⟩, l1, y1, z1⟩, st⟩ := X.virtualBack C.x (y := y) (z := y) C.o (mvT C.z w1) (mvT C.z w5) (notFace_of_selects (args := #[]) (mvT C.z w6)) (mvT C.z w6) (mvT C.z w2) hy (backOf (R := W.R) (W := (S.map fun v => v.category).sum) (Q := fun v h' L => Q' v h' ∧ (∀ y ∈ L, y.base ∈ ws ∨ h.size ≤ y.base) ∧ Keep h h' ws) M.keeps C.z w4 w3 (by rw [C.r]; exact hf) (by rw [C.r]; exact hl)) qa qc (g := mkF W.m pc L (as.reverse ++ .ref a :: S)) rfl (by rw [C.ml]; exact hL) (Steps.refl _) (argsL := as) (rest := S) hlen rfl (by show 2 * 0 + _ ≤ _; omega) (C.b hd) (fun _ _ => ⟨rfl, e, by rw [C.r]; exact hc, by rw [C.r]; exact hs⟩)
  dsimp only [Pt.U, Pt.locs, Pt.cells, Pt.slots] at X' l1 y1 z1 st hQ hK
  subst l1 y1 z1
  exact Out.st (fun t z => st.trans z) (g v T'.heap hQ hK T' ⟨_, X', rfl, post_call (T' := T') (k' := 0) (n' := 0) X e N hws hL2⟩)
theorem g_staticP (C : Cx W Z R own code mx ret nm wsx hx0) {i : Nat} {y : MethodName} {bytes : ByteArray} {mx' : Nat} {ret' : Option FieldType} {rm : Room} {as : List Value} {r : Option Value} {S0 S1 : List Value} (hd : decode code pc = .ok (.invokestatic i, 3)) (hp : pc + 3 = pc')
    (w1 : (Jvm.Cond.methodLink own i y).before a0 Z = true) (w2 : (Jvm.Cond.static y).before a0 Z = true) (w3 : (Jvm.Cond.initialized y.cls).before a0 Z = true) (w4 : (Jvm.Cond.code y bytes mx' ret').before a0 Z = true) (hy : y.cls ≠ "java/lang/invoke/MethodHandle" ∧ y.cls ≠ "java/lang/invoke/VarHandle")
    (hlen : ∀ sig, parseMethodDescriptor y.desc = some sig → as.length = sig.parameters.length) (M : Con W.l Z [] y bytes mx' ret' rm as.toArray h [] (fun v h' => v = r ∧ h' = h)) (hS : S0 = as.reverse ++ S) (hL : L.size = mx) (hf : rm.frames + 1 ≤ R.frames) (hl : (S.map fun v => v.category).sum + (mx' + 11) + rm.locals ≤ R.locals) {k' n' : Nat} (hk : k + rm.cells = k') (hn : n + rm.slots = n') (hc : k' ≤ R.cells) (hs : n' ≤ R.slots) (hS1 : r.toList ++ S = S1)
    (g : Go W Q h k' n' pc' L S1) : Go W Q h k n pc L S0 :=
  g_static C hd hp w1 w2 w3 w4 hy hlen M hS hL hf hl hk hn hc hs all0 fun v h' q K => by
    obtain ⟨rfl, rfl⟩ := q
    rw [hS1]; exact g
theorem g_virtualP (C : Cx W Z R own code mx ret nm wsx hx0) {i : Nat} {y : MethodName} {bytes : ByteArray} {mx' : Nat} {ret' : Option FieldType} {rm : Room} {as : List Value} {r : Option Value} {S0 S1 : List Value} {a : Addr} {Cl : String} (hd : decode code pc = .ok (.invokevirtual i, 3)) (hp : pc + 3 = pc')
    (w1 : (Jvm.Cond.methodLink own i y).before a0 Z = true) (w2 : (Jvm.Cond.instanceMethod y).before a0 Z = true) (w3 : (Jvm.Cond.initialized y.cls).before a0 Z = true) (w4 : (Jvm.Cond.code y bytes mx' ret').before a0 Z = true) (w5 : (Jvm.Cond.declares y).before a0 Z = true) (w6 : (Jvm.Cond.selects Cl y y).before a0 Z = true) (hy : y.cls ≠ "java/lang/invoke/MethodHandle" ∧ y.cls ≠ "java/lang/invoke/VarHandle") (hE : Exa Z h a Cl)
    (hlen : ∀ sig, parseMethodDescriptor y.desc = some sig → as.length = sig.parameters.length) (M : Con W.l Z [] y bytes mx' ret' rm (.ref a :: as).toArray h [] (fun v h' => v = r ∧ h' = h)) (hS : S0 = as.reverse ++ .ref a :: S) (hL : L.size = mx) (hf : rm.frames + 1 ≤ R.frames) (hl : (S.map fun v => v.category).sum + (mx' + 11) + rm.locals ≤ R.locals) {k' n' : Nat} (hk : k + rm.cells = k') (hn : n + rm.slots = n') (hc : k' ≤ R.cells) (hs : n' ≤ R.slots) (hS1 : r.toList ++ S = S1)
    (g : Go W Q h k' n' pc' L S1) : Go W Q h k n pc L S0 :=
  g_virtual C hd hp w1 w2 w3 w4 w5 w6 hy hE hlen M hS hL hf hl hk hn hc hs all0 fun v h' q K => by
    obtain ⟨rfl, rfl⟩ := q
    rw [hS1]; exact g
theorem g_nameI {x : Int32} (g : ∀ z : Int32, z = x → Go W Q h k n pc L (.int z :: S)) : Go W Q h k n pc L (.int x :: S) := g x rfl
theorem g_nameJ {x : Int64} (g : ∀ z : Int64, z = x → Go W Q h k n pc L (.long z :: S)) : Go W Q h k n pc L (.long x :: S) := g x rfl
/-! a body's contract out of its walk -/
theorem locals_of {as : List Value} {mx0 : Nat} {Ls : List Slot} (h : (as.flatMap fun v => if v.category = 2 then [.val v, .second] else [.val v]) ++ List.replicate (mx0 - (as.flatMap fun v => if v.category = 2 then [.val v, .second] else [Slot.val v]).length) .unset = Ls) : argsToLocals as.toArray mx0 = Ls.toArray := by
  have e : ∀ (l : List Value) (acc : Array Slot), (l.foldl (fun acc v => if v.category = 2 then (acc.push (.val v)).push .second else acc.push (.val v)) acc) = acc ++ (l.flatMap fun v => if v.category = 2 then [.val v, .second] else [Slot.val v]).toArray := by
    intro l
    induction l with
    | nil => intro acc; simp
    | cons v l ih =>
      intro acc
      rw [List.foldl_cons, ih, List.flatMap_cons]
      split <;> simp
  subst h
  simp only [argsToLocals, List.foldl_toArray', e]
  simp
theorem Con.of_go {l : Launch} {w0 : List Jvm.Cond} {y : MethodName} {bytes : ByteArray} {ret' : Option FieldType} {rm : Room} {as : Array Value} {ws : List Addr} {Q' : Option Value → Heap → Prop} {mx' : Nat} {L0 : Array Slot} (hpl : plainFor y = true) (hL : argsToLocals as mx' = L0)
    (body : ∀ (W : Wk) (Q : Option Value → Heap → Prop), Q = Q' → W.l = l → Cx W Z rm y.cls bytes mx' ret' y.name ws h → Go W Q h 0 0 0 L0 []) : Con l Z w0 y bytes mx' ret' rm as h ws Q' := by
  refine MetFree.of_bodySF hpl hisR ?_
  intro p e s m args below meth c s₁ Bd hml0 hP hK
  obtain ⟨rfl, hZ, rfl⟩ := hP
  subst hL
  have X0 : Stand p l e rm s m args below meth c s₁ [] 0 0 := Stand.of_body Bd
  have e0 : s₁.heap = s.heap := by rw [Bd.state]; rfl
  obtain ⟨s2, o, h1, h2, h3, v, L, h4, ⟨h5, h6⟩, h7⟩ := body (p, l, e, rm, s, m, args, below, meth, c, ws) _ rfl rfl ⟨Bd.exec, hZ, findClass_of_methodNamed Bd.named, Bd.bytes, hml0, Bd.returns, Bd.notSynchronized, (name_of_methodNamed Bd.named Bd.method).1, rfl, rfl, rfl⟩ s₁ ⟨[], X0, e0, fun _ q => nomatch q⟩
  exact ⟨s2, o, h1, h2, h3, v, L, h4, ⟨h5, h6⟩, h7⟩
end Steps0
end Jvm.OwnKit
namespace Jvm.Pilot.@@N@@
open Jvm Jvm.ClassFile Sem Op Lib Jvm.Free Jvm.Stand Jvm.LawKit Jvm.RoadKit Jvm.OwnKit Bundle Jvm.Pilot.@@N@@.Jvm.D
theorem pd_0 : parseMethodDescriptor "()V" = some ⟨[], none⟩ := by decide +kernel
theorem pd_1 : parseMethodDescriptor "()Lcom/example/slot512/slot512/Link;" = some ⟨[], some (.object "com/example/slot512/slot512/Link")⟩ := by decide +kernel
theorem pd_2 : parseMethodDescriptor "(Lcom/example/slot512/slot512/Link;)V" = some ⟨[(.object "com/example/slot512/slot512/Link")], none⟩ := by decide +kernel
theorem pd_3 : parseMethodDescriptor "([Lcom/example/slot512/slot512/Link;II)Z" = some ⟨[(.array (.object "com/example/slot512/slot512/Link")), .int, .int], some .boolean⟩ := by decide +kernel
theorem pd_4 : parseMethodDescriptor "()Z" = some ⟨[], some .boolean⟩ := by decide +kernel
theorem d1_0 : decode prog_3_method_2_code 0 = .ok (.new 7, 3) := by decide +kernel
theorem d1_3 : decode prog_3_method_2_code 3 = .ok (.dup, 1) := by decide +kernel
theorem d1_4 : decode prog_3_method_2_code 4 = .ok (.invokespecial 9, 3) := by decide +kernel
theorem d1_7 : decode prog_3_method_2_code 7 = .ok (.astore_n 0, 1) := by decide +kernel
theorem d1_8 : decode prog_3_method_2_code 8 = .ok (.aload_n 0, 1) := by decide +kernel
theorem d1_9 : decode prog_3_method_2_code 9 = .ok (.aload_n 0, 1) := by decide +kernel
theorem d1_10 : decode prog_3_method_2_code 10 = .ok (.putfield 10, 3) := by decide +kernel
theorem d1_13 : decode prog_3_method_2_code 13 = .ok (.aload_n 0, 1) := by decide +kernel
theorem d1_14 : decode prog_3_method_2_code 14 = .ok (.aload_n 0, 1) := by decide +kernel
theorem d1_15 : decode prog_3_method_2_code 15 = .ok (.putfield 14, 3) := by decide +kernel
theorem d1_18 : decode prog_3_method_2_code 18 = .ok (.aload_n 0, 1) := by decide +kernel
theorem d1_19 : decode prog_3_method_2_code 19 = .ok (.areturn, 1) := by decide +kernel
theorem d2_0 : decode prog_3_method_1_code 0 = .ok (.aload_n 0, 1) := by decide +kernel
theorem d2_1 : decode prog_3_method_1_code 1 = .ok (.invokespecial 1, 3) := by decide +kernel
theorem d2_4 : decode prog_3_method_1_code 4 = .ok (.return_, 1) := by decide +kernel
theorem d4_0 : decode prog_3_method_4_code 0 = .ok (.aload_n 1, 1) := by decide +kernel
theorem d4_1 : decode prog_3_method_4_code 1 = .ok (.getfield 10, 3) := by decide +kernel
theorem d4_4 : decode prog_3_method_4_code 4 = .ok (.astore_n 2, 1) := by decide +kernel
theorem d4_5 : decode prog_3_method_4_code 5 = .ok (.aload_n 0, 1) := by decide +kernel
theorem d4_6 : decode prog_3_method_4_code 6 = .ok (.aload_n 2, 1) := by decide +kernel
theorem d4_7 : decode prog_3_method_4_code 7 = .ok (.putfield 10, 3) := by decide +kernel
theorem d4_10 : decode prog_3_method_4_code 10 = .ok (.aload_n 0, 1) := by decide +kernel
theorem d4_11 : decode prog_3_method_4_code 11 = .ok (.aload_n 1, 1) := by decide +kernel
theorem d4_12 : decode prog_3_method_4_code 12 = .ok (.putfield 14, 3) := by decide +kernel
theorem d4_15 : decode prog_3_method_4_code 15 = .ok (.aload_n 2, 1) := by decide +kernel
theorem d4_16 : decode prog_3_method_4_code 16 = .ok (.aload_n 0, 1) := by decide +kernel
theorem d4_17 : decode prog_3_method_4_code 17 = .ok (.putfield 14, 3) := by decide +kernel
theorem d4_20 : decode prog_3_method_4_code 20 = .ok (.aload_n 1, 1) := by decide +kernel
theorem d4_21 : decode prog_3_method_4_code 21 = .ok (.aload_n 0, 1) := by decide +kernel
theorem d4_22 : decode prog_3_method_4_code 22 = .ok (.putfield 10, 3) := by decide +kernel
theorem d4_25 : decode prog_3_method_4_code 25 = .ok (.return_, 1) := by decide +kernel
theorem d5_0 : decode method_3_code 0 = .ok (.iload_n 2, 1) := by decide +kernel
theorem d5_1 : decode method_3_code 1 = .ok (.iload_n 1, 1) := by decide +kernel
theorem d5_2 : decode method_3_code 2 = .ok (.if_icmp .lt 5, 3) := by decide +kernel
theorem d5_5 : decode method_3_code 5 = .ok (.iconst 1, 1) := by decide +kernel
theorem d5_6 : decode method_3_code 6 = .ok (.ireturn, 1) := by decide +kernel
theorem d5_7 : decode method_3_code 7 = .ok (.aload_n 0, 1) := by decide +kernel
theorem d5_8 : decode method_3_code 8 = .ok (.iload_n 2, 1) := by decide +kernel
theorem d5_9 : decode method_3_code 9 = .ok (.aaload, 1) := by decide +kernel
theorem d5_10 : decode method_3_code 10 = .ok (.astore_n 3, 1) := by decide +kernel
theorem d5_11 : decode method_3_code 11 = .ok (.aload_n 0, 1) := by decide +kernel
theorem d5_12 : decode method_3_code 12 = .ok (.iload_n 2, 1) := by decide +kernel
theorem d5_13 : decode method_3_code 13 = .ok (.iconst 1, 1) := by decide +kernel
theorem d5_14 : decode method_3_code 14 = .ok (.iadd, 1) := by decide +kernel
theorem d5_15 : decode method_3_code 15 = .ok (.iload_n 1, 1) := by decide +kernel
theorem d5_16 : decode method_3_code 16 = .ok (.irem, 1) := by decide +kernel
theorem d5_17 : decode method_3_code 17 = .ok (.aaload, 1) := by decide +kernel
theorem d5_18 : decode method_3_code 18 = .ok (.astore 4, 2) := by decide +kernel
theorem d5_20 : decode method_3_code 20 = .ok (.aload_n 3, 1) := by decide +kernel
theorem d5_21 : decode method_3_code 21 = .ok (.getfield 32, 3) := by decide +kernel
theorem d5_24 : decode method_3_code 24 = .ok (.aload 4, 2) := by decide +kernel
theorem d5_26 : decode method_3_code 26 = .ok (.if_acmp .ne 16, 3) := by decide +kernel
theorem d5_29 : decode method_3_code 29 = .ok (.aload 4, 2) := by decide +kernel
theorem d5_31 : decode method_3_code 31 = .ok (.getfield 28, 3) := by decide +kernel
theorem d5_34 : decode method_3_code 34 = .ok (.aload_n 3, 1) := by decide +kernel
theorem d5_35 : decode method_3_code 35 = .ok (.if_acmp .ne 7, 3) := by decide +kernel
theorem d5_38 : decode method_3_code 38 = .ok (.iconst 1, 1) := by decide +kernel
theorem d5_39 : decode method_3_code 39 = .ok (.goto 4, 3) := by decide +kernel
theorem d5_42 : decode method_3_code 42 = .ok (.iconst 0, 1) := by decide +kernel
theorem d5_43 : decode method_3_code 43 = .ok (.ireturn, 1) := by decide +kernel
theorem d6_0 : decode prog_3_method_3_code 0 = .ok (.aload_n 0, 1) := by decide +kernel
theorem d6_1 : decode prog_3_method_3_code 1 = .ok (.getfield 14, 3) := by decide +kernel
theorem d6_4 : decode prog_3_method_3_code 4 = .ok (.aload_n 0, 1) := by decide +kernel
theorem d6_5 : decode prog_3_method_3_code 5 = .ok (.if_acmp .ne 7, 3) := by decide +kernel
theorem d6_8 : decode prog_3_method_3_code 8 = .ok (.iconst 1, 1) := by decide +kernel
theorem d6_9 : decode prog_3_method_3_code 9 = .ok (.goto 4, 3) := by decide +kernel
theorem d6_12 : decode prog_3_method_3_code 12 = .ok (.iconst 0, 1) := by decide +kernel
theorem d6_13 : decode prog_3_method_3_code 13 = .ok (.ireturn, 1) := by decide +kernel
set_option maxHeartbeats 4000000 in
theorem dis_0 (Z : State) (a0 : Array Value) (hw : ∀ d ∈ tables_1, d.before a0 Z = true) : ([RoadKit.slotOf Z "com/example/slot512/slot512/Link" "prev" "Lcom/example/slot512/slot512/Link;", RoadKit.slotOf Z "com/example/slot512/slot512/Link" "next" "Lcom/example/slot512/slot512/Link;"] : List Nat).Nodup := by
  simp only [List.nodup_cons, List.mem_cons, List.not_mem_nil, or_false, not_or, not_false_eq_true, List.nodup_nil, and_true]
  exact RoadKit.slot_ne (Or.inl (hw _ (List.mem_of_getElem? (i := 13) rfl))) (Or.inl (hw _ (List.mem_of_getElem? (i := 15) rfl))) (by decide) (t := (.object "com/example/slot512/slot512/Link")) (t' := (.object "com/example/slot512/slot512/Link")) (by decide) (by decide)
set_option maxRecDepth 65536 in
set_option maxHeartbeats 2000000 in
theorem con_init (l : Launch) (Z : State) (a0 : Array Value) (hw : ∀ d ∈ tables_1, d.before a0 Z = true) (a : Addr) (h : Heap)  :
    Con l Z [] (⟨"com/example/slot512/slot512/Link", "<init>", "()V"⟩ : MethodName) prog_3_method_1_code 1 none ({ frames := 1, cells := 0, slots := 0, locals := 12 } : Room) #[(.ref a)] h [] (fun v h' => v = none ∧ h = h') := by
  refine Con.of_go (L0 := #[.val (.ref a)]) (plainFor_of_name (by first | (simp [plainName, overriddenIn]; done) | decide +kernel)) (locals_of rfl) fun W Q hQ hl C => ?_
  subst hl
  refine g_aloadN (pc' := 1) C d2_0 rfl rfl rfl ?_
  refine g_initO (pc' := 4) C d2_1 rfl (hw _ (List.mem_of_getElem? (i := 9) rfl)) (hw _ (List.mem_of_getElem? (i := 10) rfl)) (hw _ (List.mem_of_getElem? (i := 11) rfl)) rfl (by decide) (Nat.le_of_ble_eq_true rfl) ?_
  refine g_return C d2_4 (by decide) (by decide) ?_
  subst hQ
  exact ⟨rfl, rfl⟩
set_option maxRecDepth 65536 in
set_option maxHeartbeats 2000000 in
theorem con_empty (l : Launch) (Z : State) (a0 : Array Value) (hw : ∀ d ∈ tables_1, d.before a0 Z = true)  (h : Heap)  :
    Con l Z [] (⟨"com/example/slot512/slot512/Link", "emptyList", "()Lcom/example/slot512/slot512/Link;"⟩ : MethodName) prog_3_method_2_code 1 (some (.object "com/example/slot512/slot512/Link")) ({ frames := 2, cells := 1, slots := 2, locals := 25 } : Room) #[] h [] (fun v h' => ∃ r : Addr, v = some (.ref r) ∧ h.size ≤ r ∧ Ob Z h' r "com/example/slot512/slot512/Link" [("com/example/slot512/slot512/Link", "prev", "Lcom/example/slot512/slot512/Link;", (.ref r)), ("com/example/slot512/slot512/Link", "next", "Lcom/example/slot512/slot512/Link;", (.ref r))]) := by
  refine Con.of_go (L0 := #[.unset]) (plainFor_of_name (by first | (simp [plainName, overriddenIn]; done) | decide +kernel)) (locals_of rfl) fun W Q hQ hl C => ?_
  subst hl
  refine g_new (pc' := 3) (k' := 1) (n' := 2) C d1_0 rfl (hw _ (List.mem_of_getElem? (i := 4) rfl)) (hw _ (List.mem_of_getElem? (i := 5) rfl)) (hw _ (List.mem_of_getElem? (i := 2) rfl)) rfl rfl (by decide) (by decide) fun h1 a1 e_a1 Eh1 Xa1 Da1 w_a1 => ?_
  have Oa1 : Ob Z h1 a1 "com/example/slot512/slot512/Link" [("com/example/slot512/slot512/Link", "prev", "Lcom/example/slot512/slot512/Link;", .null), ("com/example/slot512/slot512/Link", "next", "Lcom/example/slot512/slot512/Link;", .null)] := ⟨Xa1, by
    simp only [List.forall_mem_cons, List.not_mem_nil, false_implies, implies_true, and_true]
    exact ⟨Da1 (Or.inl (hw _ (List.mem_of_getElem? (i := 13) rfl))) (ty := (.object "com/example/slot512/slot512/Link")) (by decide), Da1 (Or.inl (hw _ (List.mem_of_getElem? (i := 15) rfl))) (ty := (.object "com/example/slot512/slot512/Link")) (by decide)⟩, dis_0 Z a0 hw⟩
  refine g_dup (pc' := 4) C d1_3 rfl rfl ?_
  refine g_special (y := (⟨"com/example/slot512/slot512/Link", "<init>", "()V"⟩ : MethodName)) (a := a1) (pc' := 7) (k' := 1) (n' := 2) (S := [(.ref a1)]) (as := []) C d1_4 rfl rfl (hw _ (List.mem_of_getElem? (i := 6) rfl)) (hw _ (List.mem_of_getElem? (i := 7) rfl)) (hw _ (List.mem_of_getElem? (i := 2) rfl)) (hw _ (List.mem_of_getElem? (i := 8) rfl)) (by decide) (lenOf pd_0 rfl) (con_init W.l Z a0 hw a1 h1) rfl rfl (Nat.le_of_ble_eq_true rfl) (Nat.le_of_ble_eq_true rfl) rfl rfl (Nat.le_of_ble_eq_true rfl) (Nat.le_of_ble_eq_true rfl) all0 fun vh2 h2 qh2 Kh2 => ?_
  obtain ⟨rfl, eh⟩ := qh2
  subst eh
  show Go W Q h1 1 2 7 #[.unset] [(.ref a1)]
  refine g_astoreN (pc' := 8) (L' := #[.val (.ref a1)]) C d1_7 rfl rfl rfl ?_
  refine g_aloadN (pc' := 9) C d1_8 rfl rfl rfl ?_
  refine g_aloadN (pc' := 10) C d1_9 rfl rfl rfl ?_
  refine g_putO (pc' := 13) (j := 0) (ty := (.object "com/example/slot512/slot512/Link")) (v' := (.ref a1)) (fs' := [("com/example/slot512/slot512/Link", "prev", "Lcom/example/slot512/slot512/Link;", (.ref a1)), ("com/example/slot512/slot512/Link", "next", "Lcom/example/slot512/slot512/Link;", .null)]) C d1_10 rfl (hw _ (List.mem_of_getElem? (i := 12) rfl)) Via.refl Oa1 rfl (Or.inl (hw _ (List.mem_of_getElem? (i := 13) rfl))) (hw _ (List.mem_of_getElem? (i := 5) rfl)) (by decide) rfl rfl rfl w_a1 fun h3 Oa1 Kh3 => ?_
  refine g_aloadN (pc' := 14) C d1_13 rfl rfl rfl ?_
  refine g_aloadN (pc' := 15) C d1_14 rfl rfl rfl ?_
  refine g_putO (pc' := 18) (j := 1) (ty := (.object "com/example/slot512/slot512/Link")) (v' := (.ref a1)) (fs' := [("com/example/slot512/slot512/Link", "prev", "Lcom/example/slot512/slot512/Link;", (.ref a1)), ("com/example/slot512/slot512/Link", "next", "Lcom/example/slot512/slot512/Link;", (.ref a1))]) C d1_15 rfl (hw _ (List.mem_of_getElem? (i := 14) rfl)) Via.refl Oa1 rfl (Or.inl (hw _ (List.mem_of_getElem? (i := 15) rfl))) (hw _ (List.mem_of_getElem? (i := 5) rfl)) (by decide) rfl rfl rfl w_a1 fun h4 Oa1 Kh4 => ?_
  refine g_aloadN (pc' := 19) C d1_18 rfl rfl rfl ?_
  refine g_retA C rfl rfl rfl d1_19 (by decide) (by decide) ?_
  subst hQ
  exact ⟨_, rfl, Nat.le_of_eq e_a1.symm, Oa1⟩
set_option maxRecDepth 65536 in
set_option maxHeartbeats 2000000 in
theorem con_link0 (l : Launch) (Z : State) (a0 : Array Value) (hw : ∀ d ∈ tables_1, d.before a0 Z = true) (a d : Addr) (v1 v2 v3 : Value) (nad : a ≠ d) (h : Heap) (O1 : Ob Z h a "com/example/slot512/slot512/Link" [("com/example/slot512/slot512/Link", "prev", "Lcom/example/slot512/slot512/Link;", v1), ("com/example/slot512/slot512/Link", "next", "Lcom/example/slot512/slot512/Link;", v2)]) (O2 : Ob Z h d "com/example/slot512/slot512/Link" [("com/example/slot512/slot512/Link", "prev", "Lcom/example/slot512/slot512/Link;", (.ref d)), ("com/example/slot512/slot512/Link", "next", "Lcom/example/slot512/slot512/Link;", v3)]) :
    Con l Z [] (⟨"com/example/slot512/slot512/Link", "linkAtEndOf", "(Lcom/example/slot512/slot512/Link;)V"⟩ : MethodName) prog_3_method_4_code 3 none ({ frames := 0, cells := 0, slots := 0, locals := 0 } : Room) #[(.ref a), (.ref d)] h [a, d] (fun v h' => v = none ∧ Ob Z h' a "com/example/slot512/slot512/Link" [("com/example/slot512/slot512/Link", "prev", "Lcom/example/slot512/slot512/Link;", (.ref d)), ("com/example/slot512/slot512/Link", "next", "Lcom/example/slot512/slot512/Link;", (.ref d))] ∧ Ob Z h' d "com/example/slot512/slot512/Link" [("com/example/slot512/slot512/Link", "prev", "Lcom/example/slot512/slot512/Link;", (.ref a)), ("com/example/slot512/slot512/Link", "next", "Lcom/example/slot512/slot512/Link;", (.ref a))]) := by
  refine Con.of_go (L0 := #[.val (.ref a), .val (.ref d), .unset]) (plainFor_of_name (by first | (simp [plainName, overriddenIn]; done) | decide +kernel)) (locals_of rfl) fun W Q hQ hl C => ?_
  subst hl
  refine g_aloadN (pc' := 1) C d4_0 rfl rfl rfl ?_
  refine g_getO (pc' := 4) (j := 0) C d4_1 rfl (hw _ (List.mem_of_getElem? (i := 12) rfl)) O2 rfl ?_
  refine g_astoreN (pc' := 5) (L' := #[.val (.ref a), .val (.ref d), .val (.ref d)]) C d4_4 rfl rfl rfl ?_
  refine g_aloadN (pc' := 6) C d4_5 rfl rfl rfl ?_
  refine g_aloadN (pc' := 7) C d4_6 rfl rfl rfl ?_
  refine g_putO (pc' := 10) (j := 0) (ty := (.object "com/example/slot512/slot512/Link")) (v' := (.ref d)) (fs' := [("com/example/slot512/slot512/Link", "prev", "Lcom/example/slot512/slot512/Link;", (.ref d)), ("com/example/slot512/slot512/Link", "next", "Lcom/example/slot512/slot512/Link;", v2)]) C d4_7 rfl (hw _ (List.mem_of_getElem? (i := 12) rfl)) Via.refl O1 rfl (Or.inl (hw _ (List.mem_of_getElem? (i := 13) rfl))) (hw _ (List.mem_of_getElem? (i := 5) rfl)) (by decide) rfl rfl rfl (C.old (List.mem_of_getElem? (i := 0) rfl)) fun he1 O1 Khe1 => ?_
  replace O2 := O2.keep Khe1 (ninS (Ne.symm nad) nin0)
  refine g_aloadN (pc' := 11) C d4_10 rfl rfl rfl ?_
  refine g_aloadN (pc' := 12) C d4_11 rfl rfl rfl ?_
  refine g_putO (pc' := 15) (j := 1) (ty := (.object "com/example/slot512/slot512/Link")) (v' := (.ref d)) (fs' := [("com/example/slot512/slot512/Link", "prev", "Lcom/example/slot512/slot512/Link;", (.ref d)), ("com/example/slot512/slot512/Link", "next", "Lcom/example/slot512/slot512/Link;", (.ref d))]) C d4_12 rfl (hw _ (List.mem_of_getElem? (i := 14) rfl)) Via.refl O1 rfl (Or.inl (hw _ (List.mem_of_getElem? (i := 15) rfl))) (hw _ (List.mem_of_getElem? (i := 5) rfl)) (by decide) rfl rfl rfl (C.old (List.mem_of_getElem? (i := 0) rfl)) fun he2 O1 Khe2 => ?_
  replace O2 := O2.keep Khe2 (ninS (Ne.symm nad) nin0)
  refine g_aloadN (pc' := 16) C d4_15 rfl rfl rfl ?_
  refine g_aloadN (pc' := 17) C d4_16 rfl rfl rfl ?_
  refine g_putO (pc' := 20) (j := 1) (ty := (.object "com/example/slot512/slot512/Link")) (v' := (.ref a)) (fs' := [("com/example/slot512/slot512/Link", "prev", "Lcom/example/slot512/slot512/Link;", (.ref d)), ("com/example/slot512/slot512/Link", "next", "Lcom/example/slot512/slot512/Link;", (.ref a))]) C d4_17 rfl (hw _ (List.mem_of_getElem? (i := 14) rfl)) Via.refl O2 rfl (Or.inl (hw _ (List.mem_of_getElem? (i := 15) rfl))) (hw _ (List.mem_of_getElem? (i := 5) rfl)) (by decide) rfl rfl rfl (C.old (List.mem_of_getElem? (i := 1) rfl)) fun he3 O2 Khe3 => ?_
  replace O1 := O1.keep Khe3 (ninS nad nin0)
  refine g_aloadN (pc' := 21) C d4_20 rfl rfl rfl ?_
  refine g_aloadN (pc' := 22) C d4_21 rfl rfl rfl ?_
  refine g_putO (pc' := 25) (j := 0) (ty := (.object "com/example/slot512/slot512/Link")) (v' := (.ref a)) (fs' := [("com/example/slot512/slot512/Link", "prev", "Lcom/example/slot512/slot512/Link;", (.ref a)), ("com/example/slot512/slot512/Link", "next", "Lcom/example/slot512/slot512/Link;", (.ref a))]) C d4_22 rfl (hw _ (List.mem_of_getElem? (i := 12) rfl)) Via.refl O2 rfl (Or.inl (hw _ (List.mem_of_getElem? (i := 13) rfl))) (hw _ (List.mem_of_getElem? (i := 5) rfl)) (by decide) rfl rfl rfl (C.old (List.mem_of_getElem? (i := 1) rfl)) fun he4 O2 Khe4 => ?_
  replace O1 := O1.keep Khe4 (ninS nad nin0)
  refine g_return C d4_25 (by decide) (by decide) ?_
  subst hQ
  exact ⟨rfl, O1, O2⟩
set_option maxRecDepth 65536 in
set_option maxHeartbeats 2000000 in
theorem con_link1 (l : Launch) (Z : State) (a0 : Array Value) (hw : ∀ d ∈ tables_1, d.before a0 Z = true) (a d t : Addr) (v1 v2 v3 v4 v5 : Value) (nad : a ≠ d) (nat : a ≠ t) (ntd : t ≠ d) (h : Heap) (O1 : Ob Z h a "com/example/slot512/slot512/Link" [("com/example/slot512/slot512/Link", "prev", "Lcom/example/slot512/slot512/Link;", v1), ("com/example/slot512/slot512/Link", "next", "Lcom/example/slot512/slot512/Link;", v2)]) (O2 : Ob Z h d "com/example/slot512/slot512/Link" [("com/example/slot512/slot512/Link", "prev", "Lcom/example/slot512/slot512/Link;", (.ref t)), ("com/example/slot512/slot512/Link", "next", "Lcom/example/slot512/slot512/Link;", v3)]) (O3 : Ob Z h t "com/example/slot512/slot512/Link" [("com/example/slot512/slot512/Link", "prev", "Lcom/example/slot512/slot512/Link;", v4), ("com/example/slot512/slot512/Link", "next", "Lcom/example/slot512/slot512/Link;", v5)]) :
    Con l Z [] (⟨"com/example/slot512/slot512/Link", "linkAtEndOf", "(Lcom/example/slot512/slot512/Link;)V"⟩ : MethodName) prog_3_method_4_code 3 none ({ frames := 0, cells := 0, slots := 0, locals := 0 } : Room) #[(.ref a), (.ref d)] h [a, d, t] (fun v h' => v = none ∧ Ob Z h' a "com/example/slot512/slot512/Link" [("com/example/slot512/slot512/Link", "prev", "Lcom/example/slot512/slot512/Link;", (.ref t)), ("com/example/slot512/slot512/Link", "next", "Lcom/example/slot512/slot512/Link;", (.ref d))] ∧ Ob Z h' d "com/example/slot512/slot512/Link" [("com/example/slot512/slot512/Link", "prev", "Lcom/example/slot512/slot512/Link;", (.ref a)), ("com/example/slot512/slot512/Link", "next", "Lcom/example/slot512/slot512/Link;", v3)] ∧ Ob Z h' t "com/example/slot512/slot512/Link" [("com/example/slot512/slot512/Link", "prev", "Lcom/example/slot512/slot512/Link;", v4), ("com/example/slot512/slot512/Link", "next", "Lcom/example/slot512/slot512/Link;", (.ref a))]) := by
  refine Con.of_go (L0 := #[.val (.ref a), .val (.ref d), .unset]) (plainFor_of_name (by first | (simp [plainName, overriddenIn]; done) | decide +kernel)) (locals_of rfl) fun W Q hQ hl C => ?_
  subst hl
  refine g_aloadN (pc' := 1) C d4_0 rfl rfl rfl ?_
  refine g_getO (pc' := 4) (j := 0) C d4_1 rfl (hw _ (List.mem_of_getElem? (i := 12) rfl)) O2 rfl ?_
  refine g_astoreN (pc' := 5) (L' := #[.val (.ref a), .val (.ref d), .val (.ref t)]) C d4_4 rfl rfl rfl ?_
  refine g_aloadN (pc' := 6) C d4_5 rfl rfl rfl ?_
  refine g_aloadN (pc' := 7) C d4_6 rfl rfl rfl ?_
  refine g_putO (pc' := 10) (j := 0) (ty := (.object "com/example/slot512/slot512/Link")) (v' := (.ref t)) (fs' := [("com/example/slot512/slot512/Link", "prev", "Lcom/example/slot512/slot512/Link;", (.ref t)), ("com/example/slot512/slot512/Link", "next", "Lcom/example/slot512/slot512/Link;", v2)]) C d4_7 rfl (hw _ (List.mem_of_getElem? (i := 12) rfl)) Via.refl O1 rfl (Or.inl (hw _ (List.mem_of_getElem? (i := 13) rfl))) (hw _ (List.mem_of_getElem? (i := 5) rfl)) (by decide) rfl rfl rfl (C.old (List.mem_of_getElem? (i := 0) rfl)) fun hn1 O1 Khn1 => ?_
  replace O2 := O2.keep Khn1 (ninS (Ne.symm nad) nin0)
  replace O3 := O3.keep Khn1 (ninS (Ne.symm nat) nin0)
  refine g_aloadN (pc' := 11) C d4_10 rfl rfl rfl ?_
  refine g_aloadN (pc' := 12) C d4_11 rfl rfl rfl ?_
  refine g_putO (pc' := 15) (j := 1) (ty := (.object "com/example/slot512/slot512/Link")) (v' := (.ref d)) (fs' := [("com/example/slot512/slot512/Link", "prev", "Lcom/example/slot512/slot512/Link;", (.ref t)), ("com/example/slot512/slot512/Link", "next", "Lcom/example/slot512/slot512/Link;", (.ref d))]) C d4_12 rfl (hw _ (List.mem_of_getElem? (i := 14) rfl)) Via.refl O1 rfl (Or.inl (hw _ (List.mem_of_getElem? (i := 15) rfl))) (hw _ (List.mem_of_getElem? (i := 5) rfl)) (by decide) rfl rfl rfl (C.old (List.mem_of_getElem? (i := 0) rfl)) fun hn2 O1 Khn2 => ?_
  replace O2 := O2.keep Khn2 (ninS (Ne.symm nad) nin0)
  replace O3 := O3.keep Khn2 (ninS (Ne.symm nat) nin0)
  refine g_aloadN (pc' := 16) C d4_15 rfl rfl rfl ?_
  refine g_aloadN (pc' := 17) C d4_16 rfl rfl rfl ?_
  refine g_putO (pc' := 20) (j := 1) (ty := (.object "com/example/slot512/slot512/Link")) (v' := (.ref a)) (fs' := [("com/example/slot512/slot512/Link", "prev", "Lcom/example/slot512/slot512/Link;", v4), ("com/example/slot512/slot512/Link", "next", "Lcom/example/slot512/slot512/Link;", (.ref a))]) C d4_17 rfl (hw _ (List.mem_of_getElem? (i := 14) rfl)) Via.refl O3 rfl (Or.inl (hw _ (List.mem_of_getElem? (i := 15) rfl))) (hw _ (List.mem_of_getElem? (i := 5) rfl)) (by decide) rfl rfl rfl (C.old (List.mem_of_getElem? (i := 2) rfl)) fun hn3 O3 Khn3 => ?_
  replace O1 := O1.keep Khn3 (ninS nat nin0)
  replace O2 := O2.keep Khn3 (ninS (Ne.symm ntd) nin0)
  refine g_aloadN (pc' := 21) C d4_20 rfl rfl rfl ?_
  refine g_aloadN (pc' := 22) C d4_21 rfl rfl rfl ?_
  refine g_putO (pc' := 25) (j := 0) (ty := (.object "com/example/slot512/slot512/Link")) (v' := (.ref a)) (fs' := [("com/example/slot512/slot512/Link", "prev", "Lcom/example/slot512/slot512/Link;", (.ref a)), ("com/example/slot512/slot512/Link", "next", "Lcom/example/slot512/slot512/Link;", v3)]) C d4_22 rfl (hw _ (List.mem_of_getElem? (i := 12) rfl)) Via.refl O2 rfl (Or.inl (hw _ (List.mem_of_getElem? (i := 13) rfl))) (hw _ (List.mem_of_getElem? (i := 5) rfl)) (by decide) rfl rfl rfl (C.old (List.mem_of_getElem? (i := 1) rfl)) fun hn4 O2 Khn4 => ?_
  replace O1 := O1.keep Khn4 (ninS nad nin0)
  replace O3 := O3.keep Khn4 (ninS ntd nin0)
  refine g_return C d4_25 (by decide) (by decide) ?_
  subst hQ
  exact ⟨rfl, O1, O2, O3⟩
set_option maxRecDepth 65536 in
set_option maxHeartbeats 2000000 in
theorem con_isE (l : Launch) (Z : State) (a0 : Array Value) (hw : ∀ d ∈ tables_1, d.before a0 Z = true) (a b : Addr) (v1 : Value) (nab : a ≠ b) (h : Heap) (O : Ob Z h a "com/example/slot512/slot512/Link" [("com/example/slot512/slot512/Link", "prev", "Lcom/example/slot512/slot512/Link;", v1), ("com/example/slot512/slot512/Link", "next", "Lcom/example/slot512/slot512/Link;", (.ref b))]) :
    Con l Z [] (⟨"com/example/slot512/slot512/Link", "isEmptyList", "()Z"⟩ : MethodName) prog_3_method_3_code 1 (some .boolean) ({ frames := 0, cells := 0, slots := 0, locals := 0 } : Room) #[(.ref a)] h [] (fun v h' => v = some (.int 0) ∧ h' = h) := by
  refine Con.of_go (L0 := #[.val (.ref a)]) (plainFor_of_name (by first | (simp [plainName, overriddenIn]; done) | decide +kernel)) (locals_of rfl) fun W Q hQ hl C => ?_
  subst hl
  refine g_aloadN (pc' := 1) C d6_0 rfl rfl rfl ?_
  refine g_getO (pc' := 4) (j := 1) C d6_1 rfl (hw _ (List.mem_of_getElem? (i := 14) rfl)) O rfl ?_
  refine g_aloadN (pc' := 5) C d6_4 rfl rfl rfl ?_
  refine g_acmpne (pc1 := 12) (pc2 := 8) C d6_5 (by decide) rfl rfl rfl rfl (fun _ => ?_) (fun c => absurd (Value.ref.inj c) (Ne.symm nab))
  refine g_iconst (pc' := 13) (z := (0 : Int32)) C d6_12 rfl rfl ?_
  refine g_retN C (by simp) d6_13 (by decide) (by decide) ?_
  subst hQ
  exact ⟨rfl, rfl⟩
set_option maxRecDepth 65536 in
set_option maxHeartbeats 2000000 in
theorem con_step0 (l : Launch) (Z : State) (a0 : Array Value) (hw : ∀ d ∈ tables_1, d.before a0 Z = true) (d : Addr) (lz k : Int32) (hk : ¬ k.toInt < lz.toInt) (h : Heap)  :
    Con l Z [] (⟨"com/example/slot512/slot512/LinkLinkAtEndOfPinLaw", "step", "([Lcom/example/slot512/slot512/Link;II)Z"⟩ : MethodName) method_3_code 5 (some .boolean) ({ frames := 0, cells := 0, slots := 0, locals := 0 } : Room) #[(.ref d), (.int lz), (.int k)] h [] (fun v h' => v = some (.int 1) ∧ h' = h) := by
  refine Con.of_go (L0 := #[.val (.ref d), .val (.int lz), .val (.int k), .unset, .unset]) (plainFor_of_name (by first | (simp [plainName, overriddenIn]; done) | decide +kernel)) (locals_of rfl) fun W Q hQ hl C => ?_
  subst hl
  refine g_iloadN (pc' := 1) C d5_0 rfl rfl ?_
  refine g_iloadN (pc' := 2) C d5_1 rfl rfl ?_
  refine g_icmpN (xi := k.toInt) (yi := lz.toInt) (pc2 := 5) C d5_2 rfl rfl rfl hk ?_
  refine g_iconst (pc' := 6) (z := (1 : Int32)) C d5_5 rfl rfl ?_
  refine g_retN C (by simp) d5_6 (by decide) (by decide) ?_
  subst hQ
  exact ⟨rfl, rfl⟩
set_option maxRecDepth 65536 in
set_option maxHeartbeats 2000000 in
theorem con_step1 (l : Launch) (Z : State) (a0 : Array Value) (hw : ∀ d ∈ tables_1, d.before a0 Z = true) (d c x : Addr) (lz k : Int32) (i j : Nat) (v1 v2 : Value) (vs : List Value) (hk : k.toInt < lz.toInt) (hl : lz ≠ 0) (hi : k.toInt = i) (hj : ((k + 1) % lz).toInt = j) (hvi : vs[i]? = some (.ref c)) (hvj : vs[j]? = some (.ref x)) (h : Heap) (O1 : Ob Z h c "com/example/slot512/slot512/Link" [("com/example/slot512/slot512/Link", "prev", "Lcom/example/slot512/slot512/Link;", v1), ("com/example/slot512/slot512/Link", "next", "Lcom/example/slot512/slot512/Link;", (.ref x))]) (O2 : Ob Z h x "com/example/slot512/slot512/Link" [("com/example/slot512/slot512/Link", "prev", "Lcom/example/slot512/slot512/Link;", (.ref c)), ("com/example/slot512/slot512/Link", "next", "Lcom/example/slot512/slot512/Link;", v2)]) (A : ArR Z h d "com/example/slot512/slot512/Link" vs) :
    Con l Z [] (⟨"com/example/slot512/slot512/LinkLinkAtEndOfPinLaw", "step", "([Lcom/example/slot512/slot512/Link;II)Z"⟩ : MethodName) method_3_code 5 (some .boolean) ({ frames := 0, cells := 0, slots := 0, locals := 0 } : Room) #[(.ref d), (.int lz), (.int k)] h [] (fun v h' => v = some (.int 1) ∧ h' = h) := by
  refine Con.of_go (L0 := #[.val (.ref d), .val (.int lz), .val (.int k), .unset, .unset]) (plainFor_of_name (by first | (simp [plainName, overriddenIn]; done) | decide +kernel)) (locals_of rfl) fun W Q hQ hl C => ?_
  subst hl
  refine g_iloadN (pc' := 1) C d5_0 rfl rfl ?_
  refine g_iloadN (pc' := 2) C d5_1 rfl rfl ?_
  refine g_icmpY (xi := k.toInt) (yi := lz.toInt) (pc1 := 7) C d5_2 (by decide) rfl rfl rfl hk ?_
  refine g_aloadN (pc' := 8) C d5_7 rfl rfl rfl ?_
  refine g_iloadN (pc' := 9) C d5_8 rfl rfl ?_
  refine g_aaload (pc' := 10) C d5_9 rfl A hi hvi ?_
  refine g_astoreN (pc' := 11) (L' := #[.val (.ref d), .val (.int lz), .val (.int k), .val (.ref c), .unset]) C d5_10 rfl rfl rfl ?_
  refine g_aloadN (pc' := 12) C d5_11 rfl rfl rfl ?_
  refine g_iloadN (pc' := 13) C d5_12 rfl rfl ?_
  refine g_iconst (pc' := 14) (z := (1 : Int32)) C d5_13 rfl rfl ?_
  refine g_iadd (pc' := 15) C d5_14 rfl ?_
  refine g_iloadN (pc' := 16) C d5_15 rfl rfl ?_
  refine g_irem (pc' := 17) C d5_16 rfl hl ?_
  refine g_aaload (pc' := 18) C d5_17 rfl A hj hvj ?_
  refine g_astore (pc' := 20) (L' := #[.val (.ref d), .val (.int lz), .val (.int k), .val (.ref c), .val (.ref x)]) C d5_18 rfl rfl rfl ?_
  refine g_aloadN (pc' := 21) C d5_20 rfl rfl rfl ?_
  refine g_getO (pc' := 24) (j := 1) C d5_21 rfl (hw _ (List.mem_of_getElem? (i := 29) rfl)) O1 rfl ?_
  refine g_aload (pc' := 26) C d5_24 rfl rfl rfl ?_
  refine g_acmpne (pc1 := 42) (pc2 := 29) C d5_26 (by decide) rfl rfl rfl rfl (fun c => absurd rfl c) (fun _ => ?_)
  refine g_aload (pc' := 31) C d5_29 rfl rfl rfl ?_
  refine g_getO (pc' := 34) (j := 0) C d5_31 rfl (hw _ (List.mem_of_getElem? (i := 30) rfl)) O2 rfl ?_
  refine g_aloadN (pc' := 35) C d5_34 rfl rfl rfl ?_
  refine g_acmpne (pc1 := 42) (pc2 := 38) C d5_35 (by decide) rfl rfl rfl rfl (fun c => absurd rfl c) (fun _ => ?_)
  refine g_iconst (pc' := 39) (z := (1 : Int32)) C d5_38 rfl rfl ?_
  refine g_goto C d5_39 (by decide) (pc' := 43) rfl ?_
  refine g_retN C (by simp) d5_43 (by decide) (by decide) ?_
  subst hQ
  exact ⟨rfl, rfl⟩
set_option maxRecDepth 65536 in
set_option maxHeartbeats 2000000 in
theorem con_0 (l : Launch) (Z : State) (a0 : Array Value) (hw : ∀ d ∈ tables_1, d.before a0 Z = true) (p0 : Int32) (h : Heap)  :
    Con l Z tables_1 x code maxLocals ret room_1 #[(.int p0)] h [] (fun v _ => v = some (.int 1)) := by
  refine Con.of_go (L0 := #[.val (.int p0), .unset, .unset, .unset, .unset, .unset, .unset, .unset, .unset, .unset]) (plainFor_of_name (by first | (simp [plainName, overriddenIn]; done) | decide +kernel)) (locals_of rfl) fun W Q hQ hl C => ?_
  subst hl
  refine g_iloadN (pc' := 1) C at_0 rfl rfl ?_
  refine g_iconst (pc' := 2) (z := (3 : Int32)) C at_1 rfl rfl ?_
  refine g_iand (pc' := 3) C at_2 rfl ?_
  refine g_nameI fun i1 e_i1 => ?_
  refine g_istoreN (pc' := 4) (L' := #[.val (.int p0), .val (.int i1), .unset, .unset, .unset, .unset, .unset, .unset, .unset, .unset]) C at_3 rfl rfl ?_
  refine g_static (y := (⟨"com/example/slot512/slot512/Link", "emptyList", "()Lcom/example/slot512/slot512/Link;"⟩ : MethodName)) (pc' := 7) (k' := 1) (n' := 2) (S := []) (as := []) C at_4 rfl (hw _ (List.mem_of_getElem? (i := 0) rfl)) (hw _ (List.mem_of_getElem? (i := 1) rfl)) (hw _ (List.mem_of_getElem? (i := 2) rfl)) (hw _ (List.mem_of_getElem? (i := 3) rfl)) (by decide) (lenOf pd_1 rfl) (con_empty W.l Z a0 hw h) rfl rfl (Nat.le_of_ble_eq_true rfl) (Nat.le_of_ble_eq_true rfl) rfl rfl (Nat.le_of_ble_eq_true rfl) (Nat.le_of_ble_eq_true rfl) all0 fun vh1 h1 qh1 Kh1 => ?_
  obtain ⟨r0, rfl, gr0, Or0⟩ := qh1
  show Go W Q h1 1 2 7 #[.val (.int p0), .val (.int i1), .unset, .unset, .unset, .unset, .unset, .unset, .unset, .unset] [(.ref r0)]
  have w_r0 : Pw W r0 := C.new gr0
  refine g_astoreN (pc' := 8) (L' := #[.val (.int p0), .val (.int i1), .val (.ref r0), .unset, .unset, .unset, .unset, .unset, .unset, .unset]) C at_7 rfl rfl rfl ?_
  refine g_new (pc' := 11) (k' := 2) (n' := 4) C at_8 rfl (hw _ (List.mem_of_getElem? (i := 16) rfl)) (hw _ (List.mem_of_getElem? (i := 5) rfl)) (hw _ (List.mem_of_getElem? (i := 2) rfl)) rfl rfl (by decide) (by decide) fun h2 a2 e_a2 Eh2 Xa2 Da2 w_a2 => ?_
  have n_r0_a2 : r0 ≠ a2 := by rw [e_a2]; exact Nat.ne_of_lt Or0.lt
  replace Or0 := Or0.ext Eh2
  have Oa2 : Ob Z h2 a2 "com/example/slot512/slot512/Link" [("com/example/slot512/slot512/Link", "prev", "Lcom/example/slot512/slot512/Link;", .null), ("com/example/slot512/slot512/Link", "next", "Lcom/example/slot512/slot512/Link;", .null)] := ⟨Xa2, by
    simp only [List.forall_mem_cons, List.not_mem_nil, false_implies, implies_true, and_true]
    exact ⟨Da2 (Or.inl (hw _ (List.mem_of_getElem? (i := 13) rfl))) (ty := (.object "com/example/slot512/slot512/Link")) (by decide), Da2 (Or.inl (hw _ (List.mem_of_getElem? (i := 15) rfl))) (ty := (.object "com/example/slot512/slot512/Link")) (by decide)⟩, dis_0 Z a0 hw⟩
  refine g_dup (pc' := 12) C at_11 rfl rfl ?_
  refine g_special (y := (⟨"com/example/slot512/slot512/Link", "<init>", "()V"⟩ : MethodName)) (a := a2) (pc' := 15) (k' := 2) (n' := 4) (S := [(.ref a2)]) (as := []) C at_12 rfl rfl (hw _ (List.mem_of_getElem? (i := 17) rfl)) (hw _ (List.mem_of_getElem? (i := 7) rfl)) (hw _ (List.mem_of_getElem? (i := 2) rfl)) (hw _ (List.mem_of_getElem? (i := 8) rfl)) (by decide) (lenOf pd_0 rfl) (con_init W.l Z a0 hw a2 h2) rfl rfl (Nat.le_of_ble_eq_true rfl) (Nat.le_of_ble_eq_true rfl) rfl rfl (Nat.le_of_ble_eq_true rfl) (Nat.le_of_ble_eq_true rfl) all0 fun vh3 h3 qh3 Kh3 => ?_
  obtain ⟨rfl, eh⟩ := qh3
  subst eh
  show Go W Q h2 2 4 15 #[.val (.int p0), .val (.int i1), .val (.ref r0), .unset, .unset, .unset, .unset, .unset, .unset, .unset] [(.ref a2)]
  refine g_astoreN (pc' := 16) (L' := #[.val (.int p0), .val (.int i1), .val (.ref r0), .val (.ref a2), .unset, .unset, .unset, .unset, .unset, .unset]) C at_15 rfl rfl rfl ?_
  refine g_new (pc' := 19) (k' := 3) (n' := 6) C at_16 rfl (hw _ (List.mem_of_getElem? (i := 16) rfl)) (hw _ (List.mem_of_getElem? (i := 5) rfl)) (hw _ (List.mem_of_getElem? (i := 2) rfl)) rfl rfl (by decide) (by decide) fun h4 a3 e_a3 Eh4 Xa3 Da3 w_a3 => ?_
  have n_r0_a3 : r0 ≠ a3 := by rw [e_a3]; exact Nat.ne_of_lt Or0.lt
  have n_a2_a3 : a2 ≠ a3 := by rw [e_a3]; exact Nat.ne_of_lt Oa2.lt
  replace Or0 := Or0.ext Eh4
  replace Oa2 := Oa2.ext Eh4
  have Oa3 : Ob Z h4 a3 "com/example/slot512/slot512/Link" [("com/example/slot512/slot512/Link", "prev", "Lcom/example/slot512/slot512/Link;", .null), ("com/example/slot512/slot512/Link", "next", "Lcom/example/slot512/slot512/Link;", .null)] := ⟨Xa3, by
    simp only [List.forall_mem_cons, List.not_mem_nil, false_implies, implies_true, and_true]
    exact ⟨Da3 (Or.inl (hw _ (List.mem_of_getElem? (i := 13) rfl))) (ty := (.object "com/example/slot512/slot512/Link")) (by decide), Da3 (Or.inl (hw _ (List.mem_of_getElem? (i := 15) rfl))) (ty := (.object "com/example/slot512/slot512/Link")) (by decide)⟩, dis_0 Z a0 hw⟩
  refine g_dup (pc' := 20) C at_19 rfl rfl ?_
  refine g_special (y := (⟨"com/example/slot512/slot512/Link", "<init>", "()V"⟩ : MethodName)) (a := a3) (pc' := 23) (k' := 3) (n' := 6) (S := [(.ref a3)]) (as := []) C at_20 rfl rfl (hw _ (List.mem_of_getElem? (i := 17) rfl)) (hw _ (List.mem_of_getElem? (i := 7) rfl)) (hw _ (List.mem_of_getElem? (i := 2) rfl)) (hw _ (List.mem_of_getElem? (i := 8) rfl)) (by decide) (lenOf pd_0 rfl) (con_init W.l Z a0 hw a3 h4) rfl rfl (Nat.le_of_ble_eq_true rfl) (Nat.le_of_ble_eq_true rfl) rfl rfl (Nat.le_of_ble_eq_true rfl) (Nat.le_of_ble_eq_true rfl) all0 fun vh5 h5 qh5 Kh5 => ?_
  obtain ⟨rfl, eh⟩ := qh5
  subst eh
  show Go W Q h4 3 6 23 #[.val (.int p0), .val (.int i1), .val (.ref r0), .val (.ref a2), .unset, .unset, .unset, .unset, .unset, .unset] [(.ref a3)]
  refine g_astore (pc' := 25) (L' := #[.val (.int p0), .val (.int i1), .val (.ref r0), .val (.ref a2), .val (.ref a3), .unset, .unset, .unset, .unset, .unset]) C at_23 rfl rfl rfl ?_
  refine g_new (pc' := 28) (k' := 4) (n' := 8) C at_25 rfl (hw _ (List.mem_of_getElem? (i := 16) rfl)) (hw _ (List.mem_of_getElem? (i := 5) rfl)) (hw _ (List.mem_of_getElem? (i := 2) rfl)) rfl rfl (by decide) (by decide) fun h6 a4 e_a4 Eh6 Xa4 Da4 w_a4 => ?_
  have n_r0_a4 : r0 ≠ a4 := by rw [e_a4]; exact Nat.ne_of_lt Or0.lt
  have n_a2_a4 : a2 ≠ a4 := by rw [e_a4]; exact Nat.ne_of_lt Oa2.lt
  have n_a3_a4 : a3 ≠ a4 := by rw [e_a4]; exact Nat.ne_of_lt Oa3.lt
  replace Or0 := Or0.ext Eh6
  replace Oa2 := Oa2.ext Eh6
  replace Oa3 := Oa3.ext Eh6
  have Oa4 : Ob Z h6 a4 "com/example/slot512/slot512/Link" [("com/example/slot512/slot512/Link", "prev", "Lcom/example/slot512/slot512/Link;", .null), ("com/example/slot512/slot512/Link", "next", "Lcom/example/slot512/slot512/Link;", .null)] := ⟨Xa4, by
    simp only [List.forall_mem_cons, List.not_mem_nil, false_implies, implies_true, and_true]
    exact ⟨Da4 (Or.inl (hw _ (List.mem_of_getElem? (i := 13) rfl))) (ty := (.object "com/example/slot512/slot512/Link")) (by decide), Da4 (Or.inl (hw _ (List.mem_of_getElem? (i := 15) rfl))) (ty := (.object "com/example/slot512/slot512/Link")) (by decide)⟩, dis_0 Z a0 hw⟩
  refine g_dup (pc' := 29) C at_28 rfl rfl ?_
  refine g_special (y := (⟨"com/example/slot512/slot512/Link", "<init>", "()V"⟩ : MethodName)) (a := a4) (pc' := 32) (k' := 4) (n' := 8) (S := [(.ref a4)]) (as := []) C at_29 rfl rfl (hw _ (List.mem_of_getElem? (i := 17) rfl)) (hw _ (List.mem_of_getElem? (i := 7) rfl)) (hw _ (List.mem_of_getElem? (i := 2) rfl)) (hw _ (List.mem_of_getElem? (i := 8) rfl)) (by decide) (lenOf pd_0 rfl) (con_init W.l Z a0 hw a4 h6) rfl rfl (Nat.le_of_ble_eq_true rfl) (Nat.le_of_ble_eq_true rfl) rfl rfl (Nat.le_of_ble_eq_true rfl) (Nat.le_of_ble_eq_true rfl) all0 fun vh7 h7 qh7 Kh7 => ?_
  obtain ⟨rfl, eh⟩ := qh7
  subst eh
  show Go W Q h6 4 8 32 #[.val (.int p0), .val (.int i1), .val (.ref r0), .val (.ref a2), .val (.ref a3), .unset, .unset, .unset, .unset, .unset] [(.ref a4)]
  refine g_astore (pc' := 34) (L' := #[.val (.int p0), .val (.int i1), .val (.ref r0), .val (.ref a2), .val (.ref a3), .val (.ref a4), .unset, .unset, .unset, .unset]) C at_32 rfl rfl rfl ?_
  refine g_new (pc' := 37) (k' := 5) (n' := 10) C at_34 rfl (hw _ (List.mem_of_getElem? (i := 16) rfl)) (hw _ (List.mem_of_getElem? (i := 5) rfl)) (hw _ (List.mem_of_getElem? (i := 2) rfl)) rfl rfl (by decide) (by decide) fun h8 a5 e_a5 Eh8 Xa5 Da5 w_a5 => ?_
  have n_r0_a5 : r0 ≠ a5 := by rw [e_a5]; exact Nat.ne_of_lt Or0.lt
  have n_a2_a5 : a2 ≠ a5 := by rw [e_a5]; exact Nat.ne_of_lt Oa2.lt
  have n_a3_a5 : a3 ≠ a5 := by rw [e_a5]; exact Nat.ne_of_lt Oa3.lt
  have n_a4_a5 : a4 ≠ a5 := by rw [e_a5]; exact Nat.ne_of_lt Oa4.lt
  replace Or0 := Or0.ext Eh8
  replace Oa2 := Oa2.ext Eh8
  replace Oa3 := Oa3.ext Eh8
  replace Oa4 := Oa4.ext Eh8
  have Oa5 : Ob Z h8 a5 "com/example/slot512/slot512/Link" [("com/example/slot512/slot512/Link", "prev", "Lcom/example/slot512/slot512/Link;", .null), ("com/example/slot512/slot512/Link", "next", "Lcom/example/slot512/slot512/Link;", .null)] := ⟨Xa5, by
    simp only [List.forall_mem_cons, List.not_mem_nil, false_implies, implies_true, and_true]
    exact ⟨Da5 (Or.inl (hw _ (List.mem_of_getElem? (i := 13) rfl))) (ty := (.object "com/example/slot512/slot512/Link")) (by decide), Da5 (Or.inl (hw _ (List.mem_of_getElem? (i := 15) rfl))) (ty := (.object "com/example/slot512/slot512/Link")) (by decide)⟩, dis_0 Z a0 hw⟩
  refine g_dup (pc' := 38) C at_37 rfl rfl ?_
  refine g_special (y := (⟨"com/example/slot512/slot512/Link", "<init>", "()V"⟩ : MethodName)) (a := a5) (pc' := 41) (k' := 5) (n' := 10) (S := [(.ref a5)]) (as := []) C at_38 rfl rfl (hw _ (List.mem_of_getElem? (i := 17) rfl)) (hw _ (List.mem_of_getElem? (i := 7) rfl)) (hw _ (List.mem_of_getElem? (i := 2) rfl)) (hw _ (List.mem_of_getElem? (i := 8) rfl)) (by decide) (lenOf pd_0 rfl) (con_init W.l Z a0 hw a5 h8) rfl rfl (Nat.le_of_ble_eq_true rfl) (Nat.le_of_ble_eq_true rfl) rfl rfl (Nat.le_of_ble_eq_true rfl) (Nat.le_of_ble_eq_true rfl) all0 fun vh9 h9 qh9 Kh9 => ?_
  obtain ⟨rfl, eh⟩ := qh9
  subst eh
  show Go W Q h8 5 10 41 #[.val (.int p0), .val (.int i1), .val (.ref r0), .val (.ref a2), .val (.ref a3), .val (.ref a4), .unset, .unset, .unset, .unset] [(.ref a5)]
  refine g_astore (pc' := 43) (L' := #[.val (.int p0), .val (.int i1), .val (.ref r0), .val (.ref a2), .val (.ref a3), .val (.ref a4), .val (.ref a5), .unset, .unset, .unset]) C at_41 rfl rfl rfl ?_
  have sp_i1 : i1 = 0 ∨ i1 = 1 ∨ i1 = 2 ∨ i1 = 3 := by
    have y1 := c_mask p0 3 2 (by decide) (by decide)
    rw [← e_i1] at y1
    have z0 : (0 : Int32).toInt = 0 := rfl
    have z1 : (1 : Int32).toInt = 1 := rfl
    have z2 : (2 : Int32).toInt = 2 := rfl
    have z3 : (3 : Int32).toInt = 3 := rfl
    rcases (by omega : i1.toInt = 0 ∨ i1.toInt = 1 ∨ i1.toInt = 2 ∨ i1.toInt = 3) with y | y | y | y
    · exact Or.inl (Int32.toInt_inj.mp (by omega))
    · exact Or.inr (Or.inl (Int32.toInt_inj.mp (by omega)))
    · exact Or.inr (Or.inr (Or.inl (Int32.toInt_inj.mp (by omega))))
    · exact Or.inr (Or.inr (Or.inr (Int32.toInt_inj.mp (by omega))))
  clear e_i1
  rcases sp_i1 with sp_i1 | sp_i1 | sp_i1 | sp_i1 <;> subst sp_i1
  ·
    refine g_iloadN (pc' := 44) C at_43 rfl rfl ?_
    refine g_iconst (pc' := 45) (z := (1 : Int32)) C at_44 rfl rfl ?_
    refine g_icmpY (xi := 0) (yi := 1) (pc1 := 53) C at_45 (by decide) rfl rfl rfl (by decide) ?_
    refine g_iloadN (pc' := 54) C at_53 rfl rfl ?_
    refine g_iconst (pc' := 55) (z := (2 : Int32)) C at_54 rfl rfl ?_
    refine g_icmpY (xi := 0) (yi := 2) (pc1 := 64) C at_55 (by decide) rfl rfl rfl (by decide) ?_
    refine g_iloadN (pc' := 65) C at_64 rfl rfl ?_
    refine g_iconst (pc' := 66) (z := (3 : Int32)) C at_65 rfl rfl ?_
    refine g_icmpY (xi := 0) (yi := 3) (pc1 := 75) C at_66 (by decide) rfl rfl rfl (by decide) ?_
    refine g_aload (pc' := 77) C at_75 rfl rfl rfl ?_
    refine g_aloadN (pc' := 78) C at_77 rfl rfl rfl ?_
    refine g_virtual (y := (⟨"com/example/slot512/slot512/Link", "linkAtEndOf", "(Lcom/example/slot512/slot512/Link;)V"⟩ : MethodName)) (a := a5) (pc' := 81) (k' := 5) (n' := 10) (S := []) (as := [(.ref r0)]) C at_78 rfl (hw _ (List.mem_of_getElem? (i := 18) rfl)) (hw _ (List.mem_of_getElem? (i := 20) rfl)) (hw _ (List.mem_of_getElem? (i := 2) rfl)) (hw _ (List.mem_of_getElem? (i := 22) rfl)) (hw _ (List.mem_of_getElem? (i := 19) rfl)) (hw _ (List.mem_of_getElem? (i := 21) rfl)) (by decide) Oa5.1 (lenOf pd_2 rfl) (con_link0 W.l Z a0 hw a5 r0 .null .null (.ref r0) (Ne.symm n_r0_a5) h8 Oa5 Or0) rfl rfl (Nat.le_of_ble_eq_true rfl) (Nat.le_of_ble_eq_true rfl) rfl rfl (Nat.le_of_ble_eq_true rfl) (Nat.le_of_ble_eq_true rfl) (allS w_a5 (allS w_r0 all0)) fun vh10 h10 qh10 Kh10 => ?_
    obtain ⟨rfl, Oa5, Or0⟩ := qh10
    replace Oa2 := Oa2.keep Kh10 (ninS n_a2_a5 (ninS (Ne.symm n_r0_a2) nin0))
    replace Oa3 := Oa3.keep Kh10 (ninS n_a3_a5 (ninS (Ne.symm n_r0_a3) nin0))
    replace Oa4 := Oa4.keep Kh10 (ninS n_a4_a5 (ninS (Ne.symm n_r0_a4) nin0))
    show Go W Q h10 5 10 81 #[.val (.int p0), .val (.int (0 : Int32)), .val (.ref r0), .val (.ref a2), .val (.ref a3), .val (.ref a4), .val (.ref a5), .unset, .unset, .unset] []
    refine g_iconst (pc' := 82) (z := (5 : Int32)) C at_81 rfl rfl ?_
    refine g_anewarray (pc' := 85) (len := 5) (cap := 5) (k' := 6) (n' := 15) C at_82 rfl (hw _ (List.mem_of_getElem? (i := 16) rfl)) (hw _ (List.mem_of_getElem? (i := 23) rfl)) rfl (by decide) (by decide) rfl rfl (by decide) (by decide) fun h11 a6 e_a6 Eh11 Aa6 w_a6 => ?_
    have n_r0_a6 : r0 ≠ a6 := by rw [e_a6]; exact Nat.ne_of_lt Or0.lt
    have n_a2_a6 : a2 ≠ a6 := by rw [e_a6]; exact Nat.ne_of_lt Oa2.lt
    have n_a3_a6 : a3 ≠ a6 := by rw [e_a6]; exact Nat.ne_of_lt Oa3.lt
    have n_a4_a6 : a4 ≠ a6 := by rw [e_a6]; exact Nat.ne_of_lt Oa4.lt
    have n_a5_a6 : a5 ≠ a6 := by rw [e_a6]; exact Nat.ne_of_lt Oa5.lt
    replace Or0 := Or0.ext Eh11
    replace Oa2 := Oa2.ext Eh11
    replace Oa3 := Oa3.ext Eh11
    replace Oa4 := Oa4.ext Eh11
    replace Oa5 := Oa5.ext Eh11
    replace Aa6 : ArR Z h11 a6 "com/example/slot512/slot512/Link" [.null, .null, .null, .null, .null] := Aa6
    refine g_astore (pc' := 87) (L' := #[.val (.int p0), .val (.int (0 : Int32)), .val (.ref r0), .val (.ref a2), .val (.ref a3), .val (.ref a4), .val (.ref a5), .val (.ref a6), .unset, .unset]) C at_85 rfl rfl rfl ?_
    refine g_aload (pc' := 89) C at_87 rfl rfl rfl ?_
    refine g_iconst (pc' := 90) (z := (0 : Int32)) C at_89 rfl rfl ?_
    refine g_aloadN (pc' := 91) C at_90 rfl rfl rfl ?_
    refine g_aastore (pc' := 92) (i := 0) (vs' := [(.ref r0), .null, .null, .null, .null]) C at_91 rfl Aa6 rfl (Nat.le_of_ble_eq_true rfl) rfl (Or.inr ⟨_, rfl, Or0.1⟩) w_a6 fun h12 Aa6 Kh12 => ?_
    replace Or0 := Or0.keep Kh12 (ninS n_r0_a6 nin0)
    replace Oa2 := Oa2.keep Kh12 (ninS n_a2_a6 nin0)
    replace Oa3 := Oa3.keep Kh12 (ninS n_a3_a6 nin0)
    replace Oa4 := Oa4.keep Kh12 (ninS n_a4_a6 nin0)
    replace Oa5 := Oa5.keep Kh12 (ninS n_a5_a6 nin0)
    refine g_aload (pc' := 94) C at_92 rfl rfl rfl ?_
    refine g_iconst (pc' := 95) (z := (1 : Int32)) C at_94 rfl rfl ?_
    refine g_iloadN (pc' := 96) C at_95 rfl rfl ?_
    refine g_ifN (xi := 0) (pc2 := 99) C at_96 rfl rfl (by decide) ?_
    refine g_aload (pc' := 101) C at_99 rfl rfl rfl ?_
    refine g_goto C at_101 (by decide) (pc' := 105) rfl ?_
    refine g_aastore (pc' := 106) (i := 1) (vs' := [(.ref r0), (.ref a5), .null, .null, .null]) C at_105 rfl Aa6 rfl (Nat.le_of_ble_eq_true rfl) rfl (Or.inr ⟨_, rfl, Oa5.1⟩) w_a6 fun h13 Aa6 Kh13 => ?_
    replace Or0 := Or0.keep Kh13 (ninS n_r0_a6 nin0)
    replace Oa2 := Oa2.keep Kh13 (ninS n_a2_a6 nin0)
    replace Oa3 := Oa3.keep Kh13 (ninS n_a3_a6 nin0)
    replace Oa4 := Oa4.keep Kh13 (ninS n_a4_a6 nin0)
    replace Oa5 := Oa5.keep Kh13 (ninS n_a5_a6 nin0)
    refine g_aload (pc' := 108) C at_106 rfl rfl rfl ?_
    refine g_iconst (pc' := 109) (z := (2 : Int32)) C at_108 rfl rfl ?_
    refine g_iloadN (pc' := 110) C at_109 rfl rfl ?_
    refine g_iconst (pc' := 111) (z := (1 : Int32)) C at_110 rfl rfl ?_
    refine g_icmpY (xi := 0) (yi := 1) (pc1 := 119) C at_111 (by decide) rfl rfl rfl (by decide) ?_
    refine g_iloadN (pc' := 120) C at_119 rfl rfl ?_
    refine g_iconst (pc' := 121) (z := (2 : Int32)) C at_120 rfl rfl ?_
    refine g_icmpY (xi := 0) (yi := 2) (pc1 := 129) C at_121 (by decide) rfl rfl rfl (by decide) ?_
    refine g_aconst_null (pc' := 130) C at_129 rfl ?_
    refine g_aastore (pc' := 131) (i := 2) (vs' := [(.ref r0), (.ref a5), .null, .null, .null]) C at_130 rfl Aa6 rfl (Nat.le_of_ble_eq_true rfl) rfl (Or.inl rfl) w_a6 fun h14 Aa6 Kh14 => ?_
    replace Or0 := Or0.keep Kh14 (ninS n_r0_a6 nin0)
    replace Oa2 := Oa2.keep Kh14 (ninS n_a2_a6 nin0)
    replace Oa3 := Oa3.keep Kh14 (ninS n_a3_a6 nin0)
    replace Oa4 := Oa4.keep Kh14 (ninS n_a4_a6 nin0)
    replace Oa5 := Oa5.keep Kh14 (ninS n_a5_a6 nin0)
    refine g_aload (pc' := 133) C at_131 rfl rfl rfl ?_
    refine g_iconst (pc' := 134) (z := (3 : Int32)) C at_133 rfl rfl ?_
    refine g_iloadN (pc' := 135) C at_134 rfl rfl ?_
    refine g_iconst (pc' := 136) (z := (2 : Int32)) C at_135 rfl rfl ?_
    refine g_icmpY (xi := 0) (yi := 2) (pc1 := 144) C at_136 (by decide) rfl rfl rfl (by decide) ?_
    refine g_iloadN (pc' := 145) C at_144 rfl rfl ?_
    refine g_iconst (pc' := 146) (z := (3 : Int32)) C at_145 rfl rfl ?_
    refine g_icmpY (xi := 0) (yi := 3) (pc1 := 154) C at_146 (by decide) rfl rfl rfl (by decide) ?_
    refine g_aconst_null (pc' := 155) C at_154 rfl ?_
    refine g_aastore (pc' := 156) (i := 3) (vs' := [(.ref r0), (.ref a5), .null, .null, .null]) C at_155 rfl Aa6 rfl (Nat.le_of_ble_eq_true rfl) rfl (Or.inl rfl) w_a6 fun h15 Aa6 Kh15 => ?_
    replace Or0 := Or0.keep Kh15 (ninS n_r0_a6 nin0)
    replace Oa2 := Oa2.keep Kh15 (ninS n_a2_a6 nin0)
    replace Oa3 := Oa3.keep Kh15 (ninS n_a3_a6 nin0)
    replace Oa4 := Oa4.keep Kh15 (ninS n_a4_a6 nin0)
    replace Oa5 := Oa5.keep Kh15 (ninS n_a5_a6 nin0)
    refine g_aload (pc' := 158) C at_156 rfl rfl rfl ?_
    refine g_iconst (pc' := 159) (z := (4 : Int32)) C at_158 rfl rfl ?_
    refine g_iloadN (pc' := 160) C at_159 rfl rfl ?_
    refine g_iconst (pc' := 161) (z := (3 : Int32)) C at_160 rfl rfl ?_
    refine g_icmpY (xi := 0) (yi := 3) (pc1 := 169) C at_161 (by decide) rfl rfl rfl (by decide) ?_
    refine g_aconst_null (pc' := 170) C at_169 rfl ?_
    refine g_aastore (pc' := 171) (i := 4) (vs' := [(.ref r0), (.ref a5), .null, .null, .null]) C at_170 rfl Aa6 rfl (Nat.le_of_ble_eq_true rfl) rfl (Or.inl rfl) w_a6 fun h16 Aa6 Kh16 => ?_
    replace Or0 := Or0.keep Kh16 (ninS n_r0_a6 nin0)
    replace Oa2 := Oa2.keep Kh16 (ninS n_a2_a6 nin0)
    replace Oa3 := Oa3.keep Kh16 (ninS n_a3_a6 nin0)
    replace Oa4 := Oa4.keep Kh16 (ninS n_a4_a6 nin0)
    replace Oa5 := Oa5.keep Kh16 (ninS n_a5_a6 nin0)
    refine g_iloadN (pc' := 172) C at_171 rfl rfl ?_
    refine g_iconst (pc' := 173) (z := (2 : Int32)) C at_172 rfl rfl ?_
    refine g_iadd (pc' := 174) C at_173 rfl ?_
    show Go W Q h16 6 15 174 #[.val (.int p0), .val (.int (0 : Int32)), .val (.ref r0), .val (.ref a2), .val (.ref a3), .val (.ref a4), .val (.ref a5), .val (.ref a6), .unset, .unset] [(.int (2 : Int32))]
    refine g_istore (pc' := 176) (L' := #[.val (.int p0), .val (.int (0 : Int32)), .val (.ref r0), .val (.ref a2), .val (.ref a3), .val (.ref a4), .val (.ref a5), .val (.ref a6), .val (.int (2 : Int32)), .unset]) C at_174 rfl rfl ?_
    refine g_aload (pc' := 178) C at_176 rfl rfl rfl ?_
    refine g_iload (pc' := 180) C at_178 rfl rfl ?_
    refine g_iconst (pc' := 181) (z := (0 : Int32)) C at_180 rfl rfl ?_
    refine g_staticP (y := (⟨"com/example/slot512/slot512/LinkLinkAtEndOfPinLaw", "step", "([Lcom/example/slot512/slot512/Link;II)Z"⟩ : MethodName)) (pc' := 184) (k' := 6) (n' := 15) (S := []) (as := [(.ref a6), (.int (2 : Int32)), (.int (0 : Int32))]) C at_181 rfl (hw _ (List.mem_of_getElem? (i := 25) rfl)) (hw _ (List.mem_of_getElem? (i := 26) rfl)) (hw _ (List.mem_of_getElem? (i := 27) rfl)) (hw _ (List.mem_of_getElem? (i := 28) rfl)) (by decide) (lenOf pd_3 rfl) (con_step1 W.l Z a0 hw a6 r0 a5 2 0 0 1 (.ref a5) (.ref r0) _ (by decide) (by decide) rfl (by decide) rfl rfl h16 Or0 Oa5 Aa6) rfl rfl (Nat.le_of_ble_eq_true rfl) (Nat.le_of_ble_eq_true rfl) rfl rfl (Nat.le_of_ble_eq_true rfl) (Nat.le_of_ble_eq_true rfl) (S1 := [(.int (1 : Int32))]) rfl ?_
    refine g_ifN (xi := 1) (pc2 := 187) C at_184 rfl rfl (by decide) ?_
    refine g_aload (pc' := 189) C at_187 rfl rfl rfl ?_
    refine g_iload (pc' := 191) C at_189 rfl rfl ?_
    refine g_iconst (pc' := 192) (z := (1 : Int32)) C at_191 rfl rfl ?_
    refine g_staticP (y := (⟨"com/example/slot512/slot512/LinkLinkAtEndOfPinLaw", "step", "([Lcom/example/slot512/slot512/Link;II)Z"⟩ : MethodName)) (pc' := 195) (k' := 6) (n' := 15) (S := []) (as := [(.ref a6), (.int (2 : Int32)), (.int (1 : Int32))]) C at_192 rfl (hw _ (List.mem_of_getElem? (i := 25) rfl)) (hw _ (List.mem_of_getElem? (i := 26) rfl)) (hw _ (List.mem_of_getElem? (i := 27) rfl)) (hw _ (List.mem_of_getElem? (i := 28) rfl)) (by decide) (lenOf pd_3 rfl) (con_step1 W.l Z a0 hw a6 a5 r0 2 1 1 0 (.ref r0) (.ref a5) _ (by decide) (by decide) rfl (by decide) rfl rfl h16 Oa5 Or0 Aa6) rfl rfl (Nat.le_of_ble_eq_true rfl) (Nat.le_of_ble_eq_true rfl) rfl rfl (Nat.le_of_ble_eq_true rfl) (Nat.le_of_ble_eq_true rfl) (S1 := [(.int (1 : Int32))]) rfl ?_
    refine g_ifN (xi := 1) (pc2 := 198) C at_195 rfl rfl (by decide) ?_
    refine g_aload (pc' := 200) C at_198 rfl rfl rfl ?_
    refine g_iload (pc' := 202) C at_200 rfl rfl ?_
    refine g_iconst (pc' := 203) (z := (2 : Int32)) C at_202 rfl rfl ?_
    refine g_staticP (y := (⟨"com/example/slot512/slot512/LinkLinkAtEndOfPinLaw", "step", "([Lcom/example/slot512/slot512/Link;II)Z"⟩ : MethodName)) (pc' := 206) (k' := 6) (n' := 15) (S := []) (as := [(.ref a6), (.int (2 : Int32)), (.int (2 : Int32))]) C at_203 rfl (hw _ (List.mem_of_getElem? (i := 25) rfl)) (hw _ (List.mem_of_getElem? (i := 26) rfl)) (hw _ (List.mem_of_getElem? (i := 27) rfl)) (hw _ (List.mem_of_getElem? (i := 28) rfl)) (by decide) (lenOf pd_3 rfl) (con_step0 W.l Z a0 hw a6 2 2 (by decide) h16) rfl rfl (Nat.le_of_ble_eq_true rfl) (Nat.le_of_ble_eq_true rfl) rfl rfl (Nat.le_of_ble_eq_true rfl) (Nat.le_of_ble_eq_true rfl) (S1 := [(.int (1 : Int32))]) rfl ?_
    refine g_ifN (xi := 1) (pc2 := 209) C at_206 rfl rfl (by decide) ?_
    refine g_aload (pc' := 211) C at_209 rfl rfl rfl ?_
    refine g_iload (pc' := 213) C at_211 rfl rfl ?_
    refine g_iconst (pc' := 214) (z := (3 : Int32)) C at_213 rfl rfl ?_
    refine g_staticP (y := (⟨"com/example/slot512/slot512/LinkLinkAtEndOfPinLaw", "step", "([Lcom/example/slot512/slot512/Link;II)Z"⟩ : MethodName)) (pc' := 217) (k' := 6) (n' := 15) (S := []) (as := [(.ref a6), (.int (2 : Int32)), (.int (3 : Int32))]) C at_214 rfl (hw _ (List.mem_of_getElem? (i := 25) rfl)) (hw _ (List.mem_of_getElem? (i := 26) rfl)) (hw _ (List.mem_of_getElem? (i := 27) rfl)) (hw _ (List.mem_of_getElem? (i := 28) rfl)) (by decide) (lenOf pd_3 rfl) (con_step0 W.l Z a0 hw a6 2 3 (by decide) h16) rfl rfl (Nat.le_of_ble_eq_true rfl) (Nat.le_of_ble_eq_true rfl) rfl rfl (Nat.le_of_ble_eq_true rfl) (Nat.le_of_ble_eq_true rfl) (S1 := [(.int (1 : Int32))]) rfl ?_
    refine g_ifN (xi := 1) (pc2 := 220) C at_217 rfl rfl (by decide) ?_
    refine g_aload (pc' := 222) C at_220 rfl rfl rfl ?_
    refine g_iload (pc' := 224) C at_222 rfl rfl ?_
    refine g_iconst (pc' := 225) (z := (4 : Int32)) C at_224 rfl rfl ?_
    refine g_staticP (y := (⟨"com/example/slot512/slot512/LinkLinkAtEndOfPinLaw", "step", "([Lcom/example/slot512/slot512/Link;II)Z"⟩ : MethodName)) (pc' := 228) (k' := 6) (n' := 15) (S := []) (as := [(.ref a6), (.int (2 : Int32)), (.int (4 : Int32))]) C at_225 rfl (hw _ (List.mem_of_getElem? (i := 25) rfl)) (hw _ (List.mem_of_getElem? (i := 26) rfl)) (hw _ (List.mem_of_getElem? (i := 27) rfl)) (hw _ (List.mem_of_getElem? (i := 28) rfl)) (by decide) (lenOf pd_3 rfl) (con_step0 W.l Z a0 hw a6 2 4 (by decide) h16) rfl rfl (Nat.le_of_ble_eq_true rfl) (Nat.le_of_ble_eq_true rfl) rfl rfl (Nat.le_of_ble_eq_true rfl) (Nat.le_of_ble_eq_true rfl) (S1 := [(.int (1 : Int32))]) rfl ?_
    refine g_ifN (xi := 1) (pc2 := 231) C at_228 rfl rfl (by decide) ?_
    refine g_iconst (pc' := 232) (z := (1 : Int32)) C at_231 rfl rfl ?_
    refine g_goto C at_232 (by decide) (pc' := 236) rfl ?_
    refine g_istore (pc' := 238) (L' := #[.val (.int p0), .val (.int (0 : Int32)), .val (.ref r0), .val (.ref a2), .val (.ref a3), .val (.ref a4), .val (.ref a5), .val (.ref a6), .val (.int (2 : Int32)), .val (.int (1 : Int32))]) C at_236 rfl rfl ?_
    refine g_iload (pc' := 240) C at_238 rfl rfl ?_
    refine g_ifN (xi := 1) (pc2 := 243) C at_240 rfl rfl (by decide) ?_
    refine g_aloadN (pc' := 244) C at_243 rfl rfl rfl ?_
    refine g_virtualP (y := (⟨"com/example/slot512/slot512/Link", "isEmptyList", "()Z"⟩ : MethodName)) (a := r0) (pc' := 247) (k' := 6) (n' := 15) (S := []) (as := []) C at_244 rfl (hw _ (List.mem_of_getElem? (i := 31) rfl)) (hw _ (List.mem_of_getElem? (i := 33) rfl)) (hw _ (List.mem_of_getElem? (i := 2) rfl)) (hw _ (List.mem_of_getElem? (i := 35) rfl)) (hw _ (List.mem_of_getElem? (i := 32) rfl)) (hw _ (List.mem_of_getElem? (i := 34) rfl)) (by decide) Or0.1 (lenOf pd_4 rfl) (con_isE W.l Z a0 hw r0 a5 (.ref a5) n_r0_a5 h16 Or0) rfl rfl (Nat.le_of_ble_eq_true rfl) (Nat.le_of_ble_eq_true rfl) rfl rfl (Nat.le_of_ble_eq_true rfl) (Nat.le_of_ble_eq_true rfl) (S1 := [(.int (0 : Int32))]) rfl ?_
    refine g_ifN (xi := 0) (pc2 := 250) C at_247 rfl rfl (by decide) ?_
    refine g_iconst (pc' := 251) (z := (1 : Int32)) C at_250 rfl rfl ?_
    refine g_goto C at_251 (by decide) (pc' := 255) rfl ?_
    refine g_istore (pc' := 257) (L' := #[.val (.int p0), .val (.int (0 : Int32)), .val (.ref r0), .val (.ref a2), .val (.ref a3), .val (.ref a4), .val (.ref a5), .val (.ref a6), .val (.int (2 : Int32)), .val (.int (1 : Int32))]) C at_255 rfl rfl ?_
    refine g_iloadN (pc' := 258) C at_257 rfl rfl ?_
    refine g_iconst (pc' := 259) (z := (1 : Int32)) C at_258 rfl rfl ?_
    refine g_icmpN (xi := 0) (yi := 1) (pc2 := 262) C at_259 rfl rfl rfl (by decide) ?_
    refine g_iload (pc' := 264) C at_262 rfl rfl ?_
    refine g_ifN (xi := 1) (pc2 := 267) C at_264 rfl rfl (by decide) ?_
    refine g_aloadN (pc' := 268) C at_267 rfl rfl rfl ?_
    refine g_getO (pc' := 271) (j := 0) C at_268 rfl (hw _ (List.mem_of_getElem? (i := 30) rfl)) Oa2 rfl ?_
    refine g_ifnonnull (pc1 := 285) (pc2 := 274) C at_271 (by decide) rfl rfl rfl (fun c => absurd rfl c) (fun _ => ?_)
    refine g_aloadN (pc' := 275) C at_274 rfl rfl rfl ?_
    refine g_getO (pc' := 278) (j := 1) C at_275 rfl (hw _ (List.mem_of_getElem? (i := 29) rfl)) Oa2 rfl ?_
    refine g_ifnonnull (pc1 := 285) (pc2 := 281) C at_278 (by decide) rfl rfl rfl (fun c => absurd rfl c) (fun _ => ?_)
    refine g_iconst (pc' := 282) (z := (1 : Int32)) C at_281 rfl rfl ?_
    refine g_goto C at_282 (by decide) (pc' := 286) rfl ?_
    refine g_istore (pc' := 288) (L' := #[.val (.int p0), .val (.int (0 : Int32)), .val (.ref r0), .val (.ref a2), .val (.ref a3), .val (.ref a4), .val (.ref a5), .val (.ref a6), .val (.int (2 : Int32)), .val (.int (1 : Int32))]) C at_286 rfl rfl ?_
    refine g_iloadN (pc' := 289) C at_288 rfl rfl ?_
    refine g_iconst (pc' := 290) (z := (2 : Int32)) C at_289 rfl rfl ?_
    refine g_icmpN (xi := 0) (yi := 2) (pc2 := 293) C at_290 rfl rfl rfl (by decide) ?_
    refine g_iload (pc' := 295) C at_293 rfl rfl ?_
    refine g_ifN (xi := 1) (pc2 := 298) C at_295 rfl rfl (by decide) ?_
    refine g_aload (pc' := 300) C at_298 rfl rfl rfl ?_
    refine g_getO (pc' := 303) (j := 0) C at_300 rfl (hw _ (List.mem_of_getElem? (i := 30) rfl)) Oa3 rfl ?_
    refine g_ifnonnull (pc1 := 318) (pc2 := 306) C at_303 (by decide) rfl rfl rfl (fun c => absurd rfl c) (fun _ => ?_)
    refine g_aload (pc' := 308) C at_306 rfl rfl rfl ?_
    refine g_getO (pc' := 311) (j := 1) C at_308 rfl (hw _ (List.mem_of_getElem? (i := 29) rfl)) Oa3 rfl ?_
    refine g_ifnonnull (pc1 := 318) (pc2 := 314) C at_311 (by decide) rfl rfl rfl (fun c => absurd rfl c) (fun _ => ?_)
    refine g_iconst (pc' := 315) (z := (1 : Int32)) C at_314 rfl rfl ?_
    refine g_goto C at_315 (by decide) (pc' := 319) rfl ?_
    refine g_istore (pc' := 321) (L' := #[.val (.int p0), .val (.int (0 : Int32)), .val (.ref r0), .val (.ref a2), .val (.ref a3), .val (.ref a4), .val (.ref a5), .val (.ref a6), .val (.int (2 : Int32)), .val (.int (1 : Int32))]) C at_319 rfl rfl ?_
    refine g_iloadN (pc' := 322) C at_321 rfl rfl ?_
    refine g_iconst (pc' := 323) (z := (3 : Int32)) C at_322 rfl rfl ?_
    refine g_icmpN (xi := 0) (yi := 3) (pc2 := 326) C at_323 rfl rfl rfl (by decide) ?_
    refine g_iload (pc' := 328) C at_326 rfl rfl ?_
    refine g_ifN (xi := 1) (pc2 := 331) C at_328 rfl rfl (by decide) ?_
    refine g_aload (pc' := 333) C at_331 rfl rfl rfl ?_
    refine g_getO (pc' := 336) (j := 0) C at_333 rfl (hw _ (List.mem_of_getElem? (i := 30) rfl)) Oa4 rfl ?_
    refine g_ifnonnull (pc1 := 351) (pc2 := 339) C at_336 (by decide) rfl rfl rfl (fun c => absurd rfl c) (fun _ => ?_)
    refine g_aload (pc' := 341) C at_339 rfl rfl rfl ?_
    refine g_getO (pc' := 344) (j := 1) C at_341 rfl (hw _ (List.mem_of_getElem? (i := 29) rfl)) Oa4 rfl ?_
    refine g_ifnonnull (pc1 := 351) (pc2 := 347) C at_344 (by decide) rfl rfl rfl (fun c => absurd rfl c) (fun _ => ?_)
    refine g_iconst (pc' := 348) (z := (1 : Int32)) C at_347 rfl rfl ?_
    refine g_goto C at_348 (by decide) (pc' := 352) rfl ?_
    refine g_istore (pc' := 354) (L' := #[.val (.int p0), .val (.int (0 : Int32)), .val (.ref r0), .val (.ref a2), .val (.ref a3), .val (.ref a4), .val (.ref a5), .val (.ref a6), .val (.int (2 : Int32)), .val (.int (1 : Int32))]) C at_352 rfl rfl ?_
    refine g_iload (pc' := 356) C at_354 rfl rfl ?_
    refine g_retN C (by simp) at_356 (by decide) (by decide) ?_
    subst hQ
    rfl
  ·
    refine g_iloadN (pc' := 44) C at_43 rfl rfl ?_
    refine g_iconst (pc' := 45) (z := (1 : Int32)) C at_44 rfl rfl ?_
    refine g_icmpN (xi := 1) (yi := 1) (pc2 := 48) C at_45 rfl rfl rfl (by decide) ?_
    refine g_aloadN (pc' := 49) C at_48 rfl rfl rfl ?_
    refine g_aloadN (pc' := 50) C at_49 rfl rfl rfl ?_
    refine g_virtual (y := (⟨"com/example/slot512/slot512/Link", "linkAtEndOf", "(Lcom/example/slot512/slot512/Link;)V"⟩ : MethodName)) (a := a2) (pc' := 53) (k' := 5) (n' := 10) (S := []) (as := [(.ref r0)]) C at_50 rfl (hw _ (List.mem_of_getElem? (i := 18) rfl)) (hw _ (List.mem_of_getElem? (i := 20) rfl)) (hw _ (List.mem_of_getElem? (i := 2) rfl)) (hw _ (List.mem_of_getElem? (i := 22) rfl)) (hw _ (List.mem_of_getElem? (i := 19) rfl)) (hw _ (List.mem_of_getElem? (i := 21) rfl)) (by decide) Oa2.1 (lenOf pd_2 rfl) (con_link0 W.l Z a0 hw a2 r0 .null .null (.ref r0) (Ne.symm n_r0_a2) h8 Oa2 Or0) rfl rfl (Nat.le_of_ble_eq_true rfl) (Nat.le_of_ble_eq_true rfl) rfl rfl (Nat.le_of_ble_eq_true rfl) (Nat.le_of_ble_eq_true rfl) (allS w_a2 (allS w_r0 all0)) fun vh17 h17 qh17 Kh17 => ?_
    obtain ⟨rfl, Oa2, Or0⟩ := qh17
    replace Oa3 := Oa3.keep Kh17 (ninS (Ne.symm n_a2_a3) (ninS (Ne.symm n_r0_a3) nin0))
    replace Oa4 := Oa4.keep Kh17 (ninS (Ne.symm n_a2_a4) (ninS (Ne.symm n_r0_a4) nin0))
    replace Oa5 := Oa5.keep Kh17 (ninS (Ne.symm n_a2_a5) (ninS (Ne.symm n_r0_a5) nin0))
    show Go W Q h17 5 10 53 #[.val (.int p0), .val (.int (1 : Int32)), .val (.ref r0), .val (.ref a2), .val (.ref a3), .val (.ref a4), .val (.ref a5), .unset, .unset, .unset] []
    refine g_iloadN (pc' := 54) C at_53 rfl rfl ?_
    refine g_iconst (pc' := 55) (z := (2 : Int32)) C at_54 rfl rfl ?_
    refine g_icmpY (xi := 1) (yi := 2) (pc1 := 64) C at_55 (by decide) rfl rfl rfl (by decide) ?_
    refine g_iloadN (pc' := 65) C at_64 rfl rfl ?_
    refine g_iconst (pc' := 66) (z := (3 : Int32)) C at_65 rfl rfl ?_
    refine g_icmpY (xi := 1) (yi := 3) (pc1 := 75) C at_66 (by decide) rfl rfl rfl (by decide) ?_
    refine g_aload (pc' := 77) C at_75 rfl rfl rfl ?_
    refine g_aloadN (pc' := 78) C at_77 rfl rfl rfl ?_
    refine g_virtual (y := (⟨"com/example/slot512/slot512/Link", "linkAtEndOf", "(Lcom/example/slot512/slot512/Link;)V"⟩ : MethodName)) (a := a5) (pc' := 81) (k' := 5) (n' := 10) (S := []) (as := [(.ref r0)]) C at_78 rfl (hw _ (List.mem_of_getElem? (i := 18) rfl)) (hw _ (List.mem_of_getElem? (i := 20) rfl)) (hw _ (List.mem_of_getElem? (i := 2) rfl)) (hw _ (List.mem_of_getElem? (i := 22) rfl)) (hw _ (List.mem_of_getElem? (i := 19) rfl)) (hw _ (List.mem_of_getElem? (i := 21) rfl)) (by decide) Oa5.1 (lenOf pd_2 rfl) (con_link1 W.l Z a0 hw a5 r0 a2 .null .null (.ref a2) (.ref r0) (.ref r0) (Ne.symm n_r0_a5) (Ne.symm n_a2_a5) (Ne.symm n_r0_a2) h17 Oa5 Or0 Oa2) rfl rfl (Nat.le_of_ble_eq_true rfl) (Nat.le_of_ble_eq_true rfl) rfl rfl (Nat.le_of_ble_eq_true rfl) (Nat.le_of_ble_eq_true rfl) (allS w_a5 (allS w_r0 (allS w_a2 all0))) fun vh18 h18 qh18 Kh18 => ?_
    obtain ⟨rfl, Oa5, Or0, Oa2⟩ := qh18
    replace Oa3 := Oa3.keep Kh18 (ninS n_a3_a5 (ninS (Ne.symm n_r0_a3) (ninS (Ne.symm n_a2_a3) nin0)))
    replace Oa4 := Oa4.keep Kh18 (ninS n_a4_a5 (ninS (Ne.symm n_r0_a4) (ninS (Ne.symm n_a2_a4) nin0)))
    show Go W Q h18 5 10 81 #[.val (.int p0), .val (.int (1 : Int32)), .val (.ref r0), .val (.ref a2), .val (.ref a3), .val (.ref a4), .val (.ref a5), .unset, .unset, .unset] []
    refine g_iconst (pc' := 82) (z := (5 : Int32)) C at_81 rfl rfl ?_
    refine g_anewarray (pc' := 85) (len := 5) (cap := 5) (k' := 6) (n' := 15) C at_82 rfl (hw _ (List.mem_of_getElem? (i := 16) rfl)) (hw _ (List.mem_of_getElem? (i := 23) rfl)) rfl (by decide) (by decide) rfl rfl (by decide) (by decide) fun h19 a7 e_a7 Eh19 Aa7 w_a7 => ?_
    have n_r0_a7 : r0 ≠ a7 := by rw [e_a7]; exact Nat.ne_of_lt Or0.lt
    have n_a2_a7 : a2 ≠ a7 := by rw [e_a7]; exact Nat.ne_of_lt Oa2.lt
    have n_a3_a7 : a3 ≠ a7 := by rw [e_a7]; exact Nat.ne_of_lt Oa3.lt
    have n_a4_a7 : a4 ≠ a7 := by rw [e_a7]; exact Nat.ne_of_lt Oa4.lt
    have n_a5_a7 : a5 ≠ a7 := by rw [e_a7]; exact Nat.ne_of_lt Oa5.lt
    replace Or0 := Or0.ext Eh19
    replace Oa2 := Oa2.ext Eh19
    replace Oa3 := Oa3.ext Eh19
    replace Oa4 := Oa4.ext Eh19
    replace Oa5 := Oa5.ext Eh19
    replace Aa7 : ArR Z h19 a7 "com/example/slot512/slot512/Link" [.null, .null, .null, .null, .null] := Aa7
    refine g_astore (pc' := 87) (L' := #[.val (.int p0), .val (.int (1 : Int32)), .val (.ref r0), .val (.ref a2), .val (.ref a3), .val (.ref a4), .val (.ref a5), .val (.ref a7), .unset, .unset]) C at_85 rfl rfl rfl ?_
    refine g_aload (pc' := 89) C at_87 rfl rfl rfl ?_
    refine g_iconst (pc' := 90) (z := (0 : Int32)) C at_89 rfl rfl ?_
    refine g_aloadN (pc' := 91) C at_90 rfl rfl rfl ?_
    refine g_aastore (pc' := 92) (i := 0) (vs' := [(.ref r0), .null, .null, .null, .null]) C at_91 rfl Aa7 rfl (Nat.le_of_ble_eq_true rfl) rfl (Or.inr ⟨_, rfl, Or0.1⟩) w_a7 fun h20 Aa7 Kh20 => ?_
    replace Or0 := Or0.keep Kh20 (ninS n_r0_a7 nin0)
    replace Oa2 := Oa2.keep Kh20 (ninS n_a2_a7 nin0)
    replace Oa3 := Oa3.keep Kh20 (ninS n_a3_a7 nin0)
    replace Oa4 := Oa4.keep Kh20 (ninS n_a4_a7 nin0)
    replace Oa5 := Oa5.keep Kh20 (ninS n_a5_a7 nin0)
    refine g_aload (pc' := 94) C at_92 rfl rfl rfl ?_
    refine g_iconst (pc' := 95) (z := (1 : Int32)) C at_94 rfl rfl ?_
    refine g_iloadN (pc' := 96) C at_95 rfl rfl ?_
    refine g_ifY (xi := 1) (pc1 := 104) C at_96 (by decide) rfl rfl (by decide) ?_
    refine g_aloadN (pc' := 105) C at_104 rfl rfl rfl ?_
    refine g_aastore (pc' := 106) (i := 1) (vs' := [(.ref r0), (.ref a2), .null, .null, .null]) C at_105 rfl Aa7 rfl (Nat.le_of_ble_eq_true rfl) rfl (Or.inr ⟨_, rfl, Oa2.1⟩) w_a7 fun h21 Aa7 Kh21 => ?_
    replace Or0 := Or0.keep Kh21 (ninS n_r0_a7 nin0)
    replace Oa2 := Oa2.keep Kh21 (ninS n_a2_a7 nin0)
    replace Oa3 := Oa3.keep Kh21 (ninS n_a3_a7 nin0)
    replace Oa4 := Oa4.keep Kh21 (ninS n_a4_a7 nin0)
    replace Oa5 := Oa5.keep Kh21 (ninS n_a5_a7 nin0)
    refine g_aload (pc' := 108) C at_106 rfl rfl rfl ?_
    refine g_iconst (pc' := 109) (z := (2 : Int32)) C at_108 rfl rfl ?_
    refine g_iloadN (pc' := 110) C at_109 rfl rfl ?_
    refine g_iconst (pc' := 111) (z := (1 : Int32)) C at_110 rfl rfl ?_
    refine g_icmpN (xi := 1) (yi := 1) (pc2 := 114) C at_111 rfl rfl rfl (by decide) ?_
    refine g_aload (pc' := 116) C at_114 rfl rfl rfl ?_
    refine g_goto C at_116 (by decide) (pc' := 130) rfl ?_
    refine g_aastore (pc' := 131) (i := 2) (vs' := [(.ref r0), (.ref a2), (.ref a5), .null, .null]) C at_130 rfl Aa7 rfl (Nat.le_of_ble_eq_true rfl) rfl (Or.inr ⟨_, rfl, Oa5.1⟩) w_a7 fun h22 Aa7 Kh22 => ?_
    replace Or0 := Or0.keep Kh22 (ninS n_r0_a7 nin0)
    replace Oa2 := Oa2.keep Kh22 (ninS n_a2_a7 nin0)
    replace Oa3 := Oa3.keep Kh22 (ninS n_a3_a7 nin0)
    replace Oa4 := Oa4.keep Kh22 (ninS n_a4_a7 nin0)
    replace Oa5 := Oa5.keep Kh22 (ninS n_a5_a7 nin0)
    refine g_aload (pc' := 133) C at_131 rfl rfl rfl ?_
    refine g_iconst (pc' := 134) (z := (3 : Int32)) C at_133 rfl rfl ?_
    refine g_iloadN (pc' := 135) C at_134 rfl rfl ?_
    refine g_iconst (pc' := 136) (z := (2 : Int32)) C at_135 rfl rfl ?_
    refine g_icmpY (xi := 1) (yi := 2) (pc1 := 144) C at_136 (by decide) rfl rfl rfl (by decide) ?_
    refine g_iloadN (pc' := 145) C at_144 rfl rfl ?_
    refine g_iconst (pc' := 146) (z := (3 : Int32)) C at_145 rfl rfl ?_
    refine g_icmpY (xi := 1) (yi := 3) (pc1 := 154) C at_146 (by decide) rfl rfl rfl (by decide) ?_
    refine g_aconst_null (pc' := 155) C at_154 rfl ?_
    refine g_aastore (pc' := 156) (i := 3) (vs' := [(.ref r0), (.ref a2), (.ref a5), .null, .null]) C at_155 rfl Aa7 rfl (Nat.le_of_ble_eq_true rfl) rfl (Or.inl rfl) w_a7 fun h23 Aa7 Kh23 => ?_
    replace Or0 := Or0.keep Kh23 (ninS n_r0_a7 nin0)
    replace Oa2 := Oa2.keep Kh23 (ninS n_a2_a7 nin0)
    replace Oa3 := Oa3.keep Kh23 (ninS n_a3_a7 nin0)
    replace Oa4 := Oa4.keep Kh23 (ninS n_a4_a7 nin0)
    replace Oa5 := Oa5.keep Kh23 (ninS n_a5_a7 nin0)
    refine g_aload (pc' := 158) C at_156 rfl rfl rfl ?_
    refine g_iconst (pc' := 159) (z := (4 : Int32)) C at_158 rfl rfl ?_
    refine g_iloadN (pc' := 160) C at_159 rfl rfl ?_
    refine g_iconst (pc' := 161) (z := (3 : Int32)) C at_160 rfl rfl ?_
    refine g_icmpY (xi := 1) (yi := 3) (pc1 := 169) C at_161 (by decide) rfl rfl rfl (by decide) ?_
    refine g_aconst_null (pc' := 170) C at_169 rfl ?_
    refine g_aastore (pc' := 171) (i := 4) (vs' := [(.ref r0), (.ref a2), (.ref a5), .null, .null]) C at_170 rfl Aa7 rfl (Nat.le_of_ble_eq_true rfl) rfl (Or.inl rfl) w_a7 fun h24 Aa7 Kh24 => ?_
    replace Or0 := Or0.keep Kh24 (ninS n_r0_a7 nin0)
    replace Oa2 := Oa2.keep Kh24 (ninS n_a2_a7 nin0)
    replace Oa3 := Oa3.keep Kh24 (ninS n_a3_a7 nin0)
    replace Oa4 := Oa4.keep Kh24 (ninS n_a4_a7 nin0)
    replace Oa5 := Oa5.keep Kh24 (ninS n_a5_a7 nin0)
    refine g_iloadN (pc' := 172) C at_171 rfl rfl ?_
    refine g_iconst (pc' := 173) (z := (2 : Int32)) C at_172 rfl rfl ?_
    refine g_iadd (pc' := 174) C at_173 rfl ?_
    show Go W Q h24 6 15 174 #[.val (.int p0), .val (.int (1 : Int32)), .val (.ref r0), .val (.ref a2), .val (.ref a3), .val (.ref a4), .val (.ref a5), .val (.ref a7), .unset, .unset] [(.int (3 : Int32))]
    refine g_istore (pc' := 176) (L' := #[.val (.int p0), .val (.int (1 : Int32)), .val (.ref r0), .val (.ref a2), .val (.ref a3), .val (.ref a4), .val (.ref a5), .val (.ref a7), .val (.int (3 : Int32)), .unset]) C at_174 rfl rfl ?_
    refine g_aload (pc' := 178) C at_176 rfl rfl rfl ?_
    refine g_iload (pc' := 180) C at_178 rfl rfl ?_
    refine g_iconst (pc' := 181) (z := (0 : Int32)) C at_180 rfl rfl ?_
    refine g_staticP (y := (⟨"com/example/slot512/slot512/LinkLinkAtEndOfPinLaw", "step", "([Lcom/example/slot512/slot512/Link;II)Z"⟩ : MethodName)) (pc' := 184) (k' := 6) (n' := 15) (S := []) (as := [(.ref a7), (.int (3 : Int32)), (.int (0 : Int32))]) C at_181 rfl (hw _ (List.mem_of_getElem? (i := 25) rfl)) (hw _ (List.mem_of_getElem? (i := 26) rfl)) (hw _ (List.mem_of_getElem? (i := 27) rfl)) (hw _ (List.mem_of_getElem? (i := 28) rfl)) (by decide) (lenOf pd_3 rfl) (con_step1 W.l Z a0 hw a7 r0 a2 3 0 0 1 (.ref a5) (.ref a5) _ (by decide) (by decide) rfl (by decide) rfl rfl h24 Or0 Oa2 Aa7) rfl rfl (Nat.le_of_ble_eq_true rfl) (Nat.le_of_ble_eq_true rfl) rfl rfl (Nat.le_of_ble_eq_true rfl) (Nat.le_of_ble_eq_true rfl) (S1 := [(.int (1 : Int32))]) rfl ?_
    refine g_ifN (xi := 1) (pc2 := 187) C at_184 rfl rfl (by decide) ?_
    refine g_aload (pc' := 189) C at_187 rfl rfl rfl ?_
    refine g_iload (pc' := 191) C at_189 rfl rfl ?_
    refine g_iconst (pc' := 192) (z := (1 : Int32)) C at_191 rfl rfl ?_
    refine g_staticP (y := (⟨"com/example/slot512/slot512/LinkLinkAtEndOfPinLaw", "step", "([Lcom/example/slot512/slot512/Link;II)Z"⟩ : MethodName)) (pc' := 195) (k' := 6) (n' := 15) (S := []) (as := [(.ref a7), (.int (3 : Int32)), (.int (1 : Int32))]) C at_192 rfl (hw _ (List.mem_of_getElem? (i := 25) rfl)) (hw _ (List.mem_of_getElem? (i := 26) rfl)) (hw _ (List.mem_of_getElem? (i := 27) rfl)) (hw _ (List.mem_of_getElem? (i := 28) rfl)) (by decide) (lenOf pd_3 rfl) (con_step1 W.l Z a0 hw a7 a2 a5 3 1 1 2 (.ref r0) (.ref r0) _ (by decide) (by decide) rfl (by decide) rfl rfl h24 Oa2 Oa5 Aa7) rfl rfl (Nat.le_of_ble_eq_true rfl) (Nat.le_of_ble_eq_true rfl) rfl rfl (Nat.le_of_ble_eq_true rfl) (Nat.le_of_ble_eq_true rfl) (S1 := [(.int (1 : Int32))]) rfl ?_
    refine g_ifN (xi := 1) (pc2 := 198) C at_195 rfl rfl (by decide) ?_
    refine g_aload (pc' := 200) C at_198 rfl rfl rfl ?_
    refine g_iload (pc' := 202) C at_200 rfl rfl ?_
    refine g_iconst (pc' := 203) (z := (2 : Int32)) C at_202 rfl rfl ?_
    refine g_staticP (y := (⟨"com/example/slot512/slot512/LinkLinkAtEndOfPinLaw", "step", "([Lcom/example/slot512/slot512/Link;II)Z"⟩ : MethodName)) (pc' := 206) (k' := 6) (n' := 15) (S := []) (as := [(.ref a7), (.int (3 : Int32)), (.int (2 : Int32))]) C at_203 rfl (hw _ (List.mem_of_getElem? (i := 25) rfl)) (hw _ (List.mem_of_getElem? (i := 26) rfl)) (hw _ (List.mem_of_getElem? (i := 27) rfl)) (hw _ (List.mem_of_getElem? (i := 28) rfl)) (by decide) (lenOf pd_3 rfl) (con_step1 W.l Z a0 hw a7 a5 r0 3 2 2 0 (.ref a2) (.ref a2) _ (by decide) (by decide) rfl (by decide) rfl rfl h24 Oa5 Or0 Aa7) rfl rfl (Nat.le_of_ble_eq_true rfl) (Nat.le_of_ble_eq_true rfl) rfl rfl (Nat.le_of_ble_eq_true rfl) (Nat.le_of_ble_eq_true rfl) (S1 := [(.int (1 : Int32))]) rfl ?_
    refine g_ifN (xi := 1) (pc2 := 209) C at_206 rfl rfl (by decide) ?_
    refine g_aload (pc' := 211) C at_209 rfl rfl rfl ?_
    refine g_iload (pc' := 213) C at_211 rfl rfl ?_
    refine g_iconst (pc' := 214) (z := (3 : Int32)) C at_213 rfl rfl ?_
    refine g_staticP (y := (⟨"com/example/slot512/slot512/LinkLinkAtEndOfPinLaw", "step", "([Lcom/example/slot512/slot512/Link;II)Z"⟩ : MethodName)) (pc' := 217) (k' := 6) (n' := 15) (S := []) (as := [(.ref a7), (.int (3 : Int32)), (.int (3 : Int32))]) C at_214 rfl (hw _ (List.mem_of_getElem? (i := 25) rfl)) (hw _ (List.mem_of_getElem? (i := 26) rfl)) (hw _ (List.mem_of_getElem? (i := 27) rfl)) (hw _ (List.mem_of_getElem? (i := 28) rfl)) (by decide) (lenOf pd_3 rfl) (con_step0 W.l Z a0 hw a7 3 3 (by decide) h24) rfl rfl (Nat.le_of_ble_eq_true rfl) (Nat.le_of_ble_eq_true rfl) rfl rfl (Nat.le_of_ble_eq_true rfl) (Nat.le_of_ble_eq_true rfl) (S1 := [(.int (1 : Int32))]) rfl ?_
    refine g_ifN (xi := 1) (pc2 := 220) C at_217 rfl rfl (by decide) ?_
    refine g_aload (pc' := 222) C at_220 rfl rfl rfl ?_
    refine g_iload (pc' := 224) C at_222 rfl rfl ?_
    refine g_iconst (pc' := 225) (z := (4 : Int32)) C at_224 rfl rfl ?_
    refine g_staticP (y := (⟨"com/example/slot512/slot512/LinkLinkAtEndOfPinLaw", "step", "([Lcom/example/slot512/slot512/Link;II)Z"⟩ : MethodName)) (pc' := 228) (k' := 6) (n' := 15) (S := []) (as := [(.ref a7), (.int (3 : Int32)), (.int (4 : Int32))]) C at_225 rfl (hw _ (List.mem_of_getElem? (i := 25) rfl)) (hw _ (List.mem_of_getElem? (i := 26) rfl)) (hw _ (List.mem_of_getElem? (i := 27) rfl)) (hw _ (List.mem_of_getElem? (i := 28) rfl)) (by decide) (lenOf pd_3 rfl) (con_step0 W.l Z a0 hw a7 3 4 (by decide) h24) rfl rfl (Nat.le_of_ble_eq_true rfl) (Nat.le_of_ble_eq_true rfl) rfl rfl (Nat.le_of_ble_eq_true rfl) (Nat.le_of_ble_eq_true rfl) (S1 := [(.int (1 : Int32))]) rfl ?_
    refine g_ifN (xi := 1) (pc2 := 231) C at_228 rfl rfl (by decide) ?_
    refine g_iconst (pc' := 232) (z := (1 : Int32)) C at_231 rfl rfl ?_
    refine g_goto C at_232 (by decide) (pc' := 236) rfl ?_
    refine g_istore (pc' := 238) (L' := #[.val (.int p0), .val (.int (1 : Int32)), .val (.ref r0), .val (.ref a2), .val (.ref a3), .val (.ref a4), .val (.ref a5), .val (.ref a7), .val (.int (3 : Int32)), .val (.int (1 : Int32))]) C at_236 rfl rfl ?_
    refine g_iload (pc' := 240) C at_238 rfl rfl ?_
    refine g_ifN (xi := 1) (pc2 := 243) C at_240 rfl rfl (by decide) ?_
    refine g_aloadN (pc' := 244) C at_243 rfl rfl rfl ?_
    refine g_virtualP (y := (⟨"com/example/slot512/slot512/Link", "isEmptyList", "()Z"⟩ : MethodName)) (a := r0) (pc' := 247) (k' := 6) (n' := 15) (S := []) (as := []) C at_244 rfl (hw _ (List.mem_of_getElem? (i := 31) rfl)) (hw _ (List.mem_of_getElem? (i := 33) rfl)) (hw _ (List.mem_of_getElem? (i := 2) rfl)) (hw _ (List.mem_of_getElem? (i := 35) rfl)) (hw _ (List.mem_of_getElem? (i := 32) rfl)) (hw _ (List.mem_of_getElem? (i := 34) rfl)) (by decide) Or0.1 (lenOf pd_4 rfl) (con_isE W.l Z a0 hw r0 a2 (.ref a5) n_r0_a2 h24 Or0) rfl rfl (Nat.le_of_ble_eq_true rfl) (Nat.le_of_ble_eq_true rfl) rfl rfl (Nat.le_of_ble_eq_true rfl) (Nat.le_of_ble_eq_true rfl) (S1 := [(.int (0 : Int32))]) rfl ?_
    refine g_ifN (xi := 0) (pc2 := 250) C at_247 rfl rfl (by decide) ?_
    refine g_iconst (pc' := 251) (z := (1 : Int32)) C at_250 rfl rfl ?_
    refine g_goto C at_251 (by decide) (pc' := 255) rfl ?_
    refine g_istore (pc' := 257) (L' := #[.val (.int p0), .val (.int (1 : Int32)), .val (.ref r0), .val (.ref a2), .val (.ref a3), .val (.ref a4), .val (.ref a5), .val (.ref a7), .val (.int (3 : Int32)), .val (.int (1 : Int32))]) C at_255 rfl rfl ?_
    refine g_iloadN (pc' := 258) C at_257 rfl rfl ?_
    refine g_iconst (pc' := 259) (z := (1 : Int32)) C at_258 rfl rfl ?_
    refine g_icmpY (xi := 1) (yi := 1) (pc1 := 288) C at_259 (by decide) rfl rfl rfl (by decide) ?_
    refine g_iloadN (pc' := 289) C at_288 rfl rfl ?_
    refine g_iconst (pc' := 290) (z := (2 : Int32)) C at_289 rfl rfl ?_
    refine g_icmpN (xi := 1) (yi := 2) (pc2 := 293) C at_290 rfl rfl rfl (by decide) ?_
    refine g_iload (pc' := 295) C at_293 rfl rfl ?_
    refine g_ifN (xi := 1) (pc2 := 298) C at_295 rfl rfl (by decide) ?_
    refine g_aload (pc' := 300) C at_298 rfl rfl rfl ?_
    refine g_getO (pc' := 303) (j := 0) C at_300 rfl (hw _ (List.mem_of_getElem? (i := 30) rfl)) Oa3 rfl ?_
    refine g_ifnonnull (pc1 := 318) (pc2 := 306) C at_303 (by decide) rfl rfl rfl (fun c => absurd rfl c) (fun _ => ?_)
    refine g_aload (pc' := 308) C at_306 rfl rfl rfl ?_
    refine g_getO (pc' := 311) (j := 1) C at_308 rfl (hw _ (List.mem_of_getElem? (i := 29) rfl)) Oa3 rfl ?_
    refine g_ifnonnull (pc1 := 318) (pc2 := 314) C at_311 (by decide) rfl rfl rfl (fun c => absurd rfl c) (fun _ => ?_)
    refine g_iconst (pc' := 315) (z := (1 : Int32)) C at_314 rfl rfl ?_
    refine g_goto C at_315 (by decide) (pc' := 319) rfl ?_
    refine g_istore (pc' := 321) (L' := #[.val (.int p0), .val (.int (1 : Int32)), .val (.ref r0), .val (.ref a2), .val (.ref a3), .val (.ref a4), .val (.ref a5), .val (.ref a7), .val (.int (3 : Int32)), .val (.int (1 : Int32))]) C at_319 rfl rfl ?_
    refine g_iloadN (pc' := 322) C at_321 rfl rfl ?_
    refine g_iconst (pc' := 323) (z := (3 : Int32)) C at_322 rfl rfl ?_
    refine g_icmpN (xi := 1) (yi := 3) (pc2 := 326) C at_323 rfl rfl rfl (by decide) ?_
    refine g_iload (pc' := 328) C at_326 rfl rfl ?_
    refine g_ifN (xi := 1) (pc2 := 331) C at_328 rfl rfl (by decide) ?_
    refine g_aload (pc' := 333) C at_331 rfl rfl rfl ?_
    refine g_getO (pc' := 336) (j := 0) C at_333 rfl (hw _ (List.mem_of_getElem? (i := 30) rfl)) Oa4 rfl ?_
    refine g_ifnonnull (pc1 := 351) (pc2 := 339) C at_336 (by decide) rfl rfl rfl (fun c => absurd rfl c) (fun _ => ?_)
    refine g_aload (pc' := 341) C at_339 rfl rfl rfl ?_
    refine g_getO (pc' := 344) (j := 1) C at_341 rfl (hw _ (List.mem_of_getElem? (i := 29) rfl)) Oa4 rfl ?_
    refine g_ifnonnull (pc1 := 351) (pc2 := 347) C at_344 (by decide) rfl rfl rfl (fun c => absurd rfl c) (fun _ => ?_)
    refine g_iconst (pc' := 348) (z := (1 : Int32)) C at_347 rfl rfl ?_
    refine g_goto C at_348 (by decide) (pc' := 352) rfl ?_
    refine g_istore (pc' := 354) (L' := #[.val (.int p0), .val (.int (1 : Int32)), .val (.ref r0), .val (.ref a2), .val (.ref a3), .val (.ref a4), .val (.ref a5), .val (.ref a7), .val (.int (3 : Int32)), .val (.int (1 : Int32))]) C at_352 rfl rfl ?_
    refine g_iload (pc' := 356) C at_354 rfl rfl ?_
    refine g_retN C (by simp) at_356 (by decide) (by decide) ?_
    subst hQ
    rfl
  ·
    refine g_iloadN (pc' := 44) C at_43 rfl rfl ?_
    refine g_iconst (pc' := 45) (z := (1 : Int32)) C at_44 rfl rfl ?_
    refine g_icmpN (xi := 2) (yi := 1) (pc2 := 48) C at_45 rfl rfl rfl (by decide) ?_
    refine g_aloadN (pc' := 49) C at_48 rfl rfl rfl ?_
    refine g_aloadN (pc' := 50) C at_49 rfl rfl rfl ?_
    refine g_virtual (y := (⟨"com/example/slot512/slot512/Link", "linkAtEndOf", "(Lcom/example/slot512/slot512/Link;)V"⟩ : MethodName)) (a := a2) (pc' := 53) (k' := 5) (n' := 10) (S := []) (as := [(.ref r0)]) C at_50 rfl (hw _ (List.mem_of_getElem? (i := 18) rfl)) (hw _ (List.mem_of_getElem? (i := 20) rfl)) (hw _ (List.mem_of_getElem? (i := 2) rfl)) (hw _ (List.mem_of_getElem? (i := 22) rfl)) (hw _ (List.mem_of_getElem? (i := 19) rfl)) (hw _ (List.mem_of_getElem? (i := 21) rfl)) (by decide) Oa2.1 (lenOf pd_2 rfl) (con_link0 W.l Z a0 hw a2 r0 .null .null (.ref r0) (Ne.symm n_r0_a2) h8 Oa2 Or0) rfl rfl (Nat.le_of_ble_eq_true rfl) (Nat.le_of_ble_eq_true rfl) rfl rfl (Nat.le_of_ble_eq_true rfl) (Nat.le_of_ble_eq_true rfl) (allS w_a2 (allS w_r0 all0)) fun vh25 h25 qh25 Kh25 => ?_
    obtain ⟨rfl, Oa2, Or0⟩ := qh25
    replace Oa3 := Oa3.keep Kh25 (ninS (Ne.symm n_a2_a3) (ninS (Ne.symm n_r0_a3) nin0))
    replace Oa4 := Oa4.keep Kh25 (ninS (Ne.symm n_a2_a4) (ninS (Ne.symm n_r0_a4) nin0))
    replace Oa5 := Oa5.keep Kh25 (ninS (Ne.symm n_a2_a5) (ninS (Ne.symm n_r0_a5) nin0))
    show Go W Q h25 5 10 53 #[.val (.int p0), .val (.int (2 : Int32)), .val (.ref r0), .val (.ref a2), .val (.ref a3), .val (.ref a4), .val (.ref a5), .unset, .unset, .unset] []
    refine g_iloadN (pc' := 54) C at_53 rfl rfl ?_
    refine g_iconst (pc' := 55) (z := (2 : Int32)) C at_54 rfl rfl ?_
    refine g_icmpN (xi := 2) (yi := 2) (pc2 := 58) C at_55 rfl rfl rfl (by decide) ?_
    refine g_aload (pc' := 60) C at_58 rfl rfl rfl ?_
    refine g_aloadN (pc' := 61) C at_60 rfl rfl rfl ?_
    refine g_virtual (y := (⟨"com/example/slot512/slot512/Link", "linkAtEndOf", "(Lcom/example/slot512/slot512/Link;)V"⟩ : MethodName)) (a := a3) (pc' := 64) (k' := 5) (n' := 10) (S := []) (as := [(.ref r0)]) C at_61 rfl (hw _ (List.mem_of_getElem? (i := 18) rfl)) (hw _ (List.mem_of_getElem? (i := 20) rfl)) (hw _ (List.mem_of_getElem? (i := 2) rfl)) (hw _ (List.mem_of_getElem? (i := 22) rfl)) (hw _ (List.mem_of_getElem? (i := 19) rfl)) (hw _ (List.mem_of_getElem? (i := 21) rfl)) (by decide) Oa3.1 (lenOf pd_2 rfl) (con_link1 W.l Z a0 hw a3 r0 a2 .null .null (.ref a2) (.ref r0) (.ref r0) (Ne.symm n_r0_a3) (Ne.symm n_a2_a3) (Ne.symm n_r0_a2) h25 Oa3 Or0 Oa2) rfl rfl (Nat.le_of_ble_eq_true rfl) (Nat.le_of_ble_eq_true rfl) rfl rfl (Nat.le_of_ble_eq_true rfl) (Nat.le_of_ble_eq_true rfl) (allS w_a3 (allS w_r0 (allS w_a2 all0))) fun vh26 h26 qh26 Kh26 => ?_
    obtain ⟨rfl, Oa3, Or0, Oa2⟩ := qh26
    replace Oa4 := Oa4.keep Kh26 (ninS (Ne.symm n_a3_a4) (ninS (Ne.symm n_r0_a4) (ninS (Ne.symm n_a2_a4) nin0)))
    replace Oa5 := Oa5.keep Kh26 (ninS (Ne.symm n_a3_a5) (ninS (Ne.symm n_r0_a5) (ninS (Ne.symm n_a2_a5) nin0)))
    show Go W Q h26 5 10 64 #[.val (.int p0), .val (.int (2 : Int32)), .val (.ref r0), .val (.ref a2), .val (.ref a3), .val (.ref a4), .val (.ref a5), .unset, .unset, .unset] []
    refine g_iloadN (pc' := 65) C at_64 rfl rfl ?_
    refine g_iconst (pc' := 66) (z := (3 : Int32)) C at_65 rfl rfl ?_
    refine g_icmpY (xi := 2) (yi := 3) (pc1 := 75) C at_66 (by decide) rfl rfl rfl (by decide) ?_
    refine g_aload (pc' := 77) C at_75 rfl rfl rfl ?_
    refine g_aloadN (pc' := 78) C at_77 rfl rfl rfl ?_
    refine g_virtual (y := (⟨"com/example/slot512/slot512/Link", "linkAtEndOf", "(Lcom/example/slot512/slot512/Link;)V"⟩ : MethodName)) (a := a5) (pc' := 81) (k' := 5) (n' := 10) (S := []) (as := [(.ref r0)]) C at_78 rfl (hw _ (List.mem_of_getElem? (i := 18) rfl)) (hw _ (List.mem_of_getElem? (i := 20) rfl)) (hw _ (List.mem_of_getElem? (i := 2) rfl)) (hw _ (List.mem_of_getElem? (i := 22) rfl)) (hw _ (List.mem_of_getElem? (i := 19) rfl)) (hw _ (List.mem_of_getElem? (i := 21) rfl)) (by decide) Oa5.1 (lenOf pd_2 rfl) (con_link1 W.l Z a0 hw a5 r0 a3 .null .null (.ref a2) (.ref a2) (.ref r0) (Ne.symm n_r0_a5) (Ne.symm n_a3_a5) (Ne.symm n_r0_a3) h26 Oa5 Or0 Oa3) rfl rfl (Nat.le_of_ble_eq_true rfl) (Nat.le_of_ble_eq_true rfl) rfl rfl (Nat.le_of_ble_eq_true rfl) (Nat.le_of_ble_eq_true rfl) (allS w_a5 (allS w_r0 (allS w_a3 all0))) fun vh27 h27 qh27 Kh27 => ?_
    obtain ⟨rfl, Oa5, Or0, Oa3⟩ := qh27
    replace Oa2 := Oa2.keep Kh27 (ninS n_a2_a5 (ninS (Ne.symm n_r0_a2) (ninS n_a2_a3 nin0)))
    replace Oa4 := Oa4.keep Kh27 (ninS n_a4_a5 (ninS (Ne.symm n_r0_a4) (ninS (Ne.symm n_a3_a4) nin0)))
    show Go W Q h27 5 10 81 #[.val (.int p0), .val (.int (2 : Int32)), .val (.ref r0), .val (.ref a2), .val (.ref a3), .val (.ref a4), .val (.ref a5), .unset, .unset, .unset] []
    refine g_iconst (pc' := 82) (z := (5 : Int32)) C at_81 rfl rfl ?_
    refine g_anewarray (pc' := 85) (len := 5) (cap := 5) (k' := 6) (n' := 15) C at_82 rfl (hw _ (List.mem_of_getElem? (i := 16) rfl)) (hw _ (List.mem_of_getElem? (i := 23) rfl)) rfl (by decide) (by decide) rfl rfl (by decide) (by decide) fun h28 a8 e_a8 Eh28 Aa8 w_a8 => ?_
    have n_r0_a8 : r0 ≠ a8 := by rw [e_a8]; exact Nat.ne_of_lt Or0.lt
    have n_a2_a8 : a2 ≠ a8 := by rw [e_a8]; exact Nat.ne_of_lt Oa2.lt
    have n_a3_a8 : a3 ≠ a8 := by rw [e_a8]; exact Nat.ne_of_lt Oa3.lt
    have n_a4_a8 : a4 ≠ a8 := by rw [e_a8]; exact Nat.ne_of_lt Oa4.lt
    have n_a5_a8 : a5 ≠ a8 := by rw [e_a8]; exact Nat.ne_of_lt Oa5.lt
    replace Or0 := Or0.ext Eh28
    replace Oa2 := Oa2.ext Eh28
    replace Oa3 := Oa3.ext Eh28
    replace Oa4 := Oa4.ext Eh28
    replace Oa5 := Oa5.ext Eh28
    replace Aa8 : ArR Z h28 a8 "com/example/slot512/slot512/Link" [.null, .null, .null, .null, .null] := Aa8
    refine g_astore (pc' := 87) (L' := #[.val (.int p0), .val (.int (2 : Int32)), .val (.ref r0), .val (.ref a2), .val (.ref a3), .val (.ref a4), .val (.ref a5), .val (.ref a8), .unset, .unset]) C at_85 rfl rfl rfl ?_
    refine g_aload (pc' := 89) C at_87 rfl rfl rfl ?_
    refine g_iconst (pc' := 90) (z := (0 : Int32)) C at_89 rfl rfl ?_
    refine g_aloadN (pc' := 91) C at_90 rfl rfl rfl ?_
    refine g_aastore (pc' := 92) (i := 0) (vs' := [(.ref r0), .null, .null, .null, .null]) C at_91 rfl Aa8 rfl (Nat.le_of_ble_eq_true rfl) rfl (Or.inr ⟨_, rfl, Or0.1⟩) w_a8 fun h29 Aa8 Kh29 => ?_
    replace Or0 := Or0.keep Kh29 (ninS n_r0_a8 nin0)
    replace Oa2 := Oa2.keep Kh29 (ninS n_a2_a8 nin0)
    replace Oa3 := Oa3.keep Kh29 (ninS n_a3_a8 nin0)
    replace Oa4 := Oa4.keep Kh29 (ninS n_a4_a8 nin0)
    replace Oa5 := Oa5.keep Kh29 (ninS n_a5_a8 nin0)
    refine g_aload (pc' := 94) C at_92 rfl rfl rfl ?_
    refine g_iconst (pc' := 95) (z := (1 : Int32)) C at_94 rfl rfl ?_
    refine g_iloadN (pc' := 96) C at_95 rfl rfl ?_
    refine g_ifY (xi := 2) (pc1 := 104) C at_96 (by decide) rfl rfl (by decide) ?_
    refine g_aloadN (pc' := 105) C at_104 rfl rfl rfl ?_
    refine g_aastore (pc' := 106) (i := 1) (vs' := [(.ref r0), (.ref a2), .null, .null, .null]) C at_105 rfl Aa8 rfl (Nat.le_of_ble_eq_true rfl) rfl (Or.inr ⟨_, rfl, Oa2.1⟩) w_a8 fun h30 Aa8 Kh30 => ?_
    replace Or0 := Or0.keep Kh30 (ninS n_r0_a8 nin0)
    replace Oa2 := Oa2.keep Kh30 (ninS n_a2_a8 nin0)
    replace Oa3 := Oa3.keep Kh30 (ninS n_a3_a8 nin0)
    replace Oa4 := Oa4.keep Kh30 (ninS n_a4_a8 nin0)
    replace Oa5 := Oa5.keep Kh30 (ninS n_a5_a8 nin0)
    refine g_aload (pc' := 108) C at_106 rfl rfl rfl ?_
    refine g_iconst (pc' := 109) (z := (2 : Int32)) C at_108 rfl rfl ?_
    refine g_iloadN (pc' := 110) C at_109 rfl rfl ?_
    refine g_iconst (pc' := 111) (z := (1 : Int32)) C at_110 rfl rfl ?_
    refine g_icmpY (xi := 2) (yi := 1) (pc1 := 119) C at_111 (by decide) rfl rfl rfl (by decide) ?_
    refine g_iloadN (pc' := 120) C at_119 rfl rfl ?_
    refine g_iconst (pc' := 121) (z := (2 : Int32)) C at_120 rfl rfl ?_
    refine g_icmpN (xi := 2) (yi := 2) (pc2 := 124) C at_121 rfl rfl rfl (by decide) ?_
    refine g_aload (pc' := 126) C at_124 rfl rfl rfl ?_
    refine g_goto C at_126 (by decide) (pc' := 130) rfl ?_
    refine g_aastore (pc' := 131) (i := 2) (vs' := [(.ref r0), (.ref a2), (.ref a3), .null, .null]) C at_130 rfl Aa8 rfl (Nat.le_of_ble_eq_true rfl) rfl (Or.inr ⟨_, rfl, Oa3.1⟩) w_a8 fun h31 Aa8 Kh31 => ?_
    replace Or0 := Or0.keep Kh31 (ninS n_r0_a8 nin0)
    replace Oa2 := Oa2.keep Kh31 (ninS n_a2_a8 nin0)
    replace Oa3 := Oa3.keep Kh31 (ninS n_a3_a8 nin0)
    replace Oa4 := Oa4.keep Kh31 (ninS n_a4_a8 nin0)
    replace Oa5 := Oa5.keep Kh31 (ninS n_a5_a8 nin0)
    refine g_aload (pc' := 133) C at_131 rfl rfl rfl ?_
    refine g_iconst (pc' := 134) (z := (3 : Int32)) C at_133 rfl rfl ?_
    refine g_iloadN (pc' := 135) C at_134 rfl rfl ?_
    refine g_iconst (pc' := 136) (z := (2 : Int32)) C at_135 rfl rfl ?_
    refine g_icmpN (xi := 2) (yi := 2) (pc2 := 139) C at_136 rfl rfl rfl (by decide) ?_
    refine g_aload (pc' := 141) C at_139 rfl rfl rfl ?_
    refine g_goto C at_141 (by decide) (pc' := 155) rfl ?_
    refine g_aastore (pc' := 156) (i := 3) (vs' := [(.ref r0), (.ref a2), (.ref a3), (.ref a5), .null]) C at_155 rfl Aa8 rfl (Nat.le_of_ble_eq_true rfl) rfl (Or.inr ⟨_, rfl, Oa5.1⟩) w_a8 fun h32 Aa8 Kh32 => ?_
    replace Or0 := Or0.keep Kh32 (ninS n_r0_a8 nin0)
    replace Oa2 := Oa2.keep Kh32 (ninS n_a2_a8 nin0)
    replace Oa3 := Oa3.keep Kh32 (ninS n_a3_a8 nin0)
    replace Oa4 := Oa4.keep Kh32 (ninS n_a4_a8 nin0)
    replace Oa5 := Oa5.keep Kh32 (ninS n_a5_a8 nin0)
    refine g_aload (pc' := 158) C at_156 rfl rfl rfl ?_
    refine g_iconst (pc' := 159) (z := (4 : Int32)) C at_158 rfl rfl ?_
    refine g_iloadN (pc' := 160) C at_159 rfl rfl ?_
    refine g_iconst (pc' := 161) (z := (3 : Int32)) C at_160 rfl rfl ?_
    refine g_icmpY (xi := 2) (yi := 3) (pc1 := 169) C at_161 (by decide) rfl rfl rfl (by decide) ?_
    refine g_aconst_null (pc' := 170) C at_169 rfl ?_
    refine g_aastore (pc' := 171) (i := 4) (vs' := [(.ref r0), (.ref a2), (.ref a3), (.ref a5), .null]) C at_170 rfl Aa8 rfl (Nat.le_of_ble_eq_true rfl) rfl (Or.inl rfl) w_a8 fun h33 Aa8 Kh33 => ?_
    replace Or0 := Or0.keep Kh33 (ninS n_r0_a8 nin0)
    replace Oa2 := Oa2.keep Kh33 (ninS n_a2_a8 nin0)
    replace Oa3 := Oa3.keep Kh33 (ninS n_a3_a8 nin0)
    replace Oa4 := Oa4.keep Kh33 (ninS n_a4_a8 nin0)
    replace Oa5 := Oa5.keep Kh33 (ninS n_a5_a8 nin0)
    refine g_iloadN (pc' := 172) C at_171 rfl rfl ?_
    refine g_iconst (pc' := 173) (z := (2 : Int32)) C at_172 rfl rfl ?_
    refine g_iadd (pc' := 174) C at_173 rfl ?_
    show Go W Q h33 6 15 174 #[.val (.int p0), .val (.int (2 : Int32)), .val (.ref r0), .val (.ref a2), .val (.ref a3), .val (.ref a4), .val (.ref a5), .val (.ref a8), .unset, .unset] [(.int (4 : Int32))]
    refine g_istore (pc' := 176) (L' := #[.val (.int p0), .val (.int (2 : Int32)), .val (.ref r0), .val (.ref a2), .val (.ref a3), .val (.ref a4), .val (.ref a5), .val (.ref a8), .val (.int (4 : Int32)), .unset]) C at_174 rfl rfl ?_
    refine g_aload (pc' := 178) C at_176 rfl rfl rfl ?_
    refine g_iload (pc' := 180) C at_178 rfl rfl ?_
    refine g_iconst (pc' := 181) (z := (0 : Int32)) C at_180 rfl rfl ?_
    refine g_staticP (y := (⟨"com/example/slot512/slot512/LinkLinkAtEndOfPinLaw", "step", "([Lcom/example/slot512/slot512/Link;II)Z"⟩ : MethodName)) (pc' := 184) (k' := 6) (n' := 15) (S := []) (as := [(.ref a8), (.int (4 : Int32)), (.int (0 : Int32))]) C at_181 rfl (hw _ (List.mem_of_getElem? (i := 25) rfl)) (hw _ (List.mem_of_getElem? (i := 26) rfl)) (hw _ (List.mem_of_getElem? (i := 27) rfl)) (hw _ (List.mem_of_getElem? (i := 28) rfl)) (by decide) (lenOf pd_3 rfl) (con_step1 W.l Z a0 hw a8 r0 a2 4 0 0 1 (.ref a5) (.ref a3) _ (by decide) (by decide) rfl (by decide) rfl rfl h33 Or0 Oa2 Aa8) rfl rfl (Nat.le_of_ble_eq_true rfl) (Nat.le_of_ble_eq_true rfl) rfl rfl (Nat.le_of_ble_eq_true rfl) (Nat.le_of_ble_eq_true rfl) (S1 := [(.int (1 : Int32))]) rfl ?_
    refine g_ifN (xi := 1) (pc2 := 187) C at_184 rfl rfl (by decide) ?_
    refine g_aload (pc' := 189) C at_187 rfl rfl rfl ?_
    refine g_iload (pc' := 191) C at_189 rfl rfl ?_
    refine g_iconst (pc' := 192) (z := (1 : Int32)) C at_191 rfl rfl ?_
    refine g_staticP (y := (⟨"com/example/slot512/slot512/LinkLinkAtEndOfPinLaw", "step", "([Lcom/example/slot512/slot512/Link;II)Z"⟩ : MethodName)) (pc' := 195) (k' := 6) (n' := 15) (S := []) (as := [(.ref a8), (.int (4 : Int32)), (.int (1 : Int32))]) C at_192 rfl (hw _ (List.mem_of_getElem? (i := 25) rfl)) (hw _ (List.mem_of_getElem? (i := 26) rfl)) (hw _ (List.mem_of_getElem? (i := 27) rfl)) (hw _ (List.mem_of_getElem? (i := 28) rfl)) (by decide) (lenOf pd_3 rfl) (con_step1 W.l Z a0 hw a8 a2 a3 4 1 1 2 (.ref r0) (.ref a5) _ (by decide) (by decide) rfl (by decide) rfl rfl h33 Oa2 Oa3 Aa8) rfl rfl (Nat.le_of_ble_eq_true rfl) (Nat.le_of_ble_eq_true rfl) rfl rfl (Nat.le_of_ble_eq_true rfl) (Nat.le_of_ble_eq_true rfl) (S1 := [(.int (1 : Int32))]) rfl ?_
    refine g_ifN (xi := 1) (pc2 := 198) C at_195 rfl rfl (by decide) ?_
    refine g_aload (pc' := 200) C at_198 rfl rfl rfl ?_
    refine g_iload (pc' := 202) C at_200 rfl rfl ?_
    refine g_iconst (pc' := 203) (z := (2 : Int32)) C at_202 rfl rfl ?_
    refine g_staticP (y := (⟨"com/example/slot512/slot512/LinkLinkAtEndOfPinLaw", "step", "([Lcom/example/slot512/slot512/Link;II)Z"⟩ : MethodName)) (pc' := 206) (k' := 6) (n' := 15) (S := []) (as := [(.ref a8), (.int (4 : Int32)), (.int (2 : Int32))]) C at_203 rfl (hw _ (List.mem_of_getElem? (i := 25) rfl)) (hw _ (List.mem_of_getElem? (i := 26) rfl)) (hw _ (List.mem_of_getElem? (i := 27) rfl)) (hw _ (List.mem_of_getElem? (i := 28) rfl)) (by decide) (lenOf pd_3 rfl) (con_step1 W.l Z a0 hw a8 a3 a5 4 2 2 3 (.ref a2) (.ref r0) _ (by decide) (by decide) rfl (by decide) rfl rfl h33 Oa3 Oa5 Aa8) rfl rfl (Nat.le_of_ble_eq_true rfl) (Nat.le_of_ble_eq_true rfl) rfl rfl (Nat.le_of_ble_eq_true rfl) (Nat.le_of_ble_eq_true rfl) (S1 := [(.int (1 : Int32))]) rfl ?_
    refine g_ifN (xi := 1) (pc2 := 209) C at_206 rfl rfl (by decide) ?_
    refine g_aload (pc' := 211) C at_209 rfl rfl rfl ?_
    refine g_iload (pc' := 213) C at_211 rfl rfl ?_
    refine g_iconst (pc' := 214) (z := (3 : Int32)) C at_213 rfl rfl ?_
    refine g_staticP (y := (⟨"com/example/slot512/slot512/LinkLinkAtEndOfPinLaw", "step", "([Lcom/example/slot512/slot512/Link;II)Z"⟩ : MethodName)) (pc' := 217) (k' := 6) (n' := 15) (S := []) (as := [(.ref a8), (.int (4 : Int32)), (.int (3 : Int32))]) C at_214 rfl (hw _ (List.mem_of_getElem? (i := 25) rfl)) (hw _ (List.mem_of_getElem? (i := 26) rfl)) (hw _ (List.mem_of_getElem? (i := 27) rfl)) (hw _ (List.mem_of_getElem? (i := 28) rfl)) (by decide) (lenOf pd_3 rfl) (con_step1 W.l Z a0 hw a8 a5 r0 4 3 3 0 (.ref a3) (.ref a2) _ (by decide) (by decide) rfl (by decide) rfl rfl h33 Oa5 Or0 Aa8) rfl rfl (Nat.le_of_ble_eq_true rfl) (Nat.le_of_ble_eq_true rfl) rfl rfl (Nat.le_of_ble_eq_true rfl) (Nat.le_of_ble_eq_true rfl) (S1 := [(.int (1 : Int32))]) rfl ?_
    refine g_ifN (xi := 1) (pc2 := 220) C at_217 rfl rfl (by decide) ?_
    refine g_aload (pc' := 222) C at_220 rfl rfl rfl ?_
    refine g_iload (pc' := 224) C at_222 rfl rfl ?_
    refine g_iconst (pc' := 225) (z := (4 : Int32)) C at_224 rfl rfl ?_
    refine g_staticP (y := (⟨"com/example/slot512/slot512/LinkLinkAtEndOfPinLaw", "step", "([Lcom/example/slot512/slot512/Link;II)Z"⟩ : MethodName)) (pc' := 228) (k' := 6) (n' := 15) (S := []) (as := [(.ref a8), (.int (4 : Int32)), (.int (4 : Int32))]) C at_225 rfl (hw _ (List.mem_of_getElem? (i := 25) rfl)) (hw _ (List.mem_of_getElem? (i := 26) rfl)) (hw _ (List.mem_of_getElem? (i := 27) rfl)) (hw _ (List.mem_of_getElem? (i := 28) rfl)) (by decide) (lenOf pd_3 rfl) (con_step0 W.l Z a0 hw a8 4 4 (by decide) h33) rfl rfl (Nat.le_of_ble_eq_true rfl) (Nat.le_of_ble_eq_true rfl) rfl rfl (Nat.le_of_ble_eq_true rfl) (Nat.le_of_ble_eq_true rfl) (S1 := [(.int (1 : Int32))]) rfl ?_
    refine g_ifN (xi := 1) (pc2 := 231) C at_228 rfl rfl (by decide) ?_
    refine g_iconst (pc' := 232) (z := (1 : Int32)) C at_231 rfl rfl ?_
    refine g_goto C at_232 (by decide) (pc' := 236) rfl ?_
    refine g_istore (pc' := 238) (L' := #[.val (.int p0), .val (.int (2 : Int32)), .val (.ref r0), .val (.ref a2), .val (.ref a3), .val (.ref a4), .val (.ref a5), .val (.ref a8), .val (.int (4 : Int32)), .val (.int (1 : Int32))]) C at_236 rfl rfl ?_
    refine g_iload (pc' := 240) C at_238 rfl rfl ?_
    refine g_ifN (xi := 1) (pc2 := 243) C at_240 rfl rfl (by decide) ?_
    refine g_aloadN (pc' := 244) C at_243 rfl rfl rfl ?_
    refine g_virtualP (y := (⟨"com/example/slot512/slot512/Link", "isEmptyList", "()Z"⟩ : MethodName)) (a := r0) (pc' := 247) (k' := 6) (n' := 15) (S := []) (as := []) C at_244 rfl (hw _ (List.mem_of_getElem? (i := 31) rfl)) (hw _ (List.mem_of_getElem? (i := 33) rfl)) (hw _ (List.mem_of_getElem? (i := 2) rfl)) (hw _ (List.mem_of_getElem? (i := 35) rfl)) (hw _ (List.mem_of_getElem? (i := 32) rfl)) (hw _ (List.mem_of_getElem? (i := 34) rfl)) (by decide) Or0.1 (lenOf pd_4 rfl) (con_isE W.l Z a0 hw r0 a2 (.ref a5) n_r0_a2 h33 Or0) rfl rfl (Nat.le_of_ble_eq_true rfl) (Nat.le_of_ble_eq_true rfl) rfl rfl (Nat.le_of_ble_eq_true rfl) (Nat.le_of_ble_eq_true rfl) (S1 := [(.int (0 : Int32))]) rfl ?_
    refine g_ifN (xi := 0) (pc2 := 250) C at_247 rfl rfl (by decide) ?_
    refine g_iconst (pc' := 251) (z := (1 : Int32)) C at_250 rfl rfl ?_
    refine g_goto C at_251 (by decide) (pc' := 255) rfl ?_
    refine g_istore (pc' := 257) (L' := #[.val (.int p0), .val (.int (2 : Int32)), .val (.ref r0), .val (.ref a2), .val (.ref a3), .val (.ref a4), .val (.ref a5), .val (.ref a8), .val (.int (4 : Int32)), .val (.int (1 : Int32))]) C at_255 rfl rfl ?_
    refine g_iloadN (pc' := 258) C at_257 rfl rfl ?_
    refine g_iconst (pc' := 259) (z := (1 : Int32)) C at_258 rfl rfl ?_
    refine g_icmpY (xi := 2) (yi := 1) (pc1 := 288) C at_259 (by decide) rfl rfl rfl (by decide) ?_
    refine g_iloadN (pc' := 289) C at_288 rfl rfl ?_
    refine g_iconst (pc' := 290) (z := (2 : Int32)) C at_289 rfl rfl ?_
    refine g_icmpY (xi := 2) (yi := 2) (pc1 := 321) C at_290 (by decide) rfl rfl rfl (by decide) ?_
    refine g_iloadN (pc' := 322) C at_321 rfl rfl ?_
    refine g_iconst (pc' := 323) (z := (3 : Int32)) C at_322 rfl rfl ?_
    refine g_icmpN (xi := 2) (yi := 3) (pc2 := 326) C at_323 rfl rfl rfl (by decide) ?_
    refine g_iload (pc' := 328) C at_326 rfl rfl ?_
    refine g_ifN (xi := 1) (pc2 := 331) C at_328 rfl rfl (by decide) ?_
    refine g_aload (pc' := 333) C at_331 rfl rfl rfl ?_
    refine g_getO (pc' := 336) (j := 0) C at_333 rfl (hw _ (List.mem_of_getElem? (i := 30) rfl)) Oa4 rfl ?_
    refine g_ifnonnull (pc1 := 351) (pc2 := 339) C at_336 (by decide) rfl rfl rfl (fun c => absurd rfl c) (fun _ => ?_)
    refine g_aload (pc' := 341) C at_339 rfl rfl rfl ?_
    refine g_getO (pc' := 344) (j := 1) C at_341 rfl (hw _ (List.mem_of_getElem? (i := 29) rfl)) Oa4 rfl ?_
    refine g_ifnonnull (pc1 := 351) (pc2 := 347) C at_344 (by decide) rfl rfl rfl (fun c => absurd rfl c) (fun _ => ?_)
    refine g_iconst (pc' := 348) (z := (1 : Int32)) C at_347 rfl rfl ?_
    refine g_goto C at_348 (by decide) (pc' := 352) rfl ?_
    refine g_istore (pc' := 354) (L' := #[.val (.int p0), .val (.int (2 : Int32)), .val (.ref r0), .val (.ref a2), .val (.ref a3), .val (.ref a4), .val (.ref a5), .val (.ref a8), .val (.int (4 : Int32)), .val (.int (1 : Int32))]) C at_352 rfl rfl ?_
    refine g_iload (pc' := 356) C at_354 rfl rfl ?_
    refine g_retN C (by simp) at_356 (by decide) (by decide) ?_
    subst hQ
    rfl
  ·
    refine g_iloadN (pc' := 44) C at_43 rfl rfl ?_
    refine g_iconst (pc' := 45) (z := (1 : Int32)) C at_44 rfl rfl ?_
    refine g_icmpN (xi := 3) (yi := 1) (pc2 := 48) C at_45 rfl rfl rfl (by decide) ?_
    refine g_aloadN (pc' := 49) C at_48 rfl rfl rfl ?_
    refine g_aloadN (pc' := 50) C at_49 rfl rfl rfl ?_
    refine g_virtual (y := (⟨"com/example/slot512/slot512/Link", "linkAtEndOf", "(Lcom/example/slot512/slot512/Link;)V"⟩ : MethodName)) (a := a2) (pc' := 53) (k' := 5) (n' := 10) (S := []) (as := [(.ref r0)]) C at_50 rfl (hw _ (List.mem_of_getElem? (i := 18) rfl)) (hw _ (List.mem_of_getElem? (i := 20) rfl)) (hw _ (List.mem_of_getElem? (i := 2) rfl)) (hw _ (List.mem_of_getElem? (i := 22) rfl)) (hw _ (List.mem_of_getElem? (i := 19) rfl)) (hw _ (List.mem_of_getElem? (i := 21) rfl)) (by decide) Oa2.1 (lenOf pd_2 rfl) (con_link0 W.l Z a0 hw a2 r0 .null .null (.ref r0) (Ne.symm n_r0_a2) h8 Oa2 Or0) rfl rfl (Nat.le_of_ble_eq_true rfl) (Nat.le_of_ble_eq_true rfl) rfl rfl (Nat.le_of_ble_eq_true rfl) (Nat.le_of_ble_eq_true rfl) (allS w_a2 (allS w_r0 all0)) fun vh34 h34 qh34 Kh34 => ?_
    obtain ⟨rfl, Oa2, Or0⟩ := qh34
    replace Oa3 := Oa3.keep Kh34 (ninS (Ne.symm n_a2_a3) (ninS (Ne.symm n_r0_a3) nin0))
    replace Oa4 := Oa4.keep Kh34 (ninS (Ne.symm n_a2_a4) (ninS (Ne.symm n_r0_a4) nin0))
    replace Oa5 := Oa5.keep Kh34 (ninS (Ne.symm n_a2_a5) (ninS (Ne.symm n_r0_a5) nin0))
    show Go W Q h34 5 10 53 #[.val (.int p0), .val (.int (3 : Int32)), .val (.ref r0), .val (.ref a2), .val (.ref a3), .val (.ref a4), .val (.ref a5), .unset, .unset, .unset] []
    refine g_iloadN (pc' := 54) C at_53 rfl rfl ?_
    refine g_iconst (pc' := 55) (z := (2 : Int32)) C at_54 rfl rfl ?_
    refine g_icmpN (xi := 3) (yi := 2) (pc2 := 58) C at_55 rfl rfl rfl (by decide) ?_
    refine g_aload (pc' := 60) C at_58 rfl rfl rfl ?_
    refine g_aloadN (pc' := 61) C at_60 rfl rfl rfl ?_
    refine g_virtual (y := (⟨"com/example/slot512/slot512/Link", "linkAtEndOf", "(Lcom/example/slot512/slot512/Link;)V"⟩ : MethodName)) (a := a3) (pc' := 64) (k' := 5) (n' := 10) (S := []) (as := [(.ref r0)]) C at_61 rfl (hw _ (List.mem_of_getElem? (i := 18) rfl)) (hw _ (List.mem_of_getElem? (i := 20) rfl)) (hw _ (List.mem_of_getElem? (i := 2) rfl)) (hw _ (List.mem_of_getElem? (i := 22) rfl)) (hw _ (List.mem_of_getElem? (i := 19) rfl)) (hw _ (List.mem_of_getElem? (i := 21) rfl)) (by decide) Oa3.1 (lenOf pd_2 rfl) (con_link1 W.l Z a0 hw a3 r0 a2 .null .null (.ref a2) (.ref r0) (.ref r0) (Ne.symm n_r0_a3) (Ne.symm n_a2_a3) (Ne.symm n_r0_a2) h34 Oa3 Or0 Oa2) rfl rfl (Nat.le_of_ble_eq_true rfl) (Nat.le_of_ble_eq_true rfl) rfl rfl (Nat.le_of_ble_eq_true rfl) (Nat.le_of_ble_eq_true rfl) (allS w_a3 (allS w_r0 (allS w_a2 all0))) fun vh35 h35 qh35 Kh35 => ?_
    obtain ⟨rfl, Oa3, Or0, Oa2⟩ := qh35
    replace Oa4 := Oa4.keep Kh35 (ninS (Ne.symm n_a3_a4) (ninS (Ne.symm n_r0_a4) (ninS (Ne.symm n_a2_a4) nin0)))
    replace Oa5 := Oa5.keep Kh35 (ninS (Ne.symm n_a3_a5) (ninS (Ne.symm n_r0_a5) (ninS (Ne.symm n_a2_a5) nin0)))
    show Go W Q h35 5 10 64 #[.val (.int p0), .val (.int (3 : Int32)), .val (.ref r0), .val (.ref a2), .val (.ref a3), .val (.ref a4), .val (.ref a5), .unset, .unset, .unset] []
    refine g_iloadN (pc' := 65) C at_64 rfl rfl ?_
    refine g_iconst (pc' := 66) (z := (3 : Int32)) C at_65 rfl rfl ?_
    refine g_icmpN (xi := 3) (yi := 3) (pc2 := 69) C at_66 rfl rfl rfl (by decide) ?_
    refine g_aload (pc' := 71) C at_69 rfl rfl rfl ?_
    refine g_aloadN (pc' := 72) C at_71 rfl rfl rfl ?_
    refine g_virtual (y := (⟨"com/example/slot512/slot512/Link", "linkAtEndOf", "(Lcom/example/slot512/slot512/Link;)V"⟩ : MethodName)) (a := a4) (pc' := 75) (k' := 5) (n' := 10) (S := []) (as := [(.ref r0)]) C at_72 rfl (hw _ (List.mem_of_getElem? (i := 18) rfl)) (hw _ (List.mem_of_getElem? (i := 20) rfl)) (hw _ (List.mem_of_getElem? (i := 2) rfl)) (hw _ (List.mem_of_getElem? (i := 22) rfl)) (hw _ (List.mem_of_getElem? (i := 19) rfl)) (hw _ (List.mem_of_getElem? (i := 21) rfl)) (by decide) Oa4.1 (lenOf pd_2 rfl) (con_link1 W.l Z a0 hw a4 r0 a3 .null .null (.ref a2) (.ref a2) (.ref r0) (Ne.symm n_r0_a4) (Ne.symm n_a3_a4) (Ne.symm n_r0_a3) h35 Oa4 Or0 Oa3) rfl rfl (Nat.le_of_ble_eq_true rfl) (Nat.le_of_ble_eq_true rfl) rfl rfl (Nat.le_of_ble_eq_true rfl) (Nat.le_of_ble_eq_true rfl) (allS w_a4 (allS w_r0 (allS w_a3 all0))) fun vh36 h36 qh36 Kh36 => ?_
    obtain ⟨rfl, Oa4, Or0, Oa3⟩ := qh36
    replace Oa2 := Oa2.keep Kh36 (ninS n_a2_a4 (ninS (Ne.symm n_r0_a2) (ninS n_a2_a3 nin0)))
    replace Oa5 := Oa5.keep Kh36 (ninS (Ne.symm n_a4_a5) (ninS (Ne.symm n_r0_a5) (ninS (Ne.symm n_a3_a5) nin0)))
    show Go W Q h36 5 10 75 #[.val (.int p0), .val (.int (3 : Int32)), .val (.ref r0), .val (.ref a2), .val (.ref a3), .val (.ref a4), .val (.ref a5), .unset, .unset, .unset] []
    refine g_aload (pc' := 77) C at_75 rfl rfl rfl ?_
    refine g_aloadN (pc' := 78) C at_77 rfl rfl rfl ?_
    refine g_virtual (y := (⟨"com/example/slot512/slot512/Link", "linkAtEndOf", "(Lcom/example/slot512/slot512/Link;)V"⟩ : MethodName)) (a := a5) (pc' := 81) (k' := 5) (n' := 10) (S := []) (as := [(.ref r0)]) C at_78 rfl (hw _ (List.mem_of_getElem? (i := 18) rfl)) (hw _ (List.mem_of_getElem? (i := 20) rfl)) (hw _ (List.mem_of_getElem? (i := 2) rfl)) (hw _ (List.mem_of_getElem? (i := 22) rfl)) (hw _ (List.mem_of_getElem? (i := 19) rfl)) (hw _ (List.mem_of_getElem? (i := 21) rfl)) (by decide) Oa5.1 (lenOf pd_2 rfl) (con_link1 W.l Z a0 hw a5 r0 a4 .null .null (.ref a2) (.ref a3) (.ref r0) (Ne.symm n_r0_a5) (Ne.symm n_a4_a5) (Ne.symm n_r0_a4) h36 Oa5 Or0 Oa4) rfl rfl (Nat.le_of_ble_eq_true rfl) (Nat.le_of_ble_eq_true rfl) rfl rfl (Nat.le_of_ble_eq_true rfl) (Nat.le_of_ble_eq_true rfl) (allS w_a5 (allS w_r0 (allS w_a4 all0))) fun vh37 h37 qh37 Kh37 => ?_
    obtain ⟨rfl, Oa5, Or0, Oa4⟩ := qh37
    replace Oa2 := Oa2.keep Kh37 (ninS n_a2_a5 (ninS (Ne.symm n_r0_a2) (ninS n_a2_a4 nin0)))
    replace Oa3 := Oa3.keep Kh37 (ninS n_a3_a5 (ninS (Ne.symm n_r0_a3) (ninS n_a3_a4 nin0)))
    show Go W Q h37 5 10 81 #[.val (.int p0), .val (.int (3 : Int32)), .val (.ref r0), .val (.ref a2), .val (.ref a3), .val (.ref a4), .val (.ref a5), .unset, .unset, .unset] []
    refine g_iconst (pc' := 82) (z := (5 : Int32)) C at_81 rfl rfl ?_
    refine g_anewarray (pc' := 85) (len := 5) (cap := 5) (k' := 6) (n' := 15) C at_82 rfl (hw _ (List.mem_of_getElem? (i := 16) rfl)) (hw _ (List.mem_of_getElem? (i := 23) rfl)) rfl (by decide) (by decide) rfl rfl (by decide) (by decide) fun h38 a9 e_a9 Eh38 Aa9 w_a9 => ?_
    have n_r0_a9 : r0 ≠ a9 := by rw [e_a9]; exact Nat.ne_of_lt Or0.lt
    have n_a2_a9 : a2 ≠ a9 := by rw [e_a9]; exact Nat.ne_of_lt Oa2.lt
    have n_a3_a9 : a3 ≠ a9 := by rw [e_a9]; exact Nat.ne_of_lt Oa3.lt
    have n_a4_a9 : a4 ≠ a9 := by rw [e_a9]; exact Nat.ne_of_lt Oa4.lt
    have n_a5_a9 : a5 ≠ a9 := by rw [e_a9]; exact Nat.ne_of_lt Oa5.lt
    replace Or0 := Or0.ext Eh38
    replace Oa2 := Oa2.ext Eh38
    replace Oa3 := Oa3.ext Eh38
    replace Oa4 := Oa4.ext Eh38
    replace Oa5 := Oa5.ext Eh38
    replace Aa9 : ArR Z h38 a9 "com/example/slot512/slot512/Link" [.null, .null, .null, .null, .null] := Aa9
    refine g_astore (pc' := 87) (L' := #[.val (.int p0), .val (.int (3 : Int32)), .val (.ref r0), .val (.ref a2), .val (.ref a3), .val (.ref a4), .val (.ref a5), .val (.ref a9), .unset, .unset]) C at_85 rfl rfl rfl ?_
    refine g_aload (pc' := 89) C at_87 rfl rfl rfl ?_
    refine g_iconst (pc' := 90) (z := (0 : Int32)) C at_89 rfl rfl ?_
    refine g_aloadN (pc' := 91) C at_90 rfl rfl rfl ?_
    refine g_aastore (pc' := 92) (i := 0) (vs' := [(.ref r0), .null, .null, .null, .null]) C at_91 rfl Aa9 rfl (Nat.le_of_ble_eq_true rfl) rfl (Or.inr ⟨_, rfl, Or0.1⟩) w_a9 fun h39 Aa9 Kh39 => ?_
    replace Or0 := Or0.keep Kh39 (ninS n_r0_a9 nin0)
    replace Oa2 := Oa2.keep Kh39 (ninS n_a2_a9 nin0)
    replace Oa3 := Oa3.keep Kh39 (ninS n_a3_a9 nin0)
    replace Oa4 := Oa4.keep Kh39 (ninS n_a4_a9 nin0)
    replace Oa5 := Oa5.keep Kh39 (ninS n_a5_a9 nin0)
    refine g_aload (pc' := 94) C at_92 rfl rfl rfl ?_
    refine g_iconst (pc' := 95) (z := (1 : Int32)) C at_94 rfl rfl ?_
    refine g_iloadN (pc' := 96) C at_95 rfl rfl ?_
    refine g_ifY (xi := 3) (pc1 := 104) C at_96 (by decide) rfl rfl (by decide) ?_
    refine g_aloadN (pc' := 105) C at_104 rfl rfl rfl ?_
    refine g_aastore (pc' := 106) (i := 1) (vs' := [(.ref r0), (.ref a2), .null, .null, .null]) C at_105 rfl Aa9 rfl (Nat.le_of_ble_eq_true rfl) rfl (Or.inr ⟨_, rfl, Oa2.1⟩) w_a9 fun h40 Aa9 Kh40 => ?_
    replace Or0 := Or0.keep Kh40 (ninS n_r0_a9 nin0)
    replace Oa2 := Oa2.keep Kh40 (ninS n_a2_a9 nin0)
    replace Oa3 := Oa3.keep Kh40 (ninS n_a3_a9 nin0)
    replace Oa4 := Oa4.keep Kh40 (ninS n_a4_a9 nin0)
    replace Oa5 := Oa5.keep Kh40 (ninS n_a5_a9 nin0)
    refine g_aload (pc' := 108) C at_106 rfl rfl rfl ?_
    refine g_iconst (pc' := 109) (z := (2 : Int32)) C at_108 rfl rfl ?_
    refine g_iloadN (pc' := 110) C at_109 rfl rfl ?_
    refine g_iconst (pc' := 111) (z := (1 : Int32)) C at_110 rfl rfl ?_
    refine g_icmpY (xi := 3) (yi := 1) (pc1 := 119) C at_111 (by decide) rfl rfl rfl (by decide) ?_
    refine g_iloadN (pc' := 120) C at_119 rfl rfl ?_
    refine g_iconst (pc' := 121) (z := (2 : Int32)) C at_120 rfl rfl ?_
    refine g_icmpN (xi := 3) (yi := 2) (pc2 := 124) C at_121 rfl rfl rfl (by decide) ?_
    refine g_aload (pc' := 126) C at_124 rfl rfl rfl ?_
    refine g_goto C at_126 (by decide) (pc' := 130) rfl ?_
    refine g_aastore (pc' := 131) (i := 2) (vs' := [(.ref r0), (.ref a2), (.ref a3), .null, .null]) C at_130 rfl Aa9 rfl (Nat.le_of_ble_eq_true rfl) rfl (Or.inr ⟨_, rfl, Oa3.1⟩) w_a9 fun h41 Aa9 Kh41 => ?_
    replace Or0 := Or0.keep Kh41 (ninS n_r0_a9 nin0)
    replace Oa2 := Oa2.keep Kh41 (ninS n_a2_a9 nin0)
    replace Oa3 := Oa3.keep Kh41 (ninS n_a3_a9 nin0)
    replace Oa4 := Oa4.keep Kh41 (ninS n_a4_a9 nin0)
    replace Oa5 := Oa5.keep Kh41 (ninS n_a5_a9 nin0)
    refine g_aload (pc' := 133) C at_131 rfl rfl rfl ?_
    refine g_iconst (pc' := 134) (z := (3 : Int32)) C at_133 rfl rfl ?_
    refine g_iloadN (pc' := 135) C at_134 rfl rfl ?_
    refine g_iconst (pc' := 136) (z := (2 : Int32)) C at_135 rfl rfl ?_
    refine g_icmpY (xi := 3) (yi := 2) (pc1 := 144) C at_136 (by decide) rfl rfl rfl (by decide) ?_
    refine g_iloadN (pc' := 145) C at_144 rfl rfl ?_
    refine g_iconst (pc' := 146) (z := (3 : Int32)) C at_145 rfl rfl ?_
    refine g_icmpN (xi := 3) (yi := 3) (pc2 := 149) C at_146 rfl rfl rfl (by decide) ?_
    refine g_aload (pc' := 151) C at_149 rfl rfl rfl ?_
    refine g_goto C at_151 (by decide) (pc' := 155) rfl ?_
    refine g_aastore (pc' := 156) (i := 3) (vs' := [(.ref r0), (.ref a2), (.ref a3), (.ref a4), .null]) C at_155 rfl Aa9 rfl (Nat.le_of_ble_eq_true rfl) rfl (Or.inr ⟨_, rfl, Oa4.1⟩) w_a9 fun h42 Aa9 Kh42 => ?_
    replace Or0 := Or0.keep Kh42 (ninS n_r0_a9 nin0)
    replace Oa2 := Oa2.keep Kh42 (ninS n_a2_a9 nin0)
    replace Oa3 := Oa3.keep Kh42 (ninS n_a3_a9 nin0)
    replace Oa4 := Oa4.keep Kh42 (ninS n_a4_a9 nin0)
    replace Oa5 := Oa5.keep Kh42 (ninS n_a5_a9 nin0)
    refine g_aload (pc' := 158) C at_156 rfl rfl rfl ?_
    refine g_iconst (pc' := 159) (z := (4 : Int32)) C at_158 rfl rfl ?_
    refine g_iloadN (pc' := 160) C at_159 rfl rfl ?_
    refine g_iconst (pc' := 161) (z := (3 : Int32)) C at_160 rfl rfl ?_
    refine g_icmpN (xi := 3) (yi := 3) (pc2 := 164) C at_161 rfl rfl rfl (by decide) ?_
    refine g_aload (pc' := 166) C at_164 rfl rfl rfl ?_
    refine g_goto C at_166 (by decide) (pc' := 170) rfl ?_
    refine g_aastore (pc' := 171) (i := 4) (vs' := [(.ref r0), (.ref a2), (.ref a3), (.ref a4), (.ref a5)]) C at_170 rfl Aa9 rfl (Nat.le_of_ble_eq_true rfl) rfl (Or.inr ⟨_, rfl, Oa5.1⟩) w_a9 fun h43 Aa9 Kh43 => ?_
    replace Or0 := Or0.keep Kh43 (ninS n_r0_a9 nin0)
    replace Oa2 := Oa2.keep Kh43 (ninS n_a2_a9 nin0)
    replace Oa3 := Oa3.keep Kh43 (ninS n_a3_a9 nin0)
    replace Oa4 := Oa4.keep Kh43 (ninS n_a4_a9 nin0)
    replace Oa5 := Oa5.keep Kh43 (ninS n_a5_a9 nin0)
    refine g_iloadN (pc' := 172) C at_171 rfl rfl ?_
    refine g_iconst (pc' := 173) (z := (2 : Int32)) C at_172 rfl rfl ?_
    refine g_iadd (pc' := 174) C at_173 rfl ?_
    show Go W Q h43 6 15 174 #[.val (.int p0), .val (.int (3 : Int32)), .val (.ref r0), .val (.ref a2), .val (.ref a3), .val (.ref a4), .val (.ref a5), .val (.ref a9), .unset, .unset] [(.int (5 : Int32))]
    refine g_istore (pc' := 176) (L' := #[.val (.int p0), .val (.int (3 : Int32)), .val (.ref r0), .val (.ref a2), .val (.ref a3), .val (.ref a4), .val (.ref a5), .val (.ref a9), .val (.int (5 : Int32)), .unset]) C at_174 rfl rfl ?_
    refine g_aload (pc' := 178) C at_176 rfl rfl rfl ?_
    refine g_iload (pc' := 180) C at_178 rfl rfl ?_
    refine g_iconst (pc' := 181) (z := (0 : Int32)) C at_180 rfl rfl ?_
    refine g_staticP (y := (⟨"com/example/slot512/slot512/LinkLinkAtEndOfPinLaw", "step", "([Lcom/example/slot512/slot512/Link;II)Z"⟩ : MethodName)) (pc' := 184) (k' := 6) (n' := 15) (S := []) (as := [(.ref a9), (.int (5 : Int32)), (.int (0 : Int32))]) C at_181 rfl (hw _ (List.mem_of_getElem? (i := 25) rfl)) (hw _ (List.mem_of_getElem? (i := 26) rfl)) (hw _ (List.mem_of_getElem? (i := 27) rfl)) (hw _ (List.mem_of_getElem? (i := 28) rfl)) (by decide) (lenOf pd_3 rfl) (con_step1 W.l Z a0 hw a9 r0 a2 5 0 0 1 (.ref a5) (.ref a3) _ (by decide) (by decide) rfl (by decide) rfl rfl h43 Or0 Oa2 Aa9) rfl rfl (Nat.le_of_ble_eq_true rfl) (Nat.le_of_ble_eq_true rfl) rfl rfl (Nat.le_of_ble_eq_true rfl) (Nat.le_of_ble_eq_true rfl) (S1 := [(.int (1 : Int32))]) rfl ?_
    refine g_ifN (xi := 1) (pc2 := 187) C at_184 rfl rfl (by decide) ?_
    refine g_aload (pc' := 189) C at_187 rfl rfl rfl ?_
    refine g_iload (pc' := 191) C at_189 rfl rfl ?_
    refine g_iconst (pc' := 192) (z := (1 : Int32)) C at_191 rfl rfl ?_
    refine g_staticP (y := (⟨"com/example/slot512/slot512/LinkLinkAtEndOfPinLaw", "step", "([Lcom/example/slot512/slot512/Link;II)Z"⟩ : MethodName)) (pc' := 195) (k' := 6) (n' := 15) (S := []) (as := [(.ref a9), (.int (5 : Int32)), (.int (1 : Int32))]) C at_192 rfl (hw _ (List.mem_of_getElem? (i := 25) rfl)) (hw _ (List.mem_of_getElem? (i := 26) rfl)) (hw _ (List.mem_of_getElem? (i := 27) rfl)) (hw _ (List.mem_of_getElem? (i := 28) rfl)) (by decide) (lenOf pd_3 rfl) (con_step1 W.l Z a0 hw a9 a2 a3 5 1 1 2 (.ref r0) (.ref a4) _ (by decide) (by decide) rfl (by decide) rfl rfl h43 Oa2 Oa3 Aa9) rfl rfl (Nat.le_of_ble_eq_true rfl) (Nat.le_of_ble_eq_true rfl) rfl rfl (Nat.le_of_ble_eq_true rfl) (Nat.le_of_ble_eq_true rfl) (S1 := [(.int (1 : Int32))]) rfl ?_
    refine g_ifN (xi := 1) (pc2 := 198) C at_195 rfl rfl (by decide) ?_
    refine g_aload (pc' := 200) C at_198 rfl rfl rfl ?_
    refine g_iload (pc' := 202) C at_200 rfl rfl ?_
    refine g_iconst (pc' := 203) (z := (2 : Int32)) C at_202 rfl rfl ?_
    refine g_staticP (y := (⟨"com/example/slot512/slot512/LinkLinkAtEndOfPinLaw", "step", "([Lcom/example/slot512/slot512/Link;II)Z"⟩ : MethodName)) (pc' := 206) (k' := 6) (n' := 15) (S := []) (as := [(.ref a9), (.int (5 : Int32)), (.int (2 : Int32))]) C at_203 rfl (hw _ (List.mem_of_getElem? (i := 25) rfl)) (hw _ (List.mem_of_getElem? (i := 26) rfl)) (hw _ (List.mem_of_getElem? (i := 27) rfl)) (hw _ (List.mem_of_getElem? (i := 28) rfl)) (by decide) (lenOf pd_3 rfl) (con_step1 W.l Z a0 hw a9 a3 a4 5 2 2 3 (.ref a2) (.ref a5) _ (by decide) (by decide) rfl (by decide) rfl rfl h43 Oa3 Oa4 Aa9) rfl rfl (Nat.le_of_ble_eq_true rfl) (Nat.le_of_ble_eq_true rfl) rfl rfl (Nat.le_of_ble_eq_true rfl) (Nat.le_of_ble_eq_true rfl) (S1 := [(.int (1 : Int32))]) rfl ?_
    refine g_ifN (xi := 1) (pc2 := 209) C at_206 rfl rfl (by decide) ?_
    refine g_aload (pc' := 211) C at_209 rfl rfl rfl ?_
    refine g_iload (pc' := 213) C at_211 rfl rfl ?_
    refine g_iconst (pc' := 214) (z := (3 : Int32)) C at_213 rfl rfl ?_
    refine g_staticP (y := (⟨"com/example/slot512/slot512/LinkLinkAtEndOfPinLaw", "step", "([Lcom/example/slot512/slot512/Link;II)Z"⟩ : MethodName)) (pc' := 217) (k' := 6) (n' := 15) (S := []) (as := [(.ref a9), (.int (5 : Int32)), (.int (3 : Int32))]) C at_214 rfl (hw _ (List.mem_of_getElem? (i := 25) rfl)) (hw _ (List.mem_of_getElem? (i := 26) rfl)) (hw _ (List.mem_of_getElem? (i := 27) rfl)) (hw _ (List.mem_of_getElem? (i := 28) rfl)) (by decide) (lenOf pd_3 rfl) (con_step1 W.l Z a0 hw a9 a4 a5 5 3 3 4 (.ref a3) (.ref r0) _ (by decide) (by decide) rfl (by decide) rfl rfl h43 Oa4 Oa5 Aa9) rfl rfl (Nat.le_of_ble_eq_true rfl) (Nat.le_of_ble_eq_true rfl) rfl rfl (Nat.le_of_ble_eq_true rfl) (Nat.le_of_ble_eq_true rfl) (S1 := [(.int (1 : Int32))]) rfl ?_
    refine g_ifN (xi := 1) (pc2 := 220) C at_217 rfl rfl (by decide) ?_
    refine g_aload (pc' := 222) C at_220 rfl rfl rfl ?_
    refine g_iload (pc' := 224) C at_222 rfl rfl ?_
    refine g_iconst (pc' := 225) (z := (4 : Int32)) C at_224 rfl rfl ?_
    refine g_staticP (y := (⟨"com/example/slot512/slot512/LinkLinkAtEndOfPinLaw", "step", "([Lcom/example/slot512/slot512/Link;II)Z"⟩ : MethodName)) (pc' := 228) (k' := 6) (n' := 15) (S := []) (as := [(.ref a9), (.int (5 : Int32)), (.int (4 : Int32))]) C at_225 rfl (hw _ (List.mem_of_getElem? (i := 25) rfl)) (hw _ (List.mem_of_getElem? (i := 26) rfl)) (hw _ (List.mem_of_getElem? (i := 27) rfl)) (hw _ (List.mem_of_getElem? (i := 28) rfl)) (by decide) (lenOf pd_3 rfl) (con_step1 W.l Z a0 hw a9 a5 r0 5 4 4 0 (.ref a4) (.ref a2) _ (by decide) (by decide) rfl (by decide) rfl rfl h43 Oa5 Or0 Aa9) rfl rfl (Nat.le_of_ble_eq_true rfl) (Nat.le_of_ble_eq_true rfl) rfl rfl (Nat.le_of_ble_eq_true rfl) (Nat.le_of_ble_eq_true rfl) (S1 := [(.int (1 : Int32))]) rfl ?_
    refine g_ifN (xi := 1) (pc2 := 231) C at_228 rfl rfl (by decide) ?_
    refine g_iconst (pc' := 232) (z := (1 : Int32)) C at_231 rfl rfl ?_
    refine g_goto C at_232 (by decide) (pc' := 236) rfl ?_
    refine g_istore (pc' := 238) (L' := #[.val (.int p0), .val (.int (3 : Int32)), .val (.ref r0), .val (.ref a2), .val (.ref a3), .val (.ref a4), .val (.ref a5), .val (.ref a9), .val (.int (5 : Int32)), .val (.int (1 : Int32))]) C at_236 rfl rfl ?_
    refine g_iload (pc' := 240) C at_238 rfl rfl ?_
    refine g_ifN (xi := 1) (pc2 := 243) C at_240 rfl rfl (by decide) ?_
    refine g_aloadN (pc' := 244) C at_243 rfl rfl rfl ?_
    refine g_virtualP (y := (⟨"com/example/slot512/slot512/Link", "isEmptyList", "()Z"⟩ : MethodName)) (a := r0) (pc' := 247) (k' := 6) (n' := 15) (S := []) (as := []) C at_244 rfl (hw _ (List.mem_of_getElem? (i := 31) rfl)) (hw _ (List.mem_of_getElem? (i := 33) rfl)) (hw _ (List.mem_of_getElem? (i := 2) rfl)) (hw _ (List.mem_of_getElem? (i := 35) rfl)) (hw _ (List.mem_of_getElem? (i := 32) rfl)) (hw _ (List.mem_of_getElem? (i := 34) rfl)) (by decide) Or0.1 (lenOf pd_4 rfl) (con_isE W.l Z a0 hw r0 a2 (.ref a5) n_r0_a2 h43 Or0) rfl rfl (Nat.le_of_ble_eq_true rfl) (Nat.le_of_ble_eq_true rfl) rfl rfl (Nat.le_of_ble_eq_true rfl) (Nat.le_of_ble_eq_true rfl) (S1 := [(.int (0 : Int32))]) rfl ?_
    refine g_ifN (xi := 0) (pc2 := 250) C at_247 rfl rfl (by decide) ?_
    refine g_iconst (pc' := 251) (z := (1 : Int32)) C at_250 rfl rfl ?_
    refine g_goto C at_251 (by decide) (pc' := 255) rfl ?_
    refine g_istore (pc' := 257) (L' := #[.val (.int p0), .val (.int (3 : Int32)), .val (.ref r0), .val (.ref a2), .val (.ref a3), .val (.ref a4), .val (.ref a5), .val (.ref a9), .val (.int (5 : Int32)), .val (.int (1 : Int32))]) C at_255 rfl rfl ?_
    refine g_iloadN (pc' := 258) C at_257 rfl rfl ?_
    refine g_iconst (pc' := 259) (z := (1 : Int32)) C at_258 rfl rfl ?_
    refine g_icmpY (xi := 3) (yi := 1) (pc1 := 288) C at_259 (by decide) rfl rfl rfl (by decide) ?_
    refine g_iloadN (pc' := 289) C at_288 rfl rfl ?_
    refine g_iconst (pc' := 290) (z := (2 : Int32)) C at_289 rfl rfl ?_
    refine g_icmpY (xi := 3) (yi := 2) (pc1 := 321) C at_290 (by decide) rfl rfl rfl (by decide) ?_
    refine g_iloadN (pc' := 322) C at_321 rfl rfl ?_
    refine g_iconst (pc' := 323) (z := (3 : Int32)) C at_322 rfl rfl ?_
    refine g_icmpY (xi := 3) (yi := 3) (pc1 := 354) C at_323 (by decide) rfl rfl rfl (by decide) ?_
    refine g_iload (pc' := 356) C at_354 rfl rfl ?_
    refine g_retN C (by simp) at_356 (by decide) (by decide) ?_
    subst hQ
    rfl
set_option maxRecDepth 65536 in
set_option maxHeartbeats 2000000 in
theorem comes_1 {Post : Tables → Env → Array Value → State → Outcome → State → Prop} (hpost : ∀ tb e args s v u, (limb_1_1.after args s (.returned v) u = true ∧ limb_1_2.after args s (.returned v) u = true ∧ True) → FrameEnd s (.returned v) u (Jvm.fieldLocs frame_1_writes args s ++ Jvm.arrayLocs frame_1_arrays args s ++ Jvm.staticLocs frame_1_statics s) 24 128 → Post tb e args s (.returned v) u) :
    ArmFor flags0 classFile x code maxLocals ret World_1 tables_1 room_1 Calls_1 rest_1 Pre_1 Post := by
  intro l hfl _ _ p e ha hc hk s m args below hf hA hF happ hP
  obtain ⟨hcalls, hrest, hpre⟩ := hP
  obtain ⟨-, -, -, hnamed, -, -, -, hat⟩ := (Spec.applies_iff hf).mp happ
  obtain ⟨hg, hn⟩ := and_e (Cond.before_iff.mp (show (Jvm.Cond.and given_1 narrow_1).before args s = true from hpre))
  obtain ⟨g1, g2⟩ := and_e hg
  obtain ⟨w0, rfl⟩ : ∃ w0 : Value, args = #[w0] := by
    have hs : args.size = 1 := by simpa [Cond.value, given_1] using g1
    obtain ⟨L⟩ := args
    match L, hs with
    | [w0], _ => exact ⟨w0, rfl⟩
  have hw := fun d (hd : d ∈ tables_1) => atoms_spec (ws := Jvm.Cond.code x code maxLocals ret :: tables_1) hat d (List.mem_cons_of_mem _ hd)
  obtain ⟨i0, ei0⟩ := is_v g2
  obtain rfl : w0 = (.int i0) := Option.some.inj ei0
  obtain ⟨n, o, h1, h2, h3, _, L, rfl, ⟨rfl, N⟩, hq⟩ := con_0 l s _ hw i0 s.heap p e ha hc hk s m _ below hf ((Spec.applies_iff_loose hf).mp happ).1 ⟨rfl, State.Warmed39.refl s, rfl⟩ trivial
  refine ⟨n, _, h1, h2, h3, hpost _ _ _ _ _ _ ⟨Cond.after_iff.mpr rfl, Cond.after_iff.mpr (eq_i res_at (Term.int_eval (1)) rfl), trivial⟩ ⟨hq.1, hq.2.1, (hq.2.2.sift fun y hy => Or.inr ((N y hy).resolve_left (fun q => nomatch q))).mono (by decide) (by decide)⟩⟩
theorem main_1_1 : Claimed_1_1 := comes_1 fun _ _ _ _ _ _ h hF => ⟨h.1, hF⟩
theorem main_1_2 : Claimed_1_2 := comes_1 fun _ _ _ _ _ _ h hF => ⟨h.2.1, hF⟩
end Jvm.Pilot.@@N@@
namespace Jvm.Pilot.@@N@@
open Jvm Jvm.ClassFile Sem Op Lib Jvm.Free Jvm.Stand Jvm.Pilot.@@N@@.Jvm.D
/-! MADE BY PROGRAM (witnessworld.py) out of the Statement's table words and the real class files: 10 classes; the members and pool entries that the words name. The judged class is class 1, her method 1. -/
namespace start1
open Jvm.ClassFile
def u (s : String) : CpInfo := .utf8 (stringToUtf16 s)
/-- a pool by its gaps: so many unusable entries, then the entry; so many at the end -/
def gap : Nat → List CpInfo → List CpInfo
  | 0, r => r
  | n + 1, r => .unusable :: gap n r
def poolList (es : List (Nat × CpInfo)) (last : Nat) : List CpInfo := es.foldr (fun e r => gap e.1 (e.2 :: r)) (gap last [])
def pool (es : List (Nat × CpInfo)) (last : Nat) : Array CpInfo := ⟨poolList es last⟩
def fileOf (pool : Array CpInfo) (this : Nat) (attrs : Array Attribute := #[]) (ms : Array MethodInfo := #[]) (fl : Nat := 33) (sup : Nat := 0) (ifs : Array Nat := #[]) (fds : Array FieldInfo := #[]) : ClassFile where
  minorVersion := 0
  majorVersion := 65
  constantPool := pool
  accessFlags := fl
  thisClass := this
  superClass := sup
  interfaces := ifs
  fields := fds
  methods := ms
  attributes := attrs
def plain (name : String) (sup : Option ClassId) : Class where
  name := name
  kind := .ordinary
  loader := none
  accessFlags := 33
  super := sup
  interfaces := #[]
  cf := none
  fields := #[]
  methods := #[]
  instanceTypes := #[]
  staticTypes := #[]
  resolved := #[]
  callSites := []
  init := .initialized
  statics := none
  mirror := none

def pool0 : Array CpInfo := pool [(5, u "<init>"), (0, u "()V"), (1, .class_ 10), (1, u "java/lang/Object")] 113

def k0c0 : Code := { maxStack := 0, maxLocals := 1, code := object_method_1_code, exceptionTable := #[], attributes := #[] }
def k0m0 : Method := { name := "<init>", desc := "()V", sig := { parameters := [], returnType := none }, accessFlags := 1, code := some k0c0 }
/-- java/lang/Object -/
def k0 : Class := { plain "java/lang/Object" none with
  accessFlags := 33
  interfaces := #[]
  cf := some (fileOf pool0 8 #[] #[{ accessFlags := 1, nameIndex := 5, descriptorIndex := 6, attributes := #[] }] 33 0 #[] #[])
  fields := #[]
  methods := #[k0m0]
  instanceTypes := #[]
  staticTypes := #[]
  resolved := Array.replicate 124 none
  statics := none }

def pool1 : Array CpInfo := pool [(2, .class_ 4), (0, .nameAndType 5 6), (0, u "java/lang/Object"), (0, u "<init>"), (0, u "()V"), (0, .methodref 8 9), (0, .class_ 10), (0, .nameAndType 11 12), (0, u "com/example/slot512/slot512/Link"), (0, u "emptyList"), (0, u "()Lcom/example/slot512/slot512/Link;"), (0, .methodref 8 3), (0, .methodref 8 15), (0, .nameAndType 16 17), (0, u "linkAtEndOf"), (0, u "(Lcom/example/slot512/slot512/Link;)V"), (0, .methodref 19 20), (0, .class_ 21), (0, .nameAndType 22 23), (0, u "com/example/slot512/slot512/LinkLinkAtEndOfPinLaw"), (0, u "step"), (0, u "([Lcom/example/slot512/slot512/Link;II)Z"), (0, .methodref 8 25), (0, .nameAndType 26 27), (0, u "isEmptyList"), (0, u "()Z"), (0, .fieldref 8 29), (0, .nameAndType 30 31), (0, u "prev"), (0, u "Lcom/example/slot512/slot512/Link;"), (0, .fieldref 8 33), (0, .nameAndType 34 31), (0, u "next"), (2, u "law"), (0, u "(I)Z")] 5

def k1m0 : Method := { name := "<init>", desc := "()V", sig := { parameters := [], returnType := none }, accessFlags := 1, code := none }
def k1c1 : Code := { maxStack := 4, maxLocals := 10, code := code, exceptionTable := #[], attributes := #[] }
def k1m1 : Method := { name := "law", desc := "(I)Z", sig := { parameters := [.int], returnType := some .boolean }, accessFlags := 9, code := some k1c1 }
def k1c2 : Code := { maxStack := 3, maxLocals := 5, code := method_3_code, exceptionTable := #[], attributes := #[] }
def k1m2 : Method := { name := "step", desc := "([Lcom/example/slot512/slot512/Link;II)Z", sig := { parameters := [(.array (.object "com/example/slot512/slot512/Link")), .int, .int], returnType := some .boolean }, accessFlags := 10, code := some k1c2 }
/-- com/example/slot512/slot512/LinkLinkAtEndOfPinLaw -/
def k1 : Class := { plain "com/example/slot512/slot512/LinkLinkAtEndOfPinLaw" (some 0) with
  accessFlags := 49
  interfaces := #[]
  cf := some (fileOf pool1 19 #[] #[{ accessFlags := 1, nameIndex := 5, descriptorIndex := 6, attributes := #[] }, { accessFlags := 9, nameIndex := 37, descriptorIndex := 38, attributes := #[] }, { accessFlags := 10, nameIndex := 22, descriptorIndex := 23, attributes := #[] }] 49 2 #[] #[])
  fields := #[]
  methods := #[k1m0, k1m1, k1m2]
  instanceTypes := #[]
  staticTypes := #[]
  resolved := Array.replicate 44 none
  statics := none }

def pool2 : Array CpInfo := pool [(1, .methodref 2 3), (0, .class_ 4), (0, .nameAndType 5 6), (0, u "java/lang/Object"), (0, u "<init>"), (0, u "()V"), (0, .class_ 8), (0, u "com/example/slot512/slot512/Link"), (0, .methodref 7 3), (0, .fieldref 7 11), (0, .nameAndType 12 13), (0, u "prev"), (0, u "Lcom/example/slot512/slot512/Link;"), (0, .fieldref 7 15), (0, .nameAndType 16 13), (0, u "next"), (2, u "emptyList"), (0, u "()Lcom/example/slot512/slot512/Link;"), (0, u "isEmptyList"), (0, u "()Z"), (1, u "linkAtEndOf"), (0, u "(Lcom/example/slot512/slot512/Link;)V")] 3

def k2c0 : Code := { maxStack := 1, maxLocals := 1, code := prog_3_method_1_code, exceptionTable := #[], attributes := #[] }
def k2m0 : Method := { name := "<init>", desc := "()V", sig := { parameters := [], returnType := none }, accessFlags := 0, code := some k2c0 }
def k2c1 : Code := { maxStack := 2, maxLocals := 1, code := prog_3_method_2_code, exceptionTable := #[], attributes := #[] }
def k2m1 : Method := { name := "emptyList", desc := "()Lcom/example/slot512/slot512/Link;", sig := { parameters := [], returnType := some (.object "com/example/slot512/slot512/Link") }, accessFlags := 8, code := some k2c1 }
def k2c2 : Code := { maxStack := 2, maxLocals := 1, code := prog_3_method_3_code, exceptionTable := #[], attributes := #[] }
def k2m2 : Method := { name := "isEmptyList", desc := "()Z", sig := { parameters := [], returnType := some .boolean }, accessFlags := 0, code := some k2c2 }
def k2c3 : Code := { maxStack := 2, maxLocals := 3, code := prog_3_method_4_code, exceptionTable := #[], attributes := #[] }
def k2m3 : Method := { name := "linkAtEndOf", desc := "(Lcom/example/slot512/slot512/Link;)V", sig := { parameters := [(.object "com/example/slot512/slot512/Link")], returnType := none }, accessFlags := 0, code := some k2c3 }
/-- com/example/slot512/slot512/Link -/
def k2 : Class := { plain "com/example/slot512/slot512/Link" (some 0) with
  accessFlags := 32
  interfaces := #[]
  cf := some (fileOf pool2 7 #[] #[{ accessFlags := 0, nameIndex := 5, descriptorIndex := 6, attributes := #[] }, { accessFlags := 8, nameIndex := 19, descriptorIndex := 20, attributes := #[] }, { accessFlags := 0, nameIndex := 21, descriptorIndex := 22, attributes := #[] }, { accessFlags := 0, nameIndex := 24, descriptorIndex := 25, attributes := #[] }] 32 2 #[] #[{ accessFlags := 0, nameIndex := 12, descriptorIndex := 13, attributes := #[] }, { accessFlags := 0, nameIndex := 16, descriptorIndex := 13, attributes := #[] }])
  fields := #[{ name := "prev", type := (.object "com/example/slot512/slot512/Link"), accessFlags := 0, slot := 0, constantValue := 0 }, { name := "next", type := (.object "com/example/slot512/slot512/Link"), accessFlags := 0, slot := 1, constantValue := 0 }]
  methods := #[k2m0, k2m1, k2m2, k2m3]
  instanceTypes := #[(.object "com/example/slot512/slot512/Link"), (.object "com/example/slot512/slot512/Link")]
  staticTypes := #[]
  resolved := Array.replicate 29 none
  statics := none }

def pool3 : Array CpInfo := pool [(1, u "java/lang/Cloneable"), (0, .class_ 1), (0, u "java/lang/Object"), (0, .class_ 3)] 3

/-- java/lang/Cloneable -/
def k3 : Class := { plain "java/lang/Cloneable" (some 0) with
  accessFlags := 1537
  interfaces := #[]
  cf := some (fileOf pool3 2 #[] #[] 1537 4 #[] #[])
  fields := #[]
  methods := #[]
  instanceTypes := #[]
  staticTypes := #[]
  resolved := Array.replicate 8 none
  statics := none }

def pool4 : Array CpInfo := pool [(1, u "java/io/Serializable"), (0, .class_ 1), (0, u "java/lang/Object"), (0, .class_ 3)] 3

/-- java/io/Serializable -/
def k4 : Class := { plain "java/io/Serializable" (some 0) with
  accessFlags := 1537
  interfaces := #[]
  cf := some (fileOf pool4 2 #[] #[] 1537 4 #[] #[])
  fields := #[]
  methods := #[]
  instanceTypes := #[]
  staticTypes := #[]
  resolved := Array.replicate 8 none
  statics := none }

/-- the primitive byte -/
def k5 : Class := { plain "byte" none with kind := .primitive 'B', accessFlags := 0x411 }
/-- [B -/
def k6 : Class := { plain "[B" (some 0) with kind := .array 5 .byte, interfaces := #[3, 4], accessFlags := 1041 }

/-- the primitive int -/
def k7 : Class := { plain "int" none with kind := .primitive 'I', accessFlags := 0x411 }
/-- [I -/
def k8 : Class := { plain "[I" (some 0) with kind := .array 7 .int, interfaces := #[3, 4], accessFlags := 1041 }

/-- [Lcom/example/slot512/slot512/Link; -/
def k9 : Class := { plain "[Lcom/example/slot512/slot512/Link;" (some 0) with kind := .array 2 (.object "com/example/slot512/slot512/Link"), interfaces := #[3, 4], accessFlags := 1041 }

def heap : Heap := #[]
def classes : Array Class := #[k0, k1, k2, k3, k4, k5, k6, k7, k8, k9]
def interned : List (Array UInt16 × Addr) := []
def slotsUsed : Nat := 0
def theMethod : MethodId := ⟨1, 1⟩
def args0 : Array Value := #[.int 2]
def aboutOver (below : List Frame) : State where
  vm := { classes := classes, interned := interned.toArray }
  heap := heap
  slotsUsed := slotsUsed
  threads := #[{ frames := .invoking theMethod args0 :: below }]
def below0 : List Frame := [.native { method := ⟨0, 0⟩, args := #[] }]
def about1 : State := aboutOver below0
def p0 : Program := .bare "" "" ""
def e0 : Env := launch0.env 0 0 0
theorem w_frames : about1.frames = Frame.invoking theMethod args0 :: below0 := rfl
set_option maxRecDepth 65536 in
theorem w_args : argsFit about1.vm theMethod args0 = true := by decide +kernel
set_option maxRecDepth 65536 in
theorem w_heap : heapFits about1 = true := by decide +kernel
set_option maxRecDepth 65536 in
theorem w_runnable : about1.curStatus? = some .runnable := by decide +kernel
set_option maxRecDepth 65536 in
theorem w_alone : about1.alone = true := by decide +kernel
set_option maxRecDepth 65536 in
theorem w_named : about1.methodNamed? x = some theMethod := by decide +kernel
set_option maxRecDepth 65536 in
theorem w_hears : about1.hears theMethod below0 = true := by decide +kernel
set_option maxRecDepth 65536 in
theorem w_ripe : about1.ripe theMethod args0 below0 = true := by decide +kernel
theorem w_running : about1.status = .running := rfl
set_option maxRecDepth 65536 in
theorem w_room : about1.hasRoom e0.platform room_1 = true :=
  launch0.hasRoom_least _ room_1 (by decide +kernel) (by decide +kernel) (by decide +kernel) (by decide +kernel) (by decide +kernel) (by decide +kernel)
theorem allAtoms_all (ts : List Jvm.Cond) (a : Array Jvm.Value) (st : Jvm.State) : (allAtoms ts).before a st = ts.all (fun c => c.before a st) := by
  induction ts with
  | nil => rfl
  | cons c t ih =>
    show (Jvm.Cond.and c (allAtoms t)).before a st = _
    rw [Jvm.Cond.before_and, ih, List.all_cons]
def words1 : List Jvm.Cond := Jvm.Cond.code x code maxLocals ret :: tables_1
/-- a 'code' word, met by the world's own term for the bytes: nothing is compared byte by byte -/
theorem code_word {y : MethodName} {bytes : ByteArray} {mx : Nat} {rt : Option FieldType} {a : Array Value} {s : State} {m : MethodId} {meth : Method} {c : Code} (h1 : s.methodNamed? y = some m) (h2 : s.vm.method? m = some meth) (h3 : meth.code = some c) (h4 : c.code = bytes)
    (h5 : (c.maxLocals == mx && c.exceptionTable.isEmpty && decide (c.maxStack ≤ mostOperands) && decide (meth.sig.returnType = rt) && !meth.locks && decide (parseMethodDescriptor y.desc = some meth.sig)) = true) : (Jvm.Cond.code y bytes mx rt).before a s = true := by
  simp only [Bool.and_eq_true, beq_iff_eq, Bool.not_eq_true', decide_eq_true_eq] at h5
  obtain ⟨⟨⟨⟨⟨g1, g2⟩, g3⟩, g4⟩, g5⟩, g6⟩ := h5
  simp [Cond.before, Cond.holds, Cond.value, h1, h2, h3, h4, g1, g2, g3, g4, g5, g6]
def isCode : Jvm.Cond → Bool
  | .code _ _ _ _ => true
  | _ => false
theorem all_split {L : List Jvm.Cond} {P : Jvm.Cond → Bool} (h1 : L.all (fun c => isCode c || P c) = true) (h2 : ∀ c ∈ L.filter isCode, P c = true) : L.all P = true := by
  refine List.all_eq_true.mpr fun c hc => ?_
  have h := List.all_eq_true.mp h1 c hc
  rcases Bool.eq_false_or_eq_true (isCode c) with hi | hi
  · exact h2 c (List.mem_filter.mpr ⟨hc, hi⟩)
  · simpa [hi] using h
set_option maxRecDepth 65536 in
theorem w_c0 : (Jvm.Cond.code x code maxLocals ret).before args0 about1 = true := code_word (m := ⟨1, 1⟩) (meth := k1m1) (c := k1c1) (by decide +kernel) rfl rfl rfl (by decide +kernel)
set_option maxRecDepth 65536 in
theorem w_c1 : (Jvm.Cond.code ({ cls := "com/example/slot512/slot512/Link", name := "emptyList", desc := "()Lcom/example/slot512/slot512/Link;" } : Jvm.MethodName) prog_3_method_2_code (1 : Nat) (Option.some (Jvm.ClassFile.FieldType.object "com/example/slot512/slot512/Link"))).before args0 about1 = true := code_word (m := ⟨2, 1⟩) (meth := k2m1) (c := k2c1) (by decide +kernel) rfl rfl rfl (by decide +kernel)
set_option maxRecDepth 65536 in
theorem w_c2 : (Jvm.Cond.code ({ cls := "com/example/slot512/slot512/Link", name := "<init>", desc := "()V" } : Jvm.MethodName) prog_3_method_1_code (1 : Nat) (Option.none : Option Jvm.ClassFile.FieldType)).before args0 about1 = true := code_word (m := ⟨2, 0⟩) (meth := k2m0) (c := k2c0) (by decide +kernel) rfl rfl rfl (by decide +kernel)
set_option maxRecDepth 65536 in
theorem w_c3 : (Jvm.Cond.code ({ cls := "java/lang/Object", name := "<init>", desc := "()V" } : Jvm.MethodName) object_method_1_code (1 : Nat) (Option.none : Option Jvm.ClassFile.FieldType)).before args0 about1 = true := code_word (m := ⟨0, 0⟩) (meth := k0m0) (c := k0c0) (by decide +kernel) rfl rfl rfl (by decide +kernel)
set_option maxRecDepth 65536 in
theorem w_c4 : (Jvm.Cond.code ({ cls := "com/example/slot512/slot512/Link", name := "linkAtEndOf", desc := "(Lcom/example/slot512/slot512/Link;)V" } : Jvm.MethodName) prog_3_method_4_code (3 : Nat) (Option.none : Option Jvm.ClassFile.FieldType)).before args0 about1 = true := code_word (m := ⟨2, 3⟩) (meth := k2m3) (c := k2c3) (by decide +kernel) rfl rfl rfl (by decide +kernel)
set_option maxRecDepth 65536 in
theorem w_c5 : (Jvm.Cond.code ({ cls := "com/example/slot512/slot512/LinkLinkAtEndOfPinLaw", name := "step", desc := "([Lcom/example/slot512/slot512/Link;II)Z" } : Jvm.MethodName) method_3_code (5 : Nat) (Option.some Jvm.ClassFile.FieldType.boolean)).before args0 about1 = true := code_word (m := ⟨1, 2⟩) (meth := k1m2) (c := k1c2) (by decide +kernel) rfl rfl rfl (by decide +kernel)
set_option maxRecDepth 65536 in
theorem w_c6 : (Jvm.Cond.code ({ cls := "com/example/slot512/slot512/Link", name := "isEmptyList", desc := "()Z" } : Jvm.MethodName) prog_3_method_3_code (1 : Nat) (Option.some Jvm.ClassFile.FieldType.boolean)).before args0 about1 = true := code_word (m := ⟨2, 2⟩) (meth := k2m2) (c := k2c2) (by decide +kernel) rfl rfl rfl (by decide +kernel)
def codes1 : List Jvm.Cond := [Jvm.Cond.code x code maxLocals ret, Jvm.Cond.code ({ cls := "com/example/slot512/slot512/Link", name := "emptyList", desc := "()Lcom/example/slot512/slot512/Link;" } : Jvm.MethodName) prog_3_method_2_code (1 : Nat) (Option.some (Jvm.ClassFile.FieldType.object "com/example/slot512/slot512/Link")), Jvm.Cond.code ({ cls := "com/example/slot512/slot512/Link", name := "<init>", desc := "()V" } : Jvm.MethodName) prog_3_method_1_code (1 : Nat) (Option.none : Option Jvm.ClassFile.FieldType), Jvm.Cond.code ({ cls := "java/lang/Object", name := "<init>", desc := "()V" } : Jvm.MethodName) object_method_1_code (1 : Nat) (Option.none : Option Jvm.ClassFile.FieldType), Jvm.Cond.code ({ cls := "com/example/slot512/slot512/Link", name := "linkAtEndOf", desc := "(Lcom/example/slot512/slot512/Link;)V" } : Jvm.MethodName) prog_3_method_4_code (3 : Nat) (Option.none : Option Jvm.ClassFile.FieldType), Jvm.Cond.code ({ cls := "com/example/slot512/slot512/LinkLinkAtEndOfPinLaw", name := "step", desc := "([Lcom/example/slot512/slot512/Link;II)Z" } : Jvm.MethodName) method_3_code (5 : Nat) (Option.some Jvm.ClassFile.FieldType.boolean), Jvm.Cond.code ({ cls := "com/example/slot512/slot512/Link", name := "isEmptyList", desc := "()Z" } : Jvm.MethodName) prog_3_method_3_code (1 : Nat) (Option.some Jvm.ClassFile.FieldType.boolean)]
set_option maxRecDepth 65536 in
theorem codes_eq : words1.filter isCode = codes1 := rfl
theorem w_codes : ∀ c ∈ words1.filter isCode, c.before args0 about1 = true := by
  rw [codes_eq]
  intro c hc
  simp only [codes1, List.mem_cons, List.not_mem_nil, or_false] at hc
  rcases hc with rfl | rfl | rfl | rfl | rfl | rfl | rfl
  · exact w_c0
  · exact w_c1
  · exact w_c2
  · exact w_c3
  · exact w_c4
  · exact w_c5
  · exact w_c6
set_option maxRecDepth 65536 in
theorem w_t1 : (words1.take 24).all (fun c => isCode c || c.before args0 about1) = true := by decide +kernel
set_option maxRecDepth 65536 in
theorem w_t2 : (words1.drop 24).all (fun c => isCode c || c.before args0 about1) = true := by decide +kernel
theorem w_tables : (allAtoms (Jvm.Cond.code x code maxLocals ret :: tables_1)).before args0 about1 = true := by
  rw [allAtoms_all]
  show words1.all (fun c => c.before args0 about1) = true
  refine all_split ?_ w_codes
  rw [← List.take_append_drop 24 words1, List.all_append, w_t1, w_t2]
  rfl
set_option maxRecDepth 65536 in
theorem w_case : (Jvm.Cond.and given_1 narrow_1).before args0 about1 = true := by decide +kernel
theorem w_applies : (headSpec (Jvm.Cond.code x code maxLocals ret :: tables_1) room_1).applies x e0.platform about1 = true :=
  (Spec.applies_iff w_frames).mpr ⟨w_running, w_runnable, w_alone, w_named, w_hears, w_ripe, w_room, w_tables⟩
theorem atStart : AtStart classFile x code maxLocals ret World_1 tables_1 room_1 Calls_1 rest_1 Pre_1 launch0 p0 e0 about1 theMethod args0 below0 :=
  ⟨lists_1, trivial, launch0.admits_env _ _ _, launch0.least_env, fairChoices_fair.cas, fairChoices_fair.clock, w_frames, w_args, w_heap, w_applies, trivial, trivial, w_case⟩
end start1
theorem witness_1 : WitnessClaimed_1 := ⟨start1.p0, start1.e0, start1.about1, start1.theMethod, start1.args0, start1.below0, start1.atStart⟩
end Jvm.Pilot.@@N@@
