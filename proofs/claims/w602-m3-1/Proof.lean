import JvmDerived
import JvmDerived.Pilot.@@N@@Statement
import JvmDerived.Pilot.@@N@@Code
set_option linter.unusedVariables false
set_option linter.unusedSimpArgs false
namespace Jvm.OwnKit
open Jvm Jvm.ClassFile Sem Op Lib Jvm.Free Jvm.Stand Jvm.LawKit Jvm.RoadKit Bundle
/-- what is fixed in one body's walk: program, launch, environment, room, state at the call, method, arguments, frames below, its record, its code, the old addresses that it may write -/
abbrev Wk : Type := Program × Launch × Env × Room × State × MethodId × Array Value × List Frame × Method × Code × List Addr
abbrev Wk.p (W : Wk) : Program := W.1
abbrev Wk.l (W : Wk) : Launch := W.2.1
abbrev Wk.e (W : Wk) : Env := W.2.2.1
abbrev Wk.R (W : Wk) : Room := W.2.2.2.1
abbrev Wk.s (W : Wk) : State := W.2.2.2.2.1
abbrev Wk.m (W : Wk) : MethodId := W.2.2.2.2.2.1
abbrev Wk.args (W : Wk) : Array Value := W.2.2.2.2.2.2.1
abbrev Wk.below (W : Wk) : List Frame := W.2.2.2.2.2.2.2.1
abbrev Wk.meth (W : Wk) : Method := W.2.2.2.2.2.2.2.2.1
abbrev Wk.c (W : Wk) : Code := W.2.2.2.2.2.2.2.2.2.1
abbrev Wk.ws (W : Wk) : List Addr := W.2.2.2.2.2.2.2.2.2.2
/-- an address that may be written: a named old one, or a new one -/
def Pw (W : Wk) (a : Addr) : Prop := a ∈ W.ws ∨ W.s.heap.size ≤ a
abbrev Sta0 (W : Wk) (T : State) (locs : List Loc) (k n : Nat) : Prop := Stand W.p W.l W.e W.R W.s W.m W.args W.below W.meth W.c T locs k n
abbrev Stp (W : Wk) (S t : State) : Prop := Steps W.p.tables W.e W.below S t
def Sd (W : Wk) (T : State) (h : Heap) (k n : Nat) : Prop := ∃ locs, Sta0 W T locs k n ∧ T.heap = h ∧ ∀ y ∈ locs, Pw W y.base
/-- from S the body comes to its end, returning what Q says -/
def Out (W : Wk) (Q : Option Value → Heap → Prop) (S : State) : Prop := ∃ s₂ o, Stp W S s₂ ∧ s₂.status = .running ∧ Ended s₂ W.below o ∧ ∃ v L, o = .returned v ∧ (Q v s₂.heap ∧ ∀ y ∈ L, Pw W y.base) ∧ FrameEnd W.s o s₂ L W.R.cells W.R.slots
/-- from every state that stands here over the heap h, the body comes to its end as Q says -/
def Go (W : Wk) (Q : Option Value → Heap → Prop) (h : Heap) (k n pc : Nat) (L : Array Slot) (S : List Value) : Prop := ∀ T, Sd W T h k n → Out W Q (T.setTop (mkF W.m pc L S))
def Cx (W : Wk) (Z : State) (R : Room) (own : String) (code : ByteArray) (mx : Nat) (ret : Option FieldType) (nm : String) (ws : List Addr) (h0 : Heap) : Prop :=
  W.p.tables.exec = Jvm.exec ∧ Z.Warmed39 W.s.vm ∧ W.s.vm.findClass own = some W.m.cls ∧ W.c.code = code ∧ W.c.maxLocals = mx ∧ W.meth.sig.returnType = ret ∧ W.meth.locks = false ∧ W.meth.name = nm ∧ W.R = R ∧ W.ws = ws ∧ W.s.heap = h0
/-- a body's contract at the heap h: ws: the old addresses that it may write -/
def Con (l : Launch) (Z : State) (w0 : List Jvm.Cond) (y : MethodName) (bytes : ByteArray) (mx : Nat) (ret : Option FieldType) (rm : Room) (as : Array Value) (h : Heap) (ws : List Addr) (Q : Option Value → Heap → Prop) : Prop :=
  MetFree l y (head1 (Jvm.Cond.code y bytes mx ret :: w0) rm) (fun a U => a = as ∧ Z.Warmed39 U.vm ∧ U.heap = h) (fun _ _ _ _ _ => True)
    (fun _ U o U' => ∃ v L, o = .returned v ∧ (Q v U'.heap ∧ ∀ y ∈ L, y.base ∈ ws ∨ h.size ≤ y.base) ∧ FrameEnd U o U' L rm.cells rm.slots)
/-- a truth value as an int -/
def b2i (P : Prop) [Decidable P] : Int32 := if P then 1 else 0
theorem b2i_pos {P : Prop} [Decidable P] (h : P) : b2i P = 1 := if_pos h
theorem b2i_neg {P : Prop} [Decidable P] (h : ¬ P) : b2i P = 0 := if_neg h
theorem b2i_iff {P Q : Prop} [Decidable P] [Decidable Q] (h : P ↔ Q) : b2i P = b2i Q := by by_cases q : Q <;> simp [b2i, h, q]
theorem b2i_toInt (P : Prop) [Decidable P] : (b2i P).toInt = if P then 1 else 0 := by unfold b2i; split <;> rfl
theorem b2i_one {P : Prop} [Decidable P] : b2i P = 1 ↔ P := by unfold b2i; split <;> simp [*]
theorem b2i_zero {P : Prop} [Decidable P] : b2i P = 0 ↔ ¬ P := by unfold b2i; split <;> simp [*]
theorem nar_b2i (P : Prop) [Decidable P] : nar .boolean (b2i P) = b2i P := by unfold b2i; split <;> rfl
theorem b2i_inj {P Q : Prop} [Decidable P] [Decidable Q] : b2i P = b2i Q ↔ (P ↔ Q) := by unfold b2i; split <;> split <;> simp [*]
theorem ref_cat {v : Value} (h : v.isRef = true) : v.category = 1 := by cases v <;> simp [Value.isRef] at h ⊢ <;> rfl
theorem narrow_ref {t : FieldType} {v : Value} (h : v.isRef = true) : narrow t v = v := by cases v <;> simp [Value.isRef] at h <;> cases t <;> rfl
theorem fits_b2i (P : Prop) [Decidable P] : fits .boolean (.int (b2i P)) = true := by unfold b2i; split <;> rfl
theorem fits_ref0 {t : FieldType} {v : Value} (h : v.isRef = true) (ht : refKind t = true := by rfl) : fits t v = true := by cases v <;> simp [Value.isRef] at h <;> cases t <;> simp_all [refKind, fits]
section Facts
variable {Z : State} {h h' : Heap} {a b : Addr} {C : String} {ws : List Addr}
/-- an object of the class C: its fields (declaring class, name, descriptor, value) -/
def Ob (Z : State) (h : Heap) (a : Addr) (C : String) (fs : List (String × String × String × Value)) : Prop :=
  Exa Z h a C ∧ (∀ f ∈ fs, Fld Z h a f.1 f.2.1 f.2.2.1 f.2.2.2) ∧ (fs.map fun f => RoadKit.slotOf Z f.1 f.2.1 f.2.2.1).Nodup
variable {fs fs' : List (String × String × String × Value)} {o n d : String} {v old : Value} {i : Nat}
theorem Ob.exa (O : Ob Z h a C fs) : Exa Z h a C := O.1
theorem Ob.lt (O : Ob Z h a C fs) : a < h.size := O.1.lt
theorem Ob.get (O : Ob Z h a C fs) (hi : fs[i]? = some (o, n, d, v)) : Fld Z h a o n d v := O.2.1 _ (List.mem_of_getElem? hi)
theorem Ob.keep (O : Ob Z h a C fs) (K : Keep h h' ws) (q : a ∉ ws) : Ob Z h' a C fs := ⟨O.1.keep K, fun f hf => (O.2.1 f hf).keep K q, O.2.2⟩
theorem Ob.ext (O : Ob Z h a C fs) (E : Ext h h') : Ob Z h' a C fs := ⟨O.1.ext E, fun f hf => (O.2.1 f hf).ext E, O.2.2⟩
theorem Ob.other (O : Ob Z h b C fs) {sl : Nat} (W : Wr h h' a sl v) (q : b ≠ a) : Ob Z h' b C fs := O.keep (Keep.of_wr W) (ninS q nin0)
theorem Ob.put (O : Ob Z h a C fs) (hi : fs[i]? = some (o, n, d, old)) (W : Wr h h' a (RoadKit.slotOf Z o n d) v) : Ob Z h' a C (fs.set i (o, n, d, v)) := by
  obtain ⟨E, F, N⟩ := O
  have hlt : i < fs.length := (List.getElem?_eq_some_iff.mp hi).1
  have hm : (fs.set i (o, n, d, v)).map (fun f => RoadKit.slotOf Z f.1 f.2.1 f.2.2.1) = fs.map (fun f => RoadKit.slotOf Z f.1 f.2.1 f.2.2.1) := by
    rw [List.map_set]
    have e : (fs.map fun f => RoadKit.slotOf Z f.1 f.2.1 f.2.2.1)[i]? = some (RoadKit.slotOf Z o n d) := by rw [List.getElem?_map, hi]; rfl
    obtain ⟨hl, he⟩ := List.getElem?_eq_some_iff.mp e
    have q := List.set_getElem_self hl
    rw [he] at q
    exact q
  refine ⟨E.wr W, fun f hf => ?_, by rw [hm]; exact N⟩
  obtain ⟨j, hj⟩ := List.mem_iff_getElem?.mp hf
  by_cases e : j = i
  · subst e
    rw [List.getElem?_set_self hlt] at hj
    cases hj
    exact (F _ (List.mem_of_getElem? hi)).same W
  · rw [List.getElem?_set_ne (Ne.symm e)] at hj
    refine (F f (List.mem_of_getElem? hj)).other W (Or.inr fun q => ?_)
    have e1 : (fs.map fun f => RoadKit.slotOf Z f.1 f.2.1 f.2.2.1)[j]? = some (RoadKit.slotOf Z f.1 f.2.1 f.2.2.1) := by rw [List.getElem?_map, hj]; rfl
    have e2 : (fs.map fun f => RoadKit.slotOf Z f.1 f.2.1 f.2.2.1)[i]? = some (RoadKit.slotOf Z o n d) := by rw [List.getElem?_map, hi]; rfl
    rw [q] at e1
    obtain ⟨l1, q1⟩ := List.getElem?_eq_some_iff.mp e1
    obtain ⟨l2, q2⟩ := List.getElem?_eq_some_iff.mp e2
    exact e ((List.getElem_inj N).mp (q1.trans q2.symm))
/-- an array: its components -/
def Ar (Z : State) (h : Heap) (a : Addr) (ty : FieldType) (vs : List Value) : Prop := ∃ c : Cell, Arr Z h a c ty ∧ c.slots.toList = vs
/-- ... of references to objects of the class C -/
def ArR (Z : State) (h : Heap) (a : Addr) (C : String) (vs : List Value) : Prop := ∃ c : Cell, Arr Z h a c (.object C) ∧ c.slots.toList = vs ∧ Ovr Z c.cls C
variable {ty : FieldType} {vs : List Value}
theorem Ar.lt (A : Ar Z h a ty vs) : a < h.size := A.elim fun _ q => q.1.lt
theorem Ar.keep (A : Ar Z h a ty vs) (K : Keep h h' ws) (q : a ∉ ws) : Ar Z h' a ty vs := by obtain ⟨c, A, e⟩ := A; exact ⟨c, ⟨K.2.1 a c A.1 q, A.2⟩, e⟩
theorem Ar.ext (A : Ar Z h a ty vs) (E : Ext h h') : Ar Z h' a ty vs := by obtain ⟨c, A, e⟩ := A; exact ⟨c, A.ext E, e⟩
theorem ArR.lt (A : ArR Z h a C vs) : a < h.size := A.elim fun _ q => q.1.lt
theorem ArR.keep (A : ArR Z h a C vs) (K : Keep h h' ws) (q : a ∉ ws) : ArR Z h' a C vs := by obtain ⟨c, A, e⟩ := A; exact ⟨c, ⟨K.2.1 a c A.1 q, A.2⟩, e⟩
theorem ArR.ext (A : ArR Z h a C vs) (E : Ext h h') : ArR Z h' a C vs := by obtain ⟨c, A, e⟩ := A; exact ⟨c, A.ext E, e⟩
theorem nin1 (q : b ≠ a) : b ∉ [a] := ninS q nin0
theorem clamp_of {j : Int32} {i : Nat} (hj : j.toInt = i) : j.toNatClampNeg = i := by
  show j.toInt.toNat = i
  omega
theorem nneg_of {j : Int32} {i : Nat} (hj : j.toInt = i) : ¬ j < 0 := by
  rw [Int32.lt_iff_toInt_lt, hj]
  show ¬ ((i : Int) < 0)
  omega
theorem in_of {j : Int32} {i : Nat} {c : Cell} (hj : j.toInt = i) (hi : i < c.slots.toList.length) : ¬ (j < 0 ∨ c.slots.size ≤ j.toNatClampNeg) := by
  rw [clamp_of hj]
  rintro (q | q)
  · exact nneg_of hj q
  · rw [Array.length_toList] at hi; omega
theorem set_toList (c : Cell) (i : Nat) (v : Value) : (c.setSlot i v).slots.toList = c.slots.toList.set i v := by
  show (c.slots.setIfInBounds i v).toList = _
  rw [Array.toList_setIfInBounds]
theorem Ar.put {c : Cell} (A : Arr Z h a c ty) (e : c.slots.toList = vs) {j : Int32} {i : Nat} (hj : j.toInt = i) (W : Wr h h' a j.toNatClampNeg v) : Ar Z h' a ty (vs.set i v) := by
  refine ⟨_, A.same W, ?_⟩
  rw [clamp_of hj, set_toList, e]
theorem map_getI {l : List Int32} {i : Nat} (hi : i < l.length) : (l.map Value.int)[i]? = some (.int (l.getD i 0)) := by
  rw [List.getElem?_map, List.getElem?_eq_getElem hi, List.getD_eq_getElem?_getD, List.getElem?_eq_getElem hi]; rfl
theorem map_getJ {l : List Int64} {i : Nat} (hi : i < l.length) : (l.map Value.long)[i]? = some (.long (l.getD i 0)) := by
  rw [List.getElem?_map, List.getElem?_eq_getElem hi, List.getD_eq_getElem?_getD, List.getElem?_eq_getElem hi]; rfl
theorem map_setI (l : List Int32) (i : Nat) (x : Int32) : (l.map Value.int).set i (.int x) = (l.set i x).map Value.int := by rw [List.map_set]
theorem map_setJ (l : List Int64) (i : Nat) (x : Int64) : (l.map Value.long).set i (.long x) = (l.set i x).map Value.long := by rw [List.map_set]
theorem nat32 {n : Nat} (h : n < 2147483648) : n.toInt32.toInt = n := by
  show (Int32.ofNat n).toInt = n
  rw [Int32.toInt_ofNat_of_lt (by omega)]
theorem keep_of_same {s t : State} {L : List Loc} {k n : Nat} {ws : List Addr} (H : s.sameButNew t L k n) (hL : ∀ y ∈ L, y.base ∈ ws ∨ s.heap.size ≤ y.base) : Keep s.heap t.heap ws := by
  obtain ⟨-, h1, -, -, -, h5⟩ := H
  have lt : ∀ (x : Addr) (c : Cell), s.heap[x]? = some c → x < s.heap.size := fun x c q => (Array.getElem?_eq_some_iff.mp q).1
  refine ⟨h1, fun x c q r => ?_, fun x c q => ?_⟩
  · obtain ⟨c', e1, e2, e3, e4⟩ := h5 x c q
    have hs : c'.slots = c.slots := by
      refine Array.ext_getElem? fun i => e4 i fun hm => ?_
      rcases hL _ hm with z | z
      · exact r z
      · exact absurd (lt x c q) (Nat.not_lt.mpr z)
    rw [e1, e2, hs]
  · obtain ⟨c', e1, e2, e3, -⟩ := h5 x c q
    exact ⟨c', e1, by rw [e2], by rw [e2], e3⟩
end Facts
section Steps0
variable {W : Wk} {Z : State} {R : Room} {own nm : String} {code : ByteArray} {mx : Nat} {ret : Option FieldType} {wsx : List Addr} {hx0 : Heap} {Q : Option Value → Heap → Prop} {h : Heap} {k n pc pc' pc1 pc2 : Nat} {L L' : Array Slot} {S S' : List Value} {a0 : Array Value}
theorem Cx.x (C : Cx W Z R own code mx ret nm wsx hx0) : W.p.tables.exec = Jvm.exec := C.1
theorem Cx.z (C : Cx W Z R own code mx ret nm wsx hx0) : Z.Warmed39 W.s.vm := C.2.1
theorem Cx.o (C : Cx W Z R own code mx ret nm wsx hx0) : W.s.vm.findClass own = some W.m.cls := C.2.2.1
theorem Cx.b (C : Cx W Z R own code mx ret nm wsx hx0) {r : Except ClassFile.DecodeError (ClassFile.Instr × Nat)} (hd : decode code pc = r) : decode W.c.code pc = r := hb C.2.2.2.1 hd
theorem Cx.ml (C : Cx W Z R own code mx ret nm wsx hx0) : W.c.maxLocals = mx := C.2.2.2.2.1
theorem Cx.rt (C : Cx W Z R own code mx ret nm wsx hx0) : W.meth.sig.returnType = ret := C.2.2.2.2.2.1
theorem Cx.lk (C : Cx W Z R own code mx ret nm wsx hx0) : W.meth.locks = false := C.2.2.2.2.2.2.1
theorem Cx.nme (C : Cx W Z R own code mx ret nm wsx hx0) : W.meth.name = nm := C.2.2.2.2.2.2.2.1
theorem Cx.r (C : Cx W Z R own code mx ret nm wsx hx0) : W.R = R := C.2.2.2.2.2.2.2.2.1
theorem Cx.ws (C : Cx W Z R own code mx ret nm wsx hx0) : W.ws = wsx := C.2.2.2.2.2.2.2.2.2.1
theorem Cx.h0 (C : Cx W Z R own code mx ret nm wsx hx0) : W.s.heap = hx0 := C.2.2.2.2.2.2.2.2.2.2
theorem Cx.old (C : Cx W Z R own code mx ret nm wsx hx0) {a : Addr} (q : a ∈ wsx) : Pw W a := Or.inl (C.ws ▸ q)
theorem Cx.new (C : Cx W Z R own code mx ret nm wsx hx0) {a : Addr} (q : hx0.size ≤ a) : Pw W a := Or.inr (C.h0 ▸ q)
theorem Out.st {S S' : State} (f : ∀ t, Stp W S' t → Stp W S t) (g : Out W Q S') : Out W Q S := by
  obtain ⟨s2, o, q, r⟩ := g
  exact ⟨s2, o, f _ q, r⟩
theorem Go.st (f : ∀ T locs, Sta0 W T locs k n → T.heap = h → ∀ t, Stp W (T.setTop (mkF W.m pc' L' S')) t → Stp W (T.setTop (mkF W.m pc L S)) t) (g : Go W Q h k n pc' L' S') : Go W Q h k n pc L S := fun T hT => by
  obtain ⟨locs, X, e, N⟩ := hT
  exact Out.st (f T locs X e) (g T ⟨locs, X, e, N⟩)
theorem Go.same {k' n' : Nat} (g : Go W Q h k n pc L S) (e1 : k' = k) (e2 : n' = n) : Go W Q h k' n' pc L S := by subst e1 e2; exact g
theorem Go.more {k' n' : Nat} (g : Go W Q h k' n' pc L S) (e1 : k ≤ k') (e2 : n ≤ n') : Go W Q h k n pc L S := fun T hT => by
  obtain ⟨locs, X, e, N⟩ := hT
  exact g T ⟨locs, ⟨X.admits, X.cas, X.clock, X.frames, X.room, X.hears, X.method, X.code, X.here, X.tail, X.warmed, X.limits, X.bytes, X.same.mono e1 e2⟩, e, N⟩
theorem Go.cell (g : hx0.size ≤ h.size → Go W Q h k n pc L S) (C : Cx W Z R own code mx ret nm wsx hx0) : Go W Q h k n pc L S := fun T hT => by
  obtain ⟨locs, X, e, N⟩ := hT
  have q : W.s.heap.size ≤ T.heap.size := X.same.2.1
  rw [C.h0, e] at q
  exact g q T ⟨locs, X, e, N⟩

theorem g_iadd (C : Cx W Z R own code mx ret nm wsx hx0) {x y : Int32} (hd : decode code pc = .ok (.iadd, 1)) (hp : pc + 1 = pc') (g : Go W Q h k n pc' L (.int (x + y) :: S)) : Go W Q h k n pc L (.int y :: .int x :: S) := by
  subst hp
  exact g.st fun T locs X e t kk => XS.iadd (g := mkF W.m pc L (.int y :: .int x :: S)) X.here C.x rfl (C.b hd) rfl kk
theorem g_isub (C : Cx W Z R own code mx ret nm wsx hx0) {x y : Int32} (hd : decode code pc = .ok (.isub, 1)) (hp : pc + 1 = pc') (g : Go W Q h k n pc' L (.int (x - y) :: S)) : Go W Q h k n pc L (.int y :: .int x :: S) := by
  subst hp
  exact g.st fun T locs X e t kk => XS.isub (g := mkF W.m pc L (.int y :: .int x :: S)) X.here C.x rfl (C.b hd) rfl kk
theorem g_imul (C : Cx W Z R own code mx ret nm wsx hx0) {x y : Int32} (hd : decode code pc = .ok (.imul, 1)) (hp : pc + 1 = pc') (g : Go W Q h k n pc' L (.int (x * y) :: S)) : Go W Q h k n pc L (.int y :: .int x :: S) := by
  subst hp
  exact g.st fun T locs X e t kk => XS.imul (g := mkF W.m pc L (.int y :: .int x :: S)) X.here C.x rfl (C.b hd) rfl kk
theorem g_iand (C : Cx W Z R own code mx ret nm wsx hx0) {x y : Int32} (hd : decode code pc = .ok (.iand, 1)) (hp : pc + 1 = pc') (g : Go W Q h k n pc' L (.int (x &&& y) :: S)) : Go W Q h k n pc L (.int y :: .int x :: S) := by
  subst hp
  exact g.st fun T locs X e t kk => XS.iand (g := mkF W.m pc L (.int y :: .int x :: S)) X.here C.x rfl (C.b hd) rfl kk
theorem g_ior (C : Cx W Z R own code mx ret nm wsx hx0) {x y : Int32} (hd : decode code pc = .ok (.ior, 1)) (hp : pc + 1 = pc') (g : Go W Q h k n pc' L (.int (x ||| y) :: S)) : Go W Q h k n pc L (.int y :: .int x :: S) := by
  subst hp
  exact g.st fun T locs X e t kk => XS.ior (g := mkF W.m pc L (.int y :: .int x :: S)) X.here C.x rfl (C.b hd) rfl kk
theorem g_ixor (C : Cx W Z R own code mx ret nm wsx hx0) {x y : Int32} (hd : decode code pc = .ok (.ixor, 1)) (hp : pc + 1 = pc') (g : Go W Q h k n pc' L (.int (x ^^^ y) :: S)) : Go W Q h k n pc L (.int y :: .int x :: S) := by
  subst hp
  exact g.st fun T locs X e t kk => XS.ixor (g := mkF W.m pc L (.int y :: .int x :: S)) X.here C.x rfl (C.b hd) rfl kk
theorem g_ishl (C : Cx W Z R own code mx ret nm wsx hx0) {x y : Int32} (hd : decode code pc = .ok (.ishl, 1)) (hp : pc + 1 = pc') (g : Go W Q h k n pc' L (.int (x <<< (y &&& 31)) :: S)) : Go W Q h k n pc L (.int y :: .int x :: S) := by
  subst hp
  exact g.st fun T locs X e t kk => XS.ishl (g := mkF W.m pc L (.int y :: .int x :: S)) X.here C.x rfl (C.b hd) rfl kk
theorem g_ishr (C : Cx W Z R own code mx ret nm wsx hx0) {x y : Int32} (hd : decode code pc = .ok (.ishr, 1)) (hp : pc + 1 = pc') (g : Go W Q h k n pc' L (.int (x >>> (y &&& 31)) :: S)) : Go W Q h k n pc L (.int y :: .int x :: S) := by
  subst hp
  exact g.st fun T locs X e t kk => XS.ishr (g := mkF W.m pc L (.int y :: .int x :: S)) X.here C.x rfl (C.b hd) rfl kk
theorem g_iushr (C : Cx W Z R own code mx ret nm wsx hx0) {x y : Int32} (hd : decode code pc = .ok (.iushr, 1)) (hp : pc + 1 = pc') (g : Go W Q h k n pc' L (.int ((x.toUInt32 >>> (y &&& 31).toUInt32).toInt32) :: S)) : Go W Q h k n pc L (.int y :: .int x :: S) := by
  subst hp
  exact g.st fun T locs X e t kk => XS.iushr (g := mkF W.m pc L (.int y :: .int x :: S)) X.here C.x rfl (C.b hd) rfl kk
theorem g_ladd (C : Cx W Z R own code mx ret nm wsx hx0) {x y : Int64} (hd : decode code pc = .ok (.ladd, 1)) (hp : pc + 1 = pc') (g : Go W Q h k n pc' L (.long (x + y) :: S)) : Go W Q h k n pc L (.long y :: .long x :: S) := by
  subst hp
  exact g.st fun T locs X e t kk => XS.ladd (g := mkF W.m pc L (.long y :: .long x :: S)) X.here C.x rfl (C.b hd) rfl kk
theorem g_lsub (C : Cx W Z R own code mx ret nm wsx hx0) {x y : Int64} (hd : decode code pc = .ok (.lsub, 1)) (hp : pc + 1 = pc') (g : Go W Q h k n pc' L (.long (x - y) :: S)) : Go W Q h k n pc L (.long y :: .long x :: S) := by
  subst hp
  exact g.st fun T locs X e t kk => XS.lsub (g := mkF W.m pc L (.long y :: .long x :: S)) X.here C.x rfl (C.b hd) rfl kk
theorem g_lmul (C : Cx W Z R own code mx ret nm wsx hx0) {x y : Int64} (hd : decode code pc = .ok (.lmul, 1)) (hp : pc + 1 = pc') (g : Go W Q h k n pc' L (.long (x * y) :: S)) : Go W Q h k n pc L (.long y :: .long x :: S) := by
  subst hp
  exact g.st fun T locs X e t kk => XS.lmul (g := mkF W.m pc L (.long y :: .long x :: S)) X.here C.x rfl (C.b hd) rfl kk
theorem g_land (C : Cx W Z R own code mx ret nm wsx hx0) {x y : Int64} (hd : decode code pc = .ok (.land, 1)) (hp : pc + 1 = pc') (g : Go W Q h k n pc' L (.long (x &&& y) :: S)) : Go W Q h k n pc L (.long y :: .long x :: S) := by
  subst hp
  exact g.st fun T locs X e t kk => XS.land (g := mkF W.m pc L (.long y :: .long x :: S)) X.here C.x rfl (C.b hd) rfl kk
theorem g_lor (C : Cx W Z R own code mx ret nm wsx hx0) {x y : Int64} (hd : decode code pc = .ok (.lor, 1)) (hp : pc + 1 = pc') (g : Go W Q h k n pc' L (.long (x ||| y) :: S)) : Go W Q h k n pc L (.long y :: .long x :: S) := by
  subst hp
  exact g.st fun T locs X e t kk => XS.lor (g := mkF W.m pc L (.long y :: .long x :: S)) X.here C.x rfl (C.b hd) rfl kk
theorem g_lxor (C : Cx W Z R own code mx ret nm wsx hx0) {x y : Int64} (hd : decode code pc = .ok (.lxor, 1)) (hp : pc + 1 = pc') (g : Go W Q h k n pc' L (.long (x ^^^ y) :: S)) : Go W Q h k n pc L (.long y :: .long x :: S) := by
  subst hp
  exact g.st fun T locs X e t kk => XS.lxor (g := mkF W.m pc L (.long y :: .long x :: S)) X.here C.x rfl (C.b hd) rfl kk
theorem g_lshl (C : Cx W Z R own code mx ret nm wsx hx0) {x : Int64} {y : Int32} (hd : decode code pc = .ok (.lshl, 1)) (hp : pc + 1 = pc') (g : Go W Q h k n pc' L (.long (x <<< (y &&& 0x3f).toInt64) :: S)) : Go W Q h k n pc L (.int y :: .long x :: S) := by
  subst hp
  exact g.st fun T locs X e t kk => XS.lshl (g := mkF W.m pc L (.int y :: .long x :: S)) X.here C.x rfl (C.b hd) rfl kk
theorem g_lshr (C : Cx W Z R own code mx ret nm wsx hx0) {x : Int64} {y : Int32} (hd : decode code pc = .ok (.lshr, 1)) (hp : pc + 1 = pc') (g : Go W Q h k n pc' L (.long (x >>> (y &&& 0x3f).toInt64) :: S)) : Go W Q h k n pc L (.int y :: .long x :: S) := by
  subst hp
  exact g.st fun T locs X e t kk => XS.lshr (g := mkF W.m pc L (.int y :: .long x :: S)) X.here C.x rfl (C.b hd) rfl kk
theorem g_lushr (C : Cx W Z R own code mx ret nm wsx hx0) {x : Int64} {y : Int32} (hd : decode code pc = .ok (.lushr, 1)) (hp : pc + 1 = pc') (g : Go W Q h k n pc' L (.long ((x.toUInt64 >>> (y &&& 0x3f).toInt64.toUInt64).toInt64) :: S)) : Go W Q h k n pc L (.int y :: .long x :: S) := by
  subst hp
  exact g.st fun T locs X e t kk => XS.lushr (g := mkF W.m pc L (.int y :: .long x :: S)) X.here C.x rfl (C.b hd) rfl kk
theorem g_idiv (C : Cx W Z R own code mx ret nm wsx hx0) {x y : Int32} (hd : decode code pc = .ok (.idiv, 1)) (hp : pc + 1 = pc') (hy : y ≠ 0) (g : Go W Q h k n pc' L (.int (x / y) :: S)) : Go W Q h k n pc L (.int y :: .int x :: S) := by
  subst hp
  exact g.st fun T locs X e t kk => XS.idiv (g := mkF W.m pc L (.int y :: .int x :: S)) X.here C.x rfl (C.b hd) rfl hy kk
theorem g_irem (C : Cx W Z R own code mx ret nm wsx hx0) {x y : Int32} (hd : decode code pc = .ok (.irem, 1)) (hp : pc + 1 = pc') (hy : y ≠ 0) (g : Go W Q h k n pc' L (.int (x % y) :: S)) : Go W Q h k n pc L (.int y :: .int x :: S) := by
  subst hp
  exact g.st fun T locs X e t kk => iremM (g := mkF W.m pc L (.int y :: .int x :: S)) X C.x rfl (C.b hd) rfl hy kk
theorem g_ldiv (C : Cx W Z R own code mx ret nm wsx hx0) {x y : Int64} (hd : decode code pc = .ok (.ldiv, 1)) (hp : pc + 1 = pc') (hy : y ≠ 0) (g : Go W Q h k n pc' L (.long (x / y) :: S)) : Go W Q h k n pc L (.long y :: .long x :: S) := by
  subst hp
  exact g.st fun T locs X e t kk => XS.ldiv (g := mkF W.m pc L (.long y :: .long x :: S)) X.here C.x rfl (C.b hd) rfl hy kk
theorem g_lrem (C : Cx W Z R own code mx ret nm wsx hx0) {x y : Int64} (hd : decode code pc = .ok (.lrem, 1)) (hp : pc + 1 = pc') (hy : y ≠ 0) (g : Go W Q h k n pc' L (.long (x % y) :: S)) : Go W Q h k n pc L (.long y :: .long x :: S) := by
  subst hp
  rw [← lrem_mod] at g
  exact g.st fun T locs X e t kk => XS.lrem (g := mkF W.m pc L (.long y :: .long x :: S)) X.here C.x rfl (C.b hd) rfl hy kk
theorem g_ineg (C : Cx W Z R own code mx ret nm wsx hx0) {x : Int32} (hd : decode code pc = .ok (.ineg, 1)) (hp : pc + 1 = pc') (g : Go W Q h k n pc' L (.int (-x) :: S)) : Go W Q h k n pc L (.int x :: S) := by
  subst hp
  exact g.st fun T locs X e t kk => XS.ineg (g := mkF W.m pc L (.int x :: S)) X.here C.x rfl (C.b hd) rfl kk
theorem g_lneg (C : Cx W Z R own code mx ret nm wsx hx0) {x : Int64} (hd : decode code pc = .ok (.lneg, 1)) (hp : pc + 1 = pc') (g : Go W Q h k n pc' L (.long (-x) :: S)) : Go W Q h k n pc L (.long x :: S) := by
  subst hp
  exact g.st fun T locs X e t kk => XS.lneg (g := mkF W.m pc L (.long x :: S)) X.here C.x rfl (C.b hd) rfl kk
theorem g_i2l (C : Cx W Z R own code mx ret nm wsx hx0) {x : Int32} (hd : decode code pc = .ok (.i2l, 1)) (hp : pc + 1 = pc') (g : Go W Q h k n pc' L (.long (x.toInt64) :: S)) : Go W Q h k n pc L (.int x :: S) := by
  subst hp
  exact g.st fun T locs X e t kk => XS.i2l (g := mkF W.m pc L (.int x :: S)) X.here C.x rfl (C.b hd) rfl kk
theorem g_l2i (C : Cx W Z R own code mx ret nm wsx hx0) {x : Int64} (hd : decode code pc = .ok (.l2i, 1)) (hp : pc + 1 = pc') (g : Go W Q h k n pc' L (.int (x.toInt32) :: S)) : Go W Q h k n pc L (.long x :: S) := by
  subst hp
  exact g.st fun T locs X e t kk => XS.l2i (g := mkF W.m pc L (.long x :: S)) X.here C.x rfl (C.b hd) rfl kk
theorem g_i2b (C : Cx W Z R own code mx ret nm wsx hx0) {x : Int32} (hd : decode code pc = .ok (.i2b, 1)) (hp : pc + 1 = pc') (g : Go W Q h k n pc' L (.int (x.toInt8.toInt32) :: S)) : Go W Q h k n pc L (.int x :: S) := by
  subst hp
  exact g.st fun T locs X e t kk => XS.i2b (g := mkF W.m pc L (.int x :: S)) X.here C.x rfl (C.b hd) rfl kk
theorem g_i2c (C : Cx W Z R own code mx ret nm wsx hx0) {x : Int32} (hd : decode code pc = .ok (.i2c, 1)) (hp : pc + 1 = pc') (g : Go W Q h k n pc' L (.int (x.toUInt32.toUInt16.toUInt32.toInt32) :: S)) : Go W Q h k n pc L (.int x :: S) := by
  subst hp
  exact g.st fun T locs X e t kk => XS.i2c (g := mkF W.m pc L (.int x :: S)) X.here C.x rfl (C.b hd) rfl kk
theorem g_i2s (C : Cx W Z R own code mx ret nm wsx hx0) {x : Int32} (hd : decode code pc = .ok (.i2s, 1)) (hp : pc + 1 = pc') (g : Go W Q h k n pc' L (.int (x.toInt16.toInt32) :: S)) : Go W Q h k n pc L (.int x :: S) := by
  subst hp
  exact g.st fun T locs X e t kk => XS.i2s (g := mkF W.m pc L (.int x :: S)) X.here C.x rfl (C.b hd) rfl kk
theorem g_iconst (C : Cx W Z R own code mx ret nm wsx hx0) {i : Int} {z : Int32} (hd : decode code pc = .ok (.iconst i, 1)) (hp : pc + 1 = pc') (hz : Int32.ofInt i = z) (g : Go W Q h k n pc' L (.int z :: S)) : Go W Q h k n pc L S := by
  subst hp hz
  exact g.st fun T locs X e t kk => XS.iconst (g := mkF W.m pc L S) X.here C.x rfl (C.b hd) kk
theorem g_bipush (C : Cx W Z R own code mx ret nm wsx hx0) {i : Int} {z : Int32} (hd : decode code pc = .ok (.bipush i, 2)) (hp : pc + 2 = pc') (hz : (Int8.ofInt i).toInt32 = z) (g : Go W Q h k n pc' L (.int z :: S)) : Go W Q h k n pc L S := by
  subst hp hz
  exact g.st fun T locs X e t kk => XS.bipush (g := mkF W.m pc L S) X.here C.x rfl (C.b hd) kk
theorem g_sipush (C : Cx W Z R own code mx ret nm wsx hx0) {i : Int} {z : Int32} (hd : decode code pc = .ok (.sipush i, 3)) (hp : pc + 3 = pc') (hz : (Int16.ofInt i).toInt32 = z) (g : Go W Q h k n pc' L (.int z :: S)) : Go W Q h k n pc L S := by
  subst hp hz
  exact g.st fun T locs X e t kk => XS.sipush (g := mkF W.m pc L S) X.here C.x rfl (C.b hd) kk
theorem g_lconst (C : Cx W Z R own code mx ret nm wsx hx0) {i : Fin 2} {z : Int64} (hd : decode code pc = .ok (.lconst i, 1)) (hp : pc + 1 = pc') (hz : Int64.ofNat i = z) (g : Go W Q h k n pc' L (.long z :: S)) : Go W Q h k n pc L S := by
  subst hp hz
  exact g.st fun T locs X e t kk => XS.lconst (g := mkF W.m pc L S) X.here C.x rfl (C.b hd) kk
theorem g_aconst_null (C : Cx W Z R own code mx ret nm wsx hx0)  (hd : decode code pc = .ok (.aconst_null, 1)) (hp : pc + 1 = pc') (g : Go W Q h k n pc' L (.null :: S)) : Go W Q h k n pc L (S) := by
  subst hp
  exact g.st fun T locs X e t kk => XS.aconstNull (g := mkF W.m pc L (S)) X.here C.x rfl (C.b hd) kk
theorem g_dup (C : Cx W Z R own code mx ret nm wsx hx0) {x : Value} (hd : decode code pc = .ok (.dup, 1)) (hp : pc + 1 = pc') (hc : x.category = 1) (g : Go W Q h k n pc' L (x :: x :: S)) : Go W Q h k n pc L (x :: S) := by
  subst hp
  exact g.st fun T locs X e t kk => XS.dup (g := mkF W.m pc L (x :: S)) X.here C.x rfl (C.b hd) rfl hc kk
theorem g_dup_x1 (C : Cx W Z R own code mx ret nm wsx hx0) {x y : Value} (hd : decode code pc = .ok (.dup_x1, 1)) (hp : pc + 1 = pc') (hc : x.category = 1) (hc' : y.category = 1) (g : Go W Q h k n pc' L (x :: y :: x :: S)) : Go W Q h k n pc L (x :: y :: S) := by
  subst hp
  exact g.st fun T locs X e t kk => XS.dupX1 (g := mkF W.m pc L (x :: y :: S)) X.here C.x rfl (C.b hd) rfl hc hc' kk
theorem g_dup2 (C : Cx W Z R own code mx ret nm wsx hx0) {x y : Value} (hd : decode code pc = .ok (.dup2, 1)) (hp : pc + 1 = pc') (hc : x.category = 1) (hc' : y.category = 1) (g : Go W Q h k n pc' L (x :: y :: x :: y :: S)) : Go W Q h k n pc L (x :: y :: S) := by
  subst hp
  exact g.st fun T locs X e t kk => XT.dup2 (g := mkF W.m pc L (x :: y :: S)) X.here C.x rfl (C.b hd) rfl hc hc' kk
theorem g_dup2L (C : Cx W Z R own code mx ret nm wsx hx0) {x : Int64} (hd : decode code pc = .ok (.dup2, 1)) (hp : pc + 1 = pc') (g : Go W Q h k n pc' L (.long x :: .long x :: S)) : Go W Q h k n pc L (.long x :: S) := by
  subst hp
  exact g.st fun T locs X e t kk => XT.dup2L (g := mkF W.m pc L (.long x :: S)) X.here C.x rfl (C.b hd) rfl kk
theorem g_pop (C : Cx W Z R own code mx ret nm wsx hx0) {x : Value} (hd : decode code pc = .ok (.pop, 1)) (hp : pc + 1 = pc') (hc : x.category = 1) (g : Go W Q h k n pc' L (S)) : Go W Q h k n pc L (x :: S) := by
  subst hp
  exact g.st fun T locs X e t kk => XS.pop (g := mkF W.m pc L (x :: S)) X.here C.x rfl (C.b hd) rfl hc kk
theorem g_iload (C : Cx W Z R own code mx ret nm wsx hx0) {i : Nat} {x : Int32} (hd : decode code pc = .ok (.iload i, 2)) (hp : pc + 2 = pc') (hl : L[i]? = some (.val (.int x))) (g : Go W Q h k n pc' L (.int x :: S)) : Go W Q h k n pc L (S) := by
  subst hp
  exact g.st fun T locs X e t kk => XS.iload (g := mkF W.m pc L (S)) X.here C.x rfl (C.b hd) hl kk
theorem g_iloadN (C : Cx W Z R own code mx ret nm wsx hx0) {i : Fin 4} {x : Int32} (hd : decode code pc = .ok (.iload_n i, 1)) (hp : pc + 1 = pc') (hl : L[i.val]? = some (.val (.int x))) (g : Go W Q h k n pc' L (.int x :: S)) : Go W Q h k n pc L (S) := by
  subst hp
  exact g.st fun T locs X e t kk => XS.iloadN (g := mkF W.m pc L (S)) X.here C.x rfl (C.b hd) hl kk
theorem g_lload (C : Cx W Z R own code mx ret nm wsx hx0) {i : Nat} {x : Int64} (hd : decode code pc = .ok (.lload i, 2)) (hp : pc + 2 = pc') (hl : L[i]? = some (.val (.long x))) (g : Go W Q h k n pc' L (.long x :: S)) : Go W Q h k n pc L (S) := by
  subst hp
  exact g.st fun T locs X e t kk => XS.lload (g := mkF W.m pc L (S)) X.here C.x rfl (C.b hd) hl kk
theorem g_lloadN (C : Cx W Z R own code mx ret nm wsx hx0) {i : Fin 4} {x : Int64} (hd : decode code pc = .ok (.lload_n i, 1)) (hp : pc + 1 = pc') (hl : L[i.val]? = some (.val (.long x))) (g : Go W Q h k n pc' L (.long x :: S)) : Go W Q h k n pc L (S) := by
  subst hp
  exact g.st fun T locs X e t kk => XS.lloadN (g := mkF W.m pc L (S)) X.here C.x rfl (C.b hd) hl kk
theorem g_aload (C : Cx W Z R own code mx ret nm wsx hx0) {i : Nat} {x : Value} (hd : decode code pc = .ok (.aload i, 2)) (hp : pc + 2 = pc') (hl : L[i]? = some (.val x)) (hv : x.isRef = true) (g : Go W Q h k n pc' L (x :: S)) : Go W Q h k n pc L (S) := by
  subst hp
  exact g.st fun T locs X e t kk => XS.aload (g := mkF W.m pc L (S)) X.here C.x rfl (C.b hd) hl hv kk
theorem g_istore (C : Cx W Z R own code mx ret nm wsx hx0) {i : Nat} {x : Int32} (hd : decode code pc = .ok (.istore i, 2)) (hp : pc + 2 = pc') (hl : storeLocals L i (.int x) = some L') (g : Go W Q h k n pc' L' (S)) : Go W Q h k n pc L (.int x :: S) := by
  subst hp
  exact g.st fun T locs X e t kk => XS.istore (g := mkF W.m pc L (.int x :: S)) X.here C.x rfl (C.b hd) rfl hl kk
theorem g_lstore (C : Cx W Z R own code mx ret nm wsx hx0) {i : Nat} {x : Int64} (hd : decode code pc = .ok (.lstore i, 2)) (hp : pc + 2 = pc') (hl : storeLocals L i (.long x) = some L') (g : Go W Q h k n pc' L' (S)) : Go W Q h k n pc L (.long x :: S) := by
  subst hp
  exact g.st fun T locs X e t kk => XS.lstore (g := mkF W.m pc L (.long x :: S)) X.here C.x rfl (C.b hd) rfl hl kk
theorem g_astore (C : Cx W Z R own code mx ret nm wsx hx0) {i : Nat} {x : Value} (hd : decode code pc = .ok (.astore i, 2)) (hp : pc + 2 = pc') (hv : x.isRef = true) (hl : storeLocals L i x = some L') (g : Go W Q h k n pc' L' (S)) : Go W Q h k n pc L (x :: S) := by
  subst hp
  exact g.st fun T locs X e t kk => XS.astore (g := mkF W.m pc L (x :: S)) X.here C.x rfl (C.b hd) rfl hv hl kk
theorem g_aloadN (C : Cx W Z R own code mx ret nm wsx hx0) {i : Fin 4} {x : Value} (hd : decode code pc = .ok (.aload_n i, 1)) (hp : pc + 1 = pc') (hl : L[i.val]? = some (.val x)) (hv : x.isRef = true) (g : Go W Q h k n pc' L (x :: S)) : Go W Q h k n pc L (S) := by
  subst hp
  exact g.st fun T locs X e t kk => XS.aloadN (g := mkF W.m pc L (S)) X.here C.x rfl (C.b hd) hl hv kk
theorem g_istoreN (C : Cx W Z R own code mx ret nm wsx hx0) {i : Fin 4} {x : Int32} (hd : decode code pc = .ok (.istore_n i, 1)) (hp : pc + 1 = pc') (hl : storeLocals L i.val (.int x) = some L') (g : Go W Q h k n pc' L' (S)) : Go W Q h k n pc L (.int x :: S) := by
  subst hp
  exact g.st fun T locs X e t kk => XS.istoreN (g := mkF W.m pc L (.int x :: S)) X.here C.x rfl (C.b hd) rfl hl kk
theorem g_lstoreN (C : Cx W Z R own code mx ret nm wsx hx0) {i : Fin 4} {x : Int64} (hd : decode code pc = .ok (.lstore_n i, 1)) (hp : pc + 1 = pc') (hl : storeLocals L i.val (.long x) = some L') (g : Go W Q h k n pc' L' (S)) : Go W Q h k n pc L (.long x :: S) := by
  subst hp
  exact g.st fun T locs X e t kk => XS.lstoreN (g := mkF W.m pc L (.long x :: S)) X.here C.x rfl (C.b hd) rfl hl kk
theorem g_astoreN (C : Cx W Z R own code mx ret nm wsx hx0) {i : Fin 4} {x : Value} (hd : decode code pc = .ok (.astore_n i, 1)) (hp : pc + 1 = pc') (hv : x.isRef = true) (hl : storeLocals L i.val x = some L') (g : Go W Q h k n pc' L' (S)) : Go W Q h k n pc L (x :: S) := by
  subst hp
  exact g.st fun T locs X e t kk => XS.astoreN (g := mkF W.m pc L (x :: S)) X.here C.x rfl (C.b hd) rfl hv hl kk
theorem g_iinc (C : Cx W Z R own code mx ret nm wsx hx0) {i : Nat} {cst : Int} {x z : Int32} (hd : decode code pc = .ok (.iinc i cst, 3)) (hp : pc + 3 = pc') (hl : L[i]? = some (.val (.int x))) (hz : x + Int32.ofInt cst = z) (hl' : storeLocals L i (.int z) = some L') (g : Go W Q h k n pc' L' (S)) : Go W Q h k n pc L (S) := by
  subst hp
  exact g.st fun T locs X e t kk => XS.iinc (g := mkF W.m pc L (S)) X.here C.x rfl (C.b hd) hl (hz ▸ hl') kk
theorem g_goto (C : Cx W Z R own code mx ret nm wsx hx0) {o : Int} (hd : decode code pc = .ok (.goto o, 3)) (ho : 0 ≤ (pc : Int) + o) (hp : ((pc : Int) + o).toNat = pc') (g : Go W Q h k n pc' L S) : Go W Q h k n pc L S :=
  g.st fun T locs X e t kk => XS.goto (g := mkF W.m pc L S) X.here C.x rfl rfl (C.b hd) ho hp kk
theorem g_ldcI (C : Cx W Z R own code mx ret nm wsx hx0) {i : Nat} {z : Int32} (hd : decode code pc = .ok (.ldc i, 2)) (hp : pc + 2 = pc') (w : (Jvm.Cond.constant own i z).before a0 Z = true) (g : Go W Q h k n pc' L (.int z :: S)) : Go W Q h k n pc L S := by
  subst hp
  exact g.st fun T locs X e t kk => X.ldcInt C.x C.o (mvT C.z w) (g := mkF W.m pc L S) rfl (C.b hd) t kk
theorem g_ldcwI (C : Cx W Z R own code mx ret nm wsx hx0) {i : Nat} {z : Int32} (hd : decode code pc = .ok (.ldc_w i, 3)) (hp : pc + 3 = pc') (w : (Jvm.Cond.constant own i z).before a0 Z = true) (g : Go W Q h k n pc' L (.int z :: S)) : Go W Q h k n pc L S := by
  subst hp
  exact g.st fun T locs X e t kk => X.ldcwInt C.x C.o (mvT C.z w) (g := mkF W.m pc L S) rfl (C.b hd) t kk
theorem g_ldc2L (C : Cx W Z R own code mx ret nm wsx hx0) {i : Nat} {z : Int64} (hd : decode code pc = .ok (.ldc2_w i, 3)) (hp : pc + 3 = pc') (w : (Jvm.Cond.constantLong own i z).before a0 Z = true) (g : Go W Q h k n pc' L (.long z :: S)) : Go W Q h k n pc L S := by
  subst hp
  exact g.st fun T locs X e t kk => X.ldc2Long C.x C.o (mvT C.z w) (g := mkF W.m pc L S) rfl (C.b hd) t kk
/-- what a branch asks of two integers -/
def icp : ClassFile.Cond → Int → Int → Prop
  | .eq, x, y => x = y
  | .ne, x, y => ¬ x = y
  | .lt, x, y => x < y
  | .ge, x, y => y ≤ x
  | .gt, x, y => y < x
  | .le, x, y => x ≤ y
instance instIcp : (cd : ClassFile.Cond) → (x y : Int) → Decidable (icp cd x y)
  | .eq, x, y => inferInstanceAs (Decidable (x = y))
  | .ne, x, y => inferInstanceAs (Decidable (¬ x = y))
  | .lt, x, y => inferInstanceAs (Decidable (x < y))
  | .ge, x, y => inferInstanceAs (Decidable (y ≤ x))
  | .gt, x, y => inferInstanceAs (Decidable (y < x))
  | .le, x, y => inferInstanceAs (Decidable (x ≤ y))
theorem icp_eq (cd : ClassFile.Cond) (x y : Int32) : if_icmp.holds cd x y = decide (icp cd x.toInt y.toInt) := by
  rw [Bool.eq_iff_iff, decide_eq_true_iff]
  cases cd <;> simp [if_icmp.holds, icp, Int32.lt_iff_toInt_lt, Int32.le_iff_toInt_le, Int32.toInt_inj]
theorem icp_long (cd : ClassFile.Cond) (x y : Int64) : ifCond.holds cd (lcmpW x y) = decide (icp cd x.toInt y.toInt) := by
  rw [if0, icp_eq, Bool.eq_iff_iff, decide_eq_true_iff, decide_eq_true_iff]
  have c := c_lcmp x y
  have z : (0 : Int32).toInt = 0 := rfl
  rw [z]
  rcases Int.lt_trichotomy x.toInt y.toInt with q | q | q
  · rw [c.1 q]; cases cd <;> simp only [icp] <;> omega
  · rw [c.2.1 q]; cases cd <;> simp only [icp] <;> first | omega | simp [q]
  · rw [c.2.2 q]; cases cd <;> simp only [icp] <;> omega

theorem g_icmpY (C : Cx W Z R own code mx ret nm wsx hx0) {cd : ClassFile.Cond} {o : Int} {x y : Int32} {xi yi : Int} (hd : decode code pc = .ok (.if_icmp cd o, 3)) (ho : 0 ≤ (pc : Int) + o) (hp1 : ((pc : Int) + o).toNat = pc1) (hx : x.toInt = xi) (hy : y.toInt = yi) (q : icp cd xi yi) (g : Go W Q h k n pc1 L S) : Go W Q h k n pc L (.int y :: .int x :: S) := by
  subst hx hy
  exact g.st fun T locs X e t kk => XS.icmpYes (g := mkF W.m pc L (.int y :: .int x :: S)) X.here C.x rfl rfl (C.b hd) rfl ((icp_eq cd x y).trans (decide_eq_true q)) ho hp1 kk
theorem g_icmpN (C : Cx W Z R own code mx ret nm wsx hx0) {cd : ClassFile.Cond} {o : Int} {x y : Int32} {xi yi : Int} (hd : decode code pc = .ok (.if_icmp cd o, 3)) (hp2 : pc + 3 = pc2) (hx : x.toInt = xi) (hy : y.toInt = yi) (q : ¬ (icp cd xi yi)) (g : Go W Q h k n pc2 L S) : Go W Q h k n pc L (.int y :: .int x :: S) := by
  subst hx hy hp2
  exact g.st fun T locs X e t kk => XS.icmpNo (g := mkF W.m pc L (.int y :: .int x :: S)) X.here C.x rfl (C.b hd) rfl ((icp_eq cd x y).trans (decide_eq_false q)) kk
theorem g_icmp (C : Cx W Z R own code mx ret nm wsx hx0) {cd : ClassFile.Cond} {o : Int} {x y : Int32} {xi yi : Int} (hd : decode code pc = .ok (.if_icmp cd o, 3)) (ho : 0 ≤ (pc : Int) + o) (hp1 : ((pc : Int) + o).toNat = pc1) (hp2 : pc + 3 = pc2) (hx : x.toInt = xi) (hy : y.toInt = yi) (g1 : icp cd xi yi → Go W Q h k n pc1 L S) (g2 : ¬ (icp cd xi yi) → Go W Q h k n pc2 L S) : Go W Q h k n pc L (.int y :: .int x :: S) := by
  by_cases q : icp cd xi yi
  · exact g_icmpY C hd ho hp1 hx hy q (g1 q)
  · exact g_icmpN C hd hp2 hx hy q (g2 q)
theorem g_ifY (C : Cx W Z R own code mx ret nm wsx hx0) {cd : ClassFile.Cond} {o : Int} {x : Int32} {xi : Int} (hd : decode code pc = .ok (.ifCond cd o, 3)) (ho : 0 ≤ (pc : Int) + o) (hp1 : ((pc : Int) + o).toNat = pc1) (hx : x.toInt = xi) (q : icp cd xi 0) (g : Go W Q h k n pc1 L S) : Go W Q h k n pc L (.int x :: S) := by
  subst hx
  exact g.st fun T locs X e t kk => XS.ifYes (g := mkF W.m pc L (.int x :: S)) X.here C.x rfl rfl (C.b hd) rfl ((if0 cd x).trans ((icp_eq cd x 0).trans (decide_eq_true q))) ho hp1 kk
theorem g_ifN (C : Cx W Z R own code mx ret nm wsx hx0) {cd : ClassFile.Cond} {o : Int} {x : Int32} {xi : Int} (hd : decode code pc = .ok (.ifCond cd o, 3)) (hp2 : pc + 3 = pc2) (hx : x.toInt = xi) (q : ¬ (icp cd xi 0)) (g : Go W Q h k n pc2 L S) : Go W Q h k n pc L (.int x :: S) := by
  subst hx hp2
  exact g.st fun T locs X e t kk => XS.ifNo (g := mkF W.m pc L (.int x :: S)) X.here C.x rfl (C.b hd) rfl ((if0 cd x).trans ((icp_eq cd x 0).trans (decide_eq_false q))) kk
theorem g_if (C : Cx W Z R own code mx ret nm wsx hx0) {cd : ClassFile.Cond} {o : Int} {x : Int32} {xi : Int} (hd : decode code pc = .ok (.ifCond cd o, 3)) (ho : 0 ≤ (pc : Int) + o) (hp1 : ((pc : Int) + o).toNat = pc1) (hp2 : pc + 3 = pc2) (hx : x.toInt = xi) (g1 : icp cd xi 0 → Go W Q h k n pc1 L S) (g2 : ¬ (icp cd xi 0) → Go W Q h k n pc2 L S) : Go W Q h k n pc L (.int x :: S) := by
  by_cases q : icp cd xi 0
  · exact g_ifY C hd ho hp1 hx q (g1 q)
  · exact g_ifN C hd hp2 hx q (g2 q)
/-- lcmp and the branch behind it -/
theorem g_lcmpY (C : Cx W Z R own code mx ret nm wsx hx0) {cd : ClassFile.Cond} {o : Int} {x y : Int64} {xi yi : Int} (hd : decode code pc = .ok (.lcmp, 1)) (hd' : decode code pc' = .ok (.ifCond cd o, 3)) (hp : pc + 1 = pc') (ho : 0 ≤ (pc' : Int) + o) (hp1 : ((pc' : Int) + o).toNat = pc1) (hx : x.toInt = xi) (hy : y.toInt = yi) (q : icp cd xi yi) (g : Go W Q h k n pc1 L S) : Go W Q h k n pc L (.long y :: .long x :: S) := by
  subst hp hx hy
  have g' : Go W Q h k n (pc + 1) L (.int (lcmpW x y) :: S) := g.st fun T locs X e t kk => XS.ifYes (g := mkF W.m (pc + 1) L (.int (lcmpW x y) :: S)) X.here C.x rfl rfl (C.b hd') rfl ((icp_long cd x y).trans (decide_eq_true q)) ho hp1 kk
  exact g'.st fun T locs X e t kk => XS.lcmp (g := mkF W.m pc L (.long y :: .long x :: S)) X.here C.x rfl (C.b hd) rfl kk
theorem g_lcmpN (C : Cx W Z R own code mx ret nm wsx hx0) {cd : ClassFile.Cond} {o : Int} {x y : Int64} {xi yi : Int} (hd : decode code pc = .ok (.lcmp, 1)) (hd' : decode code pc' = .ok (.ifCond cd o, 3)) (hp : pc + 1 = pc') (hp2 : pc' + 3 = pc2) (hx : x.toInt = xi) (hy : y.toInt = yi) (q : ¬ icp cd xi yi) (g : Go W Q h k n pc2 L S) : Go W Q h k n pc L (.long y :: .long x :: S) := by
  subst hp hx hy hp2
  have g' : Go W Q h k n (pc + 1) L (.int (lcmpW x y) :: S) := g.st fun T locs X e t kk => XS.ifNo (g := mkF W.m (pc + 1) L (.int (lcmpW x y) :: S)) X.here C.x rfl (C.b hd') rfl ((icp_long cd x y).trans (decide_eq_false q)) kk
  exact g'.st fun T locs X e t kk => XS.lcmp (g := mkF W.m pc L (.long y :: .long x :: S)) X.here C.x rfl (C.b hd) rfl kk
theorem g_lcmp (C : Cx W Z R own code mx ret nm wsx hx0) {cd : ClassFile.Cond} {o : Int} {x y : Int64} {xi yi : Int} (hd : decode code pc = .ok (.lcmp, 1)) (hd' : decode code pc' = .ok (.ifCond cd o, 3)) (hp : pc + 1 = pc') (ho : 0 ≤ (pc' : Int) + o) (hp1 : ((pc' : Int) + o).toNat = pc1) (hp2 : pc' + 3 = pc2) (hx : x.toInt = xi) (hy : y.toInt = yi) (g1 : icp cd xi yi → Go W Q h k n pc1 L S) (g2 : ¬ icp cd xi yi → Go W Q h k n pc2 L S) : Go W Q h k n pc L (.long y :: .long x :: S) := by
  by_cases q : icp cd xi yi
  · exact g_lcmpY C hd hd' hp ho hp1 hx hy q (g1 q)
  · exact g_lcmpN C hd hd' hp hp2 hx hy q (g2 q)
theorem icp_b0 {P : Prop} [Decidable P] : icp .eq (b2i P).toInt 0 ↔ ¬ P := by
  show (b2i P).toInt = 0 ↔ ¬ P
  rw [b2i_toInt]; split <;> simp [*]
theorem icp_b1 {P : Prop} [Decidable P] : icp .ne (b2i P).toInt 0 ↔ P := by
  show ¬ (b2i P).toInt = 0 ↔ P
  rw [b2i_toInt]; split <;> simp [*]
/-- ifeq on a truth value -/
theorem g_ifeqb (C : Cx W Z R own code mx ret nm wsx hx0) {o : Int} {x : Int32} {P : Prop} [Decidable P] (hd : decode code pc = .ok (.ifCond .eq o, 3)) (ho : 0 ≤ (pc : Int) + o) (hp1 : ((pc : Int) + o).toNat = pc1) (hp2 : pc + 3 = pc2) (hx : x = b2i P) (g1 : ¬ P → Go W Q h k n pc1 L S) (g2 : P → Go W Q h k n pc2 L S) : Go W Q h k n pc L (.int x :: S) := by
  subst hx
  exact g_if C hd ho hp1 hp2 rfl (fun q => g1 (icp_b0.mp q)) (fun q => g2 (Decidable.not_not.mp fun z => q (icp_b0.mpr z)))
/-- ifne on a truth value -/
theorem g_ifneb (C : Cx W Z R own code mx ret nm wsx hx0) {o : Int} {x : Int32} {P : Prop} [Decidable P] (hd : decode code pc = .ok (.ifCond .ne o, 3)) (ho : 0 ≤ (pc : Int) + o) (hp1 : ((pc : Int) + o).toNat = pc1) (hp2 : pc + 3 = pc2) (hx : x = b2i P) (g1 : P → Go W Q h k n pc1 L S) (g2 : ¬ P → Go W Q h k n pc2 L S) : Go W Q h k n pc L (.int x :: S) := by
  subst hx
  exact g_if C hd ho hp1 hp2 rfl (fun q => g1 (icp_b1.mp q)) (fun q => g2 fun z => q (icp_b1.mpr z))
theorem g_icmpbeq (C : Cx W Z R own code mx ret nm wsx hx0) {o : Int} {x y : Int32} {P P' : Prop} [Decidable P] [Decidable P'] (hd : decode code pc = .ok (.if_icmp .eq o, 3)) (ho : 0 ≤ (pc : Int) + o) (hp1 : ((pc : Int) + o).toNat = pc1) (hp2 : pc + 3 = pc2) (hx : x = b2i P) (hy : y = b2i P') (g1 : (P ↔ P') → Go W Q h k n pc1 L S) (g2 : ¬ (P ↔ P') → Go W Q h k n pc2 L S) : Go W Q h k n pc L (.int y :: .int x :: S) := by
  subst hx hy
  exact g_icmp C hd ho hp1 hp2 rfl rfl (fun q => g1 (b2i_inj.mp (Int32.toInt_inj.mp q))) (fun q => g2 fun z => q (congrArg Int32.toInt (b2i_inj.mpr z)))
theorem g_icmpbne (C : Cx W Z R own code mx ret nm wsx hx0) {o : Int} {x y : Int32} {P P' : Prop} [Decidable P] [Decidable P'] (hd : decode code pc = .ok (.if_icmp .ne o, 3)) (ho : 0 ≤ (pc : Int) + o) (hp1 : ((pc : Int) + o).toNat = pc1) (hp2 : pc + 3 = pc2) (hx : x = b2i P) (hy : y = b2i P') (g1 : ¬ (P ↔ P') → Go W Q h k n pc1 L S) (g2 : (P ↔ P') → Go W Q h k n pc2 L S) : Go W Q h k n pc L (.int y :: .int x :: S) := by
  subst hx hy
  exact g_icmp C hd ho hp1 hp2 rfl rfl (fun q => g1 fun z => q (congrArg Int32.toInt (b2i_inj.mpr z))) (fun q => g2 (b2i_inj.mp (Int32.toInt_inj.mp (Decidable.not_not.mp q))))
theorem isRef_cases {v : Value} (hv : v.isRef = true) (h0 : v ≠ .null) : ∃ b, v = .ref b := by
  rcases ref_cases hv with q | q
  · exact absurd q h0
  · exact q
theorem g_ifnonnull (C : Cx W Z R own code mx ret nm wsx hx0) {o : Int} {v : Value} (hd : decode code pc = .ok (.ifnonnull o, 3)) (ho : 0 ≤ (pc : Int) + o) (hp1 : ((pc : Int) + o).toNat = pc1) (hp2 : pc + 3 = pc2) (hv : v.isRef = true) (g1 : v ≠ .null → Go W Q h k n pc1 L S) (g2 : v = .null → Go W Q h k n pc2 L S) : Go W Q h k n pc L (v :: S) := by
  by_cases q : v = .null
  · have g := g2 q
    subst q hp2
    exact g.st fun T locs X e t kk => XS.ifnonnullNo (g := mkF W.m pc L (.null :: S)) X.here C.x rfl (C.b hd) rfl kk
  · have g := g1 q
    obtain ⟨b, rfl⟩ := isRef_cases hv q
    exact g.st fun T locs X e t kk => XS.ifnonnullYes (g := mkF W.m pc L (.ref b :: S)) X.here C.x rfl rfl (C.b hd) rfl ho hp1 kk
theorem g_ifnull (C : Cx W Z R own code mx ret nm wsx hx0) {o : Int} {v : Value} (hd : decode code pc = .ok (.ifnull o, 3)) (ho : 0 ≤ (pc : Int) + o) (hp1 : ((pc : Int) + o).toNat = pc1) (hp2 : pc + 3 = pc2) (hv : v.isRef = true) (g1 : v = .null → Go W Q h k n pc1 L S) (g2 : v ≠ .null → Go W Q h k n pc2 L S) : Go W Q h k n pc L (v :: S) := by
  by_cases q : v = .null
  · have g := g1 q
    subst q
    exact g.st fun T locs X e t kk => XS.ifnullYes (g := mkF W.m pc L (.null :: S)) X.here C.x rfl rfl (C.b hd) rfl ho hp1 kk
  · have g := g2 q
    obtain ⟨b, rfl⟩ := isRef_cases hv q
    subst hp2
    exact g.st fun T locs X e t kk => XS.ifnullNo (g := mkF W.m pc L (.ref b :: S)) X.here C.x rfl (C.b hd) rfl kk
theorem g_acmpne (C : Cx W Z R own code mx ret nm wsx hx0) {o : Int} {v w : Value} (hd : decode code pc = .ok (.if_acmp .ne o, 3)) (ho : 0 ≤ (pc : Int) + o) (hp1 : ((pc : Int) + o).toNat = pc1) (hp2 : pc + 3 = pc2) (hv : v.isRef = true) (hw : w.isRef = true) (g1 : v ≠ w → Go W Q h k n pc1 L S) (g2 : v = w → Go W Q h k n pc2 L S) : Go W Q h k n pc L (w :: v :: S) := by
  by_cases q : v = w
  · exact (g2 q).st fun T locs X e t kk => Jvm.RoadKit.acmp (g := mkF W.m pc L (w :: v :: S)) X C.x rfl hv hw (same := true) rfl (C.b hd) rfl (decide_eq_true q) ho (by rw [← hp2]; rfl) kk
  · exact (g1 q).st fun T locs X e t kk => Jvm.RoadKit.acmp (g := mkF W.m pc L (w :: v :: S)) X C.x rfl hv hw (same := false) rfl (C.b hd) rfl (decide_eq_false q) ho hp1.symm kk
theorem g_acmpeq (C : Cx W Z R own code mx ret nm wsx hx0) {o : Int} {v w : Value} (hd : decode code pc = .ok (.if_acmp .eq o, 3)) (ho : 0 ≤ (pc : Int) + o) (hp1 : ((pc : Int) + o).toNat = pc1) (hp2 : pc + 3 = pc2) (hv : v.isRef = true) (hw : w.isRef = true) (g1 : v = w → Go W Q h k n pc1 L S) (g2 : v ≠ w → Go W Q h k n pc2 L S) : Go W Q h k n pc L (w :: v :: S) := by
  by_cases q : v = w
  · exact (g1 q).st fun T locs X e t kk => Jvm.RoadKit.acmp (g := mkF W.m pc L (w :: v :: S)) X C.x rfl hv hw (same := true) rfl (C.b hd) rfl (decide_eq_true q) ho hp1.symm kk
  · exact (g2 q).st fun T locs X e t kk => Jvm.RoadKit.acmp (g := mkF W.m pc L (w :: v :: S)) X C.x rfl hv hw (same := false) rfl (C.b hd) rfl (decide_eq_false q) ho (by rw [← hp2]; rfl) kk

/-! fields, objects, arrays -/
theorem g_getL (C : Cx W Z R own code mx ret nm wsx hx0) {i : Nat} {R0 O f d host : String} {a : Addr} {v : Value} (hd : decode code pc = .ok (.getfield i, 3)) (hp : pc + 3 = pc') (w : (Jvm.Cond.fieldLink own i R0 f d).before a0 Z = true ∨ (Jvm.Cond.fieldLinkNest own i R0 f d host).before a0 Z = true) (via : Via Z R0 O f d) (F : Fld Z h a O f d v) (g : Go W Q h k n pc' L (v :: S)) : Go W Q h k n pc L (.ref a :: S) := fun T hT => by
  obtain ⟨locs, X, e, N⟩ := hT
  subst hp
  obtain ⟨T', X', e', st⟩ := getF X C.x C.z C.o w via e F (g := mkF W.m pc L (.ref a :: S)) rfl rfl (C.b hd)
  exact Out.st st (g T' ⟨locs, X', e', N⟩)
theorem g_getO (C : Cx W Z R own code mx ret nm wsx hx0) {i j : Nat} {O f d Cl : String} {a : Addr} {v : Value} {fs : List (String × String × String × Value)} (hd : decode code pc = .ok (.getfield i, 3)) (hp : pc + 3 = pc') (w : (Jvm.Cond.fieldLink own i O f d).before a0 Z = true) (F : Ob Z h a Cl fs) (hj : fs[j]? = some (O, f, d, v)) (g : Go W Q h k n pc' L (v :: S)) : Go W Q h k n pc L (.ref a :: S) :=
  g_getL (host := "") C hd hp (Or.inl w) Via.refl (F.get hj) g
theorem pw_size (C : Cx W Z R own code mx ret nm wsx hx0) {T : State} {locs : List Loc} (X : Sta0 W T locs k n) (e : T.heap = h) : Pw W h.size := by
  have q : W.s.heap.size ≤ T.heap.size := X.same.2.1
  rw [e] at q
  exact Or.inr q
theorem g_putO (C : Cx W Z R own code mx ret nm wsx hx0) {i j kk : Nat} {R0 O f d Cl : String} {ty : FieldType} {a : Addr} {v v' old : Value} {fs fs' : List (String × String × String × Value)} (hd : decode code pc = .ok (.putfield i, 3)) (hp : pc + 3 = pc') (w : (Jvm.Cond.fieldLink own i R0 f d).before a0 Z = true) (via : Via Z R0 O f d) (F : Ob Z h a Cl fs) (hj : fs[j]? = some (O, f, d, old))
    (Lw : (Jvm.Cond.lays Cl O f d).before a0 Z = true ∨ ((Jvm.Cond.laysFinal Cl O f d).before a0 Z = true ∧ own = O ∧ nm = "<init>")) (wi : (Jvm.Cond.instantiable Cl kk).before a0 Z = true) (hty : parseFieldDescriptor d = some ty) (hn : narrow ty v = v') (hf : fits ty v' = true) (hset : fs.set j (O, f, d, v') = fs') (q : Pw W a)
    (g : ∀ h', Ob Z h' a Cl fs' → Keep h h' [a] → Go W Q h' k n pc' L S) : Go W Q h k n pc L (v :: .ref a :: S) := fun T hT => by
  obtain ⟨locs, X, e, N⟩ := hT
  subst hp hset
  obtain ⟨T', h', X', e', Wx, st⟩ := putFN X C.x C.z C.o w via e (F.get hj) F.1 (Lw.imp id fun z => ⟨z.1, z.2.1, C.nme.trans z.2.2⟩) wi hty hn hf (g := mkF W.m pc L (v :: .ref a :: S)) rfl rfl (C.b hd)
  refine Out.st st (g h' (F.put hj Wx) (Keep.of_wr Wx) T' ⟨_, X', e', fun y hy => ?_⟩)
  rcases List.mem_append.mp hy with z | z
  · exact N y z
  · cases List.mem_singleton.mp z; exact q
theorem g_new (C : Cx W Z R own code mx ret nm wsx hx0) {i nn : Nat} {Cl : String} (hd : decode code pc = .ok (.new i, 3)) (hp : pc + 3 = pc') (w : (Jvm.Cond.classLink own i Cl).before a0 Z = true) (wi : (Jvm.Cond.instantiable Cl nn).before a0 Z = true) (wz : (Jvm.Cond.initialized Cl).before a0 Z = true) {k' n' : Nat} (hk : k + 1 = k') (hn : n + nn = n') (hc : k' ≤ R.cells) (hs : n' ≤ R.slots)
    (g : ∀ (h' : Heap) (a : Addr), a = h.size → Ext h h' → Exa Z h' a Cl → (∀ {O f d : String} {ty : FieldType}, Laid Z a0 Cl O f d → parseFieldDescriptor d = some ty → Fld Z h' a O f d (defaultValue ty)) → Pw W a → Go W Q h' k' n' pc' L (.ref a :: S)) : Go W Q h k n pc L S := fun T hT => by
  obtain ⟨locs, X, e, N⟩ := hT
  subst hp hk hn
  obtain ⟨T', h', X', e', E, A, D, -, st⟩ := newO X C.x C.z C.o w wi wz e (g := mkF W.m pc L S) rfl (C.b hd) (by rw [C.r]; exact hc) (by rw [C.r]; exact hs)
  exact Out.st st (g h' h.size rfl E A D (pw_size C X e) T' ⟨locs, X', e', N⟩)
theorem def_list (ty : FieldType) (cA : ClassId) {z : Int32} {len : Nat} (hz : z.toInt = len) : (newA cA ty z).slots.toList = List.replicate len (defaultValue ty) := by
  show (Array.replicate z.toNatClampNeg (defaultValue ty)).toList = _
  rw [clamp_of hz, Array.toList_replicate]
theorem g_newarray (C : Cx W Z R own code mx ret nm wsx hx0) {aty : ArrayType} {ty : FieldType} {z : Int32} {len cap : Nat} (hd : decode code pc = .ok (.newarray aty, 2)) (hp : pc + 2 = pc') (hty : newarray.typeOf aty = ty) (w : (Jvm.Cond.arrayClass ty).before a0 Z = true) (hz : z.toInt = len) (hcap : len ≤ cap) (hb8 : cap * 8 ≤ 536870912) {k' n' : Nat} (hk : k + 1 = k') (hn : n + cap = n') (hc : k' ≤ R.cells) (hs : n' ≤ R.slots)
    (g : ∀ (h' : Heap) (a : Addr), a = h.size → Ext h h' → Ar Z h' a ty (List.replicate len (defaultValue ty)) → Pw W a → Go W Q h' k' n' pc' L (.ref a :: S)) : Go W Q h k n pc L (.int z :: S) := fun T hT => by
  obtain ⟨locs, X, e, N⟩ := hT
  subst hp hty hk hn
  obtain ⟨T', h', cA, X', e', E, A, st⟩ := newP X C.x C.z w e (g := mkF W.m pc L (.int z :: S)) rfl (C.b hd) rfl (nneg_of hz) (cap := cap) (by rw [clamp_of hz]; exact hcap) hb8 (by rw [C.r]; exact hc) (by rw [C.r]; exact hs)
  exact Out.st st (g h' h.size rfl E ⟨_, A, def_list _ _ hz⟩ (pw_size C X e) T' ⟨locs, X', e', N⟩)
theorem g_anewarray (C : Cx W Z R own code mx ret nm wsx hx0) {i : Nat} {Cl : String} {z : Int32} {len cap : Nat} (hd : decode code pc = .ok (.anewarray i, 3)) (hp : pc + 3 = pc') (w : (Jvm.Cond.classLink own i Cl).before a0 Z = true) (w2 : (Jvm.Cond.arrayOver (.object Cl)).before a0 Z = true) (hz : z.toInt = len) (hcap : len ≤ cap) (hb8 : cap * 8 ≤ 536870912) {k' n' : Nat} (hk : k + 1 = k') (hn : n + cap = n') (hc : k' ≤ R.cells) (hs : n' ≤ R.slots)
    (g : ∀ (h' : Heap) (a : Addr), a = h.size → Ext h h' → ArR Z h' a Cl (List.replicate len .null) → Pw W a → Go W Q h' k' n' pc' L (.ref a :: S)) : Go W Q h k n pc L (.int z :: S) := fun T hT => by
  obtain ⟨locs, X, e, N⟩ := hT
  subst hp hk hn
  obtain ⟨T', h', cA, X', e', E, A, O, st⟩ := newR X C.x C.z C.o w w2 e (g := mkF W.m pc L (.int z :: S)) rfl (C.b hd) rfl (nneg_of hz) (cap := cap) (by rw [clamp_of hz]; exact hcap) hb8 (by rw [C.r]; exact hc) (by rw [C.r]; exact hs)
  exact Out.st st (g h' h.size rfl E ⟨_, A, def_list _ _ hz, O⟩ (pw_size C X e) T' ⟨locs, X', e', N⟩)
theorem g_arraylength (C : Cx W Z R own code mx ret nm wsx hx0) {a : Addr} {ty : FieldType} {vs : List Value} {z : Int32} (hd : decode code pc = .ok (.arraylength, 1)) (hp : pc + 1 = pc') (A : Ar Z h a ty vs) (hz : vs.length.toInt32 = z) (g : Go W Q h k n pc' L (.int z :: S)) : Go W Q h k n pc L (.ref a :: S) := by
  subst hp hz
  obtain ⟨c, A, e⟩ := A
  rw [← e, Array.length_toList] at g
  exact g.st fun T locs X eT t kk => X.arraylength C.x (by rw [eT]; exact A.1) (State.isArrayOf_alike C.z.alike A.2.1) (g := mkF W.m pc L (.ref a :: S)) rfl rfl (C.b hd) t kk
theorem g_arraylengthR (C : Cx W Z R own code mx ret nm wsx hx0) {a : Addr} {Cl : String} {vs : List Value} {z : Int32} (hd : decode code pc = .ok (.arraylength, 1)) (hp : pc + 1 = pc') (A : ArR Z h a Cl vs) (hz : vs.length.toInt32 = z) (g : Go W Q h k n pc' L (.int z :: S)) : Go W Q h k n pc L (.ref a :: S) := by
  obtain ⟨c, A, e, -⟩ := A
  exact g_arraylength C hd hp ⟨c, A, e⟩ hz g

theorem g_iaload (C : Cx W Z R own code mx ret nm wsx hx0) {a : Addr} {vs : List Value} {v : Value} {j : Int32} {i : Nat} (hd : decode code pc = .ok (.iaload, 1)) (hp : pc + 1 = pc') (A : Ar Z h a .int vs) (hj : j.toInt = i) (hv : vs[i]? = some v) (g : Go W Q h k n pc' L (v :: S)) : Go W Q h k n pc L (.int j :: .ref a :: S) := by
  subst hp
  obtain ⟨c, A, e⟩ := A
  subst e
  have hi := (List.getElem?_eq_some_iff.mp hv).1
  exact g.st fun T locs X eT t kk => X.iaload C.x (by rw [eT]; exact A.1) (State.isArrayOf_alike C.z.alike A.2.1) A.2.2 (in_of hj hi) (by rw [clamp_of hj, ← Array.getElem?_toList]; exact hv) (g := mkF W.m pc L (.int j :: .ref a :: S)) rfl rfl (C.b hd) t kk
theorem g_laload (C : Cx W Z R own code mx ret nm wsx hx0) {a : Addr} {vs : List Value} {v : Value} {j : Int32} {i : Nat} (hd : decode code pc = .ok (.laload, 1)) (hp : pc + 1 = pc') (A : Ar Z h a .long vs) (hj : j.toInt = i) (hv : vs[i]? = some v) (g : Go W Q h k n pc' L (v :: S)) : Go W Q h k n pc L (.int j :: .ref a :: S) := by
  subst hp
  obtain ⟨c, A, e⟩ := A
  subst e
  have hi := (List.getElem?_eq_some_iff.mp hv).1
  exact g.st fun T locs X eT t kk => X.laload C.x (by rw [eT]; exact A.1) (State.isArrayOf_alike C.z.alike A.2.1) A.2.2 (in_of hj hi) (by rw [clamp_of hj, ← Array.getElem?_toList]; exact hv) (g := mkF W.m pc L (.int j :: .ref a :: S)) rfl rfl (C.b hd) t kk
theorem g_caload (C : Cx W Z R own code mx ret nm wsx hx0) {a : Addr} {vs : List Value} {v : Value} {j : Int32} {i : Nat} (hd : decode code pc = .ok (.caload, 1)) (hp : pc + 1 = pc') (A : Ar Z h a .char vs) (hj : j.toInt = i) (hv : vs[i]? = some v) (g : Go W Q h k n pc' L (v :: S)) : Go W Q h k n pc L (.int j :: .ref a :: S) := by
  subst hp
  obtain ⟨c, A, e⟩ := A
  subst e
  have hi := (List.getElem?_eq_some_iff.mp hv).1
  exact g.st fun T locs X eT t kk => X.caload C.x (by rw [eT]; exact A.1) (State.isArrayOf_alike C.z.alike A.2.1) A.2.2 (in_of hj hi) (by rw [clamp_of hj, ← Array.getElem?_toList]; exact hv) (g := mkF W.m pc L (.int j :: .ref a :: S)) rfl rfl (C.b hd) t kk
theorem g_baload (C : Cx W Z R own code mx ret nm wsx hx0) {a : Addr} {vs : List Value} {v : Value} {j : Int32} {i : Nat} (hd : decode code pc = .ok (.baload, 1)) (hp : pc + 1 = pc') (A : Ar Z h a .byte vs) (hj : j.toInt = i) (hv : vs[i]? = some v) (g : Go W Q h k n pc' L (v :: S)) : Go W Q h k n pc L (.int j :: .ref a :: S) := by
  subst hp
  obtain ⟨c, A, e⟩ := A
  subst e
  have hi := (List.getElem?_eq_some_iff.mp hv).1
  exact g.st fun T locs X eT t kk => X.baloadBytes C.x (by rw [eT]; exact A.1) (State.isArrayOf_alike C.z.alike A.2.1) A.2.2 (in_of hj hi) (by rw [clamp_of hj, ← Array.getElem?_toList]; exact hv) (g := mkF W.m pc L (.int j :: .ref a :: S)) rfl rfl (C.b hd) t kk
theorem g_zaload (C : Cx W Z R own code mx ret nm wsx hx0) {a : Addr} {vs : List Value} {v : Value} {j : Int32} {i : Nat} (hd : decode code pc = .ok (.baload, 1)) (hp : pc + 1 = pc') (A : Ar Z h a .boolean vs) (hj : j.toInt = i) (hv : vs[i]? = some v) (g : Go W Q h k n pc' L (v :: S)) : Go W Q h k n pc L (.int j :: .ref a :: S) := by
  subst hp
  obtain ⟨c, A, e⟩ := A
  subst e
  have hi := (List.getElem?_eq_some_iff.mp hv).1
  exact g.st fun T locs X eT t kk => X.baloadBooleans C.x (by rw [eT]; exact A.1) (State.isArrayOf_alike C.z.alike A.2.1) A.2.2 (in_of hj hi) (by rw [clamp_of hj, ← Array.getElem?_toList]; exact hv) (g := mkF W.m pc L (.int j :: .ref a :: S)) rfl rfl (C.b hd) t kk
theorem g_aaload (C : Cx W Z R own code mx ret nm wsx hx0) {a : Addr} {Cl : String} {vs : List Value} {v : Value} {j : Int32} {i : Nat} (hd : decode code pc = .ok (.aaload, 1)) (hp : pc + 1 = pc') (A : ArR Z h a Cl vs) (hj : j.toInt = i) (hv : vs[i]? = some v) (g : Go W Q h k n pc' L (v :: S)) : Go W Q h k n pc L (.int j :: .ref a :: S) := by
  subst hp
  obtain ⟨c, A, e, -⟩ := A
  subst e
  have hi := (List.getElem?_eq_some_iff.mp hv).1
  exact g.st fun T locs X eT t kk => X.aaload C.x (by rw [eT]; exact A.1) (State.isArrayOf_alike C.z.alike A.2.1) rfl A.2.2 (in_of hj hi) (by rw [clamp_of hj, ← Array.getElem?_toList]; exact hv) (g := mkF W.m pc L (.int j :: .ref a :: S)) rfl rfl (C.b hd) t kk
theorem g_iastore (C : Cx W Z R own code mx ret nm wsx hx0) {a : Addr} {vs vs' : List Value} {x : Int32} {j : Int32} {i : Nat} (hd : decode code pc = .ok (.iastore, 1)) (hp : pc + 1 = pc') (A : Ar Z h a .int vs) (hj : j.toInt = i) (hi : i < vs.length) (hset : vs.set i (.int x) = vs') (q : Pw W a) (g : ∀ h', Ar Z h' a .int vs' → Keep h h' [a] → Go W Q h' k n pc' L S) : Go W Q h k n pc L (.int x :: .int j :: .ref a :: S) := fun T hT => by
  obtain ⟨locs, X, e, N⟩ := hT
  subst hp hset
  obtain ⟨c, A, ec⟩ := A
  obtain ⟨T', h', X', e', Wx, st⟩ := stI X C.x C.z e A (in_of hj (ec ▸ hi)) (g := mkF W.m pc L (.int x :: .int j :: .ref a :: S)) rfl rfl (C.b hd)
  refine Out.st st (g h' (Ar.put A ec hj Wx) (Keep.of_wr Wx) T' ⟨_, X', e', fun y hy => ?_⟩)
  rcases List.mem_append.mp hy with z | z
  · exact N y z
  · cases List.mem_singleton.mp z; exact q
theorem g_lastore (C : Cx W Z R own code mx ret nm wsx hx0) {a : Addr} {vs vs' : List Value} {x : Int64} {j : Int32} {i : Nat} (hd : decode code pc = .ok (.lastore, 1)) (hp : pc + 1 = pc') (A : Ar Z h a .long vs) (hj : j.toInt = i) (hi : i < vs.length) (hset : vs.set i (.long x) = vs') (q : Pw W a) (g : ∀ h', Ar Z h' a .long vs' → Keep h h' [a] → Go W Q h' k n pc' L S) : Go W Q h k n pc L (.long x :: .int j :: .ref a :: S) := fun T hT => by
  obtain ⟨locs, X, e, N⟩ := hT
  subst hp hset
  obtain ⟨c, A, ec⟩ := A
  obtain ⟨T', h', X', e', Wx, st⟩ := stJ X C.x C.z e A (in_of hj (ec ▸ hi)) (g := mkF W.m pc L (.long x :: .int j :: .ref a :: S)) rfl rfl (C.b hd)
  refine Out.st st (g h' (Ar.put A ec hj Wx) (Keep.of_wr Wx) T' ⟨_, X', e', fun y hy => ?_⟩)
  rcases List.mem_append.mp hy with z | z
  · exact N y z
  · cases List.mem_singleton.mp z; exact q
theorem g_castore (C : Cx W Z R own code mx ret nm wsx hx0) {a : Addr} {vs vs' : List Value} {x : Int32} {j : Int32} {i : Nat} (hd : decode code pc = .ok (.castore, 1)) (hp : pc + 1 = pc') (A : Ar Z h a .char vs) (hj : j.toInt = i) (hi : i < vs.length) (hset : vs.set i (.int (nar .char x)) = vs') (q : Pw W a) (g : ∀ h', Ar Z h' a .char vs' → Keep h h' [a] → Go W Q h' k n pc' L S) : Go W Q h k n pc L (.int x :: .int j :: .ref a :: S) := fun T hT => by
  obtain ⟨locs, X, e, N⟩ := hT
  subst hp hset
  obtain ⟨c, A, ec⟩ := A
  obtain ⟨T', h', X', e', Wx, st⟩ := stC X C.x C.z e A (in_of hj (ec ▸ hi)) (g := mkF W.m pc L (.int x :: .int j :: .ref a :: S)) rfl rfl (C.b hd)
  refine Out.st st (g h' (Ar.put A ec hj Wx) (Keep.of_wr Wx) T' ⟨_, X', e', fun y hy => ?_⟩)
  rcases List.mem_append.mp hy with z | z
  · exact N y z
  · cases List.mem_singleton.mp z; exact q
theorem g_bastore (C : Cx W Z R own code mx ret nm wsx hx0) {a : Addr} {vs vs' : List Value} {x : Int32} {j : Int32} {i : Nat} (hd : decode code pc = .ok (.bastore, 1)) (hp : pc + 1 = pc') (A : Ar Z h a .byte vs) (hj : j.toInt = i) (hi : i < vs.length) (hset : vs.set i (.int (nar .byte x)) = vs') (q : Pw W a) (g : ∀ h', Ar Z h' a .byte vs' → Keep h h' [a] → Go W Q h' k n pc' L S) : Go W Q h k n pc L (.int x :: .int j :: .ref a :: S) := fun T hT => by
  obtain ⟨locs, X, e, N⟩ := hT
  subst hp hset
  obtain ⟨c, A, ec⟩ := A
  obtain ⟨T', h', X', e', Wx, st⟩ := stB X C.x C.z e A (in_of hj (ec ▸ hi)) (g := mkF W.m pc L (.int x :: .int j :: .ref a :: S)) rfl rfl (C.b hd)
  refine Out.st st (g h' (Ar.put A ec hj Wx) (Keep.of_wr Wx) T' ⟨_, X', e', fun y hy => ?_⟩)
  rcases List.mem_append.mp hy with z | z
  · exact N y z
  · cases List.mem_singleton.mp z; exact q
theorem g_zastore (C : Cx W Z R own code mx ret nm wsx hx0) {a : Addr} {vs vs' : List Value} {x : Int32} {j : Int32} {i : Nat} (hd : decode code pc = .ok (.bastore, 1)) (hp : pc + 1 = pc') (A : Ar Z h a .boolean vs) (hj : j.toInt = i) (hi : i < vs.length) (hset : vs.set i (.int (nar .boolean x)) = vs') (q : Pw W a) (g : ∀ h', Ar Z h' a .boolean vs' → Keep h h' [a] → Go W Q h' k n pc' L S) : Go W Q h k n pc L (.int x :: .int j :: .ref a :: S) := fun T hT => by
  obtain ⟨locs, X, e, N⟩ := hT
  subst hp hset
  obtain ⟨c, A, ec⟩ := A
  obtain ⟨T', h', X', e', Wx, st⟩ := stZ X C.x C.z e A (in_of hj (ec ▸ hi)) (g := mkF W.m pc L (.int x :: .int j :: .ref a :: S)) rfl rfl (C.b hd)
  refine Out.st st (g h' (Ar.put A ec hj Wx) (Keep.of_wr Wx) T' ⟨_, X', e', fun y hy => ?_⟩)
  rcases List.mem_append.mp hy with z | z
  · exact N y z
  · cases List.mem_singleton.mp z; exact q
theorem ArR.put {Z : State} {h h' : Heap} {a : Addr} {Cl : String} {vs : List Value} {v : Value} {c : Cell} (A : Arr Z h a c (.object Cl)) (e : c.slots.toList = vs) (O : Ovr Z c.cls Cl) {j : Int32} {i : Nat} (hj : j.toInt = i) (W : Wr h h' a j.toNatClampNeg v) : ArR Z h' a Cl (vs.set i v) := by
  refine ⟨_, A.same W, ?_, O⟩
  rw [clamp_of hj, set_toList, e]
theorem g_aastore (C : Cx W Z R own code mx ret nm wsx hx0) {a : Addr} {Cl : String} {vs vs' : List Value} {v : Value} {j : Int32} {i : Nat} (hd : decode code pc = .ok (.aastore, 1)) (hp : pc + 1 = pc') (A : ArR Z h a Cl vs) (hj : j.toInt = i) (hi : i < vs.length) (hset : vs.set i v = vs') (hv : v = .null ∨ ∃ y, v = .ref y ∧ Exa Z h y Cl) (q : Pw W a) (g : ∀ h', ArR Z h' a Cl vs' → Keep h h' [a] → Go W Q h' k n pc' L S) : Go W Q h k n pc L (v :: .int j :: .ref a :: S) := fun T hT => by
  obtain ⟨locs, X, e, N⟩ := hT
  subst hp hset
  obtain ⟨c, A, ec, O⟩ := A
  have F : Sto Z h a v := by
    rcases hv with rfl | ⟨y, rfl, E⟩
    · exact Or.inl rfl
    · exact Sto.of A O (Ins.self E)
  obtain ⟨T', h', X', e', Wx, st⟩ := stR X C.x C.z e A (in_of hj (ec ▸ hi)) rfl F (g := mkF W.m pc L (v :: .int j :: .ref a :: S)) rfl rfl (C.b hd)
  refine Out.st st (g h' (ArR.put A ec O hj Wx) (Keep.of_wr Wx) T' ⟨_, X', e', fun y hy => ?_⟩)
  rcases List.mem_append.mp hy with z | z
  · exact N y z
  · cases List.mem_singleton.mp z; exact q
/-! returns -/
theorem g_end (C : Cx W Z R own code mx ret nm wsx hx0) {v : Option Value} (hv : ret = none → v = none) (hc : k ≤ R.cells) (hs : n ≤ R.slots) (q : Q v h)
    (st : ∀ T locs, Sta0 W T locs k n → ∀ fs, (∀ (f : JFrame) (acts : List Action), f.method = W.m → f.locked = none → f.entered = [] → (doReturn W.e (T.setTop f) acts v).1 = T.setFrames fs) → Stp W (T.setTop (mkF W.m pc L S)) (T.setFrames fs)) : Go W Q h k n pc L S := fun T hT => by
  obtain ⟨locs, X, e, N⟩ := hT
  obtain ⟨fs, hr, hrun, hended, hW, hsame⟩ := X.leave (v := v) (fun z => hv (C.rt ▸ z)) C.lk
  refine ⟨_, _, st T locs X fs hr, hrun, hended, v, locs, rfl, ⟨?_, N⟩, ⟨_, rfl⟩, hW, hsame.mono (by rw [C.r]; exact hc) (by rw [C.r]; exact hs)⟩
  show Q v T.heap
  rw [e]; exact q
theorem g_return (C : Cx W Z R own code mx none nm wsx hx0) (hd : decode code pc = .ok (.return_, 1)) (hc : k ≤ R.cells) (hs : n ≤ R.slots) (q : Q none h) : Go W Q h k n pc L [] :=
  g_end C (fun _ => rfl) hc hs q fun T locs X fs hr => X.returnOut C.x C.rt (C.b hd) hr
theorem g_retN {ty0 : FieldType} (C : Cx W Z R own code mx (some ty0) nm wsx hx0) {z : Int32} (ht : ty0 = .boolean ∨ ty0 = .byte ∨ ty0 = .char ∨ ty0 = .short) (hd : decode code pc = .ok (.ireturn, 1)) (hc : k ≤ R.cells) (hs : n ≤ R.slots) (q : Q (some (.int (nar ty0 z))) h) : Go W Q h k n pc L (.int z :: S) :=
  g_end C nofun hc hs q fun T locs X fs hr => retN X C.x C.rt ht (C.b hd) hr
theorem g_retI (C : Cx W Z R own code mx (some .int) nm wsx hx0) {z : Int32} (hd : decode code pc = .ok (.ireturn, 1)) (hc : k ≤ R.cells) (hs : n ≤ R.slots) (q : Q (some (.int z)) h) : Go W Q h k n pc L (.int z :: S) :=
  g_end C nofun hc hs q fun T locs X fs hr => retOut X C.x C.rt rfl (Or.inl ⟨rfl, Or.inl rfl, z, rfl⟩) (C.b hd) hr
theorem g_retL (C : Cx W Z R own code mx (some .long) nm wsx hx0) {z : Int64} (hd : decode code pc = .ok (.lreturn, 1)) (hc : k ≤ R.cells) (hs : n ≤ R.slots) (q : Q (some (.long z)) h) : Go W Q h k n pc L (.long z :: S) :=
  g_end C nofun hc hs q fun T locs X fs hr => retOut X C.x C.rt rfl (Or.inr (Or.inl ⟨rfl, rfl, z, rfl⟩)) (C.b hd) hr
theorem g_retA {ty0 : FieldType} (C : Cx W Z R own code mx (some ty0) nm wsx hx0) {v : Value} (ht : ty0.isReference = true) (hn : narrow ty0 v = v) (hv : v.isRef = true) (hd : decode code pc = .ok (.areturn, 1)) (hc : k ≤ R.cells) (hs : n ≤ R.slots) (q : Q (some v) h) : Go W Q h k n pc L (v :: S) :=
  g_end C nofun hc hs q fun T locs X fs hr => retOut X C.x C.rt hn (Or.inr (Or.inr (Or.inr (Or.inr ⟨rfl, ht, hv⟩)))) (C.b hd) hr
/-! calls -/
theorem g_initO (C : Cx W Z R own code mx ret nm wsx hx0) {i : Nat} {a : Addr} (hd : decode code pc = .ok (.invokespecial i, 3)) (hp : pc + 3 = pc') (w1 : (Jvm.Cond.methodLink own i Lib.objectInit).before a0 Z = true) (w2 : (Jvm.Cond.instanceMethod Lib.objectInit).before a0 Z = true) (w3 : (Jvm.Cond.code Lib.objectInit Jvm.Pilot.@@N@@.object_method_1_code 1 none).before a0 Z = true) (hL : L.size = mx) (hf : 1 ≤ R.frames) (hl : (S.map fun v => v.category).sum + 12 ≤ R.locals) (g : Go W Q h k n pc' L S) : Go W Q h k n pc L (.ref a :: S) := fun T hT => by
  obtain ⟨locs, X, e, N⟩ := hT
  subst hp
  obtain ⟨T', X', e', st⟩ := initO X C.x C.z C.o w1 w2 w3 e (g := mkF W.m pc L (.ref a :: S)) rfl (by rw [C.ml]; exact hL) rfl (C.b hd) (by rw [C.r]; exact hf) (W := (S.map fun v => v.category).sum) (by show 2 * 0 + _ ≤ _; omega) (by rw [C.r]; exact hl)
  exact Out.st st (g T' ⟨locs, X', e', N⟩)
theorem post_call {T T' : State} {locs L' : List Loc} {k' n' : Nat} {ws : List Addr} (X : Sta0 W T locs k n) (e : T.heap = h) (N : ∀ y ∈ locs, Pw W y.base) (hws : ∀ a ∈ ws, Pw W a) (hL : ∀ y ∈ L', y.base ∈ ws ∨ h.size ≤ y.base) : ∀ y ∈ locs ++ L', Pw W y.base := fun y hy => by
  rcases List.mem_append.mp hy with z | z
  · exact N y z
  · rcases hL y z with q | q
    · exact hws _ q
    · have r : W.s.heap.size ≤ T.heap.size := X.same.2.1
      rw [e] at r
      exact Or.inr (Nat.le_trans r q)
/-- the contract, with what it keeps -/
theorem Con.keeps {l : Launch} {w0 : List Jvm.Cond} {y : MethodName} {bytes : ByteArray} {ret' : Option FieldType} {rm : Room} {as : Array Value} {ws : List Addr} {Q' : Option Value → Heap → Prop} {mx' : Nat} (M : Con l Z w0 y bytes mx' ret' rm as h ws Q') :
    MetFree l y (head1 (Jvm.Cond.code y bytes mx' ret' :: w0) rm) (fun a U => a = as ∧ Z.Warmed39 U.vm ∧ U.heap = h) (fun _ _ _ _ _ => True)
      (fun _ U o U' => ∃ v L, o = .returned v ∧ (Q' v U'.heap ∧ (∀ y ∈ L, y.base ∈ ws ∨ h.size ≤ y.base) ∧ Keep h U'.heap ws) ∧ FrameEnd U o U' L rm.cells rm.slots) := by
  intro p e ha hc hk s m args below hf happ hP hK
  obtain ⟨nn, o, h1, h2, h3, v, L, rfl, ⟨hq, hL⟩, hF⟩ := M p e ha hc hk s m args below hf happ hP hK
  refine ⟨nn, _, h1, h2, h3, v, L, rfl, ⟨hq, hL, ?_⟩, hF⟩
  obtain ⟨rfl, -, rfl⟩ := hP
  have K := keep_of_same hF.2.2 hL
  exact K
theorem g_static (C : Cx W Z R own code mx ret nm wsx hx0) {i : Nat} {y : MethodName} {bytes : ByteArray} {mx' : Nat} {ret' : Option FieldType} {rm : Room} {as : List Value} {ws : List Addr} {Q' : Option Value → Heap → Prop} {S0 : List Value} (hd : decode code pc = .ok (.invokestatic i, 3)) (hp : pc + 3 = pc')
    (w1 : (Jvm.Cond.methodLink own i y).before a0 Z = true) (w2 : (Jvm.Cond.static y).before a0 Z = true) (w3 : (Jvm.Cond.initialized y.cls).before a0 Z = true) (w4 : (Jvm.Cond.code y bytes mx' ret').before a0 Z = true) (hy : y.cls ≠ "java/lang/invoke/MethodHandle" ∧ y.cls ≠ "java/lang/invoke/VarHandle")
    (hlen : ∀ sig, parseMethodDescriptor y.desc = some sig → as.length = sig.parameters.length) (M : Con W.l Z [] y bytes mx' ret' rm as.toArray h ws Q') (hS : S0 = as.reverse ++ S) (hL : L.size = mx) (hf : rm.frames + 1 ≤ R.frames) (hl : (S.map fun v => v.category).sum + (mx' + 11) + rm.locals ≤ R.locals) {k' n' : Nat} (hk : k + rm.cells = k') (hn : n + rm.slots = n') (hc : k' ≤ R.cells) (hs : n' ≤ R.slots) (hws : ∀ a ∈ ws, Pw W a)
    (g : ∀ v h', Q' v h' → Keep h h' ws → Go W Q h' k' n' pc' L (v.toList ++ S)) : Go W Q h k n pc L S0 := fun T hT => by
  obtain ⟨locs, X, e, N⟩ := hT
  subst hp hS hk hn
  obtain ⟨v, _, ⟨T', L1, k1, n1⟩, -, X', ⟨L2, ⟨hQ, hL2, hK⟩, l1, y1, z1⟩, st⟩ := Jvm.LawKit.callS X C.x (y := y) C.o (mvT C.z w1) (mvT C.z w2) (mvT C.z w3) (mvT C.z w4) hy (backOf (R := W.R) (W := (S.map fun v => v.category).sum) (Q := fun v h' L => Q' v h' ∧ (∀ y ∈ L, y.base ∈ ws ∨ h.size ≤ y.base) ∧ Keep h h' ws) M.keeps C.z w4 w3 (by rw [C.r]; exact hf) (by rw [C.r]; exact hl)) (g := mkF W.m pc L (as.reverse ++ S)) rfl (by rw [C.ml]; exact hL) (argsL := as) (rest := S) hlen rfl (by show 2 * 0 + _ ≤ _; omega) (C.b hd) (fun _ _ => ⟨rfl, e, by rw [C.r]; exact hc, by rw [C.r]; exact hs⟩)
  dsimp only [Pt.U, Pt.locs, Pt.cells, Pt.slots] at X' l1 y1 z1 st hQ hK
  subst l1 y1 z1
  exact Out.st st (g v T'.heap hQ hK T' ⟨_, X', rfl, post_call (T' := T') (k' := 0) (n' := 0) X e N hws hL2⟩)
theorem g_special (C : Cx W Z R own code mx ret nm wsx hx0) {i : Nat} {y : MethodName} {bytes : ByteArray} {mx' : Nat} {rm : Room} {as : List Value} {ws : List Addr} {Q' : Option Value → Heap → Prop} {S0 : List Value} {a : Addr} (hd : decode code pc = .ok (.invokespecial i, 3)) (hp : pc + 3 = pc') (hy1 : y.name = "<init>")
    (w1 : (Jvm.Cond.methodLink own i y).before a0 Z = true) (w2 : (Jvm.Cond.instanceMethod y).before a0 Z = true) (w3 : (Jvm.Cond.initialized y.cls).before a0 Z = true) (w4 : (Jvm.Cond.code y bytes mx' none).before a0 Z = true) (hy : y.cls ≠ "java/lang/invoke/MethodHandle" ∧ y.cls ≠ "java/lang/invoke/VarHandle")
    (hlen : ∀ sig, parseMethodDescriptor y.desc = some sig → as.length = sig.parameters.length) (M : Con W.l Z [] y bytes mx' none rm (.ref a :: as).toArray h ws Q') (hS : S0 = as.reverse ++ .ref a :: S) (hL : L.size = mx) (hf : rm.frames + 1 ≤ R.frames) (hl : (S.map fun v => v.category).sum + (mx' + 11) + rm.locals ≤ R.locals) {k' n' : Nat} (hk : k + rm.cells = k') (hn : n + rm.slots = n') (hc : k' ≤ R.cells) (hs : n' ≤ R.slots) (hws : ∀ a ∈ ws, Pw W a)
    (g : ∀ v h', Q' v h' → Keep h h' ws → Go W Q h' k' n' pc' L (v.toList ++ S)) : Go W Q h k n pc L S0 := fun T hT => by
  obtain ⟨locs, X, e, N⟩ := hT
  subst hp hS hk hn
  obtain ⟨v, _, ⟨T', L1, k1, n1⟩, -, X', ⟨L2, ⟨hQ, hL2, hK⟩, l1, y1, z1⟩, st⟩ := X.specialBack C.x (y := y) hy1 C.o (mvT C.z w1) (mvT C.z w2) (mvT C.z w4) hy (backOf (R := W.R) (W := (S.map fun v => v.category).sum) (Q := fun v h' L => Q' v h' ∧ (∀ y ∈ L, y.base ∈ ws ∨ h.size ≤ y.base) ∧ Keep h h' ws) M.keeps C.z w4 w3 (by rw [C.r]; exact hf) (by rw [C.r]; exact hl)) (g := mkF W.m pc L (as.reverse ++ .ref a :: S)) rfl (by rw [C.ml]; exact hL) (Steps.refl _) (a := a) (argsL := as) (rest := S) hlen rfl (by show 2 * 0 + _ ≤ _; omega) (C.b hd) (fun _ _ => ⟨rfl, e, by rw [C.r]; exact hc, by rw [C.r]; exact hs⟩)
  dsimp only [Pt.U, Pt.locs, Pt.cells, Pt.slots] at X' l1 y1 z1 st hQ hK
  subst l1 y1 z1
  exact Out.st (fun t z => st.trans z) (g v T'.heap hQ hK T' ⟨_, X', rfl, post_call (T' := T') (k' := 0) (n' := 0) X e N hws hL2⟩)
theorem g_virtual (C : Cx W Z R own code mx ret nm wsx hx0) {i : Nat} {y : MethodName} {bytes : ByteArray} {mx' : Nat} {ret' : Option FieldType} {rm : Room} {as : List Value} {ws : List Addr} {Q' : Option Value → Heap → Prop} {S0 : List Value} {a : Addr} {Cl : String} (hd : decode code pc = .ok (.invokevirtual i, 3)) (hp : pc + 3 = pc')
    (w1 : (Jvm.Cond.methodLink own i y).before a0 Z = true) (w2 : (Jvm.Cond.instanceMethod y).before a0 Z = true) (w3 : (Jvm.Cond.initialized y.cls).before a0 Z = true) (w4 : (Jvm.Cond.code y bytes mx' ret').before a0 Z = true) (w5 : (Jvm.Cond.declares y).before a0 Z = true) (w6 : (Jvm.Cond.selects Cl y y).before a0 Z = true) (hy : y.cls ≠ "java/lang/invoke/MethodHandle" ∧ y.cls ≠ "java/lang/invoke/VarHandle") (hE : Exa Z h a Cl)
    (hlen : ∀ sig, parseMethodDescriptor y.desc = some sig → as.length = sig.parameters.length) (M : Con W.l Z [] y bytes mx' ret' rm (.ref a :: as).toArray h ws Q') (hS : S0 = as.reverse ++ .ref a :: S) (hL : L.size = mx) (hf : rm.frames + 1 ≤ R.frames) (hl : (S.map fun v => v.category).sum + (mx' + 11) + rm.locals ≤ R.locals) {k' n' : Nat} (hk : k + rm.cells = k') (hn : n + rm.slots = n') (hc : k' ≤ R.cells) (hs : n' ≤ R.slots) (hws : ∀ a ∈ ws, Pw W a)
    (g : ∀ v h', Q' v h' → Keep h h' ws → Go W Q h' k' n' pc' L (v.toList ++ S)) : Go W Q h k n pc L S0 := fun T hT => by
  obtain ⟨locs, X, e, N⟩ := hT
  subst hp hS hk hn
  obtain ⟨cq, kq, qa, qb, qc⟩ := isOf C.z e hE
  obtain ⟨v, _, ⟨T', L1, k1, n1⟩, -, X', ⟨L2, ⟨hQ, hL2, hK⟩, l1, y1, z1⟩, st⟩ := X.virtualBack C.x (y := y) (z := y) C.o (mvT C.z w1) (mvT C.z w5) (notFace_of_selects (args := #[]) (mvT C.z w6)) (mvT C.z w6) (mvT C.z w2) hy (backOf (R := W.R) (W := (S.map fun v => v.category).sum) (Q := fun v h' L => Q' v h' ∧ (∀ y ∈ L, y.base ∈ ws ∨ h.size ≤ y.base) ∧ Keep h h' ws) M.keeps C.z w4 w3 (by rw [C.r]; exact hf) (by rw [C.r]; exact hl)) qa qc (g := mkF W.m pc L (as.reverse ++ .ref a :: S)) rfl (by rw [C.ml]; exact hL) (Steps.refl _) (argsL := as) (rest := S) hlen rfl (by show 2 * 0 + _ ≤ _; omega) (C.b hd) (fun _ _ => ⟨rfl, e, by rw [C.r]; exact hc, by rw [C.r]; exact hs⟩)
  dsimp only [Pt.U, Pt.locs, Pt.cells, Pt.slots] at X' l1 y1 z1 st hQ hK
  subst l1 y1 z1
  exact Out.st (fun t z => st.trans z) (g v T'.heap hQ hK T' ⟨_, X', rfl, post_call (T' := T') (k' := 0) (n' := 0) X e N hws hL2⟩)
theorem g_staticP (C : Cx W Z R own code mx ret nm wsx hx0) {i : Nat} {y : MethodName} {bytes : ByteArray} {mx' : Nat} {ret' : Option FieldType} {rm : Room} {as : List Value} {r : Option Value} {S0 S1 : List Value} (hd : decode code pc = .ok (.invokestatic i, 3)) (hp : pc + 3 = pc')
    (w1 : (Jvm.Cond.methodLink own i y).before a0 Z = true) (w2 : (Jvm.Cond.static y).before a0 Z = true) (w3 : (Jvm.Cond.initialized y.cls).before a0 Z = true) (w4 : (Jvm.Cond.code y bytes mx' ret').before a0 Z = true) (hy : y.cls ≠ "java/lang/invoke/MethodHandle" ∧ y.cls ≠ "java/lang/invoke/VarHandle")
    (hlen : ∀ sig, parseMethodDescriptor y.desc = some sig → as.length = sig.parameters.length) (M : Con W.l Z [] y bytes mx' ret' rm as.toArray h [] (fun v h' => v = r ∧ h' = h)) (hS : S0 = as.reverse ++ S) (hL : L.size = mx) (hf : rm.frames + 1 ≤ R.frames) (hl : (S.map fun v => v.category).sum + (mx' + 11) + rm.locals ≤ R.locals) {k' n' : Nat} (hk : k + rm.cells = k') (hn : n + rm.slots = n') (hc : k' ≤ R.cells) (hs : n' ≤ R.slots) (hS1 : r.toList ++ S = S1)
    (g : Go W Q h k' n' pc' L S1) : Go W Q h k n pc L S0 :=
  g_static C hd hp w1 w2 w3 w4 hy hlen M hS hL hf hl hk hn hc hs all0 fun v h' q K => by
    obtain ⟨rfl, rfl⟩ := q
    rw [hS1]; exact g
theorem g_virtualP (C : Cx W Z R own code mx ret nm wsx hx0) {i : Nat} {y : MethodName} {bytes : ByteArray} {mx' : Nat} {ret' : Option FieldType} {rm : Room} {as : List Value} {r : Option Value} {S0 S1 : List Value} {a : Addr} {Cl : String} (hd : decode code pc = .ok (.invokevirtual i, 3)) (hp : pc + 3 = pc')
    (w1 : (Jvm.Cond.methodLink own i y).before a0 Z = true) (w2 : (Jvm.Cond.instanceMethod y).before a0 Z = true) (w3 : (Jvm.Cond.initialized y.cls).before a0 Z = true) (w4 : (Jvm.Cond.code y bytes mx' ret').before a0 Z = true) (w5 : (Jvm.Cond.declares y).before a0 Z = true) (w6 : (Jvm.Cond.selects Cl y y).before a0 Z = true) (hy : y.cls ≠ "java/lang/invoke/MethodHandle" ∧ y.cls ≠ "java/lang/invoke/VarHandle") (hE : Exa Z h a Cl)
    (hlen : ∀ sig, parseMethodDescriptor y.desc = some sig → as.length = sig.parameters.length) (M : Con W.l Z [] y bytes mx' ret' rm (.ref a :: as).toArray h [] (fun v h' => v = r ∧ h' = h)) (hS : S0 = as.reverse ++ .ref a :: S) (hL : L.size = mx) (hf : rm.frames + 1 ≤ R.frames) (hl : (S.map fun v => v.category).sum + (mx' + 11) + rm.locals ≤ R.locals) {k' n' : Nat} (hk : k + rm.cells = k') (hn : n + rm.slots = n') (hc : k' ≤ R.cells) (hs : n' ≤ R.slots) (hS1 : r.toList ++ S = S1)
    (g : Go W Q h k' n' pc' L S1) : Go W Q h k n pc L S0 :=
  g_virtual C hd hp w1 w2 w3 w4 w5 w6 hy hE hlen M hS hL hf hl hk hn hc hs all0 fun v h' q K => by
    obtain ⟨rfl, rfl⟩ := q
    rw [hS1]; exact g
theorem g_nameI {x : Int32} (g : ∀ z : Int32, z = x → Go W Q h k n pc L (.int z :: S)) : Go W Q h k n pc L (.int x :: S) := g x rfl
theorem g_nameJ {x : Int64} (g : ∀ z : Int64, z = x → Go W Q h k n pc L (.long z :: S)) : Go W Q h k n pc L (.long x :: S) := g x rfl
/-! a body's contract out of its walk -/
theorem locals_of {as : List Value} {mx0 : Nat} {Ls : List Slot} (h : (as.flatMap fun v => if v.category = 2 then [.val v, .second] else [.val v]) ++ List.replicate (mx0 - (as.flatMap fun v => if v.category = 2 then [.val v, .second] else [Slot.val v]).length) .unset = Ls) : argsToLocals as.toArray mx0 = Ls.toArray := by
  have e : ∀ (l : List Value) (acc : Array Slot), (l.foldl (fun acc v => if v.category = 2 then (acc.push (.val v)).push .second else acc.push (.val v)) acc) = acc ++ (l.flatMap fun v => if v.category = 2 then [.val v, .second] else [Slot.val v]).toArray := by
    intro l
    induction l with
    | nil => intro acc; simp
    | cons v l ih =>
      intro acc
      rw [List.foldl_cons, ih, List.flatMap_cons]
      split <;> simp
  subst h
  simp only [argsToLocals, List.foldl_toArray', e]
  simp
theorem Con.of_go {l : Launch} {w0 : List Jvm.Cond} {y : MethodName} {bytes : ByteArray} {ret' : Option FieldType} {rm : Room} {as : Array Value} {ws : List Addr} {Q' : Option Value → Heap → Prop} {mx' : Nat} {L0 : Array Slot} (hpl : plainFor y = true) (hL : argsToLocals as mx' = L0)
    (body : ∀ (W : Wk) (Q : Option Value → Heap → Prop), Q = Q' → W.l = l → Cx W Z rm y.cls bytes mx' ret' y.name ws h → Go W Q h 0 0 0 L0 []) : Con l Z w0 y bytes mx' ret' rm as h ws Q' := by
  refine MetFree.of_bodySF hpl hisR ?_
  intro p e s m args below meth c s₁ Bd hml0 hP hK
  obtain ⟨rfl, hZ, rfl⟩ := hP
  subst hL
  have X0 : Stand p l e rm s m args below meth c s₁ [] 0 0 := Stand.of_body Bd
  have e0 : s₁.heap = s.heap := by rw [Bd.state]; rfl
  obtain ⟨s2, o, h1, h2, h3, v, L, h4, ⟨h5, h6⟩, h7⟩ := body (p, l, e, rm, s, m, args, below, meth, c, ws) _ rfl rfl ⟨Bd.exec, hZ, findClass_of_methodNamed Bd.named, Bd.bytes, hml0, Bd.returns, Bd.notSynchronized, (name_of_methodNamed Bd.named Bd.method).1, rfl, rfl, rfl⟩ s₁ ⟨[], X0, e0, fun _ q => nomatch q⟩
  exact ⟨s2, o, h1, h2, h3, v, L, h4, ⟨h5, h6⟩, h7⟩
end Steps0
end Jvm.OwnKit
namespace Jvm.Pilot.@@N@@
open Jvm Jvm.ClassFile Sem Op Lib Jvm.Free Jvm.Stand Jvm.LawKit Jvm.RoadKit Jvm.OwnKit Bundle Jvm.Pilot.@@N@@.Jvm.D
theorem pd_0 : parseMethodDescriptor "(ZJ)V" = some ⟨[.boolean, .long], none⟩ := by decide +kernel
theorem pd_1 : parseMethodDescriptor "(J)V" = some ⟨[.long], none⟩ := by decide +kernel
theorem pd_2 : parseMethodDescriptor "()Z" = some ⟨[], some .boolean⟩ := by decide +kernel
theorem pd_3 : parseMethodDescriptor "()V" = some ⟨[], none⟩ := by decide +kernel
theorem d1_0 : decode prog_29_method_1_code 0 = .ok (.aload_n 0, 1) := by decide +kernel
theorem d1_1 : decode prog_29_method_1_code 1 = .ok (.invokespecial 1, 3) := by decide +kernel
theorem d1_4 : decode prog_29_method_1_code 4 = .ok (.aload_n 0, 1) := by decide +kernel
theorem d1_5 : decode prog_29_method_1_code 5 = .ok (.iload_n 1, 1) := by decide +kernel
theorem d1_6 : decode prog_29_method_1_code 6 = .ok (.putfield 7, 3) := by decide +kernel
theorem d1_9 : decode prog_29_method_1_code 9 = .ok (.aload_n 0, 1) := by decide +kernel
theorem d1_10 : decode prog_29_method_1_code 10 = .ok (.lload_n 2, 1) := by decide +kernel
theorem d1_11 : decode prog_29_method_1_code 11 = .ok (.putfield 13, 3) := by decide +kernel
theorem d1_14 : decode prog_29_method_1_code 14 = .ok (.return_, 1) := by decide +kernel
theorem d3_0 : decode prog_29_method_2_code 0 = .ok (.aload_n 0, 1) := by decide +kernel
theorem d3_1 : decode prog_29_method_2_code 1 = .ok (.getfield 17, 3) := by decide +kernel
theorem d3_4 : decode prog_29_method_2_code 4 = .ok (.ifCond .eq 16, 3) := by decide +kernel
theorem d3_7 : decode prog_29_method_2_code 7 = .ok (.aload_n 0, 1) := by decide +kernel
theorem d3_8 : decode prog_29_method_2_code 8 = .ok (.dup, 1) := by decide +kernel
theorem d3_9 : decode prog_29_method_2_code 9 = .ok (.getfield 20, 3) := by decide +kernel
theorem d3_12 : decode prog_29_method_2_code 12 = .ok (.lload_n 1, 1) := by decide +kernel
theorem d3_13 : decode prog_29_method_2_code 13 = .ok (.ladd, 1) := by decide +kernel
theorem d3_14 : decode prog_29_method_2_code 14 = .ok (.putfield 20, 3) := by decide +kernel
theorem d3_17 : decode prog_29_method_2_code 17 = .ok (.goto 13, 3) := by decide +kernel
theorem d3_20 : decode prog_29_method_2_code 20 = .ok (.aload_n 0, 1) := by decide +kernel
theorem d3_21 : decode prog_29_method_2_code 21 = .ok (.dup, 1) := by decide +kernel
theorem d3_22 : decode prog_29_method_2_code 22 = .ok (.getfield 23, 3) := by decide +kernel
theorem d3_25 : decode prog_29_method_2_code 25 = .ok (.lload_n 1, 1) := by decide +kernel
theorem d3_26 : decode prog_29_method_2_code 26 = .ok (.ladd, 1) := by decide +kernel
theorem d3_27 : decode prog_29_method_2_code 27 = .ok (.putfield 23, 3) := by decide +kernel
theorem d3_30 : decode prog_29_method_2_code 30 = .ok (.return_, 1) := by decide +kernel
theorem d4_0 : decode prog_29_method_4_code 0 = .ok (.aload_n 0, 1) := by decide +kernel
theorem d4_1 : decode prog_29_method_4_code 1 = .ok (.getfield 17, 3) := by decide +kernel
theorem d4_4 : decode prog_29_method_4_code 4 = .ok (.ifCond .eq 24, 3) := by decide +kernel
theorem d4_7 : decode prog_29_method_4_code 7 = .ok (.aload_n 0, 1) := by decide +kernel
theorem d4_8 : decode prog_29_method_4_code 8 = .ok (.getfield 20, 3) := by decide +kernel
theorem d4_11 : decode prog_29_method_4_code 11 = .ok (.aload_n 0, 1) := by decide +kernel
theorem d4_12 : decode prog_29_method_4_code 12 = .ok (.getfield 23, 3) := by decide +kernel
theorem d4_15 : decode prog_29_method_4_code 15 = .ok (.aload_n 0, 1) := by decide +kernel
theorem d4_16 : decode prog_29_method_4_code 16 = .ok (.getfield 13, 3) := by decide +kernel
theorem d4_19 : decode prog_29_method_4_code 19 = .ok (.ladd, 1) := by decide +kernel
theorem d4_20 : decode prog_29_method_4_code 20 = .ok (.lcmp, 1) := by decide +kernel
theorem d4_21 : decode prog_29_method_4_code 21 = .ok (.ifCond .lt 7, 3) := by decide +kernel
theorem d4_24 : decode prog_29_method_4_code 24 = .ok (.iconst 1, 1) := by decide +kernel
theorem d4_25 : decode prog_29_method_4_code 25 = .ok (.goto 4, 3) := by decide +kernel
theorem d4_28 : decode prog_29_method_4_code 28 = .ok (.iconst 0, 1) := by decide +kernel
theorem d4_29 : decode prog_29_method_4_code 29 = .ok (.ireturn, 1) := by decide +kernel
theorem d5_0 : decode prog_29_method_6_code 0 = .ok (.aload_n 0, 1) := by decide +kernel
theorem d5_1 : decode prog_29_method_6_code 1 = .ok (.getfield 17, 3) := by decide +kernel
theorem d5_4 : decode prog_29_method_6_code 4 = .ok (.ifCond .ne 7, 3) := by decide +kernel
theorem d5_7 : decode prog_29_method_6_code 7 = .ok (.iconst 1, 1) := by decide +kernel
theorem d5_8 : decode prog_29_method_6_code 8 = .ok (.goto 4, 3) := by decide +kernel
theorem d5_11 : decode prog_29_method_6_code 11 = .ok (.iconst 0, 1) := by decide +kernel
theorem d5_12 : decode prog_29_method_6_code 12 = .ok (.istore_n 1, 1) := by decide +kernel
theorem d5_13 : decode prog_29_method_6_code 13 = .ok (.aload_n 0, 1) := by decide +kernel
theorem d5_14 : decode prog_29_method_6_code 14 = .ok (.iconst 1, 1) := by decide +kernel
theorem d5_15 : decode prog_29_method_6_code 15 = .ok (.putfield 17, 3) := by decide +kernel
theorem d5_18 : decode prog_29_method_6_code 18 = .ok (.iload_n 1, 1) := by decide +kernel
theorem d5_19 : decode prog_29_method_6_code 19 = .ok (.ireturn, 1) := by decide +kernel
theorem d6_0 : decode prog_29_method_7_code 0 = .ok (.aload_n 0, 1) := by decide +kernel
theorem d6_1 : decode prog_29_method_7_code 1 = .ok (.iconst 0, 1) := by decide +kernel
theorem d6_2 : decode prog_29_method_7_code 2 = .ok (.putfield 17, 3) := by decide +kernel
theorem d6_5 : decode prog_29_method_7_code 5 = .ok (.return_, 1) := by decide +kernel
set_option maxHeartbeats 4000000 in
theorem dis_0 (Z : State) (a0 : Array Value) (hw : ∀ d ∈ tables_1, d.before a0 Z = true) : ([RoadKit.slotOf Z "com/example/infinite_marking/infinitemarking/analysis/LookAhead" "wanted" "Z", RoadKit.slotOf Z "com/example/infinite_marking/infinitemarking/analysis/LookAhead" "share" "J", RoadKit.slotOf Z "com/example/infinite_marking/infinitemarking/analysis/LookAhead" "running" "Z", RoadKit.slotOf Z "com/example/infinite_marking/infinitemarking/analysis/LookAhead" "inOrder" "J", RoadKit.slotOf Z "com/example/infinite_marking/infinitemarking/analysis/LookAhead" "ahead" "J"] : List Nat).Nodup := by
  simp only [List.nodup_cons, List.mem_cons, List.not_mem_nil, or_false, not_or, not_false_eq_true, List.nodup_nil, and_true]
  exact ⟨⟨RoadKit.slot_ne (Or.inr (hw _ (List.mem_of_getElem? (i := 11) rfl))) (Or.inr (hw _ (List.mem_of_getElem? (i := 13) rfl))) (by decide) (t := .boolean) (t' := .long) (by decide) (by decide), RoadKit.slot_ne (Or.inr (hw _ (List.mem_of_getElem? (i := 11) rfl))) (Or.inl (hw _ (List.mem_of_getElem? (i := 20) rfl))) (by decide) (t := .boolean) (t' := .boolean) (by decide) (by decide), RoadKit.slot_ne (Or.inr (hw _ (List.mem_of_getElem? (i := 11) rfl))) (Or.inl (hw _ (List.mem_of_getElem? (i := 22) rfl))) (by decide) (t := .boolean) (t' := .long) (by decide) (by decide), RoadKit.slot_ne (Or.inr (hw _ (List.mem_of_getElem? (i := 11) rfl))) (Or.inl (hw _ (List.mem_of_getElem? (i := 34) rfl))) (by decide) (t := .boolean) (t' := .long) (by decide) (by decide)⟩, ⟨RoadKit.slot_ne (Or.inr (hw _ (List.mem_of_getElem? (i := 13) rfl))) (Or.inl (hw _ (List.mem_of_getElem? (i := 20) rfl))) (by decide) (t := .long) (t' := .boolean) (by decide) (by decide), RoadKit.slot_ne (Or.inr (hw _ (List.mem_of_getElem? (i := 13) rfl))) (Or.inl (hw _ (List.mem_of_getElem? (i := 22) rfl))) (by decide) (t := .long) (t' := .long) (by decide) (by decide), RoadKit.slot_ne (Or.inr (hw _ (List.mem_of_getElem? (i := 13) rfl))) (Or.inl (hw _ (List.mem_of_getElem? (i := 34) rfl))) (by decide) (t := .long) (t' := .long) (by decide) (by decide)⟩, ⟨RoadKit.slot_ne (Or.inl (hw _ (List.mem_of_getElem? (i := 20) rfl))) (Or.inl (hw _ (List.mem_of_getElem? (i := 22) rfl))) (by decide) (t := .boolean) (t' := .long) (by decide) (by decide), RoadKit.slot_ne (Or.inl (hw _ (List.mem_of_getElem? (i := 20) rfl))) (Or.inl (hw _ (List.mem_of_getElem? (i := 34) rfl))) (by decide) (t := .boolean) (t' := .long) (by decide) (by decide)⟩, RoadKit.slot_ne (Or.inl (hw _ (List.mem_of_getElem? (i := 22) rfl))) (Or.inl (hw _ (List.mem_of_getElem? (i := 34) rfl))) (by decide) (t := .long) (t' := .long) (by decide) (by decide)⟩
set_option maxRecDepth 65536 in
set_option maxHeartbeats 2000000 in
theorem con_init (l : Launch) (Z : State) (a0 : Array Value) (hw : ∀ d ∈ tables_1, d.before a0 Z = true) (a : Addr) (wz : Int32) (PW : Prop) [Decidable PW] (ew : wz = b2i PW) (sh : Int64) (h : Heap) (O : Ob Z h a "com/example/infinite_marking/infinitemarking/analysis/LookAhead" [("com/example/infinite_marking/infinitemarking/analysis/LookAhead", "wanted", "Z", (.int (0 : Int32))), ("com/example/infinite_marking/infinitemarking/analysis/LookAhead", "share", "J", (.long (0 : Int64))), ("com/example/infinite_marking/infinitemarking/analysis/LookAhead", "running", "Z", (.int (0 : Int32))), ("com/example/infinite_marking/infinitemarking/analysis/LookAhead", "inOrder", "J", (.long (0 : Int64))), ("com/example/infinite_marking/infinitemarking/analysis/LookAhead", "ahead", "J", (.long (0 : Int64)))]) :
    Con l Z [] (⟨"com/example/infinite_marking/infinitemarking/analysis/LookAhead", "<init>", "(ZJ)V"⟩ : MethodName) prog_29_method_1_code 4 none ({ frames := 1, cells := 0, slots := 0, locals := 12 } : Room) #[(.ref a), (.int wz), (.long sh)] h [a] (fun v h' => v = none ∧ Ob Z h' a "com/example/infinite_marking/infinitemarking/analysis/LookAhead" [("com/example/infinite_marking/infinitemarking/analysis/LookAhead", "wanted", "Z", (.int wz)), ("com/example/infinite_marking/infinitemarking/analysis/LookAhead", "share", "J", (.long sh)), ("com/example/infinite_marking/infinitemarking/analysis/LookAhead", "running", "Z", (.int (0 : Int32))), ("com/example/infinite_marking/infinitemarking/analysis/LookAhead", "inOrder", "J", (.long (0 : Int64))), ("com/example/infinite_marking/infinitemarking/analysis/LookAhead", "ahead", "J", (.long (0 : Int64)))]) := by
  refine Con.of_go (L0 := #[.val (.ref a), .val (.int wz), .val (.long sh), .second]) (plainFor_of_name (by first | (simp [plainName, overriddenIn]; done) | decide +kernel)) (locals_of rfl) fun W Q hQ hl C => ?_
  subst hl
  refine g_aloadN (pc' := 1) C d1_0 rfl rfl rfl ?_
  refine g_initO (pc' := 4) C d1_1 rfl (hw _ (List.mem_of_getElem? (i := 7) rfl)) (hw _ (List.mem_of_getElem? (i := 8) rfl)) (hw _ (List.mem_of_getElem? (i := 9) rfl)) rfl (by decide) (Nat.le_of_ble_eq_true rfl) ?_
  refine g_aloadN (pc' := 5) C d1_4 rfl rfl rfl ?_
  refine g_iloadN (pc' := 6) C d1_5 rfl rfl ?_
  refine g_putO (pc' := 9) (j := 0) (ty := .boolean) (v' := (.int wz)) (fs' := [("com/example/infinite_marking/infinitemarking/analysis/LookAhead", "wanted", "Z", (.int wz)), ("com/example/infinite_marking/infinitemarking/analysis/LookAhead", "share", "J", (.long (0 : Int64))), ("com/example/infinite_marking/infinitemarking/analysis/LookAhead", "running", "Z", (.int (0 : Int32))), ("com/example/infinite_marking/infinitemarking/analysis/LookAhead", "inOrder", "J", (.long (0 : Int64))), ("com/example/infinite_marking/infinitemarking/analysis/LookAhead", "ahead", "J", (.long (0 : Int64)))]) C d1_6 rfl (hw _ (List.mem_of_getElem? (i := 10) rfl)) Via.refl O rfl (Or.inr ⟨(hw _ (List.mem_of_getElem? (i := 11) rfl)), rfl, rfl⟩) (hw _ (List.mem_of_getElem? (i := 2) rfl)) (by decide) (by rw [ew]; exact congrArg Value.int (nar_b2i _)) (by rw [ew]; exact fits_b2i _) rfl (C.old (List.mem_cons_self ..)) fun h1 O Kh1 => ?_
  refine g_aloadN (pc' := 10) C d1_9 rfl rfl rfl ?_
  refine g_lloadN (pc' := 11) C d1_10 rfl rfl ?_
  refine g_putO (pc' := 14) (j := 1) (ty := .long) (v' := (.long sh)) (fs' := [("com/example/infinite_marking/infinitemarking/analysis/LookAhead", "wanted", "Z", (.int wz)), ("com/example/infinite_marking/infinitemarking/analysis/LookAhead", "share", "J", (.long sh)), ("com/example/infinite_marking/infinitemarking/analysis/LookAhead", "running", "Z", (.int (0 : Int32))), ("com/example/infinite_marking/infinitemarking/analysis/LookAhead", "inOrder", "J", (.long (0 : Int64))), ("com/example/infinite_marking/infinitemarking/analysis/LookAhead", "ahead", "J", (.long (0 : Int64)))]) C d1_11 rfl (hw _ (List.mem_of_getElem? (i := 12) rfl)) Via.refl O rfl (Or.inr ⟨(hw _ (List.mem_of_getElem? (i := 13) rfl)), rfl, rfl⟩) (hw _ (List.mem_of_getElem? (i := 2) rfl)) (by decide) rfl rfl rfl (C.old (List.mem_cons_self ..)) fun h2 O Kh2 => ?_
  refine g_return C d1_14 (by decide) (by decide) ?_
  subst hQ
  exact ⟨rfl, O⟩
set_option maxRecDepth 65536 in
set_option maxHeartbeats 2000000 in
theorem con_count (l : Launch) (Z : State) (a0 : Array Value) (hw : ∀ d ∈ tables_1, d.before a0 Z = true) (a : Addr) (wz : Int32) (PW : Prop) [Decidable PW] (ew : wz = b2i PW) (sh io ah : Int64) (r : Int32) (P : Prop) [Decidable P] (er : r = b2i P) (q : Int64) (h : Heap) (O : Ob Z h a "com/example/infinite_marking/infinitemarking/analysis/LookAhead" [("com/example/infinite_marking/infinitemarking/analysis/LookAhead", "wanted", "Z", (.int wz)), ("com/example/infinite_marking/infinitemarking/analysis/LookAhead", "share", "J", (.long sh)), ("com/example/infinite_marking/infinitemarking/analysis/LookAhead", "running", "Z", (.int r)), ("com/example/infinite_marking/infinitemarking/analysis/LookAhead", "inOrder", "J", (.long io)), ("com/example/infinite_marking/infinitemarking/analysis/LookAhead", "ahead", "J", (.long ah))]) :
    Con l Z [] (⟨"com/example/infinite_marking/infinitemarking/analysis/LookAhead", "count", "(J)V"⟩ : MethodName) prog_29_method_2_code 3 none ({ frames := 0, cells := 0, slots := 0, locals := 0 } : Room) #[(.ref a), (.long q)] h [a] (fun v h' => v = none ∧ ∃ io' ah' : Int64, io' = (if P then io else io + q) ∧ ah' = (if P then ah + q else ah) ∧ Ob Z h' a "com/example/infinite_marking/infinitemarking/analysis/LookAhead" [("com/example/infinite_marking/infinitemarking/analysis/LookAhead", "wanted", "Z", (.int wz)), ("com/example/infinite_marking/infinitemarking/analysis/LookAhead", "share", "J", (.long sh)), ("com/example/infinite_marking/infinitemarking/analysis/LookAhead", "running", "Z", (.int r)), ("com/example/infinite_marking/infinitemarking/analysis/LookAhead", "inOrder", "J", (.long io')), ("com/example/infinite_marking/infinitemarking/analysis/LookAhead", "ahead", "J", (.long ah'))]) := by
  refine Con.of_go (L0 := #[.val (.ref a), .val (.long q), .second]) (plainFor_of_name (by first | (simp [plainName, overriddenIn]; done) | decide +kernel)) (locals_of rfl) fun W Q hQ hl C => ?_
  subst hl
  refine g_aloadN (pc' := 1) C d3_0 rfl rfl rfl ?_
  refine g_getO (pc' := 4) (j := 2) C d3_1 rfl (hw _ (List.mem_of_getElem? (i := 19) rfl)) O rfl ?_
  refine g_ifeqb (pc1 := 20) (pc2 := 7) C d3_4 (by decide) rfl rfl er (fun (c4 : ¬ (P)) => ?_) (fun (c4 : P) => ?_)
  ·
    refine g_aloadN (pc' := 21) C d3_20 rfl rfl rfl ?_
    refine g_dup (pc' := 22) C d3_21 rfl rfl ?_
    refine g_getO (pc' := 25) (j := 3) C d3_22 rfl (hw _ (List.mem_of_getElem? (i := 21) rfl)) O rfl ?_
    refine g_lloadN (pc' := 26) C d3_25 rfl rfl ?_
    refine g_ladd (pc' := 27) C d3_26 rfl ?_
    refine g_nameJ fun j1 e_j1 => ?_
    refine g_putO (pc' := 30) (j := 3) (ty := .long) (v' := (.long j1)) (fs' := [("com/example/infinite_marking/infinitemarking/analysis/LookAhead", "wanted", "Z", (.int wz)), ("com/example/infinite_marking/infinitemarking/analysis/LookAhead", "share", "J", (.long sh)), ("com/example/infinite_marking/infinitemarking/analysis/LookAhead", "running", "Z", (.int r)), ("com/example/infinite_marking/infinitemarking/analysis/LookAhead", "inOrder", "J", (.long j1)), ("com/example/infinite_marking/infinitemarking/analysis/LookAhead", "ahead", "J", (.long ah))]) C d3_27 rfl (hw _ (List.mem_of_getElem? (i := 21) rfl)) Via.refl O rfl (Or.inl (hw _ (List.mem_of_getElem? (i := 22) rfl))) (hw _ (List.mem_of_getElem? (i := 2) rfl)) (by decide) rfl rfl rfl (C.old (List.mem_cons_self ..)) fun h1 O Kh1 => ?_
    refine g_return C d3_30 (by decide) (by decide) ?_
    subst hQ
    exact ⟨rfl, _, _, by first | rw [if_pos c4] | rw [if_neg c4], by first | rw [if_pos c4] | rw [if_neg c4], by subst_vars; exact O⟩
  ·
    refine g_aloadN (pc' := 8) C d3_7 rfl rfl rfl ?_
    refine g_dup (pc' := 9) C d3_8 rfl rfl ?_
    refine g_getO (pc' := 12) (j := 4) C d3_9 rfl (hw _ (List.mem_of_getElem? (i := 33) rfl)) O rfl ?_
    refine g_lloadN (pc' := 13) C d3_12 rfl rfl ?_
    refine g_ladd (pc' := 14) C d3_13 rfl ?_
    refine g_nameJ fun j2 e_j2 => ?_
    refine g_putO (pc' := 17) (j := 4) (ty := .long) (v' := (.long j2)) (fs' := [("com/example/infinite_marking/infinitemarking/analysis/LookAhead", "wanted", "Z", (.int wz)), ("com/example/infinite_marking/infinitemarking/analysis/LookAhead", "share", "J", (.long sh)), ("com/example/infinite_marking/infinitemarking/analysis/LookAhead", "running", "Z", (.int r)), ("com/example/infinite_marking/infinitemarking/analysis/LookAhead", "inOrder", "J", (.long io)), ("com/example/infinite_marking/infinitemarking/analysis/LookAhead", "ahead", "J", (.long j2))]) C d3_14 rfl (hw _ (List.mem_of_getElem? (i := 33) rfl)) Via.refl O rfl (Or.inl (hw _ (List.mem_of_getElem? (i := 34) rfl))) (hw _ (List.mem_of_getElem? (i := 2) rfl)) (by decide) rfl rfl rfl (C.old (List.mem_cons_self ..)) fun h2 O Kh2 => ?_
    refine g_goto C d3_17 (by decide) (pc' := 30) rfl ?_
    refine g_return C d3_30 (by decide) (by decide) ?_
    subst hQ
    exact ⟨rfl, _, _, by first | rw [if_pos c4] | rw [if_neg c4], by first | rw [if_pos c4] | rw [if_neg c4], by subst_vars; exact O⟩
set_option maxRecDepth 65536 in
set_option maxHeartbeats 2000000 in
theorem con_isSpent (l : Launch) (Z : State) (a0 : Array Value) (hw : ∀ d ∈ tables_1, d.before a0 Z = true) (a : Addr) (wz : Int32) (PW : Prop) [Decidable PW] (ew : wz = b2i PW) (sh io ah : Int64) (r : Int32) (P : Prop) [Decidable P] (er : r = b2i P) (h : Heap) (O : Ob Z h a "com/example/infinite_marking/infinitemarking/analysis/LookAhead" [("com/example/infinite_marking/infinitemarking/analysis/LookAhead", "wanted", "Z", (.int wz)), ("com/example/infinite_marking/infinitemarking/analysis/LookAhead", "share", "J", (.long sh)), ("com/example/infinite_marking/infinitemarking/analysis/LookAhead", "running", "Z", (.int r)), ("com/example/infinite_marking/infinitemarking/analysis/LookAhead", "inOrder", "J", (.long io)), ("com/example/infinite_marking/infinitemarking/analysis/LookAhead", "ahead", "J", (.long ah))]) :
    Con l Z [] (⟨"com/example/infinite_marking/infinitemarking/analysis/LookAhead", "isSpent", "()Z"⟩ : MethodName) prog_29_method_4_code 1 (some .boolean) ({ frames := 0, cells := 0, slots := 0, locals := 0 } : Room) #[(.ref a)] h [] (fun v h' => v = some (.int (b2i (P ∧ (io + sh).toInt ≤ ah.toInt))) ∧ h' = h) := by
  refine Con.of_go (L0 := #[.val (.ref a)]) (plainFor_of_name (by first | (simp [plainName, overriddenIn]; done) | decide +kernel)) (locals_of rfl) fun W Q hQ hl C => ?_
  subst hl
  refine g_aloadN (pc' := 1) C d4_0 rfl rfl rfl ?_
  refine g_getO (pc' := 4) (j := 2) C d4_1 rfl (hw _ (List.mem_of_getElem? (i := 19) rfl)) O rfl ?_
  suffices K_4 : ∀ z1 : Int32, z1 = b2i ((P) ∧ (¬ (ah.toInt < (io + sh).toInt))) → Go W Q h 0 0 29 #[.val (.ref a)] [(.int z1)] by
    refine g_ifeqb (pc1 := 28) (pc2 := 7) C d4_4 (by decide) rfl rfl er (fun (c4 : ¬ (P)) => ?_) (fun (c4 : P) => ?_)
    ·
      refine g_iconst (pc' := 29) (z := (0 : Int32)) C d4_28 rfl rfl ?_
      exact K_4 (0 : Int32) ((rfl : (0 : Int32) = b2i False).trans (b2i_iff (iff_false_intro (fun y => c4 y.1)).symm))
    ·
      refine g_aloadN (pc' := 8) C d4_7 rfl rfl rfl ?_
      refine g_getO (pc' := 11) (j := 4) C d4_8 rfl (hw _ (List.mem_of_getElem? (i := 33) rfl)) O rfl ?_
      refine g_aloadN (pc' := 12) C d4_11 rfl rfl rfl ?_
      refine g_getO (pc' := 15) (j := 3) C d4_12 rfl (hw _ (List.mem_of_getElem? (i := 21) rfl)) O rfl ?_
      refine g_aloadN (pc' := 16) C d4_15 rfl rfl rfl ?_
      refine g_getO (pc' := 19) (j := 1) C d4_16 rfl (hw _ (List.mem_of_getElem? (i := 12) rfl)) O rfl ?_
      refine g_ladd (pc' := 20) C d4_19 rfl ?_
      refine g_lcmp (cd := .lt) (xi := ah.toInt) (yi := (io + sh).toInt) (pc' := 21) (pc1 := 28) (pc2 := 24) C d4_20 d4_21 rfl (by decide) rfl rfl rfl rfl (fun (c20 : ah.toInt < (io + sh).toInt) => ?_) (fun (c20 : ¬ (ah.toInt < (io + sh).toInt)) => ?_)
      ·
        refine g_iconst (pc' := 29) (z := (0 : Int32)) C d4_28 rfl rfl ?_
        exact K_4 (0 : Int32) ((rfl : (0 : Int32) = b2i False).trans (b2i_iff ((and_iff_right c4).trans (iff_false_intro (fun y => y c20))).symm))
      ·
        refine g_iconst (pc' := 25) (z := (1 : Int32)) C d4_24 rfl rfl ?_
        refine g_goto C d4_25 (by decide) (pc' := 29) rfl ?_
        exact K_4 (1 : Int32) ((rfl : (1 : Int32) = b2i True).trans (b2i_iff ((and_iff_right c4).trans (iff_true_intro c20)).symm))
  intro z1 e_z1
  refine g_retN C (by simp) d4_29 (by decide) (by decide) ?_
  subst hQ
  refine ⟨congrArg (fun z => some (Value.int z)) ?_, rfl⟩
  rw [e_z1, nar_b2i]
  refine b2i_iff ?_
  constructor <;> (rintro ⟨x1, x2⟩; exact ⟨x1, by omega⟩)
set_option maxRecDepth 65536 in
set_option maxHeartbeats 2000000 in
theorem con_begin (l : Launch) (Z : State) (a0 : Array Value) (hw : ∀ d ∈ tables_1, d.before a0 Z = true) (a : Addr) (wz : Int32) (PW : Prop) [Decidable PW] (ew : wz = b2i PW) (sh io ah : Int64) (r : Int32) (P : Prop) [Decidable P] (er : r = b2i P) (h : Heap) (O : Ob Z h a "com/example/infinite_marking/infinitemarking/analysis/LookAhead" [("com/example/infinite_marking/infinitemarking/analysis/LookAhead", "wanted", "Z", (.int wz)), ("com/example/infinite_marking/infinitemarking/analysis/LookAhead", "share", "J", (.long sh)), ("com/example/infinite_marking/infinitemarking/analysis/LookAhead", "running", "Z", (.int r)), ("com/example/infinite_marking/infinitemarking/analysis/LookAhead", "inOrder", "J", (.long io)), ("com/example/infinite_marking/infinitemarking/analysis/LookAhead", "ahead", "J", (.long ah))]) :
    Con l Z [] (⟨"com/example/infinite_marking/infinitemarking/analysis/LookAhead", "begin", "()Z"⟩ : MethodName) prog_29_method_6_code 2 (some .boolean) ({ frames := 0, cells := 0, slots := 0, locals := 0 } : Room) #[(.ref a)] h [a] (fun v h' => v = some (.int (b2i (¬ P))) ∧ Ob Z h' a "com/example/infinite_marking/infinitemarking/analysis/LookAhead" [("com/example/infinite_marking/infinitemarking/analysis/LookAhead", "wanted", "Z", (.int wz)), ("com/example/infinite_marking/infinitemarking/analysis/LookAhead", "share", "J", (.long sh)), ("com/example/infinite_marking/infinitemarking/analysis/LookAhead", "running", "Z", (.int (1 : Int32))), ("com/example/infinite_marking/infinitemarking/analysis/LookAhead", "inOrder", "J", (.long io)), ("com/example/infinite_marking/infinitemarking/analysis/LookAhead", "ahead", "J", (.long ah))]) := by
  refine Con.of_go (L0 := #[.val (.ref a), .unset]) (plainFor_of_name (by first | (simp [plainName, overriddenIn]; done) | decide +kernel)) (locals_of rfl) fun W Q hQ hl C => ?_
  subst hl
  refine g_aloadN (pc' := 1) C d5_0 rfl rfl rfl ?_
  refine g_getO (pc' := 4) (j := 2) C d5_1 rfl (hw _ (List.mem_of_getElem? (i := 19) rfl)) O rfl ?_
  suffices K_4 : ∀ z1 : Int32, z1 = b2i (¬ (P)) → Go W Q h 0 0 12 #[.val (.ref a), .unset] [(.int z1)] by
    refine g_ifneb (pc1 := 11) (pc2 := 7) C d5_4 (by decide) rfl rfl er (fun (c4 : P) => ?_) (fun (c4 : ¬ (P)) => ?_)
    ·
      refine g_iconst (pc' := 12) (z := (0 : Int32)) C d5_11 rfl rfl ?_
      exact K_4 (0 : Int32) ((rfl : (0 : Int32) = b2i False).trans (b2i_iff (iff_false_intro (fun y => y c4)).symm))
    ·
      refine g_iconst (pc' := 8) (z := (1 : Int32)) C d5_7 rfl rfl ?_
      refine g_goto C d5_8 (by decide) (pc' := 12) rfl ?_
      exact K_4 (1 : Int32) ((rfl : (1 : Int32) = b2i True).trans (b2i_iff (iff_true_intro c4).symm))
  intro z1 e_z1
  refine g_istoreN (pc' := 13) (L' := #[.val (.ref a), .val (.int z1)]) C d5_12 rfl rfl ?_
  refine g_aloadN (pc' := 14) C d5_13 rfl rfl rfl ?_
  refine g_iconst (pc' := 15) (z := (1 : Int32)) C d5_14 rfl rfl ?_
  refine g_putO (pc' := 18) (j := 2) (ty := .boolean) (v' := (.int (1 : Int32))) (fs' := [("com/example/infinite_marking/infinitemarking/analysis/LookAhead", "wanted", "Z", (.int wz)), ("com/example/infinite_marking/infinitemarking/analysis/LookAhead", "share", "J", (.long sh)), ("com/example/infinite_marking/infinitemarking/analysis/LookAhead", "running", "Z", (.int (1 : Int32))), ("com/example/infinite_marking/infinitemarking/analysis/LookAhead", "inOrder", "J", (.long io)), ("com/example/infinite_marking/infinitemarking/analysis/LookAhead", "ahead", "J", (.long ah))]) C d5_15 rfl (hw _ (List.mem_of_getElem? (i := 19) rfl)) Via.refl O rfl (Or.inl (hw _ (List.mem_of_getElem? (i := 20) rfl))) (hw _ (List.mem_of_getElem? (i := 2) rfl)) (by decide) rfl rfl rfl (C.old (List.mem_cons_self ..)) fun h1 O Kh1 => ?_
  refine g_iloadN (pc' := 19) C d5_18 rfl rfl ?_
  refine g_retN C (by simp) d5_19 (by decide) (by decide) ?_
  subst hQ
  exact ⟨congrArg (fun z => some (Value.int z)) (by rw [e_z1, nar_b2i]), O⟩
set_option maxRecDepth 65536 in
set_option maxHeartbeats 2000000 in
theorem con_end (l : Launch) (Z : State) (a0 : Array Value) (hw : ∀ d ∈ tables_1, d.before a0 Z = true) (a : Addr) (wz : Int32) (PW : Prop) [Decidable PW] (ew : wz = b2i PW) (sh io ah : Int64) (r : Int32) (P : Prop) [Decidable P] (er : r = b2i P) (h : Heap) (O : Ob Z h a "com/example/infinite_marking/infinitemarking/analysis/LookAhead" [("com/example/infinite_marking/infinitemarking/analysis/LookAhead", "wanted", "Z", (.int wz)), ("com/example/infinite_marking/infinitemarking/analysis/LookAhead", "share", "J", (.long sh)), ("com/example/infinite_marking/infinitemarking/analysis/LookAhead", "running", "Z", (.int r)), ("com/example/infinite_marking/infinitemarking/analysis/LookAhead", "inOrder", "J", (.long io)), ("com/example/infinite_marking/infinitemarking/analysis/LookAhead", "ahead", "J", (.long ah))]) :
    Con l Z [] (⟨"com/example/infinite_marking/infinitemarking/analysis/LookAhead", "end", "()V"⟩ : MethodName) prog_29_method_7_code 1 none ({ frames := 0, cells := 0, slots := 0, locals := 0 } : Room) #[(.ref a)] h [a] (fun v h' => v = none ∧ Ob Z h' a "com/example/infinite_marking/infinitemarking/analysis/LookAhead" [("com/example/infinite_marking/infinitemarking/analysis/LookAhead", "wanted", "Z", (.int wz)), ("com/example/infinite_marking/infinitemarking/analysis/LookAhead", "share", "J", (.long sh)), ("com/example/infinite_marking/infinitemarking/analysis/LookAhead", "running", "Z", (.int (0 : Int32))), ("com/example/infinite_marking/infinitemarking/analysis/LookAhead", "inOrder", "J", (.long io)), ("com/example/infinite_marking/infinitemarking/analysis/LookAhead", "ahead", "J", (.long ah))]) := by
  refine Con.of_go (L0 := #[.val (.ref a)]) (plainFor_of_name (by first | (simp [plainName, overriddenIn]; done) | decide +kernel)) (locals_of rfl) fun W Q hQ hl C => ?_
  subst hl
  refine g_aloadN (pc' := 1) C d6_0 rfl rfl rfl ?_
  refine g_iconst (pc' := 2) (z := (0 : Int32)) C d6_1 rfl rfl ?_
  refine g_putO (pc' := 5) (j := 2) (ty := .boolean) (v' := (.int (0 : Int32))) (fs' := [("com/example/infinite_marking/infinitemarking/analysis/LookAhead", "wanted", "Z", (.int wz)), ("com/example/infinite_marking/infinitemarking/analysis/LookAhead", "share", "J", (.long sh)), ("com/example/infinite_marking/infinitemarking/analysis/LookAhead", "running", "Z", (.int (0 : Int32))), ("com/example/infinite_marking/infinitemarking/analysis/LookAhead", "inOrder", "J", (.long io)), ("com/example/infinite_marking/infinitemarking/analysis/LookAhead", "ahead", "J", (.long ah))]) C d6_2 rfl (hw _ (List.mem_of_getElem? (i := 19) rfl)) Via.refl O rfl (Or.inl (hw _ (List.mem_of_getElem? (i := 20) rfl))) (hw _ (List.mem_of_getElem? (i := 2) rfl)) (by decide) rfl rfl rfl (C.old (List.mem_cons_self ..)) fun h1 O Kh1 => ?_
  refine g_return C d6_5 (by decide) (by decide) ?_
  subst hQ
  exact ⟨rfl, O⟩
set_option maxRecDepth 65536 in
set_option maxHeartbeats 2000000 in
theorem con_0 (l : Launch) (Z : State) (a0 : Array Value) (hw : ∀ d ∈ tables_1, d.before a0 Z = true) (p0 : Int32) (p1 p3 p5 p7 : Int64) (h : Heap)  :
    Con l Z tables_1 x code maxLocals ret room_1 #[(.int p0), (.long p1), (.long p3), (.long p5), (.long p7)] h [] (fun v _ => v = some (.int 1)) := by
  refine Con.of_go (L0 := #[.val (.int p0), .val (.long p1), .second, .val (.long p3), .second, .val (.long p5), .second, .val (.long p7), .second, .unset, .unset, .unset, .unset, .unset, .unset, .unset, .unset, .unset, .unset, .unset, .unset, .unset, .unset, .unset, .unset, .unset, .unset, .unset, .unset, .unset]) (plainFor_of_name (by first | (simp [plainName, overriddenIn]; done) | decide +kernel)) (locals_of rfl) fun W Q hQ hl C => ?_
  subst hl
  refine g_ldc2L (pc' := 3) C at_0 rfl (hw _ (List.mem_of_getElem? (i := 0) rfl)) ?_
  refine g_lstore (pc' := 5) (L' := #[.val (.int p0), .val (.long p1), .second, .val (.long p3), .second, .val (.long p5), .second, .val (.long p7), .second, .val (.long (1152921504606846975 : Int64)), .second, .unset, .unset, .unset, .unset, .unset, .unset, .unset, .unset, .unset, .unset, .unset, .unset, .unset, .unset, .unset, .unset, .unset, .unset, .unset]) C at_3 rfl rfl ?_
  refine g_lloadN (pc' := 6) C at_5 rfl rfl ?_
  refine g_lload (pc' := 8) C at_6 rfl rfl ?_
  refine g_land (pc' := 9) C at_8 rfl ?_
  refine g_nameJ fun j1 e_j1 => ?_
  refine g_lstore (pc' := 11) (L' := #[.val (.int p0), .val (.long p1), .second, .val (.long p3), .second, .val (.long p5), .second, .val (.long p7), .second, .val (.long (1152921504606846975 : Int64)), .second, .val (.long j1), .second, .unset, .unset, .unset, .unset, .unset, .unset, .unset, .unset, .unset, .unset, .unset, .unset, .unset, .unset, .unset, .unset, .unset]) C at_9 rfl rfl ?_
  refine g_lloadN (pc' := 12) C at_11 rfl rfl ?_
  refine g_lload (pc' := 14) C at_12 rfl rfl ?_
  refine g_land (pc' := 15) C at_14 rfl ?_
  refine g_nameJ fun j2 e_j2 => ?_
  refine g_lstore (pc' := 17) (L' := #[.val (.int p0), .val (.long p1), .second, .val (.long p3), .second, .val (.long p5), .second, .val (.long p7), .second, .val (.long (1152921504606846975 : Int64)), .second, .val (.long j1), .second, .val (.long j2), .second, .unset, .unset, .unset, .unset, .unset, .unset, .unset, .unset, .unset, .unset, .unset, .unset, .unset, .unset, .unset]) C at_15 rfl rfl ?_
  refine g_lload (pc' := 19) C at_17 rfl rfl ?_
  refine g_lload (pc' := 21) C at_19 rfl rfl ?_
  refine g_land (pc' := 22) C at_21 rfl ?_
  refine g_nameJ fun j3 e_j3 => ?_
  refine g_lstore (pc' := 24) (L' := #[.val (.int p0), .val (.long p1), .second, .val (.long p3), .second, .val (.long p5), .second, .val (.long p7), .second, .val (.long (1152921504606846975 : Int64)), .second, .val (.long j1), .second, .val (.long j2), .second, .val (.long j3), .second, .unset, .unset, .unset, .unset, .unset, .unset, .unset, .unset, .unset, .unset, .unset, .unset, .unset]) C at_22 rfl rfl ?_
  refine g_lload (pc' := 26) C at_24 rfl rfl ?_
  refine g_lload (pc' := 28) C at_26 rfl rfl ?_
  refine g_land (pc' := 29) C at_28 rfl ?_
  refine g_nameJ fun j4 e_j4 => ?_
  refine g_lstore (pc' := 31) (L' := #[.val (.int p0), .val (.long p1), .second, .val (.long p3), .second, .val (.long p5), .second, .val (.long p7), .second, .val (.long (1152921504606846975 : Int64)), .second, .val (.long j1), .second, .val (.long j2), .second, .val (.long j3), .second, .val (.long j4), .second, .unset, .unset, .unset, .unset, .unset, .unset, .unset, .unset, .unset, .unset, .unset]) C at_29 rfl rfl ?_
  refine g_iloadN (pc' := 32) C at_31 rfl rfl ?_
  refine g_iconst (pc' := 33) (z := (1 : Int32)) C at_32 rfl rfl ?_
  refine g_iand (pc' := 34) C at_33 rfl ?_
  suffices K_34 : ∀ z5 : Int32, z5 = b2i (¬ ((p0 &&& (1 : Int32)).toInt = 0)) → Go W Q h 0 0 42 #[.val (.int p0), .val (.long p1), .second, .val (.long p3), .second, .val (.long p5), .second, .val (.long p7), .second, .val (.long (1152921504606846975 : Int64)), .second, .val (.long j1), .second, .val (.long j2), .second, .val (.long j3), .second, .val (.long j4), .second, .unset, .unset, .unset, .unset, .unset, .unset, .unset, .unset, .unset, .unset, .unset] [(.int z5)] by
    refine g_if (xi := (p0 &&& (1 : Int32)).toInt) (pc1 := 41) (pc2 := 37) C at_34 (by decide) rfl rfl rfl (fun (c34 : (p0 &&& (1 : Int32)).toInt = 0) => ?_) (fun (c34 : ¬ ((p0 &&& (1 : Int32)).toInt = 0)) => ?_)
    ·
      refine g_iconst (pc' := 42) (z := (0 : Int32)) C at_41 rfl rfl ?_
      exact K_34 (0 : Int32) ((rfl : (0 : Int32) = b2i False).trans (b2i_iff (iff_false_intro (fun y => y c34)).symm))
    ·
      refine g_iconst (pc' := 38) (z := (1 : Int32)) C at_37 rfl rfl ?_
      refine g_goto C at_38 (by decide) (pc' := 42) rfl ?_
      exact K_34 (1 : Int32) ((rfl : (1 : Int32) = b2i True).trans (b2i_iff (iff_true_intro c34).symm))
  intro z5 e_z5
  refine g_istore (pc' := 44) (L' := #[.val (.int p0), .val (.long p1), .second, .val (.long p3), .second, .val (.long p5), .second, .val (.long p7), .second, .val (.long (1152921504606846975 : Int64)), .second, .val (.long j1), .second, .val (.long j2), .second, .val (.long j3), .second, .val (.long j4), .second, .val (.int z5), .unset, .unset, .unset, .unset, .unset, .unset, .unset, .unset, .unset, .unset]) C at_42 rfl rfl ?_
  refine g_iloadN (pc' := 45) C at_44 rfl rfl ?_
  refine g_iconst (pc' := 46) (z := (2 : Int32)) C at_45 rfl rfl ?_
  refine g_iand (pc' := 47) C at_46 rfl ?_
  suffices K_47 : ∀ z6 : Int32, z6 = b2i (¬ ((p0 &&& (2 : Int32)).toInt = 0)) → Go W Q h 0 0 55 #[.val (.int p0), .val (.long p1), .second, .val (.long p3), .second, .val (.long p5), .second, .val (.long p7), .second, .val (.long (1152921504606846975 : Int64)), .second, .val (.long j1), .second, .val (.long j2), .second, .val (.long j3), .second, .val (.long j4), .second, .val (.int z5), .unset, .unset, .unset, .unset, .unset, .unset, .unset, .unset, .unset, .unset] [(.int z6)] by
    refine g_if (xi := (p0 &&& (2 : Int32)).toInt) (pc1 := 54) (pc2 := 50) C at_47 (by decide) rfl rfl rfl (fun (c47 : (p0 &&& (2 : Int32)).toInt = 0) => ?_) (fun (c47 : ¬ ((p0 &&& (2 : Int32)).toInt = 0)) => ?_)
    ·
      refine g_iconst (pc' := 55) (z := (0 : Int32)) C at_54 rfl rfl ?_
      exact K_47 (0 : Int32) ((rfl : (0 : Int32) = b2i False).trans (b2i_iff (iff_false_intro (fun y => y c47)).symm))
    ·
      refine g_iconst (pc' := 51) (z := (1 : Int32)) C at_50 rfl rfl ?_
      refine g_goto C at_51 (by decide) (pc' := 55) rfl ?_
      exact K_47 (1 : Int32) ((rfl : (1 : Int32) = b2i True).trans (b2i_iff (iff_true_intro c47).symm))
  intro z6 e_z6
  refine g_istore (pc' := 57) (L' := #[.val (.int p0), .val (.long p1), .second, .val (.long p3), .second, .val (.long p5), .second, .val (.long p7), .second, .val (.long (1152921504606846975 : Int64)), .second, .val (.long j1), .second, .val (.long j2), .second, .val (.long j3), .second, .val (.long j4), .second, .val (.int z5), .val (.int z6), .unset, .unset, .unset, .unset, .unset, .unset, .unset, .unset, .unset]) C at_55 rfl rfl ?_
  refine g_iloadN (pc' := 58) C at_57 rfl rfl ?_
  refine g_iconst (pc' := 59) (z := (4 : Int32)) C at_58 rfl rfl ?_
  refine g_iand (pc' := 60) C at_59 rfl ?_
  suffices K_60 : ∀ z7 : Int32, z7 = b2i (¬ ((p0 &&& (4 : Int32)).toInt = 0)) → Go W Q h 0 0 68 #[.val (.int p0), .val (.long p1), .second, .val (.long p3), .second, .val (.long p5), .second, .val (.long p7), .second, .val (.long (1152921504606846975 : Int64)), .second, .val (.long j1), .second, .val (.long j2), .second, .val (.long j3), .second, .val (.long j4), .second, .val (.int z5), .val (.int z6), .unset, .unset, .unset, .unset, .unset, .unset, .unset, .unset, .unset] [(.int z7)] by
    refine g_if (xi := (p0 &&& (4 : Int32)).toInt) (pc1 := 67) (pc2 := 63) C at_60 (by decide) rfl rfl rfl (fun (c60 : (p0 &&& (4 : Int32)).toInt = 0) => ?_) (fun (c60 : ¬ ((p0 &&& (4 : Int32)).toInt = 0)) => ?_)
    ·
      refine g_iconst (pc' := 68) (z := (0 : Int32)) C at_67 rfl rfl ?_
      exact K_60 (0 : Int32) ((rfl : (0 : Int32) = b2i False).trans (b2i_iff (iff_false_intro (fun y => y c60)).symm))
    ·
      refine g_iconst (pc' := 64) (z := (1 : Int32)) C at_63 rfl rfl ?_
      refine g_goto C at_64 (by decide) (pc' := 68) rfl ?_
      exact K_60 (1 : Int32) ((rfl : (1 : Int32) = b2i True).trans (b2i_iff (iff_true_intro c60).symm))
  intro z7 e_z7
  refine g_istore (pc' := 70) (L' := #[.val (.int p0), .val (.long p1), .second, .val (.long p3), .second, .val (.long p5), .second, .val (.long p7), .second, .val (.long (1152921504606846975 : Int64)), .second, .val (.long j1), .second, .val (.long j2), .second, .val (.long j3), .second, .val (.long j4), .second, .val (.int z5), .val (.int z6), .val (.int z7), .unset, .unset, .unset, .unset, .unset, .unset, .unset, .unset]) C at_68 rfl rfl ?_
  refine g_iloadN (pc' := 71) C at_70 rfl rfl ?_
  refine g_bipush (pc' := 73) (z := (8 : Int32)) C at_71 rfl rfl ?_
  refine g_iand (pc' := 74) C at_73 rfl ?_
  suffices K_74 : ∀ z8 : Int32, z8 = b2i (¬ ((p0 &&& (8 : Int32)).toInt = 0)) → Go W Q h 0 0 82 #[.val (.int p0), .val (.long p1), .second, .val (.long p3), .second, .val (.long p5), .second, .val (.long p7), .second, .val (.long (1152921504606846975 : Int64)), .second, .val (.long j1), .second, .val (.long j2), .second, .val (.long j3), .second, .val (.long j4), .second, .val (.int z5), .val (.int z6), .val (.int z7), .unset, .unset, .unset, .unset, .unset, .unset, .unset, .unset] [(.int z8)] by
    refine g_if (xi := (p0 &&& (8 : Int32)).toInt) (pc1 := 81) (pc2 := 77) C at_74 (by decide) rfl rfl rfl (fun (c74 : (p0 &&& (8 : Int32)).toInt = 0) => ?_) (fun (c74 : ¬ ((p0 &&& (8 : Int32)).toInt = 0)) => ?_)
    ·
      refine g_iconst (pc' := 82) (z := (0 : Int32)) C at_81 rfl rfl ?_
      exact K_74 (0 : Int32) ((rfl : (0 : Int32) = b2i False).trans (b2i_iff (iff_false_intro (fun y => y c74)).symm))
    ·
      refine g_iconst (pc' := 78) (z := (1 : Int32)) C at_77 rfl rfl ?_
      refine g_goto C at_78 (by decide) (pc' := 82) rfl ?_
      exact K_74 (1 : Int32) ((rfl : (1 : Int32) = b2i True).trans (b2i_iff (iff_true_intro c74).symm))
  intro z8 e_z8
  refine g_istore (pc' := 84) (L' := #[.val (.int p0), .val (.long p1), .second, .val (.long p3), .second, .val (.long p5), .second, .val (.long p7), .second, .val (.long (1152921504606846975 : Int64)), .second, .val (.long j1), .second, .val (.long j2), .second, .val (.long j3), .second, .val (.long j4), .second, .val (.int z5), .val (.int z6), .val (.int z7), .val (.int z8), .unset, .unset, .unset, .unset, .unset, .unset, .unset]) C at_82 rfl rfl ?_
  refine g_new (pc' := 87) (k' := 1) (n' := 5) C at_84 rfl (hw _ (List.mem_of_getElem? (i := 1) rfl)) (hw _ (List.mem_of_getElem? (i := 2) rfl)) (hw _ (List.mem_of_getElem? (i := 3) rfl)) rfl rfl (by decide) (by decide) fun h1 a9 e_a9 Eh1 Xa9 Da9 w_a9 => ?_
  have Oa9 : Ob Z h1 a9 "com/example/infinite_marking/infinitemarking/analysis/LookAhead" [("com/example/infinite_marking/infinitemarking/analysis/LookAhead", "wanted", "Z", (.int (0 : Int32))), ("com/example/infinite_marking/infinitemarking/analysis/LookAhead", "share", "J", (.long (0 : Int64))), ("com/example/infinite_marking/infinitemarking/analysis/LookAhead", "running", "Z", (.int (0 : Int32))), ("com/example/infinite_marking/infinitemarking/analysis/LookAhead", "inOrder", "J", (.long (0 : Int64))), ("com/example/infinite_marking/infinitemarking/analysis/LookAhead", "ahead", "J", (.long (0 : Int64)))] := ⟨Xa9, by
    simp only [List.forall_mem_cons, List.not_mem_nil, false_implies, implies_true, and_true]
    exact ⟨Da9 (Or.inr (hw _ (List.mem_of_getElem? (i := 11) rfl))) (ty := .boolean) (by decide), Da9 (Or.inr (hw _ (List.mem_of_getElem? (i := 13) rfl))) (ty := .long) (by decide), Da9 (Or.inl (hw _ (List.mem_of_getElem? (i := 20) rfl))) (ty := .boolean) (by decide), Da9 (Or.inl (hw _ (List.mem_of_getElem? (i := 22) rfl))) (ty := .long) (by decide), Da9 (Or.inl (hw _ (List.mem_of_getElem? (i := 34) rfl))) (ty := .long) (by decide)⟩, dis_0 Z a0 hw⟩
  refine g_dup (pc' := 88) C at_87 rfl rfl ?_
  refine g_iload (pc' := 90) C at_88 rfl rfl ?_
  refine g_lload (pc' := 92) C at_90 rfl rfl ?_
  refine g_special (y := (⟨"com/example/infinite_marking/infinitemarking/analysis/LookAhead", "<init>", "(ZJ)V"⟩ : MethodName)) (a := a9) (pc' := 95) (k' := 1) (n' := 5) (S := [(.ref a9)]) (as := [(.int z5), (.long j1)]) C at_92 rfl rfl (hw _ (List.mem_of_getElem? (i := 4) rfl)) (hw _ (List.mem_of_getElem? (i := 5) rfl)) (hw _ (List.mem_of_getElem? (i := 3) rfl)) (hw _ (List.mem_of_getElem? (i := 6) rfl)) (by decide) (lenOf pd_0 rfl) (con_init W.l Z a0 hw a9 z5 (¬ ((p0 &&& (1 : Int32)).toInt = 0)) e_z5 j1 h1 Oa9) rfl rfl (Nat.le_of_ble_eq_true rfl) (Nat.le_of_ble_eq_true rfl) rfl rfl (Nat.le_of_ble_eq_true rfl) (Nat.le_of_ble_eq_true rfl) (allS w_a9 all0) fun vh2 h2 qh2 Kh2 => ?_
  obtain ⟨rfl, Oa9⟩ := qh2
  show Go W Q h2 1 5 95 #[.val (.int p0), .val (.long p1), .second, .val (.long p3), .second, .val (.long p5), .second, .val (.long p7), .second, .val (.long (1152921504606846975 : Int64)), .second, .val (.long j1), .second, .val (.long j2), .second, .val (.long j3), .second, .val (.long j4), .second, .val (.int z5), .val (.int z6), .val (.int z7), .val (.int z8), .unset, .unset, .unset, .unset, .unset, .unset, .unset] [(.ref a9)]
  refine g_astore (pc' := 97) (L' := #[.val (.int p0), .val (.long p1), .second, .val (.long p3), .second, .val (.long p5), .second, .val (.long p7), .second, .val (.long (1152921504606846975 : Int64)), .second, .val (.long j1), .second, .val (.long j2), .second, .val (.long j3), .second, .val (.long j4), .second, .val (.int z5), .val (.int z6), .val (.int z7), .val (.int z8), .val (.ref a9), .unset, .unset, .unset, .unset, .unset, .unset]) C at_95 rfl rfl rfl ?_
  refine g_aload (pc' := 99) C at_97 rfl rfl rfl ?_
  refine g_lload (pc' := 101) C at_99 rfl rfl ?_
  refine g_virtual (y := (⟨"com/example/infinite_marking/infinitemarking/analysis/LookAhead", "count", "(J)V"⟩ : MethodName)) (a := a9) (pc' := 104) (k' := 1) (n' := 5) (S := []) (as := [(.long j2)]) C at_101 rfl (hw _ (List.mem_of_getElem? (i := 14) rfl)) (hw _ (List.mem_of_getElem? (i := 16) rfl)) (hw _ (List.mem_of_getElem? (i := 3) rfl)) (hw _ (List.mem_of_getElem? (i := 18) rfl)) (hw _ (List.mem_of_getElem? (i := 15) rfl)) (hw _ (List.mem_of_getElem? (i := 17) rfl)) (by decide) Oa9.1 (lenOf pd_1 rfl) (con_count W.l Z a0 hw a9 z5 (¬ ((p0 &&& (1 : Int32)).toInt = 0)) e_z5 j1 (0 : Int64) (0 : Int64) (0 : Int32) False rfl j2 h2 Oa9) rfl rfl (Nat.le_of_ble_eq_true rfl) (Nat.le_of_ble_eq_true rfl) rfl rfl (Nat.le_of_ble_eq_true rfl) (Nat.le_of_ble_eq_true rfl) (allS w_a9 all0) fun vh3 h3 qh3 Kh3 => ?_
  obtain ⟨rfl, j10, j11, e_j10, e_j11, Oa9⟩ := qh3
  show Go W Q h3 1 5 104 #[.val (.int p0), .val (.long p1), .second, .val (.long p3), .second, .val (.long p5), .second, .val (.long p7), .second, .val (.long (1152921504606846975 : Int64)), .second, .val (.long j1), .second, .val (.long j2), .second, .val (.long j3), .second, .val (.long j4), .second, .val (.int z5), .val (.int z6), .val (.int z7), .val (.int z8), .val (.ref a9), .unset, .unset, .unset, .unset, .unset, .unset] []
  refine g_iload (pc' := 106) C at_104 rfl rfl ?_
  suffices K_106 : ∀ (h4 : Heap), ∀ z12 : Int32, z12 = b2i (¬ ((p0 &&& (2 : Int32)).toInt = 0)) → Ob Z h4 a9 "com/example/infinite_marking/infinitemarking/analysis/LookAhead" [("com/example/infinite_marking/infinitemarking/analysis/LookAhead", "wanted", "Z", (.int z5)), ("com/example/infinite_marking/infinitemarking/analysis/LookAhead", "share", "J", (.long j1)), ("com/example/infinite_marking/infinitemarking/analysis/LookAhead", "running", "Z", (.int z12)), ("com/example/infinite_marking/infinitemarking/analysis/LookAhead", "inOrder", "J", (.long j10)), ("com/example/infinite_marking/infinitemarking/analysis/LookAhead", "ahead", "J", (.long j11))] → Go W Q h4 1 5 115 #[.val (.int p0), .val (.long p1), .second, .val (.long p3), .second, .val (.long p5), .second, .val (.long p7), .second, .val (.long (1152921504606846975 : Int64)), .second, .val (.long j1), .second, .val (.long j2), .second, .val (.long j3), .second, .val (.long j4), .second, .val (.int z5), .val (.int z6), .val (.int z7), .val (.int z8), .val (.ref a9), .unset, .unset, .unset, .unset, .unset, .unset] [] by
    refine g_ifeqb (pc1 := 115) (pc2 := 109) C at_106 (by decide) rfl rfl e_z6 (fun (c106 : ¬ (¬ ((p0 &&& (2 : Int32)).toInt = 0))) => ?_) (fun (c106 : ¬ ((p0 &&& (2 : Int32)).toInt = 0)) => ?_)
    ·
      replace c106 : (p0 &&& (2 : Int32)).toInt = 0 := Decidable.not_not.mp c106
      exact K_106 h3 (0 : Int32) ((rfl : (0 : Int32) = b2i False).trans (b2i_iff (iff_false_intro (fun y => y c106)).symm)) Oa9
    ·
      refine g_aload (pc' := 111) C at_109 rfl rfl rfl ?_
      refine g_virtual (y := (⟨"com/example/infinite_marking/infinitemarking/analysis/LookAhead", "begin", "()Z"⟩ : MethodName)) (a := a9) (pc' := 114) (k' := 1) (n' := 5) (S := []) (as := []) C at_111 rfl (hw _ (List.mem_of_getElem? (i := 28) rfl)) (hw _ (List.mem_of_getElem? (i := 30) rfl)) (hw _ (List.mem_of_getElem? (i := 3) rfl)) (hw _ (List.mem_of_getElem? (i := 32) rfl)) (hw _ (List.mem_of_getElem? (i := 29) rfl)) (hw _ (List.mem_of_getElem? (i := 31) rfl)) (by decide) Oa9.1 (lenOf pd_2 rfl) (con_begin W.l Z a0 hw a9 z5 (¬ ((p0 &&& (1 : Int32)).toInt = 0)) e_z5 j1 j10 j11 (0 : Int32) False rfl h3 Oa9) rfl rfl (Nat.le_of_ble_eq_true rfl) (Nat.le_of_ble_eq_true rfl) rfl rfl (Nat.le_of_ble_eq_true rfl) (Nat.le_of_ble_eq_true rfl) (allS w_a9 all0) fun vh5 h5 qh5 Kh5 => ?_
      obtain ⟨rfl, Oa9⟩ := qh5
      show Go W Q h5 1 5 114 #[.val (.int p0), .val (.long p1), .second, .val (.long p3), .second, .val (.long p5), .second, .val (.long p7), .second, .val (.long (1152921504606846975 : Int64)), .second, .val (.long j1), .second, .val (.long j2), .second, .val (.long j3), .second, .val (.long j4), .second, .val (.int z5), .val (.int z6), .val (.int z7), .val (.int z8), .val (.ref a9), .unset, .unset, .unset, .unset, .unset, .unset] [(.int (b2i (¬ False)))]
      refine g_pop (pc' := 115) C at_114 rfl rfl ?_
      exact K_106 h5 (1 : Int32) ((rfl : (1 : Int32) = b2i True).trans (b2i_iff (iff_true_intro c106).symm)) Oa9
  intro h4
  intro z12 e_z12
  intro Oa9
  refine g_aload (pc' := 117) C at_115 rfl rfl rfl ?_
  refine g_lload (pc' := 119) C at_117 rfl rfl ?_
  refine g_virtual (y := (⟨"com/example/infinite_marking/infinitemarking/analysis/LookAhead", "count", "(J)V"⟩ : MethodName)) (a := a9) (pc' := 122) (k' := 1) (n' := 5) (S := []) (as := [(.long j3)]) C at_119 rfl (hw _ (List.mem_of_getElem? (i := 14) rfl)) (hw _ (List.mem_of_getElem? (i := 16) rfl)) (hw _ (List.mem_of_getElem? (i := 3) rfl)) (hw _ (List.mem_of_getElem? (i := 18) rfl)) (hw _ (List.mem_of_getElem? (i := 15) rfl)) (hw _ (List.mem_of_getElem? (i := 17) rfl)) (by decide) Oa9.1 (lenOf pd_1 rfl) (con_count W.l Z a0 hw a9 z5 (¬ ((p0 &&& (1 : Int32)).toInt = 0)) e_z5 j1 j10 j11 z12 (¬ ((p0 &&& (2 : Int32)).toInt = 0)) e_z12 j3 h4 Oa9) rfl rfl (Nat.le_of_ble_eq_true rfl) (Nat.le_of_ble_eq_true rfl) rfl rfl (Nat.le_of_ble_eq_true rfl) (Nat.le_of_ble_eq_true rfl) (allS w_a9 all0) fun vh6 h6 qh6 Kh6 => ?_
  obtain ⟨rfl, j13, j14, e_j13, e_j14, Oa9⟩ := qh6
  show Go W Q h6 1 5 122 #[.val (.int p0), .val (.long p1), .second, .val (.long p3), .second, .val (.long p5), .second, .val (.long p7), .second, .val (.long (1152921504606846975 : Int64)), .second, .val (.long j1), .second, .val (.long j2), .second, .val (.long j3), .second, .val (.long j4), .second, .val (.int z5), .val (.int z6), .val (.int z7), .val (.int z8), .val (.ref a9), .unset, .unset, .unset, .unset, .unset, .unset] []
  refine g_aload (pc' := 124) C at_122 rfl rfl rfl ?_
  refine g_lload (pc' := 126) C at_124 rfl rfl ?_
  refine g_virtual (y := (⟨"com/example/infinite_marking/infinitemarking/analysis/LookAhead", "count", "(J)V"⟩ : MethodName)) (a := a9) (pc' := 129) (k' := 1) (n' := 5) (S := []) (as := [(.long j4)]) C at_126 rfl (hw _ (List.mem_of_getElem? (i := 14) rfl)) (hw _ (List.mem_of_getElem? (i := 16) rfl)) (hw _ (List.mem_of_getElem? (i := 3) rfl)) (hw _ (List.mem_of_getElem? (i := 18) rfl)) (hw _ (List.mem_of_getElem? (i := 15) rfl)) (hw _ (List.mem_of_getElem? (i := 17) rfl)) (by decide) Oa9.1 (lenOf pd_1 rfl) (con_count W.l Z a0 hw a9 z5 (¬ ((p0 &&& (1 : Int32)).toInt = 0)) e_z5 j1 j13 j14 z12 (¬ ((p0 &&& (2 : Int32)).toInt = 0)) e_z12 j4 h6 Oa9) rfl rfl (Nat.le_of_ble_eq_true rfl) (Nat.le_of_ble_eq_true rfl) rfl rfl (Nat.le_of_ble_eq_true rfl) (Nat.le_of_ble_eq_true rfl) (allS w_a9 all0) fun vh7 h7 qh7 Kh7 => ?_
  obtain ⟨rfl, j15, j16, e_j15, e_j16, Oa9⟩ := qh7
  show Go W Q h7 1 5 129 #[.val (.int p0), .val (.long p1), .second, .val (.long p3), .second, .val (.long p5), .second, .val (.long p7), .second, .val (.long (1152921504606846975 : Int64)), .second, .val (.long j1), .second, .val (.long j2), .second, .val (.long j3), .second, .val (.long j4), .second, .val (.int z5), .val (.int z6), .val (.int z7), .val (.int z8), .val (.ref a9), .unset, .unset, .unset, .unset, .unset, .unset] []
  refine g_iload (pc' := 131) C at_129 rfl rfl ?_
  suffices K_131 : ∀ (h8 : Heap), ∀ (Bz17 : Bool) (z17 : Int32), Bz17 = decide (((p0 &&& (4 : Int32)).toInt = 0) ∧ (¬ ((p0 &&& (2 : Int32)).toInt = 0))) → z17 = b2i (Bz17 = true) → Ob Z h8 a9 "com/example/infinite_marking/infinitemarking/analysis/LookAhead" [("com/example/infinite_marking/infinitemarking/analysis/LookAhead", "wanted", "Z", (.int z5)), ("com/example/infinite_marking/infinitemarking/analysis/LookAhead", "share", "J", (.long j1)), ("com/example/infinite_marking/infinitemarking/analysis/LookAhead", "running", "Z", (.int z17)), ("com/example/infinite_marking/infinitemarking/analysis/LookAhead", "inOrder", "J", (.long j15)), ("com/example/infinite_marking/infinitemarking/analysis/LookAhead", "ahead", "J", (.long j16))] → Go W Q h8 1 5 139 #[.val (.int p0), .val (.long p1), .second, .val (.long p3), .second, .val (.long p5), .second, .val (.long p7), .second, .val (.long (1152921504606846975 : Int64)), .second, .val (.long j1), .second, .val (.long j2), .second, .val (.long j3), .second, .val (.long j4), .second, .val (.int z5), .val (.int z6), .val (.int z7), .val (.int z8), .val (.ref a9), .unset, .unset, .unset, .unset, .unset, .unset] [] by
    refine g_ifeqb (pc1 := 139) (pc2 := 134) C at_131 (by decide) rfl rfl e_z7 (fun (c131 : ¬ (¬ ((p0 &&& (4 : Int32)).toInt = 0))) => ?_) (fun (c131 : ¬ ((p0 &&& (4 : Int32)).toInt = 0)) => ?_)
    ·
      replace c131 : (p0 &&& (4 : Int32)).toInt = 0 := Decidable.not_not.mp c131
      exact K_131 h7 (decide (((p0 &&& (4 : Int32)).toInt = 0) ∧ (¬ ((p0 &&& (2 : Int32)).toInt = 0)))) z12 rfl (e_z12.trans (b2i_iff ((and_iff_right c131).symm.trans decide_eq_true_iff.symm))) Oa9
    ·
      refine g_aload (pc' := 136) C at_134 rfl rfl rfl ?_
      refine g_virtual (y := (⟨"com/example/infinite_marking/infinitemarking/analysis/LookAhead", "end", "()V"⟩ : MethodName)) (a := a9) (pc' := 139) (k' := 1) (n' := 5) (S := []) (as := []) C at_136 rfl (hw _ (List.mem_of_getElem? (i := 35) rfl)) (hw _ (List.mem_of_getElem? (i := 37) rfl)) (hw _ (List.mem_of_getElem? (i := 3) rfl)) (hw _ (List.mem_of_getElem? (i := 39) rfl)) (hw _ (List.mem_of_getElem? (i := 36) rfl)) (hw _ (List.mem_of_getElem? (i := 38) rfl)) (by decide) Oa9.1 (lenOf pd_3 rfl) (con_end W.l Z a0 hw a9 z5 (¬ ((p0 &&& (1 : Int32)).toInt = 0)) e_z5 j1 j15 j16 z12 (¬ ((p0 &&& (2 : Int32)).toInt = 0)) e_z12 h7 Oa9) rfl rfl (Nat.le_of_ble_eq_true rfl) (Nat.le_of_ble_eq_true rfl) rfl rfl (Nat.le_of_ble_eq_true rfl) (Nat.le_of_ble_eq_true rfl) (allS w_a9 all0) fun vh9 h9 qh9 Kh9 => ?_
      obtain ⟨rfl, Oa9⟩ := qh9
      show Go W Q h9 1 5 139 #[.val (.int p0), .val (.long p1), .second, .val (.long p3), .second, .val (.long p5), .second, .val (.long p7), .second, .val (.long (1152921504606846975 : Int64)), .second, .val (.long j1), .second, .val (.long j2), .second, .val (.long j3), .second, .val (.long j4), .second, .val (.int z5), .val (.int z6), .val (.int z7), .val (.int z8), .val (.ref a9), .unset, .unset, .unset, .unset, .unset, .unset] []
      exact K_131 h9 (decide (((p0 &&& (4 : Int32)).toInt = 0) ∧ (¬ ((p0 &&& (2 : Int32)).toInt = 0)))) (0 : Int32) rfl ((rfl : (0 : Int32) = b2i False).trans (b2i_iff ((iff_false_intro (fun y => c131 y.1)).symm.trans decide_eq_true_iff.symm))) Oa9
  intro h8
  intro Bz17 z17 bd_z17 e_z17
  have b_z17 : Bz17 = true ↔ (((p0 &&& (4 : Int32)).toInt = 0) ∧ (¬ ((p0 &&& (2 : Int32)).toInt = 0))) := by rw [bd_z17]; exact decide_eq_true_iff
  intro Oa9
  refine g_iload (pc' := 141) C at_139 rfl rfl ?_
  suffices K_141 : ∀ (h10 : Heap), ∀ z18 : Int32, z18 = b2i ((¬ ((p0 &&& (8 : Int32)).toInt = 0)) ∨ (Bz17 = true)) → Ob Z h10 a9 "com/example/infinite_marking/infinitemarking/analysis/LookAhead" [("com/example/infinite_marking/infinitemarking/analysis/LookAhead", "wanted", "Z", (.int z5)), ("com/example/infinite_marking/infinitemarking/analysis/LookAhead", "share", "J", (.long j1)), ("com/example/infinite_marking/infinitemarking/analysis/LookAhead", "running", "Z", (.int z18)), ("com/example/infinite_marking/infinitemarking/analysis/LookAhead", "inOrder", "J", (.long j15)), ("com/example/infinite_marking/infinitemarking/analysis/LookAhead", "ahead", "J", (.long j16))] → Go W Q h10 1 5 150 #[.val (.int p0), .val (.long p1), .second, .val (.long p3), .second, .val (.long p5), .second, .val (.long p7), .second, .val (.long (1152921504606846975 : Int64)), .second, .val (.long j1), .second, .val (.long j2), .second, .val (.long j3), .second, .val (.long j4), .second, .val (.int z5), .val (.int z6), .val (.int z7), .val (.int z8), .val (.ref a9), .unset, .unset, .unset, .unset, .unset, .unset] [] by
    refine g_ifeqb (pc1 := 150) (pc2 := 144) C at_141 (by decide) rfl rfl e_z8 (fun (c141 : ¬ (¬ ((p0 &&& (8 : Int32)).toInt = 0))) => ?_) (fun (c141 : ¬ ((p0 &&& (8 : Int32)).toInt = 0)) => ?_)
    ·
      replace c141 : (p0 &&& (8 : Int32)).toInt = 0 := Decidable.not_not.mp c141
      exact K_141 h8 z17 (e_z17.trans (b2i_iff (or_iff_right (fun y => y c141)).symm)) Oa9
    ·
      refine g_aload (pc' := 146) C at_144 rfl rfl rfl ?_
      refine g_virtual (y := (⟨"com/example/infinite_marking/infinitemarking/analysis/LookAhead", "begin", "()Z"⟩ : MethodName)) (a := a9) (pc' := 149) (k' := 1) (n' := 5) (S := []) (as := []) C at_146 rfl (hw _ (List.mem_of_getElem? (i := 28) rfl)) (hw _ (List.mem_of_getElem? (i := 30) rfl)) (hw _ (List.mem_of_getElem? (i := 3) rfl)) (hw _ (List.mem_of_getElem? (i := 32) rfl)) (hw _ (List.mem_of_getElem? (i := 29) rfl)) (hw _ (List.mem_of_getElem? (i := 31) rfl)) (by decide) Oa9.1 (lenOf pd_2 rfl) (con_begin W.l Z a0 hw a9 z5 (¬ ((p0 &&& (1 : Int32)).toInt = 0)) e_z5 j1 j15 j16 z17 (Bz17 = true) e_z17 h8 Oa9) rfl rfl (Nat.le_of_ble_eq_true rfl) (Nat.le_of_ble_eq_true rfl) rfl rfl (Nat.le_of_ble_eq_true rfl) (Nat.le_of_ble_eq_true rfl) (allS w_a9 all0) fun vh11 h11 qh11 Kh11 => ?_
      obtain ⟨rfl, Oa9⟩ := qh11
      show Go W Q h11 1 5 149 #[.val (.int p0), .val (.long p1), .second, .val (.long p3), .second, .val (.long p5), .second, .val (.long p7), .second, .val (.long (1152921504606846975 : Int64)), .second, .val (.long j1), .second, .val (.long j2), .second, .val (.long j3), .second, .val (.long j4), .second, .val (.int z5), .val (.int z6), .val (.int z7), .val (.int z8), .val (.ref a9), .unset, .unset, .unset, .unset, .unset, .unset] [(.int (b2i (¬ (Bz17 = true))))]
      refine g_pop (pc' := 150) C at_149 rfl rfl ?_
      exact K_141 h11 (1 : Int32) ((rfl : (1 : Int32) = b2i True).trans (b2i_iff (iff_true_intro (Or.inl c141)).symm)) Oa9
  intro h10
  intro z18 e_z18
  intro Oa9
  refine g_iload (pc' := 152) C at_150 rfl rfl ?_
  suffices K_152 : ∀ (Bz19 : Bool) (z19 : Int32), Bz19 = decide ((((p0 &&& (2 : Int32)).toInt = 0) ∧ (¬ ((p0 &&& (8 : Int32)).toInt = 0))) ∨ ((¬ ((p0 &&& (2 : Int32)).toInt = 0)) ∧ (((p0 &&& (4 : Int32)).toInt = 0) ∨ (¬ ((p0 &&& (8 : Int32)).toInt = 0))))) → z19 = b2i (Bz19 = true) → Go W Q h10 1 5 170 #[.val (.int p0), .val (.long p1), .second, .val (.long p3), .second, .val (.long p5), .second, .val (.long p7), .second, .val (.long (1152921504606846975 : Int64)), .second, .val (.long j1), .second, .val (.long j2), .second, .val (.long j3), .second, .val (.long j4), .second, .val (.int z5), .val (.int z6), .val (.int z7), .val (.int z8), .val (.ref a9), .unset, .unset, .unset, .unset, .unset, .unset] [(.int z19)] by
    refine g_ifeqb (pc1 := 160) (pc2 := 155) C at_152 (by decide) rfl rfl e_z6 (fun (c152 : ¬ (¬ ((p0 &&& (2 : Int32)).toInt = 0))) => ?_) (fun (c152 : ¬ ((p0 &&& (2 : Int32)).toInt = 0)) => ?_)
    ·
      replace c152 : (p0 &&& (2 : Int32)).toInt = 0 := Decidable.not_not.mp c152
      refine g_iload (pc' := 162) C at_160 rfl rfl ?_
      refine g_ifeqb (pc1 := 169) (pc2 := 165) C at_162 (by decide) rfl rfl e_z8 (fun (c162 : ¬ (¬ ((p0 &&& (8 : Int32)).toInt = 0))) => ?_) (fun (c162 : ¬ ((p0 &&& (8 : Int32)).toInt = 0)) => ?_)
      ·
        replace c162 : (p0 &&& (8 : Int32)).toInt = 0 := Decidable.not_not.mp c162
        refine g_iconst (pc' := 170) (z := (0 : Int32)) C at_169 rfl rfl ?_
        exact K_152 (decide ((((p0 &&& (2 : Int32)).toInt = 0) ∧ (¬ ((p0 &&& (8 : Int32)).toInt = 0))) ∨ ((¬ ((p0 &&& (2 : Int32)).toInt = 0)) ∧ (((p0 &&& (4 : Int32)).toInt = 0) ∨ (¬ ((p0 &&& (8 : Int32)).toInt = 0)))))) (0 : Int32) rfl ((rfl : (0 : Int32) = b2i False).trans (b2i_iff ((((or_iff_left (fun y => (fun y => y c152) y.1)).trans (and_iff_right c152)).trans (iff_false_intro (fun y => y c162))).symm.trans decide_eq_true_iff.symm)))
      ·
        refine g_iconst (pc' := 166) (z := (1 : Int32)) C at_165 rfl rfl ?_
        refine g_goto C at_166 (by decide) (pc' := 170) rfl ?_
        exact K_152 (decide ((((p0 &&& (2 : Int32)).toInt = 0) ∧ (¬ ((p0 &&& (8 : Int32)).toInt = 0))) ∨ ((¬ ((p0 &&& (2 : Int32)).toInt = 0)) ∧ (((p0 &&& (4 : Int32)).toInt = 0) ∨ (¬ ((p0 &&& (8 : Int32)).toInt = 0)))))) (1 : Int32) rfl ((rfl : (1 : Int32) = b2i True).trans (b2i_iff ((((or_iff_left (fun y => (fun y => y c152) y.1)).trans (and_iff_right c152)).trans (iff_true_intro c162)).symm.trans decide_eq_true_iff.symm)))
    ·
      refine g_iload (pc' := 157) C at_155 rfl rfl ?_
      refine g_ifeqb (pc1 := 165) (pc2 := 160) C at_157 (by decide) rfl rfl e_z7 (fun (c157 : ¬ (¬ ((p0 &&& (4 : Int32)).toInt = 0))) => ?_) (fun (c157 : ¬ ((p0 &&& (4 : Int32)).toInt = 0)) => ?_)
      ·
        replace c157 : (p0 &&& (4 : Int32)).toInt = 0 := Decidable.not_not.mp c157
        refine g_iconst (pc' := 166) (z := (1 : Int32)) C at_165 rfl rfl ?_
        refine g_goto C at_166 (by decide) (pc' := 170) rfl ?_
        exact K_152 (decide ((((p0 &&& (2 : Int32)).toInt = 0) ∧ (¬ ((p0 &&& (8 : Int32)).toInt = 0))) ∨ ((¬ ((p0 &&& (2 : Int32)).toInt = 0)) ∧ (((p0 &&& (4 : Int32)).toInt = 0) ∨ (¬ ((p0 &&& (8 : Int32)).toInt = 0)))))) (1 : Int32) rfl ((rfl : (1 : Int32) = b2i True).trans (b2i_iff ((((or_iff_right (fun y => c152 y.1)).trans (and_iff_right c152)).trans (iff_true_intro (Or.inl c157))).symm.trans decide_eq_true_iff.symm)))
      ·
        refine g_iload (pc' := 162) C at_160 rfl rfl ?_
        refine g_ifeqb (pc1 := 169) (pc2 := 165) C at_162 (by decide) rfl rfl e_z8 (fun (c162 : ¬ (¬ ((p0 &&& (8 : Int32)).toInt = 0))) => ?_) (fun (c162 : ¬ ((p0 &&& (8 : Int32)).toInt = 0)) => ?_)
        ·
          replace c162 : (p0 &&& (8 : Int32)).toInt = 0 := Decidable.not_not.mp c162
          refine g_iconst (pc' := 170) (z := (0 : Int32)) C at_169 rfl rfl ?_
          exact K_152 (decide ((((p0 &&& (2 : Int32)).toInt = 0) ∧ (¬ ((p0 &&& (8 : Int32)).toInt = 0))) ∨ ((¬ ((p0 &&& (2 : Int32)).toInt = 0)) ∧ (((p0 &&& (4 : Int32)).toInt = 0) ∨ (¬ ((p0 &&& (8 : Int32)).toInt = 0)))))) (0 : Int32) rfl ((rfl : (0 : Int32) = b2i False).trans (b2i_iff ((((or_iff_right (fun y => c152 y.1)).trans (and_iff_right c152)).trans ((or_iff_right c157).trans (iff_false_intro (fun y => y c162)))).symm.trans decide_eq_true_iff.symm)))
        ·
          refine g_iconst (pc' := 166) (z := (1 : Int32)) C at_165 rfl rfl ?_
          refine g_goto C at_166 (by decide) (pc' := 170) rfl ?_
          exact K_152 (decide ((((p0 &&& (2 : Int32)).toInt = 0) ∧ (¬ ((p0 &&& (8 : Int32)).toInt = 0))) ∨ ((¬ ((p0 &&& (2 : Int32)).toInt = 0)) ∧ (((p0 &&& (4 : Int32)).toInt = 0) ∨ (¬ ((p0 &&& (8 : Int32)).toInt = 0)))))) (1 : Int32) rfl ((rfl : (1 : Int32) = b2i True).trans (b2i_iff ((((or_iff_right (fun y => c152 y.1)).trans (and_iff_right c152)).trans ((or_iff_right c157).trans (iff_true_intro c162))).symm.trans decide_eq_true_iff.symm)))
  intro Bz19 z19 bd_z19 e_z19
  have b_z19 : Bz19 = true ↔ ((((p0 &&& (2 : Int32)).toInt = 0) ∧ (¬ ((p0 &&& (8 : Int32)).toInt = 0))) ∨ ((¬ ((p0 &&& (2 : Int32)).toInt = 0)) ∧ (((p0 &&& (4 : Int32)).toInt = 0) ∨ (¬ ((p0 &&& (8 : Int32)).toInt = 0))))) := by rw [bd_z19]; exact decide_eq_true_iff
  refine g_istore (pc' := 172) (L' := #[.val (.int p0), .val (.long p1), .second, .val (.long p3), .second, .val (.long p5), .second, .val (.long p7), .second, .val (.long (1152921504606846975 : Int64)), .second, .val (.long j1), .second, .val (.long j2), .second, .val (.long j3), .second, .val (.long j4), .second, .val (.int z5), .val (.int z6), .val (.int z7), .val (.int z8), .val (.ref a9), .val (.int z19), .unset, .unset, .unset, .unset, .unset]) C at_170 rfl rfl ?_
  refine g_iload (pc' := 174) C at_172 rfl rfl ?_
  suffices K_174 : ∀ j20 : Int64, j20 = (if (p0 &&& (2 : Int32)).toInt = 0 then (0 : Int64) else (j3 + j4)) → Go W Q h10 1 5 186 #[.val (.int p0), .val (.long p1), .second, .val (.long p3), .second, .val (.long p5), .second, .val (.long p7), .second, .val (.long (1152921504606846975 : Int64)), .second, .val (.long j1), .second, .val (.long j2), .second, .val (.long j3), .second, .val (.long j4), .second, .val (.int z5), .val (.int z6), .val (.int z7), .val (.int z8), .val (.ref a9), .val (.int z19), .unset, .unset, .unset, .unset, .unset] [(.long j20)] by
    refine g_ifeqb (pc1 := 185) (pc2 := 177) C at_174 (by decide) rfl rfl e_z6 (fun (c174 : ¬ (¬ ((p0 &&& (2 : Int32)).toInt = 0))) => ?_) (fun (c174 : ¬ ((p0 &&& (2 : Int32)).toInt = 0)) => ?_)
    ·
      replace c174 : (p0 &&& (2 : Int32)).toInt = 0 := Decidable.not_not.mp c174
      refine g_lconst (pc' := 186) (z := (0 : Int64)) C at_185 rfl rfl ?_
      exact K_174 (0 : Int64) ((if_pos c174).symm)
    ·
      refine g_lload (pc' := 179) C at_177 rfl rfl ?_
      refine g_lload (pc' := 181) C at_179 rfl rfl ?_
      refine g_ladd (pc' := 182) C at_181 rfl ?_
      refine g_goto C at_182 (by decide) (pc' := 186) rfl ?_
      exact K_174 (j3 + j4) ((if_neg c174).symm)
  intro j20 e_j20
  refine g_lstore (pc' := 188) (L' := #[.val (.int p0), .val (.long p1), .second, .val (.long p3), .second, .val (.long p5), .second, .val (.long p7), .second, .val (.long (1152921504606846975 : Int64)), .second, .val (.long j1), .second, .val (.long j2), .second, .val (.long j3), .second, .val (.long j4), .second, .val (.int z5), .val (.int z6), .val (.int z7), .val (.int z8), .val (.ref a9), .val (.int z19), .val (.long j20), .second, .unset, .unset, .unset]) C at_186 rfl rfl ?_
  refine g_iload (pc' := 190) C at_188 rfl rfl ?_
  suffices K_190 : ∀ j21 : Int64, j21 = (if (p0 &&& (2 : Int32)).toInt = 0 then ((j2 + j3) + j4) else j2) → Go W Q h10 1 5 206 #[.val (.int p0), .val (.long p1), .second, .val (.long p3), .second, .val (.long p5), .second, .val (.long p7), .second, .val (.long (1152921504606846975 : Int64)), .second, .val (.long j1), .second, .val (.long j2), .second, .val (.long j3), .second, .val (.long j4), .second, .val (.int z5), .val (.int z6), .val (.int z7), .val (.int z8), .val (.ref a9), .val (.int z19), .val (.long j20), .second, .unset, .unset, .unset] [(.long j21)] by
    refine g_ifeqb (pc1 := 198) (pc2 := 193) C at_190 (by decide) rfl rfl e_z6 (fun (c190 : ¬ (¬ ((p0 &&& (2 : Int32)).toInt = 0))) => ?_) (fun (c190 : ¬ ((p0 &&& (2 : Int32)).toInt = 0)) => ?_)
    ·
      replace c190 : (p0 &&& (2 : Int32)).toInt = 0 := Decidable.not_not.mp c190
      refine g_lload (pc' := 200) C at_198 rfl rfl ?_
      refine g_lload (pc' := 202) C at_200 rfl rfl ?_
      refine g_ladd (pc' := 203) C at_202 rfl ?_
      refine g_lload (pc' := 205) C at_203 rfl rfl ?_
      refine g_ladd (pc' := 206) C at_205 rfl ?_
      exact K_190 ((j2 + j3) + j4) ((if_pos c190).symm)
    ·
      refine g_lload (pc' := 195) C at_193 rfl rfl ?_
      refine g_goto C at_195 (by decide) (pc' := 206) rfl ?_
      exact K_190 j2 ((if_neg c190).symm)
  intro j21 e_j21
  refine g_lstore (pc' := 208) (L' := #[.val (.int p0), .val (.long p1), .second, .val (.long p3), .second, .val (.long p5), .second, .val (.long p7), .second, .val (.long (1152921504606846975 : Int64)), .second, .val (.long j1), .second, .val (.long j2), .second, .val (.long j3), .second, .val (.long j4), .second, .val (.int z5), .val (.int z6), .val (.int z7), .val (.int z8), .val (.ref a9), .val (.int z19), .val (.long j20), .second, .val (.long j21), .second, .unset]) C at_206 rfl rfl ?_
  refine g_iload (pc' := 210) C at_208 rfl rfl ?_
  suffices K_210 : ∀ z22 : Int32, z22 = b2i ((Bz19 = true) ∧ (¬ (j20.toInt < (j21 + j1).toInt))) → Go W Q h10 1 5 229 #[.val (.int p0), .val (.long p1), .second, .val (.long p3), .second, .val (.long p5), .second, .val (.long p7), .second, .val (.long (1152921504606846975 : Int64)), .second, .val (.long j1), .second, .val (.long j2), .second, .val (.long j3), .second, .val (.long j4), .second, .val (.int z5), .val (.int z6), .val (.int z7), .val (.int z8), .val (.ref a9), .val (.int z19), .val (.long j20), .second, .val (.long j21), .second, .unset] [(.int z22)] by
    refine g_ifeqb (pc1 := 228) (pc2 := 213) C at_210 (by decide) rfl rfl e_z19 (fun (c210 : ¬ (Bz19 = true)) => ?_) (fun (c210 : Bz19 = true) => ?_)
    ·
      refine g_iconst (pc' := 229) (z := (0 : Int32)) C at_228 rfl rfl ?_
      exact K_210 (0 : Int32) ((rfl : (0 : Int32) = b2i False).trans (b2i_iff (iff_false_intro (fun y => c210 y.1)).symm))
    ·
      refine g_lload (pc' := 215) C at_213 rfl rfl ?_
      refine g_lload (pc' := 217) C at_215 rfl rfl ?_
      refine g_lload (pc' := 219) C at_217 rfl rfl ?_
      refine g_ladd (pc' := 220) C at_219 rfl ?_
      refine g_lcmp (cd := .lt) (xi := j20.toInt) (yi := (j21 + j1).toInt) (pc' := 221) (pc1 := 228) (pc2 := 224) C at_220 at_221 rfl (by decide) rfl rfl rfl rfl (fun (c220 : j20.toInt < (j21 + j1).toInt) => ?_) (fun (c220 : ¬ (j20.toInt < (j21 + j1).toInt)) => ?_)
      ·
        refine g_iconst (pc' := 229) (z := (0 : Int32)) C at_228 rfl rfl ?_
        exact K_210 (0 : Int32) ((rfl : (0 : Int32) = b2i False).trans (b2i_iff ((and_iff_right c210).trans (iff_false_intro (fun y => y c220))).symm))
      ·
        refine g_iconst (pc' := 225) (z := (1 : Int32)) C at_224 rfl rfl ?_
        refine g_goto C at_225 (by decide) (pc' := 229) rfl ?_
        exact K_210 (1 : Int32) ((rfl : (1 : Int32) = b2i True).trans (b2i_iff ((and_iff_right c210).trans (iff_true_intro c220)).symm))
  intro z22 e_z22
  refine g_istore (pc' := 231) (L' := #[.val (.int p0), .val (.long p1), .second, .val (.long p3), .second, .val (.long p5), .second, .val (.long p7), .second, .val (.long (1152921504606846975 : Int64)), .second, .val (.long j1), .second, .val (.long j2), .second, .val (.long j3), .second, .val (.long j4), .second, .val (.int z5), .val (.int z6), .val (.int z7), .val (.int z8), .val (.ref a9), .val (.int z19), .val (.long j20), .second, .val (.long j21), .second, .val (.int z22)]) C at_229 rfl rfl ?_
  refine g_aload (pc' := 233) C at_231 rfl rfl rfl ?_
  refine g_virtualP (y := (⟨"com/example/infinite_marking/infinitemarking/analysis/LookAhead", "isSpent", "()Z"⟩ : MethodName)) (a := a9) (pc' := 236) (k' := 1) (n' := 5) (S := []) (as := []) C at_233 rfl (hw _ (List.mem_of_getElem? (i := 23) rfl)) (hw _ (List.mem_of_getElem? (i := 25) rfl)) (hw _ (List.mem_of_getElem? (i := 3) rfl)) (hw _ (List.mem_of_getElem? (i := 27) rfl)) (hw _ (List.mem_of_getElem? (i := 24) rfl)) (hw _ (List.mem_of_getElem? (i := 26) rfl)) (by decide) Oa9.1 (lenOf pd_2 rfl) (con_isSpent W.l Z a0 hw a9 z5 (¬ ((p0 &&& (1 : Int32)).toInt = 0)) e_z5 j1 j15 j16 z18 ((¬ ((p0 &&& (8 : Int32)).toInt = 0)) ∨ (Bz17 = true)) e_z18 h10 Oa9) rfl rfl (Nat.le_of_ble_eq_true rfl) (Nat.le_of_ble_eq_true rfl) rfl rfl (Nat.le_of_ble_eq_true rfl) (Nat.le_of_ble_eq_true rfl) (S1 := [(.int (b2i (((¬ ((p0 &&& (8 : Int32)).toInt = 0)) ∨ (Bz17 = true)) ∧ (j15 + j1).toInt ≤ j16.toInt)))]) rfl ?_
  refine g_iload (pc' := 238) C at_236 rfl rfl ?_
  suffices K_238 : ∀ (Bz23 : Bool) (z23 : Int32), Bz23 = decide (((((¬ ((p0 &&& (8 : Int32)).toInt = 0)) ∨ (Bz17 = true)) ∧ (j15 + j1).toInt ≤ j16.toInt)) ↔ ((Bz19 = true) ∧ (¬ (j20.toInt < (j21 + j1).toInt)))) → z23 = b2i (Bz23 = true) → Go W Q h10 1 5 246 #[.val (.int p0), .val (.long p1), .second, .val (.long p3), .second, .val (.long p5), .second, .val (.long p7), .second, .val (.long (1152921504606846975 : Int64)), .second, .val (.long j1), .second, .val (.long j2), .second, .val (.long j3), .second, .val (.long j4), .second, .val (.int z5), .val (.int z6), .val (.int z7), .val (.int z8), .val (.ref a9), .val (.int z19), .val (.long j20), .second, .val (.long j21), .second, .val (.int z22)] [(.int z23)] by
    refine g_icmpbne (pc1 := 245) (pc2 := 241) C at_238 (by decide) rfl rfl rfl e_z22 (fun (c238 : ¬ (((((¬ ((p0 &&& (8 : Int32)).toInt = 0)) ∨ (Bz17 = true)) ∧ (j15 + j1).toInt ≤ j16.toInt)) ↔ ((Bz19 = true) ∧ (¬ (j20.toInt < (j21 + j1).toInt))))) => ?_) (fun (c238 : ((((¬ ((p0 &&& (8 : Int32)).toInt = 0)) ∨ (Bz17 = true)) ∧ (j15 + j1).toInt ≤ j16.toInt)) ↔ ((Bz19 = true) ∧ (¬ (j20.toInt < (j21 + j1).toInt)))) => ?_)
    ·
      refine g_iconst (pc' := 246) (z := (0 : Int32)) C at_245 rfl rfl ?_
      exact K_238 (decide (((((¬ ((p0 &&& (8 : Int32)).toInt = 0)) ∨ (Bz17 = true)) ∧ (j15 + j1).toInt ≤ j16.toInt)) ↔ ((Bz19 = true) ∧ (¬ (j20.toInt < (j21 + j1).toInt))))) (0 : Int32) rfl ((rfl : (0 : Int32) = b2i False).trans (b2i_iff ((iff_false_intro c238).symm.trans decide_eq_true_iff.symm)))
    ·
      refine g_iconst (pc' := 242) (z := (1 : Int32)) C at_241 rfl rfl ?_
      refine g_goto C at_242 (by decide) (pc' := 246) rfl ?_
      exact K_238 (decide (((((¬ ((p0 &&& (8 : Int32)).toInt = 0)) ∨ (Bz17 = true)) ∧ (j15 + j1).toInt ≤ j16.toInt)) ↔ ((Bz19 = true) ∧ (¬ (j20.toInt < (j21 + j1).toInt))))) (1 : Int32) rfl ((rfl : (1 : Int32) = b2i True).trans (b2i_iff ((iff_true_intro c238).symm.trans decide_eq_true_iff.symm)))
  intro Bz23 z23 bd_z23 e_z23
  have b_z23 : Bz23 = true ↔ (((((¬ ((p0 &&& (8 : Int32)).toInt = 0)) ∨ (Bz17 = true)) ∧ (j15 + j1).toInt ≤ j16.toInt)) ↔ ((Bz19 = true) ∧ (¬ (j20.toInt < (j21 + j1).toInt)))) := by rw [bd_z23]; exact decide_eq_true_iff
  refine g_retN C (by simp) at_246 (by decide) (by decide) ?_
  subst hQ
  refine congrArg (fun z => some (Value.int z)) (?_ : nar .boolean z23 = 1)
  rw [e_z23, nar_b2i]
  refine b2i_pos ?_
  rw [b_z23]
  rw [b_z17, b_z19]
  have x10 : j10 = j2 := by rw [e_j10, if_neg id, Int64.zero_add]
  have x11 : j11 = 0 := by rw [e_j11, if_neg id]
  by_cases c : (p0 &&& (2 : Int32)).toInt = 0
  · rw [if_neg (not_not_intro c)] at e_j13 e_j14 e_j15 e_j16
    rw [if_pos c] at e_j20 e_j21
    rw [e_j15, e_j16, e_j13, e_j14, e_j20, e_j21, x10, x11]
    omega
  · rw [if_pos c] at e_j13 e_j14 e_j15 e_j16
    rw [if_neg c] at e_j20 e_j21
    rw [e_j15, e_j16, e_j13, e_j14, e_j20, e_j21, x10, x11, Int64.zero_add]
    omega
set_option maxRecDepth 65536 in
set_option maxHeartbeats 2000000 in
theorem comes_1 {Post : Tables → Env → Array Value → State → Outcome → State → Prop} (hpost : ∀ tb e args s v u, (limb_1_1.after args s (.returned v) u = true ∧ limb_1_2.after args s (.returned v) u = true ∧ True) → FrameEnd s (.returned v) u (Jvm.fieldLocs frame_1_writes args s ++ Jvm.arrayLocs frame_1_arrays args s ++ Jvm.staticLocs frame_1_statics s) 16 128 → Post tb e args s (.returned v) u) :
    ArmFor flags0 classFile x code maxLocals ret World_1 tables_1 room_1 Calls_1 rest_1 Pre_1 Post := by
  intro l hfl _ _ p e ha hc hk s m args below hf hA hF happ hP
  obtain ⟨hcalls, hrest, hpre⟩ := hP
  obtain ⟨-, -, -, hnamed, -, -, -, hat⟩ := (Spec.applies_iff hf).mp happ
  obtain ⟨hg, hn⟩ := and_e (Cond.before_iff.mp (show (Jvm.Cond.and given_1 narrow_1).before args s = true from hpre))
  obtain ⟨g1, g2⟩ := and_e hg
  obtain ⟨g3, g4⟩ := and_e g2
  obtain ⟨g5, g6⟩ := and_e g4
  obtain ⟨g7, g8⟩ := and_e g6
  obtain ⟨g9, g10⟩ := and_e g8
  obtain ⟨w0, w1, w2, w3, w4, rfl⟩ : ∃ w0 w1 w2 w3 w4 : Value, args = #[w0, w1, w2, w3, w4] := by
    have hs : args.size = 5 := by simpa [Cond.value, given_1] using g1
    obtain ⟨L⟩ := args
    match L, hs with
    | [w0, w1, w2, w3, w4], _ => exact ⟨w0, w1, w2, w3, w4, rfl⟩
  have hw := fun d (hd : d ∈ tables_1) => atoms_spec (ws := Jvm.Cond.code x code maxLocals ret :: tables_1) hat d (List.mem_cons_of_mem _ hd)
  obtain ⟨i0, ei0⟩ := is_v g3
  obtain rfl : w0 = (.int i0) := Option.some.inj ei0
  obtain ⟨i1, ei1⟩ := isL_v g5
  obtain rfl : w1 = (.long i1) := Option.some.inj ei1
  obtain ⟨i2, ei2⟩ := isL_v g7
  obtain rfl : w2 = (.long i2) := Option.some.inj ei2
  obtain ⟨i3, ei3⟩ := isL_v g9
  obtain rfl : w3 = (.long i3) := Option.some.inj ei3
  obtain ⟨i4, ei4⟩ := isL_v g10
  obtain rfl : w4 = (.long i4) := Option.some.inj ei4
  obtain ⟨n, o, h1, h2, h3, _, L, rfl, ⟨rfl, N⟩, hq⟩ := con_0 l s _ hw i0 i1 i2 i3 i4 s.heap p e ha hc hk s m _ below hf ((Spec.applies_iff_loose hf).mp happ).1 ⟨rfl, State.Warmed39.refl s, rfl⟩ trivial
  refine ⟨n, _, h1, h2, h3, hpost _ _ _ _ _ _ ⟨Cond.after_iff.mpr rfl, Cond.after_iff.mpr (eq_i res_at (Term.int_eval (1)) rfl), trivial⟩ ⟨hq.1, hq.2.1, (hq.2.2.sift fun y hy => Or.inr ((N y hy).resolve_left (fun q => nomatch q))).mono (by decide) (by decide)⟩⟩
theorem main_1_1 : Claimed_1_1 := comes_1 fun _ _ _ _ _ _ h hF => ⟨h.1, hF⟩
theorem main_1_2 : Claimed_1_2 := comes_1 fun _ _ _ _ _ _ h hF => ⟨h.2.1, hF⟩
end Jvm.Pilot.@@N@@
namespace Jvm.Pilot.@@N@@
open Jvm Jvm.ClassFile Sem Op Lib Jvm.Free Jvm.Stand Jvm.Pilot.@@N@@.Jvm.D
/-! MADE BY PROGRAM (witnessworld.py) out of the Statement's table words and the real class files: 9 classes; the members and pool entries that the words name. The judged class is class 1, her method 1. -/
namespace start1
open Jvm.ClassFile
def u (s : String) : CpInfo := .utf8 (stringToUtf16 s)
/-- a pool by its gaps: so many unusable entries, then the entry; so many at the end -/
def gap : Nat → List CpInfo → List CpInfo
  | 0, r => r
  | n + 1, r => .unusable :: gap n r
def poolList (es : List (Nat × CpInfo)) (last : Nat) : List CpInfo := es.foldr (fun e r => gap e.1 (e.2 :: r)) (gap last [])
def pool (es : List (Nat × CpInfo)) (last : Nat) : Array CpInfo := ⟨poolList es last⟩
def fileOf (pool : Array CpInfo) (this : Nat) (attrs : Array Attribute := #[]) (ms : Array MethodInfo := #[]) (fl : Nat := 33) (sup : Nat := 0) (ifs : Array Nat := #[]) (fds : Array FieldInfo := #[]) : ClassFile where
  minorVersion := 0
  majorVersion := 65
  constantPool := pool
  accessFlags := fl
  thisClass := this
  superClass := sup
  interfaces := ifs
  fields := fds
  methods := ms
  attributes := attrs
def plain (name : String) (sup : Option ClassId) : Class where
  name := name
  kind := .ordinary
  loader := none
  accessFlags := 33
  super := sup
  interfaces := #[]
  cf := none
  fields := #[]
  methods := #[]
  instanceTypes := #[]
  staticTypes := #[]
  resolved := #[]
  callSites := []
  init := .initialized
  statics := none
  mirror := none

def pool0 : Array CpInfo := pool [(5, u "<init>"), (0, u "()V"), (1, .class_ 10), (1, u "java/lang/Object")] 113

def k0c0 : Code := { maxStack := 0, maxLocals := 1, code := object_method_1_code, exceptionTable := #[], attributes := #[] }
def k0m0 : Method := { name := "<init>", desc := "()V", sig := { parameters := [], returnType := none }, accessFlags := 1, code := some k0c0 }
/-- java/lang/Object -/
def k0 : Class := { plain "java/lang/Object" none with
  accessFlags := 33
  interfaces := #[]
  cf := some (fileOf pool0 8 #[] #[{ accessFlags := 1, nameIndex := 5, descriptorIndex := 6, attributes := #[] }] 33 0 #[] #[])
  fields := #[]
  methods := #[k0m0]
  instanceTypes := #[]
  staticTypes := #[]
  resolved := Array.replicate 124 none
  statics := none }

def pool1 : Array CpInfo := pool [(2, .class_ 4), (1, u "java/lang/Object"), (0, u "<init>"), (0, u "()V"), (0, .long 1152921504606846975), (1, .class_ 10), (0, u "com/example/infinite_marking/infinitemarking/analysis/LookAhead"), (0, .methodref 9 12), (0, .nameAndType 5 13), (0, u "(ZJ)V"), (0, .methodref 9 15), (0, .nameAndType 16 17), (0, u "count"), (0, u "(J)V"), (0, .methodref 9 19), (0, .nameAndType 20 21), (0, u "begin"), (0, u "()Z"), (0, .methodref 9 23), (0, .nameAndType 24 6), (0, u "end"), (0, .methodref 9 26), (0, .nameAndType 27 21), (0, u "isSpent"), (0, .class_ 29), (0, u "com/example/infinite_marking/infinitemarking/analysis/LookAheadIsSpentPinLaw"), (2, u "law"), (0, u "(IJJJJ)Z")] 3

def k1m0 : Method := { name := "<init>", desc := "()V", sig := { parameters := [], returnType := none }, accessFlags := 1, code := none }
def k1c1 : Code := { maxStack := 6, maxLocals := 30, code := code, exceptionTable := #[], attributes := #[] }
def k1m1 : Method := { name := "law", desc := "(IJJJJ)Z", sig := { parameters := [.int, .long, .long, .long, .long], returnType := some .boolean }, accessFlags := 9, code := some k1c1 }
/-- com/example/infinite_marking/infinitemarking/analysis/LookAheadIsSpentPinLaw -/
def k1 : Class := { plain "com/example/infinite_marking/infinitemarking/analysis/LookAheadIsSpentPinLaw" (some 0) with
  accessFlags := 49
  interfaces := #[]
  cf := some (fileOf pool1 28 #[] #[{ accessFlags := 1, nameIndex := 5, descriptorIndex := 6, attributes := #[] }, { accessFlags := 9, nameIndex := 32, descriptorIndex := 33, attributes := #[] }] 49 2 #[] #[])
  fields := #[]
  methods := #[k1m0, k1m1]
  instanceTypes := #[]
  staticTypes := #[]
  resolved := Array.replicate 37 none
  statics := none }

def pool2 : Array CpInfo := pool [(1, .methodref 2 3), (0, .class_ 4), (0, .nameAndType 5 6), (0, u "java/lang/Object"), (0, u "<init>"), (0, u "()V"), (0, .fieldref 8 9), (0, .class_ 10), (0, .nameAndType 11 12), (0, u "com/example/infinite_marking/infinitemarking/analysis/LookAhead"), (0, u "wanted"), (0, u "Z"), (0, .fieldref 8 14), (0, .nameAndType 15 16), (0, u "share"), (0, u "J"), (0, .fieldref 8 18), (0, .nameAndType 19 12), (0, u "running"), (0, .fieldref 8 21), (0, .nameAndType 22 16), (0, u "ahead"), (0, .fieldref 8 24), (0, .nameAndType 25 16), (0, u "inOrder"), (2, u "isSpent"), (0, u "()Z"), (2, u "NEAR_START"), (0, u "I"), (2, u "SHARE"), (2, u "(ZJ)V"), (2, u "count"), (0, u "(J)V"), (3, u "begin"), (0, u "end")] 2

def k2c0 : Code := { maxStack := 3, maxLocals := 4, code := prog_29_method_1_code, exceptionTable := #[], attributes := #[] }
def k2m0 : Method := { name := "<init>", desc := "(ZJ)V", sig := { parameters := [.boolean, .long], returnType := none }, accessFlags := 0, code := some k2c0 }
def k2c1 : Code := { maxStack := 5, maxLocals := 3, code := prog_29_method_2_code, exceptionTable := #[], attributes := #[] }
def k2m1 : Method := { name := "count", desc := "(J)V", sig := { parameters := [.long], returnType := none }, accessFlags := 0, code := some k2c1 }
def k2c2 : Code := { maxStack := 6, maxLocals := 1, code := prog_29_method_4_code, exceptionTable := #[], attributes := #[] }
def k2m2 : Method := { name := "isSpent", desc := "()Z", sig := { parameters := [], returnType := some .boolean }, accessFlags := 0, code := some k2c2 }
def k2c3 : Code := { maxStack := 2, maxLocals := 2, code := prog_29_method_6_code, exceptionTable := #[], attributes := #[] }
def k2m3 : Method := { name := "begin", desc := "()Z", sig := { parameters := [], returnType := some .boolean }, accessFlags := 0, code := some k2c3 }
def k2c4 : Code := { maxStack := 2, maxLocals := 1, code := prog_29_method_7_code, exceptionTable := #[], attributes := #[] }
def k2m4 : Method := { name := "end", desc := "()V", sig := { parameters := [], returnType := none }, accessFlags := 0, code := some k2c4 }
/-- com/example/infinite_marking/infinitemarking/analysis/LookAhead -/
def k2 : Class := { plain "com/example/infinite_marking/infinitemarking/analysis/LookAhead" (some 0) with
  accessFlags := 48
  interfaces := #[]
  cf := some (fileOf pool2 8 #[] #[{ accessFlags := 0, nameIndex := 5, descriptorIndex := 39, attributes := #[] }, { accessFlags := 0, nameIndex := 42, descriptorIndex := 43, attributes := #[] }, { accessFlags := 0, nameIndex := 28, descriptorIndex := 29, attributes := #[] }, { accessFlags := 0, nameIndex := 47, descriptorIndex := 29, attributes := #[] }, { accessFlags := 0, nameIndex := 48, descriptorIndex := 6, attributes := #[] }] 48 2 #[] #[{ accessFlags := 24, nameIndex := 32, descriptorIndex := 33, attributes := #[] }, { accessFlags := 24, nameIndex := 36, descriptorIndex := 16, attributes := #[] }, { accessFlags := 18, nameIndex := 11, descriptorIndex := 12, attributes := #[] }, { accessFlags := 18, nameIndex := 15, descriptorIndex := 16, attributes := #[] }, { accessFlags := 2, nameIndex := 25, descriptorIndex := 16, attributes := #[] }, { accessFlags := 2, nameIndex := 22, descriptorIndex := 16, attributes := #[] }, { accessFlags := 2, nameIndex := 19, descriptorIndex := 12, attributes := #[] }])
  fields := #[{ name := "NEAR_START", type := .int, accessFlags := 24, slot := 0, constantValue := 0 }, { name := "SHARE", type := .long, accessFlags := 24, slot := 1, constantValue := 0 }, { name := "wanted", type := .boolean, accessFlags := 18, slot := 0, constantValue := 0 }, { name := "share", type := .long, accessFlags := 18, slot := 1, constantValue := 0 }, { name := "inOrder", type := .long, accessFlags := 2, slot := 2, constantValue := 0 }, { name := "ahead", type := .long, accessFlags := 2, slot := 3, constantValue := 0 }, { name := "running", type := .boolean, accessFlags := 2, slot := 4, constantValue := 0 }]
  methods := #[k2m0, k2m1, k2m2, k2m3, k2m4]
  instanceTypes := #[.boolean, .long, .long, .long, .boolean]
  staticTypes := #[.int, .long]
  resolved := Array.replicate 51 none
  statics := none }

def pool3 : Array CpInfo := pool [(1, u "java/lang/Cloneable"), (0, .class_ 1), (0, u "java/lang/Object"), (0, .class_ 3)] 3

/-- java/lang/Cloneable -/
def k3 : Class := { plain "java/lang/Cloneable" (some 0) with
  accessFlags := 1537
  interfaces := #[]
  cf := some (fileOf pool3 2 #[] #[] 1537 4 #[] #[])
  fields := #[]
  methods := #[]
  instanceTypes := #[]
  staticTypes := #[]
  resolved := Array.replicate 8 none
  statics := none }

def pool4 : Array CpInfo := pool [(1, u "java/io/Serializable"), (0, .class_ 1), (0, u "java/lang/Object"), (0, .class_ 3)] 3

/-- java/io/Serializable -/
def k4 : Class := { plain "java/io/Serializable" (some 0) with
  accessFlags := 1537
  interfaces := #[]
  cf := some (fileOf pool4 2 #[] #[] 1537 4 #[] #[])
  fields := #[]
  methods := #[]
  instanceTypes := #[]
  staticTypes := #[]
  resolved := Array.replicate 8 none
  statics := none }

/-- the primitive byte -/
def k5 : Class := { plain "byte" none with kind := .primitive 'B', accessFlags := 0x411 }
/-- [B -/
def k6 : Class := { plain "[B" (some 0) with kind := .array 5 .byte, interfaces := #[3, 4], accessFlags := 1041 }

/-- the primitive int -/
def k7 : Class := { plain "int" none with kind := .primitive 'I', accessFlags := 0x411 }
/-- [I -/
def k8 : Class := { plain "[I" (some 0) with kind := .array 7 .int, interfaces := #[3, 4], accessFlags := 1041 }

def heap : Heap := #[]
def classes : Array Class := #[k0, k1, k2, k3, k4, k5, k6, k7, k8]
def interned : List (Array UInt16 × Addr) := []
def slotsUsed : Nat := 0
def theMethod : MethodId := ⟨1, 1⟩
def args0 : Array Value := #[.int 3, .long 5, .long 1, .long 7, .long 9]
def aboutOver (below : List Frame) : State where
  vm := { classes := classes, interned := interned.toArray }
  heap := heap
  slotsUsed := slotsUsed
  threads := #[{ frames := .invoking theMethod args0 :: below }]
def below0 : List Frame := [.native { method := ⟨0, 0⟩, args := #[] }]
def about1 : State := aboutOver below0
def p0 : Program := .bare "" "" ""
def e0 : Env := launch0.env 0 0 0
theorem w_frames : about1.frames = Frame.invoking theMethod args0 :: below0 := rfl
set_option maxRecDepth 65536 in
theorem w_args : argsFit about1.vm theMethod args0 = true := by decide +kernel
set_option maxRecDepth 65536 in
theorem w_heap : heapFits about1 = true := by decide +kernel
set_option maxRecDepth 65536 in
theorem w_runnable : about1.curStatus? = some .runnable := by decide +kernel
set_option maxRecDepth 65536 in
theorem w_alone : about1.alone = true := by decide +kernel
set_option maxRecDepth 65536 in
theorem w_named : about1.methodNamed? x = some theMethod := by decide +kernel
set_option maxRecDepth 65536 in
theorem w_hears : about1.hears theMethod below0 = true := by decide +kernel
set_option maxRecDepth 65536 in
theorem w_ripe : about1.ripe theMethod args0 below0 = true := by decide +kernel
theorem w_running : about1.status = .running := rfl
set_option maxRecDepth 65536 in
theorem w_room : about1.hasRoom e0.platform room_1 = true :=
  launch0.hasRoom_least _ room_1 (by decide +kernel) (by decide +kernel) (by decide +kernel) (by decide +kernel) (by decide +kernel) (by decide +kernel)
theorem allAtoms_all (ts : List Jvm.Cond) (a : Array Jvm.Value) (st : Jvm.State) : (allAtoms ts).before a st = ts.all (fun c => c.before a st) := by
  induction ts with
  | nil => rfl
  | cons c t ih =>
    show (Jvm.Cond.and c (allAtoms t)).before a st = _
    rw [Jvm.Cond.before_and, ih, List.all_cons]
def words1 : List Jvm.Cond := Jvm.Cond.code x code maxLocals ret :: tables_1
/-- a 'code' word, met by the world's own term for the bytes: nothing is compared byte by byte -/
theorem code_word {y : MethodName} {bytes : ByteArray} {mx : Nat} {rt : Option FieldType} {a : Array Value} {s : State} {m : MethodId} {meth : Method} {c : Code} (h1 : s.methodNamed? y = some m) (h2 : s.vm.method? m = some meth) (h3 : meth.code = some c) (h4 : c.code = bytes)
    (h5 : (c.maxLocals == mx && c.exceptionTable.isEmpty && decide (c.maxStack ≤ mostOperands) && decide (meth.sig.returnType = rt) && !meth.locks && decide (parseMethodDescriptor y.desc = some meth.sig)) = true) : (Jvm.Cond.code y bytes mx rt).before a s = true := by
  simp only [Bool.and_eq_true, beq_iff_eq, Bool.not_eq_true', decide_eq_true_eq] at h5
  obtain ⟨⟨⟨⟨⟨g1, g2⟩, g3⟩, g4⟩, g5⟩, g6⟩ := h5
  simp [Cond.before, Cond.holds, Cond.value, h1, h2, h3, h4, g1, g2, g3, g4, g5, g6]
def isCode : Jvm.Cond → Bool
  | .code _ _ _ _ => true
  | _ => false
theorem all_split {L : List Jvm.Cond} {P : Jvm.Cond → Bool} (h1 : L.all (fun c => isCode c || P c) = true) (h2 : ∀ c ∈ L.filter isCode, P c = true) : L.all P = true := by
  refine List.all_eq_true.mpr fun c hc => ?_
  have h := List.all_eq_true.mp h1 c hc
  rcases Bool.eq_false_or_eq_true (isCode c) with hi | hi
  · exact h2 c (List.mem_filter.mpr ⟨hc, hi⟩)
  · simpa [hi] using h
set_option maxRecDepth 65536 in
theorem w_c0 : (Jvm.Cond.code x code maxLocals ret).before args0 about1 = true := code_word (m := ⟨1, 1⟩) (meth := k1m1) (c := k1c1) (by decide +kernel) rfl rfl rfl (by decide +kernel)
set_option maxRecDepth 65536 in
theorem w_c1 : (Jvm.Cond.code ({ cls := "com/example/infinite_marking/infinitemarking/analysis/LookAhead", name := "<init>", desc := "(ZJ)V" } : Jvm.MethodName) prog_29_method_1_code (4 : Nat) (Option.none : Option Jvm.ClassFile.FieldType)).before args0 about1 = true := code_word (m := ⟨2, 0⟩) (meth := k2m0) (c := k2c0) (by decide +kernel) rfl rfl rfl (by decide +kernel)
set_option maxRecDepth 65536 in
theorem w_c2 : (Jvm.Cond.code ({ cls := "java/lang/Object", name := "<init>", desc := "()V" } : Jvm.MethodName) object_method_1_code (1 : Nat) (Option.none : Option Jvm.ClassFile.FieldType)).before args0 about1 = true := code_word (m := ⟨0, 0⟩) (meth := k0m0) (c := k0c0) (by decide +kernel) rfl rfl rfl (by decide +kernel)
set_option maxRecDepth 65536 in
theorem w_c3 : (Jvm.Cond.code ({ cls := "com/example/infinite_marking/infinitemarking/analysis/LookAhead", name := "count", desc := "(J)V" } : Jvm.MethodName) prog_29_method_2_code (3 : Nat) (Option.none : Option Jvm.ClassFile.FieldType)).before args0 about1 = true := code_word (m := ⟨2, 1⟩) (meth := k2m1) (c := k2c1) (by decide +kernel) rfl rfl rfl (by decide +kernel)
set_option maxRecDepth 65536 in
theorem w_c4 : (Jvm.Cond.code ({ cls := "com/example/infinite_marking/infinitemarking/analysis/LookAhead", name := "isSpent", desc := "()Z" } : Jvm.MethodName) prog_29_method_4_code (1 : Nat) (Option.some Jvm.ClassFile.FieldType.boolean)).before args0 about1 = true := code_word (m := ⟨2, 2⟩) (meth := k2m2) (c := k2c2) (by decide +kernel) rfl rfl rfl (by decide +kernel)
set_option maxRecDepth 65536 in
theorem w_c5 : (Jvm.Cond.code ({ cls := "com/example/infinite_marking/infinitemarking/analysis/LookAhead", name := "begin", desc := "()Z" } : Jvm.MethodName) prog_29_method_6_code (2 : Nat) (Option.some Jvm.ClassFile.FieldType.boolean)).before args0 about1 = true := code_word (m := ⟨2, 3⟩) (meth := k2m3) (c := k2c3) (by decide +kernel) rfl rfl rfl (by decide +kernel)
set_option maxRecDepth 65536 in
theorem w_c6 : (Jvm.Cond.code ({ cls := "com/example/infinite_marking/infinitemarking/analysis/LookAhead", name := "end", desc := "()V" } : Jvm.MethodName) prog_29_method_7_code (1 : Nat) (Option.none : Option Jvm.ClassFile.FieldType)).before args0 about1 = true := code_word (m := ⟨2, 4⟩) (meth := k2m4) (c := k2c4) (by decide +kernel) rfl rfl rfl (by decide +kernel)
def codes1 : List Jvm.Cond := [Jvm.Cond.code x code maxLocals ret, Jvm.Cond.code ({ cls := "com/example/infinite_marking/infinitemarking/analysis/LookAhead", name := "<init>", desc := "(ZJ)V" } : Jvm.MethodName) prog_29_method_1_code (4 : Nat) (Option.none : Option Jvm.ClassFile.FieldType), Jvm.Cond.code ({ cls := "java/lang/Object", name := "<init>", desc := "()V" } : Jvm.MethodName) object_method_1_code (1 : Nat) (Option.none : Option Jvm.ClassFile.FieldType), Jvm.Cond.code ({ cls := "com/example/infinite_marking/infinitemarking/analysis/LookAhead", name := "count", desc := "(J)V" } : Jvm.MethodName) prog_29_method_2_code (3 : Nat) (Option.none : Option Jvm.ClassFile.FieldType), Jvm.Cond.code ({ cls := "com/example/infinite_marking/infinitemarking/analysis/LookAhead", name := "isSpent", desc := "()Z" } : Jvm.MethodName) prog_29_method_4_code (1 : Nat) (Option.some Jvm.ClassFile.FieldType.boolean), Jvm.Cond.code ({ cls := "com/example/infinite_marking/infinitemarking/analysis/LookAhead", name := "begin", desc := "()Z" } : Jvm.MethodName) prog_29_method_6_code (2 : Nat) (Option.some Jvm.ClassFile.FieldType.boolean), Jvm.Cond.code ({ cls := "com/example/infinite_marking/infinitemarking/analysis/LookAhead", name := "end", desc := "()V" } : Jvm.MethodName) prog_29_method_7_code (1 : Nat) (Option.none : Option Jvm.ClassFile.FieldType)]
set_option maxRecDepth 65536 in
theorem codes_eq : words1.filter isCode = codes1 := rfl
theorem w_codes : ∀ c ∈ words1.filter isCode, c.before args0 about1 = true := by
  rw [codes_eq]
  intro c hc
  simp only [codes1, List.mem_cons, List.not_mem_nil, or_false] at hc
  rcases hc with rfl | rfl | rfl | rfl | rfl | rfl | rfl
  · exact w_c0
  · exact w_c1
  · exact w_c2
  · exact w_c3
  · exact w_c4
  · exact w_c5
  · exact w_c6
set_option maxRecDepth 65536 in
theorem w_t1 : (words1.take 24).all (fun c => isCode c || c.before args0 about1) = true := by decide +kernel
set_option maxRecDepth 65536 in
theorem w_t2 : (words1.drop 24).all (fun c => isCode c || c.before args0 about1) = true := by decide +kernel
theorem w_tables : (allAtoms (Jvm.Cond.code x code maxLocals ret :: tables_1)).before args0 about1 = true := by
  rw [allAtoms_all]
  show words1.all (fun c => c.before args0 about1) = true
  refine all_split ?_ w_codes
  rw [← List.take_append_drop 24 words1, List.all_append, w_t1, w_t2]
  rfl
set_option maxRecDepth 65536 in
theorem w_case : (Jvm.Cond.and given_1 narrow_1).before args0 about1 = true := by decide +kernel
theorem w_applies : (headSpec (Jvm.Cond.code x code maxLocals ret :: tables_1) room_1).applies x e0.platform about1 = true :=
  (Spec.applies_iff w_frames).mpr ⟨w_running, w_runnable, w_alone, w_named, w_hears, w_ripe, w_room, w_tables⟩
theorem atStart : AtStart classFile x code maxLocals ret World_1 tables_1 room_1 Calls_1 rest_1 Pre_1 launch0 p0 e0 about1 theMethod args0 below0 :=
  ⟨lists_1, trivial, launch0.admits_env _ _ _, launch0.least_env, fairChoices_fair.cas, fairChoices_fair.clock, w_frames, w_args, w_heap, w_applies, trivial, trivial, w_case⟩
end start1
theorem witness_1 : WitnessClaimed_1 := ⟨start1.p0, start1.e0, start1.about1, start1.theMethod, start1.args0, start1.below0, start1.atStart⟩
end Jvm.Pilot.@@N@@
