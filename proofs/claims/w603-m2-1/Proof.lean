import JvmDerived
import JvmDerived.Pilot.@@N@@Statement
import JvmDerived.Pilot.@@N@@Code
set_option linter.unusedVariables false
set_option linter.unusedSimpArgs false
namespace Jvm.OwnKit
open Jvm Jvm.ClassFile Sem Op Lib Jvm.Free Jvm.Stand Jvm.LawKit Jvm.RoadKit Bundle
/-- what is fixed in one body's walk: program, launch, environment, room, state at the call, method, arguments, frames below, its record, its code, the old addresses that it may write -/
abbrev Wk : Type := Program × Launch × Env × Room × State × MethodId × Array Value × List Frame × Method × Code × List Addr
abbrev Wk.p (W : Wk) : Program := W.1
abbrev Wk.l (W : Wk) : Launch := W.2.1
abbrev Wk.e (W : Wk) : Env := W.2.2.1
abbrev Wk.R (W : Wk) : Room := W.2.2.2.1
abbrev Wk.s (W : Wk) : State := W.2.2.2.2.1
abbrev Wk.m (W : Wk) : MethodId := W.2.2.2.2.2.1
abbrev Wk.args (W : Wk) : Array Value := W.2.2.2.2.2.2.1
abbrev Wk.below (W : Wk) : List Frame := W.2.2.2.2.2.2.2.1
abbrev Wk.meth (W : Wk) : Method := W.2.2.2.2.2.2.2.2.1
abbrev Wk.c (W : Wk) : Code := W.2.2.2.2.2.2.2.2.2.1
abbrev Wk.ws (W : Wk) : List Addr := W.2.2.2.2.2.2.2.2.2.2
/-- an address that may be written: a named old one, or a new one -/
def Pw (W : Wk) (a : Addr) : Prop := a ∈ W.ws ∨ W.s.heap.size ≤ a
abbrev Sta0 (W : Wk) (T : State) (locs : List Loc) (k n : Nat) : Prop := Stand W.p W.l W.e W.R W.s W.m W.args W.below W.meth W.c T locs k n
abbrev Stp (W : Wk) (S t : State) : Prop := Steps W.p.tables W.e W.below S t
def Sd (W : Wk) (T : State) (h : Heap) (k n : Nat) : Prop := ∃ locs, Sta0 W T locs k n ∧ T.heap = h ∧ ∀ y ∈ locs, Pw W y.base
/-- from S the body comes to its end, returning what Q says -/
def Out (W : Wk) (Q : Option Value → Heap → Prop) (S : State) : Prop := ∃ s₂ o, Stp W S s₂ ∧ s₂.status = .running ∧ Ended s₂ W.below o ∧ ∃ v L, o = .returned v ∧ (Q v s₂.heap ∧ ∀ y ∈ L, Pw W y.base) ∧ FrameEnd W.s o s₂ L W.R.cells W.R.slots
/-- from every state that stands here over the heap h, the body comes to its end as Q says -/
def Go (W : Wk) (Q : Option Value → Heap → Prop) (h : Heap) (k n pc : Nat) (L : Array Slot) (S : List Value) : Prop := ∀ T, Sd W T h k n → Out W Q (T.setTop (mkF W.m pc L S))
def Cx (W : Wk) (Z : State) (R : Room) (own : String) (code : ByteArray) (mx : Nat) (ret : Option FieldType) (nm : String) (ws : List Addr) (h0 : Heap) : Prop :=
  W.p.tables.exec = Jvm.exec ∧ Z.Warmed39 W.s.vm ∧ W.s.vm.findClass own = some W.m.cls ∧ W.c.code = code ∧ W.c.maxLocals = mx ∧ W.meth.sig.returnType = ret ∧ W.meth.locks = false ∧ W.meth.name = nm ∧ W.R = R ∧ W.ws = ws ∧ W.s.heap = h0
/-- a body's contract at the heap h: ws: the old addresses that it may write -/
def Con (l : Launch) (Z : State) (w0 : List Jvm.Cond) (y : MethodName) (bytes : ByteArray) (mx : Nat) (ret : Option FieldType) (rm : Room) (as : Array Value) (h : Heap) (ws : List Addr) (Q : Option Value → Heap → Prop) : Prop :=
  MetFree l y (head1 (Jvm.Cond.code y bytes mx ret :: w0) rm) (fun a U => a = as ∧ Z.Warmed39 U.vm ∧ U.heap = h) (fun _ _ _ _ _ => True)
    (fun _ U o U' => ∃ v L, o = .returned v ∧ (Q v U'.heap ∧ ∀ y ∈ L, y.base ∈ ws ∨ h.size ≤ y.base) ∧ FrameEnd U o U' L rm.cells rm.slots)
/-- a truth value as an int -/
def b2i (P : Prop) [Decidable P] : Int32 := if P then 1 else 0
theorem b2i_pos {P : Prop} [Decidable P] (h : P) : b2i P = 1 := if_pos h
theorem b2i_neg {P : Prop} [Decidable P] (h : ¬ P) : b2i P = 0 := if_neg h
theorem b2i_iff {P Q : Prop} [Decidable P] [Decidable Q] (h : P ↔ Q) : b2i P = b2i Q := by by_cases q : Q <;> simp [b2i, h, q]
theorem b2i_toInt (P : Prop) [Decidable P] : (b2i P).toInt = if P then 1 else 0 := by unfold b2i; split <;> rfl
theorem b2i_one {P : Prop} [Decidable P] : b2i P = 1 ↔ P := by unfold b2i; split <;> simp [*]
theorem b2i_zero {P : Prop} [Decidable P] : b2i P = 0 ↔ ¬ P := by unfold b2i; split <;> simp [*]
theorem nar_b2i (P : Prop) [Decidable P] : nar .boolean (b2i P) = b2i P := by unfold b2i; split <;> rfl
theorem b2i_inj {P Q : Prop} [Decidable P] [Decidable Q] : b2i P = b2i Q ↔ (P ↔ Q) := by unfold b2i; split <;> split <;> simp [*]
theorem ref_cat {v : Value} (h : v.isRef = true) : v.category = 1 := by cases v <;> simp [Value.isRef] at h ⊢ <;> rfl
theorem narrow_ref {t : FieldType} {v : Value} (h : v.isRef = true) : narrow t v = v := by cases v <;> simp [Value.isRef] at h <;> cases t <;> rfl
theorem fits_b2i (P : Prop) [Decidable P] : fits .boolean (.int (b2i P)) = true := by unfold b2i; split <;> rfl
theorem fits_ref0 {t : FieldType} {v : Value} (h : v.isRef = true) (ht : refKind t = true := by rfl) : fits t v = true := by cases v <;> simp [Value.isRef] at h <;> cases t <;> simp_all [refKind, fits]
section Facts
variable {Z : State} {h h' : Heap} {a b : Addr} {C : String} {ws : List Addr}
/-- an object of the class C: its fields (declaring class, name, descriptor, value) -/
def Ob (Z : State) (h : Heap) (a : Addr) (C : String) (fs : List (String × String × String × Value)) : Prop :=
  Exa Z h a C ∧ (∀ f ∈ fs, Fld Z h a f.1 f.2.1 f.2.2.1 f.2.2.2) ∧ (fs.map fun f => RoadKit.slotOf Z f.1 f.2.1 f.2.2.1).Nodup
variable {fs fs' : List (String × String × String × Value)} {o n d : String} {v old : Value} {i : Nat}
theorem Ob.exa (O : Ob Z h a C fs) : Exa Z h a C := O.1
theorem Ob.lt (O : Ob Z h a C fs) : a < h.size := O.1.lt
theorem Ob.get (O : Ob Z h a C fs) (hi : fs[i]? = some (o, n, d, v)) : Fld Z h a o n d v := O.2.1 _ (List.mem_of_getElem? hi)
theorem Ob.keep (O : Ob Z h a C fs) (K : Keep h h' ws) (q : a ∉ ws) : Ob Z h' a C fs := ⟨O.1.keep K, fun f hf => (O.2.1 f hf).keep K q, O.2.2⟩
theorem Ob.ext (O : Ob Z h a C fs) (E : Ext h h') : Ob Z h' a C fs := ⟨O.1.ext E, fun f hf => (O.2.1 f hf).ext E, O.2.2⟩
theorem Ob.other (O : Ob Z h b C fs) {sl : Nat} (W : Wr h h' a sl v) (q : b ≠ a) : Ob Z h' b C fs := O.keep (Keep.of_wr W) (ninS q nin0)
theorem Ob.put (O : Ob Z h a C fs) (hi : fs[i]? = some (o, n, d, old)) (W : Wr h h' a (RoadKit.slotOf Z o n d) v) : Ob Z h' a C (fs.set i (o, n, d, v)) := by
  obtain ⟨E, F, N⟩ := O
  have hlt : i < fs.length := (List.getElem?_eq_some_iff.mp hi).1
  have hm : (fs.set i (o, n, d, v)).map (fun f => RoadKit.slotOf Z f.1 f.2.1 f.2.2.1) = fs.map (fun f => RoadKit.slotOf Z f.1 f.2.1 f.2.2.1) := by
    rw [List.map_set]
    have e : (fs.map fun f => RoadKit.slotOf Z f.1 f.2.1 f.2.2.1)[i]? = some (RoadKit.slotOf Z o n d) := by rw [List.getElem?_map, hi]; rfl
    obtain ⟨hl, he⟩ := List.getElem?_eq_some_iff.mp e
    have q := List.set_getElem_self hl
    rw [he] at q
    exact q
  refine ⟨E.wr W, fun f hf => ?_, by rw [hm]; exact N⟩
  obtain ⟨j, hj⟩ := List.mem_iff_getElem?.mp hf
  by_cases e : j = i
  · subst e
    rw [List.getElem?_set_self hlt] at hj
    cases hj
    exact (F _ (List.mem_of_getElem? hi)).same W
  · rw [List.getElem?_set_ne (Ne.symm e)] at hj
    refine (F f (List.mem_of_getElem? hj)).other W (Or.inr fun q => ?_)
    have e1 : (fs.map fun f => RoadKit.slotOf Z f.1 f.2.1 f.2.2.1)[j]? = some (RoadKit.slotOf Z f.1 f.2.1 f.2.2.1) := by rw [List.getElem?_map, hj]; rfl
    have e2 : (fs.map fun f => RoadKit.slotOf Z f.1 f.2.1 f.2.2.1)[i]? = some (RoadKit.slotOf Z o n d) := by rw [List.getElem?_map, hi]; rfl
    rw [q] at e1
    obtain ⟨l1, q1⟩ := List.getElem?_eq_some_iff.mp e1
    obtain ⟨l2, q2⟩ := List.getElem?_eq_some_iff.mp e2
    exact e ((List.getElem_inj N).mp (q1.trans q2.symm))
/-- an array: its components -/
def Ar (Z : State) (h : Heap) (a : Addr) (ty : FieldType) (vs : List Value) : Prop := ∃ c : Cell, Arr Z h a c ty ∧ c.slots.toList = vs
/-- ... of references to objects of the class C -/
def ArR (Z : State) (h : Heap) (a : Addr) (C : String) (vs : List Value) : Prop := ∃ c : Cell, Arr Z h a c (.object C) ∧ c.slots.toList = vs ∧ Ovr Z c.cls C
variable {ty : FieldType} {vs : List Value}
theorem Ar.lt (A : Ar Z h a ty vs) : a < h.size := A.elim fun _ q => q.1.lt
theorem Ar.keep (A : Ar Z h a ty vs) (K : Keep h h' ws) (q : a ∉ ws) : Ar Z h' a ty vs := by obtain ⟨c, A, e⟩ := A; exact ⟨c, ⟨K.2.1 a c A.1 q, A.2⟩, e⟩
theorem Ar.ext (A : Ar Z h a ty vs) (E : Ext h h') : Ar Z h' a ty vs := by obtain ⟨c, A, e⟩ := A; exact ⟨c, A.ext E, e⟩
theorem ArR.lt (A : ArR Z h a C vs) : a < h.size := A.elim fun _ q => q.1.lt
theorem ArR.keep (A : ArR Z h a C vs) (K : Keep h h' ws) (q : a ∉ ws) : ArR Z h' a C vs := by obtain ⟨c, A, e⟩ := A; exact ⟨c, ⟨K.2.1 a c A.1 q, A.2⟩, e⟩
theorem ArR.ext (A : ArR Z h a C vs) (E : Ext h h') : ArR Z h' a C vs := by obtain ⟨c, A, e⟩ := A; exact ⟨c, A.ext E, e⟩
theorem nin1 (q : b ≠ a) : b ∉ [a] := ninS q nin0
theorem clamp_of {j : Int32} {i : Nat} (hj : j.toInt = i) : j.toNatClampNeg = i := by
  show j.toInt.toNat = i
  omega
theorem nneg_of {j : Int32} {i : Nat} (hj : j.toInt = i) : ¬ j < 0 := by
  rw [Int32.lt_iff_toInt_lt, hj]
  show ¬ ((i : Int) < 0)
  omega
theorem in_of {j : Int32} {i : Nat} {c : Cell} (hj : j.toInt = i) (hi : i < c.slots.toList.length) : ¬ (j < 0 ∨ c.slots.size ≤ j.toNatClampNeg) := by
  rw [clamp_of hj]
  rintro (q | q)
  · exact nneg_of hj q
  · rw [Array.length_toList] at hi; omega
theorem set_toList (c : Cell) (i : Nat) (v : Value) : (c.setSlot i v).slots.toList = c.slots.toList.set i v := by
  show (c.slots.setIfInBounds i v).toList = _
  rw [Array.toList_setIfInBounds]
theorem Ar.put {c : Cell} (A : Arr Z h a c ty) (e : c.slots.toList = vs) {j : Int32} {i : Nat} (hj : j.toInt = i) (W : Wr h h' a j.toNatClampNeg v) : Ar Z h' a ty (vs.set i v) := by
  refine ⟨_, A.same W, ?_⟩
  rw [clamp_of hj, set_toList, e]
theorem map_getI {l : List Int32} {i : Nat} (hi : i < l.length) : (l.map Value.int)[i]? = some (.int (l.getD i 0)) := by
  rw [List.getElem?_map, List.getElem?_eq_getElem hi, List.getD_eq_getElem?_getD, List.getElem?_eq_getElem hi]; rfl
theorem map_getJ {l : List Int64} {i : Nat} (hi : i < l.length) : (l.map Value.long)[i]? = some (.long (l.getD i 0)) := by
  rw [List.getElem?_map, List.getElem?_eq_getElem hi, List.getD_eq_getElem?_getD, List.getElem?_eq_getElem hi]; rfl
theorem map_setI (l : List Int32) (i : Nat) (x : Int32) : (l.map Value.int).set i (.int x) = (l.set i x).map Value.int := by rw [List.map_set]
theorem map_setJ (l : List Int64) (i : Nat) (x : Int64) : (l.map Value.long).set i (.long x) = (l.set i x).map Value.long := by rw [List.map_set]
theorem nat32 {n : Nat} (h : n < 2147483648) : n.toInt32.toInt = n := by
  show (Int32.ofNat n).toInt = n
  rw [Int32.toInt_ofNat_of_lt (by omega)]
theorem keep_of_same {s t : State} {L : List Loc} {k n : Nat} {ws : List Addr} (H : s.sameButNew t L k n) (hL : ∀ y ∈ L, y.base ∈ ws ∨ s.heap.size ≤ y.base) : Keep s.heap t.heap ws := by
  obtain ⟨-, h1, -, -, -, h5⟩ := H
  have lt : ∀ (x : Addr) (c : Cell), s.heap[x]? = some c → x < s.heap.size := fun x c q => (Array.getElem?_eq_some_iff.mp q).1
  refine ⟨h1, fun x c q r => ?_, fun x c q => ?_⟩
  · obtain ⟨c', e1, e2, e3, e4⟩ := h5 x c q
    have hs : c'.slots = c.slots := by
      refine Array.ext_getElem? fun i => e4 i fun hm => ?_
      rcases hL _ hm with z | z
      · exact r z
      · exact absurd (lt x c q) (Nat.not_lt.mpr z)
    rw [e1, e2, hs]
  · obtain ⟨c', e1, e2, e3, -⟩ := h5 x c q
    exact ⟨c', e1, by rw [e2], by rw [e2], e3⟩
end Facts
section Steps0
variable {W : Wk} {Z : State} {R : Room} {own nm : String} {code : ByteArray} {mx : Nat} {ret : Option FieldType} {wsx : List Addr} {hx0 : Heap} {Q : Option Value → Heap → Prop} {h : Heap} {k n pc pc' pc1 pc2 : Nat} {L L' : Array Slot} {S S' : List Value} {a0 : Array Value}
theorem Cx.x (C : Cx W Z R own code mx ret nm wsx hx0) : W.p.tables.exec = Jvm.exec := C.1
theorem Cx.z (C : Cx W Z R own code mx ret nm wsx hx0) : Z.Warmed39 W.s.vm := C.2.1
theorem Cx.o (C : Cx W Z R own code mx ret nm wsx hx0) : W.s.vm.findClass own = some W.m.cls := C.2.2.1
theorem Cx.b (C : Cx W Z R own code mx ret nm wsx hx0) {r : Except ClassFile.DecodeError (ClassFile.Instr × Nat)} (hd : decode code pc = r) : decode W.c.code pc = r := hb C.2.2.2.1 hd
theorem Cx.ml (C : Cx W Z R own code mx ret nm wsx hx0) : W.c.maxLocals = mx := C.2.2.2.2.1
theorem Cx.rt (C : Cx W Z R own code mx ret nm wsx hx0) : W.meth.sig.returnType = ret := C.2.2.2.2.2.1
theorem Cx.lk (C : Cx W Z R own code mx ret nm wsx hx0) : W.meth.locks = false := C.2.2.2.2.2.2.1
theorem Cx.nme (C : Cx W Z R own code mx ret nm wsx hx0) : W.meth.name = nm := C.2.2.2.2.2.2.2.1
theorem Cx.r (C : Cx W Z R own code mx ret nm wsx hx0) : W.R = R := C.2.2.2.2.2.2.2.2.1
theorem Cx.ws (C : Cx W Z R own code mx ret nm wsx hx0) : W.ws = wsx := C.2.2.2.2.2.2.2.2.2.1
theorem Cx.h0 (C : Cx W Z R own code mx ret nm wsx hx0) : W.s.heap = hx0 := C.2.2.2.2.2.2.2.2.2.2
theorem Cx.old (C : Cx W Z R own code mx ret nm wsx hx0) {a : Addr} (q : a ∈ wsx) : Pw W a := Or.inl (C.ws ▸ q)
theorem Cx.new (C : Cx W Z R own code mx ret nm wsx hx0) {a : Addr} (q : hx0.size ≤ a) : Pw W a := Or.inr (C.h0 ▸ q)
theorem Out.st {S S' : State} (f : ∀ t, Stp W S' t → Stp W S t) (g : Out W Q S') : Out W Q S := by
  obtain ⟨s2, o, q, r⟩ := g
  exact ⟨s2, o, f _ q, r⟩
theorem Go.st (f : ∀ T locs, Sta0 W T locs k n → T.heap = h → ∀ t, Stp W (T.setTop (mkF W.m pc' L' S')) t → Stp W (T.setTop (mkF W.m pc L S)) t) (g : Go W Q h k n pc' L' S') : Go W Q h k n pc L S := fun T hT => by
  obtain ⟨locs, X, e, N⟩ := hT
  exact Out.st (f T locs X e) (g T ⟨locs, X, e, N⟩)
theorem Go.same {k' n' : Nat} (g : Go W Q h k n pc L S) (e1 : k' = k) (e2 : n' = n) : Go W Q h k' n' pc L S := by subst e1 e2; exact g
theorem Go.more {k' n' : Nat} (g : Go W Q h k' n' pc L S) (e1 : k ≤ k') (e2 : n ≤ n') : Go W Q h k n pc L S := fun T hT => by
  obtain ⟨locs, X, e, N⟩ := hT
  exact g T ⟨locs, ⟨X.admits, X.cas, X.clock, X.frames, X.room, X.hears, X.method, X.code, X.here, X.tail, X.warmed, X.limits, X.bytes, X.same.mono e1 e2⟩, e, N⟩
theorem Go.cell (g : hx0.size ≤ h.size → Go W Q h k n pc L S) (C : Cx W Z R own code mx ret nm wsx hx0) : Go W Q h k n pc L S := fun T hT => by
  obtain ⟨locs, X, e, N⟩ := hT
  have q : W.s.heap.size ≤ T.heap.size := X.same.2.1
  rw [C.h0, e] at q
  exact g q T ⟨locs, X, e, N⟩

theorem g_iadd (C : Cx W Z R own code mx ret nm wsx hx0) {x y : Int32} (hd : decode code pc = .ok (.iadd, 1)) (hp : pc + 1 = pc') (g : Go W Q h k n pc' L (.int (x + y) :: S)) : Go W Q h k n pc L (.int y :: .int x :: S) := by
  subst hp
  exact g.st fun T locs X e t kk => XS.iadd (g := mkF W.m pc L (.int y :: .int x :: S)) X.here C.x rfl (C.b hd) rfl kk
theorem g_isub (C : Cx W Z R own code mx ret nm wsx hx0) {x y : Int32} (hd : decode code pc = .ok (.isub, 1)) (hp : pc + 1 = pc') (g : Go W Q h k n pc' L (.int (x - y) :: S)) : Go W Q h k n pc L (.int y :: .int x :: S) := by
  subst hp
  exact g.st fun T locs X e t kk => XS.isub (g := mkF W.m pc L (.int y :: .int x :: S)) X.here C.x rfl (C.b hd) rfl kk
theorem g_imul (C : Cx W Z R own code mx ret nm wsx hx0) {x y : Int32} (hd : decode code pc = .ok (.imul, 1)) (hp : pc + 1 = pc') (g : Go W Q h k n pc' L (.int (x * y) :: S)) : Go W Q h k n pc L (.int y :: .int x :: S) := by
  subst hp
  exact g.st fun T locs X e t kk => XS.imul (g := mkF W.m pc L (.int y :: .int x :: S)) X.here C.x rfl (C.b hd) rfl kk
theorem g_iand (C : Cx W Z R own code mx ret nm wsx hx0) {x y : Int32} (hd : decode code pc = .ok (.iand, 1)) (hp : pc + 1 = pc') (g : Go W Q h k n pc' L (.int (x &&& y) :: S)) : Go W Q h k n pc L (.int y :: .int x :: S) := by
  subst hp
  exact g.st fun T locs X e t kk => XS.iand (g := mkF W.m pc L (.int y :: .int x :: S)) X.here C.x rfl (C.b hd) rfl kk
theorem g_ior (C : Cx W Z R own code mx ret nm wsx hx0) {x y : Int32} (hd : decode code pc = .ok (.ior, 1)) (hp : pc + 1 = pc') (g : Go W Q h k n pc' L (.int (x ||| y) :: S)) : Go W Q h k n pc L (.int y :: .int x :: S) := by
  subst hp
  exact g.st fun T locs X e t kk => XS.ior (g := mkF W.m pc L (.int y :: .int x :: S)) X.here C.x rfl (C.b hd) rfl kk
theorem g_ixor (C : Cx W Z R own code mx ret nm wsx hx0) {x y : Int32} (hd : decode code pc = .ok (.ixor, 1)) (hp : pc + 1 = pc') (g : Go W Q h k n pc' L (.int (x ^^^ y) :: S)) : Go W Q h k n pc L (.int y :: .int x :: S) := by
  subst hp
  exact g.st fun T locs X e t kk => XS.ixor (g := mkF W.m pc L (.int y :: .int x :: S)) X.here C.x rfl (C.b hd) rfl kk
theorem g_ishl (C : Cx W Z R own code mx ret nm wsx hx0) {x y : Int32} (hd : decode code pc = .ok (.ishl, 1)) (hp : pc + 1 = pc') (g : Go W Q h k n pc' L (.int (x <<< (y &&& 31)) :: S)) : Go W Q h k n pc L (.int y :: .int x :: S) := by
  subst hp
  exact g.st fun T locs X e t kk => XS.ishl (g := mkF W.m pc L (.int y :: .int x :: S)) X.here C.x rfl (C.b hd) rfl kk
theorem g_ishr (C : Cx W Z R own code mx ret nm wsx hx0) {x y : Int32} (hd : decode code pc = .ok (.ishr, 1)) (hp : pc + 1 = pc') (g : Go W Q h k n pc' L (.int (x >>> (y &&& 31)) :: S)) : Go W Q h k n pc L (.int y :: .int x :: S) := by
  subst hp
  exact g.st fun T locs X e t kk => XS.ishr (g := mkF W.m pc L (.int y :: .int x :: S)) X.here C.x rfl (C.b hd) rfl kk
theorem g_iushr (C : Cx W Z R own code mx ret nm wsx hx0) {x y : Int32} (hd : decode code pc = .ok (.iushr, 1)) (hp : pc + 1 = pc') (g : Go W Q h k n pc' L (.int ((x.toUInt32 >>> (y &&& 31).toUInt32).toInt32) :: S)) : Go W Q h k n pc L (.int y :: .int x :: S) := by
  subst hp
  exact g.st fun T locs X e t kk => XS.iushr (g := mkF W.m pc L (.int y :: .int x :: S)) X.here C.x rfl (C.b hd) rfl kk
theorem g_ladd (C : Cx W Z R own code mx ret nm wsx hx0) {x y : Int64} (hd : decode code pc = .ok (.ladd, 1)) (hp : pc + 1 = pc') (g : Go W Q h k n pc' L (.long (x + y) :: S)) : Go W Q h k n pc L (.long y :: .long x :: S) := by
  subst hp
  exact g.st fun T locs X e t kk => XS.ladd (g := mkF W.m pc L (.long y :: .long x :: S)) X.here C.x rfl (C.b hd) rfl kk
theorem g_lsub (C : Cx W Z R own code mx ret nm wsx hx0) {x y : Int64} (hd : decode code pc = .ok (.lsub, 1)) (hp : pc + 1 = pc') (g : Go W Q h k n pc' L (.long (x - y) :: S)) : Go W Q h k n pc L (.long y :: .long x :: S) := by
  subst hp
  exact g.st fun T locs X e t kk => XS.lsub (g := mkF W.m pc L (.long y :: .long x :: S)) X.here C.x rfl (C.b hd) rfl kk
theorem g_lmul (C : Cx W Z R own code mx ret nm wsx hx0) {x y : Int64} (hd : decode code pc = .ok (.lmul, 1)) (hp : pc + 1 = pc') (g : Go W Q h k n pc' L (.long (x * y) :: S)) : Go W Q h k n pc L (.long y :: .long x :: S) := by
  subst hp
  exact g.st fun T locs X e t kk => XS.lmul (g := mkF W.m pc L (.long y :: .long x :: S)) X.here C.x rfl (C.b hd) rfl kk
theorem g_land (C : Cx W Z R own code mx ret nm wsx hx0) {x y : Int64} (hd : decode code pc = .ok (.land, 1)) (hp : pc + 1 = pc') (g : Go W Q h k n pc' L (.long (x &&& y) :: S)) : Go W Q h k n pc L (.long y :: .long x :: S) := by
  subst hp
  exact g.st fun T locs X e t kk => XS.land (g := mkF W.m pc L (.long y :: .long x :: S)) X.here C.x rfl (C.b hd) rfl kk
theorem g_lor (C : Cx W Z R own code mx ret nm wsx hx0) {x y : Int64} (hd : decode code pc = .ok (.lor, 1)) (hp : pc + 1 = pc') (g : Go W Q h k n pc' L (.long (x ||| y) :: S)) : Go W Q h k n pc L (.long y :: .long x :: S) := by
  subst hp
  exact g.st fun T locs X e t kk => XS.lor (g := mkF W.m pc L (.long y :: .long x :: S)) X.here C.x rfl (C.b hd) rfl kk
theorem g_lxor (C : Cx W Z R own code mx ret nm wsx hx0) {x y : Int64} (hd : decode code pc = .ok (.lxor, 1)) (hp : pc + 1 = pc') (g : Go W Q h k n pc' L (.long (x ^^^ y) :: S)) : Go W Q h k n pc L (.long y :: .long x :: S) := by
  subst hp
  exact g.st fun T locs X e t kk => XS.lxor (g := mkF W.m pc L (.long y :: .long x :: S)) X.here C.x rfl (C.b hd) rfl kk
theorem g_lshl (C : Cx W Z R own code mx ret nm wsx hx0) {x : Int64} {y : Int32} (hd : decode code pc = .ok (.lshl, 1)) (hp : pc + 1 = pc') (g : Go W Q h k n pc' L (.long (x <<< (y &&& 0x3f).toInt64) :: S)) : Go W Q h k n pc L (.int y :: .long x :: S) := by
  subst hp
  exact g.st fun T locs X e t kk => XS.lshl (g := mkF W.m pc L (.int y :: .long x :: S)) X.here C.x rfl (C.b hd) rfl kk
theorem g_lshr (C : Cx W Z R own code mx ret nm wsx hx0) {x : Int64} {y : Int32} (hd : decode code pc = .ok (.lshr, 1)) (hp : pc + 1 = pc') (g : Go W Q h k n pc' L (.long (x >>> (y &&& 0x3f).toInt64) :: S)) : Go W Q h k n pc L (.int y :: .long x :: S) := by
  subst hp
  exact g.st fun T locs X e t kk => XS.lshr (g := mkF W.m pc L (.int y :: .long x :: S)) X.here C.x rfl (C.b hd) rfl kk
theorem g_lushr (C : Cx W Z R own code mx ret nm wsx hx0) {x : Int64} {y : Int32} (hd : decode code pc = .ok (.lushr, 1)) (hp : pc + 1 = pc') (g : Go W Q h k n pc' L (.long ((x.toUInt64 >>> (y &&& 0x3f).toInt64.toUInt64).toInt64) :: S)) : Go W Q h k n pc L (.int y :: .long x :: S) := by
  subst hp
  exact g.st fun T locs X e t kk => XS.lushr (g := mkF W.m pc L (.int y :: .long x :: S)) X.here C.x rfl (C.b hd) rfl kk
theorem g_idiv (C : Cx W Z R own code mx ret nm wsx hx0) {x y : Int32} (hd : decode code pc = .ok (.idiv, 1)) (hp : pc + 1 = pc') (hy : y ≠ 0) (g : Go W Q h k n pc' L (.int (x / y) :: S)) : Go W Q h k n pc L (.int y :: .int x :: S) := by
  subst hp
  exact g.st fun T locs X e t kk => XS.idiv (g := mkF W.m pc L (.int y :: .int x :: S)) X.here C.x rfl (C.b hd) rfl hy kk
theorem g_irem (C : Cx W Z R own code mx ret nm wsx hx0) {x y : Int32} (hd : decode code pc = .ok (.irem, 1)) (hp : pc + 1 = pc') (hy : y ≠ 0) (g : Go W Q h k n pc' L (.int (x % y) :: S)) : Go W Q h k n pc L (.int y :: .int x :: S) := by
  subst hp
  exact g.st fun T locs X e t kk => iremM (g := mkF W.m pc L (.int y :: .int x :: S)) X C.x rfl (C.b hd) rfl hy kk
theorem g_ldiv (C : Cx W Z R own code mx ret nm wsx hx0) {x y : Int64} (hd : decode code pc = .ok (.ldiv, 1)) (hp : pc + 1 = pc') (hy : y ≠ 0) (g : Go W Q h k n pc' L (.long (x / y) :: S)) : Go W Q h k n pc L (.long y :: .long x :: S) := by
  subst hp
  exact g.st fun T locs X e t kk => XS.ldiv (g := mkF W.m pc L (.long y :: .long x :: S)) X.here C.x rfl (C.b hd) rfl hy kk
theorem g_lrem (C : Cx W Z R own code mx ret nm wsx hx0) {x y : Int64} (hd : decode code pc = .ok (.lrem, 1)) (hp : pc + 1 = pc') (hy : y ≠ 0) (g : Go W Q h k n pc' L (.long (x % y) :: S)) : Go W Q h k n pc L (.long y :: .long x :: S) := by
  subst hp
  rw [← lrem_mod] at g
  exact g.st fun T locs X e t kk => XS.lrem (g := mkF W.m pc L (.long y :: .long x :: S)) X.here C.x rfl (C.b hd) rfl hy kk
theorem g_ineg (C : Cx W Z R own code mx ret nm wsx hx0) {x : Int32} (hd : decode code pc = .ok (.ineg, 1)) (hp : pc + 1 = pc') (g : Go W Q h k n pc' L (.int (-x) :: S)) : Go W Q h k n pc L (.int x :: S) := by
  subst hp
  exact g.st fun T locs X e t kk => XS.ineg (g := mkF W.m pc L (.int x :: S)) X.here C.x rfl (C.b hd) rfl kk
theorem g_lneg (C : Cx W Z R own code mx ret nm wsx hx0) {x : Int64} (hd : decode code pc = .ok (.lneg, 1)) (hp : pc + 1 = pc') (g : Go W Q h k n pc' L (.long (-x) :: S)) : Go W Q h k n pc L (.long x :: S) := by
  subst hp
  exact g.st fun T locs X e t kk => XS.lneg (g := mkF W.m pc L (.long x :: S)) X.here C.x rfl (C.b hd) rfl kk
theorem g_i2l (C : Cx W Z R own code mx ret nm wsx hx0) {x : Int32} (hd : decode code pc = .ok (.i2l, 1)) (hp : pc + 1 = pc') (g : Go W Q h k n pc' L (.long (x.toInt64) :: S)) : Go W Q h k n pc L (.int x :: S) := by
  subst hp
  exact g.st fun T locs X e t kk => XS.i2l (g := mkF W.m pc L (.int x :: S)) X.here C.x rfl (C.b hd) rfl kk
theorem g_l2i (C : Cx W Z R own code mx ret nm wsx hx0) {x : Int64} (hd : decode code pc = .ok (.l2i, 1)) (hp : pc + 1 = pc') (g : Go W Q h k n pc' L (.int (x.toInt32) :: S)) : Go W Q h k n pc L (.long x :: S) := by
  subst hp
  exact g.st fun T locs X e t kk => XS.l2i (g := mkF W.m pc L (.long x :: S)) X.here C.x rfl (C.b hd) rfl kk
theorem g_i2b (C : Cx W Z R own code mx ret nm wsx hx0) {x : Int32} (hd : decode code pc = .ok (.i2b, 1)) (hp : pc + 1 = pc') (g : Go W Q h k n pc' L (.int (x.toInt8.toInt32) :: S)) : Go W Q h k n pc L (.int x :: S) := by
  subst hp
  exact g.st fun T locs X e t kk => XS.i2b (g := mkF W.m pc L (.int x :: S)) X.here C.x rfl (C.b hd) rfl kk
theorem g_i2c (C : Cx W Z R own code mx ret nm wsx hx0) {x : Int32} (hd : decode code pc = .ok (.i2c, 1)) (hp : pc + 1 = pc') (g : Go W Q h k n pc' L (.int (x.toUInt32.toUInt16.toUInt32.toInt32) :: S)) : Go W Q h k n pc L (.int x :: S) := by
  subst hp
  exact g.st fun T locs X e t kk => XS.i2c (g := mkF W.m pc L (.int x :: S)) X.here C.x rfl (C.b hd) rfl kk
theorem g_i2s (C : Cx W Z R own code mx ret nm wsx hx0) {x : Int32} (hd : decode code pc = .ok (.i2s, 1)) (hp : pc + 1 = pc') (g : Go W Q h k n pc' L (.int (x.toInt16.toInt32) :: S)) : Go W Q h k n pc L (.int x :: S) := by
  subst hp
  exact g.st fun T locs X e t kk => XS.i2s (g := mkF W.m pc L (.int x :: S)) X.here C.x rfl (C.b hd) rfl kk
theorem g_iconst (C : Cx W Z R own code mx ret nm wsx hx0) {i : Int} {z : Int32} (hd : decode code pc = .ok (.iconst i, 1)) (hp : pc + 1 = pc') (hz : Int32.ofInt i = z) (g : Go W Q h k n pc' L (.int z :: S)) : Go W Q h k n pc L S := by
  subst hp hz
  exact g.st fun T locs X e t kk => XS.iconst (g := mkF W.m pc L S) X.here C.x rfl (C.b hd) kk
theorem g_bipush (C : Cx W Z R own code mx ret nm wsx hx0) {i : Int} {z : Int32} (hd : decode code pc = .ok (.bipush i, 2)) (hp : pc + 2 = pc') (hz : (Int8.ofInt i).toInt32 = z) (g : Go W Q h k n pc' L (.int z :: S)) : Go W Q h k n pc L S := by
  subst hp hz
  exact g.st fun T locs X e t kk => XS.bipush (g := mkF W.m pc L S) X.here C.x rfl (C.b hd) kk
theorem g_sipush (C : Cx W Z R own code mx ret nm wsx hx0) {i : Int} {z : Int32} (hd : decode code pc = .ok (.sipush i, 3)) (hp : pc + 3 = pc') (hz : (Int16.ofInt i).toInt32 = z) (g : Go W Q h k n pc' L (.int z :: S)) : Go W Q h k n pc L S := by
  subst hp hz
  exact g.st fun T locs X e t kk => XS.sipush (g := mkF W.m pc L S) X.here C.x rfl (C.b hd) kk
theorem g_lconst (C : Cx W Z R own code mx ret nm wsx hx0) {i : Fin 2} {z : Int64} (hd : decode code pc = .ok (.lconst i, 1)) (hp : pc + 1 = pc') (hz : Int64.ofNat i = z) (g : Go W Q h k n pc' L (.long z :: S)) : Go W Q h k n pc L S := by
  subst hp hz
  exact g.st fun T locs X e t kk => XS.lconst (g := mkF W.m pc L S) X.here C.x rfl (C.b hd) kk
theorem g_aconst_null (C : Cx W Z R own code mx ret nm wsx hx0)  (hd : decode code pc = .ok (.aconst_null, 1)) (hp : pc + 1 = pc') (g : Go W Q h k n pc' L (.null :: S)) : Go W Q h k n pc L (S) := by
  subst hp
  exact g.st fun T locs X e t kk => XS.aconstNull (g := mkF W.m pc L (S)) X.here C.x rfl (C.b hd) kk
theorem g_dup (C : Cx W Z R own code mx ret nm wsx hx0) {x : Value} (hd : decode code pc = .ok (.dup, 1)) (hp : pc + 1 = pc') (hc : x.category = 1) (g : Go W Q h k n pc' L (x :: x :: S)) : Go W Q h k n pc L (x :: S) := by
  subst hp
  exact g.st fun T locs X e t kk => XS.dup (g := mkF W.m pc L (x :: S)) X.here C.x rfl (C.b hd) rfl hc kk
theorem g_dup_x1 (C : Cx W Z R own code mx ret nm wsx hx0) {x y : Value} (hd : decode code pc = .ok (.dup_x1, 1)) (hp : pc + 1 = pc') (hc : x.category = 1) (hc' : y.category = 1) (g : Go W Q h k n pc' L (x :: y :: x :: S)) : Go W Q h k n pc L (x :: y :: S) := by
  subst hp
  exact g.st fun T locs X e t kk => XS.dupX1 (g := mkF W.m pc L (x :: y :: S)) X.here C.x rfl (C.b hd) rfl hc hc' kk
theorem dupX2s {tb : Tables} [Ours tb] {e : Env} {below : List Frame} {T target : State} {m : MethodId} {c : Code} {g : JFrame} (h : At T m c below) (hx : tb.exec = Jvm.exec) (hg : g.method = m) {x y z : Value} {rest : List Value} (hd : decode c.code g.pc = .ok (.dup_x2, 1)) (hs : g.stack = x :: y :: z :: rest) (hc : x.category = 1) (hc' : y.category = 1) (hc'' : z.category = 1)
    (hr : Steps tb e below (T.setTop { g with pc := g.pc + 1, stack := x :: y :: z :: x :: rest }) target) : Steps tb e below (T.setTop g) target := by
  subst hg
  jvm_step h [h.top, hx, hd, hs, hc, hc', hc'']
  exact hr
theorem g_dup_x2 (C : Cx W Z R own code mx ret nm wsx hx0) {x y z : Value} (hd : decode code pc = .ok (.dup_x2, 1)) (hp : pc + 1 = pc') (hc : x.category = 1) (hc' : y.category = 1) (hc'' : z.category = 1) (g : Go W Q h k n pc' L (x :: y :: z :: x :: S)) : Go W Q h k n pc L (x :: y :: z :: S) := by
  subst hp
  exact g.st fun T locs X e t kk => dupX2s (g := mkF W.m pc L (x :: y :: z :: S)) X.here C.x rfl (C.b hd) rfl hc hc' hc'' kk
theorem g_dup2 (C : Cx W Z R own code mx ret nm wsx hx0) {x y : Value} (hd : decode code pc = .ok (.dup2, 1)) (hp : pc + 1 = pc') (hc : x.category = 1) (hc' : y.category = 1) (g : Go W Q h k n pc' L (x :: y :: x :: y :: S)) : Go W Q h k n pc L (x :: y :: S) := by
  subst hp
  exact g.st fun T locs X e t kk => XT.dup2 (g := mkF W.m pc L (x :: y :: S)) X.here C.x rfl (C.b hd) rfl hc hc' kk
theorem g_dup2L (C : Cx W Z R own code mx ret nm wsx hx0) {x : Int64} (hd : decode code pc = .ok (.dup2, 1)) (hp : pc + 1 = pc') (g : Go W Q h k n pc' L (.long x :: .long x :: S)) : Go W Q h k n pc L (.long x :: S) := by
  subst hp
  exact g.st fun T locs X e t kk => XT.dup2L (g := mkF W.m pc L (.long x :: S)) X.here C.x rfl (C.b hd) rfl kk
theorem g_pop (C : Cx W Z R own code mx ret nm wsx hx0) {x : Value} (hd : decode code pc = .ok (.pop, 1)) (hp : pc + 1 = pc') (hc : x.category = 1) (g : Go W Q h k n pc' L (S)) : Go W Q h k n pc L (x :: S) := by
  subst hp
  exact g.st fun T locs X e t kk => XS.pop (g := mkF W.m pc L (x :: S)) X.here C.x rfl (C.b hd) rfl hc kk
theorem g_iload (C : Cx W Z R own code mx ret nm wsx hx0) {i : Nat} {x : Int32} (hd : decode code pc = .ok (.iload i, 2)) (hp : pc + 2 = pc') (hl : L[i]? = some (.val (.int x))) (g : Go W Q h k n pc' L (.int x :: S)) : Go W Q h k n pc L (S) := by
  subst hp
  exact g.st fun T locs X e t kk => XS.iload (g := mkF W.m pc L (S)) X.here C.x rfl (C.b hd) hl kk
theorem g_iloadN (C : Cx W Z R own code mx ret nm wsx hx0) {i : Fin 4} {x : Int32} (hd : decode code pc = .ok (.iload_n i, 1)) (hp : pc + 1 = pc') (hl : L[i.val]? = some (.val (.int x))) (g : Go W Q h k n pc' L (.int x :: S)) : Go W Q h k n pc L (S) := by
  subst hp
  exact g.st fun T locs X e t kk => XS.iloadN (g := mkF W.m pc L (S)) X.here C.x rfl (C.b hd) hl kk
theorem g_lload (C : Cx W Z R own code mx ret nm wsx hx0) {i : Nat} {x : Int64} (hd : decode code pc = .ok (.lload i, 2)) (hp : pc + 2 = pc') (hl : L[i]? = some (.val (.long x))) (g : Go W Q h k n pc' L (.long x :: S)) : Go W Q h k n pc L (S) := by
  subst hp
  exact g.st fun T locs X e t kk => XS.lload (g := mkF W.m pc L (S)) X.here C.x rfl (C.b hd) hl kk
theorem g_lloadN (C : Cx W Z R own code mx ret nm wsx hx0) {i : Fin 4} {x : Int64} (hd : decode code pc = .ok (.lload_n i, 1)) (hp : pc + 1 = pc') (hl : L[i.val]? = some (.val (.long x))) (g : Go W Q h k n pc' L (.long x :: S)) : Go W Q h k n pc L (S) := by
  subst hp
  exact g.st fun T locs X e t kk => XS.lloadN (g := mkF W.m pc L (S)) X.here C.x rfl (C.b hd) hl kk
theorem g_aload (C : Cx W Z R own code mx ret nm wsx hx0) {i : Nat} {x : Value} (hd : decode code pc = .ok (.aload i, 2)) (hp : pc + 2 = pc') (hl : L[i]? = some (.val x)) (hv : x.isRef = true) (g : Go W Q h k n pc' L (x :: S)) : Go W Q h k n pc L (S) := by
  subst hp
  exact g.st fun T locs X e t kk => XS.aload (g := mkF W.m pc L (S)) X.here C.x rfl (C.b hd) hl hv kk
theorem g_istore (C : Cx W Z R own code mx ret nm wsx hx0) {i : Nat} {x : Int32} (hd : decode code pc = .ok (.istore i, 2)) (hp : pc + 2 = pc') (hl : storeLocals L i (.int x) = some L') (g : Go W Q h k n pc' L' (S)) : Go W Q h k n pc L (.int x :: S) := by
  subst hp
  exact g.st fun T locs X e t kk => XS.istore (g := mkF W.m pc L (.int x :: S)) X.here C.x rfl (C.b hd) rfl hl kk
theorem g_lstore (C : Cx W Z R own code mx ret nm wsx hx0) {i : Nat} {x : Int64} (hd : decode code pc = .ok (.lstore i, 2)) (hp : pc + 2 = pc') (hl : storeLocals L i (.long x) = some L') (g : Go W Q h k n pc' L' (S)) : Go W Q h k n pc L (.long x :: S) := by
  subst hp
  exact g.st fun T locs X e t kk => XS.lstore (g := mkF W.m pc L (.long x :: S)) X.here C.x rfl (C.b hd) rfl hl kk
theorem g_astore (C : Cx W Z R own code mx ret nm wsx hx0) {i : Nat} {x : Value} (hd : decode code pc = .ok (.astore i, 2)) (hp : pc + 2 = pc') (hv : x.isRef = true) (hl : storeLocals L i x = some L') (g : Go W Q h k n pc' L' (S)) : Go W Q h k n pc L (x :: S) := by
  subst hp
  exact g.st fun T locs X e t kk => XS.astore (g := mkF W.m pc L (x :: S)) X.here C.x rfl (C.b hd) rfl hv hl kk
theorem g_aloadN (C : Cx W Z R own code mx ret nm wsx hx0) {i : Fin 4} {x : Value} (hd : decode code pc = .ok (.aload_n i, 1)) (hp : pc + 1 = pc') (hl : L[i.val]? = some (.val x)) (hv : x.isRef = true) (g : Go W Q h k n pc' L (x :: S)) : Go W Q h k n pc L (S) := by
  subst hp
  exact g.st fun T locs X e t kk => XS.aloadN (g := mkF W.m pc L (S)) X.here C.x rfl (C.b hd) hl hv kk
theorem g_istoreN (C : Cx W Z R own code mx ret nm wsx hx0) {i : Fin 4} {x : Int32} (hd : decode code pc = .ok (.istore_n i, 1)) (hp : pc + 1 = pc') (hl : storeLocals L i.val (.int x) = some L') (g : Go W Q h k n pc' L' (S)) : Go W Q h k n pc L (.int x :: S) := by
  subst hp
  exact g.st fun T locs X e t kk => XS.istoreN (g := mkF W.m pc L (.int x :: S)) X.here C.x rfl (C.b hd) rfl hl kk
theorem g_lstoreN (C : Cx W Z R own code mx ret nm wsx hx0) {i : Fin 4} {x : Int64} (hd : decode code pc = .ok (.lstore_n i, 1)) (hp : pc + 1 = pc') (hl : storeLocals L i.val (.long x) = some L') (g : Go W Q h k n pc' L' (S)) : Go W Q h k n pc L (.long x :: S) := by
  subst hp
  exact g.st fun T locs X e t kk => XS.lstoreN (g := mkF W.m pc L (.long x :: S)) X.here C.x rfl (C.b hd) rfl hl kk
theorem g_astoreN (C : Cx W Z R own code mx ret nm wsx hx0) {i : Fin 4} {x : Value} (hd : decode code pc = .ok (.astore_n i, 1)) (hp : pc + 1 = pc') (hv : x.isRef = true) (hl : storeLocals L i.val x = some L') (g : Go W Q h k n pc' L' (S)) : Go W Q h k n pc L (x :: S) := by
  subst hp
  exact g.st fun T locs X e t kk => XS.astoreN (g := mkF W.m pc L (x :: S)) X.here C.x rfl (C.b hd) rfl hv hl kk
theorem g_iinc (C : Cx W Z R own code mx ret nm wsx hx0) {i : Nat} {cst : Int} {x z : Int32} (hd : decode code pc = .ok (.iinc i cst, 3)) (hp : pc + 3 = pc') (hl : L[i]? = some (.val (.int x))) (hz : x + Int32.ofInt cst = z) (hl' : storeLocals L i (.int z) = some L') (g : Go W Q h k n pc' L' (S)) : Go W Q h k n pc L (S) := by
  subst hp
  exact g.st fun T locs X e t kk => XS.iinc (g := mkF W.m pc L (S)) X.here C.x rfl (C.b hd) hl (hz ▸ hl') kk
theorem g_goto (C : Cx W Z R own code mx ret nm wsx hx0) {o : Int} (hd : decode code pc = .ok (.goto o, 3)) (ho : 0 ≤ (pc : Int) + o) (hp : ((pc : Int) + o).toNat = pc') (g : Go W Q h k n pc' L S) : Go W Q h k n pc L S :=
  g.st fun T locs X e t kk => XS.goto (g := mkF W.m pc L S) X.here C.x rfl rfl (C.b hd) ho hp kk
theorem g_ldcI (C : Cx W Z R own code mx ret nm wsx hx0) {i : Nat} {z : Int32} (hd : decode code pc = .ok (.ldc i, 2)) (hp : pc + 2 = pc') (w : (Jvm.Cond.constant own i z).before a0 Z = true) (g : Go W Q h k n pc' L (.int z :: S)) : Go W Q h k n pc L S := by
  subst hp
  exact g.st fun T locs X e t kk => X.ldcInt C.x C.o (mvT C.z w) (g := mkF W.m pc L S) rfl (C.b hd) t kk
theorem g_ldcwI (C : Cx W Z R own code mx ret nm wsx hx0) {i : Nat} {z : Int32} (hd : decode code pc = .ok (.ldc_w i, 3)) (hp : pc + 3 = pc') (w : (Jvm.Cond.constant own i z).before a0 Z = true) (g : Go W Q h k n pc' L (.int z :: S)) : Go W Q h k n pc L S := by
  subst hp
  exact g.st fun T locs X e t kk => X.ldcwInt C.x C.o (mvT C.z w) (g := mkF W.m pc L S) rfl (C.b hd) t kk
theorem g_ldc2L (C : Cx W Z R own code mx ret nm wsx hx0) {i : Nat} {z : Int64} (hd : decode code pc = .ok (.ldc2_w i, 3)) (hp : pc + 3 = pc') (w : (Jvm.Cond.constantLong own i z).before a0 Z = true) (g : Go W Q h k n pc' L (.long z :: S)) : Go W Q h k n pc L S := by
  subst hp
  exact g.st fun T locs X e t kk => X.ldc2Long C.x C.o (mvT C.z w) (g := mkF W.m pc L S) rfl (C.b hd) t kk
theorem g_ldcF (C : Cx W Z R own code mx ret nm wsx hx0) {i : Nat} {z : UInt32} (hd : decode code pc = .ok (.ldc i, 2)) (hp : pc + 2 = pc') (w : (Jvm.Cond.constantFloat own i z).before a0 Z = true) (g : Go W Q h k n pc' L (.float z :: S)) : Go W Q h k n pc L S := by
  subst hp
  obtain ⟨kk, cf, hk, hcf, hcp⟩ := Cond.constantFloat_spec C.o (mvT (args := #[]) C.z w)
  exact g.st fun T locs X e t kt => X.ldcFloat C.x hk hcf hcp (g := mkF W.m pc L S) rfl (C.b hd) t kt
/-- what a branch asks of two integers -/
def icp : ClassFile.Cond → Int → Int → Prop
  | .eq, x, y => x = y
  | .ne, x, y => ¬ x = y
  | .lt, x, y => x < y
  | .ge, x, y => y ≤ x
  | .gt, x, y => y < x
  | .le, x, y => x ≤ y
instance instIcp : (cd : ClassFile.Cond) → (x y : Int) → Decidable (icp cd x y)
  | .eq, x, y => inferInstanceAs (Decidable (x = y))
  | .ne, x, y => inferInstanceAs (Decidable (¬ x = y))
  | .lt, x, y => inferInstanceAs (Decidable (x < y))
  | .ge, x, y => inferInstanceAs (Decidable (y ≤ x))
  | .gt, x, y => inferInstanceAs (Decidable (y < x))
  | .le, x, y => inferInstanceAs (Decidable (x ≤ y))
theorem icp_eq (cd : ClassFile.Cond) (x y : Int32) : if_icmp.holds cd x y = decide (icp cd x.toInt y.toInt) := by
  rw [Bool.eq_iff_iff, decide_eq_true_iff]
  cases cd <;> simp [if_icmp.holds, icp, Int32.lt_iff_toInt_lt, Int32.le_iff_toInt_le, Int32.toInt_inj]
theorem icp_long (cd : ClassFile.Cond) (x y : Int64) : ifCond.holds cd (lcmpW x y) = decide (icp cd x.toInt y.toInt) := by
  rw [if0, icp_eq, Bool.eq_iff_iff, decide_eq_true_iff, decide_eq_true_iff]
  have c := c_lcmp x y
  have z : (0 : Int32).toInt = 0 := rfl
  rw [z]
  rcases Int.lt_trichotomy x.toInt y.toInt with q | q | q
  · rw [c.1 q]; cases cd <;> simp only [icp] <;> omega
  · rw [c.2.1 q]; cases cd <;> simp only [icp] <;> first | omega | simp [q]
  · rw [c.2.2 q]; cases cd <;> simp only [icp] <;> omega

theorem g_icmpY (C : Cx W Z R own code mx ret nm wsx hx0) {cd : ClassFile.Cond} {o : Int} {x y : Int32} {xi yi : Int} (hd : decode code pc = .ok (.if_icmp cd o, 3)) (ho : 0 ≤ (pc : Int) + o) (hp1 : ((pc : Int) + o).toNat = pc1) (hx : x.toInt = xi) (hy : y.toInt = yi) (q : icp cd xi yi) (g : Go W Q h k n pc1 L S) : Go W Q h k n pc L (.int y :: .int x :: S) := by
  subst hx hy
  exact g.st fun T locs X e t kk => XS.icmpYes (g := mkF W.m pc L (.int y :: .int x :: S)) X.here C.x rfl rfl (C.b hd) rfl ((icp_eq cd x y).trans (decide_eq_true q)) ho hp1 kk
theorem g_icmpN (C : Cx W Z R own code mx ret nm wsx hx0) {cd : ClassFile.Cond} {o : Int} {x y : Int32} {xi yi : Int} (hd : decode code pc = .ok (.if_icmp cd o, 3)) (hp2 : pc + 3 = pc2) (hx : x.toInt = xi) (hy : y.toInt = yi) (q : ¬ (icp cd xi yi)) (g : Go W Q h k n pc2 L S) : Go W Q h k n pc L (.int y :: .int x :: S) := by
  subst hx hy hp2
  exact g.st fun T locs X e t kk => XS.icmpNo (g := mkF W.m pc L (.int y :: .int x :: S)) X.here C.x rfl (C.b hd) rfl ((icp_eq cd x y).trans (decide_eq_false q)) kk
theorem g_icmp (C : Cx W Z R own code mx ret nm wsx hx0) {cd : ClassFile.Cond} {o : Int} {x y : Int32} {xi yi : Int} (hd : decode code pc = .ok (.if_icmp cd o, 3)) (ho : 0 ≤ (pc : Int) + o) (hp1 : ((pc : Int) + o).toNat = pc1) (hp2 : pc + 3 = pc2) (hx : x.toInt = xi) (hy : y.toInt = yi) (g1 : icp cd xi yi → Go W Q h k n pc1 L S) (g2 : ¬ (icp cd xi yi) → Go W Q h k n pc2 L S) : Go W Q h k n pc L (.int y :: .int x :: S) := by
  by_cases q : icp cd xi yi
  · exact g_icmpY C hd ho hp1 hx hy q (g1 q)
  · exact g_icmpN C hd hp2 hx hy q (g2 q)
theorem g_ifY (C : Cx W Z R own code mx ret nm wsx hx0) {cd : ClassFile.Cond} {o : Int} {x : Int32} {xi : Int} (hd : decode code pc = .ok (.ifCond cd o, 3)) (ho : 0 ≤ (pc : Int) + o) (hp1 : ((pc : Int) + o).toNat = pc1) (hx : x.toInt = xi) (q : icp cd xi 0) (g : Go W Q h k n pc1 L S) : Go W Q h k n pc L (.int x :: S) := by
  subst hx
  exact g.st fun T locs X e t kk => XS.ifYes (g := mkF W.m pc L (.int x :: S)) X.here C.x rfl rfl (C.b hd) rfl ((if0 cd x).trans ((icp_eq cd x 0).trans (decide_eq_true q))) ho hp1 kk
theorem g_ifN (C : Cx W Z R own code mx ret nm wsx hx0) {cd : ClassFile.Cond} {o : Int} {x : Int32} {xi : Int} (hd : decode code pc = .ok (.ifCond cd o, 3)) (hp2 : pc + 3 = pc2) (hx : x.toInt = xi) (q : ¬ (icp cd xi 0)) (g : Go W Q h k n pc2 L S) : Go W Q h k n pc L (.int x :: S) := by
  subst hx hp2
  exact g.st fun T locs X e t kk => XS.ifNo (g := mkF W.m pc L (.int x :: S)) X.here C.x rfl (C.b hd) rfl ((if0 cd x).trans ((icp_eq cd x 0).trans (decide_eq_false q))) kk
theorem g_if (C : Cx W Z R own code mx ret nm wsx hx0) {cd : ClassFile.Cond} {o : Int} {x : Int32} {xi : Int} (hd : decode code pc = .ok (.ifCond cd o, 3)) (ho : 0 ≤ (pc : Int) + o) (hp1 : ((pc : Int) + o).toNat = pc1) (hp2 : pc + 3 = pc2) (hx : x.toInt = xi) (g1 : icp cd xi 0 → Go W Q h k n pc1 L S) (g2 : ¬ (icp cd xi 0) → Go W Q h k n pc2 L S) : Go W Q h k n pc L (.int x :: S) := by
  by_cases q : icp cd xi 0
  · exact g_ifY C hd ho hp1 hx q (g1 q)
  · exact g_ifN C hd hp2 hx q (g2 q)
/-- lcmp and the branch behind it -/
theorem g_lcmpY (C : Cx W Z R own code mx ret nm wsx hx0) {cd : ClassFile.Cond} {o : Int} {x y : Int64} {xi yi : Int} (hd : decode code pc = .ok (.lcmp, 1)) (hd' : decode code pc' = .ok (.ifCond cd o, 3)) (hp : pc + 1 = pc') (ho : 0 ≤ (pc' : Int) + o) (hp1 : ((pc' : Int) + o).toNat = pc1) (hx : x.toInt = xi) (hy : y.toInt = yi) (q : icp cd xi yi) (g : Go W Q h k n pc1 L S) : Go W Q h k n pc L (.long y :: .long x :: S) := by
  subst hp hx hy
  have g' : Go W Q h k n (pc + 1) L (.int (lcmpW x y) :: S) := g.st fun T locs X e t kk => XS.ifYes (g := mkF W.m (pc + 1) L (.int (lcmpW x y) :: S)) X.here C.x rfl rfl (C.b hd') rfl ((icp_long cd x y).trans (decide_eq_true q)) ho hp1 kk
  exact g'.st fun T locs X e t kk => XS.lcmp (g := mkF W.m pc L (.long y :: .long x :: S)) X.here C.x rfl (C.b hd) rfl kk
theorem g_lcmpN (C : Cx W Z R own code mx ret nm wsx hx0) {cd : ClassFile.Cond} {o : Int} {x y : Int64} {xi yi : Int} (hd : decode code pc = .ok (.lcmp, 1)) (hd' : decode code pc' = .ok (.ifCond cd o, 3)) (hp : pc + 1 = pc') (hp2 : pc' + 3 = pc2) (hx : x.toInt = xi) (hy : y.toInt = yi) (q : ¬ icp cd xi yi) (g : Go W Q h k n pc2 L S) : Go W Q h k n pc L (.long y :: .long x :: S) := by
  subst hp hx hy hp2
  have g' : Go W Q h k n (pc + 1) L (.int (lcmpW x y) :: S) := g.st fun T locs X e t kk => XS.ifNo (g := mkF W.m (pc + 1) L (.int (lcmpW x y) :: S)) X.here C.x rfl (C.b hd') rfl ((icp_long cd x y).trans (decide_eq_false q)) kk
  exact g'.st fun T locs X e t kk => XS.lcmp (g := mkF W.m pc L (.long y :: .long x :: S)) X.here C.x rfl (C.b hd) rfl kk
theorem g_lcmp (C : Cx W Z R own code mx ret nm wsx hx0) {cd : ClassFile.Cond} {o : Int} {x y : Int64} {xi yi : Int} (hd : decode code pc = .ok (.lcmp, 1)) (hd' : decode code pc' = .ok (.ifCond cd o, 3)) (hp : pc + 1 = pc') (ho : 0 ≤ (pc' : Int) + o) (hp1 : ((pc' : Int) + o).toNat = pc1) (hp2 : pc' + 3 = pc2) (hx : x.toInt = xi) (hy : y.toInt = yi) (g1 : icp cd xi yi → Go W Q h k n pc1 L S) (g2 : ¬ icp cd xi yi → Go W Q h k n pc2 L S) : Go W Q h k n pc L (.long y :: .long x :: S) := by
  by_cases q : icp cd xi yi
  · exact g_lcmpY C hd hd' hp ho hp1 hx hy q (g1 q)
  · exact g_lcmpN C hd hd' hp hp2 hx hy q (g2 q)
theorem icp_b0 {P : Prop} [Decidable P] : icp .eq (b2i P).toInt 0 ↔ ¬ P := by
  show (b2i P).toInt = 0 ↔ ¬ P
  rw [b2i_toInt]; split <;> simp [*]
theorem icp_b1 {P : Prop} [Decidable P] : icp .ne (b2i P).toInt 0 ↔ P := by
  show ¬ (b2i P).toInt = 0 ↔ P
  rw [b2i_toInt]; split <;> simp [*]
/-- ifeq on a truth value -/
theorem g_ifeqb (C : Cx W Z R own code mx ret nm wsx hx0) {o : Int} {x : Int32} {P : Prop} [Decidable P] (hd : decode code pc = .ok (.ifCond .eq o, 3)) (ho : 0 ≤ (pc : Int) + o) (hp1 : ((pc : Int) + o).toNat = pc1) (hp2 : pc + 3 = pc2) (hx : x = b2i P) (g1 : ¬ P → Go W Q h k n pc1 L S) (g2 : P → Go W Q h k n pc2 L S) : Go W Q h k n pc L (.int x :: S) := by
  subst hx
  exact g_if C hd ho hp1 hp2 rfl (fun q => g1 (icp_b0.mp q)) (fun q => g2 (Decidable.not_not.mp fun z => q (icp_b0.mpr z)))
/-- ifne on a truth value -/
theorem g_ifneb (C : Cx W Z R own code mx ret nm wsx hx0) {o : Int} {x : Int32} {P : Prop} [Decidable P] (hd : decode code pc = .ok (.ifCond .ne o, 3)) (ho : 0 ≤ (pc : Int) + o) (hp1 : ((pc : Int) + o).toNat = pc1) (hp2 : pc + 3 = pc2) (hx : x = b2i P) (g1 : P → Go W Q h k n pc1 L S) (g2 : ¬ P → Go W Q h k n pc2 L S) : Go W Q h k n pc L (.int x :: S) := by
  subst hx
  exact g_if C hd ho hp1 hp2 rfl (fun q => g1 (icp_b1.mp q)) (fun q => g2 fun z => q (icp_b1.mpr z))
theorem g_icmpbeq (C : Cx W Z R own code mx ret nm wsx hx0) {o : Int} {x y : Int32} {P P' : Prop} [Decidable P] [Decidable P'] (hd : decode code pc = .ok (.if_icmp .eq o, 3)) (ho : 0 ≤ (pc : Int) + o) (hp1 : ((pc : Int) + o).toNat = pc1) (hp2 : pc + 3 = pc2) (hx : x = b2i P) (hy : y = b2i P') (g1 : (P ↔ P') → Go W Q h k n pc1 L S) (g2 : ¬ (P ↔ P') → Go W Q h k n pc2 L S) : Go W Q h k n pc L (.int y :: .int x :: S) := by
  subst hx hy
  exact g_icmp C hd ho hp1 hp2 rfl rfl (fun q => g1 (b2i_inj.mp (Int32.toInt_inj.mp q))) (fun q => g2 fun z => q (congrArg Int32.toInt (b2i_inj.mpr z)))
theorem g_icmpbne (C : Cx W Z R own code mx ret nm wsx hx0) {o : Int} {x y : Int32} {P P' : Prop} [Decidable P] [Decidable P'] (hd : decode code pc = .ok (.if_icmp .ne o, 3)) (ho : 0 ≤ (pc : Int) + o) (hp1 : ((pc : Int) + o).toNat = pc1) (hp2 : pc + 3 = pc2) (hx : x = b2i P) (hy : y = b2i P') (g1 : ¬ (P ↔ P') → Go W Q h k n pc1 L S) (g2 : (P ↔ P') → Go W Q h k n pc2 L S) : Go W Q h k n pc L (.int y :: .int x :: S) := by
  subst hx hy
  exact g_icmp C hd ho hp1 hp2 rfl rfl (fun q => g1 fun z => q (congrArg Int32.toInt (b2i_inj.mpr z))) (fun q => g2 (b2i_inj.mp (Int32.toInt_inj.mp (Decidable.not_not.mp q))))
theorem isRef_cases {v : Value} (hv : v.isRef = true) (h0 : v ≠ .null) : ∃ b, v = .ref b := by
  rcases ref_cases hv with q | q
  · exact absurd q h0
  · exact q
theorem g_ifnonnull (C : Cx W Z R own code mx ret nm wsx hx0) {o : Int} {v : Value} (hd : decode code pc = .ok (.ifnonnull o, 3)) (ho : 0 ≤ (pc : Int) + o) (hp1 : ((pc : Int) + o).toNat = pc1) (hp2 : pc + 3 = pc2) (hv : v.isRef = true) (g1 : v ≠ .null → Go W Q h k n pc1 L S) (g2 : v = .null → Go W Q h k n pc2 L S) : Go W Q h k n pc L (v :: S) := by
  by_cases q : v = .null
  · have g := g2 q
    subst q hp2
    exact g.st fun T locs X e t kk => XS.ifnonnullNo (g := mkF W.m pc L (.null :: S)) X.here C.x rfl (C.b hd) rfl kk
  · have g := g1 q
    obtain ⟨b, rfl⟩ := isRef_cases hv q
    exact g.st fun T locs X e t kk => XS.ifnonnullYes (g := mkF W.m pc L (.ref b :: S)) X.here C.x rfl rfl (C.b hd) rfl ho hp1 kk
theorem g_ifnull (C : Cx W Z R own code mx ret nm wsx hx0) {o : Int} {v : Value} (hd : decode code pc = .ok (.ifnull o, 3)) (ho : 0 ≤ (pc : Int) + o) (hp1 : ((pc : Int) + o).toNat = pc1) (hp2 : pc + 3 = pc2) (hv : v.isRef = true) (g1 : v = .null → Go W Q h k n pc1 L S) (g2 : v ≠ .null → Go W Q h k n pc2 L S) : Go W Q h k n pc L (v :: S) := by
  by_cases q : v = .null
  · have g := g1 q
    subst q
    exact g.st fun T locs X e t kk => XS.ifnullYes (g := mkF W.m pc L (.null :: S)) X.here C.x rfl rfl (C.b hd) rfl ho hp1 kk
  · have g := g2 q
    obtain ⟨b, rfl⟩ := isRef_cases hv q
    subst hp2
    exact g.st fun T locs X e t kk => XS.ifnullNo (g := mkF W.m pc L (.ref b :: S)) X.here C.x rfl (C.b hd) rfl kk
theorem g_acmpne (C : Cx W Z R own code mx ret nm wsx hx0) {o : Int} {v w : Value} (hd : decode code pc = .ok (.if_acmp .ne o, 3)) (ho : 0 ≤ (pc : Int) + o) (hp1 : ((pc : Int) + o).toNat = pc1) (hp2 : pc + 3 = pc2) (hv : v.isRef = true) (hw : w.isRef = true) (g1 : v ≠ w → Go W Q h k n pc1 L S) (g2 : v = w → Go W Q h k n pc2 L S) : Go W Q h k n pc L (w :: v :: S) := by
  by_cases q : v = w
  · exact (g2 q).st fun T locs X e t kk => Jvm.RoadKit.acmp (g := mkF W.m pc L (w :: v :: S)) X C.x rfl hv hw (same := true) rfl (C.b hd) rfl (decide_eq_true q) ho (by rw [← hp2]; rfl) kk
  · exact (g1 q).st fun T locs X e t kk => Jvm.RoadKit.acmp (g := mkF W.m pc L (w :: v :: S)) X C.x rfl hv hw (same := false) rfl (C.b hd) rfl (decide_eq_false q) ho hp1.symm kk
theorem g_acmpeq (C : Cx W Z R own code mx ret nm wsx hx0) {o : Int} {v w : Value} (hd : decode code pc = .ok (.if_acmp .eq o, 3)) (ho : 0 ≤ (pc : Int) + o) (hp1 : ((pc : Int) + o).toNat = pc1) (hp2 : pc + 3 = pc2) (hv : v.isRef = true) (hw : w.isRef = true) (g1 : v = w → Go W Q h k n pc1 L S) (g2 : v ≠ w → Go W Q h k n pc2 L S) : Go W Q h k n pc L (w :: v :: S) := by
  by_cases q : v = w
  · exact (g1 q).st fun T locs X e t kk => Jvm.RoadKit.acmp (g := mkF W.m pc L (w :: v :: S)) X C.x rfl hv hw (same := true) rfl (C.b hd) rfl (decide_eq_true q) ho hp1.symm kk
  · exact (g2 q).st fun T locs X e t kk => Jvm.RoadKit.acmp (g := mkF W.m pc L (w :: v :: S)) X C.x rfl hv hw (same := false) rfl (C.b hd) rfl (decide_eq_false q) ho (by rw [← hp2]; rfl) kk

/-! fields, objects, arrays -/
theorem g_getL (C : Cx W Z R own code mx ret nm wsx hx0) {i : Nat} {R0 O f d host : String} {a : Addr} {v : Value} (hd : decode code pc = .ok (.getfield i, 3)) (hp : pc + 3 = pc') (w : (Jvm.Cond.fieldLink own i R0 f d).before a0 Z = true ∨ (Jvm.Cond.fieldLinkNest own i R0 f d host).before a0 Z = true) (via : Via Z R0 O f d) (F : Fld Z h a O f d v) (g : Go W Q h k n pc' L (v :: S)) : Go W Q h k n pc L (.ref a :: S) := fun T hT => by
  obtain ⟨locs, X, e, N⟩ := hT
  subst hp
  obtain ⟨T', X', e', st⟩ := getF X C.x C.z C.o w via e F (g := mkF W.m pc L (.ref a :: S)) rfl rfl (C.b hd)
  exact Out.st st (g T' ⟨locs, X', e', N⟩)
theorem g_getO (C : Cx W Z R own code mx ret nm wsx hx0) {i j : Nat} {O f d Cl : String} {a : Addr} {v : Value} {fs : List (String × String × String × Value)} (hd : decode code pc = .ok (.getfield i, 3)) (hp : pc + 3 = pc') (w : (Jvm.Cond.fieldLink own i O f d).before a0 Z = true) (F : Ob Z h a Cl fs) (hj : fs[j]? = some (O, f, d, v)) (g : Go W Q h k n pc' L (v :: S)) : Go W Q h k n pc L (.ref a :: S) :=
  g_getL (host := "") C hd hp (Or.inl w) Via.refl (F.get hj) g
theorem pw_size (C : Cx W Z R own code mx ret nm wsx hx0) {T : State} {locs : List Loc} (X : Sta0 W T locs k n) (e : T.heap = h) : Pw W h.size := by
  have q : W.s.heap.size ≤ T.heap.size := X.same.2.1
  rw [e] at q
  exact Or.inr q
theorem g_putO (C : Cx W Z R own code mx ret nm wsx hx0) {i j kk : Nat} {R0 O f d Cl : String} {ty : FieldType} {a : Addr} {v v' old : Value} {fs fs' : List (String × String × String × Value)} (hd : decode code pc = .ok (.putfield i, 3)) (hp : pc + 3 = pc') (w : (Jvm.Cond.fieldLink own i R0 f d).before a0 Z = true) (via : Via Z R0 O f d) (F : Ob Z h a Cl fs) (hj : fs[j]? = some (O, f, d, old))
    (Lw : (Jvm.Cond.lays Cl O f d).before a0 Z = true ∨ ((Jvm.Cond.laysFinal Cl O f d).before a0 Z = true ∧ own = O ∧ nm = "<init>")) (wi : (Jvm.Cond.instantiable Cl kk).before a0 Z = true) (hty : parseFieldDescriptor d = some ty) (hn : narrow ty v = v') (hf : fits ty v' = true) (hset : fs.set j (O, f, d, v') = fs') (q : Pw W a)
    (g : ∀ h', Ob Z h' a Cl fs' → Keep h h' [a] → Go W Q h' k n pc' L S) : Go W Q h k n pc L (v :: .ref a :: S) := fun T hT => by
  obtain ⟨locs, X, e, N⟩ := hT
  subst hp hset
  obtain ⟨T', h', X', e', Wx, st⟩ := putFN X C.x C.z C.o w via e (F.get hj) F.1 (Lw.imp id fun z => ⟨z.1, z.2.1, C.nme.trans z.2.2⟩) wi hty hn hf (g := mkF W.m pc L (v :: .ref a :: S)) rfl rfl (C.b hd)
  refine Out.st st (g h' (F.put hj Wx) (Keep.of_wr Wx) T' ⟨_, X', e', fun y hy => ?_⟩)
  rcases List.mem_append.mp hy with z | z
  · exact N y z
  · cases List.mem_singleton.mp z; exact q
theorem g_new (C : Cx W Z R own code mx ret nm wsx hx0) {i nn : Nat} {Cl : String} (hd : decode code pc = .ok (.new i, 3)) (hp : pc + 3 = pc') (w : (Jvm.Cond.classLink own i Cl).before a0 Z = true) (wi : (Jvm.Cond.instantiable Cl nn).before a0 Z = true) (wz : (Jvm.Cond.initialized Cl).before a0 Z = true) {k' n' : Nat} (hk : k + 1 = k') (hn : n + nn = n') (hc : k' ≤ R.cells) (hs : n' ≤ R.slots)
    (g : ∀ (h' : Heap) (a : Addr), a = h.size → Ext h h' → Exa Z h' a Cl → (∀ {O f d : String} {ty : FieldType}, Laid Z a0 Cl O f d → parseFieldDescriptor d = some ty → Fld Z h' a O f d (defaultValue ty)) → Pw W a → Go W Q h' k' n' pc' L (.ref a :: S)) : Go W Q h k n pc L S := fun T hT => by
  obtain ⟨locs, X, e, N⟩ := hT
  subst hp hk hn
  obtain ⟨T', h', X', e', E, A, D, -, st⟩ := newO X C.x C.z C.o w wi wz e (g := mkF W.m pc L S) rfl (C.b hd) (by rw [C.r]; exact hc) (by rw [C.r]; exact hs)
  exact Out.st st (g h' h.size rfl E A D (pw_size C X e) T' ⟨locs, X', e', N⟩)
theorem def_list (ty : FieldType) (cA : ClassId) {z : Int32} {len : Nat} (hz : z.toInt = len) : (newA cA ty z).slots.toList = List.replicate len (defaultValue ty) := by
  show (Array.replicate z.toNatClampNeg (defaultValue ty)).toList = _
  rw [clamp_of hz, Array.toList_replicate]
theorem g_newarray (C : Cx W Z R own code mx ret nm wsx hx0) {aty : ArrayType} {ty : FieldType} {z : Int32} {len cap : Nat} (hd : decode code pc = .ok (.newarray aty, 2)) (hp : pc + 2 = pc') (hty : newarray.typeOf aty = ty) (w : (Jvm.Cond.arrayClass ty).before a0 Z = true) (hz : z.toInt = len) (hcap : len ≤ cap) (hb8 : cap * 8 ≤ 536870912) {k' n' : Nat} (hk : k + 1 = k') (hn : n + cap = n') (hc : k' ≤ R.cells) (hs : n' ≤ R.slots)
    (g : ∀ (h' : Heap) (a : Addr), a = h.size → Ext h h' → Ar Z h' a ty (List.replicate len (defaultValue ty)) → Pw W a → Go W Q h' k' n' pc' L (.ref a :: S)) : Go W Q h k n pc L (.int z :: S) := fun T hT => by
  obtain ⟨locs, X, e, N⟩ := hT
  subst hp hty hk hn
  obtain ⟨T', h', cA, X', e', E, A, st⟩ := newP X C.x C.z w e (g := mkF W.m pc L (.int z :: S)) rfl (C.b hd) rfl (nneg_of hz) (cap := cap) (by rw [clamp_of hz]; exact hcap) hb8 (by rw [C.r]; exact hc) (by rw [C.r]; exact hs)
  exact Out.st st (g h' h.size rfl E ⟨_, A, def_list _ _ hz⟩ (pw_size C X e) T' ⟨locs, X', e', N⟩)
theorem g_anewarray (C : Cx W Z R own code mx ret nm wsx hx0) {i : Nat} {Cl : String} {z : Int32} {len cap : Nat} (hd : decode code pc = .ok (.anewarray i, 3)) (hp : pc + 3 = pc') (w : (Jvm.Cond.classLink own i Cl).before a0 Z = true) (w2 : (Jvm.Cond.arrayOver (.object Cl)).before a0 Z = true) (hz : z.toInt = len) (hcap : len ≤ cap) (hb8 : cap * 8 ≤ 536870912) {k' n' : Nat} (hk : k + 1 = k') (hn : n + cap = n') (hc : k' ≤ R.cells) (hs : n' ≤ R.slots)
    (g : ∀ (h' : Heap) (a : Addr), a = h.size → Ext h h' → ArR Z h' a Cl (List.replicate len .null) → Pw W a → Go W Q h' k' n' pc' L (.ref a :: S)) : Go W Q h k n pc L (.int z :: S) := fun T hT => by
  obtain ⟨locs, X, e, N⟩ := hT
  subst hp hk hn
  obtain ⟨T', h', cA, X', e', E, A, O, st⟩ := newR X C.x C.z C.o w w2 e (g := mkF W.m pc L (.int z :: S)) rfl (C.b hd) rfl (nneg_of hz) (cap := cap) (by rw [clamp_of hz]; exact hcap) hb8 (by rw [C.r]; exact hc) (by rw [C.r]; exact hs)
  exact Out.st st (g h' h.size rfl E ⟨_, A, def_list _ _ hz, O⟩ (pw_size C X e) T' ⟨locs, X', e', N⟩)
theorem g_arraylength (C : Cx W Z R own code mx ret nm wsx hx0) {a : Addr} {ty : FieldType} {vs : List Value} {z : Int32} (hd : decode code pc = .ok (.arraylength, 1)) (hp : pc + 1 = pc') (A : Ar Z h a ty vs) (hz : vs.length.toInt32 = z) (g : Go W Q h k n pc' L (.int z :: S)) : Go W Q h k n pc L (.ref a :: S) := by
  subst hp hz
  obtain ⟨c, A, e⟩ := A
  rw [← e, Array.length_toList] at g
  exact g.st fun T locs X eT t kk => X.arraylength C.x (by rw [eT]; exact A.1) (State.isArrayOf_alike C.z.alike A.2.1) (g := mkF W.m pc L (.ref a :: S)) rfl rfl (C.b hd) t kk
theorem g_arraylengthR (C : Cx W Z R own code mx ret nm wsx hx0) {a : Addr} {Cl : String} {vs : List Value} {z : Int32} (hd : decode code pc = .ok (.arraylength, 1)) (hp : pc + 1 = pc') (A : ArR Z h a Cl vs) (hz : vs.length.toInt32 = z) (g : Go W Q h k n pc' L (.int z :: S)) : Go W Q h k n pc L (.ref a :: S) := by
  obtain ⟨c, A, e, -⟩ := A
  exact g_arraylength C hd hp ⟨c, A, e⟩ hz g

theorem g_iaload (C : Cx W Z R own code mx ret nm wsx hx0) {a : Addr} {vs : List Value} {v : Value} {j : Int32} {i : Nat} (hd : decode code pc = .ok (.iaload, 1)) (hp : pc + 1 = pc') (A : Ar Z h a .int vs) (hj : j.toInt = i) (hv : vs[i]? = some v) (g : Go W Q h k n pc' L (v :: S)) : Go W Q h k n pc L (.int j :: .ref a :: S) := by
  subst hp
  obtain ⟨c, A, e⟩ := A
  subst e
  have hi := (List.getElem?_eq_some_iff.mp hv).1
  exact g.st fun T locs X eT t kk => X.iaload C.x (by rw [eT]; exact A.1) (State.isArrayOf_alike C.z.alike A.2.1) A.2.2 (in_of hj hi) (by rw [clamp_of hj, ← Array.getElem?_toList]; exact hv) (g := mkF W.m pc L (.int j :: .ref a :: S)) rfl rfl (C.b hd) t kk
theorem g_laload (C : Cx W Z R own code mx ret nm wsx hx0) {a : Addr} {vs : List Value} {v : Value} {j : Int32} {i : Nat} (hd : decode code pc = .ok (.laload, 1)) (hp : pc + 1 = pc') (A : Ar Z h a .long vs) (hj : j.toInt = i) (hv : vs[i]? = some v) (g : Go W Q h k n pc' L (v :: S)) : Go W Q h k n pc L (.int j :: .ref a :: S) := by
  subst hp
  obtain ⟨c, A, e⟩ := A
  subst e
  have hi := (List.getElem?_eq_some_iff.mp hv).1
  exact g.st fun T locs X eT t kk => X.laload C.x (by rw [eT]; exact A.1) (State.isArrayOf_alike C.z.alike A.2.1) A.2.2 (in_of hj hi) (by rw [clamp_of hj, ← Array.getElem?_toList]; exact hv) (g := mkF W.m pc L (.int j :: .ref a :: S)) rfl rfl (C.b hd) t kk
theorem g_caload (C : Cx W Z R own code mx ret nm wsx hx0) {a : Addr} {vs : List Value} {v : Value} {j : Int32} {i : Nat} (hd : decode code pc = .ok (.caload, 1)) (hp : pc + 1 = pc') (A : Ar Z h a .char vs) (hj : j.toInt = i) (hv : vs[i]? = some v) (g : Go W Q h k n pc' L (v :: S)) : Go W Q h k n pc L (.int j :: .ref a :: S) := by
  subst hp
  obtain ⟨c, A, e⟩ := A
  subst e
  have hi := (List.getElem?_eq_some_iff.mp hv).1
  exact g.st fun T locs X eT t kk => X.caload C.x (by rw [eT]; exact A.1) (State.isArrayOf_alike C.z.alike A.2.1) A.2.2 (in_of hj hi) (by rw [clamp_of hj, ← Array.getElem?_toList]; exact hv) (g := mkF W.m pc L (.int j :: .ref a :: S)) rfl rfl (C.b hd) t kk
theorem g_baload (C : Cx W Z R own code mx ret nm wsx hx0) {a : Addr} {vs : List Value} {v : Value} {j : Int32} {i : Nat} (hd : decode code pc = .ok (.baload, 1)) (hp : pc + 1 = pc') (A : Ar Z h a .byte vs) (hj : j.toInt = i) (hv : vs[i]? = some v) (g : Go W Q h k n pc' L (v :: S)) : Go W Q h k n pc L (.int j :: .ref a :: S) := by
  subst hp
  obtain ⟨c, A, e⟩ := A
  subst e
  have hi := (List.getElem?_eq_some_iff.mp hv).1
  exact g.st fun T locs X eT t kk => X.baloadBytes C.x (by rw [eT]; exact A.1) (State.isArrayOf_alike C.z.alike A.2.1) A.2.2 (in_of hj hi) (by rw [clamp_of hj, ← Array.getElem?_toList]; exact hv) (g := mkF W.m pc L (.int j :: .ref a :: S)) rfl rfl (C.b hd) t kk
theorem g_zaload (C : Cx W Z R own code mx ret nm wsx hx0) {a : Addr} {vs : List Value} {v : Value} {j : Int32} {i : Nat} (hd : decode code pc = .ok (.baload, 1)) (hp : pc + 1 = pc') (A : Ar Z h a .boolean vs) (hj : j.toInt = i) (hv : vs[i]? = some v) (g : Go W Q h k n pc' L (v :: S)) : Go W Q h k n pc L (.int j :: .ref a :: S) := by
  subst hp
  obtain ⟨c, A, e⟩ := A
  subst e
  have hi := (List.getElem?_eq_some_iff.mp hv).1
  exact g.st fun T locs X eT t kk => X.baloadBooleans C.x (by rw [eT]; exact A.1) (State.isArrayOf_alike C.z.alike A.2.1) A.2.2 (in_of hj hi) (by rw [clamp_of hj, ← Array.getElem?_toList]; exact hv) (g := mkF W.m pc L (.int j :: .ref a :: S)) rfl rfl (C.b hd) t kk
theorem g_aaload (C : Cx W Z R own code mx ret nm wsx hx0) {a : Addr} {Cl : String} {vs : List Value} {v : Value} {j : Int32} {i : Nat} (hd : decode code pc = .ok (.aaload, 1)) (hp : pc + 1 = pc') (A : ArR Z h a Cl vs) (hj : j.toInt = i) (hv : vs[i]? = some v) (g : Go W Q h k n pc' L (v :: S)) : Go W Q h k n pc L (.int j :: .ref a :: S) := by
  subst hp
  obtain ⟨c, A, e, -⟩ := A
  subst e
  have hi := (List.getElem?_eq_some_iff.mp hv).1
  exact g.st fun T locs X eT t kk => X.aaload C.x (by rw [eT]; exact A.1) (State.isArrayOf_alike C.z.alike A.2.1) rfl A.2.2 (in_of hj hi) (by rw [clamp_of hj, ← Array.getElem?_toList]; exact hv) (g := mkF W.m pc L (.int j :: .ref a :: S)) rfl rfl (C.b hd) t kk
theorem g_iastore (C : Cx W Z R own code mx ret nm wsx hx0) {a : Addr} {vs vs' : List Value} {x : Int32} {j : Int32} {i : Nat} (hd : decode code pc = .ok (.iastore, 1)) (hp : pc + 1 = pc') (A : Ar Z h a .int vs) (hj : j.toInt = i) (hi : i < vs.length) (hset : vs.set i (.int x) = vs') (q : Pw W a) (g : ∀ h', Ar Z h' a .int vs' → Keep h h' [a] → Go W Q h' k n pc' L S) : Go W Q h k n pc L (.int x :: .int j :: .ref a :: S) := fun T hT => by
  obtain ⟨locs, X, e, N⟩ := hT
  subst hp hset
  obtain ⟨c, A, ec⟩ := A
  obtain ⟨T', h', X', e', Wx, st⟩ := stI X C.x C.z e A (in_of hj (ec ▸ hi)) (g := mkF W.m pc L (.int x :: .int j :: .ref a :: S)) rfl rfl (C.b hd)
  refine Out.st st (g h' (Ar.put A ec hj Wx) (Keep.of_wr Wx) T' ⟨_, X', e', fun y hy => ?_⟩)
  rcases List.mem_append.mp hy with z | z
  · exact N y z
  · cases List.mem_singleton.mp z; exact q
theorem g_lastore (C : Cx W Z R own code mx ret nm wsx hx0) {a : Addr} {vs vs' : List Value} {x : Int64} {j : Int32} {i : Nat} (hd : decode code pc = .ok (.lastore, 1)) (hp : pc + 1 = pc') (A : Ar Z h a .long vs) (hj : j.toInt = i) (hi : i < vs.length) (hset : vs.set i (.long x) = vs') (q : Pw W a) (g : ∀ h', Ar Z h' a .long vs' → Keep h h' [a] → Go W Q h' k n pc' L S) : Go W Q h k n pc L (.long x :: .int j :: .ref a :: S) := fun T hT => by
  obtain ⟨locs, X, e, N⟩ := hT
  subst hp hset
  obtain ⟨c, A, ec⟩ := A
  obtain ⟨T', h', X', e', Wx, st⟩ := stJ X C.x C.z e A (in_of hj (ec ▸ hi)) (g := mkF W.m pc L (.long x :: .int j :: .ref a :: S)) rfl rfl (C.b hd)
  refine Out.st st (g h' (Ar.put A ec hj Wx) (Keep.of_wr Wx) T' ⟨_, X', e', fun y hy => ?_⟩)
  rcases List.mem_append.mp hy with z | z
  · exact N y z
  · cases List.mem_singleton.mp z; exact q
theorem g_castore (C : Cx W Z R own code mx ret nm wsx hx0) {a : Addr} {vs vs' : List Value} {x : Int32} {j : Int32} {i : Nat} (hd : decode code pc = .ok (.castore, 1)) (hp : pc + 1 = pc') (A : Ar Z h a .char vs) (hj : j.toInt = i) (hi : i < vs.length) (hset : vs.set i (.int (nar .char x)) = vs') (q : Pw W a) (g : ∀ h', Ar Z h' a .char vs' → Keep h h' [a] → Go W Q h' k n pc' L S) : Go W Q h k n pc L (.int x :: .int j :: .ref a :: S) := fun T hT => by
  obtain ⟨locs, X, e, N⟩ := hT
  subst hp hset
  obtain ⟨c, A, ec⟩ := A
  obtain ⟨T', h', X', e', Wx, st⟩ := stC X C.x C.z e A (in_of hj (ec ▸ hi)) (g := mkF W.m pc L (.int x :: .int j :: .ref a :: S)) rfl rfl (C.b hd)
  refine Out.st st (g h' (Ar.put A ec hj Wx) (Keep.of_wr Wx) T' ⟨_, X', e', fun y hy => ?_⟩)
  rcases List.mem_append.mp hy with z | z
  · exact N y z
  · cases List.mem_singleton.mp z; exact q
theorem g_bastore (C : Cx W Z R own code mx ret nm wsx hx0) {a : Addr} {vs vs' : List Value} {x : Int32} {j : Int32} {i : Nat} (hd : decode code pc = .ok (.bastore, 1)) (hp : pc + 1 = pc') (A : Ar Z h a .byte vs) (hj : j.toInt = i) (hi : i < vs.length) (hset : vs.set i (.int (nar .byte x)) = vs') (q : Pw W a) (g : ∀ h', Ar Z h' a .byte vs' → Keep h h' [a] → Go W Q h' k n pc' L S) : Go W Q h k n pc L (.int x :: .int j :: .ref a :: S) := fun T hT => by
  obtain ⟨locs, X, e, N⟩ := hT
  subst hp hset
  obtain ⟨c, A, ec⟩ := A
  obtain ⟨T', h', X', e', Wx, st⟩ := stB X C.x C.z e A (in_of hj (ec ▸ hi)) (g := mkF W.m pc L (.int x :: .int j :: .ref a :: S)) rfl rfl (C.b hd)
  refine Out.st st (g h' (Ar.put A ec hj Wx) (Keep.of_wr Wx) T' ⟨_, X', e', fun y hy => ?_⟩)
  rcases List.mem_append.mp hy with z | z
  · exact N y z
  · cases List.mem_singleton.mp z; exact q
theorem g_zastore (C : Cx W Z R own code mx ret nm wsx hx0) {a : Addr} {vs vs' : List Value} {x : Int32} {j : Int32} {i : Nat} (hd : decode code pc = .ok (.bastore, 1)) (hp : pc + 1 = pc') (A : Ar Z h a .boolean vs) (hj : j.toInt = i) (hi : i < vs.length) (hset : vs.set i (.int (nar .boolean x)) = vs') (q : Pw W a) (g : ∀ h', Ar Z h' a .boolean vs' → Keep h h' [a] → Go W Q h' k n pc' L S) : Go W Q h k n pc L (.int x :: .int j :: .ref a :: S) := fun T hT => by
  obtain ⟨locs, X, e, N⟩ := hT
  subst hp hset
  obtain ⟨c, A, ec⟩ := A
  obtain ⟨T', h', X', e', Wx, st⟩ := stZ X C.x C.z e A (in_of hj (ec ▸ hi)) (g := mkF W.m pc L (.int x :: .int j :: .ref a :: S)) rfl rfl (C.b hd)
  refine Out.st st (g h' (Ar.put A ec hj Wx) (Keep.of_wr Wx) T' ⟨_, X', e', fun y hy => ?_⟩)
  rcases List.mem_append.mp hy with z | z
  · exact N y z
  · cases List.mem_singleton.mp z; exact q
theorem ArR.put {Z : State} {h h' : Heap} {a : Addr} {Cl : String} {vs : List Value} {v : Value} {c : Cell} (A : Arr Z h a c (.object Cl)) (e : c.slots.toList = vs) (O : Ovr Z c.cls Cl) {j : Int32} {i : Nat} (hj : j.toInt = i) (W : Wr h h' a j.toNatClampNeg v) : ArR Z h' a Cl (vs.set i v) := by
  refine ⟨_, A.same W, ?_, O⟩
  rw [clamp_of hj, set_toList, e]
theorem g_aastore (C : Cx W Z R own code mx ret nm wsx hx0) {a : Addr} {Cl : String} {vs vs' : List Value} {v : Value} {j : Int32} {i : Nat} (hd : decode code pc = .ok (.aastore, 1)) (hp : pc + 1 = pc') (A : ArR Z h a Cl vs) (hj : j.toInt = i) (hi : i < vs.length) (hset : vs.set i v = vs') (hv : v = .null ∨ ∃ y, v = .ref y ∧ Exa Z h y Cl) (q : Pw W a) (g : ∀ h', ArR Z h' a Cl vs' → Keep h h' [a] → Go W Q h' k n pc' L S) : Go W Q h k n pc L (v :: .int j :: .ref a :: S) := fun T hT => by
  obtain ⟨locs, X, e, N⟩ := hT
  subst hp hset
  obtain ⟨c, A, ec, O⟩ := A
  have F : Sto Z h a v := by
    rcases hv with rfl | ⟨y, rfl, E⟩
    · exact Or.inl rfl
    · exact Sto.of A O (Ins.self E)
  obtain ⟨T', h', X', e', Wx, st⟩ := stR X C.x C.z e A (in_of hj (ec ▸ hi)) rfl F (g := mkF W.m pc L (v :: .int j :: .ref a :: S)) rfl rfl (C.b hd)
  refine Out.st st (g h' (ArR.put A ec O hj Wx) (Keep.of_wr Wx) T' ⟨_, X', e', fun y hy => ?_⟩)
  rcases List.mem_append.mp hy with z | z
  · exact N y z
  · cases List.mem_singleton.mp z; exact q
/-! returns -/
theorem g_end (C : Cx W Z R own code mx ret nm wsx hx0) {v : Option Value} (hv : ret = none → v = none) (hc : k ≤ R.cells) (hs : n ≤ R.slots) (q : Q v h)
    (st : ∀ T locs, Sta0 W T locs k n → ∀ fs, (∀ (f : JFrame) (acts : List Action), f.method = W.m → f.locked = none → f.entered = [] → (doReturn W.e (T.setTop f) acts v).1 = T.setFrames fs) → Stp W (T.setTop (mkF W.m pc L S)) (T.setFrames fs)) : Go W Q h k n pc L S := fun T hT => by
  obtain ⟨locs, X, e, N⟩ := hT
  obtain ⟨fs, hr, hrun, hended, hW, hsame⟩ := X.leave (v := v) (fun z => hv (C.rt ▸ z)) C.lk
  refine ⟨_, _, st T locs X fs hr, hrun, hended, v, locs, rfl, ⟨?_, N⟩, ⟨_, rfl⟩, hW, hsame.mono (by rw [C.r]; exact hc) (by rw [C.r]; exact hs)⟩
  show Q v T.heap
  rw [e]; exact q
theorem g_return (C : Cx W Z R own code mx none nm wsx hx0) (hd : decode code pc = .ok (.return_, 1)) (hc : k ≤ R.cells) (hs : n ≤ R.slots) (q : Q none h) : Go W Q h k n pc L [] :=
  g_end C (fun _ => rfl) hc hs q fun T locs X fs hr => X.returnOut C.x C.rt (C.b hd) hr
theorem g_retN {ty0 : FieldType} (C : Cx W Z R own code mx (some ty0) nm wsx hx0) {z : Int32} (ht : ty0 = .boolean ∨ ty0 = .byte ∨ ty0 = .char ∨ ty0 = .short) (hd : decode code pc = .ok (.ireturn, 1)) (hc : k ≤ R.cells) (hs : n ≤ R.slots) (q : Q (some (.int (nar ty0 z))) h) : Go W Q h k n pc L (.int z :: S) :=
  g_end C nofun hc hs q fun T locs X fs hr => retN X C.x C.rt ht (C.b hd) hr
theorem g_retI (C : Cx W Z R own code mx (some .int) nm wsx hx0) {z : Int32} (hd : decode code pc = .ok (.ireturn, 1)) (hc : k ≤ R.cells) (hs : n ≤ R.slots) (q : Q (some (.int z)) h) : Go W Q h k n pc L (.int z :: S) :=
  g_end C nofun hc hs q fun T locs X fs hr => retOut X C.x C.rt rfl (Or.inl ⟨rfl, Or.inl rfl, z, rfl⟩) (C.b hd) hr
theorem g_retL (C : Cx W Z R own code mx (some .long) nm wsx hx0) {z : Int64} (hd : decode code pc = .ok (.lreturn, 1)) (hc : k ≤ R.cells) (hs : n ≤ R.slots) (q : Q (some (.long z)) h) : Go W Q h k n pc L (.long z :: S) :=
  g_end C nofun hc hs q fun T locs X fs hr => retOut X C.x C.rt rfl (Or.inr (Or.inl ⟨rfl, rfl, z, rfl⟩)) (C.b hd) hr
theorem g_retA {ty0 : FieldType} (C : Cx W Z R own code mx (some ty0) nm wsx hx0) {v : Value} (ht : ty0.isReference = true) (hn : narrow ty0 v = v) (hv : v.isRef = true) (hd : decode code pc = .ok (.areturn, 1)) (hc : k ≤ R.cells) (hs : n ≤ R.slots) (q : Q (some v) h) : Go W Q h k n pc L (v :: S) :=
  g_end C nofun hc hs q fun T locs X fs hr => retOut X C.x C.rt hn (Or.inr (Or.inr (Or.inr (Or.inr ⟨rfl, ht, hv⟩)))) (C.b hd) hr
/-! calls -/
theorem g_initO (C : Cx W Z R own code mx ret nm wsx hx0) {i : Nat} {a : Addr} (hd : decode code pc = .ok (.invokespecial i, 3)) (hp : pc + 3 = pc') (w1 : (Jvm.Cond.methodLink own i Lib.objectInit).before a0 Z = true) (w2 : (Jvm.Cond.instanceMethod Lib.objectInit).before a0 Z = true) (w3 : (Jvm.Cond.code Lib.objectInit Jvm.Pilot.@@N@@.object_method_1_code 1 none).before a0 Z = true) (hL : L.size = mx) (hf : 1 ≤ R.frames) (hl : (S.map fun v => v.category).sum + 12 ≤ R.locals) (g : Go W Q h k n pc' L S) : Go W Q h k n pc L (.ref a :: S) := fun T hT => by
  obtain ⟨locs, X, e, N⟩ := hT
  subst hp
  obtain ⟨T', X', e', st⟩ := initO X C.x C.z C.o w1 w2 w3 e (g := mkF W.m pc L (.ref a :: S)) rfl (by rw [C.ml]; exact hL) rfl (C.b hd) (by rw [C.r]; exact hf) (W := (S.map fun v => v.category).sum) (by show 2 * 0 + _ ≤ _; omega) (by rw [C.r]; exact hl)
  exact Out.st st (g T' ⟨locs, X', e', N⟩)
theorem post_call {T T' : State} {locs L' : List Loc} {k' n' : Nat} {ws : List Addr} (X : Sta0 W T locs k n) (e : T.heap = h) (N : ∀ y ∈ locs, Pw W y.base) (hws : ∀ a ∈ ws, Pw W a) (hL : ∀ y ∈ L', y.base ∈ ws ∨ h.size ≤ y.base) : ∀ y ∈ locs ++ L', Pw W y.base := fun y hy => by
  rcases List.mem_append.mp hy with z | z
  · exact N y z
  · rcases hL y z with q | q
    · exact hws _ q
    · have r : W.s.heap.size ≤ T.heap.size := X.same.2.1
      rw [e] at r
      exact Or.inr (Nat.le_trans r q)
/-- the contract, with what it keeps -/
theorem Con.keeps {l : Launch} {w0 : List Jvm.Cond} {y : MethodName} {bytes : ByteArray} {ret' : Option FieldType} {rm : Room} {as : Array Value} {ws : List Addr} {Q' : Option Value → Heap → Prop} {mx' : Nat} (M : Con l Z w0 y bytes mx' ret' rm as h ws Q') :
    MetFree l y (head1 (Jvm.Cond.code y bytes mx' ret' :: w0) rm) (fun a U => a = as ∧ Z.Warmed39 U.vm ∧ U.heap = h) (fun _ _ _ _ _ => True)
      (fun _ U o U' => ∃ v L, o = .returned v ∧ (Q' v U'.heap ∧ (∀ y ∈ L, y.base ∈ ws ∨ h.size ≤ y.base) ∧ Keep h U'.heap ws) ∧ FrameEnd U o U' L rm.cells rm.slots) := by
  intro p e ha hc hk s m args below hf happ hP hK
  obtain ⟨nn, o, h1, h2, h3, v, L, rfl, ⟨hq, hL⟩, hF⟩ := M p e ha hc hk s m args below hf happ hP hK
  refine ⟨nn, _, h1, h2, h3, v, L, rfl, ⟨hq, hL, ?_⟩, hF⟩
  obtain ⟨rfl, -, rfl⟩ := hP
  have K := keep_of_same hF.2.2 hL
  exact K
theorem g_static (C : Cx W Z R own code mx ret nm wsx hx0) {i : Nat} {y : MethodName} {bytes : ByteArray} {mx' : Nat} {ret' : Option FieldType} {rm : Room} {as : List Value} {ws : List Addr} {Q' : Option Value → Heap → Prop} {S0 : List Value} (hd : decode code pc = .ok (.invokestatic i, 3)) (hp : pc + 3 = pc')
    (w1 : (Jvm.Cond.methodLink own i y).before a0 Z = true) (w2 : (Jvm.Cond.static y).before a0 Z = true) (w3 : (Jvm.Cond.initialized y.cls).before a0 Z = true) (w4 : (Jvm.Cond.code y bytes mx' ret').before a0 Z = true) (hy : y.cls ≠ "java/lang/invoke/MethodHandle" ∧ y.cls ≠ "java/lang/invoke/VarHandle")
    (hlen : ∀ sig, parseMethodDescriptor y.desc = some sig → as.length = sig.parameters.length) (M : Con W.l Z [] y bytes mx' ret' rm as.toArray h ws Q') (hS : S0 = as.reverse ++ S) (hL : L.size = mx) (hf : rm.frames + 1 ≤ R.frames) (hl : (S.map fun v => v.category).sum + (mx' + 11) + rm.locals ≤ R.locals) {k' n' : Nat} (hk : k + rm.cells = k') (hn : n + rm.slots = n') (hc : k' ≤ R.cells) (hs : n' ≤ R.slots) (hws : ∀ a ∈ ws, Pw W a)
    (g : ∀ v h', Q' v h' → Keep h h' ws → Go W Q h' k' n' pc' L (v.toList ++ S)) : Go W Q h k n pc L S0 := fun T hT => by
  obtain ⟨locs, X, e, N⟩ := hT
  subst hp hS hk hn
  obtain ⟨v, _, ⟨T', L1, k1, n1⟩, -, X', ⟨L2, ⟨hQ, hL2, hK⟩, l1, y1, z1⟩, st⟩ := Jvm.LawKit.callS X C.x (y := y) C.o (mvT C.z w1) (mvT C.z w2) (mvT C.z w3) (mvT C.z w4) hy (backOf (R := W.R) (W := (S.map fun v => v.category).sum) (Q := fun v h' L => Q' v h' ∧ (∀ y ∈ L, y.base ∈ ws ∨ h.size ≤ y.base) ∧ Keep h h' ws) M.keeps C.z w4 w3 (by rw [C.r]; exact hf) (by rw [C.r]; exact hl)) (g := mkF W.m pc L (as.reverse ++ S)) rfl (by rw [C.ml]; exact hL) (argsL := as) (rest := S) hlen rfl (by show 2 * 0 + _ ≤ _; omega) (C.b hd) (fun _ _ => ⟨rfl, e, by rw [C.r]; exact hc, by rw [C.r]; exact hs⟩)
  dsimp only [Pt.U, Pt.locs, Pt.cells, Pt.slots] at X' l1 y1 z1 st hQ hK
  subst l1 y1 z1
  exact Out.st st (g v T'.heap hQ hK T' ⟨_, X', rfl, post_call (T' := T') (k' := 0) (n' := 0) X e N hws hL2⟩)
theorem g_special (C : Cx W Z R own code mx ret nm wsx hx0) {i : Nat} {y : MethodName} {bytes : ByteArray} {mx' : Nat} {rm : Room} {as : List Value} {ws : List Addr} {Q' : Option Value → Heap → Prop} {S0 : List Value} {a : Addr} (hd : decode code pc = .ok (.invokespecial i, 3)) (hp : pc + 3 = pc') (hy1 : y.name = "<init>")
    (w1 : (Jvm.Cond.methodLink own i y).before a0 Z = true) (w2 : (Jvm.Cond.instanceMethod y).before a0 Z = true) (w3 : (Jvm.Cond.initialized y.cls).before a0 Z = true) (w4 : (Jvm.Cond.code y bytes mx' none).before a0 Z = true) (hy : y.cls ≠ "java/lang/invoke/MethodHandle" ∧ y.cls ≠ "java/lang/invoke/VarHandle")
    (hlen : ∀ sig, parseMethodDescriptor y.desc = some sig → as.length = sig.parameters.length) (M : Con W.l Z [] y bytes mx' none rm (.ref a :: as).toArray h ws Q') (hS : S0 = as.reverse ++ .ref a :: S) (hL : L.size = mx) (hf : rm.frames + 1 ≤ R.frames) (hl : (S.map fun v => v.category).sum + (mx' + 11) + rm.locals ≤ R.locals) {k' n' : Nat} (hk : k + rm.cells = k') (hn : n + rm.slots = n') (hc : k' ≤ R.cells) (hs : n' ≤ R.slots) (hws : ∀ a ∈ ws, Pw W a)
    (g : ∀ v h', Q' v h' → Keep h h' ws → Go W Q h' k' n' pc' L (v.toList ++ S)) : Go W Q h k n pc L S0 := fun T hT => by
  obtain ⟨locs, X, e, N⟩ := hT
  subst hp hS hk hn
  obtain ⟨v, _, ⟨T', L1, k1, n1⟩, -, X', ⟨L2, ⟨hQ, hL2, hK⟩, l1, y1, z1⟩, st⟩ := X.specialBack C.x (y := y) hy1 C.o (mvT C.z w1) (mvT C.z w2) (mvT C.z w4) hy (backOf (R := W.R) (W := (S.map fun v => v.category).sum) (Q := fun v h' L => Q' v h' ∧ (∀ y ∈ L, y.base ∈ ws ∨ h.size ≤ y.base) ∧ Keep h h' ws) M.keeps C.z w4 w3 (by rw [C.r]; exact hf) (by rw [C.r]; exact hl)) (g := mkF W.m pc L (as.reverse ++ .ref a :: S)) rfl (by rw [C.ml]; exact hL) (Steps.refl _) (a := a) (argsL := as) (rest := S) hlen rfl (by show 2 * 0 + _ ≤ _; omega) (C.b hd) (fun _ _ => ⟨rfl, e, by rw [C.r]; exact hc, by rw [C.r]; exact hs⟩)
  dsimp only [Pt.U, Pt.locs, Pt.cells, Pt.slots] at X' l1 y1 z1 st hQ hK
  subst l1 y1 z1
  exact Out.st (fun t z => st.trans z) (g v T'.heap hQ hK T' ⟨_, X', rfl, post_call (T' := T') (k' := 0) (n' := 0) X e N hws hL2⟩)
theorem g_virtual (C : Cx W Z R own code mx ret nm wsx hx0) {i : Nat} {y : MethodName} {bytes : ByteArray} {mx' : Nat} {ret' : Option FieldType} {rm : Room} {as : List Value} {ws : List Addr} {Q' : Option Value → Heap → Prop} {S0 : List Value} {a : Addr} {Cl : String} (hd : decode code pc = .ok (.invokevirtual i, 3)) (hp : pc + 3 = pc')
    (w1 : (Jvm.Cond.methodLink own i y).before a0 Z = true) (w2 : (Jvm.Cond.instanceMethod y).before a0 Z = true) (w3 : (Jvm.Cond.initialized y.cls).before a0 Z = true) (w4 : (Jvm.Cond.code y bytes mx' ret').before a0 Z = true) (w5 : (Jvm.Cond.declares y).before a0 Z = true) (w6 : (Jvm.Cond.selects Cl y y).before a0 Z = true) (hy : y.cls ≠ "java/lang/invoke/MethodHandle" ∧ y.cls ≠ "java/lang/invoke/VarHandle") (hE : Exa Z h a Cl)
    (hlen : ∀ sig, parseMethodDescriptor y.desc = some sig → as.length = sig.parameters.length) (M : Con W.l Z [] y bytes mx' ret' rm (.ref a :: as).toArray h ws Q') (hS : S0 = as.reverse ++ .ref a :: S) (hL : L.size = mx) (hf : rm.frames + 1 ≤ R.frames) (hl : (S.map fun v => v.category).sum + (mx' + 11) + rm.locals ≤ R.locals) {k' n' : Nat} (hk : k + rm.cells = k') (hn : n + rm.slots = n') (hc : k' ≤ R.cells) (hs : n' ≤ R.slots) (hws : ∀ a ∈ ws, Pw W a)
    (g : ∀ v h', Q' v h' → Keep h h' ws → Go W Q h' k' n' pc' L (v.toList ++ S)) : Go W Q h k n pc L S0 := fun T hT => by
  obtain ⟨locs, X, e, N⟩ := hT
  subst hp hS hk hn
  obtain ⟨cq, kq, qa, qb, qc⟩ := isOf C.z e hE
  obtain ⟨v, _, ⟨T', L1, k1, n1⟩, -, X', ⟨L2, ⟨hQ, hL2, hK⟩, l1, y1, z1⟩, st⟩ := X.virtualBack C.x (y := y) (z := y) C.o (mvT C.z w1) (mvT C.z w5) (notFace_of_selects (args := #[]) (mvT C.z w6)) (mvT C.z w6) (mvT C.z w2) hy (backOf (R := W.R) (W := (S.map fun v => v.category).sum) (Q := fun v h' L => Q' v h' ∧ (∀ y ∈ L, y.base ∈ ws ∨ h.size ≤ y.base) ∧ Keep h h' ws) M.keeps C.z w4 w3 (by rw [C.r]; exact hf) (by rw [C.r]; exact hl)) qa qc (g := mkF W.m pc L (as.reverse ++ .ref a :: S)) rfl (by rw [C.ml]; exact hL) (Steps.refl _) (argsL := as) (rest := S) hlen rfl (by show 2 * 0 + _ ≤ _; omega) (C.b hd) (fun _ _ => ⟨rfl, e, by rw [C.r]; exact hc, by rw [C.r]; exact hs⟩)
  dsimp only [Pt.U, Pt.locs, Pt.cells, Pt.slots] at X' l1 y1 z1 st hQ hK
  subst l1 y1 z1
  exact Out.st (fun t z => st.trans z) (g v T'.heap hQ hK T' ⟨_, X', rfl, post_call (T' := T') (k' := 0) (n' := 0) X e N hws hL2⟩)
theorem g_staticP (C : Cx W Z R own code mx ret nm wsx hx0) {i : Nat} {y : MethodName} {bytes : ByteArray} {mx' : Nat} {ret' : Option FieldType} {rm : Room} {as : List Value} {r : Option Value} {S0 S1 : List Value} (hd : decode code pc = .ok (.invokestatic i, 3)) (hp : pc + 3 = pc')
    (w1 : (Jvm.Cond.methodLink own i y).before a0 Z = true) (w2 : (Jvm.Cond.static y).before a0 Z = true) (w3 : (Jvm.Cond.initialized y.cls).before a0 Z = true) (w4 : (Jvm.Cond.code y bytes mx' ret').before a0 Z = true) (hy : y.cls ≠ "java/lang/invoke/MethodHandle" ∧ y.cls ≠ "java/lang/invoke/VarHandle")
    (hlen : ∀ sig, parseMethodDescriptor y.desc = some sig → as.length = sig.parameters.length) (M : Con W.l Z [] y bytes mx' ret' rm as.toArray h [] (fun v h' => v = r ∧ h' = h)) (hS : S0 = as.reverse ++ S) (hL : L.size = mx) (hf : rm.frames + 1 ≤ R.frames) (hl : (S.map fun v => v.category).sum + (mx' + 11) + rm.locals ≤ R.locals) {k' n' : Nat} (hk : k + rm.cells = k') (hn : n + rm.slots = n') (hc : k' ≤ R.cells) (hs : n' ≤ R.slots) (hS1 : r.toList ++ S = S1)
    (g : Go W Q h k' n' pc' L S1) : Go W Q h k n pc L S0 :=
  g_static C hd hp w1 w2 w3 w4 hy hlen M hS hL hf hl hk hn hc hs all0 fun v h' q K => by
    obtain ⟨rfl, rfl⟩ := q
    rw [hS1]; exact g
theorem g_virtualP (C : Cx W Z R own code mx ret nm wsx hx0) {i : Nat} {y : MethodName} {bytes : ByteArray} {mx' : Nat} {ret' : Option FieldType} {rm : Room} {as : List Value} {r : Option Value} {S0 S1 : List Value} {a : Addr} {Cl : String} (hd : decode code pc = .ok (.invokevirtual i, 3)) (hp : pc + 3 = pc')
    (w1 : (Jvm.Cond.methodLink own i y).before a0 Z = true) (w2 : (Jvm.Cond.instanceMethod y).before a0 Z = true) (w3 : (Jvm.Cond.initialized y.cls).before a0 Z = true) (w4 : (Jvm.Cond.code y bytes mx' ret').before a0 Z = true) (w5 : (Jvm.Cond.declares y).before a0 Z = true) (w6 : (Jvm.Cond.selects Cl y y).before a0 Z = true) (hy : y.cls ≠ "java/lang/invoke/MethodHandle" ∧ y.cls ≠ "java/lang/invoke/VarHandle") (hE : Exa Z h a Cl)
    (hlen : ∀ sig, parseMethodDescriptor y.desc = some sig → as.length = sig.parameters.length) (M : Con W.l Z [] y bytes mx' ret' rm (.ref a :: as).toArray h [] (fun v h' => v = r ∧ h' = h)) (hS : S0 = as.reverse ++ .ref a :: S) (hL : L.size = mx) (hf : rm.frames + 1 ≤ R.frames) (hl : (S.map fun v => v.category).sum + (mx' + 11) + rm.locals ≤ R.locals) {k' n' : Nat} (hk : k + rm.cells = k') (hn : n + rm.slots = n') (hc : k' ≤ R.cells) (hs : n' ≤ R.slots) (hS1 : r.toList ++ S = S1)
    (g : Go W Q h k' n' pc' L S1) : Go W Q h k n pc L S0 :=
  g_virtual C hd hp w1 w2 w3 w4 w5 w6 hy hE hlen M hS hL hf hl hk hn hc hs all0 fun v h' q K => by
    obtain ⟨rfl, rfl⟩ := q
    rw [hS1]; exact g
theorem g_nameI {x : Int32} (g : ∀ z : Int32, z = x → Go W Q h k n pc L (.int z :: S)) : Go W Q h k n pc L (.int x :: S) := g x rfl
theorem g_nameJ {x : Int64} (g : ∀ z : Int64, z = x → Go W Q h k n pc L (.long z :: S)) : Go W Q h k n pc L (.long x :: S) := g x rfl
/-! a body's contract out of its walk -/
theorem locals_of {as : List Value} {mx0 : Nat} {Ls : List Slot} (h : (as.flatMap fun v => if v.category = 2 then [.val v, .second] else [.val v]) ++ List.replicate (mx0 - (as.flatMap fun v => if v.category = 2 then [.val v, .second] else [Slot.val v]).length) .unset = Ls) : argsToLocals as.toArray mx0 = Ls.toArray := by
  have e : ∀ (l : List Value) (acc : Array Slot), (l.foldl (fun acc v => if v.category = 2 then (acc.push (.val v)).push .second else acc.push (.val v)) acc) = acc ++ (l.flatMap fun v => if v.category = 2 then [.val v, .second] else [Slot.val v]).toArray := by
    intro l
    induction l with
    | nil => intro acc; simp
    | cons v l ih =>
      intro acc
      rw [List.foldl_cons, ih, List.flatMap_cons]
      split <;> simp
  subst h
  simp only [argsToLocals, List.foldl_toArray', e]
  simp
theorem Con.of_go {l : Launch} {w0 : List Jvm.Cond} {y : MethodName} {bytes : ByteArray} {ret' : Option FieldType} {rm : Room} {as : Array Value} {ws : List Addr} {Q' : Option Value → Heap → Prop} {mx' : Nat} {L0 : Array Slot} (hpl : plainFor y = true) (hL : argsToLocals as mx' = L0)
    (body : ∀ (W : Wk) (Q : Option Value → Heap → Prop), Q = Q' → W.l = l → Cx W Z rm y.cls bytes mx' ret' y.name ws h → Go W Q h 0 0 0 L0 []) : Con l Z w0 y bytes mx' ret' rm as h ws Q' := by
  refine MetFree.of_bodySF hpl hisR ?_
  intro p e s m args below meth c s₁ Bd hml0 hP hK
  obtain ⟨rfl, hZ, rfl⟩ := hP
  subst hL
  have X0 : Stand p l e rm s m args below meth c s₁ [] 0 0 := Stand.of_body Bd
  have e0 : s₁.heap = s.heap := by rw [Bd.state]; rfl
  obtain ⟨s2, o, h1, h2, h3, v, L, h4, ⟨h5, h6⟩, h7⟩ := body (p, l, e, rm, s, m, args, below, meth, c, ws) _ rfl rfl ⟨Bd.exec, hZ, findClass_of_methodNamed Bd.named, Bd.bytes, hml0, Bd.returns, Bd.notSynchronized, (name_of_methodNamed Bd.named Bd.method).1, rfl, rfl, rfl⟩ s₁ ⟨[], X0, e0, fun _ q => nomatch q⟩
  exact ⟨s2, o, h1, h2, h3, v, L, h4, ⟨h5, h6⟩, h7⟩
end Steps0
end Jvm.OwnKit
namespace Jvm.OwnKit
theorem getD_set_same {l : List Int32} {i : Nat} {x : Int32} (h : i < l.length) : (l.set i x).getD i 0 = x := by
  rw [List.getD_eq_getElem?_getD, List.getElem?_set_self h]; rfl
theorem getD_set_other {l : List Int32} {i j : Nat} {x : Int32} (h : j ≠ i) : (l.set i x).getD j 0 = l.getD j 0 := by
  rw [List.getD_eq_getElem?_getD, List.getElem?_set_ne (Ne.symm h), List.getD_eq_getElem?_getD]
theorem getD_app_left {l t : List Int32} {i : Nat} (h : i < l.length) : (l ++ t).getD i 0 = l.getD i 0 := by
  rw [List.getD_eq_getElem?_getD, List.getElem?_append_left h, List.getD_eq_getElem?_getD]
theorem getD_app_last {l : List Int32} {x : Int32} : (l ++ [x]).getD l.length 0 = x := by
  rw [List.getD_eq_getElem?_getD, List.getElem?_append_right (Nat.le_refl _), Nat.sub_self]; rfl
/-- is the number i among these -/
def inL (os : List Int32) (i : Int) : Bool := os.any (fun x => x.toInt == i)
theorem inL_app (os t : List Int32) (i : Int) : inL (os ++ t) i = (inL os i || inL t i) := by unfold inL; rw [List.any_append]
theorem inL_cons (x : Int32) (t : List Int32) (i : Int) : inL (x :: t) i = (x.toInt == i || inL t i) := rfl
theorem inL_nil (i : Int) : inL [] i = false := rfl
theorem inL_iff {os : List Int32} {i : Int} : inL os i = true ↔ ∃ k, k < os.length ∧ (os.getD k 0).toInt = i := by
  unfold inL
  rw [List.any_eq_true]
  constructor
  · rintro ⟨x, hx, e⟩
    obtain ⟨k, hk, rfl⟩ := List.mem_iff_getElem.mp hx
    refine ⟨k, hk, ?_⟩
    rw [List.getD_eq_getElem?_getD, List.getElem?_eq_getElem hk]
    simpa using e
  · rintro ⟨k, hk, e⟩
    refine ⟨os[k], List.getElem_mem hk, ?_⟩
    rw [List.getD_eq_getElem?_getD, List.getElem?_eq_getElem hk] at e
    simpa using e
theorem b2i_bool {P : Prop} [Decidable P] {b : Bool} (h : b = true ↔ P) : b2i (b = true) = b2i P := b2i_iff h
/-- the i-th flag tells whether i is among os -/
def Flags (as : List Int32) (N : Nat) (os : List Int32) : Prop := as.length = N ∧ ∀ i : Nat, i < N → as.getD i 0 = b2i (inL os i = true)
theorem Flags.add {as os : List Int32} {N m : Nat} {x : Int32} (F : Flags as N os) (hm : m < N) (hx : x.toInt = m) : Flags (as.set m 1) N (os ++ [x]) := by
  refine ⟨by rw [List.length_set]; exact F.1, fun i hi => ?_⟩
  by_cases e : i = m
  · subst e
    rw [getD_set_same (by rw [F.1]; exact hi), inL_app, inL_cons, hx]
    simp [b2i]
  · rw [getD_set_other e, F.2 i hi, inL_app, inL_cons, inL_nil, hx]
    have : ((m : Int) == (i : Int)) = false := by simp; omega
    rw [this]; simp
theorem Flags.start (N : Nat) : Flags (List.replicate N 0) N [] := by
  refine ⟨List.length_replicate, fun i hi => ?_⟩
  rw [List.getD_eq_getElem?_getD, List.getElem?_replicate_of_lt hi, inL_nil]
  rfl
/-- one more of the nodes behind the kept ones goes -/
theorem Flags.drop {as os : List Int32} {N k i m : Nat} (F : Flags as N (os.take k ++ os.drop i)) (hki : k ≤ i) (hi : i < os.length) (hx : (os.getD i 0).toInt = m) (hm : m < N) (nd : ∀ p q : Nat, p < q → q < os.length → (os.getD p 0).toInt ≠ (os.getD q 0).toInt) : Flags (as.set m 0) N (os.take k ++ os.drop (i + 1)) := by
  refine ⟨by rw [List.length_set]; exact F.1, fun j hj => ?_⟩
  have hd : os.drop i = os.getD i 0 :: os.drop (i + 1) := by
    rw [List.drop_eq_getElem_cons hi, List.getD_eq_getElem?_getD, List.getElem?_eq_getElem hi]; rfl
  by_cases e : j = m
  · subst e
    rw [getD_set_same (by rw [F.1]; exact hj)]
    refine (b2i_neg ?_).symm
    rw [inL_app, Bool.or_eq_true, inL_iff, inL_iff]
    rintro (⟨p, hp, hq⟩ | ⟨p, hp, hq⟩)
    · rw [List.length_take] at hp
      rw [List.getD_eq_getElem?_getD, List.getElem?_take_of_lt (by omega), ← List.getD_eq_getElem?_getD] at hq
      exact nd p i (by omega) hi (by rw [hq, hx])
    · rw [List.length_drop] at hp
      rw [List.getD_eq_getElem?_getD, List.getElem?_drop, ← List.getD_eq_getElem?_getD] at hq
      exact nd i (i + 1 + p) (by omega) (by omega) (by rw [hq, hx])
  · rw [getD_set_other e, F.2 j hj, hd, inL_app, inL_app, inL_cons, hx]
    have : ((m : Int) == (j : Int)) = false := by simp; omega
    rw [this]; simp
end Jvm.OwnKit
namespace Jvm.Pilot.@@N@@
open Jvm Jvm.ClassFile Sem Op Lib Jvm.Free Jvm.Stand Jvm.LawKit Jvm.RoadKit Jvm.OwnKit Bundle Jvm.Pilot.@@N@@.Jvm.D
theorem pd_0 : parseMethodDescriptor "(I)V" = some ⟨[.int], none⟩ := by decide +kernel
theorem pd_1 : parseMethodDescriptor "()I" = some ⟨[], some .int⟩ := by decide +kernel
theorem pd_2 : parseMethodDescriptor "(I)I" = some ⟨[.int], some .int⟩ := by decide +kernel
theorem pd_3 : parseMethodDescriptor "(I)Z" = some ⟨[.int], some .boolean⟩ := by decide +kernel
theorem d1_0 : decode prog_1_method_1_code 0 = .ok (.aload_n 0, 1) := by decide +kernel
theorem d1_1 : decode prog_1_method_1_code 1 = .ok (.invokespecial 1, 3) := by decide +kernel
theorem d1_4 : decode prog_1_method_1_code 4 = .ok (.aload_n 0, 1) := by decide +kernel
theorem d1_5 : decode prog_1_method_1_code 5 = .ok (.bipush 65, 2) := by decide +kernel
theorem d1_7 : decode prog_1_method_1_code 7 = .ok (.newarray .int, 2) := by decide +kernel
theorem d1_9 : decode prog_1_method_1_code 9 = .ok (.putfield 9, 3) := by decide +kernel
theorem d1_12 : decode prog_1_method_1_code 12 = .ok (.aload_n 0, 1) := by decide +kernel
theorem d1_13 : decode prog_1_method_1_code 13 = .ok (.iload_n 1, 1) := by decide +kernel
theorem d1_14 : decode prog_1_method_1_code 14 = .ok (.newarray .boolean, 2) := by decide +kernel
theorem d1_16 : decode prog_1_method_1_code 16 = .ok (.putfield 13, 3) := by decide +kernel
theorem d1_19 : decode prog_1_method_1_code 19 = .ok (.aload_n 0, 1) := by decide +kernel
theorem d1_20 : decode prog_1_method_1_code 20 = .ok (.iload_n 1, 1) := by decide +kernel
theorem d1_21 : decode prog_1_method_1_code 21 = .ok (.newarray .int, 2) := by decide +kernel
theorem d1_23 : decode prog_1_method_1_code 23 = .ok (.putfield 17, 3) := by decide +kernel
theorem d1_26 : decode prog_1_method_1_code 26 = .ok (.return_, 1) := by decide +kernel
theorem d3_0 : decode prog_1_method_3_code 0 = .ok (.aload_n 0, 1) := by decide +kernel
theorem d3_1 : decode prog_1_method_3_code 1 = .ok (.getfield 13, 3) := by decide +kernel
theorem d3_4 : decode prog_1_method_3_code 4 = .ok (.iload_n 1, 1) := by decide +kernel
theorem d3_5 : decode prog_1_method_3_code 5 = .ok (.baload, 1) := by decide +kernel
theorem d3_6 : decode prog_1_method_3_code 6 = .ok (.ifCond .ne 28, 3) := by decide +kernel
theorem d3_9 : decode prog_1_method_3_code 9 = .ok (.aload_n 0, 1) := by decide +kernel
theorem d3_10 : decode prog_1_method_3_code 10 = .ok (.getfield 13, 3) := by decide +kernel
theorem d3_13 : decode prog_1_method_3_code 13 = .ok (.iload_n 1, 1) := by decide +kernel
theorem d3_14 : decode prog_1_method_3_code 14 = .ok (.iconst 1, 1) := by decide +kernel
theorem d3_15 : decode prog_1_method_3_code 15 = .ok (.bastore, 1) := by decide +kernel
theorem d3_16 : decode prog_1_method_3_code 16 = .ok (.aload_n 0, 1) := by decide +kernel
theorem d3_17 : decode prog_1_method_3_code 17 = .ok (.getfield 17, 3) := by decide +kernel
theorem d3_20 : decode prog_1_method_3_code 20 = .ok (.aload_n 0, 1) := by decide +kernel
theorem d3_21 : decode prog_1_method_3_code 21 = .ok (.getfield 9, 3) := by decide +kernel
theorem d3_24 : decode prog_1_method_3_code 24 = .ok (.bipush 32, 2) := by decide +kernel
theorem d3_26 : decode prog_1_method_3_code 26 = .ok (.dup2, 1) := by decide +kernel
theorem d3_27 : decode prog_1_method_3_code 27 = .ok (.iaload, 1) := by decide +kernel
theorem d3_28 : decode prog_1_method_3_code 28 = .ok (.dup_x2, 1) := by decide +kernel
theorem d3_29 : decode prog_1_method_3_code 29 = .ok (.iconst 1, 1) := by decide +kernel
theorem d3_30 : decode prog_1_method_3_code 30 = .ok (.iadd, 1) := by decide +kernel
theorem d3_31 : decode prog_1_method_3_code 31 = .ok (.iastore, 1) := by decide +kernel
theorem d3_32 : decode prog_1_method_3_code 32 = .ok (.iload_n 1, 1) := by decide +kernel
theorem d3_33 : decode prog_1_method_3_code 33 = .ok (.iastore, 1) := by decide +kernel
theorem d3_34 : decode prog_1_method_3_code 34 = .ok (.return_, 1) := by decide +kernel
theorem d4_0 : decode prog_1_method_5_code 0 = .ok (.aload_n 0, 1) := by decide +kernel
theorem d4_1 : decode prog_1_method_5_code 1 = .ok (.getfield 9, 3) := by decide +kernel
theorem d4_4 : decode prog_1_method_5_code 4 = .ok (.bipush 32, 2) := by decide +kernel
theorem d4_6 : decode prog_1_method_5_code 6 = .ok (.iaload, 1) := by decide +kernel
theorem d4_7 : decode prog_1_method_5_code 7 = .ok (.ireturn, 1) := by decide +kernel
theorem d5_0 : decode prog_1_method_6_code 0 = .ok (.aload_n 0, 1) := by decide +kernel
theorem d5_1 : decode prog_1_method_6_code 1 = .ok (.getfield 17, 3) := by decide +kernel
theorem d5_4 : decode prog_1_method_6_code 4 = .ok (.iload_n 1, 1) := by decide +kernel
theorem d5_5 : decode prog_1_method_6_code 5 = .ok (.iaload, 1) := by decide +kernel
theorem d5_6 : decode prog_1_method_6_code 6 = .ok (.ireturn, 1) := by decide +kernel
theorem d6_0 : decode prog_1_method_2_code 0 = .ok (.aload_n 0, 1) := by decide +kernel
theorem d6_1 : decode prog_1_method_2_code 1 = .ok (.getfield 13, 3) := by decide +kernel
theorem d6_4 : decode prog_1_method_2_code 4 = .ok (.iload_n 1, 1) := by decide +kernel
theorem d6_5 : decode prog_1_method_2_code 5 = .ok (.baload, 1) := by decide +kernel
theorem d6_6 : decode prog_1_method_2_code 6 = .ok (.ireturn, 1) := by decide +kernel
set_option maxHeartbeats 4000000 in
theorem dis_0 (Z : State) (a0 : Array Value) (hw : ∀ d ∈ tables_1, d.before a0 Z = true) : ([RoadKit.slotOf Z "com/example/ripplecast/ripplecast/ActiveNodes" "size" "[I", RoadKit.slotOf Z "com/example/ripplecast/ripplecast/ActiveNodes" "active" "[Z", RoadKit.slotOf Z "com/example/ripplecast/ripplecast/ActiveNodes" "order" "[I"] : List Nat).Nodup := by
  simp only [List.nodup_cons, List.mem_cons, List.not_mem_nil, or_false, not_or, not_false_eq_true, List.nodup_nil, and_true]
  exact ⟨⟨RoadKit.slot_ne (Or.inr (hw _ (List.mem_of_getElem? (i := 12) rfl))) (Or.inr (hw _ (List.mem_of_getElem? (i := 15) rfl))) (by decide) (t := (.array .int)) (t' := (.array .boolean)) (by decide) (by decide), RoadKit.slot_ne (Or.inr (hw _ (List.mem_of_getElem? (i := 12) rfl))) (Or.inr (hw _ (List.mem_of_getElem? (i := 17) rfl))) (by decide) (t := (.array .int)) (t' := (.array .int)) (by decide) (by decide)⟩, RoadKit.slot_ne (Or.inr (hw _ (List.mem_of_getElem? (i := 15) rfl))) (Or.inr (hw _ (List.mem_of_getElem? (i := 17) rfl))) (by decide) (t := (.array .boolean)) (t' := (.array .int)) (by decide) (by decide)⟩
def AN (Z : State) (h : Heap) (a b1 b2 b3 : Addr) (N : Nat) (os : List Int32) : Prop := Ob Z h a "com/example/ripplecast/ripplecast/ActiveNodes" [("com/example/ripplecast/ripplecast/ActiveNodes", "size", "[I", (.ref b1)), ("com/example/ripplecast/ripplecast/ActiveNodes", "active", "[Z", (.ref b2)), ("com/example/ripplecast/ripplecast/ActiveNodes", "order", "[I", (.ref b3))] ∧ (∃ ss : List Int32, ss.length = 65 ∧ (ss.getD 32 0).toInt = os.length ∧ Ar Z h b1 .int (ss.map Value.int)) ∧ (∃ as : List Int32, Flags as N os ∧ Ar Z h b2 .boolean (as.map Value.int)) ∧ ∃ rs : List Int32, rs.length = N ∧ (∀ i, i < os.length → rs.getD i 0 = os.getD i 0) ∧ Ar Z h b3 .int (rs.map Value.int)
theorem AN.keep {Z : State} {h h' : Heap} {a b1 b2 b3 : Addr} {N : Nat} {os : List Int32} {ws : List Addr} (B : AN Z h a b1 b2 b3 N os) (K : Keep h h' ws) (q : ∀ x ∈ [a, b1, b2, b3], x ∉ ws) : AN Z h' a b1 b2 b3 N os := by
  obtain ⟨O, ⟨ss, s1, s2, A1⟩, ⟨as, f, A2⟩, rs, r1, r2, A3⟩ := B
  exact ⟨O.keep K (q _ (by simp)), ⟨ss, s1, s2, A1.keep K (q _ (by simp))⟩, ⟨as, f, A2.keep K (q _ (by simp))⟩, rs, r1, r2, A3.keep K (q _ (by simp))⟩
set_option maxRecDepth 65536 in
set_option maxHeartbeats 2000000 in
theorem con_init (l : Launch) (Z : State) (a0 : Array Value) (hw : ∀ d ∈ tables_1, d.before a0 Z = true) (a : Addr) (n : Int32) (N : Nat) (hn : n.toInt = N) (hN : N ≤ 8) (h : Heap) (O : Ob Z h a "com/example/ripplecast/ripplecast/ActiveNodes" [("com/example/ripplecast/ripplecast/ActiveNodes", "size", "[I", .null), ("com/example/ripplecast/ripplecast/ActiveNodes", "active", "[Z", .null), ("com/example/ripplecast/ripplecast/ActiveNodes", "order", "[I", .null)]) :
    Con l Z [] (⟨"com/example/ripplecast/ripplecast/ActiveNodes", "<init>", "(I)V"⟩ : MethodName) prog_1_method_1_code 2 none ({ frames := 1, cells := 3, slots := 81, locals := 12 } : Room) #[(.ref a), (.int n)] h [a] (fun v h' => v = none ∧ ∃ b1 b2 b3 : Addr, h.size ≤ b1 ∧ h.size ≤ b2 ∧ h.size ≤ b3 ∧ b1 ≠ b2 ∧ b1 ≠ b3 ∧ b2 ≠ b3 ∧ AN Z h' a b1 b2 b3 N []) := by
  refine Con.of_go (L0 := #[.val (.ref a), .val (.int n)]) (plainFor_of_name (by first | (simp [plainName, overriddenIn]; done) | decide +kernel)) (locals_of rfl) fun W Q hQ hl C => ?_
  subst hl
  have z0 : h.size ≤ h.size := Nat.le_refl _
  refine g_aloadN (pc' := 1) C d1_0 rfl rfl rfl ?_
  refine g_initO (pc' := 4) C d1_1 rfl (hw _ (List.mem_of_getElem? (i := 7) rfl)) (hw _ (List.mem_of_getElem? (i := 8) rfl)) (hw _ (List.mem_of_getElem? (i := 9) rfl)) rfl (by decide) (Nat.le_of_ble_eq_true rfl) ?_
  refine g_aloadN (pc' := 5) C d1_4 rfl rfl rfl ?_
  refine g_bipush (pc' := 7) (z := (65 : Int32)) C d1_5 rfl rfl ?_
  refine g_newarray (pc' := 9) (ty := .int) (len := 65) (cap := 65) (k' := 1) (n' := 65) C d1_7 rfl rfl (hw _ (List.mem_of_getElem? (i := 10) rfl)) rfl (by decide) (by decide) rfl rfl (by decide) (by decide) fun h1 a1 e_a1 Eh1 Aa1 w_a1 => ?_
  have n_a_a1 : a ≠ a1 := by rw [e_a1]; exact Nat.ne_of_lt O.lt
  replace O := O.ext Eh1
  replace Aa1 : Ar Z h1 a1 .int ((List.replicate 65 (0 : Int32)).map Value.int) := by rw [List.map_replicate]; exact Aa1
  have g_a1 : h.size ≤ a1 := by rw [e_a1]; exact z0
  have z_h1 : h.size ≤ h1.size := Nat.le_trans z0 Eh1.1
  refine g_putO (pc' := 12) (j := 0) (ty := (.array .int)) (v' := (.ref a1)) (fs' := [("com/example/ripplecast/ripplecast/ActiveNodes", "size", "[I", (.ref a1)), ("com/example/ripplecast/ripplecast/ActiveNodes", "active", "[Z", .null), ("com/example/ripplecast/ripplecast/ActiveNodes", "order", "[I", .null)]) C d1_9 rfl (hw _ (List.mem_of_getElem? (i := 11) rfl)) Via.refl O rfl (Or.inr ⟨(hw _ (List.mem_of_getElem? (i := 12) rfl)), rfl, rfl⟩) (hw _ (List.mem_of_getElem? (i := 2) rfl)) (by decide) rfl rfl rfl (C.old (List.mem_cons_self ..)) fun h2 O Kh2 => ?_
  replace Aa1 := Aa1.keep Kh2 (ninS (Ne.symm n_a_a1) nin0)
  have z_h2 : h.size ≤ h2.size := Nat.le_trans z_h1 Kh2.1
  refine g_aloadN (pc' := 13) C d1_12 rfl rfl rfl ?_
  refine g_iloadN (pc' := 14) C d1_13 rfl rfl ?_
  refine g_newarray (pc' := 16) (ty := .boolean) (len := N) (cap := 8) (k' := 2) (n' := 73) C d1_14 rfl rfl (hw _ (List.mem_of_getElem? (i := 13) rfl)) hn hN (by decide) rfl rfl (by decide) (by decide) fun h3 a2 e_a2 Eh3 Aa2 w_a2 => ?_
  have n_a_a2 : a ≠ a2 := by rw [e_a2]; exact Nat.ne_of_lt O.lt
  have n_a1_a2 : a1 ≠ a2 := by rw [e_a2]; exact Nat.ne_of_lt Aa1.lt
  replace O := O.ext Eh3
  replace Aa1 := Aa1.ext Eh3
  replace Aa2 : Ar Z h3 a2 .boolean ((List.replicate N (0 : Int32)).map Value.int) := by rw [List.map_replicate]; exact Aa2
  have g_a2 : h.size ≤ a2 := by rw [e_a2]; exact z_h2
  have z_h3 : h.size ≤ h3.size := Nat.le_trans z_h2 Eh3.1
  refine g_putO (pc' := 19) (j := 1) (ty := (.array .boolean)) (v' := (.ref a2)) (fs' := [("com/example/ripplecast/ripplecast/ActiveNodes", "size", "[I", (.ref a1)), ("com/example/ripplecast/ripplecast/ActiveNodes", "active", "[Z", (.ref a2)), ("com/example/ripplecast/ripplecast/ActiveNodes", "order", "[I", .null)]) C d1_16 rfl (hw _ (List.mem_of_getElem? (i := 14) rfl)) Via.refl O rfl (Or.inr ⟨(hw _ (List.mem_of_getElem? (i := 15) rfl)), rfl, rfl⟩) (hw _ (List.mem_of_getElem? (i := 2) rfl)) (by decide) rfl rfl rfl (C.old (List.mem_cons_self ..)) fun h4 O Kh4 => ?_
  replace Aa1 := Aa1.keep Kh4 (ninS (Ne.symm n_a_a1) nin0)
  replace Aa2 := Aa2.keep Kh4 (ninS (Ne.symm n_a_a2) nin0)
  have z_h4 : h.size ≤ h4.size := Nat.le_trans z_h3 Kh4.1
  refine g_aloadN (pc' := 20) C d1_19 rfl rfl rfl ?_
  refine g_iloadN (pc' := 21) C d1_20 rfl rfl ?_
  refine g_newarray (pc' := 23) (ty := .int) (len := N) (cap := 8) (k' := 3) (n' := 81) C d1_21 rfl rfl (hw _ (List.mem_of_getElem? (i := 10) rfl)) hn hN (by decide) rfl rfl (by decide) (by decide) fun h5 a3 e_a3 Eh5 Aa3 w_a3 => ?_
  have n_a_a3 : a ≠ a3 := by rw [e_a3]; exact Nat.ne_of_lt O.lt
  have n_a1_a3 : a1 ≠ a3 := by rw [e_a3]; exact Nat.ne_of_lt Aa1.lt
  have n_a2_a3 : a2 ≠ a3 := by rw [e_a3]; exact Nat.ne_of_lt Aa2.lt
  replace O := O.ext Eh5
  replace Aa1 := Aa1.ext Eh5
  replace Aa2 := Aa2.ext Eh5
  replace Aa3 : Ar Z h5 a3 .int ((List.replicate N (0 : Int32)).map Value.int) := by rw [List.map_replicate]; exact Aa3
  have g_a3 : h.size ≤ a3 := by rw [e_a3]; exact z_h4
  have z_h5 : h.size ≤ h5.size := Nat.le_trans z_h4 Eh5.1
  refine g_putO (pc' := 26) (j := 2) (ty := (.array .int)) (v' := (.ref a3)) (fs' := [("com/example/ripplecast/ripplecast/ActiveNodes", "size", "[I", (.ref a1)), ("com/example/ripplecast/ripplecast/ActiveNodes", "active", "[Z", (.ref a2)), ("com/example/ripplecast/ripplecast/ActiveNodes", "order", "[I", (.ref a3))]) C d1_23 rfl (hw _ (List.mem_of_getElem? (i := 16) rfl)) Via.refl O rfl (Or.inr ⟨(hw _ (List.mem_of_getElem? (i := 17) rfl)), rfl, rfl⟩) (hw _ (List.mem_of_getElem? (i := 2) rfl)) (by decide) rfl rfl rfl (C.old (List.mem_cons_self ..)) fun h6 O Kh6 => ?_
  replace Aa1 := Aa1.keep Kh6 (ninS (Ne.symm n_a_a1) nin0)
  replace Aa2 := Aa2.keep Kh6 (ninS (Ne.symm n_a_a2) nin0)
  replace Aa3 := Aa3.keep Kh6 (ninS (Ne.symm n_a_a3) nin0)
  have z_h6 : h.size ≤ h6.size := Nat.le_trans z_h5 Kh6.1
  refine g_return C d1_26 (by decide) (by decide) ?_
  subst hQ
  exact ⟨rfl, a1, a2, a3, g_a1, g_a2, g_a3, n_a1_a2, n_a1_a3, n_a2_a3, O, ⟨List.replicate 65 0, List.length_replicate, by rw [List.getD_eq_getElem?_getD, List.getElem?_replicate_of_lt (by omega)]; rfl, Aa1⟩, ⟨List.replicate N 0, Flags.start N, Aa2⟩, List.replicate N 0, List.length_replicate, fun i y => absurd y (Nat.not_lt_zero i), Aa3⟩
set_option maxRecDepth 65536 in
set_option maxHeartbeats 2000000 in
theorem con_add_old (l : Launch) (Z : State) (a0 : Array Value) (hw : ∀ d ∈ tables_1, d.before a0 Z = true) (a b1 b2 b3 : Addr) (N : Nat) (os : List Int32) (x : Int32) (m : Nat) (hx : x.toInt = m) (hm : m < N) (hin : inL os m = true) (h : Heap) (B : AN Z h a b1 b2 b3 N os) :
    Con l Z [] (⟨"com/example/ripplecast/ripplecast/ActiveNodes", "add", "(I)V"⟩ : MethodName) prog_1_method_3_code 2 none ({ frames := 0, cells := 0, slots := 0, locals := 0 } : Room) #[(.ref a), (.int x)] h [] (fun v h' => v = none ∧ h = h') := by
  obtain ⟨O, ⟨ss, s1, s2, A1⟩, ⟨as, f, A2⟩, rs, r1, r2, A3⟩ := B
  refine Con.of_go (L0 := #[.val (.ref a), .val (.int x)]) (plainFor_of_name (by first | (simp [plainName, overriddenIn]; done) | decide +kernel)) (locals_of rfl) fun W Q hQ hl C => ?_
  subst hl
  refine g_aloadN (pc' := 1) C d3_0 rfl rfl rfl ?_
  refine g_getO (pc' := 4) (j := 1) C d3_1 rfl (hw _ (List.mem_of_getElem? (i := 14) rfl)) O rfl ?_
  refine g_iloadN (pc' := 5) C d3_4 rfl rfl ?_
  refine g_zaload (pc' := 6) (i := m) C d3_5 rfl A2 hx (map_getI (by rw [f.1]; exact hm)) ?_
  rw [f.2 m hm]
  refine g_ifneb (pc1 := 34) (pc2 := 9) C d3_6 (by decide) rfl rfl rfl (fun (co6 : inL os m = true) => ?_) (fun (co6 : ¬ (inL os m = true)) => ?_)
  ·
    refine g_return C d3_34 (by decide) (by decide) ?_
    subst hQ
    exact ⟨rfl, rfl⟩
  ·
    exact absurd hin co6
set_option maxRecDepth 65536 in
set_option maxHeartbeats 2000000 in
theorem con_add_new (l : Launch) (Z : State) (a0 : Array Value) (hw : ∀ d ∈ tables_1, d.before a0 Z = true) (a b1 b2 b3 : Addr) (N : Nat) (os : List Int32) (x : Int32) (m : Nat) (hx : x.toInt = m) (hm : m < N) (hin : inL os m = false) (hl : os.length < N) (hN : N ≤ 8) (q01 : a ≠ b1) (q02 : a ≠ b2) (q03 : a ≠ b3) (q12 : b1 ≠ b2) (q13 : b1 ≠ b3) (q23 : b2 ≠ b3) (h : Heap) (B : AN Z h a b1 b2 b3 N os) :
    Con l Z [] (⟨"com/example/ripplecast/ripplecast/ActiveNodes", "add", "(I)V"⟩ : MethodName) prog_1_method_3_code 2 none ({ frames := 0, cells := 0, slots := 0, locals := 0 } : Room) #[(.ref a), (.int x)] h [b1, b2, b3] (fun v h' => v = none ∧ AN Z h' a b1 b2 b3 N (os ++ [x])) := by
  obtain ⟨O, ⟨ss, s1, s2, A1⟩, ⟨as, f, A2⟩, rs, r1, r2, A3⟩ := B
  refine Con.of_go (L0 := #[.val (.ref a), .val (.int x)]) (plainFor_of_name (by first | (simp [plainName, overriddenIn]; done) | decide +kernel)) (locals_of rfl) fun W Q hQ hl C => ?_
  subst hl
  have y0 : (1 : Int32).toInt = 1 := rfl
  have y1 := c_iadd (ss.getD 32 0) 1
  have y2 := rng32 (ss.getD 32 0 + 1)
  rw [y0] at y1
  refine g_aloadN (pc' := 1) C d3_0 rfl rfl rfl ?_
  refine g_getO (pc' := 4) (j := 1) C d3_1 rfl (hw _ (List.mem_of_getElem? (i := 14) rfl)) O rfl ?_
  refine g_iloadN (pc' := 5) C d3_4 rfl rfl ?_
  refine g_zaload (pc' := 6) (i := m) C d3_5 rfl A2 hx (map_getI (by rw [f.1]; exact hm)) ?_
  rw [f.2 m hm]
  refine g_ifneb (pc1 := 34) (pc2 := 9) C d3_6 (by decide) rfl rfl rfl (fun (cn6 : inL os m = true) => ?_) (fun (cn6 : ¬ (inL os m = true)) => ?_)
  ·
    exact absurd cn6 (by rw [hin]; decide)
  ·
    refine g_aloadN (pc' := 10) C d3_9 rfl rfl rfl ?_
    refine g_getO (pc' := 13) (j := 1) C d3_10 rfl (hw _ (List.mem_of_getElem? (i := 14) rfl)) O rfl ?_
    refine g_iloadN (pc' := 14) C d3_13 rfl rfl ?_
    refine g_iconst (pc' := 15) (z := (1 : Int32)) C d3_14 rfl rfl ?_
    refine g_zastore (pc' := 16) (i := m) (vs' := ((as.set m 1).map Value.int)) C d3_15 rfl A2 hx (by rw [List.length_map, f.1]; exact hm) (map_setI as m 1) (C.old (List.mem_of_getElem? (i := 1) rfl)) fun hn1 A2 Khn1 => ?_
    replace O := O.keep Khn1 (ninS q02 nin0)
    replace A1 := A1.keep Khn1 (ninS q12 nin0)
    replace A3 := A3.keep Khn1 (ninS (Ne.symm q23) nin0)
    refine g_aloadN (pc' := 17) C d3_16 rfl rfl rfl ?_
    refine g_getO (pc' := 20) (j := 2) C d3_17 rfl (hw _ (List.mem_of_getElem? (i := 16) rfl)) O rfl ?_
    refine g_aloadN (pc' := 21) C d3_20 rfl rfl rfl ?_
    refine g_getO (pc' := 24) (j := 0) C d3_21 rfl (hw _ (List.mem_of_getElem? (i := 11) rfl)) O rfl ?_
    refine g_bipush (pc' := 26) (z := (32 : Int32)) C d3_24 rfl rfl ?_
    refine g_dup2 (pc' := 27) C d3_26 rfl rfl rfl ?_
    refine g_iaload (pc' := 28) (i := 32) C d3_27 rfl A1 rfl (map_getI (by omega)) ?_
    refine g_dup_x2 (pc' := 29) C d3_28 rfl rfl rfl rfl ?_
    refine g_iconst (pc' := 30) (z := (1 : Int32)) C d3_29 rfl rfl ?_
    refine g_iadd (pc' := 31) C d3_30 rfl ?_
    refine g_iastore (pc' := 32) (i := 32) (vs' := ((ss.set 32 (ss.getD 32 0 + 1)).map Value.int)) C d3_31 rfl A1 rfl (by rw [List.length_map]; omega) (map_setI _ _ _) (C.old (List.mem_of_getElem? (i := 0) rfl)) fun hn2 A1 Khn2 => ?_
    replace O := O.keep Khn2 (ninS q01 nin0)
    replace A2 := A2.keep Khn2 (ninS (Ne.symm q12) nin0)
    replace A3 := A3.keep Khn2 (ninS (Ne.symm q13) nin0)
    refine g_iloadN (pc' := 33) C d3_32 rfl rfl ?_
    refine g_iastore (pc' := 34) (i := os.length) (vs' := ((rs.set os.length x).map Value.int)) C d3_33 rfl A3 s2 (by rw [List.length_map, r1]; exact hl) (map_setI _ _ _) (C.old (List.mem_of_getElem? (i := 2) rfl)) fun hn3 A3 Khn3 => ?_
    replace O := O.keep Khn3 (ninS q03 nin0)
    replace A1 := A1.keep Khn3 (ninS q13 nin0)
    replace A2 := A2.keep Khn3 (ninS q23 nin0)
    refine g_return C d3_34 (by decide) (by decide) ?_
    subst hQ
    refine ⟨rfl, O, ⟨_, by rw [List.length_set]; exact s1, ?_, A1⟩, ⟨_, f.add hm hx, A2⟩, _, by rw [List.length_set]; exact r1, ?_, A3⟩
    · rw [getD_set_same (by omega), List.length_append, List.length_singleton]; omega
    · intro i hi
      rw [List.length_append, List.length_singleton] at hi
      by_cases e : i = os.length
      · subst e; rw [getD_set_same (by omega), getD_app_last]
      · rw [getD_set_other e, getD_app_left (by omega)]; exact r2 i (by omega)
set_option maxRecDepth 65536 in
set_option maxHeartbeats 2000000 in
theorem con_size (l : Launch) (Z : State) (a0 : Array Value) (hw : ∀ d ∈ tables_1, d.before a0 Z = true) (a b1 b2 b3 : Addr) (N : Nat) (os : List Int32) (h : Heap) (B : AN Z h a b1 b2 b3 N os) :
    Con l Z [] (⟨"com/example/ripplecast/ripplecast/ActiveNodes", "size", "()I"⟩ : MethodName) prog_1_method_5_code 1 (some .int) ({ frames := 0, cells := 0, slots := 0, locals := 0 } : Room) #[(.ref a)] h [] (fun v h' => (∃ r : Int32, v = some (.int r) ∧ r.toInt = os.length) ∧ h = h') := by
  obtain ⟨O, ⟨ss, s1, s2, A1⟩, ⟨as, f, A2⟩, rs, r1, r2, A3⟩ := B
  refine Con.of_go (L0 := #[.val (.ref a)]) (plainFor_of_name (by first | (simp [plainName, overriddenIn]; done) | decide +kernel)) (locals_of rfl) fun W Q hQ hl C => ?_
  subst hl
  refine g_aloadN (pc' := 1) C d4_0 rfl rfl rfl ?_
  refine g_getO (pc' := 4) (j := 0) C d4_1 rfl (hw _ (List.mem_of_getElem? (i := 11) rfl)) O rfl ?_
  refine g_bipush (pc' := 6) (z := (32 : Int32)) C d4_4 rfl rfl ?_
  refine g_iaload (pc' := 7) (i := 32) C d4_6 rfl A1 rfl (map_getI (by omega)) ?_
  refine g_retI C d4_7 (by decide) (by decide) ?_
  subst hQ
  exact ⟨⟨_, rfl, s2⟩, rfl⟩
set_option maxRecDepth 65536 in
set_option maxHeartbeats 2000000 in
theorem con_get (l : Launch) (Z : State) (a0 : Array Value) (hw : ∀ d ∈ tables_1, d.before a0 Z = true) (a b1 b2 b3 : Addr) (N : Nat) (os : List Int32) (x : Int32) (m : Nat) (hx : x.toInt = m) (hm : m < os.length) (hN : os.length ≤ N) (h : Heap) (B : AN Z h a b1 b2 b3 N os) :
    Con l Z [] (⟨"com/example/ripplecast/ripplecast/ActiveNodes", "get", "(I)I"⟩ : MethodName) prog_1_method_6_code 2 (some .int) ({ frames := 0, cells := 0, slots := 0, locals := 0 } : Room) #[(.ref a), (.int x)] h [] (fun v h' => v = some (.int (os.getD m 0)) ∧ h' = h) := by
  obtain ⟨O, ⟨ss, s1, s2, A1⟩, ⟨as, f, A2⟩, rs, r1, r2, A3⟩ := B
  refine Con.of_go (L0 := #[.val (.ref a), .val (.int x)]) (plainFor_of_name (by first | (simp [plainName, overriddenIn]; done) | decide +kernel)) (locals_of rfl) fun W Q hQ hl C => ?_
  subst hl
  refine g_aloadN (pc' := 1) C d5_0 rfl rfl rfl ?_
  refine g_getO (pc' := 4) (j := 2) C d5_1 rfl (hw _ (List.mem_of_getElem? (i := 16) rfl)) O rfl ?_
  refine g_iloadN (pc' := 5) C d5_4 rfl rfl ?_
  refine g_iaload (pc' := 6) (i := m) C d5_5 rfl A3 hx (map_getI (by omega)) ?_
  rw [r2 m hm]
  refine g_retI C d5_6 (by decide) (by decide) ?_
  subst hQ
  exact ⟨rfl, rfl⟩
set_option maxRecDepth 65536 in
set_option maxHeartbeats 2000000 in
theorem con_contains (l : Launch) (Z : State) (a0 : Array Value) (hw : ∀ d ∈ tables_1, d.before a0 Z = true) (a b1 b2 b3 : Addr) (N : Nat) (os : List Int32) (x : Int32) (m : Nat) (hx : x.toInt = m) (hm : m < N) (h : Heap) (B : AN Z h a b1 b2 b3 N os) :
    Con l Z [] (⟨"com/example/ripplecast/ripplecast/ActiveNodes", "contains", "(I)Z"⟩ : MethodName) prog_1_method_2_code 2 (some .boolean) ({ frames := 0, cells := 0, slots := 0, locals := 0 } : Room) #[(.ref a), (.int x)] h [] (fun v h' => v = some (.int (b2i (inL os m = true))) ∧ h' = h) := by
  obtain ⟨O, ⟨ss, s1, s2, A1⟩, ⟨as, f, A2⟩, rs, r1, r2, A3⟩ := B
  refine Con.of_go (L0 := #[.val (.ref a), .val (.int x)]) (plainFor_of_name (by first | (simp [plainName, overriddenIn]; done) | decide +kernel)) (locals_of rfl) fun W Q hQ hl C => ?_
  subst hl
  refine g_aloadN (pc' := 1) C d6_0 rfl rfl rfl ?_
  refine g_getO (pc' := 4) (j := 1) C d6_1 rfl (hw _ (List.mem_of_getElem? (i := 14) rfl)) O rfl ?_
  refine g_iloadN (pc' := 5) C d6_4 rfl rfl ?_
  refine g_zaload (pc' := 6) (i := m) C d6_5 rfl A2 hx (map_getI (by rw [f.1]; exact hm)) ?_
  rw [f.2 m hm]
  refine g_retN C (by simp) d6_6 (by decide) (by decide) ?_
  subst hQ
  exact ⟨congrArg (fun z => some (Value.int z)) (nar_b2i _), rfl⟩
set_option maxRecDepth 65536 in
set_option maxHeartbeats 2000000 in
theorem con_0 (l : Launch) (Z : State) (a0 : Array Value) (hw : ∀ d ∈ tables_1, d.before a0 Z = true) (p0 p1 p2 p3 p4 : Int32) (h : Heap)  :
    Con l Z tables_1 x code maxLocals ret room_1 #[(.int p0), (.int p1), (.int p2), (.int p3), (.int p4)] h [] (fun v _ => v = some (.int 1)) := by
  refine Con.of_go (L0 := #[.val (.int p0), .val (.int p1), .val (.int p2), .val (.int p3), .val (.int p4), .unset, .unset, .unset, .unset, .unset, .unset, .unset, .unset, .unset, .unset]) (plainFor_of_name (by first | (simp [plainName, overriddenIn]; done) | decide +kernel)) (locals_of rfl) fun W Q hQ hl C => ?_
  subst hl
  refine g_iconst (pc' := 1) (z := (1 : Int32)) C at_0 rfl rfl ?_
  refine g_iloadN (pc' := 2) C at_1 rfl rfl ?_
  refine g_bipush (pc' := 4) (z := (7 : Int32)) C at_2 rfl rfl ?_
  refine g_iand (pc' := 5) C at_4 rfl ?_
  refine g_iadd (pc' := 6) C at_5 rfl ?_
  refine g_nameI fun i1 e_i1 => ?_
  refine g_istore (pc' := 8) (L' := #[.val (.int p0), .val (.int p1), .val (.int p2), .val (.int p3), .val (.int p4), .val (.int i1), .unset, .unset, .unset, .unset, .unset, .unset, .unset, .unset, .unset]) C at_6 rfl rfl ?_
  have k1 := c_mask p0 7 3 (by decide) (by decide)
  have k2 := c_iadd 1 (p0 &&& 7)
  have k3 : (1 : Int32).toInt = 1 := rfl
  have k4 := rng32 i1
  rw [k3, ← e_i1] at k2
  obtain ⟨N, hn⟩ : ∃ N : Nat, i1.toInt = N := ⟨i1.toInt.toNat, by omega⟩
  have hN1 : 1 ≤ N := by omega
  have hN : N ≤ 8 := by omega
  have hn0 : i1 ≠ 0 := fun y => by rw [y] at hn; have y2 : (0 : Int32).toInt = 0 := rfl; omega
  refine g_iloadN (pc' := 9) C at_8 rfl rfl ?_
  refine g_ldcI (pc' := 11) C at_9 rfl (hw _ (List.mem_of_getElem? (i := 0) rfl)) ?_
  refine g_iand (pc' := 12) C at_11 rfl ?_
  refine g_iload (pc' := 14) C at_12 rfl rfl ?_
  refine g_irem (pc' := 15) C at_14 rfl hn0 ?_
  refine g_nameI fun i2 e_i2 => ?_
  refine g_istore (pc' := 17) (L' := #[.val (.int p0), .val (.int p1), .val (.int p2), .val (.int p3), .val (.int p4), .val (.int i1), .val (.int i2), .unset, .unset, .unset, .unset, .unset, .unset, .unset, .unset]) C at_15 rfl rfl ?_
  refine g_iloadN (pc' := 18) C at_17 rfl rfl ?_
  refine g_ldcI (pc' := 20) C at_18 rfl (hw _ (List.mem_of_getElem? (i := 0) rfl)) ?_
  refine g_iand (pc' := 21) C at_20 rfl ?_
  refine g_iload (pc' := 23) C at_21 rfl rfl ?_
  refine g_irem (pc' := 24) C at_23 rfl hn0 ?_
  refine g_nameI fun i3 e_i3 => ?_
  refine g_istore (pc' := 26) (L' := #[.val (.int p0), .val (.int p1), .val (.int p2), .val (.int p3), .val (.int p4), .val (.int i1), .val (.int i2), .val (.int i3), .unset, .unset, .unset, .unset, .unset, .unset, .unset]) C at_24 rfl rfl ?_
  refine g_iloadN (pc' := 27) C at_26 rfl rfl ?_
  refine g_ldcI (pc' := 29) C at_27 rfl (hw _ (List.mem_of_getElem? (i := 0) rfl)) ?_
  refine g_iand (pc' := 30) C at_29 rfl ?_
  refine g_iload (pc' := 32) C at_30 rfl rfl ?_
  refine g_irem (pc' := 33) C at_32 rfl hn0 ?_
  refine g_nameI fun i4 e_i4 => ?_
  refine g_istore (pc' := 35) (L' := #[.val (.int p0), .val (.int p1), .val (.int p2), .val (.int p3), .val (.int p4), .val (.int i1), .val (.int i2), .val (.int i3), .val (.int i4), .unset, .unset, .unset, .unset, .unset, .unset]) C at_33 rfl rfl ?_
  refine g_iload (pc' := 37) C at_35 rfl rfl ?_
  refine g_ldcI (pc' := 39) C at_37 rfl (hw _ (List.mem_of_getElem? (i := 0) rfl)) ?_
  refine g_iand (pc' := 40) C at_39 rfl ?_
  refine g_iload (pc' := 42) C at_40 rfl rfl ?_
  refine g_irem (pc' := 43) C at_42 rfl hn0 ?_
  refine g_nameI fun i5 e_i5 => ?_
  refine g_istore (pc' := 45) (L' := #[.val (.int p0), .val (.int p1), .val (.int p2), .val (.int p3), .val (.int p4), .val (.int i1), .val (.int i2), .val (.int i3), .val (.int i4), .val (.int i5), .unset, .unset, .unset, .unset, .unset]) C at_43 rfl rfl ?_
  have v1_i2 := c_mask p1 2147483647 31 (by decide) (by decide)
  have v2_i2 := (c_iremV (p1 &&& 2147483647) i1).1 (by omega) (by omega)
  rw [← e_i2] at v2_i2
  obtain ⟨m_i2, hm_i2⟩ : ∃ m : Nat, i2.toInt = m := ⟨i2.toInt.toNat, by omega⟩
  have l_i2 : m_i2 < N := by omega
  clear v1_i2 v2_i2
  have v1_i3 := c_mask p2 2147483647 31 (by decide) (by decide)
  have v2_i3 := (c_iremV (p2 &&& 2147483647) i1).1 (by omega) (by omega)
  rw [← e_i3] at v2_i3
  obtain ⟨m_i3, hm_i3⟩ : ∃ m : Nat, i3.toInt = m := ⟨i3.toInt.toNat, by omega⟩
  have l_i3 : m_i3 < N := by omega
  clear v1_i3 v2_i3
  have v1_i4 := c_mask p3 2147483647 31 (by decide) (by decide)
  have v2_i4 := (c_iremV (p3 &&& 2147483647) i1).1 (by omega) (by omega)
  rw [← e_i4] at v2_i4
  obtain ⟨m_i4, hm_i4⟩ : ∃ m : Nat, i4.toInt = m := ⟨i4.toInt.toNat, by omega⟩
  have l_i4 : m_i4 < N := by omega
  clear v1_i4 v2_i4
  have v1_i5 := c_mask p4 2147483647 31 (by decide) (by decide)
  have v2_i5 := (c_iremV (p4 &&& 2147483647) i1).1 (by omega) (by omega)
  rw [← e_i5] at v2_i5
  obtain ⟨m_i5, hm_i5⟩ : ∃ m : Nat, i5.toInt = m := ⟨i5.toInt.toNat, by omega⟩
  have l_i5 : m_i5 < N := by omega
  clear v1_i5 v2_i5
  refine g_new (pc' := 48) (k' := 1) (n' := 3) C at_45 rfl (hw _ (List.mem_of_getElem? (i := 1) rfl)) (hw _ (List.mem_of_getElem? (i := 2) rfl)) (hw _ (List.mem_of_getElem? (i := 3) rfl)) rfl rfl (by decide) (by decide) fun h1 a6 e_a6 Eh1 Xa6 Da6 w_a6 => ?_
  have Oa6 : Ob Z h1 a6 "com/example/ripplecast/ripplecast/ActiveNodes" [("com/example/ripplecast/ripplecast/ActiveNodes", "size", "[I", .null), ("com/example/ripplecast/ripplecast/ActiveNodes", "active", "[Z", .null), ("com/example/ripplecast/ripplecast/ActiveNodes", "order", "[I", .null)] := ⟨Xa6, by
    simp only [List.forall_mem_cons, List.not_mem_nil, false_implies, implies_true, and_true]
    exact ⟨Da6 (Or.inr (hw _ (List.mem_of_getElem? (i := 12) rfl))) (ty := (.array .int)) (by decide), Da6 (Or.inr (hw _ (List.mem_of_getElem? (i := 15) rfl))) (ty := (.array .boolean)) (by decide), Da6 (Or.inr (hw _ (List.mem_of_getElem? (i := 17) rfl))) (ty := (.array .int)) (by decide)⟩, dis_0 Z a0 hw⟩
  refine g_dup (pc' := 49) C at_48 rfl rfl ?_
  refine g_iload (pc' := 51) C at_49 rfl rfl ?_
  refine g_special (y := (⟨"com/example/ripplecast/ripplecast/ActiveNodes", "<init>", "(I)V"⟩ : MethodName)) (a := a6) (pc' := 54) (k' := 4) (n' := 84) (S := [(.ref a6)]) (as := [(.int i1)]) C at_51 rfl rfl (hw _ (List.mem_of_getElem? (i := 4) rfl)) (hw _ (List.mem_of_getElem? (i := 5) rfl)) (hw _ (List.mem_of_getElem? (i := 3) rfl)) (hw _ (List.mem_of_getElem? (i := 6) rfl)) (by decide) (lenOf pd_0 rfl) (con_init W.l Z a0 hw a6 i1 N hn hN h1 Oa6) rfl rfl (Nat.le_of_ble_eq_true rfl) (Nat.le_of_ble_eq_true rfl) rfl rfl (Nat.le_of_ble_eq_true rfl) (Nat.le_of_ble_eq_true rfl) (allS w_a6 all0) fun vh2 h2 qh2 Kh2 => ?_
  obtain ⟨rfl, b1, b2, b3, g1, g2, g3, q12, q13, q23, B⟩ := qh2
  show Go W Q h2 4 84 54 #[.val (.int p0), .val (.int p1), .val (.int p2), .val (.int p3), .val (.int p4), .val (.int i1), .val (.int i2), .val (.int i3), .val (.int i4), .val (.int i5), .unset, .unset, .unset, .unset, .unset] [(.ref a6)]
  have q01 : a6 ≠ b1 := Nat.ne_of_lt (Nat.lt_of_lt_of_le Oa6.lt g1)
  have pwb1 : Pw W b1 := Or.inr (Nat.le_trans (Nat.le_trans (w_a6.resolve_left (by rw [C.ws]; exact fun y => nomatch y)) (Nat.le_of_lt Oa6.lt)) g1)
  have q02 : a6 ≠ b2 := Nat.ne_of_lt (Nat.lt_of_lt_of_le Oa6.lt g2)
  have pwb2 : Pw W b2 := Or.inr (Nat.le_trans (Nat.le_trans (w_a6.resolve_left (by rw [C.ws]; exact fun y => nomatch y)) (Nat.le_of_lt Oa6.lt)) g2)
  have q03 : a6 ≠ b3 := Nat.ne_of_lt (Nat.lt_of_lt_of_le Oa6.lt g3)
  have pwb3 : Pw W b3 := Or.inr (Nat.le_trans (Nat.le_trans (w_a6.resolve_left (by rw [C.ws]; exact fun y => nomatch y)) (Nat.le_of_lt Oa6.lt)) g3)
  refine g_astore (pc' := 56) (L' := #[.val (.int p0), .val (.int p1), .val (.int p2), .val (.int p3), .val (.int p4), .val (.int i1), .val (.int i2), .val (.int i3), .val (.int i4), .val (.int i5), .val (.ref a6), .unset, .unset, .unset, .unset]) C at_54 rfl rfl rfl ?_
  refine g_aload (pc' := 58) C at_56 rfl rfl rfl ?_
  refine g_iload (pc' := 60) C at_58 rfl rfl ?_
  refine g_virtual (y := (⟨"com/example/ripplecast/ripplecast/ActiveNodes", "add", "(I)V"⟩ : MethodName)) (a := a6) (pc' := 63) (k' := 4) (n' := 84) (S := []) (as := [(.int i2)]) C at_60 rfl (hw _ (List.mem_of_getElem? (i := 18) rfl)) (hw _ (List.mem_of_getElem? (i := 20) rfl)) (hw _ (List.mem_of_getElem? (i := 3) rfl)) (hw _ (List.mem_of_getElem? (i := 22) rfl)) (hw _ (List.mem_of_getElem? (i := 19) rfl)) (hw _ (List.mem_of_getElem? (i := 21) rfl)) (by decide) B.1.1 (lenOf pd_0 rfl) (con_add_new W.l Z a0 hw a6 b1 b2 b3 N [] i2 m_i2 hm_i2 (by omega) (by simp only [inL_cons, inL_nil, Bool.or_eq_true, Bool.or_eq_false_iff, beq_iff_eq, beq_eq_false_iff_ne, Bool.or_false, ne_eq, List.cons_append, List.nil_append]; try omega) (by simp only [List.length_cons, List.length_nil]; omega) hN q01 q02 q03 q12 q13 q23 h2 B) rfl rfl (Nat.le_of_ble_eq_true rfl) (Nat.le_of_ble_eq_true rfl) rfl rfl (Nat.le_of_ble_eq_true rfl) (Nat.le_of_ble_eq_true rfl) (allS pwb1 (allS pwb2 (allS pwb3 all0))) fun vh3 h3 qh3 Kh3 => ?_
  obtain ⟨rfl, B⟩ := qh3
  show Go W Q h3 4 84 63 #[.val (.int p0), .val (.int p1), .val (.int p2), .val (.int p3), .val (.int p4), .val (.int i1), .val (.int i2), .val (.int i3), .val (.int i4), .val (.int i5), .val (.ref a6), .unset, .unset, .unset, .unset] []
  replace B : AN Z h3 a6 b1 b2 b3 N [i2] := B
  refine g_aload (pc' := 65) C at_63 rfl rfl rfl ?_
  refine g_iload (pc' := 67) C at_65 rfl rfl ?_
  by_cases u_i3_i2 : i3.toInt = i2.toInt
  ·
    refine g_virtual (y := (⟨"com/example/ripplecast/ripplecast/ActiveNodes", "add", "(I)V"⟩ : MethodName)) (a := a6) (pc' := 70) (k' := 4) (n' := 84) (S := []) (as := [(.int i3)]) C at_67 rfl (hw _ (List.mem_of_getElem? (i := 18) rfl)) (hw _ (List.mem_of_getElem? (i := 20) rfl)) (hw _ (List.mem_of_getElem? (i := 3) rfl)) (hw _ (List.mem_of_getElem? (i := 22) rfl)) (hw _ (List.mem_of_getElem? (i := 19) rfl)) (hw _ (List.mem_of_getElem? (i := 21) rfl)) (by decide) B.1.1 (lenOf pd_0 rfl) (con_add_old W.l Z a0 hw a6 b1 b2 b3 N [i2] i3 m_i3 hm_i3 (by omega) (by simp only [inL_cons, inL_nil, Bool.or_eq_true, Bool.or_eq_false_iff, beq_iff_eq, beq_eq_false_iff_ne, Bool.or_false, ne_eq, List.cons_append, List.nil_append]; omega) h3 B) rfl rfl (Nat.le_of_ble_eq_true rfl) (Nat.le_of_ble_eq_true rfl) rfl rfl (Nat.le_of_ble_eq_true rfl) (Nat.le_of_ble_eq_true rfl) all0 fun vh4 h4 qh4 Kh4 => ?_
    obtain ⟨rfl, eh⟩ := qh4
    subst eh
    show Go W Q h3 4 84 70 #[.val (.int p0), .val (.int p1), .val (.int p2), .val (.int p3), .val (.int p4), .val (.int i1), .val (.int i2), .val (.int i3), .val (.int i4), .val (.int i5), .val (.ref a6), .unset, .unset, .unset, .unset] []
    refine g_aload (pc' := 72) C at_70 rfl rfl rfl ?_
    refine g_iload (pc' := 74) C at_72 rfl rfl ?_
    by_cases u_i4_i2 : i4.toInt = i2.toInt
    ·
      refine g_virtual (y := (⟨"com/example/ripplecast/ripplecast/ActiveNodes", "add", "(I)V"⟩ : MethodName)) (a := a6) (pc' := 77) (k' := 4) (n' := 84) (S := []) (as := [(.int i4)]) C at_74 rfl (hw _ (List.mem_of_getElem? (i := 18) rfl)) (hw _ (List.mem_of_getElem? (i := 20) rfl)) (hw _ (List.mem_of_getElem? (i := 3) rfl)) (hw _ (List.mem_of_getElem? (i := 22) rfl)) (hw _ (List.mem_of_getElem? (i := 19) rfl)) (hw _ (List.mem_of_getElem? (i := 21) rfl)) (by decide) B.1.1 (lenOf pd_0 rfl) (con_add_old W.l Z a0 hw a6 b1 b2 b3 N [i2] i4 m_i4 hm_i4 (by omega) (by simp only [inL_cons, inL_nil, Bool.or_eq_true, Bool.or_eq_false_iff, beq_iff_eq, beq_eq_false_iff_ne, Bool.or_false, ne_eq, List.cons_append, List.nil_append]; omega) h3 B) rfl rfl (Nat.le_of_ble_eq_true rfl) (Nat.le_of_ble_eq_true rfl) rfl rfl (Nat.le_of_ble_eq_true rfl) (Nat.le_of_ble_eq_true rfl) all0 fun vh5 h5 qh5 Kh5 => ?_
      obtain ⟨rfl, eh⟩ := qh5
      subst eh
      show Go W Q h3 4 84 77 #[.val (.int p0), .val (.int p1), .val (.int p2), .val (.int p3), .val (.int p4), .val (.int i1), .val (.int i2), .val (.int i3), .val (.int i4), .val (.int i5), .val (.ref a6), .unset, .unset, .unset, .unset] []
      refine g_iload (pc' := 79) C at_77 rfl rfl ?_
      refine g_iload (pc' := 81) C at_79 rfl rfl ?_
      refine g_icmpY (xi := i3.toInt) (yi := i2.toInt) (pc1 := 88) C at_81 (by decide) rfl rfl rfl (by omega : i3.toInt = i2.toInt) ?_
      refine g_iconst (pc' := 89) (z := (0 : Int32)) C at_88 rfl rfl ?_
      refine g_istore (pc' := 91) (L' := #[.val (.int p0), .val (.int p1), .val (.int p2), .val (.int p3), .val (.int p4), .val (.int i1), .val (.int i2), .val (.int i3), .val (.int i4), .val (.int i5), .val (.ref a6), .val (.int (0 : Int32)), .unset, .unset, .unset]) C at_89 rfl rfl ?_
      refine g_iload (pc' := 93) C at_91 rfl rfl ?_
      refine g_iload (pc' := 95) C at_93 rfl rfl ?_
      refine g_icmpY (xi := i4.toInt) (yi := i2.toInt) (pc1 := 109) C at_95 (by decide) rfl rfl rfl (by omega : i4.toInt = i2.toInt) ?_
      refine g_iconst (pc' := 110) (z := (0 : Int32)) C at_109 rfl rfl ?_
      refine g_istore (pc' := 112) (L' := #[.val (.int p0), .val (.int p1), .val (.int p2), .val (.int p3), .val (.int p4), .val (.int i1), .val (.int i2), .val (.int i3), .val (.int i4), .val (.int i5), .val (.ref a6), .val (.int (0 : Int32)), .val (.int (0 : Int32)), .unset, .unset]) C at_110 rfl rfl ?_
      refine g_iconst (pc' := 113) (z := (1 : Int32)) C at_112 rfl rfl ?_
      refine g_istore (pc' := 115) (L' := #[.val (.int p0), .val (.int p1), .val (.int p2), .val (.int p3), .val (.int p4), .val (.int i1), .val (.int i2), .val (.int i3), .val (.int i4), .val (.int i5), .val (.ref a6), .val (.int (0 : Int32)), .val (.int (0 : Int32)), .val (.int (1 : Int32)), .unset]) C at_113 rfl rfl ?_
      refine g_iload (pc' := 117) C at_115 rfl rfl ?_
      refine g_ifY (xi := 0) (pc1 := 126) C at_117 (by decide) rfl rfl (by decide) ?_
      refine g_iload (pc' := 128) C at_126 rfl rfl ?_
      refine g_ifY (xi := 0) (pc1 := 137) C at_128 (by decide) rfl rfl (by decide) ?_
      refine g_aload (pc' := 139) C at_137 rfl rfl rfl ?_
      refine g_virtual (y := (⟨"com/example/ripplecast/ripplecast/ActiveNodes", "size", "()I"⟩ : MethodName)) (a := a6) (pc' := 142) (k' := 4) (n' := 84) (S := []) (as := []) C at_139 rfl (hw _ (List.mem_of_getElem? (i := 23) rfl)) (hw _ (List.mem_of_getElem? (i := 25) rfl)) (hw _ (List.mem_of_getElem? (i := 3) rfl)) (hw _ (List.mem_of_getElem? (i := 27) rfl)) (hw _ (List.mem_of_getElem? (i := 24) rfl)) (hw _ (List.mem_of_getElem? (i := 26) rfl)) (by decide) B.1.1 (lenOf pd_1 rfl) (con_size W.l Z a0 hw a6 b1 b2 b3 N [i2] h3 B) rfl rfl (Nat.le_of_ble_eq_true rfl) (Nat.le_of_ble_eq_true rfl) rfl rfl (Nat.le_of_ble_eq_true rfl) (Nat.le_of_ble_eq_true rfl) all0 fun vh6 h6 qh6 Kh6 => ?_
      obtain ⟨⟨i7, rfl, er_i7⟩, eh⟩ := qh6
      subst eh
      show Go W Q h3 4 84 142 #[.val (.int p0), .val (.int p1), .val (.int p2), .val (.int p3), .val (.int p4), .val (.int i1), .val (.int i2), .val (.int i3), .val (.int i4), .val (.int i5), .val (.ref a6), .val (.int (0 : Int32)), .val (.int (0 : Int32)), .val (.int (1 : Int32)), .unset] [(.int i7)]
      obtain rfl : i7 = 1 := Int32.toInt_inj.mp er_i7
      refine g_iload (pc' := 144) C at_142 rfl rfl ?_
      refine g_icmpY (xi := 1) (yi := 1) (pc1 := 149) C at_144 (by decide) rfl rfl rfl (by decide) ?_
      refine g_aload (pc' := 151) C at_149 rfl rfl rfl ?_
      refine g_iconst (pc' := 152) (z := (0 : Int32)) C at_151 rfl rfl ?_
      refine g_virtualP (y := (⟨"com/example/ripplecast/ripplecast/ActiveNodes", "get", "(I)I"⟩ : MethodName)) (a := a6) (pc' := 155) (k' := 4) (n' := 84) (S := []) (as := [(.int (0 : Int32))]) C at_152 rfl (hw _ (List.mem_of_getElem? (i := 28) rfl)) (hw _ (List.mem_of_getElem? (i := 30) rfl)) (hw _ (List.mem_of_getElem? (i := 3) rfl)) (hw _ (List.mem_of_getElem? (i := 32) rfl)) (hw _ (List.mem_of_getElem? (i := 29) rfl)) (hw _ (List.mem_of_getElem? (i := 31) rfl)) (by decide) B.1.1 (lenOf pd_2 rfl) (con_get W.l Z a0 hw a6 b1 b2 b3 N [i2] 0 0 rfl (Nat.le_of_ble_eq_true rfl) (by simp only [List.length_cons, List.length_nil]; omega) h3 B) rfl rfl (Nat.le_of_ble_eq_true rfl) (Nat.le_of_ble_eq_true rfl) rfl rfl (Nat.le_of_ble_eq_true rfl) (Nat.le_of_ble_eq_true rfl) (S1 := [(.int i2)]) rfl ?_
      refine g_iload (pc' := 157) C at_155 rfl rfl ?_
      refine g_icmpY (xi := i2.toInt) (yi := i2.toInt) (pc1 := 162) C at_157 (by decide) rfl rfl rfl rfl ?_
      refine g_iload (pc' := 164) C at_162 rfl rfl ?_
      refine g_iconst (pc' := 165) (z := (2 : Int32)) C at_164 rfl rfl ?_
      refine g_icmpY (xi := 1) (yi := 2) (pc1 := 195) C at_165 (by decide) rfl rfl rfl (by decide) ?_
      refine g_iload (pc' := 197) C at_195 rfl rfl ?_
      refine g_iconst (pc' := 198) (z := (3 : Int32)) C at_197 rfl rfl ?_
      refine g_icmpY (xi := 1) (yi := 3) (pc1 := 214) C at_198 (by decide) rfl rfl rfl (by decide) ?_
      refine g_iload (pc' := 216) C at_214 rfl rfl ?_
      refine g_iload (pc' := 218) C at_216 rfl rfl ?_
      suffices K_218 : ∀ (Bz8 : Bool) (z8 : Int32), Bz8 = decide ((i5.toInt = i2.toInt) ∨ ((i5.toInt = i3.toInt) ∨ (i5.toInt = i4.toInt))) → z8 = b2i (Bz8 = true) → Go W Q h3 4 84 240 #[.val (.int p0), .val (.int p1), .val (.int p2), .val (.int p3), .val (.int p4), .val (.int i1), .val (.int i2), .val (.int i3), .val (.int i4), .val (.int i5), .val (.ref a6), .val (.int (0 : Int32)), .val (.int (0 : Int32)), .val (.int (1 : Int32)), .unset] [(.int z8)] by
        refine g_icmp (xi := i5.toInt) (yi := i2.toInt) (pc1 := 235) (pc2 := 221) C at_218 (by decide) rfl rfl rfl rfl (fun (c218 : i5.toInt = i2.toInt) => ?_) (fun (c218 : ¬ (i5.toInt = i2.toInt)) => ?_)
        ·
          refine g_iconst (pc' := 236) (z := (1 : Int32)) C at_235 rfl rfl ?_
          refine g_goto C at_236 (by decide) (pc' := 240) rfl ?_
          exact K_218 (decide ((i5.toInt = i2.toInt) ∨ ((i5.toInt = i3.toInt) ∨ (i5.toInt = i4.toInt)))) (1 : Int32) rfl ((rfl : (1 : Int32) = b2i True).trans (b2i_iff ((iff_true_intro (Or.inl c218)).symm.trans decide_eq_true_iff.symm)))
        ·
          refine g_iload (pc' := 223) C at_221 rfl rfl ?_
          refine g_iload (pc' := 225) C at_223 rfl rfl ?_
          refine g_icmp (xi := i5.toInt) (yi := i3.toInt) (pc1 := 235) (pc2 := 228) C at_225 (by decide) rfl rfl rfl rfl (fun (c225 : i5.toInt = i3.toInt) => ?_) (fun (c225 : ¬ (i5.toInt = i3.toInt)) => ?_)
          ·
            refine g_iconst (pc' := 236) (z := (1 : Int32)) C at_235 rfl rfl ?_
            refine g_goto C at_236 (by decide) (pc' := 240) rfl ?_
            exact K_218 (decide ((i5.toInt = i2.toInt) ∨ ((i5.toInt = i3.toInt) ∨ (i5.toInt = i4.toInt)))) (1 : Int32) rfl ((rfl : (1 : Int32) = b2i True).trans (b2i_iff (((or_iff_right c218).trans (iff_true_intro (Or.inl c225))).symm.trans decide_eq_true_iff.symm)))
          ·
            refine g_iload (pc' := 230) C at_228 rfl rfl ?_
            refine g_iload (pc' := 232) C at_230 rfl rfl ?_
            refine g_icmp (xi := i5.toInt) (yi := i4.toInt) (pc1 := 239) (pc2 := 235) C at_232 (by decide) rfl rfl rfl rfl (fun (c232 : ¬ (i5.toInt = i4.toInt)) => ?_) (fun (c232 : ¬ (¬ (i5.toInt = i4.toInt))) => ?_)
            ·
              refine g_iconst (pc' := 240) (z := (0 : Int32)) C at_239 rfl rfl ?_
              exact K_218 (decide ((i5.toInt = i2.toInt) ∨ ((i5.toInt = i3.toInt) ∨ (i5.toInt = i4.toInt)))) (0 : Int32) rfl ((rfl : (0 : Int32) = b2i False).trans (b2i_iff (((or_iff_right c218).trans ((or_iff_right c225).trans (iff_false_intro c232))).symm.trans decide_eq_true_iff.symm)))
            ·
              replace c232 : i5.toInt = i4.toInt := Decidable.not_not.mp c232
              refine g_iconst (pc' := 236) (z := (1 : Int32)) C at_235 rfl rfl ?_
              refine g_goto C at_236 (by decide) (pc' := 240) rfl ?_
              exact K_218 (decide ((i5.toInt = i2.toInt) ∨ ((i5.toInt = i3.toInt) ∨ (i5.toInt = i4.toInt)))) (1 : Int32) rfl ((rfl : (1 : Int32) = b2i True).trans (b2i_iff (((or_iff_right c218).trans ((or_iff_right c225).trans (iff_true_intro c232))).symm.trans decide_eq_true_iff.symm)))
      intro Bz8 z8 bd_z8 e_z8
      have b_z8 : Bz8 = true ↔ ((i5.toInt = i2.toInt) ∨ ((i5.toInt = i3.toInt) ∨ (i5.toInt = i4.toInt))) := by rw [bd_z8]; exact decide_eq_true_iff
      refine g_istore (pc' := 242) (L' := #[.val (.int p0), .val (.int p1), .val (.int p2), .val (.int p3), .val (.int p4), .val (.int i1), .val (.int i2), .val (.int i3), .val (.int i4), .val (.int i5), .val (.ref a6), .val (.int (0 : Int32)), .val (.int (0 : Int32)), .val (.int (1 : Int32)), .val (.int z8)]) C at_240 rfl rfl ?_
      refine g_aload (pc' := 244) C at_242 rfl rfl rfl ?_
      refine g_iload (pc' := 246) C at_244 rfl rfl ?_
      refine g_virtualP (y := (⟨"com/example/ripplecast/ripplecast/ActiveNodes", "contains", "(I)Z"⟩ : MethodName)) (a := a6) (pc' := 249) (k' := 4) (n' := 84) (S := []) (as := [(.int i5)]) C at_246 rfl (hw _ (List.mem_of_getElem? (i := 33) rfl)) (hw _ (List.mem_of_getElem? (i := 35) rfl)) (hw _ (List.mem_of_getElem? (i := 3) rfl)) (hw _ (List.mem_of_getElem? (i := 37) rfl)) (hw _ (List.mem_of_getElem? (i := 34) rfl)) (hw _ (List.mem_of_getElem? (i := 36) rfl)) (by decide) B.1.1 (lenOf pd_3 rfl) (con_contains W.l Z a0 hw a6 b1 b2 b3 N [i2] i5 m_i5 hm_i5 (by omega) h3 B) rfl rfl (Nat.le_of_ble_eq_true rfl) (Nat.le_of_ble_eq_true rfl) rfl rfl (Nat.le_of_ble_eq_true rfl) (Nat.le_of_ble_eq_true rfl) (S1 := [(.int (b2i (inL [i2] (m_i5 : Nat) = true)))]) rfl ?_
      refine g_iload (pc' := 251) C at_249 rfl rfl ?_
      refine g_icmpbeq (pc1 := 256) (pc2 := 254) C at_251 (by decide) rfl rfl rfl e_z8 (fun (c251 : (inL [i2] (m_i5 : Nat) = true) ↔ (Bz8 = true)) => ?_) (fun (c251 : ¬ ((inL [i2] (m_i5 : Nat) = true) ↔ (Bz8 = true))) => ?_)
      ·
        refine g_aload (pc' := 258) C at_256 rfl rfl rfl ?_
        refine g_iload (pc' := 260) C at_258 rfl rfl ?_
        refine g_virtualP (y := (⟨"com/example/ripplecast/ripplecast/ActiveNodes", "contains", "(I)Z"⟩ : MethodName)) (a := a6) (pc' := 263) (k' := 4) (n' := 84) (S := []) (as := [(.int i2)]) C at_260 rfl (hw _ (List.mem_of_getElem? (i := 33) rfl)) (hw _ (List.mem_of_getElem? (i := 35) rfl)) (hw _ (List.mem_of_getElem? (i := 3) rfl)) (hw _ (List.mem_of_getElem? (i := 37) rfl)) (hw _ (List.mem_of_getElem? (i := 34) rfl)) (hw _ (List.mem_of_getElem? (i := 36) rfl)) (by decide) B.1.1 (lenOf pd_3 rfl) (con_contains W.l Z a0 hw a6 b1 b2 b3 N [i2] i2 m_i2 hm_i2 (by omega) h3 B) rfl rfl (Nat.le_of_ble_eq_true rfl) (Nat.le_of_ble_eq_true rfl) rfl rfl (Nat.le_of_ble_eq_true rfl) (Nat.le_of_ble_eq_true rfl) (S1 := [(.int (b2i (inL [i2] (m_i2 : Nat) = true)))]) rfl ?_
        refine g_retN C (by simp) at_263 (by decide) (by decide) ?_
        subst hQ
        refine congrArg (fun z => some (Value.int z)) (?_ : nar .boolean (b2i (inL [i2] (m_i2 : Nat) = true)) = 1)
        rw [nar_b2i]
        refine b2i_pos ?_
        simp only [inL_cons, inL_nil, Bool.or_eq_true, Bool.or_eq_false_iff, beq_iff_eq, beq_eq_false_iff_ne, Bool.or_false, ne_eq, List.cons_append, List.nil_append]
        omega
      ·
        refine g_iconst (pc' := 255) (z := (0 : Int32)) C at_254 rfl rfl ?_
        refine g_retN C (by simp) at_255 (by decide) (by decide) ?_
        subst hQ
        exfalso
        refine c251 ?_
        rw [b_z8]
        simp only [inL_cons, inL_nil, Bool.or_eq_true, Bool.or_eq_false_iff, beq_iff_eq, beq_eq_false_iff_ne, Bool.or_false, ne_eq, List.cons_append, List.nil_append]
        omega
    ·
      refine g_virtual (y := (⟨"com/example/ripplecast/ripplecast/ActiveNodes", "add", "(I)V"⟩ : MethodName)) (a := a6) (pc' := 77) (k' := 4) (n' := 84) (S := []) (as := [(.int i4)]) C at_74 rfl (hw _ (List.mem_of_getElem? (i := 18) rfl)) (hw _ (List.mem_of_getElem? (i := 20) rfl)) (hw _ (List.mem_of_getElem? (i := 3) rfl)) (hw _ (List.mem_of_getElem? (i := 22) rfl)) (hw _ (List.mem_of_getElem? (i := 19) rfl)) (hw _ (List.mem_of_getElem? (i := 21) rfl)) (by decide) B.1.1 (lenOf pd_0 rfl) (con_add_new W.l Z a0 hw a6 b1 b2 b3 N [i2] i4 m_i4 hm_i4 (by omega) (by simp only [inL_cons, inL_nil, Bool.or_eq_true, Bool.or_eq_false_iff, beq_iff_eq, beq_eq_false_iff_ne, Bool.or_false, ne_eq, List.cons_append, List.nil_append]; try omega) (by simp only [List.length_cons, List.length_nil]; omega) hN q01 q02 q03 q12 q13 q23 h3 B) rfl rfl (Nat.le_of_ble_eq_true rfl) (Nat.le_of_ble_eq_true rfl) rfl rfl (Nat.le_of_ble_eq_true rfl) (Nat.le_of_ble_eq_true rfl) (allS pwb1 (allS pwb2 (allS pwb3 all0))) fun vh7 h7 qh7 Kh7 => ?_
      obtain ⟨rfl, B⟩ := qh7
      show Go W Q h7 4 84 77 #[.val (.int p0), .val (.int p1), .val (.int p2), .val (.int p3), .val (.int p4), .val (.int i1), .val (.int i2), .val (.int i3), .val (.int i4), .val (.int i5), .val (.ref a6), .unset, .unset, .unset, .unset] []
      replace B : AN Z h7 a6 b1 b2 b3 N [i2, i4] := B
      refine g_iload (pc' := 79) C at_77 rfl rfl ?_
      refine g_iload (pc' := 81) C at_79 rfl rfl ?_
      refine g_icmpY (xi := i3.toInt) (yi := i2.toInt) (pc1 := 88) C at_81 (by decide) rfl rfl rfl (by omega : i3.toInt = i2.toInt) ?_
      refine g_iconst (pc' := 89) (z := (0 : Int32)) C at_88 rfl rfl ?_
      refine g_istore (pc' := 91) (L' := #[.val (.int p0), .val (.int p1), .val (.int p2), .val (.int p3), .val (.int p4), .val (.int i1), .val (.int i2), .val (.int i3), .val (.int i4), .val (.int i5), .val (.ref a6), .val (.int (0 : Int32)), .unset, .unset, .unset]) C at_89 rfl rfl ?_
      refine g_iload (pc' := 93) C at_91 rfl rfl ?_
      refine g_iload (pc' := 95) C at_93 rfl rfl ?_
      refine g_icmpN (xi := i4.toInt) (yi := i2.toInt) (pc2 := 98) C at_95 rfl rfl rfl (by omega : ¬ (i4.toInt = i2.toInt)) ?_
      refine g_iload (pc' := 100) C at_98 rfl rfl ?_
      refine g_iload (pc' := 102) C at_100 rfl rfl ?_
      refine g_icmpN (xi := i4.toInt) (yi := i3.toInt) (pc2 := 105) C at_102 rfl rfl rfl (by omega : ¬ (i4.toInt = i3.toInt)) ?_
      refine g_iconst (pc' := 106) (z := (1 : Int32)) C at_105 rfl rfl ?_
      refine g_goto C at_106 (by decide) (pc' := 110) rfl ?_
      refine g_istore (pc' := 112) (L' := #[.val (.int p0), .val (.int p1), .val (.int p2), .val (.int p3), .val (.int p4), .val (.int i1), .val (.int i2), .val (.int i3), .val (.int i4), .val (.int i5), .val (.ref a6), .val (.int (0 : Int32)), .val (.int (1 : Int32)), .unset, .unset]) C at_110 rfl rfl ?_
      refine g_iconst (pc' := 113) (z := (1 : Int32)) C at_112 rfl rfl ?_
      refine g_istore (pc' := 115) (L' := #[.val (.int p0), .val (.int p1), .val (.int p2), .val (.int p3), .val (.int p4), .val (.int i1), .val (.int i2), .val (.int i3), .val (.int i4), .val (.int i5), .val (.ref a6), .val (.int (0 : Int32)), .val (.int (1 : Int32)), .val (.int (1 : Int32)), .unset]) C at_113 rfl rfl ?_
      refine g_iload (pc' := 117) C at_115 rfl rfl ?_
      refine g_ifY (xi := 0) (pc1 := 126) C at_117 (by decide) rfl rfl (by decide) ?_
      refine g_iload (pc' := 128) C at_126 rfl rfl ?_
      refine g_ifN (xi := 1) (pc2 := 131) C at_128 rfl rfl (by decide) ?_
      refine g_iload (pc' := 133) C at_131 rfl rfl ?_
      refine g_iconst (pc' := 134) (z := (1 : Int32)) C at_133 rfl rfl ?_
      refine g_iadd (pc' := 135) C at_134 rfl ?_
      show Go W Q h7 4 84 135 #[.val (.int p0), .val (.int p1), .val (.int p2), .val (.int p3), .val (.int p4), .val (.int i1), .val (.int i2), .val (.int i3), .val (.int i4), .val (.int i5), .val (.ref a6), .val (.int (0 : Int32)), .val (.int (1 : Int32)), .val (.int (1 : Int32)), .unset] [(.int (2 : Int32))]
      refine g_istore (pc' := 137) (L' := #[.val (.int p0), .val (.int p1), .val (.int p2), .val (.int p3), .val (.int p4), .val (.int i1), .val (.int i2), .val (.int i3), .val (.int i4), .val (.int i5), .val (.ref a6), .val (.int (0 : Int32)), .val (.int (1 : Int32)), .val (.int (2 : Int32)), .unset]) C at_135 rfl rfl ?_
      refine g_aload (pc' := 139) C at_137 rfl rfl rfl ?_
      refine g_virtual (y := (⟨"com/example/ripplecast/ripplecast/ActiveNodes", "size", "()I"⟩ : MethodName)) (a := a6) (pc' := 142) (k' := 4) (n' := 84) (S := []) (as := []) C at_139 rfl (hw _ (List.mem_of_getElem? (i := 23) rfl)) (hw _ (List.mem_of_getElem? (i := 25) rfl)) (hw _ (List.mem_of_getElem? (i := 3) rfl)) (hw _ (List.mem_of_getElem? (i := 27) rfl)) (hw _ (List.mem_of_getElem? (i := 24) rfl)) (hw _ (List.mem_of_getElem? (i := 26) rfl)) (by decide) B.1.1 (lenOf pd_1 rfl) (con_size W.l Z a0 hw a6 b1 b2 b3 N [i2, i4] h7 B) rfl rfl (Nat.le_of_ble_eq_true rfl) (Nat.le_of_ble_eq_true rfl) rfl rfl (Nat.le_of_ble_eq_true rfl) (Nat.le_of_ble_eq_true rfl) all0 fun vh8 h8 qh8 Kh8 => ?_
      obtain ⟨⟨i9, rfl, er_i9⟩, eh⟩ := qh8
      subst eh
      show Go W Q h7 4 84 142 #[.val (.int p0), .val (.int p1), .val (.int p2), .val (.int p3), .val (.int p4), .val (.int i1), .val (.int i2), .val (.int i3), .val (.int i4), .val (.int i5), .val (.ref a6), .val (.int (0 : Int32)), .val (.int (1 : Int32)), .val (.int (2 : Int32)), .unset] [(.int i9)]
      obtain rfl : i9 = 2 := Int32.toInt_inj.mp er_i9
      refine g_iload (pc' := 144) C at_142 rfl rfl ?_
      refine g_icmpY (xi := 2) (yi := 2) (pc1 := 149) C at_144 (by decide) rfl rfl rfl (by decide) ?_
      refine g_aload (pc' := 151) C at_149 rfl rfl rfl ?_
      refine g_iconst (pc' := 152) (z := (0 : Int32)) C at_151 rfl rfl ?_
      refine g_virtualP (y := (⟨"com/example/ripplecast/ripplecast/ActiveNodes", "get", "(I)I"⟩ : MethodName)) (a := a6) (pc' := 155) (k' := 4) (n' := 84) (S := []) (as := [(.int (0 : Int32))]) C at_152 rfl (hw _ (List.mem_of_getElem? (i := 28) rfl)) (hw _ (List.mem_of_getElem? (i := 30) rfl)) (hw _ (List.mem_of_getElem? (i := 3) rfl)) (hw _ (List.mem_of_getElem? (i := 32) rfl)) (hw _ (List.mem_of_getElem? (i := 29) rfl)) (hw _ (List.mem_of_getElem? (i := 31) rfl)) (by decide) B.1.1 (lenOf pd_2 rfl) (con_get W.l Z a0 hw a6 b1 b2 b3 N [i2, i4] 0 0 rfl (Nat.le_of_ble_eq_true rfl) (by simp only [List.length_cons, List.length_nil]; omega) h7 B) rfl rfl (Nat.le_of_ble_eq_true rfl) (Nat.le_of_ble_eq_true rfl) rfl rfl (Nat.le_of_ble_eq_true rfl) (Nat.le_of_ble_eq_true rfl) (S1 := [(.int i2)]) rfl ?_
      refine g_iload (pc' := 157) C at_155 rfl rfl ?_
      refine g_icmpY (xi := i2.toInt) (yi := i2.toInt) (pc1 := 162) C at_157 (by decide) rfl rfl rfl rfl ?_
      refine g_iload (pc' := 164) C at_162 rfl rfl ?_
      refine g_iconst (pc' := 165) (z := (2 : Int32)) C at_164 rfl rfl ?_
      refine g_icmpN (xi := 2) (yi := 2) (pc2 := 168) C at_165 rfl rfl rfl (by decide) ?_
      refine g_iload (pc' := 170) C at_168 rfl rfl ?_
      refine g_ifY (xi := 0) (pc1 := 178) C at_170 (by decide) rfl rfl (by decide) ?_
      refine g_iload (pc' := 180) C at_178 rfl rfl ?_
      refine g_istore (pc' := 182) (L' := #[.val (.int p0), .val (.int p1), .val (.int p2), .val (.int p3), .val (.int p4), .val (.int i1), .val (.int i2), .val (.int i3), .val (.int i4), .val (.int i5), .val (.ref a6), .val (.int (0 : Int32)), .val (.int (1 : Int32)), .val (.int (2 : Int32)), .val (.int i4)]) C at_180 rfl rfl ?_
      refine g_aload (pc' := 184) C at_182 rfl rfl rfl ?_
      refine g_iconst (pc' := 185) (z := (1 : Int32)) C at_184 rfl rfl ?_
      refine g_virtualP (y := (⟨"com/example/ripplecast/ripplecast/ActiveNodes", "get", "(I)I"⟩ : MethodName)) (a := a6) (pc' := 188) (k' := 4) (n' := 84) (S := []) (as := [(.int (1 : Int32))]) C at_185 rfl (hw _ (List.mem_of_getElem? (i := 28) rfl)) (hw _ (List.mem_of_getElem? (i := 30) rfl)) (hw _ (List.mem_of_getElem? (i := 3) rfl)) (hw _ (List.mem_of_getElem? (i := 32) rfl)) (hw _ (List.mem_of_getElem? (i := 29) rfl)) (hw _ (List.mem_of_getElem? (i := 31) rfl)) (by decide) B.1.1 (lenOf pd_2 rfl) (con_get W.l Z a0 hw a6 b1 b2 b3 N [i2, i4] 1 1 rfl (Nat.le_of_ble_eq_true rfl) (by simp only [List.length_cons, List.length_nil]; omega) h7 B) rfl rfl (Nat.le_of_ble_eq_true rfl) (Nat.le_of_ble_eq_true rfl) rfl rfl (Nat.le_of_ble_eq_true rfl) (Nat.le_of_ble_eq_true rfl) (S1 := [(.int i4)]) rfl ?_
      refine g_iload (pc' := 190) C at_188 rfl rfl ?_
      refine g_icmpY (xi := i4.toInt) (yi := i4.toInt) (pc1 := 195) C at_190 (by decide) rfl rfl rfl rfl ?_
      refine g_iload (pc' := 197) C at_195 rfl rfl ?_
      refine g_iconst (pc' := 198) (z := (3 : Int32)) C at_197 rfl rfl ?_
      refine g_icmpY (xi := 2) (yi := 3) (pc1 := 214) C at_198 (by decide) rfl rfl rfl (by decide) ?_
      refine g_iload (pc' := 216) C at_214 rfl rfl ?_
      refine g_iload (pc' := 218) C at_216 rfl rfl ?_
      suffices K_218 : ∀ (Bz10 : Bool) (z10 : Int32), Bz10 = decide ((i5.toInt = i2.toInt) ∨ ((i5.toInt = i3.toInt) ∨ (i5.toInt = i4.toInt))) → z10 = b2i (Bz10 = true) → Go W Q h7 4 84 240 #[.val (.int p0), .val (.int p1), .val (.int p2), .val (.int p3), .val (.int p4), .val (.int i1), .val (.int i2), .val (.int i3), .val (.int i4), .val (.int i5), .val (.ref a6), .val (.int (0 : Int32)), .val (.int (1 : Int32)), .val (.int (2 : Int32)), .val (.int i4)] [(.int z10)] by
        refine g_icmp (xi := i5.toInt) (yi := i2.toInt) (pc1 := 235) (pc2 := 221) C at_218 (by decide) rfl rfl rfl rfl (fun (c218 : i5.toInt = i2.toInt) => ?_) (fun (c218 : ¬ (i5.toInt = i2.toInt)) => ?_)
        ·
          refine g_iconst (pc' := 236) (z := (1 : Int32)) C at_235 rfl rfl ?_
          refine g_goto C at_236 (by decide) (pc' := 240) rfl ?_
          exact K_218 (decide ((i5.toInt = i2.toInt) ∨ ((i5.toInt = i3.toInt) ∨ (i5.toInt = i4.toInt)))) (1 : Int32) rfl ((rfl : (1 : Int32) = b2i True).trans (b2i_iff ((iff_true_intro (Or.inl c218)).symm.trans decide_eq_true_iff.symm)))
        ·
          refine g_iload (pc' := 223) C at_221 rfl rfl ?_
          refine g_iload (pc' := 225) C at_223 rfl rfl ?_
          refine g_icmp (xi := i5.toInt) (yi := i3.toInt) (pc1 := 235) (pc2 := 228) C at_225 (by decide) rfl rfl rfl rfl (fun (c225 : i5.toInt = i3.toInt) => ?_) (fun (c225 : ¬ (i5.toInt = i3.toInt)) => ?_)
          ·
            refine g_iconst (pc' := 236) (z := (1 : Int32)) C at_235 rfl rfl ?_
            refine g_goto C at_236 (by decide) (pc' := 240) rfl ?_
            exact K_218 (decide ((i5.toInt = i2.toInt) ∨ ((i5.toInt = i3.toInt) ∨ (i5.toInt = i4.toInt)))) (1 : Int32) rfl ((rfl : (1 : Int32) = b2i True).trans (b2i_iff (((or_iff_right c218).trans (iff_true_intro (Or.inl c225))).symm.trans decide_eq_true_iff.symm)))
          ·
            refine g_iload (pc' := 230) C at_228 rfl rfl ?_
            refine g_iload (pc' := 232) C at_230 rfl rfl ?_
            refine g_icmp (xi := i5.toInt) (yi := i4.toInt) (pc1 := 239) (pc2 := 235) C at_232 (by decide) rfl rfl rfl rfl (fun (c232 : ¬ (i5.toInt = i4.toInt)) => ?_) (fun (c232 : ¬ (¬ (i5.toInt = i4.toInt))) => ?_)
            ·
              refine g_iconst (pc' := 240) (z := (0 : Int32)) C at_239 rfl rfl ?_
              exact K_218 (decide ((i5.toInt = i2.toInt) ∨ ((i5.toInt = i3.toInt) ∨ (i5.toInt = i4.toInt)))) (0 : Int32) rfl ((rfl : (0 : Int32) = b2i False).trans (b2i_iff (((or_iff_right c218).trans ((or_iff_right c225).trans (iff_false_intro c232))).symm.trans decide_eq_true_iff.symm)))
            ·
              replace c232 : i5.toInt = i4.toInt := Decidable.not_not.mp c232
              refine g_iconst (pc' := 236) (z := (1 : Int32)) C at_235 rfl rfl ?_
              refine g_goto C at_236 (by decide) (pc' := 240) rfl ?_
              exact K_218 (decide ((i5.toInt = i2.toInt) ∨ ((i5.toInt = i3.toInt) ∨ (i5.toInt = i4.toInt)))) (1 : Int32) rfl ((rfl : (1 : Int32) = b2i True).trans (b2i_iff (((or_iff_right c218).trans ((or_iff_right c225).trans (iff_true_intro c232))).symm.trans decide_eq_true_iff.symm)))
      intro Bz10 z10 bd_z10 e_z10
      have b_z10 : Bz10 = true ↔ ((i5.toInt = i2.toInt) ∨ ((i5.toInt = i3.toInt) ∨ (i5.toInt = i4.toInt))) := by rw [bd_z10]; exact decide_eq_true_iff
      refine g_istore (pc' := 242) (L' := #[.val (.int p0), .val (.int p1), .val (.int p2), .val (.int p3), .val (.int p4), .val (.int i1), .val (.int i2), .val (.int i3), .val (.int i4), .val (.int i5), .val (.ref a6), .val (.int (0 : Int32)), .val (.int (1 : Int32)), .val (.int (2 : Int32)), .val (.int z10)]) C at_240 rfl rfl ?_
      refine g_aload (pc' := 244) C at_242 rfl rfl rfl ?_
      refine g_iload (pc' := 246) C at_244 rfl rfl ?_
      refine g_virtualP (y := (⟨"com/example/ripplecast/ripplecast/ActiveNodes", "contains", "(I)Z"⟩ : MethodName)) (a := a6) (pc' := 249) (k' := 4) (n' := 84) (S := []) (as := [(.int i5)]) C at_246 rfl (hw _ (List.mem_of_getElem? (i := 33) rfl)) (hw _ (List.mem_of_getElem? (i := 35) rfl)) (hw _ (List.mem_of_getElem? (i := 3) rfl)) (hw _ (List.mem_of_getElem? (i := 37) rfl)) (hw _ (List.mem_of_getElem? (i := 34) rfl)) (hw _ (List.mem_of_getElem? (i := 36) rfl)) (by decide) B.1.1 (lenOf pd_3 rfl) (con_contains W.l Z a0 hw a6 b1 b2 b3 N [i2, i4] i5 m_i5 hm_i5 (by omega) h7 B) rfl rfl (Nat.le_of_ble_eq_true rfl) (Nat.le_of_ble_eq_true rfl) rfl rfl (Nat.le_of_ble_eq_true rfl) (Nat.le_of_ble_eq_true rfl) (S1 := [(.int (b2i (inL [i2, i4] (m_i5 : Nat) = true)))]) rfl ?_
      refine g_iload (pc' := 251) C at_249 rfl rfl ?_
      refine g_icmpbeq (pc1 := 256) (pc2 := 254) C at_251 (by decide) rfl rfl rfl e_z10 (fun (c251 : (inL [i2, i4] (m_i5 : Nat) = true) ↔ (Bz10 = true)) => ?_) (fun (c251 : ¬ ((inL [i2, i4] (m_i5 : Nat) = true) ↔ (Bz10 = true))) => ?_)
      ·
        refine g_aload (pc' := 258) C at_256 rfl rfl rfl ?_
        refine g_iload (pc' := 260) C at_258 rfl rfl ?_
        refine g_virtualP (y := (⟨"com/example/ripplecast/ripplecast/ActiveNodes", "contains", "(I)Z"⟩ : MethodName)) (a := a6) (pc' := 263) (k' := 4) (n' := 84) (S := []) (as := [(.int i2)]) C at_260 rfl (hw _ (List.mem_of_getElem? (i := 33) rfl)) (hw _ (List.mem_of_getElem? (i := 35) rfl)) (hw _ (List.mem_of_getElem? (i := 3) rfl)) (hw _ (List.mem_of_getElem? (i := 37) rfl)) (hw _ (List.mem_of_getElem? (i := 34) rfl)) (hw _ (List.mem_of_getElem? (i := 36) rfl)) (by decide) B.1.1 (lenOf pd_3 rfl) (con_contains W.l Z a0 hw a6 b1 b2 b3 N [i2, i4] i2 m_i2 hm_i2 (by omega) h7 B) rfl rfl (Nat.le_of_ble_eq_true rfl) (Nat.le_of_ble_eq_true rfl) rfl rfl (Nat.le_of_ble_eq_true rfl) (Nat.le_of_ble_eq_true rfl) (S1 := [(.int (b2i (inL [i2, i4] (m_i2 : Nat) = true)))]) rfl ?_
        refine g_retN C (by simp) at_263 (by decide) (by decide) ?_
        subst hQ
        refine congrArg (fun z => some (Value.int z)) (?_ : nar .boolean (b2i (inL [i2, i4] (m_i2 : Nat) = true)) = 1)
        rw [nar_b2i]
        refine b2i_pos ?_
        simp only [inL_cons, inL_nil, Bool.or_eq_true, Bool.or_eq_false_iff, beq_iff_eq, beq_eq_false_iff_ne, Bool.or_false, ne_eq, List.cons_append, List.nil_append]
        omega
      ·
        refine g_iconst (pc' := 255) (z := (0 : Int32)) C at_254 rfl rfl ?_
        refine g_retN C (by simp) at_255 (by decide) (by decide) ?_
        subst hQ
        exfalso
        refine c251 ?_
        rw [b_z10]
        simp only [inL_cons, inL_nil, Bool.or_eq_true, Bool.or_eq_false_iff, beq_iff_eq, beq_eq_false_iff_ne, Bool.or_false, ne_eq, List.cons_append, List.nil_append]
        omega
  ·
    refine g_virtual (y := (⟨"com/example/ripplecast/ripplecast/ActiveNodes", "add", "(I)V"⟩ : MethodName)) (a := a6) (pc' := 70) (k' := 4) (n' := 84) (S := []) (as := [(.int i3)]) C at_67 rfl (hw _ (List.mem_of_getElem? (i := 18) rfl)) (hw _ (List.mem_of_getElem? (i := 20) rfl)) (hw _ (List.mem_of_getElem? (i := 3) rfl)) (hw _ (List.mem_of_getElem? (i := 22) rfl)) (hw _ (List.mem_of_getElem? (i := 19) rfl)) (hw _ (List.mem_of_getElem? (i := 21) rfl)) (by decide) B.1.1 (lenOf pd_0 rfl) (con_add_new W.l Z a0 hw a6 b1 b2 b3 N [i2] i3 m_i3 hm_i3 (by omega) (by simp only [inL_cons, inL_nil, Bool.or_eq_true, Bool.or_eq_false_iff, beq_iff_eq, beq_eq_false_iff_ne, Bool.or_false, ne_eq, List.cons_append, List.nil_append]; try omega) (by simp only [List.length_cons, List.length_nil]; omega) hN q01 q02 q03 q12 q13 q23 h3 B) rfl rfl (Nat.le_of_ble_eq_true rfl) (Nat.le_of_ble_eq_true rfl) rfl rfl (Nat.le_of_ble_eq_true rfl) (Nat.le_of_ble_eq_true rfl) (allS pwb1 (allS pwb2 (allS pwb3 all0))) fun vh9 h9 qh9 Kh9 => ?_
    obtain ⟨rfl, B⟩ := qh9
    show Go W Q h9 4 84 70 #[.val (.int p0), .val (.int p1), .val (.int p2), .val (.int p3), .val (.int p4), .val (.int i1), .val (.int i2), .val (.int i3), .val (.int i4), .val (.int i5), .val (.ref a6), .unset, .unset, .unset, .unset] []
    replace B : AN Z h9 a6 b1 b2 b3 N [i2, i3] := B
    refine g_aload (pc' := 72) C at_70 rfl rfl rfl ?_
    refine g_iload (pc' := 74) C at_72 rfl rfl ?_
    by_cases u_i4_i2 : i4.toInt = i2.toInt
    ·
      refine g_virtual (y := (⟨"com/example/ripplecast/ripplecast/ActiveNodes", "add", "(I)V"⟩ : MethodName)) (a := a6) (pc' := 77) (k' := 4) (n' := 84) (S := []) (as := [(.int i4)]) C at_74 rfl (hw _ (List.mem_of_getElem? (i := 18) rfl)) (hw _ (List.mem_of_getElem? (i := 20) rfl)) (hw _ (List.mem_of_getElem? (i := 3) rfl)) (hw _ (List.mem_of_getElem? (i := 22) rfl)) (hw _ (List.mem_of_getElem? (i := 19) rfl)) (hw _ (List.mem_of_getElem? (i := 21) rfl)) (by decide) B.1.1 (lenOf pd_0 rfl) (con_add_old W.l Z a0 hw a6 b1 b2 b3 N [i2, i3] i4 m_i4 hm_i4 (by omega) (by simp only [inL_cons, inL_nil, Bool.or_eq_true, Bool.or_eq_false_iff, beq_iff_eq, beq_eq_false_iff_ne, Bool.or_false, ne_eq, List.cons_append, List.nil_append]; omega) h9 B) rfl rfl (Nat.le_of_ble_eq_true rfl) (Nat.le_of_ble_eq_true rfl) rfl rfl (Nat.le_of_ble_eq_true rfl) (Nat.le_of_ble_eq_true rfl) all0 fun vh10 h10 qh10 Kh10 => ?_
      obtain ⟨rfl, eh⟩ := qh10
      subst eh
      show Go W Q h9 4 84 77 #[.val (.int p0), .val (.int p1), .val (.int p2), .val (.int p3), .val (.int p4), .val (.int i1), .val (.int i2), .val (.int i3), .val (.int i4), .val (.int i5), .val (.ref a6), .unset, .unset, .unset, .unset] []
      refine g_iload (pc' := 79) C at_77 rfl rfl ?_
      refine g_iload (pc' := 81) C at_79 rfl rfl ?_
      refine g_icmpN (xi := i3.toInt) (yi := i2.toInt) (pc2 := 84) C at_81 rfl rfl rfl (by omega : ¬ (i3.toInt = i2.toInt)) ?_
      refine g_iconst (pc' := 85) (z := (1 : Int32)) C at_84 rfl rfl ?_
      refine g_goto C at_85 (by decide) (pc' := 89) rfl ?_
      refine g_istore (pc' := 91) (L' := #[.val (.int p0), .val (.int p1), .val (.int p2), .val (.int p3), .val (.int p4), .val (.int i1), .val (.int i2), .val (.int i3), .val (.int i4), .val (.int i5), .val (.ref a6), .val (.int (1 : Int32)), .unset, .unset, .unset]) C at_89 rfl rfl ?_
      refine g_iload (pc' := 93) C at_91 rfl rfl ?_
      refine g_iload (pc' := 95) C at_93 rfl rfl ?_
      refine g_icmpY (xi := i4.toInt) (yi := i2.toInt) (pc1 := 109) C at_95 (by decide) rfl rfl rfl (by omega : i4.toInt = i2.toInt) ?_
      refine g_iconst (pc' := 110) (z := (0 : Int32)) C at_109 rfl rfl ?_
      refine g_istore (pc' := 112) (L' := #[.val (.int p0), .val (.int p1), .val (.int p2), .val (.int p3), .val (.int p4), .val (.int i1), .val (.int i2), .val (.int i3), .val (.int i4), .val (.int i5), .val (.ref a6), .val (.int (1 : Int32)), .val (.int (0 : Int32)), .unset, .unset]) C at_110 rfl rfl ?_
      refine g_iconst (pc' := 113) (z := (1 : Int32)) C at_112 rfl rfl ?_
      refine g_istore (pc' := 115) (L' := #[.val (.int p0), .val (.int p1), .val (.int p2), .val (.int p3), .val (.int p4), .val (.int i1), .val (.int i2), .val (.int i3), .val (.int i4), .val (.int i5), .val (.ref a6), .val (.int (1 : Int32)), .val (.int (0 : Int32)), .val (.int (1 : Int32)), .unset]) C at_113 rfl rfl ?_
      refine g_iload (pc' := 117) C at_115 rfl rfl ?_
      refine g_ifN (xi := 1) (pc2 := 120) C at_117 rfl rfl (by decide) ?_
      refine g_iload (pc' := 122) C at_120 rfl rfl ?_
      refine g_iconst (pc' := 123) (z := (1 : Int32)) C at_122 rfl rfl ?_
      refine g_iadd (pc' := 124) C at_123 rfl ?_
      show Go W Q h9 4 84 124 #[.val (.int p0), .val (.int p1), .val (.int p2), .val (.int p3), .val (.int p4), .val (.int i1), .val (.int i2), .val (.int i3), .val (.int i4), .val (.int i5), .val (.ref a6), .val (.int (1 : Int32)), .val (.int (0 : Int32)), .val (.int (1 : Int32)), .unset] [(.int (2 : Int32))]
      refine g_istore (pc' := 126) (L' := #[.val (.int p0), .val (.int p1), .val (.int p2), .val (.int p3), .val (.int p4), .val (.int i1), .val (.int i2), .val (.int i3), .val (.int i4), .val (.int i5), .val (.ref a6), .val (.int (1 : Int32)), .val (.int (0 : Int32)), .val (.int (2 : Int32)), .unset]) C at_124 rfl rfl ?_
      refine g_iload (pc' := 128) C at_126 rfl rfl ?_
      refine g_ifY (xi := 0) (pc1 := 137) C at_128 (by decide) rfl rfl (by decide) ?_
      refine g_aload (pc' := 139) C at_137 rfl rfl rfl ?_
      refine g_virtual (y := (⟨"com/example/ripplecast/ripplecast/ActiveNodes", "size", "()I"⟩ : MethodName)) (a := a6) (pc' := 142) (k' := 4) (n' := 84) (S := []) (as := []) C at_139 rfl (hw _ (List.mem_of_getElem? (i := 23) rfl)) (hw _ (List.mem_of_getElem? (i := 25) rfl)) (hw _ (List.mem_of_getElem? (i := 3) rfl)) (hw _ (List.mem_of_getElem? (i := 27) rfl)) (hw _ (List.mem_of_getElem? (i := 24) rfl)) (hw _ (List.mem_of_getElem? (i := 26) rfl)) (by decide) B.1.1 (lenOf pd_1 rfl) (con_size W.l Z a0 hw a6 b1 b2 b3 N [i2, i3] h9 B) rfl rfl (Nat.le_of_ble_eq_true rfl) (Nat.le_of_ble_eq_true rfl) rfl rfl (Nat.le_of_ble_eq_true rfl) (Nat.le_of_ble_eq_true rfl) all0 fun vh11 h11 qh11 Kh11 => ?_
      obtain ⟨⟨i11, rfl, er_i11⟩, eh⟩ := qh11
      subst eh
      show Go W Q h9 4 84 142 #[.val (.int p0), .val (.int p1), .val (.int p2), .val (.int p3), .val (.int p4), .val (.int i1), .val (.int i2), .val (.int i3), .val (.int i4), .val (.int i5), .val (.ref a6), .val (.int (1 : Int32)), .val (.int (0 : Int32)), .val (.int (2 : Int32)), .unset] [(.int i11)]
      obtain rfl : i11 = 2 := Int32.toInt_inj.mp er_i11
      refine g_iload (pc' := 144) C at_142 rfl rfl ?_
      refine g_icmpY (xi := 2) (yi := 2) (pc1 := 149) C at_144 (by decide) rfl rfl rfl (by decide) ?_
      refine g_aload (pc' := 151) C at_149 rfl rfl rfl ?_
      refine g_iconst (pc' := 152) (z := (0 : Int32)) C at_151 rfl rfl ?_
      refine g_virtualP (y := (⟨"com/example/ripplecast/ripplecast/ActiveNodes", "get", "(I)I"⟩ : MethodName)) (a := a6) (pc' := 155) (k' := 4) (n' := 84) (S := []) (as := [(.int (0 : Int32))]) C at_152 rfl (hw _ (List.mem_of_getElem? (i := 28) rfl)) (hw _ (List.mem_of_getElem? (i := 30) rfl)) (hw _ (List.mem_of_getElem? (i := 3) rfl)) (hw _ (List.mem_of_getElem? (i := 32) rfl)) (hw _ (List.mem_of_getElem? (i := 29) rfl)) (hw _ (List.mem_of_getElem? (i := 31) rfl)) (by decide) B.1.1 (lenOf pd_2 rfl) (con_get W.l Z a0 hw a6 b1 b2 b3 N [i2, i3] 0 0 rfl (Nat.le_of_ble_eq_true rfl) (by simp only [List.length_cons, List.length_nil]; omega) h9 B) rfl rfl (Nat.le_of_ble_eq_true rfl) (Nat.le_of_ble_eq_true rfl) rfl rfl (Nat.le_of_ble_eq_true rfl) (Nat.le_of_ble_eq_true rfl) (S1 := [(.int i2)]) rfl ?_
      refine g_iload (pc' := 157) C at_155 rfl rfl ?_
      refine g_icmpY (xi := i2.toInt) (yi := i2.toInt) (pc1 := 162) C at_157 (by decide) rfl rfl rfl rfl ?_
      refine g_iload (pc' := 164) C at_162 rfl rfl ?_
      refine g_iconst (pc' := 165) (z := (2 : Int32)) C at_164 rfl rfl ?_
      refine g_icmpN (xi := 2) (yi := 2) (pc2 := 168) C at_165 rfl rfl rfl (by decide) ?_
      refine g_iload (pc' := 170) C at_168 rfl rfl ?_
      refine g_ifN (xi := 1) (pc2 := 173) C at_170 rfl rfl (by decide) ?_
      refine g_iload (pc' := 175) C at_173 rfl rfl ?_
      refine g_goto C at_175 (by decide) (pc' := 180) rfl ?_
      refine g_istore (pc' := 182) (L' := #[.val (.int p0), .val (.int p1), .val (.int p2), .val (.int p3), .val (.int p4), .val (.int i1), .val (.int i2), .val (.int i3), .val (.int i4), .val (.int i5), .val (.ref a6), .val (.int (1 : Int32)), .val (.int (0 : Int32)), .val (.int (2 : Int32)), .val (.int i3)]) C at_180 rfl rfl ?_
      refine g_aload (pc' := 184) C at_182 rfl rfl rfl ?_
      refine g_iconst (pc' := 185) (z := (1 : Int32)) C at_184 rfl rfl ?_
      refine g_virtualP (y := (⟨"com/example/ripplecast/ripplecast/ActiveNodes", "get", "(I)I"⟩ : MethodName)) (a := a6) (pc' := 188) (k' := 4) (n' := 84) (S := []) (as := [(.int (1 : Int32))]) C at_185 rfl (hw _ (List.mem_of_getElem? (i := 28) rfl)) (hw _ (List.mem_of_getElem? (i := 30) rfl)) (hw _ (List.mem_of_getElem? (i := 3) rfl)) (hw _ (List.mem_of_getElem? (i := 32) rfl)) (hw _ (List.mem_of_getElem? (i := 29) rfl)) (hw _ (List.mem_of_getElem? (i := 31) rfl)) (by decide) B.1.1 (lenOf pd_2 rfl) (con_get W.l Z a0 hw a6 b1 b2 b3 N [i2, i3] 1 1 rfl (Nat.le_of_ble_eq_true rfl) (by simp only [List.length_cons, List.length_nil]; omega) h9 B) rfl rfl (Nat.le_of_ble_eq_true rfl) (Nat.le_of_ble_eq_true rfl) rfl rfl (Nat.le_of_ble_eq_true rfl) (Nat.le_of_ble_eq_true rfl) (S1 := [(.int i3)]) rfl ?_
      refine g_iload (pc' := 190) C at_188 rfl rfl ?_
      refine g_icmpY (xi := i3.toInt) (yi := i3.toInt) (pc1 := 195) C at_190 (by decide) rfl rfl rfl rfl ?_
      refine g_iload (pc' := 197) C at_195 rfl rfl ?_
      refine g_iconst (pc' := 198) (z := (3 : Int32)) C at_197 rfl rfl ?_
      refine g_icmpY (xi := 2) (yi := 3) (pc1 := 214) C at_198 (by decide) rfl rfl rfl (by decide) ?_
      refine g_iload (pc' := 216) C at_214 rfl rfl ?_
      refine g_iload (pc' := 218) C at_216 rfl rfl ?_
      suffices K_218 : ∀ (Bz12 : Bool) (z12 : Int32), Bz12 = decide ((i5.toInt = i2.toInt) ∨ ((i5.toInt = i3.toInt) ∨ (i5.toInt = i4.toInt))) → z12 = b2i (Bz12 = true) → Go W Q h9 4 84 240 #[.val (.int p0), .val (.int p1), .val (.int p2), .val (.int p3), .val (.int p4), .val (.int i1), .val (.int i2), .val (.int i3), .val (.int i4), .val (.int i5), .val (.ref a6), .val (.int (1 : Int32)), .val (.int (0 : Int32)), .val (.int (2 : Int32)), .val (.int i3)] [(.int z12)] by
        refine g_icmp (xi := i5.toInt) (yi := i2.toInt) (pc1 := 235) (pc2 := 221) C at_218 (by decide) rfl rfl rfl rfl (fun (c218 : i5.toInt = i2.toInt) => ?_) (fun (c218 : ¬ (i5.toInt = i2.toInt)) => ?_)
        ·
          refine g_iconst (pc' := 236) (z := (1 : Int32)) C at_235 rfl rfl ?_
          refine g_goto C at_236 (by decide) (pc' := 240) rfl ?_
          exact K_218 (decide ((i5.toInt = i2.toInt) ∨ ((i5.toInt = i3.toInt) ∨ (i5.toInt = i4.toInt)))) (1 : Int32) rfl ((rfl : (1 : Int32) = b2i True).trans (b2i_iff ((iff_true_intro (Or.inl c218)).symm.trans decide_eq_true_iff.symm)))
        ·
          refine g_iload (pc' := 223) C at_221 rfl rfl ?_
          refine g_iload (pc' := 225) C at_223 rfl rfl ?_
          refine g_icmp (xi := i5.toInt) (yi := i3.toInt) (pc1 := 235) (pc2 := 228) C at_225 (by decide) rfl rfl rfl rfl (fun (c225 : i5.toInt = i3.toInt) => ?_) (fun (c225 : ¬ (i5.toInt = i3.toInt)) => ?_)
          ·
            refine g_iconst (pc' := 236) (z := (1 : Int32)) C at_235 rfl rfl ?_
            refine g_goto C at_236 (by decide) (pc' := 240) rfl ?_
            exact K_218 (decide ((i5.toInt = i2.toInt) ∨ ((i5.toInt = i3.toInt) ∨ (i5.toInt = i4.toInt)))) (1 : Int32) rfl ((rfl : (1 : Int32) = b2i True).trans (b2i_iff (((or_iff_right c218).trans (iff_true_intro (Or.inl c225))).symm.trans decide_eq_true_iff.symm)))
          ·
            refine g_iload (pc' := 230) C at_228 rfl rfl ?_
            refine g_iload (pc' := 232) C at_230 rfl rfl ?_
            refine g_icmp (xi := i5.toInt) (yi := i4.toInt) (pc1 := 239) (pc2 := 235) C at_232 (by decide) rfl rfl rfl rfl (fun (c232 : ¬ (i5.toInt = i4.toInt)) => ?_) (fun (c232 : ¬ (¬ (i5.toInt = i4.toInt))) => ?_)
            ·
              refine g_iconst (pc' := 240) (z := (0 : Int32)) C at_239 rfl rfl ?_
              exact K_218 (decide ((i5.toInt = i2.toInt) ∨ ((i5.toInt = i3.toInt) ∨ (i5.toInt = i4.toInt)))) (0 : Int32) rfl ((rfl : (0 : Int32) = b2i False).trans (b2i_iff (((or_iff_right c218).trans ((or_iff_right c225).trans (iff_false_intro c232))).symm.trans decide_eq_true_iff.symm)))
            ·
              replace c232 : i5.toInt = i4.toInt := Decidable.not_not.mp c232
              refine g_iconst (pc' := 236) (z := (1 : Int32)) C at_235 rfl rfl ?_
              refine g_goto C at_236 (by decide) (pc' := 240) rfl ?_
              exact K_218 (decide ((i5.toInt = i2.toInt) ∨ ((i5.toInt = i3.toInt) ∨ (i5.toInt = i4.toInt)))) (1 : Int32) rfl ((rfl : (1 : Int32) = b2i True).trans (b2i_iff (((or_iff_right c218).trans ((or_iff_right c225).trans (iff_true_intro c232))).symm.trans decide_eq_true_iff.symm)))
      intro Bz12 z12 bd_z12 e_z12
      have b_z12 : Bz12 = true ↔ ((i5.toInt = i2.toInt) ∨ ((i5.toInt = i3.toInt) ∨ (i5.toInt = i4.toInt))) := by rw [bd_z12]; exact decide_eq_true_iff
      refine g_istore (pc' := 242) (L' := #[.val (.int p0), .val (.int p1), .val (.int p2), .val (.int p3), .val (.int p4), .val (.int i1), .val (.int i2), .val (.int i3), .val (.int i4), .val (.int i5), .val (.ref a6), .val (.int (1 : Int32)), .val (.int (0 : Int32)), .val (.int (2 : Int32)), .val (.int z12)]) C at_240 rfl rfl ?_
      refine g_aload (pc' := 244) C at_242 rfl rfl rfl ?_
      refine g_iload (pc' := 246) C at_244 rfl rfl ?_
      refine g_virtualP (y := (⟨"com/example/ripplecast/ripplecast/ActiveNodes", "contains", "(I)Z"⟩ : MethodName)) (a := a6) (pc' := 249) (k' := 4) (n' := 84) (S := []) (as := [(.int i5)]) C at_246 rfl (hw _ (List.mem_of_getElem? (i := 33) rfl)) (hw _ (List.mem_of_getElem? (i := 35) rfl)) (hw _ (List.mem_of_getElem? (i := 3) rfl)) (hw _ (List.mem_of_getElem? (i := 37) rfl)) (hw _ (List.mem_of_getElem? (i := 34) rfl)) (hw _ (List.mem_of_getElem? (i := 36) rfl)) (by decide) B.1.1 (lenOf pd_3 rfl) (con_contains W.l Z a0 hw a6 b1 b2 b3 N [i2, i3] i5 m_i5 hm_i5 (by omega) h9 B) rfl rfl (Nat.le_of_ble_eq_true rfl) (Nat.le_of_ble_eq_true rfl) rfl rfl (Nat.le_of_ble_eq_true rfl) (Nat.le_of_ble_eq_true rfl) (S1 := [(.int (b2i (inL [i2, i3] (m_i5 : Nat) = true)))]) rfl ?_
      refine g_iload (pc' := 251) C at_249 rfl rfl ?_
      refine g_icmpbeq (pc1 := 256) (pc2 := 254) C at_251 (by decide) rfl rfl rfl e_z12 (fun (c251 : (inL [i2, i3] (m_i5 : Nat) = true) ↔ (Bz12 = true)) => ?_) (fun (c251 : ¬ ((inL [i2, i3] (m_i5 : Nat) = true) ↔ (Bz12 = true))) => ?_)
      ·
        refine g_aload (pc' := 258) C at_256 rfl rfl rfl ?_
        refine g_iload (pc' := 260) C at_258 rfl rfl ?_
        refine g_virtualP (y := (⟨"com/example/ripplecast/ripplecast/ActiveNodes", "contains", "(I)Z"⟩ : MethodName)) (a := a6) (pc' := 263) (k' := 4) (n' := 84) (S := []) (as := [(.int i2)]) C at_260 rfl (hw _ (List.mem_of_getElem? (i := 33) rfl)) (hw _ (List.mem_of_getElem? (i := 35) rfl)) (hw _ (List.mem_of_getElem? (i := 3) rfl)) (hw _ (List.mem_of_getElem? (i := 37) rfl)) (hw _ (List.mem_of_getElem? (i := 34) rfl)) (hw _ (List.mem_of_getElem? (i := 36) rfl)) (by decide) B.1.1 (lenOf pd_3 rfl) (con_contains W.l Z a0 hw a6 b1 b2 b3 N [i2, i3] i2 m_i2 hm_i2 (by omega) h9 B) rfl rfl (Nat.le_of_ble_eq_true rfl) (Nat.le_of_ble_eq_true rfl) rfl rfl (Nat.le_of_ble_eq_true rfl) (Nat.le_of_ble_eq_true rfl) (S1 := [(.int (b2i (inL [i2, i3] (m_i2 : Nat) = true)))]) rfl ?_
        refine g_retN C (by simp) at_263 (by decide) (by decide) ?_
        subst hQ
        refine congrArg (fun z => some (Value.int z)) (?_ : nar .boolean (b2i (inL [i2, i3] (m_i2 : Nat) = true)) = 1)
        rw [nar_b2i]
        refine b2i_pos ?_
        simp only [inL_cons, inL_nil, Bool.or_eq_true, Bool.or_eq_false_iff, beq_iff_eq, beq_eq_false_iff_ne, Bool.or_false, ne_eq, List.cons_append, List.nil_append]
        omega
      ·
        refine g_iconst (pc' := 255) (z := (0 : Int32)) C at_254 rfl rfl ?_
        refine g_retN C (by simp) at_255 (by decide) (by decide) ?_
        subst hQ
        exfalso
        refine c251 ?_
        rw [b_z12]
        simp only [inL_cons, inL_nil, Bool.or_eq_true, Bool.or_eq_false_iff, beq_iff_eq, beq_eq_false_iff_ne, Bool.or_false, ne_eq, List.cons_append, List.nil_append]
        omega
    ·
      by_cases u_i4_i3 : i4.toInt = i3.toInt
      ·
        refine g_virtual (y := (⟨"com/example/ripplecast/ripplecast/ActiveNodes", "add", "(I)V"⟩ : MethodName)) (a := a6) (pc' := 77) (k' := 4) (n' := 84) (S := []) (as := [(.int i4)]) C at_74 rfl (hw _ (List.mem_of_getElem? (i := 18) rfl)) (hw _ (List.mem_of_getElem? (i := 20) rfl)) (hw _ (List.mem_of_getElem? (i := 3) rfl)) (hw _ (List.mem_of_getElem? (i := 22) rfl)) (hw _ (List.mem_of_getElem? (i := 19) rfl)) (hw _ (List.mem_of_getElem? (i := 21) rfl)) (by decide) B.1.1 (lenOf pd_0 rfl) (con_add_old W.l Z a0 hw a6 b1 b2 b3 N [i2, i3] i4 m_i4 hm_i4 (by omega) (by simp only [inL_cons, inL_nil, Bool.or_eq_true, Bool.or_eq_false_iff, beq_iff_eq, beq_eq_false_iff_ne, Bool.or_false, ne_eq, List.cons_append, List.nil_append]; omega) h9 B) rfl rfl (Nat.le_of_ble_eq_true rfl) (Nat.le_of_ble_eq_true rfl) rfl rfl (Nat.le_of_ble_eq_true rfl) (Nat.le_of_ble_eq_true rfl) all0 fun vh12 h12 qh12 Kh12 => ?_
        obtain ⟨rfl, eh⟩ := qh12
        subst eh
        show Go W Q h9 4 84 77 #[.val (.int p0), .val (.int p1), .val (.int p2), .val (.int p3), .val (.int p4), .val (.int i1), .val (.int i2), .val (.int i3), .val (.int i4), .val (.int i5), .val (.ref a6), .unset, .unset, .unset, .unset] []
        refine g_iload (pc' := 79) C at_77 rfl rfl ?_
        refine g_iload (pc' := 81) C at_79 rfl rfl ?_
        refine g_icmpN (xi := i3.toInt) (yi := i2.toInt) (pc2 := 84) C at_81 rfl rfl rfl (by omega : ¬ (i3.toInt = i2.toInt)) ?_
        refine g_iconst (pc' := 85) (z := (1 : Int32)) C at_84 rfl rfl ?_
        refine g_goto C at_85 (by decide) (pc' := 89) rfl ?_
        refine g_istore (pc' := 91) (L' := #[.val (.int p0), .val (.int p1), .val (.int p2), .val (.int p3), .val (.int p4), .val (.int i1), .val (.int i2), .val (.int i3), .val (.int i4), .val (.int i5), .val (.ref a6), .val (.int (1 : Int32)), .unset, .unset, .unset]) C at_89 rfl rfl ?_
        refine g_iload (pc' := 93) C at_91 rfl rfl ?_
        refine g_iload (pc' := 95) C at_93 rfl rfl ?_
        refine g_icmpN (xi := i4.toInt) (yi := i2.toInt) (pc2 := 98) C at_95 rfl rfl rfl (by omega : ¬ (i4.toInt = i2.toInt)) ?_
        refine g_iload (pc' := 100) C at_98 rfl rfl ?_
        refine g_iload (pc' := 102) C at_100 rfl rfl ?_
        refine g_icmpY (xi := i4.toInt) (yi := i3.toInt) (pc1 := 109) C at_102 (by decide) rfl rfl rfl (by omega : i4.toInt = i3.toInt) ?_
        refine g_iconst (pc' := 110) (z := (0 : Int32)) C at_109 rfl rfl ?_
        refine g_istore (pc' := 112) (L' := #[.val (.int p0), .val (.int p1), .val (.int p2), .val (.int p3), .val (.int p4), .val (.int i1), .val (.int i2), .val (.int i3), .val (.int i4), .val (.int i5), .val (.ref a6), .val (.int (1 : Int32)), .val (.int (0 : Int32)), .unset, .unset]) C at_110 rfl rfl ?_
        refine g_iconst (pc' := 113) (z := (1 : Int32)) C at_112 rfl rfl ?_
        refine g_istore (pc' := 115) (L' := #[.val (.int p0), .val (.int p1), .val (.int p2), .val (.int p3), .val (.int p4), .val (.int i1), .val (.int i2), .val (.int i3), .val (.int i4), .val (.int i5), .val (.ref a6), .val (.int (1 : Int32)), .val (.int (0 : Int32)), .val (.int (1 : Int32)), .unset]) C at_113 rfl rfl ?_
        refine g_iload (pc' := 117) C at_115 rfl rfl ?_
        refine g_ifN (xi := 1) (pc2 := 120) C at_117 rfl rfl (by decide) ?_
        refine g_iload (pc' := 122) C at_120 rfl rfl ?_
        refine g_iconst (pc' := 123) (z := (1 : Int32)) C at_122 rfl rfl ?_
        refine g_iadd (pc' := 124) C at_123 rfl ?_
        show Go W Q h9 4 84 124 #[.val (.int p0), .val (.int p1), .val (.int p2), .val (.int p3), .val (.int p4), .val (.int i1), .val (.int i2), .val (.int i3), .val (.int i4), .val (.int i5), .val (.ref a6), .val (.int (1 : Int32)), .val (.int (0 : Int32)), .val (.int (1 : Int32)), .unset] [(.int (2 : Int32))]
        refine g_istore (pc' := 126) (L' := #[.val (.int p0), .val (.int p1), .val (.int p2), .val (.int p3), .val (.int p4), .val (.int i1), .val (.int i2), .val (.int i3), .val (.int i4), .val (.int i5), .val (.ref a6), .val (.int (1 : Int32)), .val (.int (0 : Int32)), .val (.int (2 : Int32)), .unset]) C at_124 rfl rfl ?_
        refine g_iload (pc' := 128) C at_126 rfl rfl ?_
        refine g_ifY (xi := 0) (pc1 := 137) C at_128 (by decide) rfl rfl (by decide) ?_
        refine g_aload (pc' := 139) C at_137 rfl rfl rfl ?_
        refine g_virtual (y := (⟨"com/example/ripplecast/ripplecast/ActiveNodes", "size", "()I"⟩ : MethodName)) (a := a6) (pc' := 142) (k' := 4) (n' := 84) (S := []) (as := []) C at_139 rfl (hw _ (List.mem_of_getElem? (i := 23) rfl)) (hw _ (List.mem_of_getElem? (i := 25) rfl)) (hw _ (List.mem_of_getElem? (i := 3) rfl)) (hw _ (List.mem_of_getElem? (i := 27) rfl)) (hw _ (List.mem_of_getElem? (i := 24) rfl)) (hw _ (List.mem_of_getElem? (i := 26) rfl)) (by decide) B.1.1 (lenOf pd_1 rfl) (con_size W.l Z a0 hw a6 b1 b2 b3 N [i2, i3] h9 B) rfl rfl (Nat.le_of_ble_eq_true rfl) (Nat.le_of_ble_eq_true rfl) rfl rfl (Nat.le_of_ble_eq_true rfl) (Nat.le_of_ble_eq_true rfl) all0 fun vh13 h13 qh13 Kh13 => ?_
        obtain ⟨⟨i13, rfl, er_i13⟩, eh⟩ := qh13
        subst eh
        show Go W Q h9 4 84 142 #[.val (.int p0), .val (.int p1), .val (.int p2), .val (.int p3), .val (.int p4), .val (.int i1), .val (.int i2), .val (.int i3), .val (.int i4), .val (.int i5), .val (.ref a6), .val (.int (1 : Int32)), .val (.int (0 : Int32)), .val (.int (2 : Int32)), .unset] [(.int i13)]
        obtain rfl : i13 = 2 := Int32.toInt_inj.mp er_i13
        refine g_iload (pc' := 144) C at_142 rfl rfl ?_
        refine g_icmpY (xi := 2) (yi := 2) (pc1 := 149) C at_144 (by decide) rfl rfl rfl (by decide) ?_
        refine g_aload (pc' := 151) C at_149 rfl rfl rfl ?_
        refine g_iconst (pc' := 152) (z := (0 : Int32)) C at_151 rfl rfl ?_
        refine g_virtualP (y := (⟨"com/example/ripplecast/ripplecast/ActiveNodes", "get", "(I)I"⟩ : MethodName)) (a := a6) (pc' := 155) (k' := 4) (n' := 84) (S := []) (as := [(.int (0 : Int32))]) C at_152 rfl (hw _ (List.mem_of_getElem? (i := 28) rfl)) (hw _ (List.mem_of_getElem? (i := 30) rfl)) (hw _ (List.mem_of_getElem? (i := 3) rfl)) (hw _ (List.mem_of_getElem? (i := 32) rfl)) (hw _ (List.mem_of_getElem? (i := 29) rfl)) (hw _ (List.mem_of_getElem? (i := 31) rfl)) (by decide) B.1.1 (lenOf pd_2 rfl) (con_get W.l Z a0 hw a6 b1 b2 b3 N [i2, i3] 0 0 rfl (Nat.le_of_ble_eq_true rfl) (by simp only [List.length_cons, List.length_nil]; omega) h9 B) rfl rfl (Nat.le_of_ble_eq_true rfl) (Nat.le_of_ble_eq_true rfl) rfl rfl (Nat.le_of_ble_eq_true rfl) (Nat.le_of_ble_eq_true rfl) (S1 := [(.int i2)]) rfl ?_
        refine g_iload (pc' := 157) C at_155 rfl rfl ?_
        refine g_icmpY (xi := i2.toInt) (yi := i2.toInt) (pc1 := 162) C at_157 (by decide) rfl rfl rfl rfl ?_
        refine g_iload (pc' := 164) C at_162 rfl rfl ?_
        refine g_iconst (pc' := 165) (z := (2 : Int32)) C at_164 rfl rfl ?_
        refine g_icmpN (xi := 2) (yi := 2) (pc2 := 168) C at_165 rfl rfl rfl (by decide) ?_
        refine g_iload (pc' := 170) C at_168 rfl rfl ?_
        refine g_ifN (xi := 1) (pc2 := 173) C at_170 rfl rfl (by decide) ?_
        refine g_iload (pc' := 175) C at_173 rfl rfl ?_
        refine g_goto C at_175 (by decide) (pc' := 180) rfl ?_
        refine g_istore (pc' := 182) (L' := #[.val (.int p0), .val (.int p1), .val (.int p2), .val (.int p3), .val (.int p4), .val (.int i1), .val (.int i2), .val (.int i3), .val (.int i4), .val (.int i5), .val (.ref a6), .val (.int (1 : Int32)), .val (.int (0 : Int32)), .val (.int (2 : Int32)), .val (.int i3)]) C at_180 rfl rfl ?_
        refine g_aload (pc' := 184) C at_182 rfl rfl rfl ?_
        refine g_iconst (pc' := 185) (z := (1 : Int32)) C at_184 rfl rfl ?_
        refine g_virtualP (y := (⟨"com/example/ripplecast/ripplecast/ActiveNodes", "get", "(I)I"⟩ : MethodName)) (a := a6) (pc' := 188) (k' := 4) (n' := 84) (S := []) (as := [(.int (1 : Int32))]) C at_185 rfl (hw _ (List.mem_of_getElem? (i := 28) rfl)) (hw _ (List.mem_of_getElem? (i := 30) rfl)) (hw _ (List.mem_of_getElem? (i := 3) rfl)) (hw _ (List.mem_of_getElem? (i := 32) rfl)) (hw _ (List.mem_of_getElem? (i := 29) rfl)) (hw _ (List.mem_of_getElem? (i := 31) rfl)) (by decide) B.1.1 (lenOf pd_2 rfl) (con_get W.l Z a0 hw a6 b1 b2 b3 N [i2, i3] 1 1 rfl (Nat.le_of_ble_eq_true rfl) (by simp only [List.length_cons, List.length_nil]; omega) h9 B) rfl rfl (Nat.le_of_ble_eq_true rfl) (Nat.le_of_ble_eq_true rfl) rfl rfl (Nat.le_of_ble_eq_true rfl) (Nat.le_of_ble_eq_true rfl) (S1 := [(.int i3)]) rfl ?_
        refine g_iload (pc' := 190) C at_188 rfl rfl ?_
        refine g_icmpY (xi := i3.toInt) (yi := i3.toInt) (pc1 := 195) C at_190 (by decide) rfl rfl rfl rfl ?_
        refine g_iload (pc' := 197) C at_195 rfl rfl ?_
        refine g_iconst (pc' := 198) (z := (3 : Int32)) C at_197 rfl rfl ?_
        refine g_icmpY (xi := 2) (yi := 3) (pc1 := 214) C at_198 (by decide) rfl rfl rfl (by decide) ?_
        refine g_iload (pc' := 216) C at_214 rfl rfl ?_
        refine g_iload (pc' := 218) C at_216 rfl rfl ?_
        suffices K_218 : ∀ (Bz14 : Bool) (z14 : Int32), Bz14 = decide ((i5.toInt = i2.toInt) ∨ ((i5.toInt = i3.toInt) ∨ (i5.toInt = i4.toInt))) → z14 = b2i (Bz14 = true) → Go W Q h9 4 84 240 #[.val (.int p0), .val (.int p1), .val (.int p2), .val (.int p3), .val (.int p4), .val (.int i1), .val (.int i2), .val (.int i3), .val (.int i4), .val (.int i5), .val (.ref a6), .val (.int (1 : Int32)), .val (.int (0 : Int32)), .val (.int (2 : Int32)), .val (.int i3)] [(.int z14)] by
          refine g_icmp (xi := i5.toInt) (yi := i2.toInt) (pc1 := 235) (pc2 := 221) C at_218 (by decide) rfl rfl rfl rfl (fun (c218 : i5.toInt = i2.toInt) => ?_) (fun (c218 : ¬ (i5.toInt = i2.toInt)) => ?_)
          ·
            refine g_iconst (pc' := 236) (z := (1 : Int32)) C at_235 rfl rfl ?_
            refine g_goto C at_236 (by decide) (pc' := 240) rfl ?_
            exact K_218 (decide ((i5.toInt = i2.toInt) ∨ ((i5.toInt = i3.toInt) ∨ (i5.toInt = i4.toInt)))) (1 : Int32) rfl ((rfl : (1 : Int32) = b2i True).trans (b2i_iff ((iff_true_intro (Or.inl c218)).symm.trans decide_eq_true_iff.symm)))
          ·
            refine g_iload (pc' := 223) C at_221 rfl rfl ?_
            refine g_iload (pc' := 225) C at_223 rfl rfl ?_
            refine g_icmp (xi := i5.toInt) (yi := i3.toInt) (pc1 := 235) (pc2 := 228) C at_225 (by decide) rfl rfl rfl rfl (fun (c225 : i5.toInt = i3.toInt) => ?_) (fun (c225 : ¬ (i5.toInt = i3.toInt)) => ?_)
            ·
              refine g_iconst (pc' := 236) (z := (1 : Int32)) C at_235 rfl rfl ?_
              refine g_goto C at_236 (by decide) (pc' := 240) rfl ?_
              exact K_218 (decide ((i5.toInt = i2.toInt) ∨ ((i5.toInt = i3.toInt) ∨ (i5.toInt = i4.toInt)))) (1 : Int32) rfl ((rfl : (1 : Int32) = b2i True).trans (b2i_iff (((or_iff_right c218).trans (iff_true_intro (Or.inl c225))).symm.trans decide_eq_true_iff.symm)))
            ·
              refine g_iload (pc' := 230) C at_228 rfl rfl ?_
              refine g_iload (pc' := 232) C at_230 rfl rfl ?_
              refine g_icmp (xi := i5.toInt) (yi := i4.toInt) (pc1 := 239) (pc2 := 235) C at_232 (by decide) rfl rfl rfl rfl (fun (c232 : ¬ (i5.toInt = i4.toInt)) => ?_) (fun (c232 : ¬ (¬ (i5.toInt = i4.toInt))) => ?_)
              ·
                refine g_iconst (pc' := 240) (z := (0 : Int32)) C at_239 rfl rfl ?_
                exact K_218 (decide ((i5.toInt = i2.toInt) ∨ ((i5.toInt = i3.toInt) ∨ (i5.toInt = i4.toInt)))) (0 : Int32) rfl ((rfl : (0 : Int32) = b2i False).trans (b2i_iff (((or_iff_right c218).trans ((or_iff_right c225).trans (iff_false_intro c232))).symm.trans decide_eq_true_iff.symm)))
              ·
                replace c232 : i5.toInt = i4.toInt := Decidable.not_not.mp c232
                refine g_iconst (pc' := 236) (z := (1 : Int32)) C at_235 rfl rfl ?_
                refine g_goto C at_236 (by decide) (pc' := 240) rfl ?_
                exact K_218 (decide ((i5.toInt = i2.toInt) ∨ ((i5.toInt = i3.toInt) ∨ (i5.toInt = i4.toInt)))) (1 : Int32) rfl ((rfl : (1 : Int32) = b2i True).trans (b2i_iff (((or_iff_right c218).trans ((or_iff_right c225).trans (iff_true_intro c232))).symm.trans decide_eq_true_iff.symm)))
        intro Bz14 z14 bd_z14 e_z14
        have b_z14 : Bz14 = true ↔ ((i5.toInt = i2.toInt) ∨ ((i5.toInt = i3.toInt) ∨ (i5.toInt = i4.toInt))) := by rw [bd_z14]; exact decide_eq_true_iff
        refine g_istore (pc' := 242) (L' := #[.val (.int p0), .val (.int p1), .val (.int p2), .val (.int p3), .val (.int p4), .val (.int i1), .val (.int i2), .val (.int i3), .val (.int i4), .val (.int i5), .val (.ref a6), .val (.int (1 : Int32)), .val (.int (0 : Int32)), .val (.int (2 : Int32)), .val (.int z14)]) C at_240 rfl rfl ?_
        refine g_aload (pc' := 244) C at_242 rfl rfl rfl ?_
        refine g_iload (pc' := 246) C at_244 rfl rfl ?_
        refine g_virtualP (y := (⟨"com/example/ripplecast/ripplecast/ActiveNodes", "contains", "(I)Z"⟩ : MethodName)) (a := a6) (pc' := 249) (k' := 4) (n' := 84) (S := []) (as := [(.int i5)]) C at_246 rfl (hw _ (List.mem_of_getElem? (i := 33) rfl)) (hw _ (List.mem_of_getElem? (i := 35) rfl)) (hw _ (List.mem_of_getElem? (i := 3) rfl)) (hw _ (List.mem_of_getElem? (i := 37) rfl)) (hw _ (List.mem_of_getElem? (i := 34) rfl)) (hw _ (List.mem_of_getElem? (i := 36) rfl)) (by decide) B.1.1 (lenOf pd_3 rfl) (con_contains W.l Z a0 hw a6 b1 b2 b3 N [i2, i3] i5 m_i5 hm_i5 (by omega) h9 B) rfl rfl (Nat.le_of_ble_eq_true rfl) (Nat.le_of_ble_eq_true rfl) rfl rfl (Nat.le_of_ble_eq_true rfl) (Nat.le_of_ble_eq_true rfl) (S1 := [(.int (b2i (inL [i2, i3] (m_i5 : Nat) = true)))]) rfl ?_
        refine g_iload (pc' := 251) C at_249 rfl rfl ?_
        refine g_icmpbeq (pc1 := 256) (pc2 := 254) C at_251 (by decide) rfl rfl rfl e_z14 (fun (c251 : (inL [i2, i3] (m_i5 : Nat) = true) ↔ (Bz14 = true)) => ?_) (fun (c251 : ¬ ((inL [i2, i3] (m_i5 : Nat) = true) ↔ (Bz14 = true))) => ?_)
        ·
          refine g_aload (pc' := 258) C at_256 rfl rfl rfl ?_
          refine g_iload (pc' := 260) C at_258 rfl rfl ?_
          refine g_virtualP (y := (⟨"com/example/ripplecast/ripplecast/ActiveNodes", "contains", "(I)Z"⟩ : MethodName)) (a := a6) (pc' := 263) (k' := 4) (n' := 84) (S := []) (as := [(.int i2)]) C at_260 rfl (hw _ (List.mem_of_getElem? (i := 33) rfl)) (hw _ (List.mem_of_getElem? (i := 35) rfl)) (hw _ (List.mem_of_getElem? (i := 3) rfl)) (hw _ (List.mem_of_getElem? (i := 37) rfl)) (hw _ (List.mem_of_getElem? (i := 34) rfl)) (hw _ (List.mem_of_getElem? (i := 36) rfl)) (by decide) B.1.1 (lenOf pd_3 rfl) (con_contains W.l Z a0 hw a6 b1 b2 b3 N [i2, i3] i2 m_i2 hm_i2 (by omega) h9 B) rfl rfl (Nat.le_of_ble_eq_true rfl) (Nat.le_of_ble_eq_true rfl) rfl rfl (Nat.le_of_ble_eq_true rfl) (Nat.le_of_ble_eq_true rfl) (S1 := [(.int (b2i (inL [i2, i3] (m_i2 : Nat) = true)))]) rfl ?_
          refine g_retN C (by simp) at_263 (by decide) (by decide) ?_
          subst hQ
          refine congrArg (fun z => some (Value.int z)) (?_ : nar .boolean (b2i (inL [i2, i3] (m_i2 : Nat) = true)) = 1)
          rw [nar_b2i]
          refine b2i_pos ?_
          simp only [inL_cons, inL_nil, Bool.or_eq_true, Bool.or_eq_false_iff, beq_iff_eq, beq_eq_false_iff_ne, Bool.or_false, ne_eq, List.cons_append, List.nil_append]
          omega
        ·
          refine g_iconst (pc' := 255) (z := (0 : Int32)) C at_254 rfl rfl ?_
          refine g_retN C (by simp) at_255 (by decide) (by decide) ?_
          subst hQ
          exfalso
          refine c251 ?_
          rw [b_z14]
          simp only [inL_cons, inL_nil, Bool.or_eq_true, Bool.or_eq_false_iff, beq_iff_eq, beq_eq_false_iff_ne, Bool.or_false, ne_eq, List.cons_append, List.nil_append]
          omega
      ·
        refine g_virtual (y := (⟨"com/example/ripplecast/ripplecast/ActiveNodes", "add", "(I)V"⟩ : MethodName)) (a := a6) (pc' := 77) (k' := 4) (n' := 84) (S := []) (as := [(.int i4)]) C at_74 rfl (hw _ (List.mem_of_getElem? (i := 18) rfl)) (hw _ (List.mem_of_getElem? (i := 20) rfl)) (hw _ (List.mem_of_getElem? (i := 3) rfl)) (hw _ (List.mem_of_getElem? (i := 22) rfl)) (hw _ (List.mem_of_getElem? (i := 19) rfl)) (hw _ (List.mem_of_getElem? (i := 21) rfl)) (by decide) B.1.1 (lenOf pd_0 rfl) (con_add_new W.l Z a0 hw a6 b1 b2 b3 N [i2, i3] i4 m_i4 hm_i4 (by omega) (by simp only [inL_cons, inL_nil, Bool.or_eq_true, Bool.or_eq_false_iff, beq_iff_eq, beq_eq_false_iff_ne, Bool.or_false, ne_eq, List.cons_append, List.nil_append]; try omega) (by simp only [List.length_cons, List.length_nil]; omega) hN q01 q02 q03 q12 q13 q23 h9 B) rfl rfl (Nat.le_of_ble_eq_true rfl) (Nat.le_of_ble_eq_true rfl) rfl rfl (Nat.le_of_ble_eq_true rfl) (Nat.le_of_ble_eq_true rfl) (allS pwb1 (allS pwb2 (allS pwb3 all0))) fun vh14 h14 qh14 Kh14 => ?_
        obtain ⟨rfl, B⟩ := qh14
        show Go W Q h14 4 84 77 #[.val (.int p0), .val (.int p1), .val (.int p2), .val (.int p3), .val (.int p4), .val (.int i1), .val (.int i2), .val (.int i3), .val (.int i4), .val (.int i5), .val (.ref a6), .unset, .unset, .unset, .unset] []
        replace B : AN Z h14 a6 b1 b2 b3 N [i2, i3, i4] := B
        refine g_iload (pc' := 79) C at_77 rfl rfl ?_
        refine g_iload (pc' := 81) C at_79 rfl rfl ?_
        refine g_icmpN (xi := i3.toInt) (yi := i2.toInt) (pc2 := 84) C at_81 rfl rfl rfl (by omega : ¬ (i3.toInt = i2.toInt)) ?_
        refine g_iconst (pc' := 85) (z := (1 : Int32)) C at_84 rfl rfl ?_
        refine g_goto C at_85 (by decide) (pc' := 89) rfl ?_
        refine g_istore (pc' := 91) (L' := #[.val (.int p0), .val (.int p1), .val (.int p2), .val (.int p3), .val (.int p4), .val (.int i1), .val (.int i2), .val (.int i3), .val (.int i4), .val (.int i5), .val (.ref a6), .val (.int (1 : Int32)), .unset, .unset, .unset]) C at_89 rfl rfl ?_
        refine g_iload (pc' := 93) C at_91 rfl rfl ?_
        refine g_iload (pc' := 95) C at_93 rfl rfl ?_
        refine g_icmpN (xi := i4.toInt) (yi := i2.toInt) (pc2 := 98) C at_95 rfl rfl rfl (by omega : ¬ (i4.toInt = i2.toInt)) ?_
        refine g_iload (pc' := 100) C at_98 rfl rfl ?_
        refine g_iload (pc' := 102) C at_100 rfl rfl ?_
        refine g_icmpN (xi := i4.toInt) (yi := i3.toInt) (pc2 := 105) C at_102 rfl rfl rfl (by omega : ¬ (i4.toInt = i3.toInt)) ?_
        refine g_iconst (pc' := 106) (z := (1 : Int32)) C at_105 rfl rfl ?_
        refine g_goto C at_106 (by decide) (pc' := 110) rfl ?_
        refine g_istore (pc' := 112) (L' := #[.val (.int p0), .val (.int p1), .val (.int p2), .val (.int p3), .val (.int p4), .val (.int i1), .val (.int i2), .val (.int i3), .val (.int i4), .val (.int i5), .val (.ref a6), .val (.int (1 : Int32)), .val (.int (1 : Int32)), .unset, .unset]) C at_110 rfl rfl ?_
        refine g_iconst (pc' := 113) (z := (1 : Int32)) C at_112 rfl rfl ?_
        refine g_istore (pc' := 115) (L' := #[.val (.int p0), .val (.int p1), .val (.int p2), .val (.int p3), .val (.int p4), .val (.int i1), .val (.int i2), .val (.int i3), .val (.int i4), .val (.int i5), .val (.ref a6), .val (.int (1 : Int32)), .val (.int (1 : Int32)), .val (.int (1 : Int32)), .unset]) C at_113 rfl rfl ?_
        refine g_iload (pc' := 117) C at_115 rfl rfl ?_
        refine g_ifN (xi := 1) (pc2 := 120) C at_117 rfl rfl (by decide) ?_
        refine g_iload (pc' := 122) C at_120 rfl rfl ?_
        refine g_iconst (pc' := 123) (z := (1 : Int32)) C at_122 rfl rfl ?_
        refine g_iadd (pc' := 124) C at_123 rfl ?_
        show Go W Q h14 4 84 124 #[.val (.int p0), .val (.int p1), .val (.int p2), .val (.int p3), .val (.int p4), .val (.int i1), .val (.int i2), .val (.int i3), .val (.int i4), .val (.int i5), .val (.ref a6), .val (.int (1 : Int32)), .val (.int (1 : Int32)), .val (.int (1 : Int32)), .unset] [(.int (2 : Int32))]
        refine g_istore (pc' := 126) (L' := #[.val (.int p0), .val (.int p1), .val (.int p2), .val (.int p3), .val (.int p4), .val (.int i1), .val (.int i2), .val (.int i3), .val (.int i4), .val (.int i5), .val (.ref a6), .val (.int (1 : Int32)), .val (.int (1 : Int32)), .val (.int (2 : Int32)), .unset]) C at_124 rfl rfl ?_
        refine g_iload (pc' := 128) C at_126 rfl rfl ?_
        refine g_ifN (xi := 1) (pc2 := 131) C at_128 rfl rfl (by decide) ?_
        refine g_iload (pc' := 133) C at_131 rfl rfl ?_
        refine g_iconst (pc' := 134) (z := (1 : Int32)) C at_133 rfl rfl ?_
        refine g_iadd (pc' := 135) C at_134 rfl ?_
        show Go W Q h14 4 84 135 #[.val (.int p0), .val (.int p1), .val (.int p2), .val (.int p3), .val (.int p4), .val (.int i1), .val (.int i2), .val (.int i3), .val (.int i4), .val (.int i5), .val (.ref a6), .val (.int (1 : Int32)), .val (.int (1 : Int32)), .val (.int (2 : Int32)), .unset] [(.int (3 : Int32))]
        refine g_istore (pc' := 137) (L' := #[.val (.int p0), .val (.int p1), .val (.int p2), .val (.int p3), .val (.int p4), .val (.int i1), .val (.int i2), .val (.int i3), .val (.int i4), .val (.int i5), .val (.ref a6), .val (.int (1 : Int32)), .val (.int (1 : Int32)), .val (.int (3 : Int32)), .unset]) C at_135 rfl rfl ?_
        refine g_aload (pc' := 139) C at_137 rfl rfl rfl ?_
        refine g_virtual (y := (⟨"com/example/ripplecast/ripplecast/ActiveNodes", "size", "()I"⟩ : MethodName)) (a := a6) (pc' := 142) (k' := 4) (n' := 84) (S := []) (as := []) C at_139 rfl (hw _ (List.mem_of_getElem? (i := 23) rfl)) (hw _ (List.mem_of_getElem? (i := 25) rfl)) (hw _ (List.mem_of_getElem? (i := 3) rfl)) (hw _ (List.mem_of_getElem? (i := 27) rfl)) (hw _ (List.mem_of_getElem? (i := 24) rfl)) (hw _ (List.mem_of_getElem? (i := 26) rfl)) (by decide) B.1.1 (lenOf pd_1 rfl) (con_size W.l Z a0 hw a6 b1 b2 b3 N [i2, i3, i4] h14 B) rfl rfl (Nat.le_of_ble_eq_true rfl) (Nat.le_of_ble_eq_true rfl) rfl rfl (Nat.le_of_ble_eq_true rfl) (Nat.le_of_ble_eq_true rfl) all0 fun vh15 h15 qh15 Kh15 => ?_
        obtain ⟨⟨i15, rfl, er_i15⟩, eh⟩ := qh15
        subst eh
        show Go W Q h14 4 84 142 #[.val (.int p0), .val (.int p1), .val (.int p2), .val (.int p3), .val (.int p4), .val (.int i1), .val (.int i2), .val (.int i3), .val (.int i4), .val (.int i5), .val (.ref a6), .val (.int (1 : Int32)), .val (.int (1 : Int32)), .val (.int (3 : Int32)), .unset] [(.int i15)]
        obtain rfl : i15 = 3 := Int32.toInt_inj.mp er_i15
        refine g_iload (pc' := 144) C at_142 rfl rfl ?_
        refine g_icmpY (xi := 3) (yi := 3) (pc1 := 149) C at_144 (by decide) rfl rfl rfl (by decide) ?_
        refine g_aload (pc' := 151) C at_149 rfl rfl rfl ?_
        refine g_iconst (pc' := 152) (z := (0 : Int32)) C at_151 rfl rfl ?_
        refine g_virtualP (y := (⟨"com/example/ripplecast/ripplecast/ActiveNodes", "get", "(I)I"⟩ : MethodName)) (a := a6) (pc' := 155) (k' := 4) (n' := 84) (S := []) (as := [(.int (0 : Int32))]) C at_152 rfl (hw _ (List.mem_of_getElem? (i := 28) rfl)) (hw _ (List.mem_of_getElem? (i := 30) rfl)) (hw _ (List.mem_of_getElem? (i := 3) rfl)) (hw _ (List.mem_of_getElem? (i := 32) rfl)) (hw _ (List.mem_of_getElem? (i := 29) rfl)) (hw _ (List.mem_of_getElem? (i := 31) rfl)) (by decide) B.1.1 (lenOf pd_2 rfl) (con_get W.l Z a0 hw a6 b1 b2 b3 N [i2, i3, i4] 0 0 rfl (Nat.le_of_ble_eq_true rfl) (by simp only [List.length_cons, List.length_nil]; omega) h14 B) rfl rfl (Nat.le_of_ble_eq_true rfl) (Nat.le_of_ble_eq_true rfl) rfl rfl (Nat.le_of_ble_eq_true rfl) (Nat.le_of_ble_eq_true rfl) (S1 := [(.int i2)]) rfl ?_
        refine g_iload (pc' := 157) C at_155 rfl rfl ?_
        refine g_icmpY (xi := i2.toInt) (yi := i2.toInt) (pc1 := 162) C at_157 (by decide) rfl rfl rfl rfl ?_
        refine g_iload (pc' := 164) C at_162 rfl rfl ?_
        refine g_iconst (pc' := 165) (z := (2 : Int32)) C at_164 rfl rfl ?_
        refine g_icmpN (xi := 3) (yi := 2) (pc2 := 168) C at_165 rfl rfl rfl (by decide) ?_
        refine g_iload (pc' := 170) C at_168 rfl rfl ?_
        refine g_ifN (xi := 1) (pc2 := 173) C at_170 rfl rfl (by decide) ?_
        refine g_iload (pc' := 175) C at_173 rfl rfl ?_
        refine g_goto C at_175 (by decide) (pc' := 180) rfl ?_
        refine g_istore (pc' := 182) (L' := #[.val (.int p0), .val (.int p1), .val (.int p2), .val (.int p3), .val (.int p4), .val (.int i1), .val (.int i2), .val (.int i3), .val (.int i4), .val (.int i5), .val (.ref a6), .val (.int (1 : Int32)), .val (.int (1 : Int32)), .val (.int (3 : Int32)), .val (.int i3)]) C at_180 rfl rfl ?_
        refine g_aload (pc' := 184) C at_182 rfl rfl rfl ?_
        refine g_iconst (pc' := 185) (z := (1 : Int32)) C at_184 rfl rfl ?_
        refine g_virtualP (y := (⟨"com/example/ripplecast/ripplecast/ActiveNodes", "get", "(I)I"⟩ : MethodName)) (a := a6) (pc' := 188) (k' := 4) (n' := 84) (S := []) (as := [(.int (1 : Int32))]) C at_185 rfl (hw _ (List.mem_of_getElem? (i := 28) rfl)) (hw _ (List.mem_of_getElem? (i := 30) rfl)) (hw _ (List.mem_of_getElem? (i := 3) rfl)) (hw _ (List.mem_of_getElem? (i := 32) rfl)) (hw _ (List.mem_of_getElem? (i := 29) rfl)) (hw _ (List.mem_of_getElem? (i := 31) rfl)) (by decide) B.1.1 (lenOf pd_2 rfl) (con_get W.l Z a0 hw a6 b1 b2 b3 N [i2, i3, i4] 1 1 rfl (Nat.le_of_ble_eq_true rfl) (by simp only [List.length_cons, List.length_nil]; omega) h14 B) rfl rfl (Nat.le_of_ble_eq_true rfl) (Nat.le_of_ble_eq_true rfl) rfl rfl (Nat.le_of_ble_eq_true rfl) (Nat.le_of_ble_eq_true rfl) (S1 := [(.int i3)]) rfl ?_
        refine g_iload (pc' := 190) C at_188 rfl rfl ?_
        refine g_icmpY (xi := i3.toInt) (yi := i3.toInt) (pc1 := 195) C at_190 (by decide) rfl rfl rfl rfl ?_
        refine g_iload (pc' := 197) C at_195 rfl rfl ?_
        refine g_iconst (pc' := 198) (z := (3 : Int32)) C at_197 rfl rfl ?_
        refine g_icmpN (xi := 3) (yi := 3) (pc2 := 201) C at_198 rfl rfl rfl (by decide) ?_
        refine g_aload (pc' := 203) C at_201 rfl rfl rfl ?_
        refine g_iconst (pc' := 204) (z := (2 : Int32)) C at_203 rfl rfl ?_
        refine g_virtualP (y := (⟨"com/example/ripplecast/ripplecast/ActiveNodes", "get", "(I)I"⟩ : MethodName)) (a := a6) (pc' := 207) (k' := 4) (n' := 84) (S := []) (as := [(.int (2 : Int32))]) C at_204 rfl (hw _ (List.mem_of_getElem? (i := 28) rfl)) (hw _ (List.mem_of_getElem? (i := 30) rfl)) (hw _ (List.mem_of_getElem? (i := 3) rfl)) (hw _ (List.mem_of_getElem? (i := 32) rfl)) (hw _ (List.mem_of_getElem? (i := 29) rfl)) (hw _ (List.mem_of_getElem? (i := 31) rfl)) (by decide) B.1.1 (lenOf pd_2 rfl) (con_get W.l Z a0 hw a6 b1 b2 b3 N [i2, i3, i4] 2 2 rfl (Nat.le_of_ble_eq_true rfl) (by simp only [List.length_cons, List.length_nil]; omega) h14 B) rfl rfl (Nat.le_of_ble_eq_true rfl) (Nat.le_of_ble_eq_true rfl) rfl rfl (Nat.le_of_ble_eq_true rfl) (Nat.le_of_ble_eq_true rfl) (S1 := [(.int i4)]) rfl ?_
        refine g_iload (pc' := 209) C at_207 rfl rfl ?_
        refine g_icmpY (xi := i4.toInt) (yi := i4.toInt) (pc1 := 214) C at_209 (by decide) rfl rfl rfl rfl ?_
        refine g_iload (pc' := 216) C at_214 rfl rfl ?_
        refine g_iload (pc' := 218) C at_216 rfl rfl ?_
        suffices K_218 : ∀ (Bz16 : Bool) (z16 : Int32), Bz16 = decide ((i5.toInt = i2.toInt) ∨ ((i5.toInt = i3.toInt) ∨ (i5.toInt = i4.toInt))) → z16 = b2i (Bz16 = true) → Go W Q h14 4 84 240 #[.val (.int p0), .val (.int p1), .val (.int p2), .val (.int p3), .val (.int p4), .val (.int i1), .val (.int i2), .val (.int i3), .val (.int i4), .val (.int i5), .val (.ref a6), .val (.int (1 : Int32)), .val (.int (1 : Int32)), .val (.int (3 : Int32)), .val (.int i3)] [(.int z16)] by
          refine g_icmp (xi := i5.toInt) (yi := i2.toInt) (pc1 := 235) (pc2 := 221) C at_218 (by decide) rfl rfl rfl rfl (fun (c218 : i5.toInt = i2.toInt) => ?_) (fun (c218 : ¬ (i5.toInt = i2.toInt)) => ?_)
          ·
            refine g_iconst (pc' := 236) (z := (1 : Int32)) C at_235 rfl rfl ?_
            refine g_goto C at_236 (by decide) (pc' := 240) rfl ?_
            exact K_218 (decide ((i5.toInt = i2.toInt) ∨ ((i5.toInt = i3.toInt) ∨ (i5.toInt = i4.toInt)))) (1 : Int32) rfl ((rfl : (1 : Int32) = b2i True).trans (b2i_iff ((iff_true_intro (Or.inl c218)).symm.trans decide_eq_true_iff.symm)))
          ·
            refine g_iload (pc' := 223) C at_221 rfl rfl ?_
            refine g_iload (pc' := 225) C at_223 rfl rfl ?_
            refine g_icmp (xi := i5.toInt) (yi := i3.toInt) (pc1 := 235) (pc2 := 228) C at_225 (by decide) rfl rfl rfl rfl (fun (c225 : i5.toInt = i3.toInt) => ?_) (fun (c225 : ¬ (i5.toInt = i3.toInt)) => ?_)
            ·
              refine g_iconst (pc' := 236) (z := (1 : Int32)) C at_235 rfl rfl ?_
              refine g_goto C at_236 (by decide) (pc' := 240) rfl ?_
              exact K_218 (decide ((i5.toInt = i2.toInt) ∨ ((i5.toInt = i3.toInt) ∨ (i5.toInt = i4.toInt)))) (1 : Int32) rfl ((rfl : (1 : Int32) = b2i True).trans (b2i_iff (((or_iff_right c218).trans (iff_true_intro (Or.inl c225))).symm.trans decide_eq_true_iff.symm)))
            ·
              refine g_iload (pc' := 230) C at_228 rfl rfl ?_
              refine g_iload (pc' := 232) C at_230 rfl rfl ?_
              refine g_icmp (xi := i5.toInt) (yi := i4.toInt) (pc1 := 239) (pc2 := 235) C at_232 (by decide) rfl rfl rfl rfl (fun (c232 : ¬ (i5.toInt = i4.toInt)) => ?_) (fun (c232 : ¬ (¬ (i5.toInt = i4.toInt))) => ?_)
              ·
                refine g_iconst (pc' := 240) (z := (0 : Int32)) C at_239 rfl rfl ?_
                exact K_218 (decide ((i5.toInt = i2.toInt) ∨ ((i5.toInt = i3.toInt) ∨ (i5.toInt = i4.toInt)))) (0 : Int32) rfl ((rfl : (0 : Int32) = b2i False).trans (b2i_iff (((or_iff_right c218).trans ((or_iff_right c225).trans (iff_false_intro c232))).symm.trans decide_eq_true_iff.symm)))
              ·
                replace c232 : i5.toInt = i4.toInt := Decidable.not_not.mp c232
                refine g_iconst (pc' := 236) (z := (1 : Int32)) C at_235 rfl rfl ?_
                refine g_goto C at_236 (by decide) (pc' := 240) rfl ?_
                exact K_218 (decide ((i5.toInt = i2.toInt) ∨ ((i5.toInt = i3.toInt) ∨ (i5.toInt = i4.toInt)))) (1 : Int32) rfl ((rfl : (1 : Int32) = b2i True).trans (b2i_iff (((or_iff_right c218).trans ((or_iff_right c225).trans (iff_true_intro c232))).symm.trans decide_eq_true_iff.symm)))
        intro Bz16 z16 bd_z16 e_z16
        have b_z16 : Bz16 = true ↔ ((i5.toInt = i2.toInt) ∨ ((i5.toInt = i3.toInt) ∨ (i5.toInt = i4.toInt))) := by rw [bd_z16]; exact decide_eq_true_iff
        refine g_istore (pc' := 242) (L' := #[.val (.int p0), .val (.int p1), .val (.int p2), .val (.int p3), .val (.int p4), .val (.int i1), .val (.int i2), .val (.int i3), .val (.int i4), .val (.int i5), .val (.ref a6), .val (.int (1 : Int32)), .val (.int (1 : Int32)), .val (.int (3 : Int32)), .val (.int z16)]) C at_240 rfl rfl ?_
        refine g_aload (pc' := 244) C at_242 rfl rfl rfl ?_
        refine g_iload (pc' := 246) C at_244 rfl rfl ?_
        refine g_virtualP (y := (⟨"com/example/ripplecast/ripplecast/ActiveNodes", "contains", "(I)Z"⟩ : MethodName)) (a := a6) (pc' := 249) (k' := 4) (n' := 84) (S := []) (as := [(.int i5)]) C at_246 rfl (hw _ (List.mem_of_getElem? (i := 33) rfl)) (hw _ (List.mem_of_getElem? (i := 35) rfl)) (hw _ (List.mem_of_getElem? (i := 3) rfl)) (hw _ (List.mem_of_getElem? (i := 37) rfl)) (hw _ (List.mem_of_getElem? (i := 34) rfl)) (hw _ (List.mem_of_getElem? (i := 36) rfl)) (by decide) B.1.1 (lenOf pd_3 rfl) (con_contains W.l Z a0 hw a6 b1 b2 b3 N [i2, i3, i4] i5 m_i5 hm_i5 (by omega) h14 B) rfl rfl (Nat.le_of_ble_eq_true rfl) (Nat.le_of_ble_eq_true rfl) rfl rfl (Nat.le_of_ble_eq_true rfl) (Nat.le_of_ble_eq_true rfl) (S1 := [(.int (b2i (inL [i2, i3, i4] (m_i5 : Nat) = true)))]) rfl ?_
        refine g_iload (pc' := 251) C at_249 rfl rfl ?_
        refine g_icmpbeq (pc1 := 256) (pc2 := 254) C at_251 (by decide) rfl rfl rfl e_z16 (fun (c251 : (inL [i2, i3, i4] (m_i5 : Nat) = true) ↔ (Bz16 = true)) => ?_) (fun (c251 : ¬ ((inL [i2, i3, i4] (m_i5 : Nat) = true) ↔ (Bz16 = true))) => ?_)
        ·
          refine g_aload (pc' := 258) C at_256 rfl rfl rfl ?_
          refine g_iload (pc' := 260) C at_258 rfl rfl ?_
          refine g_virtualP (y := (⟨"com/example/ripplecast/ripplecast/ActiveNodes", "contains", "(I)Z"⟩ : MethodName)) (a := a6) (pc' := 263) (k' := 4) (n' := 84) (S := []) (as := [(.int i2)]) C at_260 rfl (hw _ (List.mem_of_getElem? (i := 33) rfl)) (hw _ (List.mem_of_getElem? (i := 35) rfl)) (hw _ (List.mem_of_getElem? (i := 3) rfl)) (hw _ (List.mem_of_getElem? (i := 37) rfl)) (hw _ (List.mem_of_getElem? (i := 34) rfl)) (hw _ (List.mem_of_getElem? (i := 36) rfl)) (by decide) B.1.1 (lenOf pd_3 rfl) (con_contains W.l Z a0 hw a6 b1 b2 b3 N [i2, i3, i4] i2 m_i2 hm_i2 (by omega) h14 B) rfl rfl (Nat.le_of_ble_eq_true rfl) (Nat.le_of_ble_eq_true rfl) rfl rfl (Nat.le_of_ble_eq_true rfl) (Nat.le_of_ble_eq_true rfl) (S1 := [(.int (b2i (inL [i2, i3, i4] (m_i2 : Nat) = true)))]) rfl ?_
          refine g_retN C (by simp) at_263 (by decide) (by decide) ?_
          subst hQ
          refine congrArg (fun z => some (Value.int z)) (?_ : nar .boolean (b2i (inL [i2, i3, i4] (m_i2 : Nat) = true)) = 1)
          rw [nar_b2i]
          refine b2i_pos ?_
          simp only [inL_cons, inL_nil, Bool.or_eq_true, Bool.or_eq_false_iff, beq_iff_eq, beq_eq_false_iff_ne, Bool.or_false, ne_eq, List.cons_append, List.nil_append]
          omega
        ·
          refine g_iconst (pc' := 255) (z := (0 : Int32)) C at_254 rfl rfl ?_
          refine g_retN C (by simp) at_255 (by decide) (by decide) ?_
          subst hQ
          exfalso
          refine c251 ?_
          rw [b_z16]
          simp only [inL_cons, inL_nil, Bool.or_eq_true, Bool.or_eq_false_iff, beq_iff_eq, beq_eq_false_iff_ne, Bool.or_false, ne_eq, List.cons_append, List.nil_append]
          omega
set_option maxRecDepth 65536 in
set_option maxHeartbeats 2000000 in
theorem comes_1 {Post : Tables → Env → Array Value → State → Outcome → State → Prop} (hpost : ∀ tb e args s v u, (limb_1_1.after args s (.returned v) u = true ∧ limb_1_2.after args s (.returned v) u = true ∧ True) → FrameEnd s (.returned v) u (Jvm.fieldLocs frame_1_writes args s ++ Jvm.arrayLocs frame_1_arrays args s ++ Jvm.staticLocs frame_1_statics s) 16 256 → Post tb e args s (.returned v) u) :
    ArmFor flags0 classFile x code maxLocals ret World_1 tables_1 room_1 Calls_1 rest_1 Pre_1 Post := by
  intro l hfl _ _ p e ha hc hk s m args below hf hA hF happ hP
  obtain ⟨hcalls, hrest, hpre⟩ := hP
  obtain ⟨-, -, -, hnamed, -, -, -, hat⟩ := (Spec.applies_iff hf).mp happ
  obtain ⟨hg, hn⟩ := and_e (Cond.before_iff.mp (show (Jvm.Cond.and given_1 narrow_1).before args s = true from hpre))
  obtain ⟨g1, g2⟩ := and_e hg
  obtain ⟨g3, g4⟩ := and_e g2
  obtain ⟨g5, g6⟩ := and_e g4
  obtain ⟨g7, g8⟩ := and_e g6
  obtain ⟨g9, g10⟩ := and_e g8
  obtain ⟨w0, w1, w2, w3, w4, rfl⟩ : ∃ w0 w1 w2 w3 w4 : Value, args = #[w0, w1, w2, w3, w4] := by
    have hs : args.size = 5 := by simpa [Cond.value, given_1] using g1
    obtain ⟨L⟩ := args
    match L, hs with
    | [w0, w1, w2, w3, w4], _ => exact ⟨w0, w1, w2, w3, w4, rfl⟩
  have hw := fun d (hd : d ∈ tables_1) => atoms_spec (ws := Jvm.Cond.code x code maxLocals ret :: tables_1) hat d (List.mem_cons_of_mem _ hd)
  obtain ⟨i0, ei0⟩ := is_v g3
  obtain rfl : w0 = (.int i0) := Option.some.inj ei0
  obtain ⟨i1, ei1⟩ := is_v g5
  obtain rfl : w1 = (.int i1) := Option.some.inj ei1
  obtain ⟨i2, ei2⟩ := is_v g7
  obtain rfl : w2 = (.int i2) := Option.some.inj ei2
  obtain ⟨i3, ei3⟩ := is_v g9
  obtain rfl : w3 = (.int i3) := Option.some.inj ei3
  obtain ⟨i4, ei4⟩ := is_v g10
  obtain rfl : w4 = (.int i4) := Option.some.inj ei4
  obtain ⟨n, o, h1, h2, h3, _, L, rfl, ⟨rfl, N⟩, hq⟩ := con_0 l s _ hw i0 i1 i2 i3 i4 s.heap p e ha hc hk s m _ below hf ((Spec.applies_iff_loose hf).mp happ).1 ⟨rfl, State.Warmed39.refl s, rfl⟩ trivial
  refine ⟨n, _, h1, h2, h3, hpost _ _ _ _ _ _ ⟨Cond.after_iff.mpr rfl, Cond.after_iff.mpr (eq_i res_at (Term.int_eval (1)) rfl), trivial⟩ ⟨hq.1, hq.2.1, (hq.2.2.sift fun y hy => Or.inr ((N y hy).resolve_left (fun q => nomatch q))).mono (by decide) (by decide)⟩⟩
theorem main_1_1 : Claimed_1_1 := comes_1 fun _ _ _ _ _ _ h hF => ⟨h.1, hF⟩
theorem main_1_2 : Claimed_1_2 := comes_1 fun _ _ _ _ _ _ h hF => ⟨h.2.1, hF⟩
end Jvm.Pilot.@@N@@
namespace Jvm.Pilot.@@N@@
open Jvm Jvm.ClassFile Sem Op Lib Jvm.Free Jvm.Stand Jvm.Pilot.@@N@@.Jvm.D
/-! MADE BY PROGRAM (witnessworld.py) out of the Statement's table words and the real class files: 11 classes; the members and pool entries that the words name. The judged class is class 1, her method 1. -/
namespace start1
open Jvm.ClassFile
def u (s : String) : CpInfo := .utf8 (stringToUtf16 s)
/-- a pool by its gaps: so many unusable entries, then the entry; so many at the end -/
def gap : Nat → List CpInfo → List CpInfo
  | 0, r => r
  | n + 1, r => .unusable :: gap n r
def poolList (es : List (Nat × CpInfo)) (last : Nat) : List CpInfo := es.foldr (fun e r => gap e.1 (e.2 :: r)) (gap last [])
def pool (es : List (Nat × CpInfo)) (last : Nat) : Array CpInfo := ⟨poolList es last⟩
def fileOf (pool : Array CpInfo) (this : Nat) (attrs : Array Attribute := #[]) (ms : Array MethodInfo := #[]) (fl : Nat := 33) (sup : Nat := 0) (ifs : Array Nat := #[]) (fds : Array FieldInfo := #[]) : ClassFile where
  minorVersion := 0
  majorVersion := 65
  constantPool := pool
  accessFlags := fl
  thisClass := this
  superClass := sup
  interfaces := ifs
  fields := fds
  methods := ms
  attributes := attrs
def plain (name : String) (sup : Option ClassId) : Class where
  name := name
  kind := .ordinary
  loader := none
  accessFlags := 33
  super := sup
  interfaces := #[]
  cf := none
  fields := #[]
  methods := #[]
  instanceTypes := #[]
  staticTypes := #[]
  resolved := #[]
  callSites := []
  init := .initialized
  statics := none
  mirror := none

def pool0 : Array CpInfo := pool [(5, u "<init>"), (0, u "()V"), (1, .class_ 10), (1, u "java/lang/Object")] 113

def k0c0 : Code := { maxStack := 0, maxLocals := 1, code := object_method_1_code, exceptionTable := #[], attributes := #[] }
def k0m0 : Method := { name := "<init>", desc := "()V", sig := { parameters := [], returnType := none }, accessFlags := 1, code := some k0c0 }
/-- java/lang/Object -/
def k0 : Class := { plain "java/lang/Object" none with
  accessFlags := 33
  interfaces := #[]
  cf := some (fileOf pool0 8 #[] #[{ accessFlags := 1, nameIndex := 5, descriptorIndex := 6, attributes := #[] }] 33 0 #[] #[])
  fields := #[]
  methods := #[k0m0]
  instanceTypes := #[]
  staticTypes := #[]
  resolved := Array.replicate 124 none
  statics := none }

def pool1 : Array CpInfo := pool [(2, .class_ 4), (1, u "java/lang/Object"), (0, u "<init>"), (0, u "()V"), (0, .integer 2147483647), (0, .class_ 9), (0, u "com/example/ripplecast/ripplecast/ActiveNodes"), (0, .methodref 8 11), (0, .nameAndType 5 12), (0, u "(I)V"), (0, .methodref 8 14), (0, .nameAndType 15 12), (0, u "add"), (0, .methodref 8 17), (0, .nameAndType 18 19), (0, u "size"), (0, u "()I"), (0, .methodref 8 21), (0, .nameAndType 22 23), (0, u "get"), (0, u "(I)I"), (0, .methodref 8 25), (0, .nameAndType 26 27), (0, u "contains"), (0, u "(I)Z"), (0, .class_ 29), (0, u "com/example/ripplecast/ripplecast/ActiveNodesAddPinLaw"), (2, u "law"), (0, u "(IIIII)Z")] 3

def k1m0 : Method := { name := "<init>", desc := "()V", sig := { parameters := [], returnType := none }, accessFlags := 2, code := none }
def k1c1 : Code := { maxStack := 3, maxLocals := 15, code := code, exceptionTable := #[], attributes := #[] }
def k1m1 : Method := { name := "law", desc := "(IIIII)Z", sig := { parameters := [.int, .int, .int, .int, .int], returnType := some .boolean }, accessFlags := 9, code := some k1c1 }
/-- com/example/ripplecast/ripplecast/ActiveNodesAddPinLaw -/
def k1 : Class := { plain "com/example/ripplecast/ripplecast/ActiveNodesAddPinLaw" (some 0) with
  accessFlags := 49
  interfaces := #[]
  cf := some (fileOf pool1 28 #[] #[{ accessFlags := 2, nameIndex := 5, descriptorIndex := 6, attributes := #[] }, { accessFlags := 9, nameIndex := 32, descriptorIndex := 33, attributes := #[] }] 49 2 #[] #[])
  fields := #[]
  methods := #[k1m0, k1m1]
  instanceTypes := #[]
  staticTypes := #[]
  resolved := Array.replicate 37 none
  statics := none }

def pool2 : Array CpInfo := pool [(1, .methodref 2 3), (0, .class_ 4), (0, .nameAndType 5 6), (0, u "java/lang/Object"), (0, u "<init>"), (0, u "()V"), (0, .class_ 8), (0, u "com/example/ripplecast/ripplecast/ActiveNodes"), (0, .fieldref 7 10), (0, .nameAndType 11 12), (0, u "size"), (0, u "[I"), (0, .fieldref 7 14), (0, .nameAndType 15 16), (0, u "active"), (0, u "[Z"), (0, .fieldref 7 18), (0, .nameAndType 19 12), (0, u "order"), (2, u "add"), (0, u "(I)V"), (3, u "SIZE_AT"), (0, u "I"), (4, u "contains"), (0, u "(I)Z"), (4, u "()I"), (0, u "get"), (0, u "(I)I")] 3

def k2c0 : Code := { maxStack := 2, maxLocals := 2, code := prog_1_method_1_code, exceptionTable := #[], attributes := #[] }
def k2m0 : Method := { name := "<init>", desc := "(I)V", sig := { parameters := [.int], returnType := none }, accessFlags := 0, code := some k2c0 }
def k2c1 : Code := { maxStack := 2, maxLocals := 2, code := prog_1_method_2_code, exceptionTable := #[], attributes := #[] }
def k2m1 : Method := { name := "contains", desc := "(I)Z", sig := { parameters := [.int], returnType := some .boolean }, accessFlags := 0, code := some k2c1 }
def k2c2 : Code := { maxStack := 6, maxLocals := 2, code := prog_1_method_3_code, exceptionTable := #[], attributes := #[] }
def k2m2 : Method := { name := "add", desc := "(I)V", sig := { parameters := [.int], returnType := none }, accessFlags := 0, code := some k2c2 }
def k2c3 : Code := { maxStack := 2, maxLocals := 1, code := prog_1_method_5_code, exceptionTable := #[], attributes := #[] }
def k2m3 : Method := { name := "size", desc := "()I", sig := { parameters := [], returnType := some .int }, accessFlags := 0, code := some k2c3 }
def k2c4 : Code := { maxStack := 2, maxLocals := 2, code := prog_1_method_6_code, exceptionTable := #[], attributes := #[] }
def k2m4 : Method := { name := "get", desc := "(I)I", sig := { parameters := [.int], returnType := some .int }, accessFlags := 0, code := some k2c4 }
/-- com/example/ripplecast/ripplecast/ActiveNodes -/
def k2 : Class := { plain "com/example/ripplecast/ripplecast/ActiveNodes" (some 0) with
  accessFlags := 48
  interfaces := #[]
  cf := some (fileOf pool2 7 #[] #[{ accessFlags := 0, nameIndex := 5, descriptorIndex := 23, attributes := #[] }, { accessFlags := 0, nameIndex := 33, descriptorIndex := 34, attributes := #[] }, { accessFlags := 0, nameIndex := 22, descriptorIndex := 23, attributes := #[] }, { accessFlags := 0, nameIndex := 11, descriptorIndex := 39, attributes := #[] }, { accessFlags := 0, nameIndex := 40, descriptorIndex := 41, attributes := #[] }] 48 2 #[] #[{ accessFlags := 26, nameIndex := 27, descriptorIndex := 28, attributes := #[] }, { accessFlags := 18, nameIndex := 15, descriptorIndex := 16, attributes := #[] }, { accessFlags := 18, nameIndex := 19, descriptorIndex := 12, attributes := #[] }, { accessFlags := 18, nameIndex := 11, descriptorIndex := 12, attributes := #[] }])
  fields := #[{ name := "SIZE_AT", type := .int, accessFlags := 26, slot := 0, constantValue := 0 }, { name := "active", type := (.array .boolean), accessFlags := 18, slot := 0, constantValue := 0 }, { name := "order", type := (.array .int), accessFlags := 18, slot := 1, constantValue := 0 }, { name := "size", type := (.array .int), accessFlags := 18, slot := 2, constantValue := 0 }]
  methods := #[k2m0, k2m1, k2m2, k2m3, k2m4]
  instanceTypes := #[(.array .boolean), (.array .int), (.array .int)]
  staticTypes := #[.int]
  resolved := Array.replicate 45 none
  statics := none }

def pool3 : Array CpInfo := pool [(1, u "java/lang/Cloneable"), (0, .class_ 1), (0, u "java/lang/Object"), (0, .class_ 3)] 3

/-- java/lang/Cloneable -/
def k3 : Class := { plain "java/lang/Cloneable" (some 0) with
  accessFlags := 1537
  interfaces := #[]
  cf := some (fileOf pool3 2 #[] #[] 1537 4 #[] #[])
  fields := #[]
  methods := #[]
  instanceTypes := #[]
  staticTypes := #[]
  resolved := Array.replicate 8 none
  statics := none }

def pool4 : Array CpInfo := pool [(1, u "java/io/Serializable"), (0, .class_ 1), (0, u "java/lang/Object"), (0, .class_ 3)] 3

/-- java/io/Serializable -/
def k4 : Class := { plain "java/io/Serializable" (some 0) with
  accessFlags := 1537
  interfaces := #[]
  cf := some (fileOf pool4 2 #[] #[] 1537 4 #[] #[])
  fields := #[]
  methods := #[]
  instanceTypes := #[]
  staticTypes := #[]
  resolved := Array.replicate 8 none
  statics := none }

/-- the primitive boolean -/
def k5 : Class := { plain "boolean" none with kind := .primitive 'Z', accessFlags := 0x411 }
/-- [Z -/
def k6 : Class := { plain "[Z" (some 0) with kind := .array 5 .boolean, interfaces := #[3, 4], accessFlags := 1041 }

/-- the primitive byte -/
def k7 : Class := { plain "byte" none with kind := .primitive 'B', accessFlags := 0x411 }
/-- [B -/
def k8 : Class := { plain "[B" (some 0) with kind := .array 7 .byte, interfaces := #[3, 4], accessFlags := 1041 }

/-- the primitive int -/
def k9 : Class := { plain "int" none with kind := .primitive 'I', accessFlags := 0x411 }
/-- [I -/
def k10 : Class := { plain "[I" (some 0) with kind := .array 9 .int, interfaces := #[3, 4], accessFlags := 1041 }

def heap : Heap := #[]
def classes : Array Class := #[k0, k1, k2, k3, k4, k5, k6, k7, k8, k9, k10]
def interned : List (Array UInt16 × Addr) := []
def slotsUsed : Nat := 0
def theMethod : MethodId := ⟨1, 1⟩
def args0 : Array Value := #[.int 1, .int 2, .int 0, .int 2, .int 5]
def aboutOver (below : List Frame) : State where
  vm := { classes := classes, interned := interned.toArray }
  heap := heap
  slotsUsed := slotsUsed
  threads := #[{ frames := .invoking theMethod args0 :: below }]
def below0 : List Frame := [.native { method := ⟨0, 0⟩, args := #[] }]
def about1 : State := aboutOver below0
def p0 : Program := .bare "" "" ""
def e0 : Env := launch0.env 0 0 0
theorem w_frames : about1.frames = Frame.invoking theMethod args0 :: below0 := rfl
set_option maxRecDepth 65536 in
theorem w_args : argsFit about1.vm theMethod args0 = true := by decide +kernel
set_option maxRecDepth 65536 in
theorem w_heap : heapFits about1 = true := by decide +kernel
set_option maxRecDepth 65536 in
theorem w_runnable : about1.curStatus? = some .runnable := by decide +kernel
set_option maxRecDepth 65536 in
theorem w_alone : about1.alone = true := by decide +kernel
set_option maxRecDepth 65536 in
theorem w_named : about1.methodNamed? x = some theMethod := by decide +kernel
set_option maxRecDepth 65536 in
theorem w_hears : about1.hears theMethod below0 = true := by decide +kernel
set_option maxRecDepth 65536 in
theorem w_ripe : about1.ripe theMethod args0 below0 = true := by decide +kernel
theorem w_running : about1.status = .running := rfl
set_option maxRecDepth 65536 in
theorem w_room : about1.hasRoom e0.platform room_1 = true :=
  launch0.hasRoom_least _ room_1 (by decide +kernel) (by decide +kernel) (by decide +kernel) (by decide +kernel) (by decide +kernel) (by decide +kernel)
theorem allAtoms_all (ts : List Jvm.Cond) (a : Array Jvm.Value) (st : Jvm.State) : (allAtoms ts).before a st = ts.all (fun c => c.before a st) := by
  induction ts with
  | nil => rfl
  | cons c t ih =>
    show (Jvm.Cond.and c (allAtoms t)).before a st = _
    rw [Jvm.Cond.before_and, ih, List.all_cons]
def words1 : List Jvm.Cond := Jvm.Cond.code x code maxLocals ret :: tables_1
/-- a 'code' word, met by the world's own term for the bytes: nothing is compared byte by byte -/
theorem code_word {y : MethodName} {bytes : ByteArray} {mx : Nat} {rt : Option FieldType} {a : Array Value} {s : State} {m : MethodId} {meth : Method} {c : Code} (h1 : s.methodNamed? y = some m) (h2 : s.vm.method? m = some meth) (h3 : meth.code = some c) (h4 : c.code = bytes)
    (h5 : (c.maxLocals == mx && c.exceptionTable.isEmpty && decide (c.maxStack ≤ mostOperands) && decide (meth.sig.returnType = rt) && !meth.locks && decide (parseMethodDescriptor y.desc = some meth.sig)) = true) : (Jvm.Cond.code y bytes mx rt).before a s = true := by
  simp only [Bool.and_eq_true, beq_iff_eq, Bool.not_eq_true', decide_eq_true_eq] at h5
  obtain ⟨⟨⟨⟨⟨g1, g2⟩, g3⟩, g4⟩, g5⟩, g6⟩ := h5
  simp [Cond.before, Cond.holds, Cond.value, h1, h2, h3, h4, g1, g2, g3, g4, g5, g6]
def isCode : Jvm.Cond → Bool
  | .code _ _ _ _ => true
  | _ => false
theorem all_split {L : List Jvm.Cond} {P : Jvm.Cond → Bool} (h1 : L.all (fun c => isCode c || P c) = true) (h2 : ∀ c ∈ L.filter isCode, P c = true) : L.all P = true := by
  refine List.all_eq_true.mpr fun c hc => ?_
  have h := List.all_eq_true.mp h1 c hc
  rcases Bool.eq_false_or_eq_true (isCode c) with hi | hi
  · exact h2 c (List.mem_filter.mpr ⟨hc, hi⟩)
  · simpa [hi] using h
set_option maxRecDepth 65536 in
theorem w_c0 : (Jvm.Cond.code x code maxLocals ret).before args0 about1 = true := code_word (m := ⟨1, 1⟩) (meth := k1m1) (c := k1c1) (by decide +kernel) rfl rfl rfl (by decide +kernel)
set_option maxRecDepth 65536 in
theorem w_c1 : (Jvm.Cond.code ({ cls := "com/example/ripplecast/ripplecast/ActiveNodes", name := "<init>", desc := "(I)V" } : Jvm.MethodName) prog_1_method_1_code (2 : Nat) (Option.none : Option Jvm.ClassFile.FieldType)).before args0 about1 = true := code_word (m := ⟨2, 0⟩) (meth := k2m0) (c := k2c0) (by decide +kernel) rfl rfl rfl (by decide +kernel)
set_option maxRecDepth 65536 in
theorem w_c2 : (Jvm.Cond.code ({ cls := "java/lang/Object", name := "<init>", desc := "()V" } : Jvm.MethodName) object_method_1_code (1 : Nat) (Option.none : Option Jvm.ClassFile.FieldType)).before args0 about1 = true := code_word (m := ⟨0, 0⟩) (meth := k0m0) (c := k0c0) (by decide +kernel) rfl rfl rfl (by decide +kernel)
set_option maxRecDepth 65536 in
theorem w_c3 : (Jvm.Cond.code ({ cls := "com/example/ripplecast/ripplecast/ActiveNodes", name := "add", desc := "(I)V" } : Jvm.MethodName) prog_1_method_3_code (2 : Nat) (Option.none : Option Jvm.ClassFile.FieldType)).before args0 about1 = true := code_word (m := ⟨2, 2⟩) (meth := k2m2) (c := k2c2) (by decide +kernel) rfl rfl rfl (by decide +kernel)
set_option maxRecDepth 65536 in
theorem w_c4 : (Jvm.Cond.code ({ cls := "com/example/ripplecast/ripplecast/ActiveNodes", name := "size", desc := "()I" } : Jvm.MethodName) prog_1_method_5_code (1 : Nat) (Option.some Jvm.ClassFile.FieldType.int)).before args0 about1 = true := code_word (m := ⟨2, 3⟩) (meth := k2m3) (c := k2c3) (by decide +kernel) rfl rfl rfl (by decide +kernel)
set_option maxRecDepth 65536 in
theorem w_c5 : (Jvm.Cond.code ({ cls := "com/example/ripplecast/ripplecast/ActiveNodes", name := "get", desc := "(I)I" } : Jvm.MethodName) prog_1_method_6_code (2 : Nat) (Option.some Jvm.ClassFile.FieldType.int)).before args0 about1 = true := code_word (m := ⟨2, 4⟩) (meth := k2m4) (c := k2c4) (by decide +kernel) rfl rfl rfl (by decide +kernel)
set_option maxRecDepth 65536 in
theorem w_c6 : (Jvm.Cond.code ({ cls := "com/example/ripplecast/ripplecast/ActiveNodes", name := "contains", desc := "(I)Z" } : Jvm.MethodName) prog_1_method_2_code (2 : Nat) (Option.some Jvm.ClassFile.FieldType.boolean)).before args0 about1 = true := code_word (m := ⟨2, 1⟩) (meth := k2m1) (c := k2c1) (by decide +kernel) rfl rfl rfl (by decide +kernel)
def codes1 : List Jvm.Cond := [Jvm.Cond.code x code maxLocals ret, Jvm.Cond.code ({ cls := "com/example/ripplecast/ripplecast/ActiveNodes", name := "<init>", desc := "(I)V" } : Jvm.MethodName) prog_1_method_1_code (2 : Nat) (Option.none : Option Jvm.ClassFile.FieldType), Jvm.Cond.code ({ cls := "java/lang/Object", name := "<init>", desc := "()V" } : Jvm.MethodName) object_method_1_code (1 : Nat) (Option.none : Option Jvm.ClassFile.FieldType), Jvm.Cond.code ({ cls := "com/example/ripplecast/ripplecast/ActiveNodes", name := "add", desc := "(I)V" } : Jvm.MethodName) prog_1_method_3_code (2 : Nat) (Option.none : Option Jvm.ClassFile.FieldType), Jvm.Cond.code ({ cls := "com/example/ripplecast/ripplecast/ActiveNodes", name := "size", desc := "()I" } : Jvm.MethodName) prog_1_method_5_code (1 : Nat) (Option.some Jvm.ClassFile.FieldType.int), Jvm.Cond.code ({ cls := "com/example/ripplecast/ripplecast/ActiveNodes", name := "get", desc := "(I)I" } : Jvm.MethodName) prog_1_method_6_code (2 : Nat) (Option.some Jvm.ClassFile.FieldType.int), Jvm.Cond.code ({ cls := "com/example/ripplecast/ripplecast/ActiveNodes", name := "contains", desc := "(I)Z" } : Jvm.MethodName) prog_1_method_2_code (2 : Nat) (Option.some Jvm.ClassFile.FieldType.boolean)]
set_option maxRecDepth 65536 in
theorem codes_eq : words1.filter isCode = codes1 := rfl
theorem w_codes : ∀ c ∈ words1.filter isCode, c.before args0 about1 = true := by
  rw [codes_eq]
  intro c hc
  simp only [codes1, List.mem_cons, List.not_mem_nil, or_false] at hc
  rcases hc with rfl | rfl | rfl | rfl | rfl | rfl | rfl
  · exact w_c0
  · exact w_c1
  · exact w_c2
  · exact w_c3
  · exact w_c4
  · exact w_c5
  · exact w_c6
set_option maxRecDepth 65536 in
theorem w_t1 : (words1.take 24).all (fun c => isCode c || c.before args0 about1) = true := by decide +kernel
set_option maxRecDepth 65536 in
theorem w_t2 : (words1.drop 24).all (fun c => isCode c || c.before args0 about1) = true := by decide +kernel
theorem w_tables : (allAtoms (Jvm.Cond.code x code maxLocals ret :: tables_1)).before args0 about1 = true := by
  rw [allAtoms_all]
  show words1.all (fun c => c.before args0 about1) = true
  refine all_split ?_ w_codes
  rw [← List.take_append_drop 24 words1, List.all_append, w_t1, w_t2]
  rfl
set_option maxRecDepth 65536 in
theorem w_case : (Jvm.Cond.and given_1 narrow_1).before args0 about1 = true := by decide +kernel
theorem w_applies : (headSpec (Jvm.Cond.code x code maxLocals ret :: tables_1) room_1).applies x e0.platform about1 = true :=
  (Spec.applies_iff w_frames).mpr ⟨w_running, w_runnable, w_alone, w_named, w_hears, w_ripe, w_room, w_tables⟩
theorem atStart : AtStart classFile x code maxLocals ret World_1 tables_1 room_1 Calls_1 rest_1 Pre_1 launch0 p0 e0 about1 theMethod args0 below0 :=
  ⟨lists_1, trivial, launch0.admits_env _ _ _, launch0.least_env, fairChoices_fair.cas, fairChoices_fair.clock, w_frames, w_args, w_heap, w_applies, trivial, trivial, w_case⟩
end start1
theorem witness_1 : WitnessClaimed_1 := ⟨start1.p0, start1.e0, start1.about1, start1.theMethod, start1.args0, start1.below0, start1.atStart⟩
end Jvm.Pilot.@@N@@
