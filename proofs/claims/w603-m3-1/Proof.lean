import JvmDerived
import JvmDerived.Pilot.@@N@@Statement
import JvmDerived.Pilot.@@N@@Code
set_option linter.unusedVariables false
set_option linter.unusedSimpArgs false
namespace Jvm.OwnKit
open Jvm Jvm.ClassFile Sem Op Lib Jvm.Free Jvm.Stand Jvm.LawKit Jvm.RoadKit Bundle
/-- what is fixed in one body's walk: program, launch, environment, room, state at the call, method, arguments, frames below, its record, its code, the old addresses that it may write -/
abbrev Wk : Type := Program × Launch × Env × Room × State × MethodId × Array Value × List Frame × Method × Code × List Addr
abbrev Wk.p (W : Wk) : Program := W.1
abbrev Wk.l (W : Wk) : Launch := W.2.1
abbrev Wk.e (W : Wk) : Env := W.2.2.1
abbrev Wk.R (W : Wk) : Room := W.2.2.2.1
abbrev Wk.s (W : Wk) : State := W.2.2.2.2.1
abbrev Wk.m (W : Wk) : MethodId := W.2.2.2.2.2.1
abbrev Wk.args (W : Wk) : Array Value := W.2.2.2.2.2.2.1
abbrev Wk.below (W : Wk) : List Frame := W.2.2.2.2.2.2.2.1
abbrev Wk.meth (W : Wk) : Method := W.2.2.2.2.2.2.2.2.1
abbrev Wk.c (W : Wk) : Code := W.2.2.2.2.2.2.2.2.2.1
abbrev Wk.ws (W : Wk) : List Addr := W.2.2.2.2.2.2.2.2.2.2
/-- an address that may be written: a named old one, or a new one -/
def Pw (W : Wk) (a : Addr) : Prop := a ∈ W.ws ∨ W.s.heap.size ≤ a
abbrev Sta0 (W : Wk) (T : State) (locs : List Loc) (k n : Nat) : Prop := Stand W.p W.l W.e W.R W.s W.m W.args W.below W.meth W.c T locs k n
abbrev Stp (W : Wk) (S t : State) : Prop := Steps W.p.tables W.e W.below S t
def Sd (W : Wk) (T : State) (h : Heap) (k n : Nat) : Prop := ∃ locs, Sta0 W T locs k n ∧ T.heap = h ∧ ∀ y ∈ locs, Pw W y.base
/-- from S the body comes to its end, returning what Q says -/
def Out (W : Wk) (Q : Option Value → Heap → Prop) (S : State) : Prop := ∃ s₂ o, Stp W S s₂ ∧ s₂.status = .running ∧ Ended s₂ W.below o ∧ ∃ v L, o = .returned v ∧ (Q v s₂.heap ∧ ∀ y ∈ L, Pw W y.base) ∧ FrameEnd W.s o s₂ L W.R.cells W.R.slots
/-- from every state that stands here over the heap h, the body comes to its end as Q says -/
def Go (W : Wk) (Q : Option Value → Heap → Prop) (h : Heap) (k n pc : Nat) (L : Array Slot) (S : List Value) : Prop := ∀ T, Sd W T h k n → Out W Q (T.setTop (mkF W.m pc L S))
def Cx (W : Wk) (Z : State) (R : Room) (own : String) (code : ByteArray) (mx : Nat) (ret : Option FieldType) (nm : String) (ws : List Addr) (h0 : Heap) : Prop :=
  W.p.tables.exec = Jvm.exec ∧ Z.Warmed39 W.s.vm ∧ W.s.vm.findClass own = some W.m.cls ∧ W.c.code = code ∧ W.c.maxLocals = mx ∧ W.meth.sig.returnType = ret ∧ W.meth.locks = false ∧ W.meth.name = nm ∧ W.R = R ∧ W.ws = ws ∧ W.s.heap = h0
/-- a body's contract at the heap h: ws: the old addresses that it may write -/
def Con (l : Launch) (Z : State) (w0 : List Jvm.Cond) (y : MethodName) (bytes : ByteArray) (mx : Nat) (ret : Option FieldType) (rm : Room) (as : Array Value) (h : Heap) (ws : List Addr) (Q : Option Value → Heap → Prop) : Prop :=
  MetFree l y (head1 (Jvm.Cond.code y bytes mx ret :: w0) rm) (fun a U => a = as ∧ Z.Warmed39 U.vm ∧ U.heap = h) (fun _ _ _ _ _ => True)
    (fun _ U o U' => ∃ v L, o = .returned v ∧ (Q v U'.heap ∧ ∀ y ∈ L, y.base ∈ ws ∨ h.size ≤ y.base) ∧ FrameEnd U o U' L rm.cells rm.slots)
/-- a truth value as an int -/
def b2i (P : Prop) [Decidable P] : Int32 := if P then 1 else 0
theorem b2i_pos {P : Prop} [Decidable P] (h : P) : b2i P = 1 := if_pos h
theorem b2i_neg {P : Prop} [Decidable P] (h : ¬ P) : b2i P = 0 := if_neg h
theorem b2i_iff {P Q : Prop} [Decidable P] [Decidable Q] (h : P ↔ Q) : b2i P = b2i Q := by by_cases q : Q <;> simp [b2i, h, q]
theorem b2i_toInt (P : Prop) [Decidable P] : (b2i P).toInt = if P then 1 else 0 := by unfold b2i; split <;> rfl
theorem b2i_one {P : Prop} [Decidable P] : b2i P = 1 ↔ P := by unfold b2i; split <;> simp [*]
theorem b2i_zero {P : Prop} [Decidable P] : b2i P = 0 ↔ ¬ P := by unfold b2i; split <;> simp [*]
theorem nar_b2i (P : Prop) [Decidable P] : nar .boolean (b2i P) = b2i P := by unfold b2i; split <;> rfl
theorem b2i_inj {P Q : Prop} [Decidable P] [Decidable Q] : b2i P = b2i Q ↔ (P ↔ Q) := by unfold b2i; split <;> split <;> simp [*]
theorem ref_cat {v : Value} (h : v.isRef = true) : v.category = 1 := by cases v <;> simp [Value.isRef] at h ⊢ <;> rfl
theorem narrow_ref {t : FieldType} {v : Value} (h : v.isRef = true) : narrow t v = v := by cases v <;> simp [Value.isRef] at h <;> cases t <;> rfl
theorem fits_b2i (P : Prop) [Decidable P] : fits .boolean (.int (b2i P)) = true := by unfold b2i; split <;> rfl
theorem fits_ref0 {t : FieldType} {v : Value} (h : v.isRef = true) (ht : refKind t = true := by rfl) : fits t v = true := by cases v <;> simp [Value.isRef] at h <;> cases t <;> simp_all [refKind, fits]
section Facts
variable {Z : State} {h h' : Heap} {a b : Addr} {C : String} {ws : List Addr}
/-- an object of the class C: its fields (declaring class, name, descriptor, value) -/
def Ob (Z : State) (h : Heap) (a : Addr) (C : String) (fs : List (String × String × String × Value)) : Prop :=
  Exa Z h a C ∧ (∀ f ∈ fs, Fld Z h a f.1 f.2.1 f.2.2.1 f.2.2.2) ∧ (fs.map fun f => RoadKit.slotOf Z f.1 f.2.1 f.2.2.1).Nodup
variable {fs fs' : List (String × String × String × Value)} {o n d : String} {v old : Value} {i : Nat}
theorem Ob.exa (O : Ob Z h a C fs) : Exa Z h a C := O.1
theorem Ob.lt (O : Ob Z h a C fs) : a < h.size := O.1.lt
theorem Ob.get (O : Ob Z h a C fs) (hi : fs[i]? = some (o, n, d, v)) : Fld Z h a o n d v := O.2.1 _ (List.mem_of_getElem? hi)
theorem Ob.keep (O : Ob Z h a C fs) (K : Keep h h' ws) (q : a ∉ ws) : Ob Z h' a C fs := ⟨O.1.keep K, fun f hf => (O.2.1 f hf).keep K q, O.2.2⟩
theorem Ob.ext (O : Ob Z h a C fs) (E : Ext h h') : Ob Z h' a C fs := ⟨O.1.ext E, fun f hf => (O.2.1 f hf).ext E, O.2.2⟩
theorem Ob.other (O : Ob Z h b C fs) {sl : Nat} (W : Wr h h' a sl v) (q : b ≠ a) : Ob Z h' b C fs := O.keep (Keep.of_wr W) (ninS q nin0)
theorem Ob.put (O : Ob Z h a C fs) (hi : fs[i]? = some (o, n, d, old)) (W : Wr h h' a (RoadKit.slotOf Z o n d) v) : Ob Z h' a C (fs.set i (o, n, d, v)) := by
  obtain ⟨E, F, N⟩ := O
  have hlt : i < fs.length := (List.getElem?_eq_some_iff.mp hi).1
  have hm : (fs.set i (o, n, d, v)).map (fun f => RoadKit.slotOf Z f.1 f.2.1 f.2.2.1) = fs.map (fun f => RoadKit.slotOf Z f.1 f.2.1 f.2.2.1) := by
    rw [List.map_set]
    have e : (fs.map fun f => RoadKit.slotOf Z f.1 f.2.1 f.2.2.1)[i]? = some (RoadKit.slotOf Z o n d) := by rw [List.getElem?_map, hi]; rfl
    obtain ⟨hl, he⟩ := List.getElem?_eq_some_iff.mp e
    have q := List.set_getElem_self hl
    rw [he] at q
    exact q
  refine ⟨E.wr W, fun f hf => ?_, by rw [hm]; exact N⟩
  obtain ⟨j, hj⟩ := List.mem_iff_getElem?.mp hf
  by_cases e : j = i
  · subst e
    rw [List.getElem?_set_self hlt] at hj
    cases hj
    exact (F _ (List.mem_of_getElem? hi)).same W
  · rw [List.getElem?_set_ne (Ne.symm e)] at hj
    refine (F f (List.mem_of_getElem? hj)).other W (Or.inr fun q => ?_)
    have e1 : (fs.map fun f => RoadKit.slotOf Z f.1 f.2.1 f.2.2.1)[j]? = some (RoadKit.slotOf Z f.1 f.2.1 f.2.2.1) := by rw [List.getElem?_map, hj]; rfl
    have e2 : (fs.map fun f => RoadKit.slotOf Z f.1 f.2.1 f.2.2.1)[i]? = some (RoadKit.slotOf Z o n d) := by rw [List.getElem?_map, hi]; rfl
    rw [q] at e1
    obtain ⟨l1, q1⟩ := List.getElem?_eq_some_iff.mp e1
    obtain ⟨l2, q2⟩ := List.getElem?_eq_some_iff.mp e2
    exact e ((List.getElem_inj N).mp (q1.trans q2.symm))
/-- an array: its components -/
def Ar (Z : State) (h : Heap) (a : Addr) (ty : FieldType) (vs : List Value) : Prop := ∃ c : Cell, Arr Z h a c ty ∧ c.slots.toList = vs
/-- ... of references to objects of the class C -/
def ArR (Z : State) (h : Heap) (a : Addr) (C : String) (vs : List Value) : Prop := ∃ c : Cell, Arr Z h a c (.object C) ∧ c.slots.toList = vs ∧ Ovr Z c.cls C
variable {ty : FieldType} {vs : List Value}
theorem Ar.lt (A : Ar Z h a ty vs) : a < h.size := A.elim fun _ q => q.1.lt
theorem Ar.keep (A : Ar Z h a ty vs) (K : Keep h h' ws) (q : a ∉ ws) : Ar Z h' a ty vs := by obtain ⟨c, A, e⟩ := A; exact ⟨c, ⟨K.2.1 a c A.1 q, A.2⟩, e⟩
theorem Ar.ext (A : Ar Z h a ty vs) (E : Ext h h') : Ar Z h' a ty vs := by obtain ⟨c, A, e⟩ := A; exact ⟨c, A.ext E, e⟩
theorem ArR.lt (A : ArR Z h a C vs) : a < h.size := A.elim fun _ q => q.1.lt
theorem ArR.keep (A : ArR Z h a C vs) (K : Keep h h' ws) (q : a ∉ ws) : ArR Z h' a C vs := by obtain ⟨c, A, e⟩ := A; exact ⟨c, ⟨K.2.1 a c A.1 q, A.2⟩, e⟩
theorem ArR.ext (A : ArR Z h a C vs) (E : Ext h h') : ArR Z h' a C vs := by obtain ⟨c, A, e⟩ := A; exact ⟨c, A.ext E, e⟩
theorem nin1 (q : b ≠ a) : b ∉ [a] := ninS q nin0
theorem clamp_of {j : Int32} {i : Nat} (hj : j.toInt = i) : j.toNatClampNeg = i := by
  show j.toInt.toNat = i
  omega
theorem nneg_of {j : Int32} {i : Nat} (hj : j.toInt = i) : ¬ j < 0 := by
  rw [Int32.lt_iff_toInt_lt, hj]
  show ¬ ((i : Int) < 0)
  omega
theorem in_of {j : Int32} {i : Nat} {c : Cell} (hj : j.toInt = i) (hi : i < c.slots.toList.length) : ¬ (j < 0 ∨ c.slots.size ≤ j.toNatClampNeg) := by
  rw [clamp_of hj]
  rintro (q | q)
  · exact nneg_of hj q
  · rw [Array.length_toList] at hi; omega
theorem set_toList (c : Cell) (i : Nat) (v : Value) : (c.setSlot i v).slots.toList = c.slots.toList.set i v := by
  show (c.slots.setIfInBounds i v).toList = _
  rw [Array.toList_setIfInBounds]
theorem Ar.put {c : Cell} (A : Arr Z h a c ty) (e : c.slots.toList = vs) {j : Int32} {i : Nat} (hj : j.toInt = i) (W : Wr h h' a j.toNatClampNeg v) : Ar Z h' a ty (vs.set i v) := by
  refine ⟨_, A.same W, ?_⟩
  rw [clamp_of hj, set_toList, e]
theorem map_getI {l : List Int32} {i : Nat} (hi : i < l.length) : (l.map Value.int)[i]? = some (.int (l.getD i 0)) := by
  rw [List.getElem?_map, List.getElem?_eq_getElem hi, List.getD_eq_getElem?_getD, List.getElem?_eq_getElem hi]; rfl
theorem map_getJ {l : List Int64} {i : Nat} (hi : i < l.length) : (l.map Value.long)[i]? = some (.long (l.getD i 0)) := by
  rw [List.getElem?_map, List.getElem?_eq_getElem hi, List.getD_eq_getElem?_getD, List.getElem?_eq_getElem hi]; rfl
theorem map_setI (l : List Int32) (i : Nat) (x : Int32) : (l.map Value.int).set i (.int x) = (l.set i x).map Value.int := by rw [List.map_set]
theorem map_setJ (l : List Int64) (i : Nat) (x : Int64) : (l.map Value.long).set i (.long x) = (l.set i x).map Value.long := by rw [List.map_set]
theorem nat32 {n : Nat} (h : n < 2147483648) : n.toInt32.toInt = n := by
  show (Int32.ofNat n).toInt = n
  rw [Int32.toInt_ofNat_of_lt (by omega)]
theorem keep_of_same {s t : State} {L : List Loc} {k n : Nat} {ws : List Addr} (H : s.sameButNew t L k n) (hL : ∀ y ∈ L, y.base ∈ ws ∨ s.heap.size ≤ y.base) : Keep s.heap t.heap ws := by
  obtain ⟨-, h1, -, -, -, h5⟩ := H
  have lt : ∀ (x : Addr) (c : Cell), s.heap[x]? = some c → x < s.heap.size := fun x c q => (Array.getElem?_eq_some_iff.mp q).1
  refine ⟨h1, fun x c q r => ?_, fun x c q => ?_⟩
  · obtain ⟨c', e1, e2, e3, e4⟩ := h5 x c q
    have hs : c'.slots = c.slots := by
      refine Array.ext_getElem? fun i => e4 i fun hm => ?_
      rcases hL _ hm with z | z
      · exact r z
      · exact absurd (lt x c q) (Nat.not_lt.mpr z)
    rw [e1, e2, hs]
  · obtain ⟨c', e1, e2, e3, -⟩ := h5 x c q
    exact ⟨c', e1, by rw [e2], by rw [e2], e3⟩
end Facts
section Steps0
variable {W : Wk} {Z : State} {R : Room} {own nm : String} {code : ByteArray} {mx : Nat} {ret : Option FieldType} {wsx : List Addr} {hx0 : Heap} {Q : Option Value → Heap → Prop} {h : Heap} {k n pc pc' pc1 pc2 : Nat} {L L' : Array Slot} {S S' : List Value} {a0 : Array Value}
theorem Cx.x (C : Cx W Z R own code mx ret nm wsx hx0) : W.p.tables.exec = Jvm.exec := C.1
theorem Cx.z (C : Cx W Z R own code mx ret nm wsx hx0) : Z.Warmed39 W.s.vm := C.2.1
theorem Cx.o (C : Cx W Z R own code mx ret nm wsx hx0) : W.s.vm.findClass own = some W.m.cls := C.2.2.1
theorem Cx.b (C : Cx W Z R own code mx ret nm wsx hx0) {r : Except ClassFile.DecodeError (ClassFile.Instr × Nat)} (hd : decode code pc = r) : decode W.c.code pc = r := hb C.2.2.2.1 hd
theorem Cx.ml (C : Cx W Z R own code mx ret nm wsx hx0) : W.c.maxLocals = mx := C.2.2.2.2.1
theorem Cx.rt (C : Cx W Z R own code mx ret nm wsx hx0) : W.meth.sig.returnType = ret := C.2.2.2.2.2.1
theorem Cx.lk (C : Cx W Z R own code mx ret nm wsx hx0) : W.meth.locks = false := C.2.2.2.2.2.2.1
theorem Cx.nme (C : Cx W Z R own code mx ret nm wsx hx0) : W.meth.name = nm := C.2.2.2.2.2.2.2.1
theorem Cx.r (C : Cx W Z R own code mx ret nm wsx hx0) : W.R = R := C.2.2.2.2.2.2.2.2.1
theorem Cx.ws (C : Cx W Z R own code mx ret nm wsx hx0) : W.ws = wsx := C.2.2.2.2.2.2.2.2.2.1
theorem Cx.h0 (C : Cx W Z R own code mx ret nm wsx hx0) : W.s.heap = hx0 := C.2.2.2.2.2.2.2.2.2.2
theorem Cx.old (C : Cx W Z R own code mx ret nm wsx hx0) {a : Addr} (q : a ∈ wsx) : Pw W a := Or.inl (C.ws ▸ q)
theorem Cx.new (C : Cx W Z R own code mx ret nm wsx hx0) {a : Addr} (q : hx0.size ≤ a) : Pw W a := Or.inr (C.h0 ▸ q)
theorem Out.st {S S' : State} (f : ∀ t, Stp W S' t → Stp W S t) (g : Out W Q S') : Out W Q S := by
  obtain ⟨s2, o, q, r⟩ := g
  exact ⟨s2, o, f _ q, r⟩
theorem Go.st (f : ∀ T locs, Sta0 W T locs k n → T.heap = h → ∀ t, Stp W (T.setTop (mkF W.m pc' L' S')) t → Stp W (T.setTop (mkF W.m pc L S)) t) (g : Go W Q h k n pc' L' S') : Go W Q h k n pc L S := fun T hT => by
  obtain ⟨locs, X, e, N⟩ := hT
  exact Out.st (f T locs X e) (g T ⟨locs, X, e, N⟩)
theorem Go.same {k' n' : Nat} (g : Go W Q h k n pc L S) (e1 : k' = k) (e2 : n' = n) : Go W Q h k' n' pc L S := by subst e1 e2; exact g
theorem Go.more {k' n' : Nat} (g : Go W Q h k' n' pc L S) (e1 : k ≤ k') (e2 : n ≤ n') : Go W Q h k n pc L S := fun T hT => by
  obtain ⟨locs, X, e, N⟩ := hT
  exact g T ⟨locs, ⟨X.admits, X.cas, X.clock, X.frames, X.room, X.hears, X.method, X.code, X.here, X.tail, X.warmed, X.limits, X.bytes, X.same.mono e1 e2⟩, e, N⟩
theorem Go.cell (g : hx0.size ≤ h.size → Go W Q h k n pc L S) (C : Cx W Z R own code mx ret nm wsx hx0) : Go W Q h k n pc L S := fun T hT => by
  obtain ⟨locs, X, e, N⟩ := hT
  have q : W.s.heap.size ≤ T.heap.size := X.same.2.1
  rw [C.h0, e] at q
  exact g q T ⟨locs, X, e, N⟩

theorem g_iadd (C : Cx W Z R own code mx ret nm wsx hx0) {x y : Int32} (hd : decode code pc = .ok (.iadd, 1)) (hp : pc + 1 = pc') (g : Go W Q h k n pc' L (.int (x + y) :: S)) : Go W Q h k n pc L (.int y :: .int x :: S) := by
  subst hp
  exact g.st fun T locs X e t kk => XS.iadd (g := mkF W.m pc L (.int y :: .int x :: S)) X.here C.x rfl (C.b hd) rfl kk
theorem g_isub (C : Cx W Z R own code mx ret nm wsx hx0) {x y : Int32} (hd : decode code pc = .ok (.isub, 1)) (hp : pc + 1 = pc') (g : Go W Q h k n pc' L (.int (x - y) :: S)) : Go W Q h k n pc L (.int y :: .int x :: S) := by
  subst hp
  exact g.st fun T locs X e t kk => XS.isub (g := mkF W.m pc L (.int y :: .int x :: S)) X.here C.x rfl (C.b hd) rfl kk
theorem g_imul (C : Cx W Z R own code mx ret nm wsx hx0) {x y : Int32} (hd : decode code pc = .ok (.imul, 1)) (hp : pc + 1 = pc') (g : Go W Q h k n pc' L (.int (x * y) :: S)) : Go W Q h k n pc L (.int y :: .int x :: S) := by
  subst hp
  exact g.st fun T locs X e t kk => XS.imul (g := mkF W.m pc L (.int y :: .int x :: S)) X.here C.x rfl (C.b hd) rfl kk
theorem g_iand (C : Cx W Z R own code mx ret nm wsx hx0) {x y : Int32} (hd : decode code pc = .ok (.iand, 1)) (hp : pc + 1 = pc') (g : Go W Q h k n pc' L (.int (x &&& y) :: S)) : Go W Q h k n pc L (.int y :: .int x :: S) := by
  subst hp
  exact g.st fun T locs X e t kk => XS.iand (g := mkF W.m pc L (.int y :: .int x :: S)) X.here C.x rfl (C.b hd) rfl kk
theorem g_ior (C : Cx W Z R own code mx ret nm wsx hx0) {x y : Int32} (hd : decode code pc = .ok (.ior, 1)) (hp : pc + 1 = pc') (g : Go W Q h k n pc' L (.int (x ||| y) :: S)) : Go W Q h k n pc L (.int y :: .int x :: S) := by
  subst hp
  exact g.st fun T locs X e t kk => XS.ior (g := mkF W.m pc L (.int y :: .int x :: S)) X.here C.x rfl (C.b hd) rfl kk
theorem g_ixor (C : Cx W Z R own code mx ret nm wsx hx0) {x y : Int32} (hd : decode code pc = .ok (.ixor, 1)) (hp : pc + 1 = pc') (g : Go W Q h k n pc' L (.int (x ^^^ y) :: S)) : Go W Q h k n pc L (.int y :: .int x :: S) := by
  subst hp
  exact g.st fun T locs X e t kk => XS.ixor (g := mkF W.m pc L (.int y :: .int x :: S)) X.here C.x rfl (C.b hd) rfl kk
theorem g_ishl (C : Cx W Z R own code mx ret nm wsx hx0) {x y : Int32} (hd : decode code pc = .ok (.ishl, 1)) (hp : pc + 1 = pc') (g : Go W Q h k n pc' L (.int (x <<< (y &&& 31)) :: S)) : Go W Q h k n pc L (.int y :: .int x :: S) := by
  subst hp
  exact g.st fun T locs X e t kk => XS.ishl (g := mkF W.m pc L (.int y :: .int x :: S)) X.here C.x rfl (C.b hd) rfl kk
theorem g_ishr (C : Cx W Z R own code mx ret nm wsx hx0) {x y : Int32} (hd : decode code pc = .ok (.ishr, 1)) (hp : pc + 1 = pc') (g : Go W Q h k n pc' L (.int (x >>> (y &&& 31)) :: S)) : Go W Q h k n pc L (.int y :: .int x :: S) := by
  subst hp
  exact g.st fun T locs X e t kk => XS.ishr (g := mkF W.m pc L (.int y :: .int x :: S)) X.here C.x rfl (C.b hd) rfl kk
theorem g_iushr (C : Cx W Z R own code mx ret nm wsx hx0) {x y : Int32} (hd : decode code pc = .ok (.iushr, 1)) (hp : pc + 1 = pc') (g : Go W Q h k n pc' L (.int ((x.toUInt32 >>> (y &&& 31).toUInt32).toInt32) :: S)) : Go W Q h k n pc L (.int y :: .int x :: S) := by
  subst hp
  exact g.st fun T locs X e t kk => XS.iushr (g := mkF W.m pc L (.int y :: .int x :: S)) X.here C.x rfl (C.b hd) rfl kk
theorem g_ladd (C : Cx W Z R own code mx ret nm wsx hx0) {x y : Int64} (hd : decode code pc = .ok (.ladd, 1)) (hp : pc + 1 = pc') (g : Go W Q h k n pc' L (.long (x + y) :: S)) : Go W Q h k n pc L (.long y :: .long x :: S) := by
  subst hp
  exact g.st fun T locs X e t kk => XS.ladd (g := mkF W.m pc L (.long y :: .long x :: S)) X.here C.x rfl (C.b hd) rfl kk
theorem g_lsub (C : Cx W Z R own code mx ret nm wsx hx0) {x y : Int64} (hd : decode code pc = .ok (.lsub, 1)) (hp : pc + 1 = pc') (g : Go W Q h k n pc' L (.long (x - y) :: S)) : Go W Q h k n pc L (.long y :: .long x :: S) := by
  subst hp
  exact g.st fun T locs X e t kk => XS.lsub (g := mkF W.m pc L (.long y :: .long x :: S)) X.here C.x rfl (C.b hd) rfl kk
theorem g_lmul (C : Cx W Z R own code mx ret nm wsx hx0) {x y : Int64} (hd : decode code pc = .ok (.lmul, 1)) (hp : pc + 1 = pc') (g : Go W Q h k n pc' L (.long (x * y) :: S)) : Go W Q h k n pc L (.long y :: .long x :: S) := by
  subst hp
  exact g.st fun T locs X e t kk => XS.lmul (g := mkF W.m pc L (.long y :: .long x :: S)) X.here C.x rfl (C.b hd) rfl kk
theorem g_land (C : Cx W Z R own code mx ret nm wsx hx0) {x y : Int64} (hd : decode code pc = .ok (.land, 1)) (hp : pc + 1 = pc') (g : Go W Q h k n pc' L (.long (x &&& y) :: S)) : Go W Q h k n pc L (.long y :: .long x :: S) := by
  subst hp
  exact g.st fun T locs X e t kk => XS.land (g := mkF W.m pc L (.long y :: .long x :: S)) X.here C.x rfl (C.b hd) rfl kk
theorem g_lor (C : Cx W Z R own code mx ret nm wsx hx0) {x y : Int64} (hd : decode code pc = .ok (.lor, 1)) (hp : pc + 1 = pc') (g : Go W Q h k n pc' L (.long (x ||| y) :: S)) : Go W Q h k n pc L (.long y :: .long x :: S) := by
  subst hp
  exact g.st fun T locs X e t kk => XS.lor (g := mkF W.m pc L (.long y :: .long x :: S)) X.here C.x rfl (C.b hd) rfl kk
theorem g_lxor (C : Cx W Z R own code mx ret nm wsx hx0) {x y : Int64} (hd : decode code pc = .ok (.lxor, 1)) (hp : pc + 1 = pc') (g : Go W Q h k n pc' L (.long (x ^^^ y) :: S)) : Go W Q h k n pc L (.long y :: .long x :: S) := by
  subst hp
  exact g.st fun T locs X e t kk => XS.lxor (g := mkF W.m pc L (.long y :: .long x :: S)) X.here C.x rfl (C.b hd) rfl kk
theorem g_lshl (C : Cx W Z R own code mx ret nm wsx hx0) {x : Int64} {y : Int32} (hd : decode code pc = .ok (.lshl, 1)) (hp : pc + 1 = pc') (g : Go W Q h k n pc' L (.long (x <<< (y &&& 0x3f).toInt64) :: S)) : Go W Q h k n pc L (.int y :: .long x :: S) := by
  subst hp
  exact g.st fun T locs X e t kk => XS.lshl (g := mkF W.m pc L (.int y :: .long x :: S)) X.here C.x rfl (C.b hd) rfl kk
theorem g_lshr (C : Cx W Z R own code mx ret nm wsx hx0) {x : Int64} {y : Int32} (hd : decode code pc = .ok (.lshr, 1)) (hp : pc + 1 = pc') (g : Go W Q h k n pc' L (.long (x >>> (y &&& 0x3f).toInt64) :: S)) : Go W Q h k n pc L (.int y :: .long x :: S) := by
  subst hp
  exact g.st fun T locs X e t kk => XS.lshr (g := mkF W.m pc L (.int y :: .long x :: S)) X.here C.x rfl (C.b hd) rfl kk
theorem g_lushr (C : Cx W Z R own code mx ret nm wsx hx0) {x : Int64} {y : Int32} (hd : decode code pc = .ok (.lushr, 1)) (hp : pc + 1 = pc') (g : Go W Q h k n pc' L (.long ((x.toUInt64 >>> (y &&& 0x3f).toInt64.toUInt64).toInt64) :: S)) : Go W Q h k n pc L (.int y :: .long x :: S) := by
  subst hp
  exact g.st fun T locs X e t kk => XS.lushr (g := mkF W.m pc L (.int y :: .long x :: S)) X.here C.x rfl (C.b hd) rfl kk
theorem g_idiv (C : Cx W Z R own code mx ret nm wsx hx0) {x y : Int32} (hd : decode code pc = .ok (.idiv, 1)) (hp : pc + 1 = pc') (hy : y ≠ 0) (g : Go W Q h k n pc' L (.int (x / y) :: S)) : Go W Q h k n pc L (.int y :: .int x :: S) := by
  subst hp
  exact g.st fun T locs X e t kk => XS.idiv (g := mkF W.m pc L (.int y :: .int x :: S)) X.here C.x rfl (C.b hd) rfl hy kk
theorem g_irem (C : Cx W Z R own code mx ret nm wsx hx0) {x y : Int32} (hd : decode code pc = .ok (.irem, 1)) (hp : pc + 1 = pc') (hy : y ≠ 0) (g : Go W Q h k n pc' L (.int (x % y) :: S)) : Go W Q h k n pc L (.int y :: .int x :: S) := by
  subst hp
  exact g.st fun T locs X e t kk => iremM (g := mkF W.m pc L (.int y :: .int x :: S)) X C.x rfl (C.b hd) rfl hy kk
theorem g_ldiv (C : Cx W Z R own code mx ret nm wsx hx0) {x y : Int64} (hd : decode code pc = .ok (.ldiv, 1)) (hp : pc + 1 = pc') (hy : y ≠ 0) (g : Go W Q h k n pc' L (.long (x / y) :: S)) : Go W Q h k n pc L (.long y :: .long x :: S) := by
  subst hp
  exact g.st fun T locs X e t kk => XS.ldiv (g := mkF W.m pc L (.long y :: .long x :: S)) X.here C.x rfl (C.b hd) rfl hy kk
theorem g_lrem (C : Cx W Z R own code mx ret nm wsx hx0) {x y : Int64} (hd : decode code pc = .ok (.lrem, 1)) (hp : pc + 1 = pc') (hy : y ≠ 0) (g : Go W Q h k n pc' L (.long (x % y) :: S)) : Go W Q h k n pc L (.long y :: .long x :: S) := by
  subst hp
  rw [← lrem_mod] at g
  exact g.st fun T locs X e t kk => XS.lrem (g := mkF W.m pc L (.long y :: .long x :: S)) X.here C.x rfl (C.b hd) rfl hy kk
theorem g_ineg (C : Cx W Z R own code mx ret nm wsx hx0) {x : Int32} (hd : decode code pc = .ok (.ineg, 1)) (hp : pc + 1 = pc') (g : Go W Q h k n pc' L (.int (-x) :: S)) : Go W Q h k n pc L (.int x :: S) := by
  subst hp
  exact g.st fun T locs X e t kk => XS.ineg (g := mkF W.m pc L (.int x :: S)) X.here C.x rfl (C.b hd) rfl kk
theorem g_lneg (C : Cx W Z R own code mx ret nm wsx hx0) {x : Int64} (hd : decode code pc = .ok (.lneg, 1)) (hp : pc + 1 = pc') (g : Go W Q h k n pc' L (.long (-x) :: S)) : Go W Q h k n pc L (.long x :: S) := by
  subst hp
  exact g.st fun T locs X e t kk => XS.lneg (g := mkF W.m pc L (.long x :: S)) X.here C.x rfl (C.b hd) rfl kk
theorem g_i2l (C : Cx W Z R own code mx ret nm wsx hx0) {x : Int32} (hd : decode code pc = .ok (.i2l, 1)) (hp : pc + 1 = pc') (g : Go W Q h k n pc' L (.long (x.toInt64) :: S)) : Go W Q h k n pc L (.int x :: S) := by
  subst hp
  exact g.st fun T locs X e t kk => XS.i2l (g := mkF W.m pc L (.int x :: S)) X.here C.x rfl (C.b hd) rfl kk
theorem g_l2i (C : Cx W Z R own code mx ret nm wsx hx0) {x : Int64} (hd : decode code pc = .ok (.l2i, 1)) (hp : pc + 1 = pc') (g : Go W Q h k n pc' L (.int (x.toInt32) :: S)) : Go W Q h k n pc L (.long x :: S) := by
  subst hp
  exact g.st fun T locs X e t kk => XS.l2i (g := mkF W.m pc L (.long x :: S)) X.here C.x rfl (C.b hd) rfl kk
theorem g_i2b (C : Cx W Z R own code mx ret nm wsx hx0) {x : Int32} (hd : decode code pc = .ok (.i2b, 1)) (hp : pc + 1 = pc') (g : Go W Q h k n pc' L (.int (x.toInt8.toInt32) :: S)) : Go W Q h k n pc L (.int x :: S) := by
  subst hp
  exact g.st fun T locs X e t kk => XS.i2b (g := mkF W.m pc L (.int x :: S)) X.here C.x rfl (C.b hd) rfl kk
theorem g_i2c (C : Cx W Z R own code mx ret nm wsx hx0) {x : Int32} (hd : decode code pc = .ok (.i2c, 1)) (hp : pc + 1 = pc') (g : Go W Q h k n pc' L (.int (x.toUInt32.toUInt16.toUInt32.toInt32) :: S)) : Go W Q h k n pc L (.int x :: S) := by
  subst hp
  exact g.st fun T locs X e t kk => XS.i2c (g := mkF W.m pc L (.int x :: S)) X.here C.x rfl (C.b hd) rfl kk
theorem g_i2s (C : Cx W Z R own code mx ret nm wsx hx0) {x : Int32} (hd : decode code pc = .ok (.i2s, 1)) (hp : pc + 1 = pc') (g : Go W Q h k n pc' L (.int (x.toInt16.toInt32) :: S)) : Go W Q h k n pc L (.int x :: S) := by
  subst hp
  exact g.st fun T locs X e t kk => XS.i2s (g := mkF W.m pc L (.int x :: S)) X.here C.x rfl (C.b hd) rfl kk
theorem g_iconst (C : Cx W Z R own code mx ret nm wsx hx0) {i : Int} {z : Int32} (hd : decode code pc = .ok (.iconst i, 1)) (hp : pc + 1 = pc') (hz : Int32.ofInt i = z) (g : Go W Q h k n pc' L (.int z :: S)) : Go W Q h k n pc L S := by
  subst hp hz
  exact g.st fun T locs X e t kk => XS.iconst (g := mkF W.m pc L S) X.here C.x rfl (C.b hd) kk
theorem g_bipush (C : Cx W Z R own code mx ret nm wsx hx0) {i : Int} {z : Int32} (hd : decode code pc = .ok (.bipush i, 2)) (hp : pc + 2 = pc') (hz : (Int8.ofInt i).toInt32 = z) (g : Go W Q h k n pc' L (.int z :: S)) : Go W Q h k n pc L S := by
  subst hp hz
  exact g.st fun T locs X e t kk => XS.bipush (g := mkF W.m pc L S) X.here C.x rfl (C.b hd) kk
theorem g_sipush (C : Cx W Z R own code mx ret nm wsx hx0) {i : Int} {z : Int32} (hd : decode code pc = .ok (.sipush i, 3)) (hp : pc + 3 = pc') (hz : (Int16.ofInt i).toInt32 = z) (g : Go W Q h k n pc' L (.int z :: S)) : Go W Q h k n pc L S := by
  subst hp hz
  exact g.st fun T locs X e t kk => XS.sipush (g := mkF W.m pc L S) X.here C.x rfl (C.b hd) kk
theorem g_lconst (C : Cx W Z R own code mx ret nm wsx hx0) {i : Fin 2} {z : Int64} (hd : decode code pc = .ok (.lconst i, 1)) (hp : pc + 1 = pc') (hz : Int64.ofNat i = z) (g : Go W Q h k n pc' L (.long z :: S)) : Go W Q h k n pc L S := by
  subst hp hz
  exact g.st fun T locs X e t kk => XS.lconst (g := mkF W.m pc L S) X.here C.x rfl (C.b hd) kk
theorem g_aconst_null (C : Cx W Z R own code mx ret nm wsx hx0)  (hd : decode code pc = .ok (.aconst_null, 1)) (hp : pc + 1 = pc') (g : Go W Q h k n pc' L (.null :: S)) : Go W Q h k n pc L (S) := by
  subst hp
  exact g.st fun T locs X e t kk => XS.aconstNull (g := mkF W.m pc L (S)) X.here C.x rfl (C.b hd) kk
theorem g_dup (C : Cx W Z R own code mx ret nm wsx hx0) {x : Value} (hd : decode code pc = .ok (.dup, 1)) (hp : pc + 1 = pc') (hc : x.category = 1) (g : Go W Q h k n pc' L (x :: x :: S)) : Go W Q h k n pc L (x :: S) := by
  subst hp
  exact g.st fun T locs X e t kk => XS.dup (g := mkF W.m pc L (x :: S)) X.here C.x rfl (C.b hd) rfl hc kk
theorem g_dup_x1 (C : Cx W Z R own code mx ret nm wsx hx0) {x y : Value} (hd : decode code pc = .ok (.dup_x1, 1)) (hp : pc + 1 = pc') (hc : x.category = 1) (hc' : y.category = 1) (g : Go W Q h k n pc' L (x :: y :: x :: S)) : Go W Q h k n pc L (x :: y :: S) := by
  subst hp
  exact g.st fun T locs X e t kk => XS.dupX1 (g := mkF W.m pc L (x :: y :: S)) X.here C.x rfl (C.b hd) rfl hc hc' kk
theorem g_dup2 (C : Cx W Z R own code mx ret nm wsx hx0) {x y : Value} (hd : decode code pc = .ok (.dup2, 1)) (hp : pc + 1 = pc') (hc : x.category = 1) (hc' : y.category = 1) (g : Go W Q h k n pc' L (x :: y :: x :: y :: S)) : Go W Q h k n pc L (x :: y :: S) := by
  subst hp
  exact g.st fun T locs X e t kk => XT.dup2 (g := mkF W.m pc L (x :: y :: S)) X.here C.x rfl (C.b hd) rfl hc hc' kk
theorem g_dup2L (C : Cx W Z R own code mx ret nm wsx hx0) {x : Int64} (hd : decode code pc = .ok (.dup2, 1)) (hp : pc + 1 = pc') (g : Go W Q h k n pc' L (.long x :: .long x :: S)) : Go W Q h k n pc L (.long x :: S) := by
  subst hp
  exact g.st fun T locs X e t kk => XT.dup2L (g := mkF W.m pc L (.long x :: S)) X.here C.x rfl (C.b hd) rfl kk
theorem g_pop (C : Cx W Z R own code mx ret nm wsx hx0) {x : Value} (hd : decode code pc = .ok (.pop, 1)) (hp : pc + 1 = pc') (hc : x.category = 1) (g : Go W Q h k n pc' L (S)) : Go W Q h k n pc L (x :: S) := by
  subst hp
  exact g.st fun T locs X e t kk => XS.pop (g := mkF W.m pc L (x :: S)) X.here C.x rfl (C.b hd) rfl hc kk
theorem g_iload (C : Cx W Z R own code mx ret nm wsx hx0) {i : Nat} {x : Int32} (hd : decode code pc = .ok (.iload i, 2)) (hp : pc + 2 = pc') (hl : L[i]? = some (.val (.int x))) (g : Go W Q h k n pc' L (.int x :: S)) : Go W Q h k n pc L (S) := by
  subst hp
  exact g.st fun T locs X e t kk => XS.iload (g := mkF W.m pc L (S)) X.here C.x rfl (C.b hd) hl kk
theorem g_iloadN (C : Cx W Z R own code mx ret nm wsx hx0) {i : Fin 4} {x : Int32} (hd : decode code pc = .ok (.iload_n i, 1)) (hp : pc + 1 = pc') (hl : L[i.val]? = some (.val (.int x))) (g : Go W Q h k n pc' L (.int x :: S)) : Go W Q h k n pc L (S) := by
  subst hp
  exact g.st fun T locs X e t kk => XS.iloadN (g := mkF W.m pc L (S)) X.here C.x rfl (C.b hd) hl kk
theorem g_lload (C : Cx W Z R own code mx ret nm wsx hx0) {i : Nat} {x : Int64} (hd : decode code pc = .ok (.lload i, 2)) (hp : pc + 2 = pc') (hl : L[i]? = some (.val (.long x))) (g : Go W Q h k n pc' L (.long x :: S)) : Go W Q h k n pc L (S) := by
  subst hp
  exact g.st fun T locs X e t kk => XS.lload (g := mkF W.m pc L (S)) X.here C.x rfl (C.b hd) hl kk
theorem g_lloadN (C : Cx W Z R own code mx ret nm wsx hx0) {i : Fin 4} {x : Int64} (hd : decode code pc = .ok (.lload_n i, 1)) (hp : pc + 1 = pc') (hl : L[i.val]? = some (.val (.long x))) (g : Go W Q h k n pc' L (.long x :: S)) : Go W Q h k n pc L (S) := by
  subst hp
  exact g.st fun T locs X e t kk => XS.lloadN (g := mkF W.m pc L (S)) X.here C.x rfl (C.b hd) hl kk
theorem g_aload (C : Cx W Z R own code mx ret nm wsx hx0) {i : Nat} {x : Value} (hd : decode code pc = .ok (.aload i, 2)) (hp : pc + 2 = pc') (hl : L[i]? = some (.val x)) (hv : x.isRef = true) (g : Go W Q h k n pc' L (x :: S)) : Go W Q h k n pc L (S) := by
  subst hp
  exact g.st fun T locs X e t kk => XS.aload (g := mkF W.m pc L (S)) X.here C.x rfl (C.b hd) hl hv kk
theorem g_istore (C : Cx W Z R own code mx ret nm wsx hx0) {i : Nat} {x : Int32} (hd : decode code pc = .ok (.istore i, 2)) (hp : pc + 2 = pc') (hl : storeLocals L i (.int x) = some L') (g : Go W Q h k n pc' L' (S)) : Go W Q h k n pc L (.int x :: S) := by
  subst hp
  exact g.st fun T locs X e t kk => XS.istore (g := mkF W.m pc L (.int x :: S)) X.here C.x rfl (C.b hd) rfl hl kk
theorem g_lstore (C : Cx W Z R own code mx ret nm wsx hx0) {i : Nat} {x : Int64} (hd : decode code pc = .ok (.lstore i, 2)) (hp : pc + 2 = pc') (hl : storeLocals L i (.long x) = some L') (g : Go W Q h k n pc' L' (S)) : Go W Q h k n pc L (.long x :: S) := by
  subst hp
  exact g.st fun T locs X e t kk => XS.lstore (g := mkF W.m pc L (.long x :: S)) X.here C.x rfl (C.b hd) rfl hl kk
theorem g_astore (C : Cx W Z R own code mx ret nm wsx hx0) {i : Nat} {x : Value} (hd : decode code pc = .ok (.astore i, 2)) (hp : pc + 2 = pc') (hv : x.isRef = true) (hl : storeLocals L i x = some L') (g : Go W Q h k n pc' L' (S)) : Go W Q h k n pc L (x :: S) := by
  subst hp
  exact g.st fun T locs X e t kk => XS.astore (g := mkF W.m pc L (x :: S)) X.here C.x rfl (C.b hd) rfl hv hl kk
theorem g_aloadN (C : Cx W Z R own code mx ret nm wsx hx0) {i : Fin 4} {x : Value} (hd : decode code pc = .ok (.aload_n i, 1)) (hp : pc + 1 = pc') (hl : L[i.val]? = some (.val x)) (hv : x.isRef = true) (g : Go W Q h k n pc' L (x :: S)) : Go W Q h k n pc L (S) := by
  subst hp
  exact g.st fun T locs X e t kk => XS.aloadN (g := mkF W.m pc L (S)) X.here C.x rfl (C.b hd) hl hv kk
theorem g_istoreN (C : Cx W Z R own code mx ret nm wsx hx0) {i : Fin 4} {x : Int32} (hd : decode code pc = .ok (.istore_n i, 1)) (hp : pc + 1 = pc') (hl : storeLocals L i.val (.int x) = some L') (g : Go W Q h k n pc' L' (S)) : Go W Q h k n pc L (.int x :: S) := by
  subst hp
  exact g.st fun T locs X e t kk => XS.istoreN (g := mkF W.m pc L (.int x :: S)) X.here C.x rfl (C.b hd) rfl hl kk
theorem g_lstoreN (C : Cx W Z R own code mx ret nm wsx hx0) {i : Fin 4} {x : Int64} (hd : decode code pc = .ok (.lstore_n i, 1)) (hp : pc + 1 = pc') (hl : storeLocals L i.val (.long x) = some L') (g : Go W Q h k n pc' L' (S)) : Go W Q h k n pc L (.long x :: S) := by
  subst hp
  exact g.st fun T locs X e t kk => XS.lstoreN (g := mkF W.m pc L (.long x :: S)) X.here C.x rfl (C.b hd) rfl hl kk
theorem g_astoreN (C : Cx W Z R own code mx ret nm wsx hx0) {i : Fin 4} {x : Value} (hd : decode code pc = .ok (.astore_n i, 1)) (hp : pc + 1 = pc') (hv : x.isRef = true) (hl : storeLocals L i.val x = some L') (g : Go W Q h k n pc' L' (S)) : Go W Q h k n pc L (x :: S) := by
  subst hp
  exact g.st fun T locs X e t kk => XS.astoreN (g := mkF W.m pc L (x :: S)) X.here C.x rfl (C.b hd) rfl hv hl kk
theorem g_iinc (C : Cx W Z R own code mx ret nm wsx hx0) {i : Nat} {cst : Int} {x z : Int32} (hd : decode code pc = .ok (.iinc i cst, 3)) (hp : pc + 3 = pc') (hl : L[i]? = some (.val (.int x))) (hz : x + Int32.ofInt cst = z) (hl' : storeLocals L i (.int z) = some L') (g : Go W Q h k n pc' L' (S)) : Go W Q h k n pc L (S) := by
  subst hp
  exact g.st fun T locs X e t kk => XS.iinc (g := mkF W.m pc L (S)) X.here C.x rfl (C.b hd) hl (hz ▸ hl') kk
theorem g_goto (C : Cx W Z R own code mx ret nm wsx hx0) {o : Int} (hd : decode code pc = .ok (.goto o, 3)) (ho : 0 ≤ (pc : Int) + o) (hp : ((pc : Int) + o).toNat = pc') (g : Go W Q h k n pc' L S) : Go W Q h k n pc L S :=
  g.st fun T locs X e t kk => XS.goto (g := mkF W.m pc L S) X.here C.x rfl rfl (C.b hd) ho hp kk
theorem g_ldcI (C : Cx W Z R own code mx ret nm wsx hx0) {i : Nat} {z : Int32} (hd : decode code pc = .ok (.ldc i, 2)) (hp : pc + 2 = pc') (w : (Jvm.Cond.constant own i z).before a0 Z = true) (g : Go W Q h k n pc' L (.int z :: S)) : Go W Q h k n pc L S := by
  subst hp
  exact g.st fun T locs X e t kk => X.ldcInt C.x C.o (mvT C.z w) (g := mkF W.m pc L S) rfl (C.b hd) t kk
theorem g_ldcwI (C : Cx W Z R own code mx ret nm wsx hx0) {i : Nat} {z : Int32} (hd : decode code pc = .ok (.ldc_w i, 3)) (hp : pc + 3 = pc') (w : (Jvm.Cond.constant own i z).before a0 Z = true) (g : Go W Q h k n pc' L (.int z :: S)) : Go W Q h k n pc L S := by
  subst hp
  exact g.st fun T locs X e t kk => X.ldcwInt C.x C.o (mvT C.z w) (g := mkF W.m pc L S) rfl (C.b hd) t kk
theorem g_ldc2L (C : Cx W Z R own code mx ret nm wsx hx0) {i : Nat} {z : Int64} (hd : decode code pc = .ok (.ldc2_w i, 3)) (hp : pc + 3 = pc') (w : (Jvm.Cond.constantLong own i z).before a0 Z = true) (g : Go W Q h k n pc' L (.long z :: S)) : Go W Q h k n pc L S := by
  subst hp
  exact g.st fun T locs X e t kk => X.ldc2Long C.x C.o (mvT C.z w) (g := mkF W.m pc L S) rfl (C.b hd) t kk
/-- what a branch asks of two integers -/
def icp : ClassFile.Cond → Int → Int → Prop
  | .eq, x, y => x = y
  | .ne, x, y => ¬ x = y
  | .lt, x, y => x < y
  | .ge, x, y => y ≤ x
  | .gt, x, y => y < x
  | .le, x, y => x ≤ y
instance instIcp : (cd : ClassFile.Cond) → (x y : Int) → Decidable (icp cd x y)
  | .eq, x, y => inferInstanceAs (Decidable (x = y))
  | .ne, x, y => inferInstanceAs (Decidable (¬ x = y))
  | .lt, x, y => inferInstanceAs (Decidable (x < y))
  | .ge, x, y => inferInstanceAs (Decidable (y ≤ x))
  | .gt, x, y => inferInstanceAs (Decidable (y < x))
  | .le, x, y => inferInstanceAs (Decidable (x ≤ y))
theorem icp_eq (cd : ClassFile.Cond) (x y : Int32) : if_icmp.holds cd x y = decide (icp cd x.toInt y.toInt) := by
  rw [Bool.eq_iff_iff, decide_eq_true_iff]
  cases cd <;> simp [if_icmp.holds, icp, Int32.lt_iff_toInt_lt, Int32.le_iff_toInt_le, Int32.toInt_inj]
theorem icp_long (cd : ClassFile.Cond) (x y : Int64) : ifCond.holds cd (lcmpW x y) = decide (icp cd x.toInt y.toInt) := by
  rw [if0, icp_eq, Bool.eq_iff_iff, decide_eq_true_iff, decide_eq_true_iff]
  have c := c_lcmp x y
  have z : (0 : Int32).toInt = 0 := rfl
  rw [z]
  rcases Int.lt_trichotomy x.toInt y.toInt with q | q | q
  · rw [c.1 q]; cases cd <;> simp only [icp] <;> omega
  · rw [c.2.1 q]; cases cd <;> simp only [icp] <;> first | omega | simp [q]
  · rw [c.2.2 q]; cases cd <;> simp only [icp] <;> omega

theorem g_icmpY (C : Cx W Z R own code mx ret nm wsx hx0) {cd : ClassFile.Cond} {o : Int} {x y : Int32} {xi yi : Int} (hd : decode code pc = .ok (.if_icmp cd o, 3)) (ho : 0 ≤ (pc : Int) + o) (hp1 : ((pc : Int) + o).toNat = pc1) (hx : x.toInt = xi) (hy : y.toInt = yi) (q : icp cd xi yi) (g : Go W Q h k n pc1 L S) : Go W Q h k n pc L (.int y :: .int x :: S) := by
  subst hx hy
  exact g.st fun T locs X e t kk => XS.icmpYes (g := mkF W.m pc L (.int y :: .int x :: S)) X.here C.x rfl rfl (C.b hd) rfl ((icp_eq cd x y).trans (decide_eq_true q)) ho hp1 kk
theorem g_icmpN (C : Cx W Z R own code mx ret nm wsx hx0) {cd : ClassFile.Cond} {o : Int} {x y : Int32} {xi yi : Int} (hd : decode code pc = .ok (.if_icmp cd o, 3)) (hp2 : pc + 3 = pc2) (hx : x.toInt = xi) (hy : y.toInt = yi) (q : ¬ (icp cd xi yi)) (g : Go W Q h k n pc2 L S) : Go W Q h k n pc L (.int y :: .int x :: S) := by
  subst hx hy hp2
  exact g.st fun T locs X e t kk => XS.icmpNo (g := mkF W.m pc L (.int y :: .int x :: S)) X.here C.x rfl (C.b hd) rfl ((icp_eq cd x y).trans (decide_eq_false q)) kk
theorem g_icmp (C : Cx W Z R own code mx ret nm wsx hx0) {cd : ClassFile.Cond} {o : Int} {x y : Int32} {xi yi : Int} (hd : decode code pc = .ok (.if_icmp cd o, 3)) (ho : 0 ≤ (pc : Int) + o) (hp1 : ((pc : Int) + o).toNat = pc1) (hp2 : pc + 3 = pc2) (hx : x.toInt = xi) (hy : y.toInt = yi) (g1 : icp cd xi yi → Go W Q h k n pc1 L S) (g2 : ¬ (icp cd xi yi) → Go W Q h k n pc2 L S) : Go W Q h k n pc L (.int y :: .int x :: S) := by
  by_cases q : icp cd xi yi
  · exact g_icmpY C hd ho hp1 hx hy q (g1 q)
  · exact g_icmpN C hd hp2 hx hy q (g2 q)
theorem g_ifY (C : Cx W Z R own code mx ret nm wsx hx0) {cd : ClassFile.Cond} {o : Int} {x : Int32} {xi : Int} (hd : decode code pc = .ok (.ifCond cd o, 3)) (ho : 0 ≤ (pc : Int) + o) (hp1 : ((pc : Int) + o).toNat = pc1) (hx : x.toInt = xi) (q : icp cd xi 0) (g : Go W Q h k n pc1 L S) : Go W Q h k n pc L (.int x :: S) := by
  subst hx
  exact g.st fun T locs X e t kk => XS.ifYes (g := mkF W.m pc L (.int x :: S)) X.here C.x rfl rfl (C.b hd) rfl ((if0 cd x).trans ((icp_eq cd x 0).trans (decide_eq_true q))) ho hp1 kk
theorem g_ifN (C : Cx W Z R own code mx ret nm wsx hx0) {cd : ClassFile.Cond} {o : Int} {x : Int32} {xi : Int} (hd : decode code pc = .ok (.ifCond cd o, 3)) (hp2 : pc + 3 = pc2) (hx : x.toInt = xi) (q : ¬ (icp cd xi 0)) (g : Go W Q h k n pc2 L S) : Go W Q h k n pc L (.int x :: S) := by
  subst hx hp2
  exact g.st fun T locs X e t kk => XS.ifNo (g := mkF W.m pc L (.int x :: S)) X.here C.x rfl (C.b hd) rfl ((if0 cd x).trans ((icp_eq cd x 0).trans (decide_eq_false q))) kk
theorem g_if (C : Cx W Z R own code mx ret nm wsx hx0) {cd : ClassFile.Cond} {o : Int} {x : Int32} {xi : Int} (hd : decode code pc = .ok (.ifCond cd o, 3)) (ho : 0 ≤ (pc : Int) + o) (hp1 : ((pc : Int) + o).toNat = pc1) (hp2 : pc + 3 = pc2) (hx : x.toInt = xi) (g1 : icp cd xi 0 → Go W Q h k n pc1 L S) (g2 : ¬ (icp cd xi 0) → Go W Q h k n pc2 L S) : Go W Q h k n pc L (.int x :: S) := by
  by_cases q : icp cd xi 0
  · exact g_ifY C hd ho hp1 hx q (g1 q)
  · exact g_ifN C hd hp2 hx q (g2 q)
/-- lcmp and the branch behind it -/
theorem g_lcmpY (C : Cx W Z R own code mx ret nm wsx hx0) {cd : ClassFile.Cond} {o : Int} {x y : Int64} {xi yi : Int} (hd : decode code pc = .ok (.lcmp, 1)) (hd' : decode code pc' = .ok (.ifCond cd o, 3)) (hp : pc + 1 = pc') (ho : 0 ≤ (pc' : Int) + o) (hp1 : ((pc' : Int) + o).toNat = pc1) (hx : x.toInt = xi) (hy : y.toInt = yi) (q : icp cd xi yi) (g : Go W Q h k n pc1 L S) : Go W Q h k n pc L (.long y :: .long x :: S) := by
  subst hp hx hy
  have g' : Go W Q h k n (pc + 1) L (.int (lcmpW x y) :: S) := g.st fun T locs X e t kk => XS.ifYes (g := mkF W.m (pc + 1) L (.int (lcmpW x y) :: S)) X.here C.x rfl rfl (C.b hd') rfl ((icp_long cd x y).trans (decide_eq_true q)) ho hp1 kk
  exact g'.st fun T locs X e t kk => XS.lcmp (g := mkF W.m pc L (.long y :: .long x :: S)) X.here C.x rfl (C.b hd) rfl kk
theorem g_lcmpN (C : Cx W Z R own code mx ret nm wsx hx0) {cd : ClassFile.Cond} {o : Int} {x y : Int64} {xi yi : Int} (hd : decode code pc = .ok (.lcmp, 1)) (hd' : decode code pc' = .ok (.ifCond cd o, 3)) (hp : pc + 1 = pc') (hp2 : pc' + 3 = pc2) (hx : x.toInt = xi) (hy : y.toInt = yi) (q : ¬ icp cd xi yi) (g : Go W Q h k n pc2 L S) : Go W Q h k n pc L (.long y :: .long x :: S) := by
  subst hp hx hy hp2
  have g' : Go W Q h k n (pc + 1) L (.int (lcmpW x y) :: S) := g.st fun T locs X e t kk => XS.ifNo (g := mkF W.m (pc + 1) L (.int (lcmpW x y) :: S)) X.here C.x rfl (C.b hd') rfl ((icp_long cd x y).trans (decide_eq_false q)) kk
  exact g'.st fun T locs X e t kk => XS.lcmp (g := mkF W.m pc L (.long y :: .long x :: S)) X.here C.x rfl (C.b hd) rfl kk
theorem g_lcmp (C : Cx W Z R own code mx ret nm wsx hx0) {cd : ClassFile.Cond} {o : Int} {x y : Int64} {xi yi : Int} (hd : decode code pc = .ok (.lcmp, 1)) (hd' : decode code pc' = .ok (.ifCond cd o, 3)) (hp : pc + 1 = pc') (ho : 0 ≤ (pc' : Int) + o) (hp1 : ((pc' : Int) + o).toNat = pc1) (hp2 : pc' + 3 = pc2) (hx : x.toInt = xi) (hy : y.toInt = yi) (g1 : icp cd xi yi → Go W Q h k n pc1 L S) (g2 : ¬ icp cd xi yi → Go W Q h k n pc2 L S) : Go W Q h k n pc L (.long y :: .long x :: S) := by
  by_cases q : icp cd xi yi
  · exact g_lcmpY C hd hd' hp ho hp1 hx hy q (g1 q)
  · exact g_lcmpN C hd hd' hp hp2 hx hy q (g2 q)
theorem icp_b0 {P : Prop} [Decidable P] : icp .eq (b2i P).toInt 0 ↔ ¬ P := by
  show (b2i P).toInt = 0 ↔ ¬ P
  rw [b2i_toInt]; split <;> simp [*]
theorem icp_b1 {P : Prop} [Decidable P] : icp .ne (b2i P).toInt 0 ↔ P := by
  show ¬ (b2i P).toInt = 0 ↔ P
  rw [b2i_toInt]; split <;> simp [*]
/-- ifeq on a truth value -/
theorem g_ifeqb (C : Cx W Z R own code mx ret nm wsx hx0) {o : Int} {x : Int32} {P : Prop} [Decidable P] (hd : decode code pc = .ok (.ifCond .eq o, 3)) (ho : 0 ≤ (pc : Int) + o) (hp1 : ((pc : Int) + o).toNat = pc1) (hp2 : pc + 3 = pc2) (hx : x = b2i P) (g1 : ¬ P → Go W Q h k n pc1 L S) (g2 : P → Go W Q h k n pc2 L S) : Go W Q h k n pc L (.int x :: S) := by
  subst hx
  exact g_if C hd ho hp1 hp2 rfl (fun q => g1 (icp_b0.mp q)) (fun q => g2 (Decidable.not_not.mp fun z => q (icp_b0.mpr z)))
/-- ifne on a truth value -/
theorem g_ifneb (C : Cx W Z R own code mx ret nm wsx hx0) {o : Int} {x : Int32} {P : Prop} [Decidable P] (hd : decode code pc = .ok (.ifCond .ne o, 3)) (ho : 0 ≤ (pc : Int) + o) (hp1 : ((pc : Int) + o).toNat = pc1) (hp2 : pc + 3 = pc2) (hx : x = b2i P) (g1 : P → Go W Q h k n pc1 L S) (g2 : ¬ P → Go W Q h k n pc2 L S) : Go W Q h k n pc L (.int x :: S) := by
  subst hx
  exact g_if C hd ho hp1 hp2 rfl (fun q => g1 (icp_b1.mp q)) (fun q => g2 fun z => q (icp_b1.mpr z))
theorem g_icmpbeq (C : Cx W Z R own code mx ret nm wsx hx0) {o : Int} {x y : Int32} {P P' : Prop} [Decidable P] [Decidable P'] (hd : decode code pc = .ok (.if_icmp .eq o, 3)) (ho : 0 ≤ (pc : Int) + o) (hp1 : ((pc : Int) + o).toNat = pc1) (hp2 : pc + 3 = pc2) (hx : x = b2i P) (hy : y = b2i P') (g1 : (P ↔ P') → Go W Q h k n pc1 L S) (g2 : ¬ (P ↔ P') → Go W Q h k n pc2 L S) : Go W Q h k n pc L (.int y :: .int x :: S) := by
  subst hx hy
  exact g_icmp C hd ho hp1 hp2 rfl rfl (fun q => g1 (b2i_inj.mp (Int32.toInt_inj.mp q))) (fun q => g2 fun z => q (congrArg Int32.toInt (b2i_inj.mpr z)))
theorem g_icmpbne (C : Cx W Z R own code mx ret nm wsx hx0) {o : Int} {x y : Int32} {P P' : Prop} [Decidable P] [Decidable P'] (hd : decode code pc = .ok (.if_icmp .ne o, 3)) (ho : 0 ≤ (pc : Int) + o) (hp1 : ((pc : Int) + o).toNat = pc1) (hp2 : pc + 3 = pc2) (hx : x = b2i P) (hy : y = b2i P') (g1 : ¬ (P ↔ P') → Go W Q h k n pc1 L S) (g2 : (P ↔ P') → Go W Q h k n pc2 L S) : Go W Q h k n pc L (.int y :: .int x :: S) := by
  subst hx hy
  exact g_icmp C hd ho hp1 hp2 rfl rfl (fun q => g1 fun z => q (congrArg Int32.toInt (b2i_inj.mpr z))) (fun q => g2 (b2i_inj.mp (Int32.toInt_inj.mp (Decidable.not_not.mp q))))
theorem isRef_cases {v : Value} (hv : v.isRef = true) (h0 : v ≠ .null) : ∃ b, v = .ref b := by
  rcases ref_cases hv with q | q
  · exact absurd q h0
  · exact q
theorem g_ifnonnull (C : Cx W Z R own code mx ret nm wsx hx0) {o : Int} {v : Value} (hd : decode code pc = .ok (.ifnonnull o, 3)) (ho : 0 ≤ (pc : Int) + o) (hp1 : ((pc : Int) + o).toNat = pc1) (hp2 : pc + 3 = pc2) (hv : v.isRef = true) (g1 : v ≠ .null → Go W Q h k n pc1 L S) (g2 : v = .null → Go W Q h k n pc2 L S) : Go W Q h k n pc L (v :: S) := by
  by_cases q : v = .null
  · have g := g2 q
    subst q hp2
    exact g.st fun T locs X e t kk => XS.ifnonnullNo (g := mkF W.m pc L (.null :: S)) X.here C.x rfl (C.b hd) rfl kk
  · have g := g1 q
    obtain ⟨b, rfl⟩ := isRef_cases hv q
    exact g.st fun T locs X e t kk => XS.ifnonnullYes (g := mkF W.m pc L (.ref b :: S)) X.here C.x rfl rfl (C.b hd) rfl ho hp1 kk
theorem g_ifnull (C : Cx W Z R own code mx ret nm wsx hx0) {o : Int} {v : Value} (hd : decode code pc = .ok (.ifnull o, 3)) (ho : 0 ≤ (pc : Int) + o) (hp1 : ((pc : Int) + o).toNat = pc1) (hp2 : pc + 3 = pc2) (hv : v.isRef = true) (g1 : v = .null → Go W Q h k n pc1 L S) (g2 : v ≠ .null → Go W Q h k n pc2 L S) : Go W Q h k n pc L (v :: S) := by
  by_cases q : v = .null
  · have g := g1 q
    subst q
    exact g.st fun T locs X e t kk => XS.ifnullYes (g := mkF W.m pc L (.null :: S)) X.here C.x rfl rfl (C.b hd) rfl ho hp1 kk
  · have g := g2 q
    obtain ⟨b, rfl⟩ := isRef_cases hv q
    subst hp2
    exact g.st fun T locs X e t kk => XS.ifnullNo (g := mkF W.m pc L (.ref b :: S)) X.here C.x rfl (C.b hd) rfl kk
theorem g_acmpne (C : Cx W Z R own code mx ret nm wsx hx0) {o : Int} {v w : Value} (hd : decode code pc = .ok (.if_acmp .ne o, 3)) (ho : 0 ≤ (pc : Int) + o) (hp1 : ((pc : Int) + o).toNat = pc1) (hp2 : pc + 3 = pc2) (hv : v.isRef = true) (hw : w.isRef = true) (g1 : v ≠ w → Go W Q h k n pc1 L S) (g2 : v = w → Go W Q h k n pc2 L S) : Go W Q h k n pc L (w :: v :: S) := by
  by_cases q : v = w
  · exact (g2 q).st fun T locs X e t kk => Jvm.RoadKit.acmp (g := mkF W.m pc L (w :: v :: S)) X C.x rfl hv hw (same := true) rfl (C.b hd) rfl (decide_eq_true q) ho (by rw [← hp2]; rfl) kk
  · exact (g1 q).st fun T locs X e t kk => Jvm.RoadKit.acmp (g := mkF W.m pc L (w :: v :: S)) X C.x rfl hv hw (same := false) rfl (C.b hd) rfl (decide_eq_false q) ho hp1.symm kk
theorem g_acmpeq (C : Cx W Z R own code mx ret nm wsx hx0) {o : Int} {v w : Value} (hd : decode code pc = .ok (.if_acmp .eq o, 3)) (ho : 0 ≤ (pc : Int) + o) (hp1 : ((pc : Int) + o).toNat = pc1) (hp2 : pc + 3 = pc2) (hv : v.isRef = true) (hw : w.isRef = true) (g1 : v = w → Go W Q h k n pc1 L S) (g2 : v ≠ w → Go W Q h k n pc2 L S) : Go W Q h k n pc L (w :: v :: S) := by
  by_cases q : v = w
  · exact (g1 q).st fun T locs X e t kk => Jvm.RoadKit.acmp (g := mkF W.m pc L (w :: v :: S)) X C.x rfl hv hw (same := true) rfl (C.b hd) rfl (decide_eq_true q) ho hp1.symm kk
  · exact (g2 q).st fun T locs X e t kk => Jvm.RoadKit.acmp (g := mkF W.m pc L (w :: v :: S)) X C.x rfl hv hw (same := false) rfl (C.b hd) rfl (decide_eq_false q) ho (by rw [← hp2]; rfl) kk

/-! fields, objects, arrays -/
theorem g_getL (C : Cx W Z R own code mx ret nm wsx hx0) {i : Nat} {R0 O f d host : String} {a : Addr} {v : Value} (hd : decode code pc = .ok (.getfield i, 3)) (hp : pc + 3 = pc') (w : (Jvm.Cond.fieldLink own i R0 f d).before a0 Z = true ∨ (Jvm.Cond.fieldLinkNest own i R0 f d host).before a0 Z = true) (via : Via Z R0 O f d) (F : Fld Z h a O f d v) (g : Go W Q h k n pc' L (v :: S)) : Go W Q h k n pc L (.ref a :: S) := fun T hT => by
  obtain ⟨locs, X, e, N⟩ := hT
  subst hp
  obtain ⟨T', X', e', st⟩ := getF X C.x C.z C.o w via e F (g := mkF W.m pc L (.ref a :: S)) rfl rfl (C.b hd)
  exact Out.st st (g T' ⟨locs, X', e', N⟩)
theorem g_getO (C : Cx W Z R own code mx ret nm wsx hx0) {i j : Nat} {O f d Cl : String} {a : Addr} {v : Value} {fs : List (String × String × String × Value)} (hd : decode code pc = .ok (.getfield i, 3)) (hp : pc + 3 = pc') (w : (Jvm.Cond.fieldLink own i O f d).before a0 Z = true) (F : Ob Z h a Cl fs) (hj : fs[j]? = some (O, f, d, v)) (g : Go W Q h k n pc' L (v :: S)) : Go W Q h k n pc L (.ref a :: S) :=
  g_getL (host := "") C hd hp (Or.inl w) Via.refl (F.get hj) g
theorem pw_size (C : Cx W Z R own code mx ret nm wsx hx0) {T : State} {locs : List Loc} (X : Sta0 W T locs k n) (e : T.heap = h) : Pw W h.size := by
  have q : W.s.heap.size ≤ T.heap.size := X.same.2.1
  rw [e] at q
  exact Or.inr q
theorem g_putO (C : Cx W Z R own code mx ret nm wsx hx0) {i j kk : Nat} {R0 O f d Cl : String} {ty : FieldType} {a : Addr} {v v' old : Value} {fs fs' : List (String × String × String × Value)} (hd : decode code pc = .ok (.putfield i, 3)) (hp : pc + 3 = pc') (w : (Jvm.Cond.fieldLink own i R0 f d).before a0 Z = true) (via : Via Z R0 O f d) (F : Ob Z h a Cl fs) (hj : fs[j]? = some (O, f, d, old))
    (Lw : (Jvm.Cond.lays Cl O f d).before a0 Z = true ∨ ((Jvm.Cond.laysFinal Cl O f d).before a0 Z = true ∧ own = O ∧ nm = "<init>")) (wi : (Jvm.Cond.instantiable Cl kk).before a0 Z = true) (hty : parseFieldDescriptor d = some ty) (hn : narrow ty v = v') (hf : fits ty v' = true) (hset : fs.set j (O, f, d, v') = fs') (q : Pw W a)
    (g : ∀ h', Ob Z h' a Cl fs' → Keep h h' [a] → Go W Q h' k n pc' L S) : Go W Q h k n pc L (v :: .ref a :: S) := fun T hT => by
  obtain ⟨locs, X, e, N⟩ := hT
  subst hp hset
  obtain ⟨T', h', X', e', Wx, st⟩ := putFN X C.x C.z C.o w via e (F.get hj) F.1 (Lw.imp id fun z => ⟨z.1, z.2.1, C.nme.trans z.2.2⟩) wi hty hn hf (g := mkF W.m pc L (v :: .ref a :: S)) rfl rfl (C.b hd)
  refine Out.st st (g h' (F.put hj Wx) (Keep.of_wr Wx) T' ⟨_, X', e', fun y hy => ?_⟩)
  rcases List.mem_append.mp hy with z | z
  · exact N y z
  · cases List.mem_singleton.mp z; exact q
theorem g_new (C : Cx W Z R own code mx ret nm wsx hx0) {i nn : Nat} {Cl : String} (hd : decode code pc = .ok (.new i, 3)) (hp : pc + 3 = pc') (w : (Jvm.Cond.classLink own i Cl).before a0 Z = true) (wi : (Jvm.Cond.instantiable Cl nn).before a0 Z = true) (wz : (Jvm.Cond.initialized Cl).before a0 Z = true) {k' n' : Nat} (hk : k + 1 = k') (hn : n + nn = n') (hc : k' ≤ R.cells) (hs : n' ≤ R.slots)
    (g : ∀ (h' : Heap) (a : Addr), a = h.size → Ext h h' → Exa Z h' a Cl → (∀ {O f d : String} {ty : FieldType}, Laid Z a0 Cl O f d → parseFieldDescriptor d = some ty → Fld Z h' a O f d (defaultValue ty)) → Pw W a → Go W Q h' k' n' pc' L (.ref a :: S)) : Go W Q h k n pc L S := fun T hT => by
  obtain ⟨locs, X, e, N⟩ := hT
  subst hp hk hn
  obtain ⟨T', h', X', e', E, A, D, -, st⟩ := newO X C.x C.z C.o w wi wz e (g := mkF W.m pc L S) rfl (C.b hd) (by rw [C.r]; exact hc) (by rw [C.r]; exact hs)
  exact Out.st st (g h' h.size rfl E A D (pw_size C X e) T' ⟨locs, X', e', N⟩)
theorem def_list (ty : FieldType) (cA : ClassId) {z : Int32} {len : Nat} (hz : z.toInt = len) : (newA cA ty z).slots.toList = List.replicate len (defaultValue ty) := by
  show (Array.replicate z.toNatClampNeg (defaultValue ty)).toList = _
  rw [clamp_of hz, Array.toList_replicate]
theorem g_newarray (C : Cx W Z R own code mx ret nm wsx hx0) {aty : ArrayType} {ty : FieldType} {z : Int32} {len cap : Nat} (hd : decode code pc = .ok (.newarray aty, 2)) (hp : pc + 2 = pc') (hty : newarray.typeOf aty = ty) (w : (Jvm.Cond.arrayClass ty).before a0 Z = true) (hz : z.toInt = len) (hcap : len ≤ cap) (hb8 : cap * 8 ≤ 536870912) {k' n' : Nat} (hk : k + 1 = k') (hn : n + cap = n') (hc : k' ≤ R.cells) (hs : n' ≤ R.slots)
    (g : ∀ (h' : Heap) (a : Addr), a = h.size → Ext h h' → Ar Z h' a ty (List.replicate len (defaultValue ty)) → Pw W a → Go W Q h' k' n' pc' L (.ref a :: S)) : Go W Q h k n pc L (.int z :: S) := fun T hT => by
  obtain ⟨locs, X, e, N⟩ := hT
  subst hp hty hk hn
  obtain ⟨T', h', cA, X', e', E, A, st⟩ := newP X C.x C.z w e (g := mkF W.m pc L (.int z :: S)) rfl (C.b hd) rfl (nneg_of hz) (cap := cap) (by rw [clamp_of hz]; exact hcap) hb8 (by rw [C.r]; exact hc) (by rw [C.r]; exact hs)
  exact Out.st st (g h' h.size rfl E ⟨_, A, def_list _ _ hz⟩ (pw_size C X e) T' ⟨locs, X', e', N⟩)
theorem g_anewarray (C : Cx W Z R own code mx ret nm wsx hx0) {i : Nat} {Cl : String} {z : Int32} {len cap : Nat} (hd : decode code pc = .ok (.anewarray i, 3)) (hp : pc + 3 = pc') (w : (Jvm.Cond.classLink own i Cl).before a0 Z = true) (w2 : (Jvm.Cond.arrayOver (.object Cl)).before a0 Z = true) (hz : z.toInt = len) (hcap : len ≤ cap) (hb8 : cap * 8 ≤ 536870912) {k' n' : Nat} (hk : k + 1 = k') (hn : n + cap = n') (hc : k' ≤ R.cells) (hs : n' ≤ R.slots)
    (g : ∀ (h' : Heap) (a : Addr), a = h.size → Ext h h' → ArR Z h' a Cl (List.replicate len .null) → Pw W a → Go W Q h' k' n' pc' L (.ref a :: S)) : Go W Q h k n pc L (.int z :: S) := fun T hT => by
  obtain ⟨locs, X, e, N⟩ := hT
  subst hp hk hn
  obtain ⟨T', h', cA, X', e', E, A, O, st⟩ := newR X C.x C.z C.o w w2 e (g := mkF W.m pc L (.int z :: S)) rfl (C.b hd) rfl (nneg_of hz) (cap := cap) (by rw [clamp_of hz]; exact hcap) hb8 (by rw [C.r]; exact hc) (by rw [C.r]; exact hs)
  exact Out.st st (g h' h.size rfl E ⟨_, A, def_list _ _ hz, O⟩ (pw_size C X e) T' ⟨locs, X', e', N⟩)
theorem g_arraylength (C : Cx W Z R own code mx ret nm wsx hx0) {a : Addr} {ty : FieldType} {vs : List Value} {z : Int32} (hd : decode code pc = .ok (.arraylength, 1)) (hp : pc + 1 = pc') (A : Ar Z h a ty vs) (hz : vs.length.toInt32 = z) (g : Go W Q h k n pc' L (.int z :: S)) : Go W Q h k n pc L (.ref a :: S) := by
  subst hp hz
  obtain ⟨c, A, e⟩ := A
  rw [← e, Array.length_toList] at g
  exact g.st fun T locs X eT t kk => X.arraylength C.x (by rw [eT]; exact A.1) (State.isArrayOf_alike C.z.alike A.2.1) (g := mkF W.m pc L (.ref a :: S)) rfl rfl (C.b hd) t kk
theorem g_arraylengthR (C : Cx W Z R own code mx ret nm wsx hx0) {a : Addr} {Cl : String} {vs : List Value} {z : Int32} (hd : decode code pc = .ok (.arraylength, 1)) (hp : pc + 1 = pc') (A : ArR Z h a Cl vs) (hz : vs.length.toInt32 = z) (g : Go W Q h k n pc' L (.int z :: S)) : Go W Q h k n pc L (.ref a :: S) := by
  obtain ⟨c, A, e, -⟩ := A
  exact g_arraylength C hd hp ⟨c, A, e⟩ hz g

theorem g_iaload (C : Cx W Z R own code mx ret nm wsx hx0) {a : Addr} {vs : List Value} {v : Value} {j : Int32} {i : Nat} (hd : decode code pc = .ok (.iaload, 1)) (hp : pc + 1 = pc') (A : Ar Z h a .int vs) (hj : j.toInt = i) (hv : vs[i]? = some v) (g : Go W Q h k n pc' L (v :: S)) : Go W Q h k n pc L (.int j :: .ref a :: S) := by
  subst hp
  obtain ⟨c, A, e⟩ := A
  subst e
  have hi := (List.getElem?_eq_some_iff.mp hv).1
  exact g.st fun T locs X eT t kk => X.iaload C.x (by rw [eT]; exact A.1) (State.isArrayOf_alike C.z.alike A.2.1) A.2.2 (in_of hj hi) (by rw [clamp_of hj, ← Array.getElem?_toList]; exact hv) (g := mkF W.m pc L (.int j :: .ref a :: S)) rfl rfl (C.b hd) t kk
theorem g_laload (C : Cx W Z R own code mx ret nm wsx hx0) {a : Addr} {vs : List Value} {v : Value} {j : Int32} {i : Nat} (hd : decode code pc = .ok (.laload, 1)) (hp : pc + 1 = pc') (A : Ar Z h a .long vs) (hj : j.toInt = i) (hv : vs[i]? = some v) (g : Go W Q h k n pc' L (v :: S)) : Go W Q h k n pc L (.int j :: .ref a :: S) := by
  subst hp
  obtain ⟨c, A, e⟩ := A
  subst e
  have hi := (List.getElem?_eq_some_iff.mp hv).1
  exact g.st fun T locs X eT t kk => X.laload C.x (by rw [eT]; exact A.1) (State.isArrayOf_alike C.z.alike A.2.1) A.2.2 (in_of hj hi) (by rw [clamp_of hj, ← Array.getElem?_toList]; exact hv) (g := mkF W.m pc L (.int j :: .ref a :: S)) rfl rfl (C.b hd) t kk
theorem g_caload (C : Cx W Z R own code mx ret nm wsx hx0) {a : Addr} {vs : List Value} {v : Value} {j : Int32} {i : Nat} (hd : decode code pc = .ok (.caload, 1)) (hp : pc + 1 = pc') (A : Ar Z h a .char vs) (hj : j.toInt = i) (hv : vs[i]? = some v) (g : Go W Q h k n pc' L (v :: S)) : Go W Q h k n pc L (.int j :: .ref a :: S) := by
  subst hp
  obtain ⟨c, A, e⟩ := A
  subst e
  have hi := (List.getElem?_eq_some_iff.mp hv).1
  exact g.st fun T locs X eT t kk => X.caload C.x (by rw [eT]; exact A.1) (State.isArrayOf_alike C.z.alike A.2.1) A.2.2 (in_of hj hi) (by rw [clamp_of hj, ← Array.getElem?_toList]; exact hv) (g := mkF W.m pc L (.int j :: .ref a :: S)) rfl rfl (C.b hd) t kk
theorem g_baload (C : Cx W Z R own code mx ret nm wsx hx0) {a : Addr} {vs : List Value} {v : Value} {j : Int32} {i : Nat} (hd : decode code pc = .ok (.baload, 1)) (hp : pc + 1 = pc') (A : Ar Z h a .byte vs) (hj : j.toInt = i) (hv : vs[i]? = some v) (g : Go W Q h k n pc' L (v :: S)) : Go W Q h k n pc L (.int j :: .ref a :: S) := by
  subst hp
  obtain ⟨c, A, e⟩ := A
  subst e
  have hi := (List.getElem?_eq_some_iff.mp hv).1
  exact g.st fun T locs X eT t kk => X.baloadBytes C.x (by rw [eT]; exact A.1) (State.isArrayOf_alike C.z.alike A.2.1) A.2.2 (in_of hj hi) (by rw [clamp_of hj, ← Array.getElem?_toList]; exact hv) (g := mkF W.m pc L (.int j :: .ref a :: S)) rfl rfl (C.b hd) t kk
theorem g_zaload (C : Cx W Z R own code mx ret nm wsx hx0) {a : Addr} {vs : List Value} {v : Value} {j : Int32} {i : Nat} (hd : decode code pc = .ok (.baload, 1)) (hp : pc + 1 = pc') (A : Ar Z h a .boolean vs) (hj : j.toInt = i) (hv : vs[i]? = some v) (g : Go W Q h k n pc' L (v :: S)) : Go W Q h k n pc L (.int j :: .ref a :: S) := by
  subst hp
  obtain ⟨c, A, e⟩ := A
  subst e
  have hi := (List.getElem?_eq_some_iff.mp hv).1
  exact g.st fun T locs X eT t kk => X.baloadBooleans C.x (by rw [eT]; exact A.1) (State.isArrayOf_alike C.z.alike A.2.1) A.2.2 (in_of hj hi) (by rw [clamp_of hj, ← Array.getElem?_toList]; exact hv) (g := mkF W.m pc L (.int j :: .ref a :: S)) rfl rfl (C.b hd) t kk
theorem g_aaload (C : Cx W Z R own code mx ret nm wsx hx0) {a : Addr} {Cl : String} {vs : List Value} {v : Value} {j : Int32} {i : Nat} (hd : decode code pc = .ok (.aaload, 1)) (hp : pc + 1 = pc') (A : ArR Z h a Cl vs) (hj : j.toInt = i) (hv : vs[i]? = some v) (g : Go W Q h k n pc' L (v :: S)) : Go W Q h k n pc L (.int j :: .ref a :: S) := by
  subst hp
  obtain ⟨c, A, e, -⟩ := A
  subst e
  have hi := (List.getElem?_eq_some_iff.mp hv).1
  exact g.st fun T locs X eT t kk => X.aaload C.x (by rw [eT]; exact A.1) (State.isArrayOf_alike C.z.alike A.2.1) rfl A.2.2 (in_of hj hi) (by rw [clamp_of hj, ← Array.getElem?_toList]; exact hv) (g := mkF W.m pc L (.int j :: .ref a :: S)) rfl rfl (C.b hd) t kk
theorem g_iastore (C : Cx W Z R own code mx ret nm wsx hx0) {a : Addr} {vs vs' : List Value} {x : Int32} {j : Int32} {i : Nat} (hd : decode code pc = .ok (.iastore, 1)) (hp : pc + 1 = pc') (A : Ar Z h a .int vs) (hj : j.toInt = i) (hi : i < vs.length) (hset : vs.set i (.int x) = vs') (q : Pw W a) (g : ∀ h', Ar Z h' a .int vs' → Keep h h' [a] → Go W Q h' k n pc' L S) : Go W Q h k n pc L (.int x :: .int j :: .ref a :: S) := fun T hT => by
  obtain ⟨locs, X, e, N⟩ := hT
  subst hp hset
  obtain ⟨c, A, ec⟩ := A
  obtain ⟨T', h', X', e', Wx, st⟩ := stI X C.x C.z e A (in_of hj (ec ▸ hi)) (g := mkF W.m pc L (.int x :: .int j :: .ref a :: S)) rfl rfl (C.b hd)
  refine Out.st st (g h' (Ar.put A ec hj Wx) (Keep.of_wr Wx) T' ⟨_, X', e', fun y hy => ?_⟩)
  rcases List.mem_append.mp hy with z | z
  · exact N y z
  · cases List.mem_singleton.mp z; exact q
theorem g_lastore (C : Cx W Z R own code mx ret nm wsx hx0) {a : Addr} {vs vs' : List Value} {x : Int64} {j : Int32} {i : Nat} (hd : decode code pc = .ok (.lastore, 1)) (hp : pc + 1 = pc') (A : Ar Z h a .long vs) (hj : j.toInt = i) (hi : i < vs.length) (hset : vs.set i (.long x) = vs') (q : Pw W a) (g : ∀ h', Ar Z h' a .long vs' → Keep h h' [a] → Go W Q h' k n pc' L S) : Go W Q h k n pc L (.long x :: .int j :: .ref a :: S) := fun T hT => by
  obtain ⟨locs, X, e, N⟩ := hT
  subst hp hset
  obtain ⟨c, A, ec⟩ := A
  obtain ⟨T', h', X', e', Wx, st⟩ := stJ X C.x C.z e A (in_of hj (ec ▸ hi)) (g := mkF W.m pc L (.long x :: .int j :: .ref a :: S)) rfl rfl (C.b hd)
  refine Out.st st (g h' (Ar.put A ec hj Wx) (Keep.of_wr Wx) T' ⟨_, X', e', fun y hy => ?_⟩)
  rcases List.mem_append.mp hy with z | z
  · exact N y z
  · cases List.mem_singleton.mp z; exact q
theorem g_castore (C : Cx W Z R own code mx ret nm wsx hx0) {a : Addr} {vs vs' : List Value} {x : Int32} {j : Int32} {i : Nat} (hd : decode code pc = .ok (.castore, 1)) (hp : pc + 1 = pc') (A : Ar Z h a .char vs) (hj : j.toInt = i) (hi : i < vs.length) (hset : vs.set i (.int (nar .char x)) = vs') (q : Pw W a) (g : ∀ h', Ar Z h' a .char vs' → Keep h h' [a] → Go W Q h' k n pc' L S) : Go W Q h k n pc L (.int x :: .int j :: .ref a :: S) := fun T hT => by
  obtain ⟨locs, X, e, N⟩ := hT
  subst hp hset
  obtain ⟨c, A, ec⟩ := A
  obtain ⟨T', h', X', e', Wx, st⟩ := stC X C.x C.z e A (in_of hj (ec ▸ hi)) (g := mkF W.m pc L (.int x :: .int j :: .ref a :: S)) rfl rfl (C.b hd)
  refine Out.st st (g h' (Ar.put A ec hj Wx) (Keep.of_wr Wx) T' ⟨_, X', e', fun y hy => ?_⟩)
  rcases List.mem_append.mp hy with z | z
  · exact N y z
  · cases List.mem_singleton.mp z; exact q
theorem g_bastore (C : Cx W Z R own code mx ret nm wsx hx0) {a : Addr} {vs vs' : List Value} {x : Int32} {j : Int32} {i : Nat} (hd : decode code pc = .ok (.bastore, 1)) (hp : pc + 1 = pc') (A : Ar Z h a .byte vs) (hj : j.toInt = i) (hi : i < vs.length) (hset : vs.set i (.int (nar .byte x)) = vs') (q : Pw W a) (g : ∀ h', Ar Z h' a .byte vs' → Keep h h' [a] → Go W Q h' k n pc' L S) : Go W Q h k n pc L (.int x :: .int j :: .ref a :: S) := fun T hT => by
  obtain ⟨locs, X, e, N⟩ := hT
  subst hp hset
  obtain ⟨c, A, ec⟩ := A
  obtain ⟨T', h', X', e', Wx, st⟩ := stB X C.x C.z e A (in_of hj (ec ▸ hi)) (g := mkF W.m pc L (.int x :: .int j :: .ref a :: S)) rfl rfl (C.b hd)
  refine Out.st st (g h' (Ar.put A ec hj Wx) (Keep.of_wr Wx) T' ⟨_, X', e', fun y hy => ?_⟩)
  rcases List.mem_append.mp hy with z | z
  · exact N y z
  · cases List.mem_singleton.mp z; exact q
theorem g_zastore (C : Cx W Z R own code mx ret nm wsx hx0) {a : Addr} {vs vs' : List Value} {x : Int32} {j : Int32} {i : Nat} (hd : decode code pc = .ok (.bastore, 1)) (hp : pc + 1 = pc') (A : Ar Z h a .boolean vs) (hj : j.toInt = i) (hi : i < vs.length) (hset : vs.set i (.int (nar .boolean x)) = vs') (q : Pw W a) (g : ∀ h', Ar Z h' a .boolean vs' → Keep h h' [a] → Go W Q h' k n pc' L S) : Go W Q h k n pc L (.int x :: .int j :: .ref a :: S) := fun T hT => by
  obtain ⟨locs, X, e, N⟩ := hT
  subst hp hset
  obtain ⟨c, A, ec⟩ := A
  obtain ⟨T', h', X', e', Wx, st⟩ := stZ X C.x C.z e A (in_of hj (ec ▸ hi)) (g := mkF W.m pc L (.int x :: .int j :: .ref a :: S)) rfl rfl (C.b hd)
  refine Out.st st (g h' (Ar.put A ec hj Wx) (Keep.of_wr Wx) T' ⟨_, X', e', fun y hy => ?_⟩)
  rcases List.mem_append.mp hy with z | z
  · exact N y z
  · cases List.mem_singleton.mp z; exact q
theorem ArR.put {Z : State} {h h' : Heap} {a : Addr} {Cl : String} {vs : List Value} {v : Value} {c : Cell} (A : Arr Z h a c (.object Cl)) (e : c.slots.toList = vs) (O : Ovr Z c.cls Cl) {j : Int32} {i : Nat} (hj : j.toInt = i) (W : Wr h h' a j.toNatClampNeg v) : ArR Z h' a Cl (vs.set i v) := by
  refine ⟨_, A.same W, ?_, O⟩
  rw [clamp_of hj, set_toList, e]
theorem g_aastore (C : Cx W Z R own code mx ret nm wsx hx0) {a : Addr} {Cl : String} {vs vs' : List Value} {v : Value} {j : Int32} {i : Nat} (hd : decode code pc = .ok (.aastore, 1)) (hp : pc + 1 = pc') (A : ArR Z h a Cl vs) (hj : j.toInt = i) (hi : i < vs.length) (hset : vs.set i v = vs') (hv : v = .null ∨ ∃ y, v = .ref y ∧ Exa Z h y Cl) (q : Pw W a) (g : ∀ h', ArR Z h' a Cl vs' → Keep h h' [a] → Go W Q h' k n pc' L S) : Go W Q h k n pc L (v :: .int j :: .ref a :: S) := fun T hT => by
  obtain ⟨locs, X, e, N⟩ := hT
  subst hp hset
  obtain ⟨c, A, ec, O⟩ := A
  have F : Sto Z h a v := by
    rcases hv with rfl | ⟨y, rfl, E⟩
    · exact Or.inl rfl
    · exact Sto.of A O (Ins.self E)
  obtain ⟨T', h', X', e', Wx, st⟩ := stR X C.x C.z e A (in_of hj (ec ▸ hi)) rfl F (g := mkF W.m pc L (v :: .int j :: .ref a :: S)) rfl rfl (C.b hd)
  refine Out.st st (g h' (ArR.put A ec O hj Wx) (Keep.of_wr Wx) T' ⟨_, X', e', fun y hy => ?_⟩)
  rcases List.mem_append.mp hy with z | z
  · exact N y z
  · cases List.mem_singleton.mp z; exact q
/-! returns -/
theorem g_end (C : Cx W Z R own code mx ret nm wsx hx0) {v : Option Value} (hv : ret = none → v = none) (hc : k ≤ R.cells) (hs : n ≤ R.slots) (q : Q v h)
    (st : ∀ T locs, Sta0 W T locs k n → ∀ fs, (∀ (f : JFrame) (acts : List Action), f.method = W.m → f.locked = none → f.entered = [] → (doReturn W.e (T.setTop f) acts v).1 = T.setFrames fs) → Stp W (T.setTop (mkF W.m pc L S)) (T.setFrames fs)) : Go W Q h k n pc L S := fun T hT => by
  obtain ⟨locs, X, e, N⟩ := hT
  obtain ⟨fs, hr, hrun, hended, hW, hsame⟩ := X.leave (v := v) (fun z => hv (C.rt ▸ z)) C.lk
  refine ⟨_, _, st T locs X fs hr, hrun, hended, v, locs, rfl, ⟨?_, N⟩, ⟨_, rfl⟩, hW, hsame.mono (by rw [C.r]; exact hc) (by rw [C.r]; exact hs)⟩
  show Q v T.heap
  rw [e]; exact q
theorem g_return (C : Cx W Z R own code mx none nm wsx hx0) (hd : decode code pc = .ok (.return_, 1)) (hc : k ≤ R.cells) (hs : n ≤ R.slots) (q : Q none h) : Go W Q h k n pc L [] :=
  g_end C (fun _ => rfl) hc hs q fun T locs X fs hr => X.returnOut C.x C.rt (C.b hd) hr
theorem g_retN {ty0 : FieldType} (C : Cx W Z R own code mx (some ty0) nm wsx hx0) {z : Int32} (ht : ty0 = .boolean ∨ ty0 = .byte ∨ ty0 = .char ∨ ty0 = .short) (hd : decode code pc = .ok (.ireturn, 1)) (hc : k ≤ R.cells) (hs : n ≤ R.slots) (q : Q (some (.int (nar ty0 z))) h) : Go W Q h k n pc L (.int z :: S) :=
  g_end C nofun hc hs q fun T locs X fs hr => retN X C.x C.rt ht (C.b hd) hr
theorem g_retI (C : Cx W Z R own code mx (some .int) nm wsx hx0) {z : Int32} (hd : decode code pc = .ok (.ireturn, 1)) (hc : k ≤ R.cells) (hs : n ≤ R.slots) (q : Q (some (.int z)) h) : Go W Q h k n pc L (.int z :: S) :=
  g_end C nofun hc hs q fun T locs X fs hr => retOut X C.x C.rt rfl (Or.inl ⟨rfl, Or.inl rfl, z, rfl⟩) (C.b hd) hr
theorem g_retL (C : Cx W Z R own code mx (some .long) nm wsx hx0) {z : Int64} (hd : decode code pc = .ok (.lreturn, 1)) (hc : k ≤ R.cells) (hs : n ≤ R.slots) (q : Q (some (.long z)) h) : Go W Q h k n pc L (.long z :: S) :=
  g_end C nofun hc hs q fun T locs X fs hr => retOut X C.x C.rt rfl (Or.inr (Or.inl ⟨rfl, rfl, z, rfl⟩)) (C.b hd) hr
theorem g_retA {ty0 : FieldType} (C : Cx W Z R own code mx (some ty0) nm wsx hx0) {v : Value} (ht : ty0.isReference = true) (hn : narrow ty0 v = v) (hv : v.isRef = true) (hd : decode code pc = .ok (.areturn, 1)) (hc : k ≤ R.cells) (hs : n ≤ R.slots) (q : Q (some v) h) : Go W Q h k n pc L (v :: S) :=
  g_end C nofun hc hs q fun T locs X fs hr => retOut X C.x C.rt hn (Or.inr (Or.inr (Or.inr (Or.inr ⟨rfl, ht, hv⟩)))) (C.b hd) hr
/-! calls -/
theorem g_initO (C : Cx W Z R own code mx ret nm wsx hx0) {i : Nat} {a : Addr} (hd : decode code pc = .ok (.invokespecial i, 3)) (hp : pc + 3 = pc') (w1 : (Jvm.Cond.methodLink own i Lib.objectInit).before a0 Z = true) (w2 : (Jvm.Cond.instanceMethod Lib.objectInit).before a0 Z = true) (w3 : (Jvm.Cond.code Lib.objectInit Jvm.Pilot.@@N@@.object_method_1_code 1 none).before a0 Z = true) (hL : L.size = mx) (hf : 1 ≤ R.frames) (hl : (S.map fun v => v.category).sum + 12 ≤ R.locals) (g : Go W Q h k n pc' L S) : Go W Q h k n pc L (.ref a :: S) := fun T hT => by
  obtain ⟨locs, X, e, N⟩ := hT
  subst hp
  obtain ⟨T', X', e', st⟩ := initO X C.x C.z C.o w1 w2 w3 e (g := mkF W.m pc L (.ref a :: S)) rfl (by rw [C.ml]; exact hL) rfl (C.b hd) (by rw [C.r]; exact hf) (W := (S.map fun v => v.category).sum) (by show 2 * 0 + _ ≤ _; omega) (by rw [C.r]; exact hl)
  exact Out.st st (g T' ⟨locs, X', e', N⟩)
theorem post_call {T T' : State} {locs L' : List Loc} {k' n' : Nat} {ws : List Addr} (X : Sta0 W T locs k n) (e : T.heap = h) (N : ∀ y ∈ locs, Pw W y.base) (hws : ∀ a ∈ ws, Pw W a) (hL : ∀ y ∈ L', y.base ∈ ws ∨ h.size ≤ y.base) : ∀ y ∈ locs ++ L', Pw W y.base := fun y hy => by
  rcases List.mem_append.mp hy with z | z
  · exact N y z
  · rcases hL y z with q | q
    · exact hws _ q
    · have r : W.s.heap.size ≤ T.heap.size := X.same.2.1
      rw [e] at r
      exact Or.inr (Nat.le_trans r q)
/-- the contract, with what it keeps -/
theorem Con.keeps {l : Launch} {w0 : List Jvm.Cond} {y : MethodName} {bytes : ByteArray} {ret' : Option FieldType} {rm : Room} {as : Array Value} {ws : List Addr} {Q' : Option Value → Heap → Prop} {mx' : Nat} (M : Con l Z w0 y bytes mx' ret' rm as h ws Q') :
    MetFree l y (head1 (Jvm.Cond.code y bytes mx' ret' :: w0) rm) (fun a U => a = as ∧ Z.Warmed39 U.vm ∧ U.heap = h) (fun _ _ _ _ _ => True)
      (fun _ U o U' => ∃ v L, o = .returned v ∧ (Q' v U'.heap ∧ (∀ y ∈ L, y.base ∈ ws ∨ h.size ≤ y.base) ∧ Keep h U'.heap ws) ∧ FrameEnd U o U' L rm.cells rm.slots) := by
  intro p e ha hc hk s m args below hf happ hP hK
  obtain ⟨nn, o, h1, h2, h3, v, L, rfl, ⟨hq, hL⟩, hF⟩ := M p e ha hc hk s m args below hf happ hP hK
  refine ⟨nn, _, h1, h2, h3, v, L, rfl, ⟨hq, hL, ?_⟩, hF⟩
  obtain ⟨rfl, -, rfl⟩ := hP
  have K := keep_of_same hF.2.2 hL
  exact K
theorem g_static (C : Cx W Z R own code mx ret nm wsx hx0) {i : Nat} {y : MethodName} {bytes : ByteArray} {mx' : Nat} {ret' : Option FieldType} {rm : Room} {as : List Value} {ws : List Addr} {Q' : Option Value → Heap → Prop} {S0 : List Value} (hd : decode code pc = .ok (.invokestatic i, 3)) (hp : pc + 3 = pc')
    (w1 : (Jvm.Cond.methodLink own i y).before a0 Z = true) (w2 : (Jvm.Cond.static y).before a0 Z = true) (w3 : (Jvm.Cond.initialized y.cls).before a0 Z = true) (w4 : (Jvm.Cond.code y bytes mx' ret').before a0 Z = true) (hy : y.cls ≠ "java/lang/invoke/MethodHandle" ∧ y.cls ≠ "java/lang/invoke/VarHandle")
    (hlen : ∀ sig, parseMethodDescriptor y.desc = some sig → as.length = sig.parameters.length) (M : Con W.l Z [] y bytes mx' ret' rm as.toArray h ws Q') (hS : S0 = as.reverse ++ S) (hL : L.size = mx) (hf : rm.frames + 1 ≤ R.frames) (hl : (S.map fun v => v.category).sum + (mx' + 11) + rm.locals ≤ R.locals) {k' n' : Nat} (hk : k + rm.cells = k') (hn : n + rm.slots = n') (hc : k' ≤ R.cells) (hs : n' ≤ R.slots) (hws : ∀ a ∈ ws, Pw W a)
    (g : ∀ v h', Q' v h' → Keep h h' ws → Go W Q h' k' n' pc' L (v.toList ++ S)) : Go W Q h k n pc L S0 := fun T hT => by
  obtain ⟨locs, X, e, N⟩ := hT
  subst hp hS hk hn
  obtain ⟨v, _, ⟨T', L1, k1, n1⟩, -, X', ⟨L2, ⟨hQ, hL2, hK⟩, l1, y1, z1⟩, st⟩ := Jvm.LawKit.callS X C.x (y := y) C.o (mvT C.z w1) (mvT C.z w2) (mvT C.z w3) (mvT C.z w4) hy (backOf (R := W.R) (W := (S.map fun v => v.category).sum) (Q := fun v h' L => Q' v h' ∧ (∀ y ∈ L, y.base ∈ ws ∨ h.size ≤ y.base) ∧ Keep h h' ws) M.keeps C.z w4 w3 (by rw [C.r]; exact hf) (by rw [C.r]; exact hl)) (g := mkF W.m pc L (as.reverse ++ S)) rfl (by rw [C.ml]; exact hL) (argsL := as) (rest := S) hlen rfl (by show 2 * 0 + _ ≤ _; omega) (C.b hd) (fun _ _ => ⟨rfl, e, by rw [C.r]; exact hc, by rw [C.r]; exact hs⟩)
  dsimp only [Pt.U, Pt.locs, Pt.cells, Pt.slots] at X' l1 y1 z1 st hQ hK
  subst l1 y1 z1
  exact Out.st st (g v T'.heap hQ hK T' ⟨_, X', rfl, post_call (T' := T') (k' := 0) (n' := 0) X e N hws hL2⟩)
theorem g_special (C : Cx W Z R own code mx ret nm wsx hx0) {i : Nat} {y : MethodName} {bytes : ByteArray} {mx' : Nat} {rm : Room} {as : List Value} {ws : List Addr} {Q' : Option Value → Heap → Prop} {S0 : List Value} {a : Addr} (hd : decode code pc = .ok (.invokespecial i, 3)) (hp : pc + 3 = pc') (hy1 : y.name = "<init>")
    (w1 : (Jvm.Cond.methodLink own i y).before a0 Z = true) (w2 : (Jvm.Cond.instanceMethod y).before a0 Z = true) (w3 : (Jvm.Cond.initialized y.cls).before a0 Z = true) (w4 : (Jvm.Cond.code y bytes mx' none).before a0 Z = true) (hy : y.cls ≠ "java/lang/invoke/MethodHandle" ∧ y.cls ≠ "java/lang/invoke/VarHandle")
    (hlen : ∀ sig, parseMethodDescriptor y.desc = some sig → as.length = sig.parameters.length) (M : Con W.l Z [] y bytes mx' none rm (.ref a :: as).toArray h ws Q') (hS : S0 = as.reverse ++ .ref a :: S) (hL : L.size = mx) (hf : rm.frames + 1 ≤ R.frames) (hl : (S.map fun v => v.category).sum + (mx' + 11) + rm.locals ≤ R.locals) {k' n' : Nat} (hk : k + rm.cells = k') (hn : n + rm.slots = n') (hc : k' ≤ R.cells) (hs : n' ≤ R.slots) (hws : ∀ a ∈ ws, Pw W a)
    (g : ∀ v h', Q' v h' → Keep h h' ws → Go W Q h' k' n' pc' L (v.toList ++ S)) : Go W Q h k n pc L S0 := fun T hT => by
  obtain ⟨locs, X, e, N⟩ := hT
  subst hp hS hk hn
  obtain ⟨v, _, ⟨T', L1, k1, n1⟩, -, X', ⟨L2, ⟨hQ, hL2, hK⟩, l1, y1, z1⟩, st⟩ := X.specialBack C.x (y := y) hy1 C.o (mvT C.z w1) (mvT C.z w2) (mvT C.z w4) hy (backOf (R := W.R) (W := (S.map fun v => v.category).sum) (Q := fun v h' L => Q' v h' ∧ (∀ y ∈ L, y.base ∈ ws ∨ h.size ≤ y.base) ∧ Keep h h' ws) M.keeps C.z w4 w3 (by rw [C.r]; exact hf) (by rw [C.r]; exact hl)) (g := mkF W.m pc L (as.reverse ++ .ref a :: S)) rfl (by rw [C.ml]; exact hL) (Steps.refl _) (a := a) (argsL := as) (rest := S) hlen rfl (by show 2 * 0 + _ ≤ _; omega) (C.b hd) (fun _ _ => ⟨rfl, e, by rw [C.r]; exact hc, by rw [C.r]; exact hs⟩)
  dsimp only [Pt.U, Pt.locs, Pt.cells, Pt.slots] at X' l1 y1 z1 st hQ hK
  subst l1 y1 z1
  exact Out.st (fun t z => st.trans z) (g v T'.heap hQ hK T' ⟨_, X', rfl, post_call (T' := T') (k' := 0) (n' := 0) X e N hws hL2⟩)
theorem g_virtual (C : Cx W Z R own code mx ret nm wsx hx0) {i : Nat} {y : MethodName} {bytes : ByteArray} {mx' : Nat} {ret' : Option FieldType} {rm : Room} {as : List Value} {ws : List Addr} {Q' : Option Value → Heap → Prop} {S0 : List Value} {a : Addr} {Cl : String} (hd : decode code pc = .ok (.invokevirtual i, 3)) (hp : pc + 3 = pc')
    (w1 : (Jvm.Cond.methodLink own i y).before a0 Z = true) (w2 : (Jvm.Cond.instanceMethod y).before a0 Z = true) (w3 : (Jvm.Cond.initialized y.cls).before a0 Z = true) (w4 : (Jvm.Cond.code y bytes mx' ret').before a0 Z = true) (w5 : (Jvm.Cond.declares y).before a0 Z = true) (w6 : (Jvm.Cond.selects Cl y y).before a0 Z = true) (hy : y.cls ≠ "java/lang/invoke/MethodHandle" ∧ y.cls ≠ "java/lang/invoke/VarHandle") (hE : Exa Z h a Cl)
    (hlen : ∀ sig, parseMethodDescriptor y.desc = some sig → as.length = sig.parameters.length) (M : Con W.l Z [] y bytes mx' ret' rm (.ref a :: as).toArray h ws Q') (hS : S0 = as.reverse ++ .ref a :: S) (hL : L.size = mx) (hf : rm.frames + 1 ≤ R.frames) (hl : (S.map fun v => v.category).sum + (mx' + 11) + rm.locals ≤ R.locals) {k' n' : Nat} (hk : k + rm.cells = k') (hn : n + rm.slots = n') (hc : k' ≤ R.cells) (hs : n' ≤ R.slots) (hws : ∀ a ∈ ws, Pw W a)
    (g : ∀ v h', Q' v h' → Keep h h' ws → Go W Q h' k' n' pc' L (v.toList ++ S)) : Go W Q h k n pc L S0 := fun T hT => by
  obtain ⟨locs, X, e, N⟩ := hT
  subst hp hS hk hn
  obtain ⟨cq, kq, qa, qb, qc⟩ := isOf C.z e hE
  obtain ⟨v, _, ⟨T', L1, k1, n1⟩, -, X', ⟨L2, ⟨hQ, hL2, hK⟩, l1, y1, z1⟩, st⟩ := X.virtualBack C.x (y := y) (z := y) C.o (mvT C.z w1) (mvT C.z w5) (notFace_of_selects (args := #[]) (mvT C.z w6)) (mvT C.z w6) (mvT C.z w2) hy (backOf (R := W.R) (W := (S.map fun v => v.category).sum) (Q := fun v h' L => Q' v h' ∧ (∀ y ∈ L, y.base ∈ ws ∨ h.size ≤ y.base) ∧ Keep h h' ws) M.keeps C.z w4 w3 (by rw [C.r]; exact hf) (by rw [C.r]; exact hl)) qa qc (g := mkF W.m pc L (as.reverse ++ .ref a :: S)) rfl (by rw [C.ml]; exact hL) (Steps.refl _) (argsL := as) (rest := S) hlen rfl (by show 2 * 0 + _ ≤ _; omega) (C.b hd) (fun _ _ => ⟨rfl, e, by rw [C.r]; exact hc, by rw [C.r]; exact hs⟩)
  dsimp only [Pt.U, Pt.locs, Pt.cells, Pt.slots] at X' l1 y1 z1 st hQ hK
  subst l1 y1 z1
  exact Out.st (fun t z => st.trans z) (g v T'.heap hQ hK T' ⟨_, X', rfl, post_call (T' := T') (k' := 0) (n' := 0) X e N hws hL2⟩)
theorem g_staticP (C : Cx W Z R own code mx ret nm wsx hx0) {i : Nat} {y : MethodName} {bytes : ByteArray} {mx' : Nat} {ret' : Option FieldType} {rm : Room} {as : List Value} {r : Option Value} {S0 S1 : List Value} (hd : decode code pc = .ok (.invokestatic i, 3)) (hp : pc + 3 = pc')
    (w1 : (Jvm.Cond.methodLink own i y).before a0 Z = true) (w2 : (Jvm.Cond.static y).before a0 Z = true) (w3 : (Jvm.Cond.initialized y.cls).before a0 Z = true) (w4 : (Jvm.Cond.code y bytes mx' ret').before a0 Z = true) (hy : y.cls ≠ "java/lang/invoke/MethodHandle" ∧ y.cls ≠ "java/lang/invoke/VarHandle")
    (hlen : ∀ sig, parseMethodDescriptor y.desc = some sig → as.length = sig.parameters.length) (M : Con W.l Z [] y bytes mx' ret' rm as.toArray h [] (fun v h' => v = r ∧ h' = h)) (hS : S0 = as.reverse ++ S) (hL : L.size = mx) (hf : rm.frames + 1 ≤ R.frames) (hl : (S.map fun v => v.category).sum + (mx' + 11) + rm.locals ≤ R.locals) {k' n' : Nat} (hk : k + rm.cells = k') (hn : n + rm.slots = n') (hc : k' ≤ R.cells) (hs : n' ≤ R.slots) (hS1 : r.toList ++ S = S1)
    (g : Go W Q h k' n' pc' L S1) : Go W Q h k n pc L S0 :=
  g_static C hd hp w1 w2 w3 w4 hy hlen M hS hL hf hl hk hn hc hs all0 fun v h' q K => by
    obtain ⟨rfl, rfl⟩ := q
    rw [hS1]; exact g
theorem g_virtualP (C : Cx W Z R own code mx ret nm wsx hx0) {i : Nat} {y : MethodName} {bytes : ByteArray} {mx' : Nat} {ret' : Option FieldType} {rm : Room} {as : List Value} {r : Option Value} {S0 S1 : List Value} {a : Addr} {Cl : String} (hd : decode code pc = .ok (.invokevirtual i, 3)) (hp : pc + 3 = pc')
    (w1 : (Jvm.Cond.methodLink own i y).before a0 Z = true) (w2 : (Jvm.Cond.instanceMethod y).before a0 Z = true) (w3 : (Jvm.Cond.initialized y.cls).before a0 Z = true) (w4 : (Jvm.Cond.code y bytes mx' ret').before a0 Z = true) (w5 : (Jvm.Cond.declares y).before a0 Z = true) (w6 : (Jvm.Cond.selects Cl y y).before a0 Z = true) (hy : y.cls ≠ "java/lang/invoke/MethodHandle" ∧ y.cls ≠ "java/lang/invoke/VarHandle") (hE : Exa Z h a Cl)
    (hlen : ∀ sig, parseMethodDescriptor y.desc = some sig → as.length = sig.parameters.length) (M : Con W.l Z [] y bytes mx' ret' rm (.ref a :: as).toArray h [] (fun v h' => v = r ∧ h' = h)) (hS : S0 = as.reverse ++ .ref a :: S) (hL : L.size = mx) (hf : rm.frames + 1 ≤ R.frames) (hl : (S.map fun v => v.category).sum + (mx' + 11) + rm.locals ≤ R.locals) {k' n' : Nat} (hk : k + rm.cells = k') (hn : n + rm.slots = n') (hc : k' ≤ R.cells) (hs : n' ≤ R.slots) (hS1 : r.toList ++ S = S1)
    (g : Go W Q h k' n' pc' L S1) : Go W Q h k n pc L S0 :=
  g_virtual C hd hp w1 w2 w3 w4 w5 w6 hy hE hlen M hS hL hf hl hk hn hc hs all0 fun v h' q K => by
    obtain ⟨rfl, rfl⟩ := q
    rw [hS1]; exact g
theorem g_nameI {x : Int32} (g : ∀ z : Int32, z = x → Go W Q h k n pc L (.int z :: S)) : Go W Q h k n pc L (.int x :: S) := g x rfl
theorem g_nameJ {x : Int64} (g : ∀ z : Int64, z = x → Go W Q h k n pc L (.long z :: S)) : Go W Q h k n pc L (.long x :: S) := g x rfl
/-! a body's contract out of its walk -/
theorem locals_of {as : List Value} {mx0 : Nat} {Ls : List Slot} (h : (as.flatMap fun v => if v.category = 2 then [.val v, .second] else [.val v]) ++ List.replicate (mx0 - (as.flatMap fun v => if v.category = 2 then [.val v, .second] else [Slot.val v]).length) .unset = Ls) : argsToLocals as.toArray mx0 = Ls.toArray := by
  have e : ∀ (l : List Value) (acc : Array Slot), (l.foldl (fun acc v => if v.category = 2 then (acc.push (.val v)).push .second else acc.push (.val v)) acc) = acc ++ (l.flatMap fun v => if v.category = 2 then [.val v, .second] else [Slot.val v]).toArray := by
    intro l
    induction l with
    | nil => intro acc; simp
    | cons v l ih =>
      intro acc
      rw [List.foldl_cons, ih, List.flatMap_cons]
      split <;> simp
  subst h
  simp only [argsToLocals, List.foldl_toArray', e]
  simp
theorem Con.of_go {l : Launch} {w0 : List Jvm.Cond} {y : MethodName} {bytes : ByteArray} {ret' : Option FieldType} {rm : Room} {as : Array Value} {ws : List Addr} {Q' : Option Value → Heap → Prop} {mx' : Nat} {L0 : Array Slot} (hpl : plainFor y = true) (hL : argsToLocals as mx' = L0)
    (body : ∀ (W : Wk) (Q : Option Value → Heap → Prop), Q = Q' → W.l = l → Cx W Z rm y.cls bytes mx' ret' y.name ws h → Go W Q h 0 0 0 L0 []) : Con l Z w0 y bytes mx' ret' rm as h ws Q' := by
  refine MetFree.of_bodySF hpl hisR ?_
  intro p e s m args below meth c s₁ Bd hml0 hP hK
  obtain ⟨rfl, hZ, rfl⟩ := hP
  subst hL
  have X0 : Stand p l e rm s m args below meth c s₁ [] 0 0 := Stand.of_body Bd
  have e0 : s₁.heap = s.heap := by rw [Bd.state]; rfl
  obtain ⟨s2, o, h1, h2, h3, v, L, h4, ⟨h5, h6⟩, h7⟩ := body (p, l, e, rm, s, m, args, below, meth, c, ws) _ rfl rfl ⟨Bd.exec, hZ, findClass_of_methodNamed Bd.named, Bd.bytes, hml0, Bd.returns, Bd.notSynchronized, (name_of_methodNamed Bd.named Bd.method).1, rfl, rfl, rfl⟩ s₁ ⟨[], X0, e0, fun _ q => nomatch q⟩
  exact ⟨s2, o, h1, h2, h3, v, L, h4, ⟨h5, h6⟩, h7⟩
end Steps0
end Jvm.OwnKit
namespace Jvm.Pilot.@@N@@
open Jvm Jvm.ClassFile Sem Op Lib Jvm.Free Jvm.Stand Jvm.LawKit Jvm.RoadKit Jvm.OwnKit Bundle Jvm.Pilot.@@N@@.Jvm.D
theorem pd_0 : parseMethodDescriptor "([JJ)V" = some ⟨[(.array .long), .long], none⟩ := by decide +kernel
theorem pd_1 : parseMethodDescriptor "(I)Z" = some ⟨[.int], some .boolean⟩ := by decide +kernel
theorem pd_2 : parseMethodDescriptor "(I)V" = some ⟨[.int], none⟩ := by decide +kernel
theorem d1_0 : decode prog_6_method_1_code 0 = .ok (.aload_n 0, 1) := by decide +kernel
theorem d1_1 : decode prog_6_method_1_code 1 = .ok (.invokespecial 1, 3) := by decide +kernel
theorem d1_4 : decode prog_6_method_1_code 4 = .ok (.aload_n 0, 1) := by decide +kernel
theorem d1_5 : decode prog_6_method_1_code 5 = .ok (.bipush 16, 2) := by decide +kernel
theorem d1_7 : decode prog_6_method_1_code 7 = .ok (.newarray .int, 2) := by decide +kernel
theorem d1_9 : decode prog_6_method_1_code 9 = .ok (.putfield 9, 3) := by decide +kernel
theorem d1_12 : decode prog_6_method_1_code 12 = .ok (.aload_n 0, 1) := by decide +kernel
theorem d1_13 : decode prog_6_method_1_code 13 = .ok (.aload_n 1, 1) := by decide +kernel
theorem d1_14 : decode prog_6_method_1_code 14 = .ok (.putfield 13, 3) := by decide +kernel
theorem d1_17 : decode prog_6_method_1_code 17 = .ok (.aload_n 0, 1) := by decide +kernel
theorem d1_18 : decode prog_6_method_1_code 18 = .ok (.aload_n 1, 1) := by decide +kernel
theorem d1_19 : decode prog_6_method_1_code 19 = .ok (.arraylength, 1) := by decide +kernel
theorem d1_20 : decode prog_6_method_1_code 20 = .ok (.newarray .boolean, 2) := by decide +kernel
theorem d1_22 : decode prog_6_method_1_code 22 = .ok (.putfield 17, 3) := by decide +kernel
theorem d1_25 : decode prog_6_method_1_code 25 = .ok (.aload_n 0, 1) := by decide +kernel
theorem d1_26 : decode prog_6_method_1_code 26 = .ok (.lload_n 2, 1) := by decide +kernel
theorem d1_27 : decode prog_6_method_1_code 27 = .ok (.putfield 21, 3) := by decide +kernel
theorem d1_30 : decode prog_6_method_1_code 30 = .ok (.return_, 1) := by decide +kernel
theorem d3_0 : decode prog_6_method_2_code 0 = .ok (.aload_n 0, 1) := by decide +kernel
theorem d3_1 : decode prog_6_method_2_code 1 = .ok (.getfield 17, 3) := by decide +kernel
theorem d3_4 : decode prog_6_method_2_code 4 = .ok (.iload_n 1, 1) := by decide +kernel
theorem d3_5 : decode prog_6_method_2_code 5 = .ok (.baload, 1) := by decide +kernel
theorem d3_6 : decode prog_6_method_2_code 6 = .ok (.ifCond .ne 21, 3) := by decide +kernel
theorem d3_9 : decode prog_6_method_2_code 9 = .ok (.aload_n 0, 1) := by decide +kernel
theorem d3_10 : decode prog_6_method_2_code 10 = .ok (.getfield 13, 3) := by decide +kernel
theorem d3_13 : decode prog_6_method_2_code 13 = .ok (.iload_n 1, 1) := by decide +kernel
theorem d3_14 : decode prog_6_method_2_code 14 = .ok (.laload, 1) := by decide +kernel
theorem d3_15 : decode prog_6_method_2_code 15 = .ok (.aload_n 0, 1) := by decide +kernel
theorem d3_16 : decode prog_6_method_2_code 16 = .ok (.getfield 21, 3) := by decide +kernel
theorem d3_19 : decode prog_6_method_2_code 19 = .ok (.lcmp, 1) := by decide +kernel
theorem d3_20 : decode prog_6_method_2_code 20 = .ok (.ifCond .gt 7, 3) := by decide +kernel
theorem d3_23 : decode prog_6_method_2_code 23 = .ok (.iconst 1, 1) := by decide +kernel
theorem d3_24 : decode prog_6_method_2_code 24 = .ok (.goto 4, 3) := by decide +kernel
theorem d3_27 : decode prog_6_method_2_code 27 = .ok (.iconst 0, 1) := by decide +kernel
theorem d3_28 : decode prog_6_method_2_code 28 = .ok (.ireturn, 1) := by decide +kernel
theorem d4_0 : decode prog_6_method_3_code 0 = .ok (.aload_n 0, 1) := by decide +kernel
theorem d4_1 : decode prog_6_method_3_code 1 = .ok (.getfield 25, 3) := by decide +kernel
theorem d4_4 : decode prog_6_method_3_code 4 = .ok (.aload_n 0, 1) := by decide +kernel
theorem d4_5 : decode prog_6_method_3_code 5 = .ok (.getfield 9, 3) := by decide +kernel
theorem d4_8 : decode prog_6_method_3_code 8 = .ok (.arraylength, 1) := by decide +kernel
theorem d4_9 : decode prog_6_method_3_code 9 = .ok (.if_icmp .ne 20, 3) := by decide +kernel
theorem d4_12 : decode prog_6_method_3_code 12 = .ok (.aload_n 0, 1) := by decide +kernel
theorem d4_13 : decode prog_6_method_3_code 13 = .ok (.aload_n 0, 1) := by decide +kernel
theorem d4_14 : decode prog_6_method_3_code 14 = .ok (.getfield 9, 3) := by decide +kernel
theorem d4_17 : decode prog_6_method_3_code 17 = .ok (.iconst 2, 1) := by decide +kernel
theorem d4_18 : decode prog_6_method_3_code 18 = .ok (.aload_n 0, 1) := by decide +kernel
theorem d4_19 : decode prog_6_method_3_code 19 = .ok (.getfield 25, 3) := by decide +kernel
theorem d4_22 : decode prog_6_method_3_code 22 = .ok (.imul, 1) := by decide +kernel
theorem d4_23 : decode prog_6_method_3_code 23 = .ok (.invokestatic 29, 3) := by decide +kernel
theorem d4_26 : decode prog_6_method_3_code 26 = .ok (.putfield 9, 3) := by decide +kernel
theorem d4_29 : decode prog_6_method_3_code 29 = .ok (.aload_n 0, 1) := by decide +kernel
theorem d4_30 : decode prog_6_method_3_code 30 = .ok (.getfield 9, 3) := by decide +kernel
theorem d4_33 : decode prog_6_method_3_code 33 = .ok (.aload_n 0, 1) := by decide +kernel
theorem d4_34 : decode prog_6_method_3_code 34 = .ok (.dup, 1) := by decide +kernel
theorem d4_35 : decode prog_6_method_3_code 35 = .ok (.getfield 25, 3) := by decide +kernel
theorem d4_38 : decode prog_6_method_3_code 38 = .ok (.dup_x1, 1) := by decide +kernel
theorem d4_39 : decode prog_6_method_3_code 39 = .ok (.iconst 1, 1) := by decide +kernel
theorem d4_40 : decode prog_6_method_3_code 40 = .ok (.iadd, 1) := by decide +kernel
theorem d4_41 : decode prog_6_method_3_code 41 = .ok (.putfield 25, 3) := by decide +kernel
theorem d4_44 : decode prog_6_method_3_code 44 = .ok (.iload_n 1, 1) := by decide +kernel
theorem d4_45 : decode prog_6_method_3_code 45 = .ok (.iastore, 1) := by decide +kernel
theorem d4_46 : decode prog_6_method_3_code 46 = .ok (.aload_n 0, 1) := by decide +kernel
theorem d4_47 : decode prog_6_method_3_code 47 = .ok (.getfield 17, 3) := by decide +kernel
theorem d4_50 : decode prog_6_method_3_code 50 = .ok (.iload_n 1, 1) := by decide +kernel
theorem d4_51 : decode prog_6_method_3_code 51 = .ok (.iconst 1, 1) := by decide +kernel
theorem d4_52 : decode prog_6_method_3_code 52 = .ok (.bastore, 1) := by decide +kernel
theorem d4_53 : decode prog_6_method_3_code 53 = .ok (.aload_n 0, 1) := by decide +kernel
theorem d4_54 : decode prog_6_method_3_code 54 = .ok (.dup, 1) := by decide +kernel
theorem d4_55 : decode prog_6_method_3_code 55 = .ok (.getfield 21, 3) := by decide +kernel
theorem d4_58 : decode prog_6_method_3_code 58 = .ok (.aload_n 0, 1) := by decide +kernel
theorem d4_59 : decode prog_6_method_3_code 59 = .ok (.getfield 13, 3) := by decide +kernel
theorem d4_62 : decode prog_6_method_3_code 62 = .ok (.iload_n 1, 1) := by decide +kernel
theorem d4_63 : decode prog_6_method_3_code 63 = .ok (.laload, 1) := by decide +kernel
theorem d4_64 : decode prog_6_method_3_code 64 = .ok (.lsub, 1) := by decide +kernel
theorem d4_65 : decode prog_6_method_3_code 65 = .ok (.putfield 21, 3) := by decide +kernel
theorem d4_68 : decode prog_6_method_3_code 68 = .ok (.return_, 1) := by decide +kernel
set_option maxHeartbeats 4000000 in
theorem dis_0 (Z : State) (a0 : Array Value) (hw : ∀ d ∈ tables_1, d.before a0 Z = true) : ([RoadKit.slotOf Z "com/example/ripplecast/ripplecast/BudgetedSeeds" "seeds" "[I", RoadKit.slotOf Z "com/example/ripplecast/ripplecast/BudgetedSeeds" "costs" "[J", RoadKit.slotOf Z "com/example/ripplecast/ripplecast/BudgetedSeeds" "chosen" "[Z", RoadKit.slotOf Z "com/example/ripplecast/ripplecast/BudgetedSeeds" "left" "J", RoadKit.slotOf Z "com/example/ripplecast/ripplecast/BudgetedSeeds" "size" "I"] : List Nat).Nodup := by
  simp only [List.nodup_cons, List.mem_cons, List.not_mem_nil, or_false, not_or, not_false_eq_true, List.nodup_nil, and_true]
  exact ⟨⟨RoadKit.slot_ne (Or.inl (hw _ (List.mem_of_getElem? (i := 12) rfl))) (Or.inr (hw _ (List.mem_of_getElem? (i := 14) rfl))) (by decide) (t := (.array .int)) (t' := (.array .long)) (by decide) (by decide), RoadKit.slot_ne (Or.inl (hw _ (List.mem_of_getElem? (i := 12) rfl))) (Or.inr (hw _ (List.mem_of_getElem? (i := 17) rfl))) (by decide) (t := (.array .int)) (t' := (.array .boolean)) (by decide) (by decide), RoadKit.slot_ne (Or.inl (hw _ (List.mem_of_getElem? (i := 12) rfl))) (Or.inl (hw _ (List.mem_of_getElem? (i := 19) rfl))) (by decide) (t := (.array .int)) (t' := .long) (by decide) (by decide), RoadKit.slot_ne (Or.inl (hw _ (List.mem_of_getElem? (i := 12) rfl))) (Or.inl (hw _ (List.mem_of_getElem? (i := 31) rfl))) (by decide) (t := (.array .int)) (t' := .int) (by decide) (by decide)⟩, ⟨RoadKit.slot_ne (Or.inr (hw _ (List.mem_of_getElem? (i := 14) rfl))) (Or.inr (hw _ (List.mem_of_getElem? (i := 17) rfl))) (by decide) (t := (.array .long)) (t' := (.array .boolean)) (by decide) (by decide), RoadKit.slot_ne (Or.inr (hw _ (List.mem_of_getElem? (i := 14) rfl))) (Or.inl (hw _ (List.mem_of_getElem? (i := 19) rfl))) (by decide) (t := (.array .long)) (t' := .long) (by decide) (by decide), RoadKit.slot_ne (Or.inr (hw _ (List.mem_of_getElem? (i := 14) rfl))) (Or.inl (hw _ (List.mem_of_getElem? (i := 31) rfl))) (by decide) (t := (.array .long)) (t' := .int) (by decide) (by decide)⟩, ⟨RoadKit.slot_ne (Or.inr (hw _ (List.mem_of_getElem? (i := 17) rfl))) (Or.inl (hw _ (List.mem_of_getElem? (i := 19) rfl))) (by decide) (t := (.array .boolean)) (t' := .long) (by decide) (by decide), RoadKit.slot_ne (Or.inr (hw _ (List.mem_of_getElem? (i := 17) rfl))) (Or.inl (hw _ (List.mem_of_getElem? (i := 31) rfl))) (by decide) (t := (.array .boolean)) (t' := .int) (by decide) (by decide)⟩, RoadKit.slot_ne (Or.inl (hw _ (List.mem_of_getElem? (i := 19) rfl))) (Or.inl (hw _ (List.mem_of_getElem? (i := 31) rfl))) (by decide) (t := .long) (t' := .int) (by decide) (by decide)⟩
def BS (Z : State) (h : Heap) (a b1 b2 b3 : Addr) (c0 c1 : Int64) (z0 z1 : Int32) (lf : Int64) (n : Int32) : Prop := Ob Z h a "com/example/ripplecast/ripplecast/BudgetedSeeds" [("com/example/ripplecast/ripplecast/BudgetedSeeds", "seeds", "[I", (.ref b3)), ("com/example/ripplecast/ripplecast/BudgetedSeeds", "costs", "[J", (.ref b1)), ("com/example/ripplecast/ripplecast/BudgetedSeeds", "chosen", "[Z", (.ref b2)), ("com/example/ripplecast/ripplecast/BudgetedSeeds", "left", "J", (.long lf)), ("com/example/ripplecast/ripplecast/BudgetedSeeds", "size", "I", (.int n))] ∧ Ar Z h b1 .long [.long c0, .long c1] ∧ Ar Z h b2 .boolean [.int z0, .int z1] ∧ ∃ vs : List Value, vs.length = 16 ∧ Ar Z h b3 .int vs
theorem BS.keep {Z : State} {h h' : Heap} {a b1 b2 b3 : Addr} {c0 c1 : Int64} {z0 z1 : Int32} {lf : Int64} {n : Int32} {ws : List Addr} (B : BS Z h a b1 b2 b3 c0 c1 z0 z1 lf n) (K : Keep h h' ws) (q : ∀ x ∈ [a, b1, b2, b3], x ∉ ws) : BS Z h' a b1 b2 b3 c0 c1 z0 z1 lf n := by
  obtain ⟨O, A1, A2, vs, hv, A3⟩ := B
  exact ⟨O.keep K (q _ (by simp)), A1.keep K (q _ (by simp)), A2.keep K (q _ (by simp)), vs, hv, A3.keep K (q _ (by simp))⟩
set_option maxRecDepth 65536 in
set_option maxHeartbeats 2000000 in
theorem con_1 (l : Launch) (Z : State) (a0 : Array Value) (hw : ∀ d ∈ tables_1, d.before a0 Z = true) (a b1 : Addr) (lf c0 c1 : Int64) (h : Heap) (nab : b1 ≠ a) (O : Ob Z h a "com/example/ripplecast/ripplecast/BudgetedSeeds" [("com/example/ripplecast/ripplecast/BudgetedSeeds", "seeds", "[I", .null), ("com/example/ripplecast/ripplecast/BudgetedSeeds", "costs", "[J", .null), ("com/example/ripplecast/ripplecast/BudgetedSeeds", "chosen", "[Z", .null), ("com/example/ripplecast/ripplecast/BudgetedSeeds", "left", "J", (.long (0 : Int64))), ("com/example/ripplecast/ripplecast/BudgetedSeeds", "size", "I", (.int (0 : Int32)))]) (A1 : Ar Z h b1 .long [.long c0, .long c1]) :
    Con l Z [] (⟨"com/example/ripplecast/ripplecast/BudgetedSeeds", "<init>", "([JJ)V"⟩ : MethodName) prog_6_method_1_code 4 none ({ frames := 1, cells := 2, slots := 18, locals := 12 } : Room) #[(.ref a), (.ref b1), (.long lf)] h [a] (fun v h' => v = none ∧ ∃ b2 b3 : Addr, h.size ≤ b2 ∧ h.size ≤ b3 ∧ b2 ≠ b3 ∧ BS Z h' a b1 b2 b3 c0 c1 0 0 lf 0) := by
  refine Con.of_go (L0 := #[.val (.ref a), .val (.ref b1), .val (.long lf), .second]) (plainFor_of_name (by first | (simp [plainName, overriddenIn]; done) | decide +kernel)) (locals_of rfl) fun W Q hQ hl C => ?_
  subst hl
  refine g_aloadN (pc' := 1) C d1_0 rfl rfl rfl ?_
  refine g_initO (pc' := 4) C d1_1 rfl (hw _ (List.mem_of_getElem? (i := 7) rfl)) (hw _ (List.mem_of_getElem? (i := 8) rfl)) (hw _ (List.mem_of_getElem? (i := 9) rfl)) rfl (by decide) (Nat.le_of_ble_eq_true rfl) ?_
  refine g_aloadN (pc' := 5) C d1_4 rfl rfl rfl ?_
  refine g_bipush (pc' := 7) (z := (16 : Int32)) C d1_5 rfl rfl ?_
  have z_7 : h.size ≤ h.size := Nat.le_refl _
  refine g_newarray (pc' := 9) (ty := .int) (len := 16) (cap := 16) (k' := 1) (n' := 16) C d1_7 rfl rfl (hw _ (List.mem_of_getElem? (i := 10) rfl)) rfl (by decide) (by decide) rfl rfl (by decide) (by decide) fun h1 a1 e_a1 Eh1 Aa1 w_a1 => ?_
  have n_a_a1 : a ≠ a1 := by rw [e_a1]; exact Nat.ne_of_lt O.lt
  have n_b1_a1 : b1 ≠ a1 := by rw [e_a1]; exact Nat.ne_of_lt A1.lt
  replace O := O.ext Eh1
  replace A1 := A1.ext Eh1
  replace Aa1 : Ar Z h1 a1 .int [(.int (0 : Int32)), (.int (0 : Int32)), (.int (0 : Int32)), (.int (0 : Int32)), (.int (0 : Int32)), (.int (0 : Int32)), (.int (0 : Int32)), (.int (0 : Int32)), (.int (0 : Int32)), (.int (0 : Int32)), (.int (0 : Int32)), (.int (0 : Int32)), (.int (0 : Int32)), (.int (0 : Int32)), (.int (0 : Int32)), (.int (0 : Int32))] := Aa1
  refine g_putO (pc' := 12) (j := 0) (ty := (.array .int)) (v' := (.ref a1)) (fs' := [("com/example/ripplecast/ripplecast/BudgetedSeeds", "seeds", "[I", (.ref a1)), ("com/example/ripplecast/ripplecast/BudgetedSeeds", "costs", "[J", .null), ("com/example/ripplecast/ripplecast/BudgetedSeeds", "chosen", "[Z", .null), ("com/example/ripplecast/ripplecast/BudgetedSeeds", "left", "J", (.long (0 : Int64))), ("com/example/ripplecast/ripplecast/BudgetedSeeds", "size", "I", (.int (0 : Int32)))]) C d1_9 rfl (hw _ (List.mem_of_getElem? (i := 11) rfl)) Via.refl O rfl (Or.inl (hw _ (List.mem_of_getElem? (i := 12) rfl))) (hw _ (List.mem_of_getElem? (i := 2) rfl)) (by decide) rfl rfl rfl (C.old (List.mem_cons_self ..)) fun h2 O Kh2 => ?_
  replace A1 := A1.keep Kh2 (ninS nab nin0)
  replace Aa1 := Aa1.keep Kh2 (ninS (Ne.symm n_a_a1) nin0)
  refine g_aloadN (pc' := 13) C d1_12 rfl rfl rfl ?_
  refine g_aloadN (pc' := 14) C d1_13 rfl rfl rfl ?_
  refine g_putO (pc' := 17) (j := 1) (ty := (.array .long)) (v' := (.ref b1)) (fs' := [("com/example/ripplecast/ripplecast/BudgetedSeeds", "seeds", "[I", (.ref a1)), ("com/example/ripplecast/ripplecast/BudgetedSeeds", "costs", "[J", (.ref b1)), ("com/example/ripplecast/ripplecast/BudgetedSeeds", "chosen", "[Z", .null), ("com/example/ripplecast/ripplecast/BudgetedSeeds", "left", "J", (.long (0 : Int64))), ("com/example/ripplecast/ripplecast/BudgetedSeeds", "size", "I", (.int (0 : Int32)))]) C d1_14 rfl (hw _ (List.mem_of_getElem? (i := 13) rfl)) Via.refl O rfl (Or.inr ⟨(hw _ (List.mem_of_getElem? (i := 14) rfl)), rfl, rfl⟩) (hw _ (List.mem_of_getElem? (i := 2) rfl)) (by decide) rfl rfl rfl (C.old (List.mem_cons_self ..)) fun h3 O Kh3 => ?_
  replace A1 := A1.keep Kh3 (ninS nab nin0)
  replace Aa1 := Aa1.keep Kh3 (ninS (Ne.symm n_a_a1) nin0)
  refine g_aloadN (pc' := 18) C d1_17 rfl rfl rfl ?_
  refine g_aloadN (pc' := 19) C d1_18 rfl rfl rfl ?_
  refine g_arraylength (pc' := 20) (z := (2 : Int32)) C d1_19 rfl A1 rfl ?_
  have z_20 : h.size ≤ h3.size := Nat.le_trans (Nat.le_trans Eh1.1 Kh2.1) Kh3.1
  refine g_newarray (pc' := 22) (ty := .boolean) (len := 2) (cap := 2) (k' := 2) (n' := 18) C d1_20 rfl rfl (hw _ (List.mem_of_getElem? (i := 15) rfl)) rfl (by decide) (by decide) rfl rfl (by decide) (by decide) fun h4 a2 e_a2 Eh4 Aa2 w_a2 => ?_
  have n_a_a2 : a ≠ a2 := by rw [e_a2]; exact Nat.ne_of_lt O.lt
  have n_b1_a2 : b1 ≠ a2 := by rw [e_a2]; exact Nat.ne_of_lt A1.lt
  have n_a1_a2 : a1 ≠ a2 := by rw [e_a2]; exact Nat.ne_of_lt Aa1.lt
  replace O := O.ext Eh4
  replace A1 := A1.ext Eh4
  replace Aa1 := Aa1.ext Eh4
  replace Aa2 : Ar Z h4 a2 .boolean [(.int (0 : Int32)), (.int (0 : Int32))] := Aa2
  refine g_putO (pc' := 25) (j := 2) (ty := (.array .boolean)) (v' := (.ref a2)) (fs' := [("com/example/ripplecast/ripplecast/BudgetedSeeds", "seeds", "[I", (.ref a1)), ("com/example/ripplecast/ripplecast/BudgetedSeeds", "costs", "[J", (.ref b1)), ("com/example/ripplecast/ripplecast/BudgetedSeeds", "chosen", "[Z", (.ref a2)), ("com/example/ripplecast/ripplecast/BudgetedSeeds", "left", "J", (.long (0 : Int64))), ("com/example/ripplecast/ripplecast/BudgetedSeeds", "size", "I", (.int (0 : Int32)))]) C d1_22 rfl (hw _ (List.mem_of_getElem? (i := 16) rfl)) Via.refl O rfl (Or.inr ⟨(hw _ (List.mem_of_getElem? (i := 17) rfl)), rfl, rfl⟩) (hw _ (List.mem_of_getElem? (i := 2) rfl)) (by decide) rfl rfl rfl (C.old (List.mem_cons_self ..)) fun h5 O Kh5 => ?_
  replace A1 := A1.keep Kh5 (ninS nab nin0)
  replace Aa1 := Aa1.keep Kh5 (ninS (Ne.symm n_a_a1) nin0)
  replace Aa2 := Aa2.keep Kh5 (ninS (Ne.symm n_a_a2) nin0)
  refine g_aloadN (pc' := 26) C d1_25 rfl rfl rfl ?_
  refine g_lloadN (pc' := 27) C d1_26 rfl rfl ?_
  refine g_putO (pc' := 30) (j := 3) (ty := .long) (v' := (.long lf)) (fs' := [("com/example/ripplecast/ripplecast/BudgetedSeeds", "seeds", "[I", (.ref a1)), ("com/example/ripplecast/ripplecast/BudgetedSeeds", "costs", "[J", (.ref b1)), ("com/example/ripplecast/ripplecast/BudgetedSeeds", "chosen", "[Z", (.ref a2)), ("com/example/ripplecast/ripplecast/BudgetedSeeds", "left", "J", (.long lf)), ("com/example/ripplecast/ripplecast/BudgetedSeeds", "size", "I", (.int (0 : Int32)))]) C d1_27 rfl (hw _ (List.mem_of_getElem? (i := 18) rfl)) Via.refl O rfl (Or.inl (hw _ (List.mem_of_getElem? (i := 19) rfl))) (hw _ (List.mem_of_getElem? (i := 2) rfl)) (by decide) rfl rfl rfl (C.old (List.mem_cons_self ..)) fun h6 O Kh6 => ?_
  replace A1 := A1.keep Kh6 (ninS nab nin0)
  replace Aa1 := Aa1.keep Kh6 (ninS (Ne.symm n_a_a1) nin0)
  replace Aa2 := Aa2.keep Kh6 (ninS (Ne.symm n_a_a2) nin0)
  refine g_return C d1_30 (by decide) (by decide) ?_
  subst hQ
  exact ⟨rfl, a2, a1, (by rw [e_a2]; exact z_20), (by rw [e_a1]; exact z_7), Ne.symm n_a1_a2, O, A1, Aa2, _, rfl, Aa1⟩
set_option maxRecDepth 65536 in
set_option maxHeartbeats 2000000 in
theorem con_3_0 (l : Launch) (Z : State) (a0 : Array Value) (hw : ∀ d ∈ tables_1, d.before a0 Z = true) (a b1 b2 b3 : Addr) (c0 c1 : Int64) (z0 z1 : Int32) (P0 P1 : Prop) [Decidable P0] [Decidable P1] (e0 : z0 = b2i P0) (e1 : z1 = b2i P1) (lf : Int64) (n : Int32) (h : Heap) (B : BS Z h a b1 b2 b3 c0 c1 z0 z1 lf n) :
    Con l Z [] (⟨"com/example/ripplecast/ripplecast/BudgetedSeeds", "fits", "(I)Z"⟩ : MethodName) prog_6_method_2_code 2 (some .boolean) ({ frames := 0, cells := 0, slots := 0, locals := 0 } : Room) #[(.ref a), (.int (0 : Int32))] h [] (fun v h' => v = some (.int (b2i (¬ (P0) ∧ c0.toInt ≤ lf.toInt))) ∧ h' = h) := by
  obtain ⟨O, A1, A2, vs, hv, A3⟩ := B
  refine Con.of_go (L0 := #[.val (.ref a), .val (.int (0 : Int32))]) (plainFor_of_name (by first | (simp [plainName, overriddenIn]; done) | decide +kernel)) (locals_of rfl) fun W Q hQ hl C => ?_
  subst hl
  refine g_aloadN (pc' := 1) C d3_0 rfl rfl rfl ?_
  refine g_getO (pc' := 4) (j := 2) C d3_1 rfl (hw _ (List.mem_of_getElem? (i := 16) rfl)) O rfl ?_
  refine g_iloadN (pc' := 5) C d3_4 rfl rfl ?_
  refine g_zaload (pc' := 6) (i := 0) C d3_5 rfl A2 rfl rfl ?_
  suffices Kf_6 : ∀ zf1 : Int32, zf1 = b2i ((¬ (P0)) ∧ (¬ (lf.toInt < c0.toInt))) → Go W Q h 0 0 28 #[.val (.ref a), .val (.int (0 : Int32))] [(.int zf1)] by
    refine g_ifneb (pc1 := 27) (pc2 := 9) C d3_6 (by decide) rfl rfl e0 (fun (cf6 : P0) => ?_) (fun (cf6 : ¬ (P0)) => ?_)
    ·
      refine g_iconst (pc' := 28) (z := (0 : Int32)) C d3_27 rfl rfl ?_
      exact Kf_6 (0 : Int32) ((rfl : (0 : Int32) = b2i False).trans (b2i_iff (iff_false_intro (fun y => (fun y => y cf6) y.1)).symm))
    ·
      refine g_aloadN (pc' := 10) C d3_9 rfl rfl rfl ?_
      refine g_getO (pc' := 13) (j := 1) C d3_10 rfl (hw _ (List.mem_of_getElem? (i := 13) rfl)) O rfl ?_
      refine g_iloadN (pc' := 14) C d3_13 rfl rfl ?_
      refine g_laload (pc' := 15) (i := 0) C d3_14 rfl A1 rfl rfl ?_
      refine g_aloadN (pc' := 16) C d3_15 rfl rfl rfl ?_
      refine g_getO (pc' := 19) (j := 3) C d3_16 rfl (hw _ (List.mem_of_getElem? (i := 18) rfl)) O rfl ?_
      refine g_lcmp (cd := .gt) (xi := c0.toInt) (yi := lf.toInt) (pc' := 20) (pc1 := 27) (pc2 := 23) C d3_19 d3_20 rfl (by decide) rfl rfl rfl rfl (fun (cf19 : lf.toInt < c0.toInt) => ?_) (fun (cf19 : ¬ (lf.toInt < c0.toInt)) => ?_)
      ·
        refine g_iconst (pc' := 28) (z := (0 : Int32)) C d3_27 rfl rfl ?_
        exact Kf_6 (0 : Int32) ((rfl : (0 : Int32) = b2i False).trans (b2i_iff ((and_iff_right cf6).trans (iff_false_intro (fun y => y cf19))).symm))
      ·
        refine g_iconst (pc' := 24) (z := (1 : Int32)) C d3_23 rfl rfl ?_
        refine g_goto C d3_24 (by decide) (pc' := 28) rfl ?_
        exact Kf_6 (1 : Int32) ((rfl : (1 : Int32) = b2i True).trans (b2i_iff ((and_iff_right cf6).trans (iff_true_intro cf19)).symm))
  intro zf1 e_zf1
  refine g_retN C (by simp) d3_28 (by decide) (by decide) ?_
  subst hQ
  refine ⟨congrArg (fun z => some (Value.int z)) ?_, rfl⟩
  rw [e_zf1, nar_b2i]
  refine b2i_iff ?_
  constructor <;> (rintro ⟨x1, x2⟩; exact ⟨x1, by omega⟩)
set_option maxRecDepth 65536 in
set_option maxHeartbeats 2000000 in
theorem con_4_0 (l : Launch) (Z : State) (a0 : Array Value) (hw : ∀ d ∈ tables_1, d.before a0 Z = true) (a b1 b2 b3 : Addr) (c0 c1 : Int64) (z0 z1 : Int32) (lf : Int64) (n : Int32) (hn0 : 0 ≤ n.toInt) (hn1 : n.toInt ≤ 14) (q01 : a ≠ b1) (q02 : a ≠ b2) (q03 : a ≠ b3) (q12 : b1 ≠ b2) (q13 : b1 ≠ b3) (q23 : b2 ≠ b3) (h : Heap) (B : BS Z h a b1 b2 b3 c0 c1 z0 z1 lf n) :
    Con l Z [] (⟨"com/example/ripplecast/ripplecast/BudgetedSeeds", "add", "(I)V"⟩ : MethodName) prog_6_method_3_code 2 none ({ frames := 0, cells := 0, slots := 0, locals := 0 } : Room) #[(.ref a), (.int (0 : Int32))] h [a, b2, b3] (fun v h' => v = none ∧ BS Z h' a b1 b2 b3 c0 c1 1 z1 (lf - c0) (n + 1)) := by
  obtain ⟨O, A1, A2, vs, hv, A3⟩ := B
  refine Con.of_go (L0 := #[.val (.ref a), .val (.int (0 : Int32))]) (plainFor_of_name (by first | (simp [plainName, overriddenIn]; done) | decide +kernel)) (locals_of rfl) fun W Q hQ hl C => ?_
  subst hl
  refine g_aloadN (pc' := 1) C d4_0 rfl rfl rfl ?_
  refine g_getO (pc' := 4) (j := 4) C d4_1 rfl (hw _ (List.mem_of_getElem? (i := 30) rfl)) O rfl ?_
  refine g_aloadN (pc' := 5) C d4_4 rfl rfl rfl ?_
  refine g_getO (pc' := 8) (j := 0) C d4_5 rfl (hw _ (List.mem_of_getElem? (i := 11) rfl)) O rfl ?_
  refine g_arraylength (z := (16 : Int32)) C d4_8 rfl A3 (by rw [hv]; rfl) ?_
  refine g_icmpY (xi := n.toInt) (yi := 16) (pc1 := 29) C d4_9 (by decide) rfl rfl rfl (show ¬ n.toInt = 16 by omega) ?_
  refine g_aloadN (pc' := 30) C d4_29 rfl rfl rfl ?_
  refine g_getO (pc' := 33) (j := 0) C d4_30 rfl (hw _ (List.mem_of_getElem? (i := 11) rfl)) O rfl ?_
  refine g_aloadN (pc' := 34) C d4_33 rfl rfl rfl ?_
  refine g_dup (pc' := 35) C d4_34 rfl rfl ?_
  refine g_getO (pc' := 38) (j := 4) C d4_35 rfl (hw _ (List.mem_of_getElem? (i := 30) rfl)) O rfl ?_
  refine g_dup_x1 (pc' := 39) C d4_38 rfl rfl rfl ?_
  refine g_iconst (pc' := 40) (z := (1 : Int32)) C d4_39 rfl rfl ?_
  refine g_iadd (pc' := 41) C d4_40 rfl ?_
  refine g_putO (pc' := 44) (j := 4) (ty := .int) (v' := (.int (n + (1 : Int32)))) (fs' := [("com/example/ripplecast/ripplecast/BudgetedSeeds", "seeds", "[I", (.ref b3)), ("com/example/ripplecast/ripplecast/BudgetedSeeds", "costs", "[J", (.ref b1)), ("com/example/ripplecast/ripplecast/BudgetedSeeds", "chosen", "[Z", (.ref b2)), ("com/example/ripplecast/ripplecast/BudgetedSeeds", "left", "J", (.long lf)), ("com/example/ripplecast/ripplecast/BudgetedSeeds", "size", "I", (.int (n + (1 : Int32))))]) C d4_41 rfl (hw _ (List.mem_of_getElem? (i := 30) rfl)) Via.refl O rfl (Or.inl (hw _ (List.mem_of_getElem? (i := 31) rfl))) (hw _ (List.mem_of_getElem? (i := 2) rfl)) (by decide) rfl rfl rfl (C.old (List.mem_of_getElem? (i := 0) rfl)) fun hg1 O Khg1 => ?_
  replace A1 := A1.keep Khg1 (ninS (Ne.symm q01) nin0)
  replace A2 := A2.keep Khg1 (ninS (Ne.symm q02) nin0)
  replace A3 := A3.keep Khg1 (ninS (Ne.symm q03) nin0)
  refine g_iloadN (pc' := 45) C d4_44 rfl rfl ?_
  obtain ⟨k, hk⟩ : ∃ k : Nat, n.toInt = k := ⟨n.toInt.toNat, by omega⟩
  refine g_iastore (i := k) C d4_45 rfl A3 hk (by omega) rfl (C.old (List.mem_of_getElem? (i := 2) rfl)) fun hg2 A3 Khg2 => ?_
  replace O := O.keep Khg2 (ninS q03 nin0)
  replace A1 := A1.keep Khg2 (ninS q13 nin0)
  replace A2 := A2.keep Khg2 (ninS q23 nin0)
  refine g_aloadN (pc' := 47) C d4_46 rfl rfl rfl ?_
  refine g_getO (pc' := 50) (j := 2) C d4_47 rfl (hw _ (List.mem_of_getElem? (i := 16) rfl)) O rfl ?_
  refine g_iloadN (pc' := 51) C d4_50 rfl rfl ?_
  refine g_iconst (pc' := 52) (z := (1 : Int32)) C d4_51 rfl rfl ?_
  refine g_zastore (pc' := 53) (i := 0) (vs' := [(.int (1 : Int32)), (.int z1)]) C d4_52 rfl A2 rfl (Nat.le_of_ble_eq_true rfl) rfl (C.old (List.mem_of_getElem? (i := 1) rfl)) fun hg3 A2 Khg3 => ?_
  replace O := O.keep Khg3 (ninS q02 nin0)
  replace A1 := A1.keep Khg3 (ninS q12 nin0)
  replace A3 := A3.keep Khg3 (ninS (Ne.symm q23) nin0)
  refine g_aloadN (pc' := 54) C d4_53 rfl rfl rfl ?_
  refine g_dup (pc' := 55) C d4_54 rfl rfl ?_
  refine g_getO (pc' := 58) (j := 3) C d4_55 rfl (hw _ (List.mem_of_getElem? (i := 18) rfl)) O rfl ?_
  refine g_aloadN (pc' := 59) C d4_58 rfl rfl rfl ?_
  refine g_getO (pc' := 62) (j := 1) C d4_59 rfl (hw _ (List.mem_of_getElem? (i := 13) rfl)) O rfl ?_
  refine g_iloadN (pc' := 63) C d4_62 rfl rfl ?_
  refine g_laload (pc' := 64) (i := 0) C d4_63 rfl A1 rfl rfl ?_
  refine g_lsub (pc' := 65) C d4_64 rfl ?_
  refine g_putO (pc' := 68) (j := 3) (ty := .long) (v' := (.long (lf - c0))) (fs' := [("com/example/ripplecast/ripplecast/BudgetedSeeds", "seeds", "[I", (.ref b3)), ("com/example/ripplecast/ripplecast/BudgetedSeeds", "costs", "[J", (.ref b1)), ("com/example/ripplecast/ripplecast/BudgetedSeeds", "chosen", "[Z", (.ref b2)), ("com/example/ripplecast/ripplecast/BudgetedSeeds", "left", "J", (.long (lf - c0))), ("com/example/ripplecast/ripplecast/BudgetedSeeds", "size", "I", (.int (n + (1 : Int32))))]) C d4_65 rfl (hw _ (List.mem_of_getElem? (i := 18) rfl)) Via.refl O rfl (Or.inl (hw _ (List.mem_of_getElem? (i := 19) rfl))) (hw _ (List.mem_of_getElem? (i := 2) rfl)) (by decide) rfl rfl rfl (C.old (List.mem_of_getElem? (i := 0) rfl)) fun hg4 O Khg4 => ?_
  replace A1 := A1.keep Khg4 (ninS (Ne.symm q01) nin0)
  replace A2 := A2.keep Khg4 (ninS (Ne.symm q02) nin0)
  replace A3 := A3.keep Khg4 (ninS (Ne.symm q03) nin0)
  refine g_return C d4_68 (by decide) (by decide) ?_
  subst hQ
  exact ⟨rfl, O, A1, A2, _, by rw [List.length_set]; exact hv, A3⟩
set_option maxRecDepth 65536 in
set_option maxHeartbeats 2000000 in
theorem con_3_1 (l : Launch) (Z : State) (a0 : Array Value) (hw : ∀ d ∈ tables_1, d.before a0 Z = true) (a b1 b2 b3 : Addr) (c0 c1 : Int64) (z0 z1 : Int32) (P0 P1 : Prop) [Decidable P0] [Decidable P1] (e0 : z0 = b2i P0) (e1 : z1 = b2i P1) (lf : Int64) (n : Int32) (h : Heap) (B : BS Z h a b1 b2 b3 c0 c1 z0 z1 lf n) :
    Con l Z [] (⟨"com/example/ripplecast/ripplecast/BudgetedSeeds", "fits", "(I)Z"⟩ : MethodName) prog_6_method_2_code 2 (some .boolean) ({ frames := 0, cells := 0, slots := 0, locals := 0 } : Room) #[(.ref a), (.int (1 : Int32))] h [] (fun v h' => v = some (.int (b2i (¬ (P1) ∧ c1.toInt ≤ lf.toInt))) ∧ h' = h) := by
  obtain ⟨O, A1, A2, vs, hv, A3⟩ := B
  refine Con.of_go (L0 := #[.val (.ref a), .val (.int (1 : Int32))]) (plainFor_of_name (by first | (simp [plainName, overriddenIn]; done) | decide +kernel)) (locals_of rfl) fun W Q hQ hl C => ?_
  subst hl
  refine g_aloadN (pc' := 1) C d3_0 rfl rfl rfl ?_
  refine g_getO (pc' := 4) (j := 2) C d3_1 rfl (hw _ (List.mem_of_getElem? (i := 16) rfl)) O rfl ?_
  refine g_iloadN (pc' := 5) C d3_4 rfl rfl ?_
  refine g_zaload (pc' := 6) (i := 1) C d3_5 rfl A2 rfl rfl ?_
  suffices Kf_6 : ∀ zf1 : Int32, zf1 = b2i ((¬ (P1)) ∧ (¬ (lf.toInt < c1.toInt))) → Go W Q h 0 0 28 #[.val (.ref a), .val (.int (1 : Int32))] [(.int zf1)] by
    refine g_ifneb (pc1 := 27) (pc2 := 9) C d3_6 (by decide) rfl rfl e1 (fun (cf6 : P1) => ?_) (fun (cf6 : ¬ (P1)) => ?_)
    ·
      refine g_iconst (pc' := 28) (z := (0 : Int32)) C d3_27 rfl rfl ?_
      exact Kf_6 (0 : Int32) ((rfl : (0 : Int32) = b2i False).trans (b2i_iff (iff_false_intro (fun y => (fun y => y cf6) y.1)).symm))
    ·
      refine g_aloadN (pc' := 10) C d3_9 rfl rfl rfl ?_
      refine g_getO (pc' := 13) (j := 1) C d3_10 rfl (hw _ (List.mem_of_getElem? (i := 13) rfl)) O rfl ?_
      refine g_iloadN (pc' := 14) C d3_13 rfl rfl ?_
      refine g_laload (pc' := 15) (i := 1) C d3_14 rfl A1 rfl rfl ?_
      refine g_aloadN (pc' := 16) C d3_15 rfl rfl rfl ?_
      refine g_getO (pc' := 19) (j := 3) C d3_16 rfl (hw _ (List.mem_of_getElem? (i := 18) rfl)) O rfl ?_
      refine g_lcmp (cd := .gt) (xi := c1.toInt) (yi := lf.toInt) (pc' := 20) (pc1 := 27) (pc2 := 23) C d3_19 d3_20 rfl (by decide) rfl rfl rfl rfl (fun (cf19 : lf.toInt < c1.toInt) => ?_) (fun (cf19 : ¬ (lf.toInt < c1.toInt)) => ?_)
      ·
        refine g_iconst (pc' := 28) (z := (0 : Int32)) C d3_27 rfl rfl ?_
        exact Kf_6 (0 : Int32) ((rfl : (0 : Int32) = b2i False).trans (b2i_iff ((and_iff_right cf6).trans (iff_false_intro (fun y => y cf19))).symm))
      ·
        refine g_iconst (pc' := 24) (z := (1 : Int32)) C d3_23 rfl rfl ?_
        refine g_goto C d3_24 (by decide) (pc' := 28) rfl ?_
        exact Kf_6 (1 : Int32) ((rfl : (1 : Int32) = b2i True).trans (b2i_iff ((and_iff_right cf6).trans (iff_true_intro cf19)).symm))
  intro zf1 e_zf1
  refine g_retN C (by simp) d3_28 (by decide) (by decide) ?_
  subst hQ
  refine ⟨congrArg (fun z => some (Value.int z)) ?_, rfl⟩
  rw [e_zf1, nar_b2i]
  refine b2i_iff ?_
  constructor <;> (rintro ⟨x1, x2⟩; exact ⟨x1, by omega⟩)
set_option maxRecDepth 65536 in
set_option maxHeartbeats 2000000 in
theorem con_4_1 (l : Launch) (Z : State) (a0 : Array Value) (hw : ∀ d ∈ tables_1, d.before a0 Z = true) (a b1 b2 b3 : Addr) (c0 c1 : Int64) (z0 z1 : Int32) (lf : Int64) (n : Int32) (hn0 : 0 ≤ n.toInt) (hn1 : n.toInt ≤ 14) (q01 : a ≠ b1) (q02 : a ≠ b2) (q03 : a ≠ b3) (q12 : b1 ≠ b2) (q13 : b1 ≠ b3) (q23 : b2 ≠ b3) (h : Heap) (B : BS Z h a b1 b2 b3 c0 c1 z0 z1 lf n) :
    Con l Z [] (⟨"com/example/ripplecast/ripplecast/BudgetedSeeds", "add", "(I)V"⟩ : MethodName) prog_6_method_3_code 2 none ({ frames := 0, cells := 0, slots := 0, locals := 0 } : Room) #[(.ref a), (.int (1 : Int32))] h [a, b2, b3] (fun v h' => v = none ∧ BS Z h' a b1 b2 b3 c0 c1 z0 1 (lf - c1) (n + 1)) := by
  obtain ⟨O, A1, A2, vs, hv, A3⟩ := B
  refine Con.of_go (L0 := #[.val (.ref a), .val (.int (1 : Int32))]) (plainFor_of_name (by first | (simp [plainName, overriddenIn]; done) | decide +kernel)) (locals_of rfl) fun W Q hQ hl C => ?_
  subst hl
  refine g_aloadN (pc' := 1) C d4_0 rfl rfl rfl ?_
  refine g_getO (pc' := 4) (j := 4) C d4_1 rfl (hw _ (List.mem_of_getElem? (i := 30) rfl)) O rfl ?_
  refine g_aloadN (pc' := 5) C d4_4 rfl rfl rfl ?_
  refine g_getO (pc' := 8) (j := 0) C d4_5 rfl (hw _ (List.mem_of_getElem? (i := 11) rfl)) O rfl ?_
  refine g_arraylength (z := (16 : Int32)) C d4_8 rfl A3 (by rw [hv]; rfl) ?_
  refine g_icmpY (xi := n.toInt) (yi := 16) (pc1 := 29) C d4_9 (by decide) rfl rfl rfl (show ¬ n.toInt = 16 by omega) ?_
  refine g_aloadN (pc' := 30) C d4_29 rfl rfl rfl ?_
  refine g_getO (pc' := 33) (j := 0) C d4_30 rfl (hw _ (List.mem_of_getElem? (i := 11) rfl)) O rfl ?_
  refine g_aloadN (pc' := 34) C d4_33 rfl rfl rfl ?_
  refine g_dup (pc' := 35) C d4_34 rfl rfl ?_
  refine g_getO (pc' := 38) (j := 4) C d4_35 rfl (hw _ (List.mem_of_getElem? (i := 30) rfl)) O rfl ?_
  refine g_dup_x1 (pc' := 39) C d4_38 rfl rfl rfl ?_
  refine g_iconst (pc' := 40) (z := (1 : Int32)) C d4_39 rfl rfl ?_
  refine g_iadd (pc' := 41) C d4_40 rfl ?_
  refine g_putO (pc' := 44) (j := 4) (ty := .int) (v' := (.int (n + (1 : Int32)))) (fs' := [("com/example/ripplecast/ripplecast/BudgetedSeeds", "seeds", "[I", (.ref b3)), ("com/example/ripplecast/ripplecast/BudgetedSeeds", "costs", "[J", (.ref b1)), ("com/example/ripplecast/ripplecast/BudgetedSeeds", "chosen", "[Z", (.ref b2)), ("com/example/ripplecast/ripplecast/BudgetedSeeds", "left", "J", (.long lf)), ("com/example/ripplecast/ripplecast/BudgetedSeeds", "size", "I", (.int (n + (1 : Int32))))]) C d4_41 rfl (hw _ (List.mem_of_getElem? (i := 30) rfl)) Via.refl O rfl (Or.inl (hw _ (List.mem_of_getElem? (i := 31) rfl))) (hw _ (List.mem_of_getElem? (i := 2) rfl)) (by decide) rfl rfl rfl (C.old (List.mem_of_getElem? (i := 0) rfl)) fun hg1 O Khg1 => ?_
  replace A1 := A1.keep Khg1 (ninS (Ne.symm q01) nin0)
  replace A2 := A2.keep Khg1 (ninS (Ne.symm q02) nin0)
  replace A3 := A3.keep Khg1 (ninS (Ne.symm q03) nin0)
  refine g_iloadN (pc' := 45) C d4_44 rfl rfl ?_
  obtain ⟨k, hk⟩ : ∃ k : Nat, n.toInt = k := ⟨n.toInt.toNat, by omega⟩
  refine g_iastore (i := k) C d4_45 rfl A3 hk (by omega) rfl (C.old (List.mem_of_getElem? (i := 2) rfl)) fun hg2 A3 Khg2 => ?_
  replace O := O.keep Khg2 (ninS q03 nin0)
  replace A1 := A1.keep Khg2 (ninS q13 nin0)
  replace A2 := A2.keep Khg2 (ninS q23 nin0)
  refine g_aloadN (pc' := 47) C d4_46 rfl rfl rfl ?_
  refine g_getO (pc' := 50) (j := 2) C d4_47 rfl (hw _ (List.mem_of_getElem? (i := 16) rfl)) O rfl ?_
  refine g_iloadN (pc' := 51) C d4_50 rfl rfl ?_
  refine g_iconst (pc' := 52) (z := (1 : Int32)) C d4_51 rfl rfl ?_
  refine g_zastore (pc' := 53) (i := 1) (vs' := [(.int z0), (.int (1 : Int32))]) C d4_52 rfl A2 rfl (Nat.le_of_ble_eq_true rfl) rfl (C.old (List.mem_of_getElem? (i := 1) rfl)) fun hg3 A2 Khg3 => ?_
  replace O := O.keep Khg3 (ninS q02 nin0)
  replace A1 := A1.keep Khg3 (ninS q12 nin0)
  replace A3 := A3.keep Khg3 (ninS (Ne.symm q23) nin0)
  refine g_aloadN (pc' := 54) C d4_53 rfl rfl rfl ?_
  refine g_dup (pc' := 55) C d4_54 rfl rfl ?_
  refine g_getO (pc' := 58) (j := 3) C d4_55 rfl (hw _ (List.mem_of_getElem? (i := 18) rfl)) O rfl ?_
  refine g_aloadN (pc' := 59) C d4_58 rfl rfl rfl ?_
  refine g_getO (pc' := 62) (j := 1) C d4_59 rfl (hw _ (List.mem_of_getElem? (i := 13) rfl)) O rfl ?_
  refine g_iloadN (pc' := 63) C d4_62 rfl rfl ?_
  refine g_laload (pc' := 64) (i := 1) C d4_63 rfl A1 rfl rfl ?_
  refine g_lsub (pc' := 65) C d4_64 rfl ?_
  refine g_putO (pc' := 68) (j := 3) (ty := .long) (v' := (.long (lf - c1))) (fs' := [("com/example/ripplecast/ripplecast/BudgetedSeeds", "seeds", "[I", (.ref b3)), ("com/example/ripplecast/ripplecast/BudgetedSeeds", "costs", "[J", (.ref b1)), ("com/example/ripplecast/ripplecast/BudgetedSeeds", "chosen", "[Z", (.ref b2)), ("com/example/ripplecast/ripplecast/BudgetedSeeds", "left", "J", (.long (lf - c1))), ("com/example/ripplecast/ripplecast/BudgetedSeeds", "size", "I", (.int (n + (1 : Int32))))]) C d4_65 rfl (hw _ (List.mem_of_getElem? (i := 18) rfl)) Via.refl O rfl (Or.inl (hw _ (List.mem_of_getElem? (i := 19) rfl))) (hw _ (List.mem_of_getElem? (i := 2) rfl)) (by decide) rfl rfl rfl (C.old (List.mem_of_getElem? (i := 0) rfl)) fun hg4 O Khg4 => ?_
  replace A1 := A1.keep Khg4 (ninS (Ne.symm q01) nin0)
  replace A2 := A2.keep Khg4 (ninS (Ne.symm q02) nin0)
  replace A3 := A3.keep Khg4 (ninS (Ne.symm q03) nin0)
  refine g_return C d4_68 (by decide) (by decide) ?_
  subst hQ
  exact ⟨rfl, O, A1, A2, _, by rw [List.length_set]; exact hv, A3⟩
set_option maxRecDepth 65536 in
set_option maxHeartbeats 2000000 in
theorem con_0 (l : Launch) (Z : State) (a0 : Array Value) (hw : ∀ d ∈ tables_1, d.before a0 Z = true) (p0 p2 p4 : Int64) (p6 p7 p8 : Int32) (h : Heap)  :
    Con l Z tables_1 x code maxLocals ret room_1 #[(.long p0), (.long p2), (.long p4), (.int p6), (.int p7), (.int p8)] h [] (fun v _ => v = some (.int 1)) := by
  refine Con.of_go (L0 := #[.val (.long p0), .second, .val (.long p2), .second, .val (.long p4), .second, .val (.int p6), .val (.int p7), .val (.int p8), .unset, .unset, .unset, .unset, .unset, .unset, .unset, .unset, .unset, .unset, .unset, .unset, .unset, .unset, .unset, .unset, .unset, .unset]) (plainFor_of_name (by first | (simp [plainName, overriddenIn]; done) | decide +kernel)) (locals_of rfl) fun W Q hQ hl C => ?_
  subst hl
  refine g_iconst (pc' := 1) (z := (2 : Int32)) C at_0 rfl rfl ?_
  refine g_newarray (pc' := 3) (ty := .long) (len := 2) (cap := 2) (k' := 1) (n' := 2) C at_1 rfl rfl (hw _ (List.mem_of_getElem? (i := 0) rfl)) rfl (by decide) (by decide) rfl rfl (by decide) (by decide) fun h1 a1 e_a1 Eh1 Aa1 w_a1 => ?_
  replace Aa1 : Ar Z h1 a1 .long [(.long (0 : Int64)), (.long (0 : Int64))] := Aa1
  refine g_dup (pc' := 4) C at_3 rfl rfl ?_
  refine g_iconst (pc' := 5) (z := (0 : Int32)) C at_4 rfl rfl ?_
  refine g_lloadN (pc' := 6) C at_5 rfl rfl ?_
  refine g_lastore (pc' := 7) (i := 0) (vs' := [(.long p0), (.long (0 : Int64))]) C at_6 rfl Aa1 rfl (Nat.le_of_ble_eq_true rfl) rfl w_a1 fun h2 Aa1 Kh2 => ?_
  refine g_dup (pc' := 8) C at_7 rfl rfl ?_
  refine g_iconst (pc' := 9) (z := (1 : Int32)) C at_8 rfl rfl ?_
  refine g_lloadN (pc' := 10) C at_9 rfl rfl ?_
  refine g_lastore (pc' := 11) (i := 1) (vs' := [(.long p0), (.long p2)]) C at_10 rfl Aa1 rfl (Nat.le_of_ble_eq_true rfl) rfl w_a1 fun h3 Aa1 Kh3 => ?_
  refine g_astore (pc' := 13) (L' := #[.val (.long p0), .second, .val (.long p2), .second, .val (.long p4), .second, .val (.int p6), .val (.int p7), .val (.int p8), .val (.ref a1), .unset, .unset, .unset, .unset, .unset, .unset, .unset, .unset, .unset, .unset, .unset, .unset, .unset, .unset, .unset, .unset, .unset]) C at_11 rfl rfl rfl ?_
  refine g_new (pc' := 16) (k' := 2) (n' := 7) C at_13 rfl (hw _ (List.mem_of_getElem? (i := 1) rfl)) (hw _ (List.mem_of_getElem? (i := 2) rfl)) (hw _ (List.mem_of_getElem? (i := 3) rfl)) rfl rfl (by decide) (by decide) fun h4 a2 e_a2 Eh4 Xa2 Da2 w_a2 => ?_
  have n_a1_a2 : a1 ≠ a2 := by rw [e_a2]; exact Nat.ne_of_lt Aa1.lt
  replace Aa1 := Aa1.ext Eh4
  have Oa2 : Ob Z h4 a2 "com/example/ripplecast/ripplecast/BudgetedSeeds" [("com/example/ripplecast/ripplecast/BudgetedSeeds", "seeds", "[I", .null), ("com/example/ripplecast/ripplecast/BudgetedSeeds", "costs", "[J", .null), ("com/example/ripplecast/ripplecast/BudgetedSeeds", "chosen", "[Z", .null), ("com/example/ripplecast/ripplecast/BudgetedSeeds", "left", "J", (.long (0 : Int64))), ("com/example/ripplecast/ripplecast/BudgetedSeeds", "size", "I", (.int (0 : Int32)))] := ⟨Xa2, by
    simp only [List.forall_mem_cons, List.not_mem_nil, false_implies, implies_true, and_true]
    exact ⟨Da2 (Or.inl (hw _ (List.mem_of_getElem? (i := 12) rfl))) (ty := (.array .int)) (by decide), Da2 (Or.inr (hw _ (List.mem_of_getElem? (i := 14) rfl))) (ty := (.array .long)) (by decide), Da2 (Or.inr (hw _ (List.mem_of_getElem? (i := 17) rfl))) (ty := (.array .boolean)) (by decide), Da2 (Or.inl (hw _ (List.mem_of_getElem? (i := 19) rfl))) (ty := .long) (by decide), Da2 (Or.inl (hw _ (List.mem_of_getElem? (i := 31) rfl))) (ty := .int) (by decide)⟩, dis_0 Z a0 hw⟩
  refine g_dup (pc' := 17) C at_16 rfl rfl ?_
  refine g_aload (pc' := 19) C at_17 rfl rfl rfl ?_
  refine g_lload (pc' := 21) C at_19 rfl rfl ?_
  refine g_special (y := (⟨"com/example/ripplecast/ripplecast/BudgetedSeeds", "<init>", "([JJ)V"⟩ : MethodName)) (a := a2) (pc' := 24) (k' := 4) (n' := 25) (S := [(.ref a2)]) (as := [(.ref a1), (.long p4)]) C at_21 rfl rfl (hw _ (List.mem_of_getElem? (i := 4) rfl)) (hw _ (List.mem_of_getElem? (i := 5) rfl)) (hw _ (List.mem_of_getElem? (i := 3) rfl)) (hw _ (List.mem_of_getElem? (i := 6) rfl)) (by decide) (lenOf pd_0 rfl) (con_1 W.l Z a0 hw a2 a1 p4 p0 p2 h4 n_a1_a2 Oa2 Aa1) rfl rfl (Nat.le_of_ble_eq_true rfl) (Nat.le_of_ble_eq_true rfl) rfl rfl (Nat.le_of_ble_eq_true rfl) (Nat.le_of_ble_eq_true rfl) (allS w_a2 all0) fun vh5 h5 qh5 Kh5 => ?_
  obtain ⟨rfl, b2, b3, g2, g3, g23, B⟩ := qh5
  show Go W Q h5 4 25 24 #[.val (.long p0), .second, .val (.long p2), .second, .val (.long p4), .second, .val (.int p6), .val (.int p7), .val (.int p8), .val (.ref a1), .unset, .unset, .unset, .unset, .unset, .unset, .unset, .unset, .unset, .unset, .unset, .unset, .unset, .unset, .unset, .unset, .unset] [(.ref a2)]
  have n1 : a2 ≠ b2 := Nat.ne_of_lt (Nat.lt_of_lt_of_le Oa2.lt g2)
  have n2 : a2 ≠ b3 := Nat.ne_of_lt (Nat.lt_of_lt_of_le Oa2.lt g3)
  have n3 : a1 ≠ b2 := Nat.ne_of_lt (Nat.lt_of_lt_of_le Aa1.lt g2)
  have n4 : a1 ≠ b3 := Nat.ne_of_lt (Nat.lt_of_lt_of_le Aa1.lt g3)
  have pwb2 : Pw W b2 := Or.inr (Nat.le_trans (Nat.le_trans (w_a2.resolve_left (by rw [C.ws]; exact fun y => nomatch y)) (Nat.le_of_lt Oa2.lt)) g2)
  have pwb3 : Pw W b3 := Or.inr (Nat.le_trans (Nat.le_trans (w_a2.resolve_left (by rw [C.ws]; exact fun y => nomatch y)) (Nat.le_of_lt Oa2.lt)) g3)
  refine g_astore (pc' := 26) (L' := #[.val (.long p0), .second, .val (.long p2), .second, .val (.long p4), .second, .val (.int p6), .val (.int p7), .val (.int p8), .val (.ref a1), .val (.ref a2), .unset, .unset, .unset, .unset, .unset, .unset, .unset, .unset, .unset, .unset, .unset, .unset, .unset, .unset, .unset, .unset]) C at_24 rfl rfl rfl ?_
  refine g_iload (pc' := 28) C at_26 rfl rfl ?_
  refine g_iconst (pc' := 29) (z := (1 : Int32)) C at_28 rfl rfl ?_
  refine g_iand (pc' := 30) C at_29 rfl ?_
  refine g_nameI fun i3 e_i3 => ?_
  refine g_istore (pc' := 32) (L' := #[.val (.long p0), .second, .val (.long p2), .second, .val (.long p4), .second, .val (.int p6), .val (.int p7), .val (.int p8), .val (.ref a1), .val (.ref a2), .val (.int i3), .unset, .unset, .unset, .unset, .unset, .unset, .unset, .unset, .unset, .unset, .unset, .unset, .unset, .unset, .unset]) C at_30 rfl rfl ?_
  have sp_i3 : i3 = 0 ∨ i3 = 1 := by
    have y1 := c_mask p6 1 1 (by decide) (by decide)
    rw [← e_i3] at y1
    have y2 : (0 : Int32).toInt = 0 := rfl
    have y3 : (1 : Int32).toInt = 1 := rfl
    rcases (by omega : i3.toInt = 0 ∨ i3.toInt = 1) with y | y
    · exact Or.inl (Int32.toInt_inj.mp (by omega))
    · exact Or.inr (Int32.toInt_inj.mp (by omega))
  clear e_i3
  rcases sp_i3 with sp_i3 | sp_i3 <;> subst sp_i3
  ·
    refine g_iconst (pc' := 33) (z := (1 : Int32)) C at_32 rfl rfl ?_
    refine g_iload (pc' := 35) C at_33 rfl rfl ?_
    refine g_isub (pc' := 36) C at_35 rfl ?_
    show Go W Q h5 4 25 36 #[.val (.long p0), .second, .val (.long p2), .second, .val (.long p4), .second, .val (.int p6), .val (.int p7), .val (.int p8), .val (.ref a1), .val (.ref a2), .val (.int (0 : Int32)), .unset, .unset, .unset, .unset, .unset, .unset, .unset, .unset, .unset, .unset, .unset, .unset, .unset, .unset, .unset] [(.int (1 : Int32))]
    refine g_istore (pc' := 38) (L' := #[.val (.long p0), .second, .val (.long p2), .second, .val (.long p4), .second, .val (.int p6), .val (.int p7), .val (.int p8), .val (.ref a1), .val (.ref a2), .val (.int (0 : Int32)), .val (.int (1 : Int32)), .unset, .unset, .unset, .unset, .unset, .unset, .unset, .unset, .unset, .unset, .unset, .unset, .unset, .unset]) C at_36 rfl rfl ?_
    refine g_iload (pc' := 40) C at_38 rfl rfl ?_
    refine g_iconst (pc' := 41) (z := (1 : Int32)) C at_40 rfl rfl ?_
    refine g_iand (pc' := 42) C at_41 rfl ?_
    refine g_nameI fun i4 e_i4 => ?_
    refine g_istore (pc' := 44) (L' := #[.val (.long p0), .second, .val (.long p2), .second, .val (.long p4), .second, .val (.int p6), .val (.int p7), .val (.int p8), .val (.ref a1), .val (.ref a2), .val (.int (0 : Int32)), .val (.int (1 : Int32)), .val (.int i4), .unset, .unset, .unset, .unset, .unset, .unset, .unset, .unset, .unset, .unset, .unset, .unset, .unset]) C at_42 rfl rfl ?_
    have sp_i4 : i4 = 0 ∨ i4 = 1 := by
      have y1 := c_mask p7 1 1 (by decide) (by decide)
      rw [← e_i4] at y1
      have y2 : (0 : Int32).toInt = 0 := rfl
      have y3 : (1 : Int32).toInt = 1 := rfl
      rcases (by omega : i4.toInt = 0 ∨ i4.toInt = 1) with y | y
      · exact Or.inl (Int32.toInt_inj.mp (by omega))
      · exact Or.inr (Int32.toInt_inj.mp (by omega))
    clear e_i4
    rcases sp_i4 with sp_i4 | sp_i4 <;> subst sp_i4
    ·
      refine g_iload (pc' := 46) C at_44 rfl rfl ?_
      refine g_ifN (xi := 0) (pc2 := 49) C at_46 rfl rfl (by decide) ?_
      refine g_lloadN (pc' := 50) C at_49 rfl rfl ?_
      refine g_goto C at_50 (by decide) (pc' := 54) rfl ?_
      refine g_lstore (pc' := 56) (L' := #[.val (.long p0), .second, .val (.long p2), .second, .val (.long p4), .second, .val (.int p6), .val (.int p7), .val (.int p8), .val (.ref a1), .val (.ref a2), .val (.int (0 : Int32)), .val (.int (1 : Int32)), .val (.int (0 : Int32)), .val (.long p0), .second, .unset, .unset, .unset, .unset, .unset, .unset, .unset, .unset, .unset, .unset, .unset]) C at_54 rfl rfl ?_
      refine g_iload (pc' := 58) C at_56 rfl rfl ?_
      refine g_ifN (xi := 0) (pc2 := 61) C at_58 rfl rfl (by decide) ?_
      refine g_lloadN (pc' := 62) C at_61 rfl rfl ?_
      refine g_goto C at_62 (by decide) (pc' := 66) rfl ?_
      refine g_lstore (pc' := 68) (L' := #[.val (.long p0), .second, .val (.long p2), .second, .val (.long p4), .second, .val (.int p6), .val (.int p7), .val (.int p8), .val (.ref a1), .val (.ref a2), .val (.int (0 : Int32)), .val (.int (1 : Int32)), .val (.int (0 : Int32)), .val (.long p0), .second, .val (.long p0), .second, .unset, .unset, .unset, .unset, .unset, .unset, .unset, .unset, .unset]) C at_66 rfl rfl ?_
      refine g_iload (pc' := 70) C at_68 rfl rfl ?_
      refine g_ifY (xi := 1) (pc1 := 77) C at_70 (by decide) rfl rfl (by decide) ?_
      refine g_lloadN (pc' := 78) C at_77 rfl rfl ?_
      refine g_lstore (pc' := 80) (L' := #[.val (.long p0), .second, .val (.long p2), .second, .val (.long p4), .second, .val (.int p6), .val (.int p7), .val (.int p8), .val (.ref a1), .val (.ref a2), .val (.int (0 : Int32)), .val (.int (1 : Int32)), .val (.int (0 : Int32)), .val (.long p0), .second, .val (.long p0), .second, .val (.long p2), .second, .unset, .unset, .unset, .unset, .unset, .unset, .unset]) C at_78 rfl rfl ?_
      refine g_aload (pc' := 82) C at_80 rfl rfl rfl ?_
      refine g_iload (pc' := 84) C at_82 rfl rfl ?_
      refine g_virtualP (y := (⟨"com/example/ripplecast/ripplecast/BudgetedSeeds", "fits", "(I)Z"⟩ : MethodName)) (a := a2) (pc' := 87) (k' := 4) (n' := 25) (S := []) (as := [(.int (0 : Int32))]) C at_84 rfl (hw _ (List.mem_of_getElem? (i := 20) rfl)) (hw _ (List.mem_of_getElem? (i := 22) rfl)) (hw _ (List.mem_of_getElem? (i := 3) rfl)) (hw _ (List.mem_of_getElem? (i := 24) rfl)) (hw _ (List.mem_of_getElem? (i := 21) rfl)) (hw _ (List.mem_of_getElem? (i := 23) rfl)) (by decide) B.1.1 (lenOf pd_1 rfl) (con_3_0 W.l Z a0 hw a2 a1 b2 b3 p0 p2 (0 : Int32) (0 : Int32) False False rfl rfl p4 (0 : Int32) h5 B) rfl rfl (Nat.le_of_ble_eq_true rfl) (Nat.le_of_ble_eq_true rfl) rfl rfl (Nat.le_of_ble_eq_true rfl) (Nat.le_of_ble_eq_true rfl) (S1 := [(.int (b2i (¬ (False) ∧ p0.toInt ≤ p4.toInt)))]) rfl ?_
      refine g_lload (pc' := 89) C at_87 rfl rfl ?_
      refine g_lload (pc' := 91) C at_89 rfl rfl ?_
      suffices K_91 : ∀ z5 : Int32, z5 = b2i (¬ (p4.toInt < p0.toInt)) → Go W Q h5 4 25 100 #[.val (.long p0), .second, .val (.long p2), .second, .val (.long p4), .second, .val (.int p6), .val (.int p7), .val (.int p8), .val (.ref a1), .val (.ref a2), .val (.int (0 : Int32)), .val (.int (1 : Int32)), .val (.int (0 : Int32)), .val (.long p0), .second, .val (.long p0), .second, .val (.long p2), .second, .unset, .unset, .unset, .unset, .unset, .unset, .unset] [(.int z5), (.int (b2i (¬ (False) ∧ p0.toInt ≤ p4.toInt)))] by
        refine g_lcmp (cd := .gt) (xi := p0.toInt) (yi := p4.toInt) (pc' := 92) (pc1 := 99) (pc2 := 95) C at_91 at_92 rfl (by decide) rfl rfl rfl rfl (fun (c91 : p4.toInt < p0.toInt) => ?_) (fun (c91 : ¬ (p4.toInt < p0.toInt)) => ?_)
        ·
          refine g_iconst (pc' := 100) (z := (0 : Int32)) C at_99 rfl rfl ?_
          exact K_91 (0 : Int32) ((rfl : (0 : Int32) = b2i False).trans (b2i_iff (iff_false_intro (fun y => y c91)).symm))
        ·
          refine g_iconst (pc' := 96) (z := (1 : Int32)) C at_95 rfl rfl ?_
          refine g_goto C at_96 (by decide) (pc' := 100) rfl ?_
          exact K_91 (1 : Int32) ((rfl : (1 : Int32) = b2i True).trans (b2i_iff (iff_true_intro c91).symm))
      intro z5 e_z5
      suffices K_100 : ∀ z6 : Int32, z6 = b2i (((¬ (False) ∧ p0.toInt ≤ p4.toInt)) ↔ (¬ (p4.toInt < p0.toInt))) → Go W Q h5 4 25 108 #[.val (.long p0), .second, .val (.long p2), .second, .val (.long p4), .second, .val (.int p6), .val (.int p7), .val (.int p8), .val (.ref a1), .val (.ref a2), .val (.int (0 : Int32)), .val (.int (1 : Int32)), .val (.int (0 : Int32)), .val (.long p0), .second, .val (.long p0), .second, .val (.long p2), .second, .unset, .unset, .unset, .unset, .unset, .unset, .unset] [(.int z6)] by
        refine g_icmpbne (pc1 := 107) (pc2 := 103) C at_100 (by decide) rfl rfl rfl e_z5 (fun (c100 : ¬ (((¬ (False) ∧ p0.toInt ≤ p4.toInt)) ↔ (¬ (p4.toInt < p0.toInt)))) => ?_) (fun (c100 : ((¬ (False) ∧ p0.toInt ≤ p4.toInt)) ↔ (¬ (p4.toInt < p0.toInt))) => ?_)
        ·
          refine g_iconst (pc' := 108) (z := (0 : Int32)) C at_107 rfl rfl ?_
          exact K_100 (0 : Int32) ((rfl : (0 : Int32) = b2i False).trans (b2i_iff (iff_false_intro c100).symm))
        ·
          refine g_iconst (pc' := 104) (z := (1 : Int32)) C at_103 rfl rfl ?_
          refine g_goto C at_104 (by decide) (pc' := 108) rfl ?_
          exact K_100 (1 : Int32) ((rfl : (1 : Int32) = b2i True).trans (b2i_iff (iff_true_intro c100).symm))
      intro z6 e_z6
      refine g_istore (pc' := 110) (L' := #[.val (.long p0), .second, .val (.long p2), .second, .val (.long p4), .second, .val (.int p6), .val (.int p7), .val (.int p8), .val (.ref a1), .val (.ref a2), .val (.int (0 : Int32)), .val (.int (1 : Int32)), .val (.int (0 : Int32)), .val (.long p0), .second, .val (.long p0), .second, .val (.long p2), .second, .val (.int z6), .unset, .unset, .unset, .unset, .unset, .unset]) C at_108 rfl rfl ?_
      refine g_iconst (pc' := 111) (z := (0 : Int32)) C at_110 rfl rfl ?_
      refine g_istore (pc' := 113) (L' := #[.val (.long p0), .second, .val (.long p2), .second, .val (.long p4), .second, .val (.int p6), .val (.int p7), .val (.int p8), .val (.ref a1), .val (.ref a2), .val (.int (0 : Int32)), .val (.int (1 : Int32)), .val (.int (0 : Int32)), .val (.long p0), .second, .val (.long p0), .second, .val (.long p2), .second, .val (.int z6), .val (.int (0 : Int32)), .unset, .unset, .unset, .unset, .unset]) C at_111 rfl rfl ?_
      refine g_iconst (pc' := 114) (z := (0 : Int32)) C at_113 rfl rfl ?_
      refine g_istore (pc' := 116) (L' := #[.val (.long p0), .second, .val (.long p2), .second, .val (.long p4), .second, .val (.int p6), .val (.int p7), .val (.int p8), .val (.ref a1), .val (.ref a2), .val (.int (0 : Int32)), .val (.int (1 : Int32)), .val (.int (0 : Int32)), .val (.long p0), .second, .val (.long p0), .second, .val (.long p2), .second, .val (.int z6), .val (.int (0 : Int32)), .val (.int (0 : Int32)), .unset, .unset, .unset, .unset]) C at_114 rfl rfl ?_
      refine g_lload (pc' := 118) C at_116 rfl rfl ?_
      refine g_lstore (pc' := 120) (L' := #[.val (.long p0), .second, .val (.long p2), .second, .val (.long p4), .second, .val (.int p6), .val (.int p7), .val (.int p8), .val (.ref a1), .val (.ref a2), .val (.int (0 : Int32)), .val (.int (1 : Int32)), .val (.int (0 : Int32)), .val (.long p0), .second, .val (.long p0), .second, .val (.long p2), .second, .val (.int z6), .val (.int (0 : Int32)), .val (.int (0 : Int32)), .val (.long p4), .second, .unset, .unset]) C at_118 rfl rfl ?_
      refine g_iload (pc' := 122) C at_120 rfl rfl ?_
      refine g_iconst (pc' := 123) (z := (1 : Int32)) C at_122 rfl rfl ?_
      refine g_iand (pc' := 124) C at_123 rfl ?_
      suffices K_124 : ∀ (h6 : Heap), ∀ z7 : Int32, z7 = b2i ((¬ ((p8 &&& (1 : Int32)).toInt = 0)) ∧ (¬ (p4.toInt < p0.toInt))) → ∀ j8 : Int64, j8 = (if (p8 &&& (1 : Int32)).toInt = 0 then p4 else (if p4.toInt < p0.toInt then p4 else (p4 - p0))) → ∀ z9 : Int32, z9 = b2i ((¬ ((p8 &&& (1 : Int32)).toInt = 0)) ∧ (¬ (p4.toInt < p0.toInt))) → ∀ j10 : Int64, j10 = (if (p8 &&& (1 : Int32)).toInt = 0 then p4 else (if p4.toInt < p0.toInt then p4 else (p4 - p0))) → ∀ i11 : Int32, i11 = (if (p8 &&& (1 : Int32)).toInt = 0 then (0 : Int32) else (if p4.toInt < p0.toInt then (0 : Int32) else ((0 : Int32) + 1))) → BS Z h6 a2 a1 b2 b3 p0 p2 z9 (0 : Int32) j10 i11 → Go W Q h6 4 25 152 #[.val (.long p0), .second, .val (.long p2), .second, .val (.long p4), .second, .val (.int p6), .val (.int p7), .val (.int p8), .val (.ref a1), .val (.ref a2), .val (.int (0 : Int32)), .val (.int (1 : Int32)), .val (.int (0 : Int32)), .val (.long p0), .second, .val (.long p0), .second, .val (.long p2), .second, .val (.int z6), .val (.int z7), .val (.int (0 : Int32)), .val (.long j8), .second, .unset, .unset] [] by
        refine g_if (xi := (p8 &&& (1 : Int32)).toInt) (pc1 := 152) (pc2 := 127) C at_124 (by decide) rfl rfl rfl (fun (c124 : (p8 &&& (1 : Int32)).toInt = 0) => ?_) (fun (c124 : ¬ ((p8 &&& (1 : Int32)).toInt = 0)) => ?_)
        ·
          exact K_124 h5 (0 : Int32) ((rfl : (0 : Int32) = b2i False).trans (b2i_iff (iff_false_intro (fun y => (fun y => y c124) y.1)).symm)) p4 ((if_pos c124).symm) (0 : Int32) ((rfl : (0 : Int32) = b2i False).trans (b2i_iff (iff_false_intro (fun y => (fun y => y c124) y.1)).symm)) p4 ((if_pos c124).symm) (0 : Int32) ((if_pos c124).symm) B
        ·
          refine g_lload (pc' := 129) C at_127 rfl rfl ?_
          refine g_lload (pc' := 131) C at_129 rfl rfl ?_
          refine g_lcmp (cd := .gt) (xi := p0.toInt) (yi := p4.toInt) (pc' := 132) (pc1 := 152) (pc2 := 135) C at_131 at_132 rfl (by decide) rfl rfl rfl rfl (fun (c131 : p4.toInt < p0.toInt) => ?_) (fun (c131 : ¬ (p4.toInt < p0.toInt)) => ?_)
          ·
            exact K_124 h5 (0 : Int32) ((rfl : (0 : Int32) = b2i False).trans (b2i_iff ((and_iff_right c124).trans (iff_false_intro (fun y => y c131))).symm)) p4 (((if_pos c131).symm).trans (if_neg c124).symm) (0 : Int32) ((rfl : (0 : Int32) = b2i False).trans (b2i_iff ((and_iff_right c124).trans (iff_false_intro (fun y => y c131))).symm)) p4 (((if_pos c131).symm).trans (if_neg c124).symm) (0 : Int32) (((if_pos c131).symm).trans (if_neg c124).symm) B
          ·
            refine g_aload (pc' := 137) C at_135 rfl rfl rfl ?_
            refine g_iload (pc' := 139) C at_137 rfl rfl ?_
            refine g_virtual (y := (⟨"com/example/ripplecast/ripplecast/BudgetedSeeds", "add", "(I)V"⟩ : MethodName)) (a := a2) (pc' := 142) (k' := 4) (n' := 25) (S := []) (as := [(.int (0 : Int32))]) C at_139 rfl (hw _ (List.mem_of_getElem? (i := 25) rfl)) (hw _ (List.mem_of_getElem? (i := 27) rfl)) (hw _ (List.mem_of_getElem? (i := 3) rfl)) (hw _ (List.mem_of_getElem? (i := 29) rfl)) (hw _ (List.mem_of_getElem? (i := 26) rfl)) (hw _ (List.mem_of_getElem? (i := 28) rfl)) (by decide) B.1.1 (lenOf pd_2 rfl) (con_4_0 W.l Z a0 hw a2 a1 b2 b3 p0 p2 (0 : Int32) (0 : Int32) p4 (0 : Int32) (by decide) (by decide) (Ne.symm n_a1_a2) n1 n2 n3 n4 g23 h5 B) rfl rfl (Nat.le_of_ble_eq_true rfl) (Nat.le_of_ble_eq_true rfl) rfl rfl (Nat.le_of_ble_eq_true rfl) (Nat.le_of_ble_eq_true rfl) (allS w_a2 (allS pwb2 (allS pwb3 all0))) fun vh7 h7 qh7 Kh7 => ?_
            obtain ⟨rfl, B⟩ := qh7
            show Go W Q h7 4 25 142 #[.val (.long p0), .second, .val (.long p2), .second, .val (.long p4), .second, .val (.int p6), .val (.int p7), .val (.int p8), .val (.ref a1), .val (.ref a2), .val (.int (0 : Int32)), .val (.int (1 : Int32)), .val (.int (0 : Int32)), .val (.long p0), .second, .val (.long p0), .second, .val (.long p2), .second, .val (.int z6), .val (.int (0 : Int32)), .val (.int (0 : Int32)), .val (.long p4), .second, .unset, .unset] []
            refine g_iconst (pc' := 143) (z := (1 : Int32)) C at_142 rfl rfl ?_
            refine g_istore (pc' := 145) (L' := #[.val (.long p0), .second, .val (.long p2), .second, .val (.long p4), .second, .val (.int p6), .val (.int p7), .val (.int p8), .val (.ref a1), .val (.ref a2), .val (.int (0 : Int32)), .val (.int (1 : Int32)), .val (.int (0 : Int32)), .val (.long p0), .second, .val (.long p0), .second, .val (.long p2), .second, .val (.int z6), .val (.int (1 : Int32)), .val (.int (0 : Int32)), .val (.long p4), .second, .unset, .unset]) C at_143 rfl rfl ?_
            refine g_lload (pc' := 147) C at_145 rfl rfl ?_
            refine g_lload (pc' := 149) C at_147 rfl rfl ?_
            refine g_lsub (pc' := 150) C at_149 rfl ?_
            refine g_lstore (pc' := 152) (L' := #[.val (.long p0), .second, .val (.long p2), .second, .val (.long p4), .second, .val (.int p6), .val (.int p7), .val (.int p8), .val (.ref a1), .val (.ref a2), .val (.int (0 : Int32)), .val (.int (1 : Int32)), .val (.int (0 : Int32)), .val (.long p0), .second, .val (.long p0), .second, .val (.long p2), .second, .val (.int z6), .val (.int (1 : Int32)), .val (.int (0 : Int32)), .val (.long (p4 - p0)), .second, .unset, .unset]) C at_150 rfl rfl ?_
            exact K_124 h7 (1 : Int32) ((rfl : (1 : Int32) = b2i True).trans (b2i_iff ((and_iff_right c124).trans (iff_true_intro c131)).symm)) (p4 - p0) (((if_neg c131).symm).trans (if_neg c124).symm) (1 : Int32) ((rfl : (1 : Int32) = b2i True).trans (b2i_iff ((and_iff_right c124).trans (iff_true_intro c131)).symm)) (p4 - p0) (((if_neg c131).symm).trans (if_neg c124).symm) ((0 : Int32) + 1) (((if_neg c131).symm).trans (if_neg c124).symm) B
      intro h6
      intro z7 e_z7
      intro j8 e_j8
      intro z9 e_z9
      intro j10 e_j10
      intro i11 e_i11
      intro B
      refine g_iload (pc' := 154) C at_152 rfl rfl ?_
      refine g_iconst (pc' := 155) (z := (2 : Int32)) C at_154 rfl rfl ?_
      refine g_iand (pc' := 156) C at_155 rfl ?_
      suffices K_156 : ∀ (h8 : Heap), ∀ z12 : Int32, z12 = b2i ((¬ ((p8 &&& (2 : Int32)).toInt = 0)) ∧ (¬ (j8.toInt < p2.toInt))) → ∀ j13 : Int64, j13 = (if (p8 &&& (2 : Int32)).toInt = 0 then j8 else (if j8.toInt < p2.toInt then j8 else (j8 - p2))) → ∀ z14 : Int32, z14 = b2i ((¬ ((p8 &&& (2 : Int32)).toInt = 0)) ∧ (¬ (j8.toInt < p2.toInt))) → ∀ j15 : Int64, j15 = (if (p8 &&& (2 : Int32)).toInt = 0 then j10 else (if j8.toInt < p2.toInt then j10 else (j10 - p2))) → ∀ i16 : Int32, i16 = (if (p8 &&& (2 : Int32)).toInt = 0 then i11 else (if j8.toInt < p2.toInt then i11 else (i11 + 1))) → BS Z h8 a2 a1 b2 b3 p0 p2 z9 z14 j15 i16 → Go W Q h8 4 25 184 #[.val (.long p0), .second, .val (.long p2), .second, .val (.long p4), .second, .val (.int p6), .val (.int p7), .val (.int p8), .val (.ref a1), .val (.ref a2), .val (.int (0 : Int32)), .val (.int (1 : Int32)), .val (.int (0 : Int32)), .val (.long p0), .second, .val (.long p0), .second, .val (.long p2), .second, .val (.int z6), .val (.int z7), .val (.int z12), .val (.long j13), .second, .unset, .unset] [] by
        refine g_if (xi := (p8 &&& (2 : Int32)).toInt) (pc1 := 184) (pc2 := 159) C at_156 (by decide) rfl rfl rfl (fun (c156 : (p8 &&& (2 : Int32)).toInt = 0) => ?_) (fun (c156 : ¬ ((p8 &&& (2 : Int32)).toInt = 0)) => ?_)
        ·
          exact K_156 h6 (0 : Int32) ((rfl : (0 : Int32) = b2i False).trans (b2i_iff (iff_false_intro (fun y => (fun y => y c156) y.1)).symm)) j8 ((if_pos c156).symm) (0 : Int32) ((rfl : (0 : Int32) = b2i False).trans (b2i_iff (iff_false_intro (fun y => (fun y => y c156) y.1)).symm)) j10 ((if_pos c156).symm) i11 ((if_pos c156).symm) B
        ·
          refine g_lload (pc' := 161) C at_159 rfl rfl ?_
          refine g_lload (pc' := 163) C at_161 rfl rfl ?_
          refine g_lcmp (cd := .gt) (xi := p2.toInt) (yi := j8.toInt) (pc' := 164) (pc1 := 184) (pc2 := 167) C at_163 at_164 rfl (by decide) rfl rfl rfl rfl (fun (c163 : j8.toInt < p2.toInt) => ?_) (fun (c163 : ¬ (j8.toInt < p2.toInt)) => ?_)
          ·
            exact K_156 h6 (0 : Int32) ((rfl : (0 : Int32) = b2i False).trans (b2i_iff ((and_iff_right c156).trans (iff_false_intro (fun y => y c163))).symm)) j8 (((if_pos c163).symm).trans (if_neg c156).symm) (0 : Int32) ((rfl : (0 : Int32) = b2i False).trans (b2i_iff ((and_iff_right c156).trans (iff_false_intro (fun y => y c163))).symm)) j10 (((if_pos c163).symm).trans (if_neg c156).symm) i11 (((if_pos c163).symm).trans (if_neg c156).symm) B
          ·
            refine g_aload (pc' := 169) C at_167 rfl rfl rfl ?_
            refine g_iload (pc' := 171) C at_169 rfl rfl ?_
            refine g_virtual (y := (⟨"com/example/ripplecast/ripplecast/BudgetedSeeds", "add", "(I)V"⟩ : MethodName)) (a := a2) (pc' := 174) (k' := 4) (n' := 25) (S := []) (as := [(.int (1 : Int32))]) C at_171 rfl (hw _ (List.mem_of_getElem? (i := 25) rfl)) (hw _ (List.mem_of_getElem? (i := 27) rfl)) (hw _ (List.mem_of_getElem? (i := 3) rfl)) (hw _ (List.mem_of_getElem? (i := 29) rfl)) (hw _ (List.mem_of_getElem? (i := 26) rfl)) (hw _ (List.mem_of_getElem? (i := 28) rfl)) (by decide) B.1.1 (lenOf pd_2 rfl) (con_4_1 W.l Z a0 hw a2 a1 b2 b3 p0 p2 z9 (0 : Int32) j10 i11 (by rw [e_i11]; (repeat' split) <;> decide) (by rw [e_i11]; (repeat' split) <;> decide) (Ne.symm n_a1_a2) n1 n2 n3 n4 g23 h6 B) rfl rfl (Nat.le_of_ble_eq_true rfl) (Nat.le_of_ble_eq_true rfl) rfl rfl (Nat.le_of_ble_eq_true rfl) (Nat.le_of_ble_eq_true rfl) (allS w_a2 (allS pwb2 (allS pwb3 all0))) fun vh9 h9 qh9 Kh9 => ?_
            obtain ⟨rfl, B⟩ := qh9
            show Go W Q h9 4 25 174 #[.val (.long p0), .second, .val (.long p2), .second, .val (.long p4), .second, .val (.int p6), .val (.int p7), .val (.int p8), .val (.ref a1), .val (.ref a2), .val (.int (0 : Int32)), .val (.int (1 : Int32)), .val (.int (0 : Int32)), .val (.long p0), .second, .val (.long p0), .second, .val (.long p2), .second, .val (.int z6), .val (.int z7), .val (.int (0 : Int32)), .val (.long j8), .second, .unset, .unset] []
            refine g_iconst (pc' := 175) (z := (1 : Int32)) C at_174 rfl rfl ?_
            refine g_istore (pc' := 177) (L' := #[.val (.long p0), .second, .val (.long p2), .second, .val (.long p4), .second, .val (.int p6), .val (.int p7), .val (.int p8), .val (.ref a1), .val (.ref a2), .val (.int (0 : Int32)), .val (.int (1 : Int32)), .val (.int (0 : Int32)), .val (.long p0), .second, .val (.long p0), .second, .val (.long p2), .second, .val (.int z6), .val (.int z7), .val (.int (1 : Int32)), .val (.long j8), .second, .unset, .unset]) C at_175 rfl rfl ?_
            refine g_lload (pc' := 179) C at_177 rfl rfl ?_
            refine g_lload (pc' := 181) C at_179 rfl rfl ?_
            refine g_lsub (pc' := 182) C at_181 rfl ?_
            refine g_lstore (pc' := 184) (L' := #[.val (.long p0), .second, .val (.long p2), .second, .val (.long p4), .second, .val (.int p6), .val (.int p7), .val (.int p8), .val (.ref a1), .val (.ref a2), .val (.int (0 : Int32)), .val (.int (1 : Int32)), .val (.int (0 : Int32)), .val (.long p0), .second, .val (.long p0), .second, .val (.long p2), .second, .val (.int z6), .val (.int z7), .val (.int (1 : Int32)), .val (.long (j8 - p2)), .second, .unset, .unset]) C at_182 rfl rfl ?_
            exact K_156 h9 (1 : Int32) ((rfl : (1 : Int32) = b2i True).trans (b2i_iff ((and_iff_right c156).trans (iff_true_intro c163)).symm)) (j8 - p2) (((if_neg c163).symm).trans (if_neg c156).symm) (1 : Int32) ((rfl : (1 : Int32) = b2i True).trans (b2i_iff ((and_iff_right c156).trans (iff_true_intro c163)).symm)) (j10 - p2) (((if_neg c163).symm).trans (if_neg c156).symm) (i11 + 1) (((if_neg c163).symm).trans (if_neg c156).symm) B
      intro h8
      intro z12 e_z12
      intro j13 e_j13
      intro z14 e_z14
      intro j15 e_j15
      intro i16 e_i16
      intro B
      refine g_iload (pc' := 186) C at_184 rfl rfl ?_
      refine g_iload (pc' := 188) C at_186 rfl rfl ?_
      refine g_icmpN (xi := 0) (yi := 0) (pc2 := 191) C at_188 rfl rfl rfl (by decide) ?_
      refine g_iload (pc' := 193) C at_191 rfl rfl ?_
      refine g_goto C at_193 (by decide) (pc' := 198) rfl ?_
      refine g_istore (pc' := 200) (L' := #[.val (.long p0), .second, .val (.long p2), .second, .val (.long p4), .second, .val (.int p6), .val (.int p7), .val (.int p8), .val (.ref a1), .val (.ref a2), .val (.int (0 : Int32)), .val (.int (1 : Int32)), .val (.int (0 : Int32)), .val (.long p0), .second, .val (.long p0), .second, .val (.long p2), .second, .val (.int z6), .val (.int z7), .val (.int z12), .val (.long j13), .second, .val (.int z7), .unset]) C at_198 rfl rfl ?_
      refine g_iload (pc' := 202) C at_200 rfl rfl ?_
      suffices K_202 : ∀ (Bz17 : Bool) (z17 : Int32), Bz17 = decide ((¬ ((¬ ((p8 &&& (1 : Int32)).toInt = 0)) ∧ (¬ (p4.toInt < p0.toInt)))) ∧ (¬ (j13.toInt < p0.toInt))) → z17 = b2i (Bz17 = true) → Go W Q h8 4 25 218 #[.val (.long p0), .second, .val (.long p2), .second, .val (.long p4), .second, .val (.int p6), .val (.int p7), .val (.int p8), .val (.ref a1), .val (.ref a2), .val (.int (0 : Int32)), .val (.int (1 : Int32)), .val (.int (0 : Int32)), .val (.long p0), .second, .val (.long p0), .second, .val (.long p2), .second, .val (.int z6), .val (.int z7), .val (.int z12), .val (.long j13), .second, .val (.int z7), .unset] [(.int z17)] by
        refine g_ifneb (pc1 := 217) (pc2 := 205) C at_202 (by decide) rfl rfl e_z7 (fun (c202 : (¬ ((p8 &&& (1 : Int32)).toInt = 0)) ∧ (¬ (p4.toInt < p0.toInt))) => ?_) (fun (c202 : ¬ ((¬ ((p8 &&& (1 : Int32)).toInt = 0)) ∧ (¬ (p4.toInt < p0.toInt)))) => ?_)
        ·
          refine g_iconst (pc' := 218) (z := (0 : Int32)) C at_217 rfl rfl ?_
          exact K_202 (decide ((¬ ((¬ ((p8 &&& (1 : Int32)).toInt = 0)) ∧ (¬ (p4.toInt < p0.toInt)))) ∧ (¬ (j13.toInt < p0.toInt)))) (0 : Int32) rfl ((rfl : (0 : Int32) = b2i False).trans (b2i_iff ((iff_false_intro (fun y => (fun y => y c202) y.1)).symm.trans decide_eq_true_iff.symm)))
        ·
          refine g_lload (pc' := 207) C at_205 rfl rfl ?_
          refine g_lload (pc' := 209) C at_207 rfl rfl ?_
          refine g_lcmp (cd := .gt) (xi := p0.toInt) (yi := j13.toInt) (pc' := 210) (pc1 := 217) (pc2 := 213) C at_209 at_210 rfl (by decide) rfl rfl rfl rfl (fun (c209 : j13.toInt < p0.toInt) => ?_) (fun (c209 : ¬ (j13.toInt < p0.toInt)) => ?_)
          ·
            refine g_iconst (pc' := 218) (z := (0 : Int32)) C at_217 rfl rfl ?_
            exact K_202 (decide ((¬ ((¬ ((p8 &&& (1 : Int32)).toInt = 0)) ∧ (¬ (p4.toInt < p0.toInt)))) ∧ (¬ (j13.toInt < p0.toInt)))) (0 : Int32) rfl ((rfl : (0 : Int32) = b2i False).trans (b2i_iff (((and_iff_right c202).trans (iff_false_intro (fun y => y c209))).symm.trans decide_eq_true_iff.symm)))
          ·
            refine g_iconst (pc' := 214) (z := (1 : Int32)) C at_213 rfl rfl ?_
            refine g_goto C at_214 (by decide) (pc' := 218) rfl ?_
            exact K_202 (decide ((¬ ((¬ ((p8 &&& (1 : Int32)).toInt = 0)) ∧ (¬ (p4.toInt < p0.toInt)))) ∧ (¬ (j13.toInt < p0.toInt)))) (1 : Int32) rfl ((rfl : (1 : Int32) = b2i True).trans (b2i_iff (((and_iff_right c202).trans (iff_true_intro c209)).symm.trans decide_eq_true_iff.symm)))
      intro Bz17 z17 bd_z17 e_z17
      have b_z17 : Bz17 = true ↔ ((¬ ((¬ ((p8 &&& (1 : Int32)).toInt = 0)) ∧ (¬ (p4.toInt < p0.toInt)))) ∧ (¬ (j13.toInt < p0.toInt))) := by rw [bd_z17]; exact decide_eq_true_iff
      refine g_istore (pc' := 220) (L' := #[.val (.long p0), .second, .val (.long p2), .second, .val (.long p4), .second, .val (.int p6), .val (.int p7), .val (.int p8), .val (.ref a1), .val (.ref a2), .val (.int (0 : Int32)), .val (.int (1 : Int32)), .val (.int (0 : Int32)), .val (.long p0), .second, .val (.long p0), .second, .val (.long p2), .second, .val (.int z6), .val (.int z7), .val (.int z12), .val (.long j13), .second, .val (.int z7), .val (.int z17)]) C at_218 rfl rfl ?_
      refine g_iload (pc' := 222) C at_220 rfl rfl ?_
      suffices K_222 : ∀ (Bz18 : Bool) (z18 : Int32), Bz18 = decide ((((¬ (False) ∧ p0.toInt ≤ p4.toInt)) ↔ (¬ (p4.toInt < p0.toInt))) ∧ (((¬ (((¬ ((p8 &&& (1 : Int32)).toInt = 0)) ∧ (¬ (p4.toInt < p0.toInt)))) ∧ p0.toInt ≤ j15.toInt)) ↔ (Bz17 = true))) → z18 = b2i (Bz18 = true) → Go W Q h8 4 25 242 #[.val (.long p0), .second, .val (.long p2), .second, .val (.long p4), .second, .val (.int p6), .val (.int p7), .val (.int p8), .val (.ref a1), .val (.ref a2), .val (.int (0 : Int32)), .val (.int (1 : Int32)), .val (.int (0 : Int32)), .val (.long p0), .second, .val (.long p0), .second, .val (.long p2), .second, .val (.int z6), .val (.int z7), .val (.int z12), .val (.long j13), .second, .val (.int z7), .val (.int z17)] [(.int z18)] by
        refine g_ifeqb (pc1 := 241) (pc2 := 225) C at_222 (by decide) rfl rfl e_z6 (fun (c222 : ¬ (((¬ (False) ∧ p0.toInt ≤ p4.toInt)) ↔ (¬ (p4.toInt < p0.toInt)))) => ?_) (fun (c222 : ((¬ (False) ∧ p0.toInt ≤ p4.toInt)) ↔ (¬ (p4.toInt < p0.toInt))) => ?_)
        ·
          refine g_iconst (pc' := 242) (z := (0 : Int32)) C at_241 rfl rfl ?_
          exact K_222 (decide ((((¬ (False) ∧ p0.toInt ≤ p4.toInt)) ↔ (¬ (p4.toInt < p0.toInt))) ∧ (((¬ (((¬ ((p8 &&& (1 : Int32)).toInt = 0)) ∧ (¬ (p4.toInt < p0.toInt)))) ∧ p0.toInt ≤ j15.toInt)) ↔ (Bz17 = true)))) (0 : Int32) rfl ((rfl : (0 : Int32) = b2i False).trans (b2i_iff ((iff_false_intro (fun y => c222 y.1)).symm.trans decide_eq_true_iff.symm)))
        ·
          refine g_aload (pc' := 227) C at_225 rfl rfl rfl ?_
          refine g_iload (pc' := 229) C at_227 rfl rfl ?_
          refine g_virtualP (y := (⟨"com/example/ripplecast/ripplecast/BudgetedSeeds", "fits", "(I)Z"⟩ : MethodName)) (a := a2) (pc' := 232) (k' := 4) (n' := 25) (S := []) (as := [(.int (0 : Int32))]) C at_229 rfl (hw _ (List.mem_of_getElem? (i := 20) rfl)) (hw _ (List.mem_of_getElem? (i := 22) rfl)) (hw _ (List.mem_of_getElem? (i := 3) rfl)) (hw _ (List.mem_of_getElem? (i := 24) rfl)) (hw _ (List.mem_of_getElem? (i := 21) rfl)) (hw _ (List.mem_of_getElem? (i := 23) rfl)) (by decide) B.1.1 (lenOf pd_1 rfl) (con_3_0 W.l Z a0 hw a2 a1 b2 b3 p0 p2 z9 z14 ((¬ ((p8 &&& (1 : Int32)).toInt = 0)) ∧ (¬ (p4.toInt < p0.toInt))) ((¬ ((p8 &&& (2 : Int32)).toInt = 0)) ∧ (¬ (j8.toInt < p2.toInt))) e_z9 e_z14 j15 i16 h8 B) rfl rfl (Nat.le_of_ble_eq_true rfl) (Nat.le_of_ble_eq_true rfl) rfl rfl (Nat.le_of_ble_eq_true rfl) (Nat.le_of_ble_eq_true rfl) (S1 := [(.int (b2i (¬ (((¬ ((p8 &&& (1 : Int32)).toInt = 0)) ∧ (¬ (p4.toInt < p0.toInt)))) ∧ p0.toInt ≤ j15.toInt)))]) rfl ?_
          refine g_iload (pc' := 234) C at_232 rfl rfl ?_
          refine g_icmpbne (pc1 := 241) (pc2 := 237) C at_234 (by decide) rfl rfl rfl e_z17 (fun (c234 : ¬ (((¬ (((¬ ((p8 &&& (1 : Int32)).toInt = 0)) ∧ (¬ (p4.toInt < p0.toInt)))) ∧ p0.toInt ≤ j15.toInt)) ↔ (Bz17 = true))) => ?_) (fun (c234 : ((¬ (((¬ ((p8 &&& (1 : Int32)).toInt = 0)) ∧ (¬ (p4.toInt < p0.toInt)))) ∧ p0.toInt ≤ j15.toInt)) ↔ (Bz17 = true)) => ?_)
          ·
            refine g_iconst (pc' := 242) (z := (0 : Int32)) C at_241 rfl rfl ?_
            exact K_222 (decide ((((¬ (False) ∧ p0.toInt ≤ p4.toInt)) ↔ (¬ (p4.toInt < p0.toInt))) ∧ (((¬ (((¬ ((p8 &&& (1 : Int32)).toInt = 0)) ∧ (¬ (p4.toInt < p0.toInt)))) ∧ p0.toInt ≤ j15.toInt)) ↔ (Bz17 = true)))) (0 : Int32) rfl ((rfl : (0 : Int32) = b2i False).trans (b2i_iff (((and_iff_right c222).trans (iff_false_intro c234)).symm.trans decide_eq_true_iff.symm)))
          ·
            refine g_iconst (pc' := 238) (z := (1 : Int32)) C at_237 rfl rfl ?_
            refine g_goto C at_238 (by decide) (pc' := 242) rfl ?_
            exact K_222 (decide ((((¬ (False) ∧ p0.toInt ≤ p4.toInt)) ↔ (¬ (p4.toInt < p0.toInt))) ∧ (((¬ (((¬ ((p8 &&& (1 : Int32)).toInt = 0)) ∧ (¬ (p4.toInt < p0.toInt)))) ∧ p0.toInt ≤ j15.toInt)) ↔ (Bz17 = true)))) (1 : Int32) rfl ((rfl : (1 : Int32) = b2i True).trans (b2i_iff (((and_iff_right c222).trans (iff_true_intro c234)).symm.trans decide_eq_true_iff.symm)))
      intro Bz18 z18 bd_z18 e_z18
      have b_z18 : Bz18 = true ↔ ((((¬ (False) ∧ p0.toInt ≤ p4.toInt)) ↔ (¬ (p4.toInt < p0.toInt))) ∧ (((¬ (((¬ ((p8 &&& (1 : Int32)).toInt = 0)) ∧ (¬ (p4.toInt < p0.toInt)))) ∧ p0.toInt ≤ j15.toInt)) ↔ (Bz17 = true))) := by rw [bd_z18]; exact decide_eq_true_iff
      refine g_retN C (by simp) at_242 (by decide) (by decide) ?_
      subst hQ
      refine congrArg (fun z => some (Value.int z)) (?_ : nar .boolean z18 = 1)
      rw [e_z18, nar_b2i]
      refine b2i_pos ?_
      rw [b_z18]
      have hh : j15 = j13 := by subst_vars; rfl
      rw [b_z17]
      rw [hh]
      simp only [not_false_eq_true, true_and]
      refine ⟨by omega, by omega⟩
    ·
      refine g_iload (pc' := 46) C at_44 rfl rfl ?_
      refine g_ifY (xi := 1) (pc1 := 53) C at_46 (by decide) rfl rfl (by decide) ?_
      refine g_lloadN (pc' := 54) C at_53 rfl rfl ?_
      refine g_lstore (pc' := 56) (L' := #[.val (.long p0), .second, .val (.long p2), .second, .val (.long p4), .second, .val (.int p6), .val (.int p7), .val (.int p8), .val (.ref a1), .val (.ref a2), .val (.int (0 : Int32)), .val (.int (1 : Int32)), .val (.int (1 : Int32)), .val (.long p2), .second, .unset, .unset, .unset, .unset, .unset, .unset, .unset, .unset, .unset, .unset, .unset]) C at_54 rfl rfl ?_
      refine g_iload (pc' := 58) C at_56 rfl rfl ?_
      refine g_ifN (xi := 0) (pc2 := 61) C at_58 rfl rfl (by decide) ?_
      refine g_lloadN (pc' := 62) C at_61 rfl rfl ?_
      refine g_goto C at_62 (by decide) (pc' := 66) rfl ?_
      refine g_lstore (pc' := 68) (L' := #[.val (.long p0), .second, .val (.long p2), .second, .val (.long p4), .second, .val (.int p6), .val (.int p7), .val (.int p8), .val (.ref a1), .val (.ref a2), .val (.int (0 : Int32)), .val (.int (1 : Int32)), .val (.int (1 : Int32)), .val (.long p2), .second, .val (.long p0), .second, .unset, .unset, .unset, .unset, .unset, .unset, .unset, .unset, .unset]) C at_66 rfl rfl ?_
      refine g_iload (pc' := 70) C at_68 rfl rfl ?_
      refine g_ifY (xi := 1) (pc1 := 77) C at_70 (by decide) rfl rfl (by decide) ?_
      refine g_lloadN (pc' := 78) C at_77 rfl rfl ?_
      refine g_lstore (pc' := 80) (L' := #[.val (.long p0), .second, .val (.long p2), .second, .val (.long p4), .second, .val (.int p6), .val (.int p7), .val (.int p8), .val (.ref a1), .val (.ref a2), .val (.int (0 : Int32)), .val (.int (1 : Int32)), .val (.int (1 : Int32)), .val (.long p2), .second, .val (.long p0), .second, .val (.long p2), .second, .unset, .unset, .unset, .unset, .unset, .unset, .unset]) C at_78 rfl rfl ?_
      refine g_aload (pc' := 82) C at_80 rfl rfl rfl ?_
      refine g_iload (pc' := 84) C at_82 rfl rfl ?_
      refine g_virtualP (y := (⟨"com/example/ripplecast/ripplecast/BudgetedSeeds", "fits", "(I)Z"⟩ : MethodName)) (a := a2) (pc' := 87) (k' := 4) (n' := 25) (S := []) (as := [(.int (1 : Int32))]) C at_84 rfl (hw _ (List.mem_of_getElem? (i := 20) rfl)) (hw _ (List.mem_of_getElem? (i := 22) rfl)) (hw _ (List.mem_of_getElem? (i := 3) rfl)) (hw _ (List.mem_of_getElem? (i := 24) rfl)) (hw _ (List.mem_of_getElem? (i := 21) rfl)) (hw _ (List.mem_of_getElem? (i := 23) rfl)) (by decide) B.1.1 (lenOf pd_1 rfl) (con_3_1 W.l Z a0 hw a2 a1 b2 b3 p0 p2 (0 : Int32) (0 : Int32) False False rfl rfl p4 (0 : Int32) h5 B) rfl rfl (Nat.le_of_ble_eq_true rfl) (Nat.le_of_ble_eq_true rfl) rfl rfl (Nat.le_of_ble_eq_true rfl) (Nat.le_of_ble_eq_true rfl) (S1 := [(.int (b2i (¬ (False) ∧ p2.toInt ≤ p4.toInt)))]) rfl ?_
      refine g_lload (pc' := 89) C at_87 rfl rfl ?_
      refine g_lload (pc' := 91) C at_89 rfl rfl ?_
      suffices K_91 : ∀ z19 : Int32, z19 = b2i (¬ (p4.toInt < p2.toInt)) → Go W Q h5 4 25 100 #[.val (.long p0), .second, .val (.long p2), .second, .val (.long p4), .second, .val (.int p6), .val (.int p7), .val (.int p8), .val (.ref a1), .val (.ref a2), .val (.int (0 : Int32)), .val (.int (1 : Int32)), .val (.int (1 : Int32)), .val (.long p2), .second, .val (.long p0), .second, .val (.long p2), .second, .unset, .unset, .unset, .unset, .unset, .unset, .unset] [(.int z19), (.int (b2i (¬ (False) ∧ p2.toInt ≤ p4.toInt)))] by
        refine g_lcmp (cd := .gt) (xi := p2.toInt) (yi := p4.toInt) (pc' := 92) (pc1 := 99) (pc2 := 95) C at_91 at_92 rfl (by decide) rfl rfl rfl rfl (fun (c91 : p4.toInt < p2.toInt) => ?_) (fun (c91 : ¬ (p4.toInt < p2.toInt)) => ?_)
        ·
          refine g_iconst (pc' := 100) (z := (0 : Int32)) C at_99 rfl rfl ?_
          exact K_91 (0 : Int32) ((rfl : (0 : Int32) = b2i False).trans (b2i_iff (iff_false_intro (fun y => y c91)).symm))
        ·
          refine g_iconst (pc' := 96) (z := (1 : Int32)) C at_95 rfl rfl ?_
          refine g_goto C at_96 (by decide) (pc' := 100) rfl ?_
          exact K_91 (1 : Int32) ((rfl : (1 : Int32) = b2i True).trans (b2i_iff (iff_true_intro c91).symm))
      intro z19 e_z19
      suffices K_100 : ∀ z20 : Int32, z20 = b2i (((¬ (False) ∧ p2.toInt ≤ p4.toInt)) ↔ (¬ (p4.toInt < p2.toInt))) → Go W Q h5 4 25 108 #[.val (.long p0), .second, .val (.long p2), .second, .val (.long p4), .second, .val (.int p6), .val (.int p7), .val (.int p8), .val (.ref a1), .val (.ref a2), .val (.int (0 : Int32)), .val (.int (1 : Int32)), .val (.int (1 : Int32)), .val (.long p2), .second, .val (.long p0), .second, .val (.long p2), .second, .unset, .unset, .unset, .unset, .unset, .unset, .unset] [(.int z20)] by
        refine g_icmpbne (pc1 := 107) (pc2 := 103) C at_100 (by decide) rfl rfl rfl e_z19 (fun (c100 : ¬ (((¬ (False) ∧ p2.toInt ≤ p4.toInt)) ↔ (¬ (p4.toInt < p2.toInt)))) => ?_) (fun (c100 : ((¬ (False) ∧ p2.toInt ≤ p4.toInt)) ↔ (¬ (p4.toInt < p2.toInt))) => ?_)
        ·
          refine g_iconst (pc' := 108) (z := (0 : Int32)) C at_107 rfl rfl ?_
          exact K_100 (0 : Int32) ((rfl : (0 : Int32) = b2i False).trans (b2i_iff (iff_false_intro c100).symm))
        ·
          refine g_iconst (pc' := 104) (z := (1 : Int32)) C at_103 rfl rfl ?_
          refine g_goto C at_104 (by decide) (pc' := 108) rfl ?_
          exact K_100 (1 : Int32) ((rfl : (1 : Int32) = b2i True).trans (b2i_iff (iff_true_intro c100).symm))
      intro z20 e_z20
      refine g_istore (pc' := 110) (L' := #[.val (.long p0), .second, .val (.long p2), .second, .val (.long p4), .second, .val (.int p6), .val (.int p7), .val (.int p8), .val (.ref a1), .val (.ref a2), .val (.int (0 : Int32)), .val (.int (1 : Int32)), .val (.int (1 : Int32)), .val (.long p2), .second, .val (.long p0), .second, .val (.long p2), .second, .val (.int z20), .unset, .unset, .unset, .unset, .unset, .unset]) C at_108 rfl rfl ?_
      refine g_iconst (pc' := 111) (z := (0 : Int32)) C at_110 rfl rfl ?_
      refine g_istore (pc' := 113) (L' := #[.val (.long p0), .second, .val (.long p2), .second, .val (.long p4), .second, .val (.int p6), .val (.int p7), .val (.int p8), .val (.ref a1), .val (.ref a2), .val (.int (0 : Int32)), .val (.int (1 : Int32)), .val (.int (1 : Int32)), .val (.long p2), .second, .val (.long p0), .second, .val (.long p2), .second, .val (.int z20), .val (.int (0 : Int32)), .unset, .unset, .unset, .unset, .unset]) C at_111 rfl rfl ?_
      refine g_iconst (pc' := 114) (z := (0 : Int32)) C at_113 rfl rfl ?_
      refine g_istore (pc' := 116) (L' := #[.val (.long p0), .second, .val (.long p2), .second, .val (.long p4), .second, .val (.int p6), .val (.int p7), .val (.int p8), .val (.ref a1), .val (.ref a2), .val (.int (0 : Int32)), .val (.int (1 : Int32)), .val (.int (1 : Int32)), .val (.long p2), .second, .val (.long p0), .second, .val (.long p2), .second, .val (.int z20), .val (.int (0 : Int32)), .val (.int (0 : Int32)), .unset, .unset, .unset, .unset]) C at_114 rfl rfl ?_
      refine g_lload (pc' := 118) C at_116 rfl rfl ?_
      refine g_lstore (pc' := 120) (L' := #[.val (.long p0), .second, .val (.long p2), .second, .val (.long p4), .second, .val (.int p6), .val (.int p7), .val (.int p8), .val (.ref a1), .val (.ref a2), .val (.int (0 : Int32)), .val (.int (1 : Int32)), .val (.int (1 : Int32)), .val (.long p2), .second, .val (.long p0), .second, .val (.long p2), .second, .val (.int z20), .val (.int (0 : Int32)), .val (.int (0 : Int32)), .val (.long p4), .second, .unset, .unset]) C at_118 rfl rfl ?_
      refine g_iload (pc' := 122) C at_120 rfl rfl ?_
      refine g_iconst (pc' := 123) (z := (1 : Int32)) C at_122 rfl rfl ?_
      refine g_iand (pc' := 124) C at_123 rfl ?_
      suffices K_124 : ∀ (h10 : Heap), ∀ z21 : Int32, z21 = b2i ((¬ ((p8 &&& (1 : Int32)).toInt = 0)) ∧ (¬ (p4.toInt < p0.toInt))) → ∀ j22 : Int64, j22 = (if (p8 &&& (1 : Int32)).toInt = 0 then p4 else (if p4.toInt < p0.toInt then p4 else (p4 - p0))) → ∀ z23 : Int32, z23 = b2i ((¬ ((p8 &&& (1 : Int32)).toInt = 0)) ∧ (¬ (p4.toInt < p0.toInt))) → ∀ j24 : Int64, j24 = (if (p8 &&& (1 : Int32)).toInt = 0 then p4 else (if p4.toInt < p0.toInt then p4 else (p4 - p0))) → ∀ i25 : Int32, i25 = (if (p8 &&& (1 : Int32)).toInt = 0 then (0 : Int32) else (if p4.toInt < p0.toInt then (0 : Int32) else ((0 : Int32) + 1))) → BS Z h10 a2 a1 b2 b3 p0 p2 z23 (0 : Int32) j24 i25 → Go W Q h10 4 25 152 #[.val (.long p0), .second, .val (.long p2), .second, .val (.long p4), .second, .val (.int p6), .val (.int p7), .val (.int p8), .val (.ref a1), .val (.ref a2), .val (.int (0 : Int32)), .val (.int (1 : Int32)), .val (.int (1 : Int32)), .val (.long p2), .second, .val (.long p0), .second, .val (.long p2), .second, .val (.int z20), .val (.int z21), .val (.int (0 : Int32)), .val (.long j22), .second, .unset, .unset] [] by
        refine g_if (xi := (p8 &&& (1 : Int32)).toInt) (pc1 := 152) (pc2 := 127) C at_124 (by decide) rfl rfl rfl (fun (c124 : (p8 &&& (1 : Int32)).toInt = 0) => ?_) (fun (c124 : ¬ ((p8 &&& (1 : Int32)).toInt = 0)) => ?_)
        ·
          exact K_124 h5 (0 : Int32) ((rfl : (0 : Int32) = b2i False).trans (b2i_iff (iff_false_intro (fun y => (fun y => y c124) y.1)).symm)) p4 ((if_pos c124).symm) (0 : Int32) ((rfl : (0 : Int32) = b2i False).trans (b2i_iff (iff_false_intro (fun y => (fun y => y c124) y.1)).symm)) p4 ((if_pos c124).symm) (0 : Int32) ((if_pos c124).symm) B
        ·
          refine g_lload (pc' := 129) C at_127 rfl rfl ?_
          refine g_lload (pc' := 131) C at_129 rfl rfl ?_
          refine g_lcmp (cd := .gt) (xi := p0.toInt) (yi := p4.toInt) (pc' := 132) (pc1 := 152) (pc2 := 135) C at_131 at_132 rfl (by decide) rfl rfl rfl rfl (fun (c131 : p4.toInt < p0.toInt) => ?_) (fun (c131 : ¬ (p4.toInt < p0.toInt)) => ?_)
          ·
            exact K_124 h5 (0 : Int32) ((rfl : (0 : Int32) = b2i False).trans (b2i_iff ((and_iff_right c124).trans (iff_false_intro (fun y => y c131))).symm)) p4 (((if_pos c131).symm).trans (if_neg c124).symm) (0 : Int32) ((rfl : (0 : Int32) = b2i False).trans (b2i_iff ((and_iff_right c124).trans (iff_false_intro (fun y => y c131))).symm)) p4 (((if_pos c131).symm).trans (if_neg c124).symm) (0 : Int32) (((if_pos c131).symm).trans (if_neg c124).symm) B
          ·
            refine g_aload (pc' := 137) C at_135 rfl rfl rfl ?_
            refine g_iload (pc' := 139) C at_137 rfl rfl ?_
            refine g_virtual (y := (⟨"com/example/ripplecast/ripplecast/BudgetedSeeds", "add", "(I)V"⟩ : MethodName)) (a := a2) (pc' := 142) (k' := 4) (n' := 25) (S := []) (as := [(.int (0 : Int32))]) C at_139 rfl (hw _ (List.mem_of_getElem? (i := 25) rfl)) (hw _ (List.mem_of_getElem? (i := 27) rfl)) (hw _ (List.mem_of_getElem? (i := 3) rfl)) (hw _ (List.mem_of_getElem? (i := 29) rfl)) (hw _ (List.mem_of_getElem? (i := 26) rfl)) (hw _ (List.mem_of_getElem? (i := 28) rfl)) (by decide) B.1.1 (lenOf pd_2 rfl) (con_4_0 W.l Z a0 hw a2 a1 b2 b3 p0 p2 (0 : Int32) (0 : Int32) p4 (0 : Int32) (by decide) (by decide) (Ne.symm n_a1_a2) n1 n2 n3 n4 g23 h5 B) rfl rfl (Nat.le_of_ble_eq_true rfl) (Nat.le_of_ble_eq_true rfl) rfl rfl (Nat.le_of_ble_eq_true rfl) (Nat.le_of_ble_eq_true rfl) (allS w_a2 (allS pwb2 (allS pwb3 all0))) fun vh11 h11 qh11 Kh11 => ?_
            obtain ⟨rfl, B⟩ := qh11
            show Go W Q h11 4 25 142 #[.val (.long p0), .second, .val (.long p2), .second, .val (.long p4), .second, .val (.int p6), .val (.int p7), .val (.int p8), .val (.ref a1), .val (.ref a2), .val (.int (0 : Int32)), .val (.int (1 : Int32)), .val (.int (1 : Int32)), .val (.long p2), .second, .val (.long p0), .second, .val (.long p2), .second, .val (.int z20), .val (.int (0 : Int32)), .val (.int (0 : Int32)), .val (.long p4), .second, .unset, .unset] []
            refine g_iconst (pc' := 143) (z := (1 : Int32)) C at_142 rfl rfl ?_
            refine g_istore (pc' := 145) (L' := #[.val (.long p0), .second, .val (.long p2), .second, .val (.long p4), .second, .val (.int p6), .val (.int p7), .val (.int p8), .val (.ref a1), .val (.ref a2), .val (.int (0 : Int32)), .val (.int (1 : Int32)), .val (.int (1 : Int32)), .val (.long p2), .second, .val (.long p0), .second, .val (.long p2), .second, .val (.int z20), .val (.int (1 : Int32)), .val (.int (0 : Int32)), .val (.long p4), .second, .unset, .unset]) C at_143 rfl rfl ?_
            refine g_lload (pc' := 147) C at_145 rfl rfl ?_
            refine g_lload (pc' := 149) C at_147 rfl rfl ?_
            refine g_lsub (pc' := 150) C at_149 rfl ?_
            refine g_lstore (pc' := 152) (L' := #[.val (.long p0), .second, .val (.long p2), .second, .val (.long p4), .second, .val (.int p6), .val (.int p7), .val (.int p8), .val (.ref a1), .val (.ref a2), .val (.int (0 : Int32)), .val (.int (1 : Int32)), .val (.int (1 : Int32)), .val (.long p2), .second, .val (.long p0), .second, .val (.long p2), .second, .val (.int z20), .val (.int (1 : Int32)), .val (.int (0 : Int32)), .val (.long (p4 - p0)), .second, .unset, .unset]) C at_150 rfl rfl ?_
            exact K_124 h11 (1 : Int32) ((rfl : (1 : Int32) = b2i True).trans (b2i_iff ((and_iff_right c124).trans (iff_true_intro c131)).symm)) (p4 - p0) (((if_neg c131).symm).trans (if_neg c124).symm) (1 : Int32) ((rfl : (1 : Int32) = b2i True).trans (b2i_iff ((and_iff_right c124).trans (iff_true_intro c131)).symm)) (p4 - p0) (((if_neg c131).symm).trans (if_neg c124).symm) ((0 : Int32) + 1) (((if_neg c131).symm).trans (if_neg c124).symm) B
      intro h10
      intro z21 e_z21
      intro j22 e_j22
      intro z23 e_z23
      intro j24 e_j24
      intro i25 e_i25
      intro B
      refine g_iload (pc' := 154) C at_152 rfl rfl ?_
      refine g_iconst (pc' := 155) (z := (2 : Int32)) C at_154 rfl rfl ?_
      refine g_iand (pc' := 156) C at_155 rfl ?_
      suffices K_156 : ∀ (h12 : Heap), ∀ z26 : Int32, z26 = b2i ((¬ ((p8 &&& (2 : Int32)).toInt = 0)) ∧ (¬ (j22.toInt < p2.toInt))) → ∀ j27 : Int64, j27 = (if (p8 &&& (2 : Int32)).toInt = 0 then j22 else (if j22.toInt < p2.toInt then j22 else (j22 - p2))) → ∀ z28 : Int32, z28 = b2i ((¬ ((p8 &&& (2 : Int32)).toInt = 0)) ∧ (¬ (j22.toInt < p2.toInt))) → ∀ j29 : Int64, j29 = (if (p8 &&& (2 : Int32)).toInt = 0 then j24 else (if j22.toInt < p2.toInt then j24 else (j24 - p2))) → ∀ i30 : Int32, i30 = (if (p8 &&& (2 : Int32)).toInt = 0 then i25 else (if j22.toInt < p2.toInt then i25 else (i25 + 1))) → BS Z h12 a2 a1 b2 b3 p0 p2 z23 z28 j29 i30 → Go W Q h12 4 25 184 #[.val (.long p0), .second, .val (.long p2), .second, .val (.long p4), .second, .val (.int p6), .val (.int p7), .val (.int p8), .val (.ref a1), .val (.ref a2), .val (.int (0 : Int32)), .val (.int (1 : Int32)), .val (.int (1 : Int32)), .val (.long p2), .second, .val (.long p0), .second, .val (.long p2), .second, .val (.int z20), .val (.int z21), .val (.int z26), .val (.long j27), .second, .unset, .unset] [] by
        refine g_if (xi := (p8 &&& (2 : Int32)).toInt) (pc1 := 184) (pc2 := 159) C at_156 (by decide) rfl rfl rfl (fun (c156 : (p8 &&& (2 : Int32)).toInt = 0) => ?_) (fun (c156 : ¬ ((p8 &&& (2 : Int32)).toInt = 0)) => ?_)
        ·
          exact K_156 h10 (0 : Int32) ((rfl : (0 : Int32) = b2i False).trans (b2i_iff (iff_false_intro (fun y => (fun y => y c156) y.1)).symm)) j22 ((if_pos c156).symm) (0 : Int32) ((rfl : (0 : Int32) = b2i False).trans (b2i_iff (iff_false_intro (fun y => (fun y => y c156) y.1)).symm)) j24 ((if_pos c156).symm) i25 ((if_pos c156).symm) B
        ·
          refine g_lload (pc' := 161) C at_159 rfl rfl ?_
          refine g_lload (pc' := 163) C at_161 rfl rfl ?_
          refine g_lcmp (cd := .gt) (xi := p2.toInt) (yi := j22.toInt) (pc' := 164) (pc1 := 184) (pc2 := 167) C at_163 at_164 rfl (by decide) rfl rfl rfl rfl (fun (c163 : j22.toInt < p2.toInt) => ?_) (fun (c163 : ¬ (j22.toInt < p2.toInt)) => ?_)
          ·
            exact K_156 h10 (0 : Int32) ((rfl : (0 : Int32) = b2i False).trans (b2i_iff ((and_iff_right c156).trans (iff_false_intro (fun y => y c163))).symm)) j22 (((if_pos c163).symm).trans (if_neg c156).symm) (0 : Int32) ((rfl : (0 : Int32) = b2i False).trans (b2i_iff ((and_iff_right c156).trans (iff_false_intro (fun y => y c163))).symm)) j24 (((if_pos c163).symm).trans (if_neg c156).symm) i25 (((if_pos c163).symm).trans (if_neg c156).symm) B
          ·
            refine g_aload (pc' := 169) C at_167 rfl rfl rfl ?_
            refine g_iload (pc' := 171) C at_169 rfl rfl ?_
            refine g_virtual (y := (⟨"com/example/ripplecast/ripplecast/BudgetedSeeds", "add", "(I)V"⟩ : MethodName)) (a := a2) (pc' := 174) (k' := 4) (n' := 25) (S := []) (as := [(.int (1 : Int32))]) C at_171 rfl (hw _ (List.mem_of_getElem? (i := 25) rfl)) (hw _ (List.mem_of_getElem? (i := 27) rfl)) (hw _ (List.mem_of_getElem? (i := 3) rfl)) (hw _ (List.mem_of_getElem? (i := 29) rfl)) (hw _ (List.mem_of_getElem? (i := 26) rfl)) (hw _ (List.mem_of_getElem? (i := 28) rfl)) (by decide) B.1.1 (lenOf pd_2 rfl) (con_4_1 W.l Z a0 hw a2 a1 b2 b3 p0 p2 z23 (0 : Int32) j24 i25 (by rw [e_i25]; (repeat' split) <;> decide) (by rw [e_i25]; (repeat' split) <;> decide) (Ne.symm n_a1_a2) n1 n2 n3 n4 g23 h10 B) rfl rfl (Nat.le_of_ble_eq_true rfl) (Nat.le_of_ble_eq_true rfl) rfl rfl (Nat.le_of_ble_eq_true rfl) (Nat.le_of_ble_eq_true rfl) (allS w_a2 (allS pwb2 (allS pwb3 all0))) fun vh13 h13 qh13 Kh13 => ?_
            obtain ⟨rfl, B⟩ := qh13
            show Go W Q h13 4 25 174 #[.val (.long p0), .second, .val (.long p2), .second, .val (.long p4), .second, .val (.int p6), .val (.int p7), .val (.int p8), .val (.ref a1), .val (.ref a2), .val (.int (0 : Int32)), .val (.int (1 : Int32)), .val (.int (1 : Int32)), .val (.long p2), .second, .val (.long p0), .second, .val (.long p2), .second, .val (.int z20), .val (.int z21), .val (.int (0 : Int32)), .val (.long j22), .second, .unset, .unset] []
            refine g_iconst (pc' := 175) (z := (1 : Int32)) C at_174 rfl rfl ?_
            refine g_istore (pc' := 177) (L' := #[.val (.long p0), .second, .val (.long p2), .second, .val (.long p4), .second, .val (.int p6), .val (.int p7), .val (.int p8), .val (.ref a1), .val (.ref a2), .val (.int (0 : Int32)), .val (.int (1 : Int32)), .val (.int (1 : Int32)), .val (.long p2), .second, .val (.long p0), .second, .val (.long p2), .second, .val (.int z20), .val (.int z21), .val (.int (1 : Int32)), .val (.long j22), .second, .unset, .unset]) C at_175 rfl rfl ?_
            refine g_lload (pc' := 179) C at_177 rfl rfl ?_
            refine g_lload (pc' := 181) C at_179 rfl rfl ?_
            refine g_lsub (pc' := 182) C at_181 rfl ?_
            refine g_lstore (pc' := 184) (L' := #[.val (.long p0), .second, .val (.long p2), .second, .val (.long p4), .second, .val (.int p6), .val (.int p7), .val (.int p8), .val (.ref a1), .val (.ref a2), .val (.int (0 : Int32)), .val (.int (1 : Int32)), .val (.int (1 : Int32)), .val (.long p2), .second, .val (.long p0), .second, .val (.long p2), .second, .val (.int z20), .val (.int z21), .val (.int (1 : Int32)), .val (.long (j22 - p2)), .second, .unset, .unset]) C at_182 rfl rfl ?_
            exact K_156 h13 (1 : Int32) ((rfl : (1 : Int32) = b2i True).trans (b2i_iff ((and_iff_right c156).trans (iff_true_intro c163)).symm)) (j22 - p2) (((if_neg c163).symm).trans (if_neg c156).symm) (1 : Int32) ((rfl : (1 : Int32) = b2i True).trans (b2i_iff ((and_iff_right c156).trans (iff_true_intro c163)).symm)) (j24 - p2) (((if_neg c163).symm).trans (if_neg c156).symm) (i25 + 1) (((if_neg c163).symm).trans (if_neg c156).symm) B
      intro h12
      intro z26 e_z26
      intro j27 e_j27
      intro z28 e_z28
      intro j29 e_j29
      intro i30 e_i30
      intro B
      refine g_iload (pc' := 186) C at_184 rfl rfl ?_
      refine g_iload (pc' := 188) C at_186 rfl rfl ?_
      refine g_icmpY (xi := 1) (yi := 0) (pc1 := 196) C at_188 (by decide) rfl rfl rfl (by decide) ?_
      refine g_iload (pc' := 198) C at_196 rfl rfl ?_
      refine g_istore (pc' := 200) (L' := #[.val (.long p0), .second, .val (.long p2), .second, .val (.long p4), .second, .val (.int p6), .val (.int p7), .val (.int p8), .val (.ref a1), .val (.ref a2), .val (.int (0 : Int32)), .val (.int (1 : Int32)), .val (.int (1 : Int32)), .val (.long p2), .second, .val (.long p0), .second, .val (.long p2), .second, .val (.int z20), .val (.int z21), .val (.int z26), .val (.long j27), .second, .val (.int z26), .unset]) C at_198 rfl rfl ?_
      refine g_iload (pc' := 202) C at_200 rfl rfl ?_
      suffices K_202 : ∀ (Bz31 : Bool) (z31 : Int32), Bz31 = decide ((¬ ((¬ ((p8 &&& (2 : Int32)).toInt = 0)) ∧ (¬ (j22.toInt < p2.toInt)))) ∧ (¬ (j27.toInt < p2.toInt))) → z31 = b2i (Bz31 = true) → Go W Q h12 4 25 218 #[.val (.long p0), .second, .val (.long p2), .second, .val (.long p4), .second, .val (.int p6), .val (.int p7), .val (.int p8), .val (.ref a1), .val (.ref a2), .val (.int (0 : Int32)), .val (.int (1 : Int32)), .val (.int (1 : Int32)), .val (.long p2), .second, .val (.long p0), .second, .val (.long p2), .second, .val (.int z20), .val (.int z21), .val (.int z26), .val (.long j27), .second, .val (.int z26), .unset] [(.int z31)] by
        refine g_ifneb (pc1 := 217) (pc2 := 205) C at_202 (by decide) rfl rfl e_z26 (fun (c202 : (¬ ((p8 &&& (2 : Int32)).toInt = 0)) ∧ (¬ (j22.toInt < p2.toInt))) => ?_) (fun (c202 : ¬ ((¬ ((p8 &&& (2 : Int32)).toInt = 0)) ∧ (¬ (j22.toInt < p2.toInt)))) => ?_)
        ·
          refine g_iconst (pc' := 218) (z := (0 : Int32)) C at_217 rfl rfl ?_
          exact K_202 (decide ((¬ ((¬ ((p8 &&& (2 : Int32)).toInt = 0)) ∧ (¬ (j22.toInt < p2.toInt)))) ∧ (¬ (j27.toInt < p2.toInt)))) (0 : Int32) rfl ((rfl : (0 : Int32) = b2i False).trans (b2i_iff ((iff_false_intro (fun y => (fun y => y c202) y.1)).symm.trans decide_eq_true_iff.symm)))
        ·
          refine g_lload (pc' := 207) C at_205 rfl rfl ?_
          refine g_lload (pc' := 209) C at_207 rfl rfl ?_
          refine g_lcmp (cd := .gt) (xi := p2.toInt) (yi := j27.toInt) (pc' := 210) (pc1 := 217) (pc2 := 213) C at_209 at_210 rfl (by decide) rfl rfl rfl rfl (fun (c209 : j27.toInt < p2.toInt) => ?_) (fun (c209 : ¬ (j27.toInt < p2.toInt)) => ?_)
          ·
            refine g_iconst (pc' := 218) (z := (0 : Int32)) C at_217 rfl rfl ?_
            exact K_202 (decide ((¬ ((¬ ((p8 &&& (2 : Int32)).toInt = 0)) ∧ (¬ (j22.toInt < p2.toInt)))) ∧ (¬ (j27.toInt < p2.toInt)))) (0 : Int32) rfl ((rfl : (0 : Int32) = b2i False).trans (b2i_iff (((and_iff_right c202).trans (iff_false_intro (fun y => y c209))).symm.trans decide_eq_true_iff.symm)))
          ·
            refine g_iconst (pc' := 214) (z := (1 : Int32)) C at_213 rfl rfl ?_
            refine g_goto C at_214 (by decide) (pc' := 218) rfl ?_
            exact K_202 (decide ((¬ ((¬ ((p8 &&& (2 : Int32)).toInt = 0)) ∧ (¬ (j22.toInt < p2.toInt)))) ∧ (¬ (j27.toInt < p2.toInt)))) (1 : Int32) rfl ((rfl : (1 : Int32) = b2i True).trans (b2i_iff (((and_iff_right c202).trans (iff_true_intro c209)).symm.trans decide_eq_true_iff.symm)))
      intro Bz31 z31 bd_z31 e_z31
      have b_z31 : Bz31 = true ↔ ((¬ ((¬ ((p8 &&& (2 : Int32)).toInt = 0)) ∧ (¬ (j22.toInt < p2.toInt)))) ∧ (¬ (j27.toInt < p2.toInt))) := by rw [bd_z31]; exact decide_eq_true_iff
      refine g_istore (pc' := 220) (L' := #[.val (.long p0), .second, .val (.long p2), .second, .val (.long p4), .second, .val (.int p6), .val (.int p7), .val (.int p8), .val (.ref a1), .val (.ref a2), .val (.int (0 : Int32)), .val (.int (1 : Int32)), .val (.int (1 : Int32)), .val (.long p2), .second, .val (.long p0), .second, .val (.long p2), .second, .val (.int z20), .val (.int z21), .val (.int z26), .val (.long j27), .second, .val (.int z26), .val (.int z31)]) C at_218 rfl rfl ?_
      refine g_iload (pc' := 222) C at_220 rfl rfl ?_
      suffices K_222 : ∀ (Bz32 : Bool) (z32 : Int32), Bz32 = decide ((((¬ (False) ∧ p2.toInt ≤ p4.toInt)) ↔ (¬ (p4.toInt < p2.toInt))) ∧ (((¬ (((¬ ((p8 &&& (2 : Int32)).toInt = 0)) ∧ (¬ (j22.toInt < p2.toInt)))) ∧ p2.toInt ≤ j29.toInt)) ↔ (Bz31 = true))) → z32 = b2i (Bz32 = true) → Go W Q h12 4 25 242 #[.val (.long p0), .second, .val (.long p2), .second, .val (.long p4), .second, .val (.int p6), .val (.int p7), .val (.int p8), .val (.ref a1), .val (.ref a2), .val (.int (0 : Int32)), .val (.int (1 : Int32)), .val (.int (1 : Int32)), .val (.long p2), .second, .val (.long p0), .second, .val (.long p2), .second, .val (.int z20), .val (.int z21), .val (.int z26), .val (.long j27), .second, .val (.int z26), .val (.int z31)] [(.int z32)] by
        refine g_ifeqb (pc1 := 241) (pc2 := 225) C at_222 (by decide) rfl rfl e_z20 (fun (c222 : ¬ (((¬ (False) ∧ p2.toInt ≤ p4.toInt)) ↔ (¬ (p4.toInt < p2.toInt)))) => ?_) (fun (c222 : ((¬ (False) ∧ p2.toInt ≤ p4.toInt)) ↔ (¬ (p4.toInt < p2.toInt))) => ?_)
        ·
          refine g_iconst (pc' := 242) (z := (0 : Int32)) C at_241 rfl rfl ?_
          exact K_222 (decide ((((¬ (False) ∧ p2.toInt ≤ p4.toInt)) ↔ (¬ (p4.toInt < p2.toInt))) ∧ (((¬ (((¬ ((p8 &&& (2 : Int32)).toInt = 0)) ∧ (¬ (j22.toInt < p2.toInt)))) ∧ p2.toInt ≤ j29.toInt)) ↔ (Bz31 = true)))) (0 : Int32) rfl ((rfl : (0 : Int32) = b2i False).trans (b2i_iff ((iff_false_intro (fun y => c222 y.1)).symm.trans decide_eq_true_iff.symm)))
        ·
          refine g_aload (pc' := 227) C at_225 rfl rfl rfl ?_
          refine g_iload (pc' := 229) C at_227 rfl rfl ?_
          refine g_virtualP (y := (⟨"com/example/ripplecast/ripplecast/BudgetedSeeds", "fits", "(I)Z"⟩ : MethodName)) (a := a2) (pc' := 232) (k' := 4) (n' := 25) (S := []) (as := [(.int (1 : Int32))]) C at_229 rfl (hw _ (List.mem_of_getElem? (i := 20) rfl)) (hw _ (List.mem_of_getElem? (i := 22) rfl)) (hw _ (List.mem_of_getElem? (i := 3) rfl)) (hw _ (List.mem_of_getElem? (i := 24) rfl)) (hw _ (List.mem_of_getElem? (i := 21) rfl)) (hw _ (List.mem_of_getElem? (i := 23) rfl)) (by decide) B.1.1 (lenOf pd_1 rfl) (con_3_1 W.l Z a0 hw a2 a1 b2 b3 p0 p2 z23 z28 ((¬ ((p8 &&& (1 : Int32)).toInt = 0)) ∧ (¬ (p4.toInt < p0.toInt))) ((¬ ((p8 &&& (2 : Int32)).toInt = 0)) ∧ (¬ (j22.toInt < p2.toInt))) e_z23 e_z28 j29 i30 h12 B) rfl rfl (Nat.le_of_ble_eq_true rfl) (Nat.le_of_ble_eq_true rfl) rfl rfl (Nat.le_of_ble_eq_true rfl) (Nat.le_of_ble_eq_true rfl) (S1 := [(.int (b2i (¬ (((¬ ((p8 &&& (2 : Int32)).toInt = 0)) ∧ (¬ (j22.toInt < p2.toInt)))) ∧ p2.toInt ≤ j29.toInt)))]) rfl ?_
          refine g_iload (pc' := 234) C at_232 rfl rfl ?_
          refine g_icmpbne (pc1 := 241) (pc2 := 237) C at_234 (by decide) rfl rfl rfl e_z31 (fun (c234 : ¬ (((¬ (((¬ ((p8 &&& (2 : Int32)).toInt = 0)) ∧ (¬ (j22.toInt < p2.toInt)))) ∧ p2.toInt ≤ j29.toInt)) ↔ (Bz31 = true))) => ?_) (fun (c234 : ((¬ (((¬ ((p8 &&& (2 : Int32)).toInt = 0)) ∧ (¬ (j22.toInt < p2.toInt)))) ∧ p2.toInt ≤ j29.toInt)) ↔ (Bz31 = true)) => ?_)
          ·
            refine g_iconst (pc' := 242) (z := (0 : Int32)) C at_241 rfl rfl ?_
            exact K_222 (decide ((((¬ (False) ∧ p2.toInt ≤ p4.toInt)) ↔ (¬ (p4.toInt < p2.toInt))) ∧ (((¬ (((¬ ((p8 &&& (2 : Int32)).toInt = 0)) ∧ (¬ (j22.toInt < p2.toInt)))) ∧ p2.toInt ≤ j29.toInt)) ↔ (Bz31 = true)))) (0 : Int32) rfl ((rfl : (0 : Int32) = b2i False).trans (b2i_iff (((and_iff_right c222).trans (iff_false_intro c234)).symm.trans decide_eq_true_iff.symm)))
          ·
            refine g_iconst (pc' := 238) (z := (1 : Int32)) C at_237 rfl rfl ?_
            refine g_goto C at_238 (by decide) (pc' := 242) rfl ?_
            exact K_222 (decide ((((¬ (False) ∧ p2.toInt ≤ p4.toInt)) ↔ (¬ (p4.toInt < p2.toInt))) ∧ (((¬ (((¬ ((p8 &&& (2 : Int32)).toInt = 0)) ∧ (¬ (j22.toInt < p2.toInt)))) ∧ p2.toInt ≤ j29.toInt)) ↔ (Bz31 = true)))) (1 : Int32) rfl ((rfl : (1 : Int32) = b2i True).trans (b2i_iff (((and_iff_right c222).trans (iff_true_intro c234)).symm.trans decide_eq_true_iff.symm)))
      intro Bz32 z32 bd_z32 e_z32
      have b_z32 : Bz32 = true ↔ ((((¬ (False) ∧ p2.toInt ≤ p4.toInt)) ↔ (¬ (p4.toInt < p2.toInt))) ∧ (((¬ (((¬ ((p8 &&& (2 : Int32)).toInt = 0)) ∧ (¬ (j22.toInt < p2.toInt)))) ∧ p2.toInt ≤ j29.toInt)) ↔ (Bz31 = true))) := by rw [bd_z32]; exact decide_eq_true_iff
      refine g_retN C (by simp) at_242 (by decide) (by decide) ?_
      subst hQ
      refine congrArg (fun z => some (Value.int z)) (?_ : nar .boolean z32 = 1)
      rw [e_z32, nar_b2i]
      refine b2i_pos ?_
      rw [b_z32]
      have hh : j29 = j27 := by subst_vars; rfl
      rw [b_z31]
      rw [hh]
      simp only [not_false_eq_true, true_and]
      refine ⟨by omega, by omega⟩
  ·
    refine g_iconst (pc' := 33) (z := (1 : Int32)) C at_32 rfl rfl ?_
    refine g_iload (pc' := 35) C at_33 rfl rfl ?_
    refine g_isub (pc' := 36) C at_35 rfl ?_
    show Go W Q h5 4 25 36 #[.val (.long p0), .second, .val (.long p2), .second, .val (.long p4), .second, .val (.int p6), .val (.int p7), .val (.int p8), .val (.ref a1), .val (.ref a2), .val (.int (1 : Int32)), .unset, .unset, .unset, .unset, .unset, .unset, .unset, .unset, .unset, .unset, .unset, .unset, .unset, .unset, .unset] [(.int (0 : Int32))]
    refine g_istore (pc' := 38) (L' := #[.val (.long p0), .second, .val (.long p2), .second, .val (.long p4), .second, .val (.int p6), .val (.int p7), .val (.int p8), .val (.ref a1), .val (.ref a2), .val (.int (1 : Int32)), .val (.int (0 : Int32)), .unset, .unset, .unset, .unset, .unset, .unset, .unset, .unset, .unset, .unset, .unset, .unset, .unset, .unset]) C at_36 rfl rfl ?_
    refine g_iload (pc' := 40) C at_38 rfl rfl ?_
    refine g_iconst (pc' := 41) (z := (1 : Int32)) C at_40 rfl rfl ?_
    refine g_iand (pc' := 42) C at_41 rfl ?_
    refine g_nameI fun i33 e_i33 => ?_
    refine g_istore (pc' := 44) (L' := #[.val (.long p0), .second, .val (.long p2), .second, .val (.long p4), .second, .val (.int p6), .val (.int p7), .val (.int p8), .val (.ref a1), .val (.ref a2), .val (.int (1 : Int32)), .val (.int (0 : Int32)), .val (.int i33), .unset, .unset, .unset, .unset, .unset, .unset, .unset, .unset, .unset, .unset, .unset, .unset, .unset]) C at_42 rfl rfl ?_
    have sp_i33 : i33 = 0 ∨ i33 = 1 := by
      have y1 := c_mask p7 1 1 (by decide) (by decide)
      rw [← e_i33] at y1
      have y2 : (0 : Int32).toInt = 0 := rfl
      have y3 : (1 : Int32).toInt = 1 := rfl
      rcases (by omega : i33.toInt = 0 ∨ i33.toInt = 1) with y | y
      · exact Or.inl (Int32.toInt_inj.mp (by omega))
      · exact Or.inr (Int32.toInt_inj.mp (by omega))
    clear e_i33
    rcases sp_i33 with sp_i33 | sp_i33 <;> subst sp_i33
    ·
      refine g_iload (pc' := 46) C at_44 rfl rfl ?_
      refine g_ifN (xi := 0) (pc2 := 49) C at_46 rfl rfl (by decide) ?_
      refine g_lloadN (pc' := 50) C at_49 rfl rfl ?_
      refine g_goto C at_50 (by decide) (pc' := 54) rfl ?_
      refine g_lstore (pc' := 56) (L' := #[.val (.long p0), .second, .val (.long p2), .second, .val (.long p4), .second, .val (.int p6), .val (.int p7), .val (.int p8), .val (.ref a1), .val (.ref a2), .val (.int (1 : Int32)), .val (.int (0 : Int32)), .val (.int (0 : Int32)), .val (.long p0), .second, .unset, .unset, .unset, .unset, .unset, .unset, .unset, .unset, .unset, .unset, .unset]) C at_54 rfl rfl ?_
      refine g_iload (pc' := 58) C at_56 rfl rfl ?_
      refine g_ifY (xi := 1) (pc1 := 65) C at_58 (by decide) rfl rfl (by decide) ?_
      refine g_lloadN (pc' := 66) C at_65 rfl rfl ?_
      refine g_lstore (pc' := 68) (L' := #[.val (.long p0), .second, .val (.long p2), .second, .val (.long p4), .second, .val (.int p6), .val (.int p7), .val (.int p8), .val (.ref a1), .val (.ref a2), .val (.int (1 : Int32)), .val (.int (0 : Int32)), .val (.int (0 : Int32)), .val (.long p0), .second, .val (.long p2), .second, .unset, .unset, .unset, .unset, .unset, .unset, .unset, .unset, .unset]) C at_66 rfl rfl ?_
      refine g_iload (pc' := 70) C at_68 rfl rfl ?_
      refine g_ifN (xi := 0) (pc2 := 73) C at_70 rfl rfl (by decide) ?_
      refine g_lloadN (pc' := 74) C at_73 rfl rfl ?_
      refine g_goto C at_74 (by decide) (pc' := 78) rfl ?_
      refine g_lstore (pc' := 80) (L' := #[.val (.long p0), .second, .val (.long p2), .second, .val (.long p4), .second, .val (.int p6), .val (.int p7), .val (.int p8), .val (.ref a1), .val (.ref a2), .val (.int (1 : Int32)), .val (.int (0 : Int32)), .val (.int (0 : Int32)), .val (.long p0), .second, .val (.long p2), .second, .val (.long p0), .second, .unset, .unset, .unset, .unset, .unset, .unset, .unset]) C at_78 rfl rfl ?_
      refine g_aload (pc' := 82) C at_80 rfl rfl rfl ?_
      refine g_iload (pc' := 84) C at_82 rfl rfl ?_
      refine g_virtualP (y := (⟨"com/example/ripplecast/ripplecast/BudgetedSeeds", "fits", "(I)Z"⟩ : MethodName)) (a := a2) (pc' := 87) (k' := 4) (n' := 25) (S := []) (as := [(.int (0 : Int32))]) C at_84 rfl (hw _ (List.mem_of_getElem? (i := 20) rfl)) (hw _ (List.mem_of_getElem? (i := 22) rfl)) (hw _ (List.mem_of_getElem? (i := 3) rfl)) (hw _ (List.mem_of_getElem? (i := 24) rfl)) (hw _ (List.mem_of_getElem? (i := 21) rfl)) (hw _ (List.mem_of_getElem? (i := 23) rfl)) (by decide) B.1.1 (lenOf pd_1 rfl) (con_3_0 W.l Z a0 hw a2 a1 b2 b3 p0 p2 (0 : Int32) (0 : Int32) False False rfl rfl p4 (0 : Int32) h5 B) rfl rfl (Nat.le_of_ble_eq_true rfl) (Nat.le_of_ble_eq_true rfl) rfl rfl (Nat.le_of_ble_eq_true rfl) (Nat.le_of_ble_eq_true rfl) (S1 := [(.int (b2i (¬ (False) ∧ p0.toInt ≤ p4.toInt)))]) rfl ?_
      refine g_lload (pc' := 89) C at_87 rfl rfl ?_
      refine g_lload (pc' := 91) C at_89 rfl rfl ?_
      suffices K_91 : ∀ z34 : Int32, z34 = b2i (¬ (p4.toInt < p0.toInt)) → Go W Q h5 4 25 100 #[.val (.long p0), .second, .val (.long p2), .second, .val (.long p4), .second, .val (.int p6), .val (.int p7), .val (.int p8), .val (.ref a1), .val (.ref a2), .val (.int (1 : Int32)), .val (.int (0 : Int32)), .val (.int (0 : Int32)), .val (.long p0), .second, .val (.long p2), .second, .val (.long p0), .second, .unset, .unset, .unset, .unset, .unset, .unset, .unset] [(.int z34), (.int (b2i (¬ (False) ∧ p0.toInt ≤ p4.toInt)))] by
        refine g_lcmp (cd := .gt) (xi := p0.toInt) (yi := p4.toInt) (pc' := 92) (pc1 := 99) (pc2 := 95) C at_91 at_92 rfl (by decide) rfl rfl rfl rfl (fun (c91 : p4.toInt < p0.toInt) => ?_) (fun (c91 : ¬ (p4.toInt < p0.toInt)) => ?_)
        ·
          refine g_iconst (pc' := 100) (z := (0 : Int32)) C at_99 rfl rfl ?_
          exact K_91 (0 : Int32) ((rfl : (0 : Int32) = b2i False).trans (b2i_iff (iff_false_intro (fun y => y c91)).symm))
        ·
          refine g_iconst (pc' := 96) (z := (1 : Int32)) C at_95 rfl rfl ?_
          refine g_goto C at_96 (by decide) (pc' := 100) rfl ?_
          exact K_91 (1 : Int32) ((rfl : (1 : Int32) = b2i True).trans (b2i_iff (iff_true_intro c91).symm))
      intro z34 e_z34
      suffices K_100 : ∀ z35 : Int32, z35 = b2i (((¬ (False) ∧ p0.toInt ≤ p4.toInt)) ↔ (¬ (p4.toInt < p0.toInt))) → Go W Q h5 4 25 108 #[.val (.long p0), .second, .val (.long p2), .second, .val (.long p4), .second, .val (.int p6), .val (.int p7), .val (.int p8), .val (.ref a1), .val (.ref a2), .val (.int (1 : Int32)), .val (.int (0 : Int32)), .val (.int (0 : Int32)), .val (.long p0), .second, .val (.long p2), .second, .val (.long p0), .second, .unset, .unset, .unset, .unset, .unset, .unset, .unset] [(.int z35)] by
        refine g_icmpbne (pc1 := 107) (pc2 := 103) C at_100 (by decide) rfl rfl rfl e_z34 (fun (c100 : ¬ (((¬ (False) ∧ p0.toInt ≤ p4.toInt)) ↔ (¬ (p4.toInt < p0.toInt)))) => ?_) (fun (c100 : ((¬ (False) ∧ p0.toInt ≤ p4.toInt)) ↔ (¬ (p4.toInt < p0.toInt))) => ?_)
        ·
          refine g_iconst (pc' := 108) (z := (0 : Int32)) C at_107 rfl rfl ?_
          exact K_100 (0 : Int32) ((rfl : (0 : Int32) = b2i False).trans (b2i_iff (iff_false_intro c100).symm))
        ·
          refine g_iconst (pc' := 104) (z := (1 : Int32)) C at_103 rfl rfl ?_
          refine g_goto C at_104 (by decide) (pc' := 108) rfl ?_
          exact K_100 (1 : Int32) ((rfl : (1 : Int32) = b2i True).trans (b2i_iff (iff_true_intro c100).symm))
      intro z35 e_z35
      refine g_istore (pc' := 110) (L' := #[.val (.long p0), .second, .val (.long p2), .second, .val (.long p4), .second, .val (.int p6), .val (.int p7), .val (.int p8), .val (.ref a1), .val (.ref a2), .val (.int (1 : Int32)), .val (.int (0 : Int32)), .val (.int (0 : Int32)), .val (.long p0), .second, .val (.long p2), .second, .val (.long p0), .second, .val (.int z35), .unset, .unset, .unset, .unset, .unset, .unset]) C at_108 rfl rfl ?_
      refine g_iconst (pc' := 111) (z := (0 : Int32)) C at_110 rfl rfl ?_
      refine g_istore (pc' := 113) (L' := #[.val (.long p0), .second, .val (.long p2), .second, .val (.long p4), .second, .val (.int p6), .val (.int p7), .val (.int p8), .val (.ref a1), .val (.ref a2), .val (.int (1 : Int32)), .val (.int (0 : Int32)), .val (.int (0 : Int32)), .val (.long p0), .second, .val (.long p2), .second, .val (.long p0), .second, .val (.int z35), .val (.int (0 : Int32)), .unset, .unset, .unset, .unset, .unset]) C at_111 rfl rfl ?_
      refine g_iconst (pc' := 114) (z := (0 : Int32)) C at_113 rfl rfl ?_
      refine g_istore (pc' := 116) (L' := #[.val (.long p0), .second, .val (.long p2), .second, .val (.long p4), .second, .val (.int p6), .val (.int p7), .val (.int p8), .val (.ref a1), .val (.ref a2), .val (.int (1 : Int32)), .val (.int (0 : Int32)), .val (.int (0 : Int32)), .val (.long p0), .second, .val (.long p2), .second, .val (.long p0), .second, .val (.int z35), .val (.int (0 : Int32)), .val (.int (0 : Int32)), .unset, .unset, .unset, .unset]) C at_114 rfl rfl ?_
      refine g_lload (pc' := 118) C at_116 rfl rfl ?_
      refine g_lstore (pc' := 120) (L' := #[.val (.long p0), .second, .val (.long p2), .second, .val (.long p4), .second, .val (.int p6), .val (.int p7), .val (.int p8), .val (.ref a1), .val (.ref a2), .val (.int (1 : Int32)), .val (.int (0 : Int32)), .val (.int (0 : Int32)), .val (.long p0), .second, .val (.long p2), .second, .val (.long p0), .second, .val (.int z35), .val (.int (0 : Int32)), .val (.int (0 : Int32)), .val (.long p4), .second, .unset, .unset]) C at_118 rfl rfl ?_
      refine g_iload (pc' := 122) C at_120 rfl rfl ?_
      refine g_iconst (pc' := 123) (z := (1 : Int32)) C at_122 rfl rfl ?_
      refine g_iand (pc' := 124) C at_123 rfl ?_
      suffices K_124 : ∀ (h14 : Heap), ∀ z36 : Int32, z36 = b2i ((¬ ((p8 &&& (1 : Int32)).toInt = 0)) ∧ (¬ (p4.toInt < p2.toInt))) → ∀ j37 : Int64, j37 = (if (p8 &&& (1 : Int32)).toInt = 0 then p4 else (if p4.toInt < p2.toInt then p4 else (p4 - p2))) → ∀ z38 : Int32, z38 = b2i ((¬ ((p8 &&& (1 : Int32)).toInt = 0)) ∧ (¬ (p4.toInt < p2.toInt))) → ∀ j39 : Int64, j39 = (if (p8 &&& (1 : Int32)).toInt = 0 then p4 else (if p4.toInt < p2.toInt then p4 else (p4 - p2))) → ∀ i40 : Int32, i40 = (if (p8 &&& (1 : Int32)).toInt = 0 then (0 : Int32) else (if p4.toInt < p2.toInt then (0 : Int32) else ((0 : Int32) + 1))) → BS Z h14 a2 a1 b2 b3 p0 p2 (0 : Int32) z38 j39 i40 → Go W Q h14 4 25 152 #[.val (.long p0), .second, .val (.long p2), .second, .val (.long p4), .second, .val (.int p6), .val (.int p7), .val (.int p8), .val (.ref a1), .val (.ref a2), .val (.int (1 : Int32)), .val (.int (0 : Int32)), .val (.int (0 : Int32)), .val (.long p0), .second, .val (.long p2), .second, .val (.long p0), .second, .val (.int z35), .val (.int z36), .val (.int (0 : Int32)), .val (.long j37), .second, .unset, .unset] [] by
        refine g_if (xi := (p8 &&& (1 : Int32)).toInt) (pc1 := 152) (pc2 := 127) C at_124 (by decide) rfl rfl rfl (fun (c124 : (p8 &&& (1 : Int32)).toInt = 0) => ?_) (fun (c124 : ¬ ((p8 &&& (1 : Int32)).toInt = 0)) => ?_)
        ·
          exact K_124 h5 (0 : Int32) ((rfl : (0 : Int32) = b2i False).trans (b2i_iff (iff_false_intro (fun y => (fun y => y c124) y.1)).symm)) p4 ((if_pos c124).symm) (0 : Int32) ((rfl : (0 : Int32) = b2i False).trans (b2i_iff (iff_false_intro (fun y => (fun y => y c124) y.1)).symm)) p4 ((if_pos c124).symm) (0 : Int32) ((if_pos c124).symm) B
        ·
          refine g_lload (pc' := 129) C at_127 rfl rfl ?_
          refine g_lload (pc' := 131) C at_129 rfl rfl ?_
          refine g_lcmp (cd := .gt) (xi := p2.toInt) (yi := p4.toInt) (pc' := 132) (pc1 := 152) (pc2 := 135) C at_131 at_132 rfl (by decide) rfl rfl rfl rfl (fun (c131 : p4.toInt < p2.toInt) => ?_) (fun (c131 : ¬ (p4.toInt < p2.toInt)) => ?_)
          ·
            exact K_124 h5 (0 : Int32) ((rfl : (0 : Int32) = b2i False).trans (b2i_iff ((and_iff_right c124).trans (iff_false_intro (fun y => y c131))).symm)) p4 (((if_pos c131).symm).trans (if_neg c124).symm) (0 : Int32) ((rfl : (0 : Int32) = b2i False).trans (b2i_iff ((and_iff_right c124).trans (iff_false_intro (fun y => y c131))).symm)) p4 (((if_pos c131).symm).trans (if_neg c124).symm) (0 : Int32) (((if_pos c131).symm).trans (if_neg c124).symm) B
          ·
            refine g_aload (pc' := 137) C at_135 rfl rfl rfl ?_
            refine g_iload (pc' := 139) C at_137 rfl rfl ?_
            refine g_virtual (y := (⟨"com/example/ripplecast/ripplecast/BudgetedSeeds", "add", "(I)V"⟩ : MethodName)) (a := a2) (pc' := 142) (k' := 4) (n' := 25) (S := []) (as := [(.int (1 : Int32))]) C at_139 rfl (hw _ (List.mem_of_getElem? (i := 25) rfl)) (hw _ (List.mem_of_getElem? (i := 27) rfl)) (hw _ (List.mem_of_getElem? (i := 3) rfl)) (hw _ (List.mem_of_getElem? (i := 29) rfl)) (hw _ (List.mem_of_getElem? (i := 26) rfl)) (hw _ (List.mem_of_getElem? (i := 28) rfl)) (by decide) B.1.1 (lenOf pd_2 rfl) (con_4_1 W.l Z a0 hw a2 a1 b2 b3 p0 p2 (0 : Int32) (0 : Int32) p4 (0 : Int32) (by decide) (by decide) (Ne.symm n_a1_a2) n1 n2 n3 n4 g23 h5 B) rfl rfl (Nat.le_of_ble_eq_true rfl) (Nat.le_of_ble_eq_true rfl) rfl rfl (Nat.le_of_ble_eq_true rfl) (Nat.le_of_ble_eq_true rfl) (allS w_a2 (allS pwb2 (allS pwb3 all0))) fun vh15 h15 qh15 Kh15 => ?_
            obtain ⟨rfl, B⟩ := qh15
            show Go W Q h15 4 25 142 #[.val (.long p0), .second, .val (.long p2), .second, .val (.long p4), .second, .val (.int p6), .val (.int p7), .val (.int p8), .val (.ref a1), .val (.ref a2), .val (.int (1 : Int32)), .val (.int (0 : Int32)), .val (.int (0 : Int32)), .val (.long p0), .second, .val (.long p2), .second, .val (.long p0), .second, .val (.int z35), .val (.int (0 : Int32)), .val (.int (0 : Int32)), .val (.long p4), .second, .unset, .unset] []
            refine g_iconst (pc' := 143) (z := (1 : Int32)) C at_142 rfl rfl ?_
            refine g_istore (pc' := 145) (L' := #[.val (.long p0), .second, .val (.long p2), .second, .val (.long p4), .second, .val (.int p6), .val (.int p7), .val (.int p8), .val (.ref a1), .val (.ref a2), .val (.int (1 : Int32)), .val (.int (0 : Int32)), .val (.int (0 : Int32)), .val (.long p0), .second, .val (.long p2), .second, .val (.long p0), .second, .val (.int z35), .val (.int (1 : Int32)), .val (.int (0 : Int32)), .val (.long p4), .second, .unset, .unset]) C at_143 rfl rfl ?_
            refine g_lload (pc' := 147) C at_145 rfl rfl ?_
            refine g_lload (pc' := 149) C at_147 rfl rfl ?_
            refine g_lsub (pc' := 150) C at_149 rfl ?_
            refine g_lstore (pc' := 152) (L' := #[.val (.long p0), .second, .val (.long p2), .second, .val (.long p4), .second, .val (.int p6), .val (.int p7), .val (.int p8), .val (.ref a1), .val (.ref a2), .val (.int (1 : Int32)), .val (.int (0 : Int32)), .val (.int (0 : Int32)), .val (.long p0), .second, .val (.long p2), .second, .val (.long p0), .second, .val (.int z35), .val (.int (1 : Int32)), .val (.int (0 : Int32)), .val (.long (p4 - p2)), .second, .unset, .unset]) C at_150 rfl rfl ?_
            exact K_124 h15 (1 : Int32) ((rfl : (1 : Int32) = b2i True).trans (b2i_iff ((and_iff_right c124).trans (iff_true_intro c131)).symm)) (p4 - p2) (((if_neg c131).symm).trans (if_neg c124).symm) (1 : Int32) ((rfl : (1 : Int32) = b2i True).trans (b2i_iff ((and_iff_right c124).trans (iff_true_intro c131)).symm)) (p4 - p2) (((if_neg c131).symm).trans (if_neg c124).symm) ((0 : Int32) + 1) (((if_neg c131).symm).trans (if_neg c124).symm) B
      intro h14
      intro z36 e_z36
      intro j37 e_j37
      intro z38 e_z38
      intro j39 e_j39
      intro i40 e_i40
      intro B
      refine g_iload (pc' := 154) C at_152 rfl rfl ?_
      refine g_iconst (pc' := 155) (z := (2 : Int32)) C at_154 rfl rfl ?_
      refine g_iand (pc' := 156) C at_155 rfl ?_
      suffices K_156 : ∀ (h16 : Heap), ∀ z41 : Int32, z41 = b2i ((¬ ((p8 &&& (2 : Int32)).toInt = 0)) ∧ (¬ (j37.toInt < p0.toInt))) → ∀ j42 : Int64, j42 = (if (p8 &&& (2 : Int32)).toInt = 0 then j37 else (if j37.toInt < p0.toInt then j37 else (j37 - p0))) → ∀ z43 : Int32, z43 = b2i ((¬ ((p8 &&& (2 : Int32)).toInt = 0)) ∧ (¬ (j37.toInt < p0.toInt))) → ∀ j44 : Int64, j44 = (if (p8 &&& (2 : Int32)).toInt = 0 then j39 else (if j37.toInt < p0.toInt then j39 else (j39 - p0))) → ∀ i45 : Int32, i45 = (if (p8 &&& (2 : Int32)).toInt = 0 then i40 else (if j37.toInt < p0.toInt then i40 else (i40 + 1))) → BS Z h16 a2 a1 b2 b3 p0 p2 z43 z38 j44 i45 → Go W Q h16 4 25 184 #[.val (.long p0), .second, .val (.long p2), .second, .val (.long p4), .second, .val (.int p6), .val (.int p7), .val (.int p8), .val (.ref a1), .val (.ref a2), .val (.int (1 : Int32)), .val (.int (0 : Int32)), .val (.int (0 : Int32)), .val (.long p0), .second, .val (.long p2), .second, .val (.long p0), .second, .val (.int z35), .val (.int z36), .val (.int z41), .val (.long j42), .second, .unset, .unset] [] by
        refine g_if (xi := (p8 &&& (2 : Int32)).toInt) (pc1 := 184) (pc2 := 159) C at_156 (by decide) rfl rfl rfl (fun (c156 : (p8 &&& (2 : Int32)).toInt = 0) => ?_) (fun (c156 : ¬ ((p8 &&& (2 : Int32)).toInt = 0)) => ?_)
        ·
          exact K_156 h14 (0 : Int32) ((rfl : (0 : Int32) = b2i False).trans (b2i_iff (iff_false_intro (fun y => (fun y => y c156) y.1)).symm)) j37 ((if_pos c156).symm) (0 : Int32) ((rfl : (0 : Int32) = b2i False).trans (b2i_iff (iff_false_intro (fun y => (fun y => y c156) y.1)).symm)) j39 ((if_pos c156).symm) i40 ((if_pos c156).symm) B
        ·
          refine g_lload (pc' := 161) C at_159 rfl rfl ?_
          refine g_lload (pc' := 163) C at_161 rfl rfl ?_
          refine g_lcmp (cd := .gt) (xi := p0.toInt) (yi := j37.toInt) (pc' := 164) (pc1 := 184) (pc2 := 167) C at_163 at_164 rfl (by decide) rfl rfl rfl rfl (fun (c163 : j37.toInt < p0.toInt) => ?_) (fun (c163 : ¬ (j37.toInt < p0.toInt)) => ?_)
          ·
            exact K_156 h14 (0 : Int32) ((rfl : (0 : Int32) = b2i False).trans (b2i_iff ((and_iff_right c156).trans (iff_false_intro (fun y => y c163))).symm)) j37 (((if_pos c163).symm).trans (if_neg c156).symm) (0 : Int32) ((rfl : (0 : Int32) = b2i False).trans (b2i_iff ((and_iff_right c156).trans (iff_false_intro (fun y => y c163))).symm)) j39 (((if_pos c163).symm).trans (if_neg c156).symm) i40 (((if_pos c163).symm).trans (if_neg c156).symm) B
          ·
            refine g_aload (pc' := 169) C at_167 rfl rfl rfl ?_
            refine g_iload (pc' := 171) C at_169 rfl rfl ?_
            refine g_virtual (y := (⟨"com/example/ripplecast/ripplecast/BudgetedSeeds", "add", "(I)V"⟩ : MethodName)) (a := a2) (pc' := 174) (k' := 4) (n' := 25) (S := []) (as := [(.int (0 : Int32))]) C at_171 rfl (hw _ (List.mem_of_getElem? (i := 25) rfl)) (hw _ (List.mem_of_getElem? (i := 27) rfl)) (hw _ (List.mem_of_getElem? (i := 3) rfl)) (hw _ (List.mem_of_getElem? (i := 29) rfl)) (hw _ (List.mem_of_getElem? (i := 26) rfl)) (hw _ (List.mem_of_getElem? (i := 28) rfl)) (by decide) B.1.1 (lenOf pd_2 rfl) (con_4_0 W.l Z a0 hw a2 a1 b2 b3 p0 p2 (0 : Int32) z38 j39 i40 (by rw [e_i40]; (repeat' split) <;> decide) (by rw [e_i40]; (repeat' split) <;> decide) (Ne.symm n_a1_a2) n1 n2 n3 n4 g23 h14 B) rfl rfl (Nat.le_of_ble_eq_true rfl) (Nat.le_of_ble_eq_true rfl) rfl rfl (Nat.le_of_ble_eq_true rfl) (Nat.le_of_ble_eq_true rfl) (allS w_a2 (allS pwb2 (allS pwb3 all0))) fun vh17 h17 qh17 Kh17 => ?_
            obtain ⟨rfl, B⟩ := qh17
            show Go W Q h17 4 25 174 #[.val (.long p0), .second, .val (.long p2), .second, .val (.long p4), .second, .val (.int p6), .val (.int p7), .val (.int p8), .val (.ref a1), .val (.ref a2), .val (.int (1 : Int32)), .val (.int (0 : Int32)), .val (.int (0 : Int32)), .val (.long p0), .second, .val (.long p2), .second, .val (.long p0), .second, .val (.int z35), .val (.int z36), .val (.int (0 : Int32)), .val (.long j37), .second, .unset, .unset] []
            refine g_iconst (pc' := 175) (z := (1 : Int32)) C at_174 rfl rfl ?_
            refine g_istore (pc' := 177) (L' := #[.val (.long p0), .second, .val (.long p2), .second, .val (.long p4), .second, .val (.int p6), .val (.int p7), .val (.int p8), .val (.ref a1), .val (.ref a2), .val (.int (1 : Int32)), .val (.int (0 : Int32)), .val (.int (0 : Int32)), .val (.long p0), .second, .val (.long p2), .second, .val (.long p0), .second, .val (.int z35), .val (.int z36), .val (.int (1 : Int32)), .val (.long j37), .second, .unset, .unset]) C at_175 rfl rfl ?_
            refine g_lload (pc' := 179) C at_177 rfl rfl ?_
            refine g_lload (pc' := 181) C at_179 rfl rfl ?_
            refine g_lsub (pc' := 182) C at_181 rfl ?_
            refine g_lstore (pc' := 184) (L' := #[.val (.long p0), .second, .val (.long p2), .second, .val (.long p4), .second, .val (.int p6), .val (.int p7), .val (.int p8), .val (.ref a1), .val (.ref a2), .val (.int (1 : Int32)), .val (.int (0 : Int32)), .val (.int (0 : Int32)), .val (.long p0), .second, .val (.long p2), .second, .val (.long p0), .second, .val (.int z35), .val (.int z36), .val (.int (1 : Int32)), .val (.long (j37 - p0)), .second, .unset, .unset]) C at_182 rfl rfl ?_
            exact K_156 h17 (1 : Int32) ((rfl : (1 : Int32) = b2i True).trans (b2i_iff ((and_iff_right c156).trans (iff_true_intro c163)).symm)) (j37 - p0) (((if_neg c163).symm).trans (if_neg c156).symm) (1 : Int32) ((rfl : (1 : Int32) = b2i True).trans (b2i_iff ((and_iff_right c156).trans (iff_true_intro c163)).symm)) (j39 - p0) (((if_neg c163).symm).trans (if_neg c156).symm) (i40 + 1) (((if_neg c163).symm).trans (if_neg c156).symm) B
      intro h16
      intro z41 e_z41
      intro j42 e_j42
      intro z43 e_z43
      intro j44 e_j44
      intro i45 e_i45
      intro B
      refine g_iload (pc' := 186) C at_184 rfl rfl ?_
      refine g_iload (pc' := 188) C at_186 rfl rfl ?_
      refine g_icmpY (xi := 0) (yi := 1) (pc1 := 196) C at_188 (by decide) rfl rfl rfl (by decide) ?_
      refine g_iload (pc' := 198) C at_196 rfl rfl ?_
      refine g_istore (pc' := 200) (L' := #[.val (.long p0), .second, .val (.long p2), .second, .val (.long p4), .second, .val (.int p6), .val (.int p7), .val (.int p8), .val (.ref a1), .val (.ref a2), .val (.int (1 : Int32)), .val (.int (0 : Int32)), .val (.int (0 : Int32)), .val (.long p0), .second, .val (.long p2), .second, .val (.long p0), .second, .val (.int z35), .val (.int z36), .val (.int z41), .val (.long j42), .second, .val (.int z41), .unset]) C at_198 rfl rfl ?_
      refine g_iload (pc' := 202) C at_200 rfl rfl ?_
      suffices K_202 : ∀ (Bz46 : Bool) (z46 : Int32), Bz46 = decide ((¬ ((¬ ((p8 &&& (2 : Int32)).toInt = 0)) ∧ (¬ (j37.toInt < p0.toInt)))) ∧ (¬ (j42.toInt < p0.toInt))) → z46 = b2i (Bz46 = true) → Go W Q h16 4 25 218 #[.val (.long p0), .second, .val (.long p2), .second, .val (.long p4), .second, .val (.int p6), .val (.int p7), .val (.int p8), .val (.ref a1), .val (.ref a2), .val (.int (1 : Int32)), .val (.int (0 : Int32)), .val (.int (0 : Int32)), .val (.long p0), .second, .val (.long p2), .second, .val (.long p0), .second, .val (.int z35), .val (.int z36), .val (.int z41), .val (.long j42), .second, .val (.int z41), .unset] [(.int z46)] by
        refine g_ifneb (pc1 := 217) (pc2 := 205) C at_202 (by decide) rfl rfl e_z41 (fun (c202 : (¬ ((p8 &&& (2 : Int32)).toInt = 0)) ∧ (¬ (j37.toInt < p0.toInt))) => ?_) (fun (c202 : ¬ ((¬ ((p8 &&& (2 : Int32)).toInt = 0)) ∧ (¬ (j37.toInt < p0.toInt)))) => ?_)
        ·
          refine g_iconst (pc' := 218) (z := (0 : Int32)) C at_217 rfl rfl ?_
          exact K_202 (decide ((¬ ((¬ ((p8 &&& (2 : Int32)).toInt = 0)) ∧ (¬ (j37.toInt < p0.toInt)))) ∧ (¬ (j42.toInt < p0.toInt)))) (0 : Int32) rfl ((rfl : (0 : Int32) = b2i False).trans (b2i_iff ((iff_false_intro (fun y => (fun y => y c202) y.1)).symm.trans decide_eq_true_iff.symm)))
        ·
          refine g_lload (pc' := 207) C at_205 rfl rfl ?_
          refine g_lload (pc' := 209) C at_207 rfl rfl ?_
          refine g_lcmp (cd := .gt) (xi := p0.toInt) (yi := j42.toInt) (pc' := 210) (pc1 := 217) (pc2 := 213) C at_209 at_210 rfl (by decide) rfl rfl rfl rfl (fun (c209 : j42.toInt < p0.toInt) => ?_) (fun (c209 : ¬ (j42.toInt < p0.toInt)) => ?_)
          ·
            refine g_iconst (pc' := 218) (z := (0 : Int32)) C at_217 rfl rfl ?_
            exact K_202 (decide ((¬ ((¬ ((p8 &&& (2 : Int32)).toInt = 0)) ∧ (¬ (j37.toInt < p0.toInt)))) ∧ (¬ (j42.toInt < p0.toInt)))) (0 : Int32) rfl ((rfl : (0 : Int32) = b2i False).trans (b2i_iff (((and_iff_right c202).trans (iff_false_intro (fun y => y c209))).symm.trans decide_eq_true_iff.symm)))
          ·
            refine g_iconst (pc' := 214) (z := (1 : Int32)) C at_213 rfl rfl ?_
            refine g_goto C at_214 (by decide) (pc' := 218) rfl ?_
            exact K_202 (decide ((¬ ((¬ ((p8 &&& (2 : Int32)).toInt = 0)) ∧ (¬ (j37.toInt < p0.toInt)))) ∧ (¬ (j42.toInt < p0.toInt)))) (1 : Int32) rfl ((rfl : (1 : Int32) = b2i True).trans (b2i_iff (((and_iff_right c202).trans (iff_true_intro c209)).symm.trans decide_eq_true_iff.symm)))
      intro Bz46 z46 bd_z46 e_z46
      have b_z46 : Bz46 = true ↔ ((¬ ((¬ ((p8 &&& (2 : Int32)).toInt = 0)) ∧ (¬ (j37.toInt < p0.toInt)))) ∧ (¬ (j42.toInt < p0.toInt))) := by rw [bd_z46]; exact decide_eq_true_iff
      refine g_istore (pc' := 220) (L' := #[.val (.long p0), .second, .val (.long p2), .second, .val (.long p4), .second, .val (.int p6), .val (.int p7), .val (.int p8), .val (.ref a1), .val (.ref a2), .val (.int (1 : Int32)), .val (.int (0 : Int32)), .val (.int (0 : Int32)), .val (.long p0), .second, .val (.long p2), .second, .val (.long p0), .second, .val (.int z35), .val (.int z36), .val (.int z41), .val (.long j42), .second, .val (.int z41), .val (.int z46)]) C at_218 rfl rfl ?_
      refine g_iload (pc' := 222) C at_220 rfl rfl ?_
      suffices K_222 : ∀ (Bz47 : Bool) (z47 : Int32), Bz47 = decide ((((¬ (False) ∧ p0.toInt ≤ p4.toInt)) ↔ (¬ (p4.toInt < p0.toInt))) ∧ (((¬ (((¬ ((p8 &&& (2 : Int32)).toInt = 0)) ∧ (¬ (j37.toInt < p0.toInt)))) ∧ p0.toInt ≤ j44.toInt)) ↔ (Bz46 = true))) → z47 = b2i (Bz47 = true) → Go W Q h16 4 25 242 #[.val (.long p0), .second, .val (.long p2), .second, .val (.long p4), .second, .val (.int p6), .val (.int p7), .val (.int p8), .val (.ref a1), .val (.ref a2), .val (.int (1 : Int32)), .val (.int (0 : Int32)), .val (.int (0 : Int32)), .val (.long p0), .second, .val (.long p2), .second, .val (.long p0), .second, .val (.int z35), .val (.int z36), .val (.int z41), .val (.long j42), .second, .val (.int z41), .val (.int z46)] [(.int z47)] by
        refine g_ifeqb (pc1 := 241) (pc2 := 225) C at_222 (by decide) rfl rfl e_z35 (fun (c222 : ¬ (((¬ (False) ∧ p0.toInt ≤ p4.toInt)) ↔ (¬ (p4.toInt < p0.toInt)))) => ?_) (fun (c222 : ((¬ (False) ∧ p0.toInt ≤ p4.toInt)) ↔ (¬ (p4.toInt < p0.toInt))) => ?_)
        ·
          refine g_iconst (pc' := 242) (z := (0 : Int32)) C at_241 rfl rfl ?_
          exact K_222 (decide ((((¬ (False) ∧ p0.toInt ≤ p4.toInt)) ↔ (¬ (p4.toInt < p0.toInt))) ∧ (((¬ (((¬ ((p8 &&& (2 : Int32)).toInt = 0)) ∧ (¬ (j37.toInt < p0.toInt)))) ∧ p0.toInt ≤ j44.toInt)) ↔ (Bz46 = true)))) (0 : Int32) rfl ((rfl : (0 : Int32) = b2i False).trans (b2i_iff ((iff_false_intro (fun y => c222 y.1)).symm.trans decide_eq_true_iff.symm)))
        ·
          refine g_aload (pc' := 227) C at_225 rfl rfl rfl ?_
          refine g_iload (pc' := 229) C at_227 rfl rfl ?_
          refine g_virtualP (y := (⟨"com/example/ripplecast/ripplecast/BudgetedSeeds", "fits", "(I)Z"⟩ : MethodName)) (a := a2) (pc' := 232) (k' := 4) (n' := 25) (S := []) (as := [(.int (0 : Int32))]) C at_229 rfl (hw _ (List.mem_of_getElem? (i := 20) rfl)) (hw _ (List.mem_of_getElem? (i := 22) rfl)) (hw _ (List.mem_of_getElem? (i := 3) rfl)) (hw _ (List.mem_of_getElem? (i := 24) rfl)) (hw _ (List.mem_of_getElem? (i := 21) rfl)) (hw _ (List.mem_of_getElem? (i := 23) rfl)) (by decide) B.1.1 (lenOf pd_1 rfl) (con_3_0 W.l Z a0 hw a2 a1 b2 b3 p0 p2 z43 z38 ((¬ ((p8 &&& (2 : Int32)).toInt = 0)) ∧ (¬ (j37.toInt < p0.toInt))) ((¬ ((p8 &&& (1 : Int32)).toInt = 0)) ∧ (¬ (p4.toInt < p2.toInt))) e_z43 e_z38 j44 i45 h16 B) rfl rfl (Nat.le_of_ble_eq_true rfl) (Nat.le_of_ble_eq_true rfl) rfl rfl (Nat.le_of_ble_eq_true rfl) (Nat.le_of_ble_eq_true rfl) (S1 := [(.int (b2i (¬ (((¬ ((p8 &&& (2 : Int32)).toInt = 0)) ∧ (¬ (j37.toInt < p0.toInt)))) ∧ p0.toInt ≤ j44.toInt)))]) rfl ?_
          refine g_iload (pc' := 234) C at_232 rfl rfl ?_
          refine g_icmpbne (pc1 := 241) (pc2 := 237) C at_234 (by decide) rfl rfl rfl e_z46 (fun (c234 : ¬ (((¬ (((¬ ((p8 &&& (2 : Int32)).toInt = 0)) ∧ (¬ (j37.toInt < p0.toInt)))) ∧ p0.toInt ≤ j44.toInt)) ↔ (Bz46 = true))) => ?_) (fun (c234 : ((¬ (((¬ ((p8 &&& (2 : Int32)).toInt = 0)) ∧ (¬ (j37.toInt < p0.toInt)))) ∧ p0.toInt ≤ j44.toInt)) ↔ (Bz46 = true)) => ?_)
          ·
            refine g_iconst (pc' := 242) (z := (0 : Int32)) C at_241 rfl rfl ?_
            exact K_222 (decide ((((¬ (False) ∧ p0.toInt ≤ p4.toInt)) ↔ (¬ (p4.toInt < p0.toInt))) ∧ (((¬ (((¬ ((p8 &&& (2 : Int32)).toInt = 0)) ∧ (¬ (j37.toInt < p0.toInt)))) ∧ p0.toInt ≤ j44.toInt)) ↔ (Bz46 = true)))) (0 : Int32) rfl ((rfl : (0 : Int32) = b2i False).trans (b2i_iff (((and_iff_right c222).trans (iff_false_intro c234)).symm.trans decide_eq_true_iff.symm)))
          ·
            refine g_iconst (pc' := 238) (z := (1 : Int32)) C at_237 rfl rfl ?_
            refine g_goto C at_238 (by decide) (pc' := 242) rfl ?_
            exact K_222 (decide ((((¬ (False) ∧ p0.toInt ≤ p4.toInt)) ↔ (¬ (p4.toInt < p0.toInt))) ∧ (((¬ (((¬ ((p8 &&& (2 : Int32)).toInt = 0)) ∧ (¬ (j37.toInt < p0.toInt)))) ∧ p0.toInt ≤ j44.toInt)) ↔ (Bz46 = true)))) (1 : Int32) rfl ((rfl : (1 : Int32) = b2i True).trans (b2i_iff (((and_iff_right c222).trans (iff_true_intro c234)).symm.trans decide_eq_true_iff.symm)))
      intro Bz47 z47 bd_z47 e_z47
      have b_z47 : Bz47 = true ↔ ((((¬ (False) ∧ p0.toInt ≤ p4.toInt)) ↔ (¬ (p4.toInt < p0.toInt))) ∧ (((¬ (((¬ ((p8 &&& (2 : Int32)).toInt = 0)) ∧ (¬ (j37.toInt < p0.toInt)))) ∧ p0.toInt ≤ j44.toInt)) ↔ (Bz46 = true))) := by rw [bd_z47]; exact decide_eq_true_iff
      refine g_retN C (by simp) at_242 (by decide) (by decide) ?_
      subst hQ
      refine congrArg (fun z => some (Value.int z)) (?_ : nar .boolean z47 = 1)
      rw [e_z47, nar_b2i]
      refine b2i_pos ?_
      rw [b_z47]
      have hh : j44 = j42 := by subst_vars; rfl
      rw [b_z46]
      rw [hh]
      simp only [not_false_eq_true, true_and]
      refine ⟨by omega, by omega⟩
    ·
      refine g_iload (pc' := 46) C at_44 rfl rfl ?_
      refine g_ifY (xi := 1) (pc1 := 53) C at_46 (by decide) rfl rfl (by decide) ?_
      refine g_lloadN (pc' := 54) C at_53 rfl rfl ?_
      refine g_lstore (pc' := 56) (L' := #[.val (.long p0), .second, .val (.long p2), .second, .val (.long p4), .second, .val (.int p6), .val (.int p7), .val (.int p8), .val (.ref a1), .val (.ref a2), .val (.int (1 : Int32)), .val (.int (0 : Int32)), .val (.int (1 : Int32)), .val (.long p2), .second, .unset, .unset, .unset, .unset, .unset, .unset, .unset, .unset, .unset, .unset, .unset]) C at_54 rfl rfl ?_
      refine g_iload (pc' := 58) C at_56 rfl rfl ?_
      refine g_ifY (xi := 1) (pc1 := 65) C at_58 (by decide) rfl rfl (by decide) ?_
      refine g_lloadN (pc' := 66) C at_65 rfl rfl ?_
      refine g_lstore (pc' := 68) (L' := #[.val (.long p0), .second, .val (.long p2), .second, .val (.long p4), .second, .val (.int p6), .val (.int p7), .val (.int p8), .val (.ref a1), .val (.ref a2), .val (.int (1 : Int32)), .val (.int (0 : Int32)), .val (.int (1 : Int32)), .val (.long p2), .second, .val (.long p2), .second, .unset, .unset, .unset, .unset, .unset, .unset, .unset, .unset, .unset]) C at_66 rfl rfl ?_
      refine g_iload (pc' := 70) C at_68 rfl rfl ?_
      refine g_ifN (xi := 0) (pc2 := 73) C at_70 rfl rfl (by decide) ?_
      refine g_lloadN (pc' := 74) C at_73 rfl rfl ?_
      refine g_goto C at_74 (by decide) (pc' := 78) rfl ?_
      refine g_lstore (pc' := 80) (L' := #[.val (.long p0), .second, .val (.long p2), .second, .val (.long p4), .second, .val (.int p6), .val (.int p7), .val (.int p8), .val (.ref a1), .val (.ref a2), .val (.int (1 : Int32)), .val (.int (0 : Int32)), .val (.int (1 : Int32)), .val (.long p2), .second, .val (.long p2), .second, .val (.long p0), .second, .unset, .unset, .unset, .unset, .unset, .unset, .unset]) C at_78 rfl rfl ?_
      refine g_aload (pc' := 82) C at_80 rfl rfl rfl ?_
      refine g_iload (pc' := 84) C at_82 rfl rfl ?_
      refine g_virtualP (y := (⟨"com/example/ripplecast/ripplecast/BudgetedSeeds", "fits", "(I)Z"⟩ : MethodName)) (a := a2) (pc' := 87) (k' := 4) (n' := 25) (S := []) (as := [(.int (1 : Int32))]) C at_84 rfl (hw _ (List.mem_of_getElem? (i := 20) rfl)) (hw _ (List.mem_of_getElem? (i := 22) rfl)) (hw _ (List.mem_of_getElem? (i := 3) rfl)) (hw _ (List.mem_of_getElem? (i := 24) rfl)) (hw _ (List.mem_of_getElem? (i := 21) rfl)) (hw _ (List.mem_of_getElem? (i := 23) rfl)) (by decide) B.1.1 (lenOf pd_1 rfl) (con_3_1 W.l Z a0 hw a2 a1 b2 b3 p0 p2 (0 : Int32) (0 : Int32) False False rfl rfl p4 (0 : Int32) h5 B) rfl rfl (Nat.le_of_ble_eq_true rfl) (Nat.le_of_ble_eq_true rfl) rfl rfl (Nat.le_of_ble_eq_true rfl) (Nat.le_of_ble_eq_true rfl) (S1 := [(.int (b2i (¬ (False) ∧ p2.toInt ≤ p4.toInt)))]) rfl ?_
      refine g_lload (pc' := 89) C at_87 rfl rfl ?_
      refine g_lload (pc' := 91) C at_89 rfl rfl ?_
      suffices K_91 : ∀ z48 : Int32, z48 = b2i (¬ (p4.toInt < p2.toInt)) → Go W Q h5 4 25 100 #[.val (.long p0), .second, .val (.long p2), .second, .val (.long p4), .second, .val (.int p6), .val (.int p7), .val (.int p8), .val (.ref a1), .val (.ref a2), .val (.int (1 : Int32)), .val (.int (0 : Int32)), .val (.int (1 : Int32)), .val (.long p2), .second, .val (.long p2), .second, .val (.long p0), .second, .unset, .unset, .unset, .unset, .unset, .unset, .unset] [(.int z48), (.int (b2i (¬ (False) ∧ p2.toInt ≤ p4.toInt)))] by
        refine g_lcmp (cd := .gt) (xi := p2.toInt) (yi := p4.toInt) (pc' := 92) (pc1 := 99) (pc2 := 95) C at_91 at_92 rfl (by decide) rfl rfl rfl rfl (fun (c91 : p4.toInt < p2.toInt) => ?_) (fun (c91 : ¬ (p4.toInt < p2.toInt)) => ?_)
        ·
          refine g_iconst (pc' := 100) (z := (0 : Int32)) C at_99 rfl rfl ?_
          exact K_91 (0 : Int32) ((rfl : (0 : Int32) = b2i False).trans (b2i_iff (iff_false_intro (fun y => y c91)).symm))
        ·
          refine g_iconst (pc' := 96) (z := (1 : Int32)) C at_95 rfl rfl ?_
          refine g_goto C at_96 (by decide) (pc' := 100) rfl ?_
          exact K_91 (1 : Int32) ((rfl : (1 : Int32) = b2i True).trans (b2i_iff (iff_true_intro c91).symm))
      intro z48 e_z48
      suffices K_100 : ∀ z49 : Int32, z49 = b2i (((¬ (False) ∧ p2.toInt ≤ p4.toInt)) ↔ (¬ (p4.toInt < p2.toInt))) → Go W Q h5 4 25 108 #[.val (.long p0), .second, .val (.long p2), .second, .val (.long p4), .second, .val (.int p6), .val (.int p7), .val (.int p8), .val (.ref a1), .val (.ref a2), .val (.int (1 : Int32)), .val (.int (0 : Int32)), .val (.int (1 : Int32)), .val (.long p2), .second, .val (.long p2), .second, .val (.long p0), .second, .unset, .unset, .unset, .unset, .unset, .unset, .unset] [(.int z49)] by
        refine g_icmpbne (pc1 := 107) (pc2 := 103) C at_100 (by decide) rfl rfl rfl e_z48 (fun (c100 : ¬ (((¬ (False) ∧ p2.toInt ≤ p4.toInt)) ↔ (¬ (p4.toInt < p2.toInt)))) => ?_) (fun (c100 : ((¬ (False) ∧ p2.toInt ≤ p4.toInt)) ↔ (¬ (p4.toInt < p2.toInt))) => ?_)
        ·
          refine g_iconst (pc' := 108) (z := (0 : Int32)) C at_107 rfl rfl ?_
          exact K_100 (0 : Int32) ((rfl : (0 : Int32) = b2i False).trans (b2i_iff (iff_false_intro c100).symm))
        ·
          refine g_iconst (pc' := 104) (z := (1 : Int32)) C at_103 rfl rfl ?_
          refine g_goto C at_104 (by decide) (pc' := 108) rfl ?_
          exact K_100 (1 : Int32) ((rfl : (1 : Int32) = b2i True).trans (b2i_iff (iff_true_intro c100).symm))
      intro z49 e_z49
      refine g_istore (pc' := 110) (L' := #[.val (.long p0), .second, .val (.long p2), .second, .val (.long p4), .second, .val (.int p6), .val (.int p7), .val (.int p8), .val (.ref a1), .val (.ref a2), .val (.int (1 : Int32)), .val (.int (0 : Int32)), .val (.int (1 : Int32)), .val (.long p2), .second, .val (.long p2), .second, .val (.long p0), .second, .val (.int z49), .unset, .unset, .unset, .unset, .unset, .unset]) C at_108 rfl rfl ?_
      refine g_iconst (pc' := 111) (z := (0 : Int32)) C at_110 rfl rfl ?_
      refine g_istore (pc' := 113) (L' := #[.val (.long p0), .second, .val (.long p2), .second, .val (.long p4), .second, .val (.int p6), .val (.int p7), .val (.int p8), .val (.ref a1), .val (.ref a2), .val (.int (1 : Int32)), .val (.int (0 : Int32)), .val (.int (1 : Int32)), .val (.long p2), .second, .val (.long p2), .second, .val (.long p0), .second, .val (.int z49), .val (.int (0 : Int32)), .unset, .unset, .unset, .unset, .unset]) C at_111 rfl rfl ?_
      refine g_iconst (pc' := 114) (z := (0 : Int32)) C at_113 rfl rfl ?_
      refine g_istore (pc' := 116) (L' := #[.val (.long p0), .second, .val (.long p2), .second, .val (.long p4), .second, .val (.int p6), .val (.int p7), .val (.int p8), .val (.ref a1), .val (.ref a2), .val (.int (1 : Int32)), .val (.int (0 : Int32)), .val (.int (1 : Int32)), .val (.long p2), .second, .val (.long p2), .second, .val (.long p0), .second, .val (.int z49), .val (.int (0 : Int32)), .val (.int (0 : Int32)), .unset, .unset, .unset, .unset]) C at_114 rfl rfl ?_
      refine g_lload (pc' := 118) C at_116 rfl rfl ?_
      refine g_lstore (pc' := 120) (L' := #[.val (.long p0), .second, .val (.long p2), .second, .val (.long p4), .second, .val (.int p6), .val (.int p7), .val (.int p8), .val (.ref a1), .val (.ref a2), .val (.int (1 : Int32)), .val (.int (0 : Int32)), .val (.int (1 : Int32)), .val (.long p2), .second, .val (.long p2), .second, .val (.long p0), .second, .val (.int z49), .val (.int (0 : Int32)), .val (.int (0 : Int32)), .val (.long p4), .second, .unset, .unset]) C at_118 rfl rfl ?_
      refine g_iload (pc' := 122) C at_120 rfl rfl ?_
      refine g_iconst (pc' := 123) (z := (1 : Int32)) C at_122 rfl rfl ?_
      refine g_iand (pc' := 124) C at_123 rfl ?_
      suffices K_124 : ∀ (h18 : Heap), ∀ z50 : Int32, z50 = b2i ((¬ ((p8 &&& (1 : Int32)).toInt = 0)) ∧ (¬ (p4.toInt < p2.toInt))) → ∀ j51 : Int64, j51 = (if (p8 &&& (1 : Int32)).toInt = 0 then p4 else (if p4.toInt < p2.toInt then p4 else (p4 - p2))) → ∀ z52 : Int32, z52 = b2i ((¬ ((p8 &&& (1 : Int32)).toInt = 0)) ∧ (¬ (p4.toInt < p2.toInt))) → ∀ j53 : Int64, j53 = (if (p8 &&& (1 : Int32)).toInt = 0 then p4 else (if p4.toInt < p2.toInt then p4 else (p4 - p2))) → ∀ i54 : Int32, i54 = (if (p8 &&& (1 : Int32)).toInt = 0 then (0 : Int32) else (if p4.toInt < p2.toInt then (0 : Int32) else ((0 : Int32) + 1))) → BS Z h18 a2 a1 b2 b3 p0 p2 (0 : Int32) z52 j53 i54 → Go W Q h18 4 25 152 #[.val (.long p0), .second, .val (.long p2), .second, .val (.long p4), .second, .val (.int p6), .val (.int p7), .val (.int p8), .val (.ref a1), .val (.ref a2), .val (.int (1 : Int32)), .val (.int (0 : Int32)), .val (.int (1 : Int32)), .val (.long p2), .second, .val (.long p2), .second, .val (.long p0), .second, .val (.int z49), .val (.int z50), .val (.int (0 : Int32)), .val (.long j51), .second, .unset, .unset] [] by
        refine g_if (xi := (p8 &&& (1 : Int32)).toInt) (pc1 := 152) (pc2 := 127) C at_124 (by decide) rfl rfl rfl (fun (c124 : (p8 &&& (1 : Int32)).toInt = 0) => ?_) (fun (c124 : ¬ ((p8 &&& (1 : Int32)).toInt = 0)) => ?_)
        ·
          exact K_124 h5 (0 : Int32) ((rfl : (0 : Int32) = b2i False).trans (b2i_iff (iff_false_intro (fun y => (fun y => y c124) y.1)).symm)) p4 ((if_pos c124).symm) (0 : Int32) ((rfl : (0 : Int32) = b2i False).trans (b2i_iff (iff_false_intro (fun y => (fun y => y c124) y.1)).symm)) p4 ((if_pos c124).symm) (0 : Int32) ((if_pos c124).symm) B
        ·
          refine g_lload (pc' := 129) C at_127 rfl rfl ?_
          refine g_lload (pc' := 131) C at_129 rfl rfl ?_
          refine g_lcmp (cd := .gt) (xi := p2.toInt) (yi := p4.toInt) (pc' := 132) (pc1 := 152) (pc2 := 135) C at_131 at_132 rfl (by decide) rfl rfl rfl rfl (fun (c131 : p4.toInt < p2.toInt) => ?_) (fun (c131 : ¬ (p4.toInt < p2.toInt)) => ?_)
          ·
            exact K_124 h5 (0 : Int32) ((rfl : (0 : Int32) = b2i False).trans (b2i_iff ((and_iff_right c124).trans (iff_false_intro (fun y => y c131))).symm)) p4 (((if_pos c131).symm).trans (if_neg c124).symm) (0 : Int32) ((rfl : (0 : Int32) = b2i False).trans (b2i_iff ((and_iff_right c124).trans (iff_false_intro (fun y => y c131))).symm)) p4 (((if_pos c131).symm).trans (if_neg c124).symm) (0 : Int32) (((if_pos c131).symm).trans (if_neg c124).symm) B
          ·
            refine g_aload (pc' := 137) C at_135 rfl rfl rfl ?_
            refine g_iload (pc' := 139) C at_137 rfl rfl ?_
            refine g_virtual (y := (⟨"com/example/ripplecast/ripplecast/BudgetedSeeds", "add", "(I)V"⟩ : MethodName)) (a := a2) (pc' := 142) (k' := 4) (n' := 25) (S := []) (as := [(.int (1 : Int32))]) C at_139 rfl (hw _ (List.mem_of_getElem? (i := 25) rfl)) (hw _ (List.mem_of_getElem? (i := 27) rfl)) (hw _ (List.mem_of_getElem? (i := 3) rfl)) (hw _ (List.mem_of_getElem? (i := 29) rfl)) (hw _ (List.mem_of_getElem? (i := 26) rfl)) (hw _ (List.mem_of_getElem? (i := 28) rfl)) (by decide) B.1.1 (lenOf pd_2 rfl) (con_4_1 W.l Z a0 hw a2 a1 b2 b3 p0 p2 (0 : Int32) (0 : Int32) p4 (0 : Int32) (by decide) (by decide) (Ne.symm n_a1_a2) n1 n2 n3 n4 g23 h5 B) rfl rfl (Nat.le_of_ble_eq_true rfl) (Nat.le_of_ble_eq_true rfl) rfl rfl (Nat.le_of_ble_eq_true rfl) (Nat.le_of_ble_eq_true rfl) (allS w_a2 (allS pwb2 (allS pwb3 all0))) fun vh19 h19 qh19 Kh19 => ?_
            obtain ⟨rfl, B⟩ := qh19
            show Go W Q h19 4 25 142 #[.val (.long p0), .second, .val (.long p2), .second, .val (.long p4), .second, .val (.int p6), .val (.int p7), .val (.int p8), .val (.ref a1), .val (.ref a2), .val (.int (1 : Int32)), .val (.int (0 : Int32)), .val (.int (1 : Int32)), .val (.long p2), .second, .val (.long p2), .second, .val (.long p0), .second, .val (.int z49), .val (.int (0 : Int32)), .val (.int (0 : Int32)), .val (.long p4), .second, .unset, .unset] []
            refine g_iconst (pc' := 143) (z := (1 : Int32)) C at_142 rfl rfl ?_
            refine g_istore (pc' := 145) (L' := #[.val (.long p0), .second, .val (.long p2), .second, .val (.long p4), .second, .val (.int p6), .val (.int p7), .val (.int p8), .val (.ref a1), .val (.ref a2), .val (.int (1 : Int32)), .val (.int (0 : Int32)), .val (.int (1 : Int32)), .val (.long p2), .second, .val (.long p2), .second, .val (.long p0), .second, .val (.int z49), .val (.int (1 : Int32)), .val (.int (0 : Int32)), .val (.long p4), .second, .unset, .unset]) C at_143 rfl rfl ?_
            refine g_lload (pc' := 147) C at_145 rfl rfl ?_
            refine g_lload (pc' := 149) C at_147 rfl rfl ?_
            refine g_lsub (pc' := 150) C at_149 rfl ?_
            refine g_lstore (pc' := 152) (L' := #[.val (.long p0), .second, .val (.long p2), .second, .val (.long p4), .second, .val (.int p6), .val (.int p7), .val (.int p8), .val (.ref a1), .val (.ref a2), .val (.int (1 : Int32)), .val (.int (0 : Int32)), .val (.int (1 : Int32)), .val (.long p2), .second, .val (.long p2), .second, .val (.long p0), .second, .val (.int z49), .val (.int (1 : Int32)), .val (.int (0 : Int32)), .val (.long (p4 - p2)), .second, .unset, .unset]) C at_150 rfl rfl ?_
            exact K_124 h19 (1 : Int32) ((rfl : (1 : Int32) = b2i True).trans (b2i_iff ((and_iff_right c124).trans (iff_true_intro c131)).symm)) (p4 - p2) (((if_neg c131).symm).trans (if_neg c124).symm) (1 : Int32) ((rfl : (1 : Int32) = b2i True).trans (b2i_iff ((and_iff_right c124).trans (iff_true_intro c131)).symm)) (p4 - p2) (((if_neg c131).symm).trans (if_neg c124).symm) ((0 : Int32) + 1) (((if_neg c131).symm).trans (if_neg c124).symm) B
      intro h18
      intro z50 e_z50
      intro j51 e_j51
      intro z52 e_z52
      intro j53 e_j53
      intro i54 e_i54
      intro B
      refine g_iload (pc' := 154) C at_152 rfl rfl ?_
      refine g_iconst (pc' := 155) (z := (2 : Int32)) C at_154 rfl rfl ?_
      refine g_iand (pc' := 156) C at_155 rfl ?_
      suffices K_156 : ∀ (h20 : Heap), ∀ z55 : Int32, z55 = b2i ((¬ ((p8 &&& (2 : Int32)).toInt = 0)) ∧ (¬ (j51.toInt < p0.toInt))) → ∀ j56 : Int64, j56 = (if (p8 &&& (2 : Int32)).toInt = 0 then j51 else (if j51.toInt < p0.toInt then j51 else (j51 - p0))) → ∀ z57 : Int32, z57 = b2i ((¬ ((p8 &&& (2 : Int32)).toInt = 0)) ∧ (¬ (j51.toInt < p0.toInt))) → ∀ j58 : Int64, j58 = (if (p8 &&& (2 : Int32)).toInt = 0 then j53 else (if j51.toInt < p0.toInt then j53 else (j53 - p0))) → ∀ i59 : Int32, i59 = (if (p8 &&& (2 : Int32)).toInt = 0 then i54 else (if j51.toInt < p0.toInt then i54 else (i54 + 1))) → BS Z h20 a2 a1 b2 b3 p0 p2 z57 z52 j58 i59 → Go W Q h20 4 25 184 #[.val (.long p0), .second, .val (.long p2), .second, .val (.long p4), .second, .val (.int p6), .val (.int p7), .val (.int p8), .val (.ref a1), .val (.ref a2), .val (.int (1 : Int32)), .val (.int (0 : Int32)), .val (.int (1 : Int32)), .val (.long p2), .second, .val (.long p2), .second, .val (.long p0), .second, .val (.int z49), .val (.int z50), .val (.int z55), .val (.long j56), .second, .unset, .unset] [] by
        refine g_if (xi := (p8 &&& (2 : Int32)).toInt) (pc1 := 184) (pc2 := 159) C at_156 (by decide) rfl rfl rfl (fun (c156 : (p8 &&& (2 : Int32)).toInt = 0) => ?_) (fun (c156 : ¬ ((p8 &&& (2 : Int32)).toInt = 0)) => ?_)
        ·
          exact K_156 h18 (0 : Int32) ((rfl : (0 : Int32) = b2i False).trans (b2i_iff (iff_false_intro (fun y => (fun y => y c156) y.1)).symm)) j51 ((if_pos c156).symm) (0 : Int32) ((rfl : (0 : Int32) = b2i False).trans (b2i_iff (iff_false_intro (fun y => (fun y => y c156) y.1)).symm)) j53 ((if_pos c156).symm) i54 ((if_pos c156).symm) B
        ·
          refine g_lload (pc' := 161) C at_159 rfl rfl ?_
          refine g_lload (pc' := 163) C at_161 rfl rfl ?_
          refine g_lcmp (cd := .gt) (xi := p0.toInt) (yi := j51.toInt) (pc' := 164) (pc1 := 184) (pc2 := 167) C at_163 at_164 rfl (by decide) rfl rfl rfl rfl (fun (c163 : j51.toInt < p0.toInt) => ?_) (fun (c163 : ¬ (j51.toInt < p0.toInt)) => ?_)
          ·
            exact K_156 h18 (0 : Int32) ((rfl : (0 : Int32) = b2i False).trans (b2i_iff ((and_iff_right c156).trans (iff_false_intro (fun y => y c163))).symm)) j51 (((if_pos c163).symm).trans (if_neg c156).symm) (0 : Int32) ((rfl : (0 : Int32) = b2i False).trans (b2i_iff ((and_iff_right c156).trans (iff_false_intro (fun y => y c163))).symm)) j53 (((if_pos c163).symm).trans (if_neg c156).symm) i54 (((if_pos c163).symm).trans (if_neg c156).symm) B
          ·
            refine g_aload (pc' := 169) C at_167 rfl rfl rfl ?_
            refine g_iload (pc' := 171) C at_169 rfl rfl ?_
            refine g_virtual (y := (⟨"com/example/ripplecast/ripplecast/BudgetedSeeds", "add", "(I)V"⟩ : MethodName)) (a := a2) (pc' := 174) (k' := 4) (n' := 25) (S := []) (as := [(.int (0 : Int32))]) C at_171 rfl (hw _ (List.mem_of_getElem? (i := 25) rfl)) (hw _ (List.mem_of_getElem? (i := 27) rfl)) (hw _ (List.mem_of_getElem? (i := 3) rfl)) (hw _ (List.mem_of_getElem? (i := 29) rfl)) (hw _ (List.mem_of_getElem? (i := 26) rfl)) (hw _ (List.mem_of_getElem? (i := 28) rfl)) (by decide) B.1.1 (lenOf pd_2 rfl) (con_4_0 W.l Z a0 hw a2 a1 b2 b3 p0 p2 (0 : Int32) z52 j53 i54 (by rw [e_i54]; (repeat' split) <;> decide) (by rw [e_i54]; (repeat' split) <;> decide) (Ne.symm n_a1_a2) n1 n2 n3 n4 g23 h18 B) rfl rfl (Nat.le_of_ble_eq_true rfl) (Nat.le_of_ble_eq_true rfl) rfl rfl (Nat.le_of_ble_eq_true rfl) (Nat.le_of_ble_eq_true rfl) (allS w_a2 (allS pwb2 (allS pwb3 all0))) fun vh21 h21 qh21 Kh21 => ?_
            obtain ⟨rfl, B⟩ := qh21
            show Go W Q h21 4 25 174 #[.val (.long p0), .second, .val (.long p2), .second, .val (.long p4), .second, .val (.int p6), .val (.int p7), .val (.int p8), .val (.ref a1), .val (.ref a2), .val (.int (1 : Int32)), .val (.int (0 : Int32)), .val (.int (1 : Int32)), .val (.long p2), .second, .val (.long p2), .second, .val (.long p0), .second, .val (.int z49), .val (.int z50), .val (.int (0 : Int32)), .val (.long j51), .second, .unset, .unset] []
            refine g_iconst (pc' := 175) (z := (1 : Int32)) C at_174 rfl rfl ?_
            refine g_istore (pc' := 177) (L' := #[.val (.long p0), .second, .val (.long p2), .second, .val (.long p4), .second, .val (.int p6), .val (.int p7), .val (.int p8), .val (.ref a1), .val (.ref a2), .val (.int (1 : Int32)), .val (.int (0 : Int32)), .val (.int (1 : Int32)), .val (.long p2), .second, .val (.long p2), .second, .val (.long p0), .second, .val (.int z49), .val (.int z50), .val (.int (1 : Int32)), .val (.long j51), .second, .unset, .unset]) C at_175 rfl rfl ?_
            refine g_lload (pc' := 179) C at_177 rfl rfl ?_
            refine g_lload (pc' := 181) C at_179 rfl rfl ?_
            refine g_lsub (pc' := 182) C at_181 rfl ?_
            refine g_lstore (pc' := 184) (L' := #[.val (.long p0), .second, .val (.long p2), .second, .val (.long p4), .second, .val (.int p6), .val (.int p7), .val (.int p8), .val (.ref a1), .val (.ref a2), .val (.int (1 : Int32)), .val (.int (0 : Int32)), .val (.int (1 : Int32)), .val (.long p2), .second, .val (.long p2), .second, .val (.long p0), .second, .val (.int z49), .val (.int z50), .val (.int (1 : Int32)), .val (.long (j51 - p0)), .second, .unset, .unset]) C at_182 rfl rfl ?_
            exact K_156 h21 (1 : Int32) ((rfl : (1 : Int32) = b2i True).trans (b2i_iff ((and_iff_right c156).trans (iff_true_intro c163)).symm)) (j51 - p0) (((if_neg c163).symm).trans (if_neg c156).symm) (1 : Int32) ((rfl : (1 : Int32) = b2i True).trans (b2i_iff ((and_iff_right c156).trans (iff_true_intro c163)).symm)) (j53 - p0) (((if_neg c163).symm).trans (if_neg c156).symm) (i54 + 1) (((if_neg c163).symm).trans (if_neg c156).symm) B
      intro h20
      intro z55 e_z55
      intro j56 e_j56
      intro z57 e_z57
      intro j58 e_j58
      intro i59 e_i59
      intro B
      refine g_iload (pc' := 186) C at_184 rfl rfl ?_
      refine g_iload (pc' := 188) C at_186 rfl rfl ?_
      refine g_icmpN (xi := 1) (yi := 1) (pc2 := 191) C at_188 rfl rfl rfl (by decide) ?_
      refine g_iload (pc' := 193) C at_191 rfl rfl ?_
      refine g_goto C at_193 (by decide) (pc' := 198) rfl ?_
      refine g_istore (pc' := 200) (L' := #[.val (.long p0), .second, .val (.long p2), .second, .val (.long p4), .second, .val (.int p6), .val (.int p7), .val (.int p8), .val (.ref a1), .val (.ref a2), .val (.int (1 : Int32)), .val (.int (0 : Int32)), .val (.int (1 : Int32)), .val (.long p2), .second, .val (.long p2), .second, .val (.long p0), .second, .val (.int z49), .val (.int z50), .val (.int z55), .val (.long j56), .second, .val (.int z50), .unset]) C at_198 rfl rfl ?_
      refine g_iload (pc' := 202) C at_200 rfl rfl ?_
      suffices K_202 : ∀ (Bz60 : Bool) (z60 : Int32), Bz60 = decide ((¬ ((¬ ((p8 &&& (1 : Int32)).toInt = 0)) ∧ (¬ (p4.toInt < p2.toInt)))) ∧ (¬ (j56.toInt < p2.toInt))) → z60 = b2i (Bz60 = true) → Go W Q h20 4 25 218 #[.val (.long p0), .second, .val (.long p2), .second, .val (.long p4), .second, .val (.int p6), .val (.int p7), .val (.int p8), .val (.ref a1), .val (.ref a2), .val (.int (1 : Int32)), .val (.int (0 : Int32)), .val (.int (1 : Int32)), .val (.long p2), .second, .val (.long p2), .second, .val (.long p0), .second, .val (.int z49), .val (.int z50), .val (.int z55), .val (.long j56), .second, .val (.int z50), .unset] [(.int z60)] by
        refine g_ifneb (pc1 := 217) (pc2 := 205) C at_202 (by decide) rfl rfl e_z50 (fun (c202 : (¬ ((p8 &&& (1 : Int32)).toInt = 0)) ∧ (¬ (p4.toInt < p2.toInt))) => ?_) (fun (c202 : ¬ ((¬ ((p8 &&& (1 : Int32)).toInt = 0)) ∧ (¬ (p4.toInt < p2.toInt)))) => ?_)
        ·
          refine g_iconst (pc' := 218) (z := (0 : Int32)) C at_217 rfl rfl ?_
          exact K_202 (decide ((¬ ((¬ ((p8 &&& (1 : Int32)).toInt = 0)) ∧ (¬ (p4.toInt < p2.toInt)))) ∧ (¬ (j56.toInt < p2.toInt)))) (0 : Int32) rfl ((rfl : (0 : Int32) = b2i False).trans (b2i_iff ((iff_false_intro (fun y => (fun y => y c202) y.1)).symm.trans decide_eq_true_iff.symm)))
        ·
          refine g_lload (pc' := 207) C at_205 rfl rfl ?_
          refine g_lload (pc' := 209) C at_207 rfl rfl ?_
          refine g_lcmp (cd := .gt) (xi := p2.toInt) (yi := j56.toInt) (pc' := 210) (pc1 := 217) (pc2 := 213) C at_209 at_210 rfl (by decide) rfl rfl rfl rfl (fun (c209 : j56.toInt < p2.toInt) => ?_) (fun (c209 : ¬ (j56.toInt < p2.toInt)) => ?_)
          ·
            refine g_iconst (pc' := 218) (z := (0 : Int32)) C at_217 rfl rfl ?_
            exact K_202 (decide ((¬ ((¬ ((p8 &&& (1 : Int32)).toInt = 0)) ∧ (¬ (p4.toInt < p2.toInt)))) ∧ (¬ (j56.toInt < p2.toInt)))) (0 : Int32) rfl ((rfl : (0 : Int32) = b2i False).trans (b2i_iff (((and_iff_right c202).trans (iff_false_intro (fun y => y c209))).symm.trans decide_eq_true_iff.symm)))
          ·
            refine g_iconst (pc' := 214) (z := (1 : Int32)) C at_213 rfl rfl ?_
            refine g_goto C at_214 (by decide) (pc' := 218) rfl ?_
            exact K_202 (decide ((¬ ((¬ ((p8 &&& (1 : Int32)).toInt = 0)) ∧ (¬ (p4.toInt < p2.toInt)))) ∧ (¬ (j56.toInt < p2.toInt)))) (1 : Int32) rfl ((rfl : (1 : Int32) = b2i True).trans (b2i_iff (((and_iff_right c202).trans (iff_true_intro c209)).symm.trans decide_eq_true_iff.symm)))
      intro Bz60 z60 bd_z60 e_z60
      have b_z60 : Bz60 = true ↔ ((¬ ((¬ ((p8 &&& (1 : Int32)).toInt = 0)) ∧ (¬ (p4.toInt < p2.toInt)))) ∧ (¬ (j56.toInt < p2.toInt))) := by rw [bd_z60]; exact decide_eq_true_iff
      refine g_istore (pc' := 220) (L' := #[.val (.long p0), .second, .val (.long p2), .second, .val (.long p4), .second, .val (.int p6), .val (.int p7), .val (.int p8), .val (.ref a1), .val (.ref a2), .val (.int (1 : Int32)), .val (.int (0 : Int32)), .val (.int (1 : Int32)), .val (.long p2), .second, .val (.long p2), .second, .val (.long p0), .second, .val (.int z49), .val (.int z50), .val (.int z55), .val (.long j56), .second, .val (.int z50), .val (.int z60)]) C at_218 rfl rfl ?_
      refine g_iload (pc' := 222) C at_220 rfl rfl ?_
      suffices K_222 : ∀ (Bz61 : Bool) (z61 : Int32), Bz61 = decide ((((¬ (False) ∧ p2.toInt ≤ p4.toInt)) ↔ (¬ (p4.toInt < p2.toInt))) ∧ (((¬ (((¬ ((p8 &&& (1 : Int32)).toInt = 0)) ∧ (¬ (p4.toInt < p2.toInt)))) ∧ p2.toInt ≤ j58.toInt)) ↔ (Bz60 = true))) → z61 = b2i (Bz61 = true) → Go W Q h20 4 25 242 #[.val (.long p0), .second, .val (.long p2), .second, .val (.long p4), .second, .val (.int p6), .val (.int p7), .val (.int p8), .val (.ref a1), .val (.ref a2), .val (.int (1 : Int32)), .val (.int (0 : Int32)), .val (.int (1 : Int32)), .val (.long p2), .second, .val (.long p2), .second, .val (.long p0), .second, .val (.int z49), .val (.int z50), .val (.int z55), .val (.long j56), .second, .val (.int z50), .val (.int z60)] [(.int z61)] by
        refine g_ifeqb (pc1 := 241) (pc2 := 225) C at_222 (by decide) rfl rfl e_z49 (fun (c222 : ¬ (((¬ (False) ∧ p2.toInt ≤ p4.toInt)) ↔ (¬ (p4.toInt < p2.toInt)))) => ?_) (fun (c222 : ((¬ (False) ∧ p2.toInt ≤ p4.toInt)) ↔ (¬ (p4.toInt < p2.toInt))) => ?_)
        ·
          refine g_iconst (pc' := 242) (z := (0 : Int32)) C at_241 rfl rfl ?_
          exact K_222 (decide ((((¬ (False) ∧ p2.toInt ≤ p4.toInt)) ↔ (¬ (p4.toInt < p2.toInt))) ∧ (((¬ (((¬ ((p8 &&& (1 : Int32)).toInt = 0)) ∧ (¬ (p4.toInt < p2.toInt)))) ∧ p2.toInt ≤ j58.toInt)) ↔ (Bz60 = true)))) (0 : Int32) rfl ((rfl : (0 : Int32) = b2i False).trans (b2i_iff ((iff_false_intro (fun y => c222 y.1)).symm.trans decide_eq_true_iff.symm)))
        ·
          refine g_aload (pc' := 227) C at_225 rfl rfl rfl ?_
          refine g_iload (pc' := 229) C at_227 rfl rfl ?_
          refine g_virtualP (y := (⟨"com/example/ripplecast/ripplecast/BudgetedSeeds", "fits", "(I)Z"⟩ : MethodName)) (a := a2) (pc' := 232) (k' := 4) (n' := 25) (S := []) (as := [(.int (1 : Int32))]) C at_229 rfl (hw _ (List.mem_of_getElem? (i := 20) rfl)) (hw _ (List.mem_of_getElem? (i := 22) rfl)) (hw _ (List.mem_of_getElem? (i := 3) rfl)) (hw _ (List.mem_of_getElem? (i := 24) rfl)) (hw _ (List.mem_of_getElem? (i := 21) rfl)) (hw _ (List.mem_of_getElem? (i := 23) rfl)) (by decide) B.1.1 (lenOf pd_1 rfl) (con_3_1 W.l Z a0 hw a2 a1 b2 b3 p0 p2 z57 z52 ((¬ ((p8 &&& (2 : Int32)).toInt = 0)) ∧ (¬ (j51.toInt < p0.toInt))) ((¬ ((p8 &&& (1 : Int32)).toInt = 0)) ∧ (¬ (p4.toInt < p2.toInt))) e_z57 e_z52 j58 i59 h20 B) rfl rfl (Nat.le_of_ble_eq_true rfl) (Nat.le_of_ble_eq_true rfl) rfl rfl (Nat.le_of_ble_eq_true rfl) (Nat.le_of_ble_eq_true rfl) (S1 := [(.int (b2i (¬ (((¬ ((p8 &&& (1 : Int32)).toInt = 0)) ∧ (¬ (p4.toInt < p2.toInt)))) ∧ p2.toInt ≤ j58.toInt)))]) rfl ?_
          refine g_iload (pc' := 234) C at_232 rfl rfl ?_
          refine g_icmpbne (pc1 := 241) (pc2 := 237) C at_234 (by decide) rfl rfl rfl e_z60 (fun (c234 : ¬ (((¬ (((¬ ((p8 &&& (1 : Int32)).toInt = 0)) ∧ (¬ (p4.toInt < p2.toInt)))) ∧ p2.toInt ≤ j58.toInt)) ↔ (Bz60 = true))) => ?_) (fun (c234 : ((¬ (((¬ ((p8 &&& (1 : Int32)).toInt = 0)) ∧ (¬ (p4.toInt < p2.toInt)))) ∧ p2.toInt ≤ j58.toInt)) ↔ (Bz60 = true)) => ?_)
          ·
            refine g_iconst (pc' := 242) (z := (0 : Int32)) C at_241 rfl rfl ?_
            exact K_222 (decide ((((¬ (False) ∧ p2.toInt ≤ p4.toInt)) ↔ (¬ (p4.toInt < p2.toInt))) ∧ (((¬ (((¬ ((p8 &&& (1 : Int32)).toInt = 0)) ∧ (¬ (p4.toInt < p2.toInt)))) ∧ p2.toInt ≤ j58.toInt)) ↔ (Bz60 = true)))) (0 : Int32) rfl ((rfl : (0 : Int32) = b2i False).trans (b2i_iff (((and_iff_right c222).trans (iff_false_intro c234)).symm.trans decide_eq_true_iff.symm)))
          ·
            refine g_iconst (pc' := 238) (z := (1 : Int32)) C at_237 rfl rfl ?_
            refine g_goto C at_238 (by decide) (pc' := 242) rfl ?_
            exact K_222 (decide ((((¬ (False) ∧ p2.toInt ≤ p4.toInt)) ↔ (¬ (p4.toInt < p2.toInt))) ∧ (((¬ (((¬ ((p8 &&& (1 : Int32)).toInt = 0)) ∧ (¬ (p4.toInt < p2.toInt)))) ∧ p2.toInt ≤ j58.toInt)) ↔ (Bz60 = true)))) (1 : Int32) rfl ((rfl : (1 : Int32) = b2i True).trans (b2i_iff (((and_iff_right c222).trans (iff_true_intro c234)).symm.trans decide_eq_true_iff.symm)))
      intro Bz61 z61 bd_z61 e_z61
      have b_z61 : Bz61 = true ↔ ((((¬ (False) ∧ p2.toInt ≤ p4.toInt)) ↔ (¬ (p4.toInt < p2.toInt))) ∧ (((¬ (((¬ ((p8 &&& (1 : Int32)).toInt = 0)) ∧ (¬ (p4.toInt < p2.toInt)))) ∧ p2.toInt ≤ j58.toInt)) ↔ (Bz60 = true))) := by rw [bd_z61]; exact decide_eq_true_iff
      refine g_retN C (by simp) at_242 (by decide) (by decide) ?_
      subst hQ
      refine congrArg (fun z => some (Value.int z)) (?_ : nar .boolean z61 = 1)
      rw [e_z61, nar_b2i]
      refine b2i_pos ?_
      rw [b_z61]
      have hh : j58 = j56 := by subst_vars; rfl
      rw [b_z60]
      rw [hh]
      simp only [not_false_eq_true, true_and]
      refine ⟨by omega, by omega⟩
set_option maxRecDepth 65536 in
set_option maxHeartbeats 2000000 in
theorem comes_1 {Post : Tables → Env → Array Value → State → Outcome → State → Prop} (hpost : ∀ tb e args s v u, (limb_1_1.after args s (.returned v) u = true ∧ limb_1_2.after args s (.returned v) u = true ∧ True) → FrameEnd s (.returned v) u (Jvm.fieldLocs frame_1_writes args s ++ Jvm.arrayLocs frame_1_arrays args s ++ Jvm.staticLocs frame_1_statics s) 16 128 → Post tb e args s (.returned v) u) :
    ArmFor flags0 classFile x code maxLocals ret World_1 tables_1 room_1 Calls_1 rest_1 Pre_1 Post := by
  intro l hfl _ _ p e ha hc hk s m args below hf hA hF happ hP
  obtain ⟨hcalls, hrest, hpre⟩ := hP
  obtain ⟨-, -, -, hnamed, -, -, -, hat⟩ := (Spec.applies_iff hf).mp happ
  obtain ⟨hg, hn⟩ := and_e (Cond.before_iff.mp (show (Jvm.Cond.and given_1 narrow_1).before args s = true from hpre))
  obtain ⟨g1, g2⟩ := and_e hg
  obtain ⟨g3, g4⟩ := and_e g2
  obtain ⟨g5, g6⟩ := and_e g4
  obtain ⟨g7, g8⟩ := and_e g6
  obtain ⟨g9, g10⟩ := and_e g8
  obtain ⟨g11, g12⟩ := and_e g10
  obtain ⟨w0, w1, w2, w3, w4, w5, rfl⟩ : ∃ w0 w1 w2 w3 w4 w5 : Value, args = #[w0, w1, w2, w3, w4, w5] := by
    have hs : args.size = 6 := by simpa [Cond.value, given_1] using g1
    obtain ⟨L⟩ := args
    match L, hs with
    | [w0, w1, w2, w3, w4, w5], _ => exact ⟨w0, w1, w2, w3, w4, w5, rfl⟩
  have hw := fun d (hd : d ∈ tables_1) => atoms_spec (ws := Jvm.Cond.code x code maxLocals ret :: tables_1) hat d (List.mem_cons_of_mem _ hd)
  obtain ⟨i0, ei0⟩ := isL_v g3
  obtain rfl : w0 = (.long i0) := Option.some.inj ei0
  obtain ⟨i1, ei1⟩ := isL_v g5
  obtain rfl : w1 = (.long i1) := Option.some.inj ei1
  obtain ⟨i2, ei2⟩ := isL_v g7
  obtain rfl : w2 = (.long i2) := Option.some.inj ei2
  obtain ⟨i3, ei3⟩ := is_v g9
  obtain rfl : w3 = (.int i3) := Option.some.inj ei3
  obtain ⟨i4, ei4⟩ := is_v g11
  obtain rfl : w4 = (.int i4) := Option.some.inj ei4
  obtain ⟨i5, ei5⟩ := is_v g12
  obtain rfl : w5 = (.int i5) := Option.some.inj ei5
  obtain ⟨n, o, h1, h2, h3, _, L, rfl, ⟨rfl, N⟩, hq⟩ := con_0 l s _ hw i0 i1 i2 i3 i4 i5 s.heap p e ha hc hk s m _ below hf ((Spec.applies_iff_loose hf).mp happ).1 ⟨rfl, State.Warmed39.refl s, rfl⟩ trivial
  refine ⟨n, _, h1, h2, h3, hpost _ _ _ _ _ _ ⟨Cond.after_iff.mpr rfl, Cond.after_iff.mpr (eq_i res_at (Term.int_eval (1)) rfl), trivial⟩ ⟨hq.1, hq.2.1, (hq.2.2.sift fun y hy => Or.inr ((N y hy).resolve_left (fun q => nomatch q))).mono (by decide) (by decide)⟩⟩
theorem main_1_1 : Claimed_1_1 := comes_1 fun _ _ _ _ _ _ h hF => ⟨h.1, hF⟩
theorem main_1_2 : Claimed_1_2 := comes_1 fun _ _ _ _ _ _ h hF => ⟨h.2.1, hF⟩
end Jvm.Pilot.@@N@@
namespace Jvm.Pilot.@@N@@
open Jvm Jvm.ClassFile Sem Op Lib Jvm.Free Jvm.Stand Jvm.Pilot.@@N@@.Jvm.D
/-! MADE BY PROGRAM (witnessworld.py) out of the Statement's table words and the real class files: 13 classes; the members and pool entries that the words name. The judged class is class 1, her method 1. -/
namespace start1
open Jvm.ClassFile
def u (s : String) : CpInfo := .utf8 (stringToUtf16 s)
/-- a pool by its gaps: so many unusable entries, then the entry; so many at the end -/
def gap : Nat → List CpInfo → List CpInfo
  | 0, r => r
  | n + 1, r => .unusable :: gap n r
def poolList (es : List (Nat × CpInfo)) (last : Nat) : List CpInfo := es.foldr (fun e r => gap e.1 (e.2 :: r)) (gap last [])
def pool (es : List (Nat × CpInfo)) (last : Nat) : Array CpInfo := ⟨poolList es last⟩
def fileOf (pool : Array CpInfo) (this : Nat) (attrs : Array Attribute := #[]) (ms : Array MethodInfo := #[]) (fl : Nat := 33) (sup : Nat := 0) (ifs : Array Nat := #[]) (fds : Array FieldInfo := #[]) : ClassFile where
  minorVersion := 0
  majorVersion := 65
  constantPool := pool
  accessFlags := fl
  thisClass := this
  superClass := sup
  interfaces := ifs
  fields := fds
  methods := ms
  attributes := attrs
def plain (name : String) (sup : Option ClassId) : Class where
  name := name
  kind := .ordinary
  loader := none
  accessFlags := 33
  super := sup
  interfaces := #[]
  cf := none
  fields := #[]
  methods := #[]
  instanceTypes := #[]
  staticTypes := #[]
  resolved := #[]
  callSites := []
  init := .initialized
  statics := none
  mirror := none

def pool0 : Array CpInfo := pool [(5, u "<init>"), (0, u "()V"), (1, .class_ 10), (1, u "java/lang/Object")] 113

def k0c0 : Code := { maxStack := 0, maxLocals := 1, code := object_method_1_code, exceptionTable := #[], attributes := #[] }
def k0m0 : Method := { name := "<init>", desc := "()V", sig := { parameters := [], returnType := none }, accessFlags := 1, code := some k0c0 }
/-- java/lang/Object -/
def k0 : Class := { plain "java/lang/Object" none with
  accessFlags := 33
  interfaces := #[]
  cf := some (fileOf pool0 8 #[] #[{ accessFlags := 1, nameIndex := 5, descriptorIndex := 6, attributes := #[] }] 33 0 #[] #[])
  fields := #[]
  methods := #[k0m0]
  instanceTypes := #[]
  staticTypes := #[]
  resolved := Array.replicate 124 none
  statics := none }

def pool1 : Array CpInfo := pool [(2, .class_ 4), (1, u "java/lang/Object"), (0, u "<init>"), (0, u "()V"), (0, .class_ 8), (0, u "com/example/ripplecast/ripplecast/BudgetedSeeds"), (0, .methodref 7 10), (0, .nameAndType 5 11), (0, u "([JJ)V"), (0, .methodref 7 13), (0, .nameAndType 14 15), (0, u "fits"), (0, u "(I)Z"), (0, .methodref 7 17), (0, .nameAndType 18 19), (0, u "add"), (0, u "(I)V"), (0, .class_ 21), (0, u "com/example/ripplecast/ripplecast/BudgetedSeedsFitsPinLaw"), (2, u "law"), (0, u "(JJJIII)Z")] 5

def k1m0 : Method := { name := "<init>", desc := "()V", sig := { parameters := [], returnType := none }, accessFlags := 1, code := none }
def k1c1 : Code := { maxStack := 5, maxLocals := 27, code := code, exceptionTable := #[], attributes := #[] }
def k1m1 : Method := { name := "law", desc := "(JJJIII)Z", sig := { parameters := [.long, .long, .long, .int, .int, .int], returnType := some .boolean }, accessFlags := 9, code := some k1c1 }
/-- com/example/ripplecast/ripplecast/BudgetedSeedsFitsPinLaw -/
def k1 : Class := { plain "com/example/ripplecast/ripplecast/BudgetedSeedsFitsPinLaw" (some 0) with
  accessFlags := 49
  interfaces := #[]
  cf := some (fileOf pool1 20 #[] #[{ accessFlags := 1, nameIndex := 5, descriptorIndex := 6, attributes := #[] }, { accessFlags := 9, nameIndex := 24, descriptorIndex := 25, attributes := #[] }] 49 2 #[] #[])
  fields := #[]
  methods := #[k1m0, k1m1]
  instanceTypes := #[]
  staticTypes := #[]
  resolved := Array.replicate 31 none
  statics := none }

def pool2 : Array CpInfo := pool [(1, .methodref 2 3), (0, .class_ 4), (0, .nameAndType 5 6), (0, u "java/lang/Object"), (0, u "<init>"), (0, u "()V"), (0, .class_ 8), (0, u "com/example/ripplecast/ripplecast/BudgetedSeeds"), (0, .fieldref 7 10), (0, .nameAndType 11 12), (0, u "seeds"), (0, u "[I"), (0, .fieldref 7 14), (0, .nameAndType 15 16), (0, u "costs"), (0, u "[J"), (0, .fieldref 7 18), (0, .nameAndType 19 20), (0, u "chosen"), (0, u "[Z"), (0, .fieldref 7 22), (0, .nameAndType 23 24), (0, u "left"), (0, u "J"), (0, .fieldref 7 26), (0, .nameAndType 27 28), (0, u "size"), (0, u "I"), (10, u "INITIAL_CAPACITY"), (2, u "([JJ)V"), (2, u "fits"), (0, u "(I)Z"), (1, u "add"), (0, u "(I)V")] 7

def k2c0 : Code := { maxStack := 3, maxLocals := 4, code := prog_6_method_1_code, exceptionTable := #[], attributes := #[] }
def k2m0 : Method := { name := "<init>", desc := "([JJ)V", sig := { parameters := [(.array .long), .long], returnType := none }, accessFlags := 0, code := some k2c0 }
def k2c1 : Code := { maxStack := 4, maxLocals := 2, code := prog_6_method_2_code, exceptionTable := #[], attributes := #[] }
def k2m1 : Method := { name := "fits", desc := "(I)Z", sig := { parameters := [.int], returnType := some .boolean }, accessFlags := 0, code := some k2c1 }
def k2c2 : Code := { maxStack := 5, maxLocals := 2, code := prog_6_method_3_code, exceptionTable := #[], attributes := #[] }
def k2m2 : Method := { name := "add", desc := "(I)V", sig := { parameters := [.int], returnType := none }, accessFlags := 0, code := some k2c2 }
/-- com/example/ripplecast/ripplecast/BudgetedSeeds -/
def k2 : Class := { plain "com/example/ripplecast/ripplecast/BudgetedSeeds" (some 0) with
  accessFlags := 48
  interfaces := #[]
  cf := some (fileOf pool2 7 #[] #[{ accessFlags := 0, nameIndex := 5, descriptorIndex := 42, attributes := #[] }, { accessFlags := 0, nameIndex := 45, descriptorIndex := 46, attributes := #[] }, { accessFlags := 0, nameIndex := 48, descriptorIndex := 49, attributes := #[] }] 48 2 #[] #[{ accessFlags := 26, nameIndex := 39, descriptorIndex := 28, attributes := #[] }, { accessFlags := 18, nameIndex := 15, descriptorIndex := 16, attributes := #[] }, { accessFlags := 18, nameIndex := 19, descriptorIndex := 20, attributes := #[] }, { accessFlags := 2, nameIndex := 11, descriptorIndex := 12, attributes := #[] }, { accessFlags := 2, nameIndex := 27, descriptorIndex := 28, attributes := #[] }, { accessFlags := 2, nameIndex := 23, descriptorIndex := 24, attributes := #[] }])
  fields := #[{ name := "INITIAL_CAPACITY", type := .int, accessFlags := 26, slot := 0, constantValue := 0 }, { name := "costs", type := (.array .long), accessFlags := 18, slot := 0, constantValue := 0 }, { name := "chosen", type := (.array .boolean), accessFlags := 18, slot := 1, constantValue := 0 }, { name := "seeds", type := (.array .int), accessFlags := 2, slot := 2, constantValue := 0 }, { name := "size", type := .int, accessFlags := 2, slot := 3, constantValue := 0 }, { name := "left", type := .long, accessFlags := 2, slot := 4, constantValue := 0 }]
  methods := #[k2m0, k2m1, k2m2]
  instanceTypes := #[(.array .long), (.array .boolean), (.array .int), .int, .long]
  staticTypes := #[.int]
  resolved := Array.replicate 57 none
  statics := none }

def pool3 : Array CpInfo := pool [(1, u "java/lang/Cloneable"), (0, .class_ 1), (0, u "java/lang/Object"), (0, .class_ 3)] 3

/-- java/lang/Cloneable -/
def k3 : Class := { plain "java/lang/Cloneable" (some 0) with
  accessFlags := 1537
  interfaces := #[]
  cf := some (fileOf pool3 2 #[] #[] 1537 4 #[] #[])
  fields := #[]
  methods := #[]
  instanceTypes := #[]
  staticTypes := #[]
  resolved := Array.replicate 8 none
  statics := none }

def pool4 : Array CpInfo := pool [(1, u "java/io/Serializable"), (0, .class_ 1), (0, u "java/lang/Object"), (0, .class_ 3)] 3

/-- java/io/Serializable -/
def k4 : Class := { plain "java/io/Serializable" (some 0) with
  accessFlags := 1537
  interfaces := #[]
  cf := some (fileOf pool4 2 #[] #[] 1537 4 #[] #[])
  fields := #[]
  methods := #[]
  instanceTypes := #[]
  staticTypes := #[]
  resolved := Array.replicate 8 none
  statics := none }

/-- the primitive boolean -/
def k5 : Class := { plain "boolean" none with kind := .primitive 'Z', accessFlags := 0x411 }
/-- [Z -/
def k6 : Class := { plain "[Z" (some 0) with kind := .array 5 .boolean, interfaces := #[3, 4], accessFlags := 1041 }

/-- the primitive byte -/
def k7 : Class := { plain "byte" none with kind := .primitive 'B', accessFlags := 0x411 }
/-- [B -/
def k8 : Class := { plain "[B" (some 0) with kind := .array 7 .byte, interfaces := #[3, 4], accessFlags := 1041 }

/-- the primitive int -/
def k9 : Class := { plain "int" none with kind := .primitive 'I', accessFlags := 0x411 }
/-- [I -/
def k10 : Class := { plain "[I" (some 0) with kind := .array 9 .int, interfaces := #[3, 4], accessFlags := 1041 }

/-- the primitive long -/
def k11 : Class := { plain "long" none with kind := .primitive 'J', accessFlags := 0x411 }
/-- [J -/
def k12 : Class := { plain "[J" (some 0) with kind := .array 11 .long, interfaces := #[3, 4], accessFlags := 1041 }

def heap : Heap := #[]
def classes : Array Class := #[k0, k1, k2, k3, k4, k5, k6, k7, k8, k9, k10, k11, k12]
def interned : List (Array UInt16 × Addr) := []
def slotsUsed : Nat := 0
def theMethod : MethodId := ⟨1, 1⟩
def args0 : Array Value := #[.long 2, .long 5, .long 9, .int 3, .int 7, .int 9]
def aboutOver (below : List Frame) : State where
  vm := { classes := classes, interned := interned.toArray }
  heap := heap
  slotsUsed := slotsUsed
  threads := #[{ frames := .invoking theMethod args0 :: below }]
def below0 : List Frame := [.native { method := ⟨0, 0⟩, args := #[] }]
def about1 : State := aboutOver below0
def p0 : Program := .bare "" "" ""
def e0 : Env := launch0.env 0 0 0
theorem w_frames : about1.frames = Frame.invoking theMethod args0 :: below0 := rfl
set_option maxRecDepth 65536 in
theorem w_args : argsFit about1.vm theMethod args0 = true := by decide +kernel
set_option maxRecDepth 65536 in
theorem w_heap : heapFits about1 = true := by decide +kernel
set_option maxRecDepth 65536 in
theorem w_runnable : about1.curStatus? = some .runnable := by decide +kernel
set_option maxRecDepth 65536 in
theorem w_alone : about1.alone = true := by decide +kernel
set_option maxRecDepth 65536 in
theorem w_named : about1.methodNamed? x = some theMethod := by decide +kernel
set_option maxRecDepth 65536 in
theorem w_hears : about1.hears theMethod below0 = true := by decide +kernel
set_option maxRecDepth 65536 in
theorem w_ripe : about1.ripe theMethod args0 below0 = true := by decide +kernel
theorem w_running : about1.status = .running := rfl
set_option maxRecDepth 65536 in
theorem w_room : about1.hasRoom e0.platform room_1 = true :=
  launch0.hasRoom_least _ room_1 (by decide +kernel) (by decide +kernel) (by decide +kernel) (by decide +kernel) (by decide +kernel) (by decide +kernel)
theorem allAtoms_all (ts : List Jvm.Cond) (a : Array Jvm.Value) (st : Jvm.State) : (allAtoms ts).before a st = ts.all (fun c => c.before a st) := by
  induction ts with
  | nil => rfl
  | cons c t ih =>
    show (Jvm.Cond.and c (allAtoms t)).before a st = _
    rw [Jvm.Cond.before_and, ih, List.all_cons]
def words1 : List Jvm.Cond := Jvm.Cond.code x code maxLocals ret :: tables_1
/-- a 'code' word, met by the world's own term for the bytes: nothing is compared byte by byte -/
theorem code_word {y : MethodName} {bytes : ByteArray} {mx : Nat} {rt : Option FieldType} {a : Array Value} {s : State} {m : MethodId} {meth : Method} {c : Code} (h1 : s.methodNamed? y = some m) (h2 : s.vm.method? m = some meth) (h3 : meth.code = some c) (h4 : c.code = bytes)
    (h5 : (c.maxLocals == mx && c.exceptionTable.isEmpty && decide (c.maxStack ≤ mostOperands) && decide (meth.sig.returnType = rt) && !meth.locks && decide (parseMethodDescriptor y.desc = some meth.sig)) = true) : (Jvm.Cond.code y bytes mx rt).before a s = true := by
  simp only [Bool.and_eq_true, beq_iff_eq, Bool.not_eq_true', decide_eq_true_eq] at h5
  obtain ⟨⟨⟨⟨⟨g1, g2⟩, g3⟩, g4⟩, g5⟩, g6⟩ := h5
  simp [Cond.before, Cond.holds, Cond.value, h1, h2, h3, h4, g1, g2, g3, g4, g5, g6]
def isCode : Jvm.Cond → Bool
  | .code _ _ _ _ => true
  | _ => false
theorem all_split {L : List Jvm.Cond} {P : Jvm.Cond → Bool} (h1 : L.all (fun c => isCode c || P c) = true) (h2 : ∀ c ∈ L.filter isCode, P c = true) : L.all P = true := by
  refine List.all_eq_true.mpr fun c hc => ?_
  have h := List.all_eq_true.mp h1 c hc
  rcases Bool.eq_false_or_eq_true (isCode c) with hi | hi
  · exact h2 c (List.mem_filter.mpr ⟨hc, hi⟩)
  · simpa [hi] using h
set_option maxRecDepth 65536 in
theorem w_c0 : (Jvm.Cond.code x code maxLocals ret).before args0 about1 = true := code_word (m := ⟨1, 1⟩) (meth := k1m1) (c := k1c1) (by decide +kernel) rfl rfl rfl (by decide +kernel)
set_option maxRecDepth 65536 in
theorem w_c1 : (Jvm.Cond.code ({ cls := "com/example/ripplecast/ripplecast/BudgetedSeeds", name := "<init>", desc := "([JJ)V" } : Jvm.MethodName) prog_6_method_1_code (4 : Nat) (Option.none : Option Jvm.ClassFile.FieldType)).before args0 about1 = true := code_word (m := ⟨2, 0⟩) (meth := k2m0) (c := k2c0) (by decide +kernel) rfl rfl rfl (by decide +kernel)
set_option maxRecDepth 65536 in
theorem w_c2 : (Jvm.Cond.code ({ cls := "java/lang/Object", name := "<init>", desc := "()V" } : Jvm.MethodName) object_method_1_code (1 : Nat) (Option.none : Option Jvm.ClassFile.FieldType)).before args0 about1 = true := code_word (m := ⟨0, 0⟩) (meth := k0m0) (c := k0c0) (by decide +kernel) rfl rfl rfl (by decide +kernel)
set_option maxRecDepth 65536 in
theorem w_c3 : (Jvm.Cond.code ({ cls := "com/example/ripplecast/ripplecast/BudgetedSeeds", name := "fits", desc := "(I)Z" } : Jvm.MethodName) prog_6_method_2_code (2 : Nat) (Option.some Jvm.ClassFile.FieldType.boolean)).before args0 about1 = true := code_word (m := ⟨2, 1⟩) (meth := k2m1) (c := k2c1) (by decide +kernel) rfl rfl rfl (by decide +kernel)
set_option maxRecDepth 65536 in
theorem w_c4 : (Jvm.Cond.code ({ cls := "com/example/ripplecast/ripplecast/BudgetedSeeds", name := "add", desc := "(I)V" } : Jvm.MethodName) prog_6_method_3_code (2 : Nat) (Option.none : Option Jvm.ClassFile.FieldType)).before args0 about1 = true := code_word (m := ⟨2, 2⟩) (meth := k2m2) (c := k2c2) (by decide +kernel) rfl rfl rfl (by decide +kernel)
def codes1 : List Jvm.Cond := [Jvm.Cond.code x code maxLocals ret, Jvm.Cond.code ({ cls := "com/example/ripplecast/ripplecast/BudgetedSeeds", name := "<init>", desc := "([JJ)V" } : Jvm.MethodName) prog_6_method_1_code (4 : Nat) (Option.none : Option Jvm.ClassFile.FieldType), Jvm.Cond.code ({ cls := "java/lang/Object", name := "<init>", desc := "()V" } : Jvm.MethodName) object_method_1_code (1 : Nat) (Option.none : Option Jvm.ClassFile.FieldType), Jvm.Cond.code ({ cls := "com/example/ripplecast/ripplecast/BudgetedSeeds", name := "fits", desc := "(I)Z" } : Jvm.MethodName) prog_6_method_2_code (2 : Nat) (Option.some Jvm.ClassFile.FieldType.boolean), Jvm.Cond.code ({ cls := "com/example/ripplecast/ripplecast/BudgetedSeeds", name := "add", desc := "(I)V" } : Jvm.MethodName) prog_6_method_3_code (2 : Nat) (Option.none : Option Jvm.ClassFile.FieldType)]
set_option maxRecDepth 65536 in
theorem codes_eq : words1.filter isCode = codes1 := rfl
theorem w_codes : ∀ c ∈ words1.filter isCode, c.before args0 about1 = true := by
  rw [codes_eq]
  intro c hc
  simp only [codes1, List.mem_cons, List.not_mem_nil, or_false] at hc
  rcases hc with rfl | rfl | rfl | rfl | rfl
  · exact w_c0
  · exact w_c1
  · exact w_c2
  · exact w_c3
  · exact w_c4
set_option maxRecDepth 65536 in
theorem w_t1 : (words1.take 24).all (fun c => isCode c || c.before args0 about1) = true := by decide +kernel
set_option maxRecDepth 65536 in
theorem w_t2 : (words1.drop 24).all (fun c => isCode c || c.before args0 about1) = true := by decide +kernel
theorem w_tables : (allAtoms (Jvm.Cond.code x code maxLocals ret :: tables_1)).before args0 about1 = true := by
  rw [allAtoms_all]
  show words1.all (fun c => c.before args0 about1) = true
  refine all_split ?_ w_codes
  rw [← List.take_append_drop 24 words1, List.all_append, w_t1, w_t2]
  rfl
set_option maxRecDepth 65536 in
theorem w_case : (Jvm.Cond.and given_1 narrow_1).before args0 about1 = true := by decide +kernel
theorem w_applies : (headSpec (Jvm.Cond.code x code maxLocals ret :: tables_1) room_1).applies x e0.platform about1 = true :=
  (Spec.applies_iff w_frames).mpr ⟨w_running, w_runnable, w_alone, w_named, w_hears, w_ripe, w_room, w_tables⟩
theorem atStart : AtStart classFile x code maxLocals ret World_1 tables_1 room_1 Calls_1 rest_1 Pre_1 launch0 p0 e0 about1 theMethod args0 below0 :=
  ⟨lists_1, trivial, launch0.admits_env _ _ _, launch0.least_env, fairChoices_fair.cas, fairChoices_fair.clock, w_frames, w_args, w_heap, w_applies, trivial, trivial, w_case⟩
end start1
theorem witness_1 : WitnessClaimed_1 := ⟨start1.p0, start1.e0, start1.about1, start1.theMethod, start1.args0, start1.below0, start1.atStart⟩
end Jvm.Pilot.@@N@@
