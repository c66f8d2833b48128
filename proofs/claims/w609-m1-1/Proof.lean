import JvmDerived
import JvmDerived.Pilot.@@N@@Statement
import JvmDerived.Pilot.@@N@@Code
set_option linter.unusedVariables false
set_option linter.unusedSimpArgs false
namespace Jvm.OwnKit
open Jvm Jvm.ClassFile Sem Op Lib Jvm.Free Jvm.Stand Jvm.LawKit Jvm.RoadKit Bundle
/-- what is fixed in one body's walk: program, launch, environment, room, state at the call, method, arguments, frames below, its record, its code, the old addresses that it may write -/
abbrev Wk : Type := Program × Launch × Env × Room × State × MethodId × Array Value × List Frame × Method × Code × List Addr
abbrev Wk.p (W : Wk) : Program := W.1
abbrev Wk.l (W : Wk) : Launch := W.2.1
abbrev Wk.e (W : Wk) : Env := W.2.2.1
abbrev Wk.R (W : Wk) : Room := W.2.2.2.1
abbrev Wk.s (W : Wk) : State := W.2.2.2.2.1
abbrev Wk.m (W : Wk) : MethodId := W.2.2.2.2.2.1
abbrev Wk.args (W : Wk) : Array Value := W.2.2.2.2.2.2.1
abbrev Wk.below (W : Wk) : List Frame := W.2.2.2.2.2.2.2.1
abbrev Wk.meth (W : Wk) : Method := W.2.2.2.2.2.2.2.2.1
abbrev Wk.c (W : Wk) : Code := W.2.2.2.2.2.2.2.2.2.1
abbrev Wk.ws (W : Wk) : List Addr := W.2.2.2.2.2.2.2.2.2.2
/-- an address that may be written: a named old one, or a new one -/
def Pw (W : Wk) (a : Addr) : Prop := a ∈ W.ws ∨ W.s.heap.size ≤ a
abbrev Sta0 (W : Wk) (T : State) (locs : List Loc) (k n : Nat) : Prop := Stand W.p W.l W.e W.R W.s W.m W.args W.below W.meth W.c T locs k n
abbrev Stp (W : Wk) (S t : State) : Prop := Steps W.p.tables W.e W.below S t
def Sd (W : Wk) (T : State) (h : Heap) (k n : Nat) : Prop := ∃ locs, Sta0 W T locs k n ∧ T.heap = h ∧ ∀ y ∈ locs, Pw W y.base
/-- from S the body comes to its end, returning what Q says -/
def Out (W : Wk) (Q : Option Value → Heap → Prop) (S : State) : Prop := ∃ s₂ o, Stp W S s₂ ∧ s₂.status = .running ∧ Ended s₂ W.below o ∧ ∃ v L, o = .returned v ∧ (Q v s₂.heap ∧ ∀ y ∈ L, Pw W y.base) ∧ FrameEnd W.s o s₂ L W.R.cells W.R.slots
/-- from every state that stands here over the heap h, the body comes to its end as Q says -/
def Go (W : Wk) (Q : Option Value → Heap → Prop) (h : Heap) (k n pc : Nat) (L : Array Slot) (S : List Value) : Prop := ∀ T, Sd W T h k n → Out W Q (T.setTop (mkF W.m pc L S))
def Cx (W : Wk) (Z : State) (R : Room) (own : String) (code : ByteArray) (mx : Nat) (ret : Option FieldType) (nm : String) (ws : List Addr) (h0 : Heap) : Prop :=
  W.p.tables.exec = Jvm.exec ∧ Z.Warmed39 W.s.vm ∧ W.s.vm.findClass own = some W.m.cls ∧ W.c.code = code ∧ W.c.maxLocals = mx ∧ W.meth.sig.returnType = ret ∧ W.meth.locks = false ∧ W.meth.name = nm ∧ W.R = R ∧ W.ws = ws ∧ W.s.heap = h0
/-- a body's contract at the heap h: ws: the old addresses that it may write -/
def Con (l : Launch) (Z : State) (w0 : List Jvm.Cond) (y : MethodName) (bytes : ByteArray) (mx : Nat) (ret : Option FieldType) (rm : Room) (as : Array Value) (h : Heap) (ws : List Addr) (Q : Option Value → Heap → Prop) : Prop :=
  MetFree l y (head1 (Jvm.Cond.code y bytes mx ret :: w0) rm) (fun a U => a = as ∧ Z.Warmed39 U.vm ∧ U.heap = h) (fun _ _ _ _ _ => True)
    (fun _ U o U' => ∃ v L, o = .returned v ∧ (Q v U'.heap ∧ ∀ y ∈ L, y.base ∈ ws ∨ h.size ≤ y.base) ∧ FrameEnd U o U' L rm.cells rm.slots)
/-- a truth value as an int -/
def b2i (P : Prop) [Decidable P] : Int32 := if P then 1 else 0
theorem b2i_pos {P : Prop} [Decidable P] (h : P) : b2i P = 1 := if_pos h
theorem b2i_neg {P : Prop} [Decidable P] (h : ¬ P) : b2i P = 0 := if_neg h
theorem b2i_iff {P Q : Prop} [Decidable P] [Decidable Q] (h : P ↔ Q) : b2i P = b2i Q := by by_cases q : Q <;> simp [b2i, h, q]
theorem b2i_toInt (P : Prop) [Decidable P] : (b2i P).toInt = if P then 1 else 0 := by unfold b2i; split <;> rfl
theorem b2i_one {P : Prop} [Decidable P] : b2i P = 1 ↔ P := by unfold b2i; split <;> simp [*]
theorem b2i_zero {P : Prop} [Decidable P] : b2i P = 0 ↔ ¬ P := by unfold b2i; split <;> simp [*]
theorem nar_b2i (P : Prop) [Decidable P] : nar .boolean (b2i P) = b2i P := by unfold b2i; split <;> rfl
theorem b2i_inj {P Q : Prop} [Decidable P] [Decidable Q] : b2i P = b2i Q ↔ (P ↔ Q) := by unfold b2i; split <;> split <;> simp [*]
theorem ref_cat {v : Value} (h : v.isRef = true) : v.category = 1 := by cases v <;> simp [Value.isRef] at h ⊢ <;> rfl
theorem narrow_ref {t : FieldType} {v : Value} (h : v.isRef = true) : narrow t v = v := by cases v <;> simp [Value.isRef] at h <;> cases t <;> rfl
theorem fits_b2i (P : Prop) [Decidable P] : fits .boolean (.int (b2i P)) = true := by unfold b2i; split <;> rfl
theorem fits_ref0 {t : FieldType} {v : Value} (h : v.isRef = true) (ht : refKind t = true := by rfl) : fits t v = true := by cases v <;> simp [Value.isRef] at h <;> cases t <;> simp_all [refKind, fits]
section Facts
variable {Z : State} {h h' : Heap} {a b : Addr} {C : String} {ws : List Addr}
/-- an object of the class C: its fields (declaring class, name, descriptor, value) -/
def Ob (Z : State) (h : Heap) (a : Addr) (C : String) (fs : List (String × String × String × Value)) : Prop :=
  Exa Z h a C ∧ (∀ f ∈ fs, Fld Z h a f.1 f.2.1 f.2.2.1 f.2.2.2) ∧ (fs.map fun f => RoadKit.slotOf Z f.1 f.2.1 f.2.2.1).Nodup
variable {fs fs' : List (String × String × String × Value)} {o n d : String} {v old : Value} {i : Nat}
theorem Ob.exa (O : Ob Z h a C fs) : Exa Z h a C := O.1
theorem Ob.lt (O : Ob Z h a C fs) : a < h.size := O.1.lt
theorem Ob.get (O : Ob Z h a C fs) (hi : fs[i]? = some (o, n, d, v)) : Fld Z h a o n d v := O.2.1 _ (List.mem_of_getElem? hi)
theorem Ob.keep (O : Ob Z h a C fs) (K : Keep h h' ws) (q : a ∉ ws) : Ob Z h' a C fs := ⟨O.1.keep K, fun f hf => (O.2.1 f hf).keep K q, O.2.2⟩
theorem Ob.ext (O : Ob Z h a C fs) (E : Ext h h') : Ob Z h' a C fs := ⟨O.1.ext E, fun f hf => (O.2.1 f hf).ext E, O.2.2⟩
theorem Ob.other (O : Ob Z h b C fs) {sl : Nat} (W : Wr h h' a sl v) (q : b ≠ a) : Ob Z h' b C fs := O.keep (Keep.of_wr W) (ninS q nin0)
theorem Ob.put (O : Ob Z h a C fs) (hi : fs[i]? = some (o, n, d, old)) (W : Wr h h' a (RoadKit.slotOf Z o n d) v) : Ob Z h' a C (fs.set i (o, n, d, v)) := by
  obtain ⟨E, F, N⟩ := O
  have hlt : i < fs.length := (List.getElem?_eq_some_iff.mp hi).1
  have hm : (fs.set i (o, n, d, v)).map (fun f => RoadKit.slotOf Z f.1 f.2.1 f.2.2.1) = fs.map (fun f => RoadKit.slotOf Z f.1 f.2.1 f.2.2.1) := by
    rw [List.map_set]
    have e : (fs.map fun f => RoadKit.slotOf Z f.1 f.2.1 f.2.2.1)[i]? = some (RoadKit.slotOf Z o n d) := by rw [List.getElem?_map, hi]; rfl
    obtain ⟨hl, he⟩ := List.getElem?_eq_some_iff.mp e
    have q := List.set_getElem_self hl
    rw [he] at q
    exact q
  refine ⟨E.wr W, fun f hf => ?_, by rw [hm]; exact N⟩
  obtain ⟨j, hj⟩ := List.mem_iff_getElem?.mp hf
  by_cases e : j = i
  · subst e
    rw [List.getElem?_set_self hlt] at hj
    cases hj
    exact (F _ (List.mem_of_getElem? hi)).same W
  · rw [List.getElem?_set_ne (Ne.symm e)] at hj
    refine (F f (List.mem_of_getElem? hj)).other W (Or.inr fun q => ?_)
    have e1 : (fs.map fun f => RoadKit.slotOf Z f.1 f.2.1 f.2.2.1)[j]? = some (RoadKit.slotOf Z f.1 f.2.1 f.2.2.1) := by rw [List.getElem?_map, hj]; rfl
    have e2 : (fs.map fun f => RoadKit.slotOf Z f.1 f.2.1 f.2.2.1)[i]? = some (RoadKit.slotOf Z o n d) := by rw [List.getElem?_map, hi]; rfl
    rw [q] at e1
    obtain ⟨l1, q1⟩ := List.getElem?_eq_some_iff.mp e1
    obtain ⟨l2, q2⟩ := List.getElem?_eq_some_iff.mp e2
    exact e ((List.getElem_inj N).mp (q1.trans q2.symm))
/-- an array: its components -/
def Ar (Z : State) (h : Heap) (a : Addr) (ty : FieldType) (vs : List Value) : Prop := ∃ c : Cell, Arr Z h a c ty ∧ c.slots.toList = vs
/-- ... of references to objects of the class C -/
def ArR (Z : State) (h : Heap) (a : Addr) (C : String) (vs : List Value) : Prop := ∃ c : Cell, Arr Z h a c (.object C) ∧ c.slots.toList = vs ∧ Ovr Z c.cls C
variable {ty : FieldType} {vs : List Value}
theorem Ar.lt (A : Ar Z h a ty vs) : a < h.size := A.elim fun _ q => q.1.lt
theorem Ar.keep (A : Ar Z h a ty vs) (K : Keep h h' ws) (q : a ∉ ws) : Ar Z h' a ty vs := by obtain ⟨c, A, e⟩ := A; exact ⟨c, ⟨K.2.1 a c A.1 q, A.2⟩, e⟩
theorem Ar.ext (A : Ar Z h a ty vs) (E : Ext h h') : Ar Z h' a ty vs := by obtain ⟨c, A, e⟩ := A; exact ⟨c, A.ext E, e⟩
theorem ArR.lt (A : ArR Z h a C vs) : a < h.size := A.elim fun _ q => q.1.lt
theorem ArR.keep (A : ArR Z h a C vs) (K : Keep h h' ws) (q : a ∉ ws) : ArR Z h' a C vs := by obtain ⟨c, A, e⟩ := A; exact ⟨c, ⟨K.2.1 a c A.1 q, A.2⟩, e⟩
theorem ArR.ext (A : ArR Z h a C vs) (E : Ext h h') : ArR Z h' a C vs := by obtain ⟨c, A, e⟩ := A; exact ⟨c, A.ext E, e⟩
theorem nin1 (q : b ≠ a) : b ∉ [a] := ninS q nin0
theorem clamp_of {j : Int32} {i : Nat} (hj : j.toInt = i) : j.toNatClampNeg = i := by
  show j.toInt.toNat = i
  omega
theorem nneg_of {j : Int32} {i : Nat} (hj : j.toInt = i) : ¬ j < 0 := by
  rw [Int32.lt_iff_toInt_lt, hj]
  show ¬ ((i : Int) < 0)
  omega
theorem in_of {j : Int32} {i : Nat} {c : Cell} (hj : j.toInt = i) (hi : i < c.slots.toList.length) : ¬ (j < 0 ∨ c.slots.size ≤ j.toNatClampNeg) := by
  rw [clamp_of hj]
  rintro (q | q)
  · exact nneg_of hj q
  · rw [Array.length_toList] at hi; omega
theorem set_toList (c : Cell) (i : Nat) (v : Value) : (c.setSlot i v).slots.toList = c.slots.toList.set i v := by
  show (c.slots.setIfInBounds i v).toList = _
  rw [Array.toList_setIfInBounds]
theorem Ar.put {c : Cell} (A : Arr Z h a c ty) (e : c.slots.toList = vs) {j : Int32} {i : Nat} (hj : j.toInt = i) (W : Wr h h' a j.toNatClampNeg v) : Ar Z h' a ty (vs.set i v) := by
  refine ⟨_, A.same W, ?_⟩
  rw [clamp_of hj, set_toList, e]
theorem map_getI {l : List Int32} {i : Nat} (hi : i < l.length) : (l.map Value.int)[i]? = some (.int (l.getD i 0)) := by
  rw [List.getElem?_map, List.getElem?_eq_getElem hi, List.getD_eq_getElem?_getD, List.getElem?_eq_getElem hi]; rfl
theorem map_getJ {l : List Int64} {i : Nat} (hi : i < l.length) : (l.map Value.long)[i]? = some (.long (l.getD i 0)) := by
  rw [List.getElem?_map, List.getElem?_eq_getElem hi, List.getD_eq_getElem?_getD, List.getElem?_eq_getElem hi]; rfl
theorem map_setI (l : List Int32) (i : Nat) (x : Int32) : (l.map Value.int).set i (.int x) = (l.set i x).map Value.int := by rw [List.map_set]
theorem map_setJ (l : List Int64) (i : Nat) (x : Int64) : (l.map Value.long).set i (.long x) = (l.set i x).map Value.long := by rw [List.map_set]
theorem nat32 {n : Nat} (h : n < 2147483648) : n.toInt32.toInt = n := by
  show (Int32.ofNat n).toInt = n
  rw [Int32.toInt_ofNat_of_lt (by omega)]
theorem keep_of_same {s t : State} {L : List Loc} {k n : Nat} {ws : List Addr} (H : s.sameButNew t L k n) (hL : ∀ y ∈ L, y.base ∈ ws ∨ s.heap.size ≤ y.base) : Keep s.heap t.heap ws := by
  obtain ⟨-, h1, -, -, -, h5⟩ := H
  have lt : ∀ (x : Addr) (c : Cell), s.heap[x]? = some c → x < s.heap.size := fun x c q => (Array.getElem?_eq_some_iff.mp q).1
  refine ⟨h1, fun x c q r => ?_, fun x c q => ?_⟩
  · obtain ⟨c', e1, e2, e3, e4⟩ := h5 x c q
    have hs : c'.slots = c.slots := by
      refine Array.ext_getElem? fun i => e4 i fun hm => ?_
      rcases hL _ hm with z | z
      · exact r z
      · exact absurd (lt x c q) (Nat.not_lt.mpr z)
    rw [e1, e2, hs]
  · obtain ⟨c', e1, e2, e3, -⟩ := h5 x c q
    exact ⟨c', e1, by rw [e2], by rw [e2], e3⟩
end Facts
section Steps0
variable {W : Wk} {Z : State} {R : Room} {own nm : String} {code : ByteArray} {mx : Nat} {ret : Option FieldType} {wsx : List Addr} {hx0 : Heap} {Q : Option Value → Heap → Prop} {h : Heap} {k n pc pc' pc1 pc2 : Nat} {L L' : Array Slot} {S S' : List Value} {a0 : Array Value}
theorem Cx.x (C : Cx W Z R own code mx ret nm wsx hx0) : W.p.tables.exec = Jvm.exec := C.1
theorem Cx.z (C : Cx W Z R own code mx ret nm wsx hx0) : Z.Warmed39 W.s.vm := C.2.1
theorem Cx.o (C : Cx W Z R own code mx ret nm wsx hx0) : W.s.vm.findClass own = some W.m.cls := C.2.2.1
theorem Cx.b (C : Cx W Z R own code mx ret nm wsx hx0) {r : Except ClassFile.DecodeError (ClassFile.Instr × Nat)} (hd : decode code pc = r) : decode W.c.code pc = r := hb C.2.2.2.1 hd
theorem Cx.ml (C : Cx W Z R own code mx ret nm wsx hx0) : W.c.maxLocals = mx := C.2.2.2.2.1
theorem Cx.rt (C : Cx W Z R own code mx ret nm wsx hx0) : W.meth.sig.returnType = ret := C.2.2.2.2.2.1
theorem Cx.lk (C : Cx W Z R own code mx ret nm wsx hx0) : W.meth.locks = false := C.2.2.2.2.2.2.1
theorem Cx.nme (C : Cx W Z R own code mx ret nm wsx hx0) : W.meth.name = nm := C.2.2.2.2.2.2.2.1
theorem Cx.r (C : Cx W Z R own code mx ret nm wsx hx0) : W.R = R := C.2.2.2.2.2.2.2.2.1
theorem Cx.ws (C : Cx W Z R own code mx ret nm wsx hx0) : W.ws = wsx := C.2.2.2.2.2.2.2.2.2.1
theorem Cx.h0 (C : Cx W Z R own code mx ret nm wsx hx0) : W.s.heap = hx0 := C.2.2.2.2.2.2.2.2.2.2
theorem Cx.old (C : Cx W Z R own code mx ret nm wsx hx0) {a : Addr} (q : a ∈ wsx) : Pw W a := Or.inl (C.ws ▸ q)
theorem Cx.new (C : Cx W Z R own code mx ret nm wsx hx0) {a : Addr} (q : hx0.size ≤ a) : Pw W a := Or.inr (C.h0 ▸ q)
theorem Out.st {S S' : State} (f : ∀ t, Stp W S' t → Stp W S t) (g : Out W Q S') : Out W Q S := by
  obtain ⟨s2, o, q, r⟩ := g
  exact ⟨s2, o, f _ q, r⟩
theorem Go.st (f : ∀ T locs, Sta0 W T locs k n → T.heap = h → ∀ t, Stp W (T.setTop (mkF W.m pc' L' S')) t → Stp W (T.setTop (mkF W.m pc L S)) t) (g : Go W Q h k n pc' L' S') : Go W Q h k n pc L S := fun T hT => by
  obtain ⟨locs, X, e, N⟩ := hT
  exact Out.st (f T locs X e) (g T ⟨locs, X, e, N⟩)
theorem Go.same {k' n' : Nat} (g : Go W Q h k n pc L S) (e1 : k' = k) (e2 : n' = n) : Go W Q h k' n' pc L S := by subst e1 e2; exact g
theorem Go.more {k' n' : Nat} (g : Go W Q h k' n' pc L S) (e1 : k ≤ k') (e2 : n ≤ n') : Go W Q h k n pc L S := fun T hT => by
  obtain ⟨locs, X, e, N⟩ := hT
  exact g T ⟨locs, ⟨X.admits, X.cas, X.clock, X.frames, X.room, X.hears, X.method, X.code, X.here, X.tail, X.warmed, X.limits, X.bytes, X.same.mono e1 e2⟩, e, N⟩
theorem Go.cell (g : hx0.size ≤ h.size → Go W Q h k n pc L S) (C : Cx W Z R own code mx ret nm wsx hx0) : Go W Q h k n pc L S := fun T hT => by
  obtain ⟨locs, X, e, N⟩ := hT
  have q : W.s.heap.size ≤ T.heap.size := X.same.2.1
  rw [C.h0, e] at q
  exact g q T ⟨locs, X, e, N⟩

theorem g_iadd (C : Cx W Z R own code mx ret nm wsx hx0) {x y : Int32} (hd : decode code pc = .ok (.iadd, 1)) (hp : pc + 1 = pc') (g : Go W Q h k n pc' L (.int (x + y) :: S)) : Go W Q h k n pc L (.int y :: .int x :: S) := by
  subst hp
  exact g.st fun T locs X e t kk => XS.iadd (g := mkF W.m pc L (.int y :: .int x :: S)) X.here C.x rfl (C.b hd) rfl kk
theorem g_isub (C : Cx W Z R own code mx ret nm wsx hx0) {x y : Int32} (hd : decode code pc = .ok (.isub, 1)) (hp : pc + 1 = pc') (g : Go W Q h k n pc' L (.int (x - y) :: S)) : Go W Q h k n pc L (.int y :: .int x :: S) := by
  subst hp
  exact g.st fun T locs X e t kk => XS.isub (g := mkF W.m pc L (.int y :: .int x :: S)) X.here C.x rfl (C.b hd) rfl kk
theorem g_imul (C : Cx W Z R own code mx ret nm wsx hx0) {x y : Int32} (hd : decode code pc = .ok (.imul, 1)) (hp : pc + 1 = pc') (g : Go W Q h k n pc' L (.int (x * y) :: S)) : Go W Q h k n pc L (.int y :: .int x :: S) := by
  subst hp
  exact g.st fun T locs X e t kk => XS.imul (g := mkF W.m pc L (.int y :: .int x :: S)) X.here C.x rfl (C.b hd) rfl kk
theorem g_iand (C : Cx W Z R own code mx ret nm wsx hx0) {x y : Int32} (hd : decode code pc = .ok (.iand, 1)) (hp : pc + 1 = pc') (g : Go W Q h k n pc' L (.int (x &&& y) :: S)) : Go W Q h k n pc L (.int y :: .int x :: S) := by
  subst hp
  exact g.st fun T locs X e t kk => XS.iand (g := mkF W.m pc L (.int y :: .int x :: S)) X.here C.x rfl (C.b hd) rfl kk
theorem g_ior (C : Cx W Z R own code mx ret nm wsx hx0) {x y : Int32} (hd : decode code pc = .ok (.ior, 1)) (hp : pc + 1 = pc') (g : Go W Q h k n pc' L (.int (x ||| y) :: S)) : Go W Q h k n pc L (.int y :: .int x :: S) := by
  subst hp
  exact g.st fun T locs X e t kk => XS.ior (g := mkF W.m pc L (.int y :: .int x :: S)) X.here C.x rfl (C.b hd) rfl kk
theorem g_ixor (C : Cx W Z R own code mx ret nm wsx hx0) {x y : Int32} (hd : decode code pc = .ok (.ixor, 1)) (hp : pc + 1 = pc') (g : Go W Q h k n pc' L (.int (x ^^^ y) :: S)) : Go W Q h k n pc L (.int y :: .int x :: S) := by
  subst hp
  exact g.st fun T locs X e t kk => XS.ixor (g := mkF W.m pc L (.int y :: .int x :: S)) X.here C.x rfl (C.b hd) rfl kk
theorem g_ishl (C : Cx W Z R own code mx ret nm wsx hx0) {x y : Int32} (hd : decode code pc = .ok (.ishl, 1)) (hp : pc + 1 = pc') (g : Go W Q h k n pc' L (.int (x <<< (y &&& 31)) :: S)) : Go W Q h k n pc L (.int y :: .int x :: S) := by
  subst hp
  exact g.st fun T locs X e t kk => XS.ishl (g := mkF W.m pc L (.int y :: .int x :: S)) X.here C.x rfl (C.b hd) rfl kk
theorem g_ishr (C : Cx W Z R own code mx ret nm wsx hx0) {x y : Int32} (hd : decode code pc = .ok (.ishr, 1)) (hp : pc + 1 = pc') (g : Go W Q h k n pc' L (.int (x >>> (y &&& 31)) :: S)) : Go W Q h k n pc L (.int y :: .int x :: S) := by
  subst hp
  exact g.st fun T locs X e t kk => XS.ishr (g := mkF W.m pc L (.int y :: .int x :: S)) X.here C.x rfl (C.b hd) rfl kk
theorem g_iushr (C : Cx W Z R own code mx ret nm wsx hx0) {x y : Int32} (hd : decode code pc = .ok (.iushr, 1)) (hp : pc + 1 = pc') (g : Go W Q h k n pc' L (.int ((x.toUInt32 >>> (y &&& 31).toUInt32).toInt32) :: S)) : Go W Q h k n pc L (.int y :: .int x :: S) := by
  subst hp
  exact g.st fun T locs X e t kk => XS.iushr (g := mkF W.m pc L (.int y :: .int x :: S)) X.here C.x rfl (C.b hd) rfl kk
theorem g_ladd (C : Cx W Z R own code mx ret nm wsx hx0) {x y : Int64} (hd : decode code pc = .ok (.ladd, 1)) (hp : pc + 1 = pc') (g : Go W Q h k n pc' L (.long (x + y) :: S)) : Go W Q h k n pc L (.long y :: .long x :: S) := by
  subst hp
  exact g.st fun T locs X e t kk => XS.ladd (g := mkF W.m pc L (.long y :: .long x :: S)) X.here C.x rfl (C.b hd) rfl kk
theorem g_lsub (C : Cx W Z R own code mx ret nm wsx hx0) {x y : Int64} (hd : decode code pc = .ok (.lsub, 1)) (hp : pc + 1 = pc') (g : Go W Q h k n pc' L (.long (x - y) :: S)) : Go W Q h k n pc L (.long y :: .long x :: S) := by
  subst hp
  exact g.st fun T locs X e t kk => XS.lsub (g := mkF W.m pc L (.long y :: .long x :: S)) X.here C.x rfl (C.b hd) rfl kk
theorem g_lmul (C : Cx W Z R own code mx ret nm wsx hx0) {x y : Int64} (hd : decode code pc = .ok (.lmul, 1)) (hp : pc + 1 = pc') (g : Go W Q h k n pc' L (.long (x * y) :: S)) : Go W Q h k n pc L (.long y :: .long x :: S) := by
  subst hp
  exact g.st fun T locs X e t kk => XS.lmul (g := mkF W.m pc L (.long y :: .long x :: S)) X.here C.x rfl (C.b hd) rfl kk
theorem g_land (C : Cx W Z R own code mx ret nm wsx hx0) {x y : Int64} (hd : decode code pc = .ok (.land, 1)) (hp : pc + 1 = pc') (g : Go W Q h k n pc' L (.long (x &&& y) :: S)) : Go W Q h k n pc L (.long y :: .long x :: S) := by
  subst hp
  exact g.st fun T locs X e t kk => XS.land (g := mkF W.m pc L (.long y :: .long x :: S)) X.here C.x rfl (C.b hd) rfl kk
theorem g_lor (C : Cx W Z R own code mx ret nm wsx hx0) {x y : Int64} (hd : decode code pc = .ok (.lor, 1)) (hp : pc + 1 = pc') (g : Go W Q h k n pc' L (.long (x ||| y) :: S)) : Go W Q h k n pc L (.long y :: .long x :: S) := by
  subst hp
  exact g.st fun T locs X e t kk => XS.lor (g := mkF W.m pc L (.long y :: .long x :: S)) X.here C.x rfl (C.b hd) rfl kk
theorem g_lxor (C : Cx W Z R own code mx ret nm wsx hx0) {x y : Int64} (hd : decode code pc = .ok (.lxor, 1)) (hp : pc + 1 = pc') (g : Go W Q h k n pc' L (.long (x ^^^ y) :: S)) : Go W Q h k n pc L (.long y :: .long x :: S) := by
  subst hp
  exact g.st fun T locs X e t kk => XS.lxor (g := mkF W.m pc L (.long y :: .long x :: S)) X.here C.x rfl (C.b hd) rfl kk
theorem g_lshl (C : Cx W Z R own code mx ret nm wsx hx0) {x : Int64} {y : Int32} (hd : decode code pc = .ok (.lshl, 1)) (hp : pc + 1 = pc') (g : Go W Q h k n pc' L (.long (x <<< (y &&& 0x3f).toInt64) :: S)) : Go W Q h k n pc L (.int y :: .long x :: S) := by
  subst hp
  exact g.st fun T locs X e t kk => XS.lshl (g := mkF W.m pc L (.int y :: .long x :: S)) X.here C.x rfl (C.b hd) rfl kk
theorem g_lshr (C : Cx W Z R own code mx ret nm wsx hx0) {x : Int64} {y : Int32} (hd : decode code pc = .ok (.lshr, 1)) (hp : pc + 1 = pc') (g : Go W Q h k n pc' L (.long (x >>> (y &&& 0x3f).toInt64) :: S)) : Go W Q h k n pc L (.int y :: .long x :: S) := by
  subst hp
  exact g.st fun T locs X e t kk => XS.lshr (g := mkF W.m pc L (.int y :: .long x :: S)) X.here C.x rfl (C.b hd) rfl kk
theorem g_lushr (C : Cx W Z R own code mx ret nm wsx hx0) {x : Int64} {y : Int32} (hd : decode code pc = .ok (.lushr, 1)) (hp : pc + 1 = pc') (g : Go W Q h k n pc' L (.long ((x.toUInt64 >>> (y &&& 0x3f).toInt64.toUInt64).toInt64) :: S)) : Go W Q h k n pc L (.int y :: .long x :: S) := by
  subst hp
  exact g.st fun T locs X e t kk => XS.lushr (g := mkF W.m pc L (.int y :: .long x :: S)) X.here C.x rfl (C.b hd) rfl kk
theorem g_idiv (C : Cx W Z R own code mx ret nm wsx hx0) {x y : Int32} (hd : decode code pc = .ok (.idiv, 1)) (hp : pc + 1 = pc') (hy : y ≠ 0) (g : Go W Q h k n pc' L (.int (x / y) :: S)) : Go W Q h k n pc L (.int y :: .int x :: S) := by
  subst hp
  exact g.st fun T locs X e t kk => XS.idiv (g := mkF W.m pc L (.int y :: .int x :: S)) X.here C.x rfl (C.b hd) rfl hy kk
theorem g_irem (C : Cx W Z R own code mx ret nm wsx hx0) {x y : Int32} (hd : decode code pc = .ok (.irem, 1)) (hp : pc + 1 = pc') (hy : y ≠ 0) (g : Go W Q h k n pc' L (.int (x % y) :: S)) : Go W Q h k n pc L (.int y :: .int x :: S) := by
  subst hp
  exact g.st fun T locs X e t kk => iremM (g := mkF W.m pc L (.int y :: .int x :: S)) X C.x rfl (C.b hd) rfl hy kk
theorem g_ldiv (C : Cx W Z R own code mx ret nm wsx hx0) {x y : Int64} (hd : decode code pc = .ok (.ldiv, 1)) (hp : pc + 1 = pc') (hy : y ≠ 0) (g : Go W Q h k n pc' L (.long (x / y) :: S)) : Go W Q h k n pc L (.long y :: .long x :: S) := by
  subst hp
  exact g.st fun T locs X e t kk => XS.ldiv (g := mkF W.m pc L (.long y :: .long x :: S)) X.here C.x rfl (C.b hd) rfl hy kk
theorem g_lrem (C : Cx W Z R own code mx ret nm wsx hx0) {x y : Int64} (hd : decode code pc = .ok (.lrem, 1)) (hp : pc + 1 = pc') (hy : y ≠ 0) (g : Go W Q h k n pc' L (.long (x % y) :: S)) : Go W Q h k n pc L (.long y :: .long x :: S) := by
  subst hp
  rw [← lrem_mod] at g
  exact g.st fun T locs X e t kk => XS.lrem (g := mkF W.m pc L (.long y :: .long x :: S)) X.here C.x rfl (C.b hd) rfl hy kk
theorem g_ineg (C : Cx W Z R own code mx ret nm wsx hx0) {x : Int32} (hd : decode code pc = .ok (.ineg, 1)) (hp : pc + 1 = pc') (g : Go W Q h k n pc' L (.int (-x) :: S)) : Go W Q h k n pc L (.int x :: S) := by
  subst hp
  exact g.st fun T locs X e t kk => XS.ineg (g := mkF W.m pc L (.int x :: S)) X.here C.x rfl (C.b hd) rfl kk
theorem g_lneg (C : Cx W Z R own code mx ret nm wsx hx0) {x : Int64} (hd : decode code pc = .ok (.lneg, 1)) (hp : pc + 1 = pc') (g : Go W Q h k n pc' L (.long (-x) :: S)) : Go W Q h k n pc L (.long x :: S) := by
  subst hp
  exact g.st fun T locs X e t kk => XS.lneg (g := mkF W.m pc L (.long x :: S)) X.here C.x rfl (C.b hd) rfl kk
theorem g_i2l (C : Cx W Z R own code mx ret nm wsx hx0) {x : Int32} (hd : decode code pc = .ok (.i2l, 1)) (hp : pc + 1 = pc') (g : Go W Q h k n pc' L (.long (x.toInt64) :: S)) : Go W Q h k n pc L (.int x :: S) := by
  subst hp
  exact g.st fun T locs X e t kk => XS.i2l (g := mkF W.m pc L (.int x :: S)) X.here C.x rfl (C.b hd) rfl kk
theorem g_l2i (C : Cx W Z R own code mx ret nm wsx hx0) {x : Int64} (hd : decode code pc = .ok (.l2i, 1)) (hp : pc + 1 = pc') (g : Go W Q h k n pc' L (.int (x.toInt32) :: S)) : Go W Q h k n pc L (.long x :: S) := by
  subst hp
  exact g.st fun T locs X e t kk => XS.l2i (g := mkF W.m pc L (.long x :: S)) X.here C.x rfl (C.b hd) rfl kk
theorem g_i2b (C : Cx W Z R own code mx ret nm wsx hx0) {x : Int32} (hd : decode code pc = .ok (.i2b, 1)) (hp : pc + 1 = pc') (g : Go W Q h k n pc' L (.int (x.toInt8.toInt32) :: S)) : Go W Q h k n pc L (.int x :: S) := by
  subst hp
  exact g.st fun T locs X e t kk => XS.i2b (g := mkF W.m pc L (.int x :: S)) X.here C.x rfl (C.b hd) rfl kk
theorem g_i2c (C : Cx W Z R own code mx ret nm wsx hx0) {x : Int32} (hd : decode code pc = .ok (.i2c, 1)) (hp : pc + 1 = pc') (g : Go W Q h k n pc' L (.int (x.toUInt32.toUInt16.toUInt32.toInt32) :: S)) : Go W Q h k n pc L (.int x :: S) := by
  subst hp
  exact g.st fun T locs X e t kk => XS.i2c (g := mkF W.m pc L (.int x :: S)) X.here C.x rfl (C.b hd) rfl kk
theorem g_i2s (C : Cx W Z R own code mx ret nm wsx hx0) {x : Int32} (hd : decode code pc = .ok (.i2s, 1)) (hp : pc + 1 = pc') (g : Go W Q h k n pc' L (.int (x.toInt16.toInt32) :: S)) : Go W Q h k n pc L (.int x :: S) := by
  subst hp
  exact g.st fun T locs X e t kk => XS.i2s (g := mkF W.m pc L (.int x :: S)) X.here C.x rfl (C.b hd) rfl kk
theorem g_iconst (C : Cx W Z R own code mx ret nm wsx hx0) {i : Int} {z : Int32} (hd : decode code pc = .ok (.iconst i, 1)) (hp : pc + 1 = pc') (hz : Int32.ofInt i = z) (g : Go W Q h k n pc' L (.int z :: S)) : Go W Q h k n pc L S := by
  subst hp hz
  exact g.st fun T locs X e t kk => XS.iconst (g := mkF W.m pc L S) X.here C.x rfl (C.b hd) kk
theorem g_bipush (C : Cx W Z R own code mx ret nm wsx hx0) {i : Int} {z : Int32} (hd : decode code pc = .ok (.bipush i, 2)) (hp : pc + 2 = pc') (hz : (Int8.ofInt i).toInt32 = z) (g : Go W Q h k n pc' L (.int z :: S)) : Go W Q h k n pc L S := by
  subst hp hz
  exact g.st fun T locs X e t kk => XS.bipush (g := mkF W.m pc L S) X.here C.x rfl (C.b hd) kk
theorem g_sipush (C : Cx W Z R own code mx ret nm wsx hx0) {i : Int} {z : Int32} (hd : decode code pc = .ok (.sipush i, 3)) (hp : pc + 3 = pc') (hz : (Int16.ofInt i).toInt32 = z) (g : Go W Q h k n pc' L (.int z :: S)) : Go W Q h k n pc L S := by
  subst hp hz
  exact g.st fun T locs X e t kk => XS.sipush (g := mkF W.m pc L S) X.here C.x rfl (C.b hd) kk
theorem g_lconst (C : Cx W Z R own code mx ret nm wsx hx0) {i : Fin 2} {z : Int64} (hd : decode code pc = .ok (.lconst i, 1)) (hp : pc + 1 = pc') (hz : Int64.ofNat i = z) (g : Go W Q h k n pc' L (.long z :: S)) : Go W Q h k n pc L S := by
  subst hp hz
  exact g.st fun T locs X e t kk => XS.lconst (g := mkF W.m pc L S) X.here C.x rfl (C.b hd) kk
theorem g_aconst_null (C : Cx W Z R own code mx ret nm wsx hx0)  (hd : decode code pc = .ok (.aconst_null, 1)) (hp : pc + 1 = pc') (g : Go W Q h k n pc' L (.null :: S)) : Go W Q h k n pc L (S) := by
  subst hp
  exact g.st fun T locs X e t kk => XS.aconstNull (g := mkF W.m pc L (S)) X.here C.x rfl (C.b hd) kk
theorem g_dup (C : Cx W Z R own code mx ret nm wsx hx0) {x : Value} (hd : decode code pc = .ok (.dup, 1)) (hp : pc + 1 = pc') (hc : x.category = 1) (g : Go W Q h k n pc' L (x :: x :: S)) : Go W Q h k n pc L (x :: S) := by
  subst hp
  exact g.st fun T locs X e t kk => XS.dup (g := mkF W.m pc L (x :: S)) X.here C.x rfl (C.b hd) rfl hc kk
theorem g_dup_x1 (C : Cx W Z R own code mx ret nm wsx hx0) {x y : Value} (hd : decode code pc = .ok (.dup_x1, 1)) (hp : pc + 1 = pc') (hc : x.category = 1) (hc' : y.category = 1) (g : Go W Q h k n pc' L (x :: y :: x :: S)) : Go W Q h k n pc L (x :: y :: S) := by
  subst hp
  exact g.st fun T locs X e t kk => XS.dupX1 (g := mkF W.m pc L (x :: y :: S)) X.here C.x rfl (C.b hd) rfl hc hc' kk
theorem g_dup2 (C : Cx W Z R own code mx ret nm wsx hx0) {x y : Value} (hd : decode code pc = .ok (.dup2, 1)) (hp : pc + 1 = pc') (hc : x.category = 1) (hc' : y.category = 1) (g : Go W Q h k n pc' L (x :: y :: x :: y :: S)) : Go W Q h k n pc L (x :: y :: S) := by
  subst hp
  exact g.st fun T locs X e t kk => XT.dup2 (g := mkF W.m pc L (x :: y :: S)) X.here C.x rfl (C.b hd) rfl hc hc' kk
theorem g_dup2L (C : Cx W Z R own code mx ret nm wsx hx0) {x : Int64} (hd : decode code pc = .ok (.dup2, 1)) (hp : pc + 1 = pc') (g : Go W Q h k n pc' L (.long x :: .long x :: S)) : Go W Q h k n pc L (.long x :: S) := by
  subst hp
  exact g.st fun T locs X e t kk => XT.dup2L (g := mkF W.m pc L (.long x :: S)) X.here C.x rfl (C.b hd) rfl kk
theorem g_pop (C : Cx W Z R own code mx ret nm wsx hx0) {x : Value} (hd : decode code pc = .ok (.pop, 1)) (hp : pc + 1 = pc') (hc : x.category = 1) (g : Go W Q h k n pc' L (S)) : Go W Q h k n pc L (x :: S) := by
  subst hp
  exact g.st fun T locs X e t kk => XS.pop (g := mkF W.m pc L (x :: S)) X.here C.x rfl (C.b hd) rfl hc kk
theorem g_iload (C : Cx W Z R own code mx ret nm wsx hx0) {i : Nat} {x : Int32} (hd : decode code pc = .ok (.iload i, 2)) (hp : pc + 2 = pc') (hl : L[i]? = some (.val (.int x))) (g : Go W Q h k n pc' L (.int x :: S)) : Go W Q h k n pc L (S) := by
  subst hp
  exact g.st fun T locs X e t kk => XS.iload (g := mkF W.m pc L (S)) X.here C.x rfl (C.b hd) hl kk
theorem g_iloadN (C : Cx W Z R own code mx ret nm wsx hx0) {i : Fin 4} {x : Int32} (hd : decode code pc = .ok (.iload_n i, 1)) (hp : pc + 1 = pc') (hl : L[i.val]? = some (.val (.int x))) (g : Go W Q h k n pc' L (.int x :: S)) : Go W Q h k n pc L (S) := by
  subst hp
  exact g.st fun T locs X e t kk => XS.iloadN (g := mkF W.m pc L (S)) X.here C.x rfl (C.b hd) hl kk
theorem g_lload (C : Cx W Z R own code mx ret nm wsx hx0) {i : Nat} {x : Int64} (hd : decode code pc = .ok (.lload i, 2)) (hp : pc + 2 = pc') (hl : L[i]? = some (.val (.long x))) (g : Go W Q h k n pc' L (.long x :: S)) : Go W Q h k n pc L (S) := by
  subst hp
  exact g.st fun T locs X e t kk => XS.lload (g := mkF W.m pc L (S)) X.here C.x rfl (C.b hd) hl kk
theorem g_lloadN (C : Cx W Z R own code mx ret nm wsx hx0) {i : Fin 4} {x : Int64} (hd : decode code pc = .ok (.lload_n i, 1)) (hp : pc + 1 = pc') (hl : L[i.val]? = some (.val (.long x))) (g : Go W Q h k n pc' L (.long x :: S)) : Go W Q h k n pc L (S) := by
  subst hp
  exact g.st fun T locs X e t kk => XS.lloadN (g := mkF W.m pc L (S)) X.here C.x rfl (C.b hd) hl kk
theorem g_aload (C : Cx W Z R own code mx ret nm wsx hx0) {i : Nat} {x : Value} (hd : decode code pc = .ok (.aload i, 2)) (hp : pc + 2 = pc') (hl : L[i]? = some (.val x)) (hv : x.isRef = true) (g : Go W Q h k n pc' L (x :: S)) : Go W Q h k n pc L (S) := by
  subst hp
  exact g.st fun T locs X e t kk => XS.aload (g := mkF W.m pc L (S)) X.here C.x rfl (C.b hd) hl hv kk
theorem g_istore (C : Cx W Z R own code mx ret nm wsx hx0) {i : Nat} {x : Int32} (hd : decode code pc = .ok (.istore i, 2)) (hp : pc + 2 = pc') (hl : storeLocals L i (.int x) = some L') (g : Go W Q h k n pc' L' (S)) : Go W Q h k n pc L (.int x :: S) := by
  subst hp
  exact g.st fun T locs X e t kk => XS.istore (g := mkF W.m pc L (.int x :: S)) X.here C.x rfl (C.b hd) rfl hl kk
theorem g_lstore (C : Cx W Z R own code mx ret nm wsx hx0) {i : Nat} {x : Int64} (hd : decode code pc = .ok (.lstore i, 2)) (hp : pc + 2 = pc') (hl : storeLocals L i (.long x) = some L') (g : Go W Q h k n pc' L' (S)) : Go W Q h k n pc L (.long x :: S) := by
  subst hp
  exact g.st fun T locs X e t kk => XS.lstore (g := mkF W.m pc L (.long x :: S)) X.here C.x rfl (C.b hd) rfl hl kk
theorem g_astore (C : Cx W Z R own code mx ret nm wsx hx0) {i : Nat} {x : Value} (hd : decode code pc = .ok (.astore i, 2)) (hp : pc + 2 = pc') (hv : x.isRef = true) (hl : storeLocals L i x = some L') (g : Go W Q h k n pc' L' (S)) : Go W Q h k n pc L (x :: S) := by
  subst hp
  exact g.st fun T locs X e t kk => XS.astore (g := mkF W.m pc L (x :: S)) X.here C.x rfl (C.b hd) rfl hv hl kk
theorem g_aloadN (C : Cx W Z R own code mx ret nm wsx hx0) {i : Fin 4} {x : Value} (hd : decode code pc = .ok (.aload_n i, 1)) (hp : pc + 1 = pc') (hl : L[i.val]? = some (.val x)) (hv : x.isRef = true) (g : Go W Q h k n pc' L (x :: S)) : Go W Q h k n pc L (S) := by
  subst hp
  exact g.st fun T locs X e t kk => XS.aloadN (g := mkF W.m pc L (S)) X.here C.x rfl (C.b hd) hl hv kk
theorem g_istoreN (C : Cx W Z R own code mx ret nm wsx hx0) {i : Fin 4} {x : Int32} (hd : decode code pc = .ok (.istore_n i, 1)) (hp : pc + 1 = pc') (hl : storeLocals L i.val (.int x) = some L') (g : Go W Q h k n pc' L' (S)) : Go W Q h k n pc L (.int x :: S) := by
  subst hp
  exact g.st fun T locs X e t kk => XS.istoreN (g := mkF W.m pc L (.int x :: S)) X.here C.x rfl (C.b hd) rfl hl kk
theorem g_lstoreN (C : Cx W Z R own code mx ret nm wsx hx0) {i : Fin 4} {x : Int64} (hd : decode code pc = .ok (.lstore_n i, 1)) (hp : pc + 1 = pc') (hl : storeLocals L i.val (.long x) = some L') (g : Go W Q h k n pc' L' (S)) : Go W Q h k n pc L (.long x :: S) := by
  subst hp
  exact g.st fun T locs X e t kk => XS.lstoreN (g := mkF W.m pc L (.long x :: S)) X.here C.x rfl (C.b hd) rfl hl kk
theorem g_astoreN (C : Cx W Z R own code mx ret nm wsx hx0) {i : Fin 4} {x : Value} (hd : decode code pc = .ok (.astore_n i, 1)) (hp : pc + 1 = pc') (hv : x.isRef = true) (hl : storeLocals L i.val x = some L') (g : Go W Q h k n pc' L' (S)) : Go W Q h k n pc L (x :: S) := by
  subst hp
  exact g.st fun T locs X e t kk => XS.astoreN (g := mkF W.m pc L (x :: S)) X.here C.x rfl (C.b hd) rfl hv hl kk
theorem g_iinc (C : Cx W Z R own code mx ret nm wsx hx0) {i : Nat} {cst : Int} {x z : Int32} (hd : decode code pc = .ok (.iinc i cst, 3)) (hp : pc + 3 = pc') (hl : L[i]? = some (.val (.int x))) (hz : x + Int32.ofInt cst = z) (hl' : storeLocals L i (.int z) = some L') (g : Go W Q h k n pc' L' (S)) : Go W Q h k n pc L (S) := by
  subst hp
  exact g.st fun T locs X e t kk => XS.iinc (g := mkF W.m pc L (S)) X.here C.x rfl (C.b hd) hl (hz ▸ hl') kk
theorem g_goto (C : Cx W Z R own code mx ret nm wsx hx0) {o : Int} (hd : decode code pc = .ok (.goto o, 3)) (ho : 0 ≤ (pc : Int) + o) (hp : ((pc : Int) + o).toNat = pc') (g : Go W Q h k n pc' L S) : Go W Q h k n pc L S :=
  g.st fun T locs X e t kk => XS.goto (g := mkF W.m pc L S) X.here C.x rfl rfl (C.b hd) ho hp kk
theorem g_ldcI (C : Cx W Z R own code mx ret nm wsx hx0) {i : Nat} {z : Int32} (hd : decode code pc = .ok (.ldc i, 2)) (hp : pc + 2 = pc') (w : (Jvm.Cond.constant own i z).before a0 Z = true) (g : Go W Q h k n pc' L (.int z :: S)) : Go W Q h k n pc L S := by
  subst hp
  exact g.st fun T locs X e t kk => X.ldcInt C.x C.o (mvT C.z w) (g := mkF W.m pc L S) rfl (C.b hd) t kk
theorem g_ldcwI (C : Cx W Z R own code mx ret nm wsx hx0) {i : Nat} {z : Int32} (hd : decode code pc = .ok (.ldc_w i, 3)) (hp : pc + 3 = pc') (w : (Jvm.Cond.constant own i z).before a0 Z = true) (g : Go W Q h k n pc' L (.int z :: S)) : Go W Q h k n pc L S := by
  subst hp
  exact g.st fun T locs X e t kk => X.ldcwInt C.x C.o (mvT C.z w) (g := mkF W.m pc L S) rfl (C.b hd) t kk
theorem g_ldc2L (C : Cx W Z R own code mx ret nm wsx hx0) {i : Nat} {z : Int64} (hd : decode code pc = .ok (.ldc2_w i, 3)) (hp : pc + 3 = pc') (w : (Jvm.Cond.constantLong own i z).before a0 Z = true) (g : Go W Q h k n pc' L (.long z :: S)) : Go W Q h k n pc L S := by
  subst hp
  exact g.st fun T locs X e t kk => X.ldc2Long C.x C.o (mvT C.z w) (g := mkF W.m pc L S) rfl (C.b hd) t kk
/-- what a branch asks of two integers -/
def icp : ClassFile.Cond → Int → Int → Prop
  | .eq, x, y => x = y
  | .ne, x, y => ¬ x = y
  | .lt, x, y => x < y
  | .ge, x, y => y ≤ x
  | .gt, x, y => y < x
  | .le, x, y => x ≤ y
instance instIcp : (cd : ClassFile.Cond) → (x y : Int) → Decidable (icp cd x y)
  | .eq, x, y => inferInstanceAs (Decidable (x = y))
  | .ne, x, y => inferInstanceAs (Decidable (¬ x = y))
  | .lt, x, y => inferInstanceAs (Decidable (x < y))
  | .ge, x, y => inferInstanceAs (Decidable (y ≤ x))
  | .gt, x, y => inferInstanceAs (Decidable (y < x))
  | .le, x, y => inferInstanceAs (Decidable (x ≤ y))
theorem icp_eq (cd : ClassFile.Cond) (x y : Int32) : if_icmp.holds cd x y = decide (icp cd x.toInt y.toInt) := by
  rw [Bool.eq_iff_iff, decide_eq_true_iff]
  cases cd <;> simp [if_icmp.holds, icp, Int32.lt_iff_toInt_lt, Int32.le_iff_toInt_le, Int32.toInt_inj]
theorem icp_long (cd : ClassFile.Cond) (x y : Int64) : ifCond.holds cd (lcmpW x y) = decide (icp cd x.toInt y.toInt) := by
  rw [if0, icp_eq, Bool.eq_iff_iff, decide_eq_true_iff, decide_eq_true_iff]
  have c := c_lcmp x y
  have z : (0 : Int32).toInt = 0 := rfl
  rw [z]
  rcases Int.lt_trichotomy x.toInt y.toInt with q | q | q
  · rw [c.1 q]; cases cd <;> simp only [icp] <;> omega
  · rw [c.2.1 q]; cases cd <;> simp only [icp] <;> first | omega | simp [q]
  · rw [c.2.2 q]; cases cd <;> simp only [icp] <;> omega

theorem g_icmpY (C : Cx W Z R own code mx ret nm wsx hx0) {cd : ClassFile.Cond} {o : Int} {x y : Int32} {xi yi : Int} (hd : decode code pc = .ok (.if_icmp cd o, 3)) (ho : 0 ≤ (pc : Int) + o) (hp1 : ((pc : Int) + o).toNat = pc1) (hx : x.toInt = xi) (hy : y.toInt = yi) (q : icp cd xi yi) (g : Go W Q h k n pc1 L S) : Go W Q h k n pc L (.int y :: .int x :: S) := by
  subst hx hy
  exact g.st fun T locs X e t kk => XS.icmpYes (g := mkF W.m pc L (.int y :: .int x :: S)) X.here C.x rfl rfl (C.b hd) rfl ((icp_eq cd x y).trans (decide_eq_true q)) ho hp1 kk
theorem g_icmpN (C : Cx W Z R own code mx ret nm wsx hx0) {cd : ClassFile.Cond} {o : Int} {x y : Int32} {xi yi : Int} (hd : decode code pc = .ok (.if_icmp cd o, 3)) (hp2 : pc + 3 = pc2) (hx : x.toInt = xi) (hy : y.toInt = yi) (q : ¬ (icp cd xi yi)) (g : Go W Q h k n pc2 L S) : Go W Q h k n pc L (.int y :: .int x :: S) := by
  subst hx hy hp2
  exact g.st fun T locs X e t kk => XS.icmpNo (g := mkF W.m pc L (.int y :: .int x :: S)) X.here C.x rfl (C.b hd) rfl ((icp_eq cd x y).trans (decide_eq_false q)) kk
theorem g_icmp (C : Cx W Z R own code mx ret nm wsx hx0) {cd : ClassFile.Cond} {o : Int} {x y : Int32} {xi yi : Int} (hd : decode code pc = .ok (.if_icmp cd o, 3)) (ho : 0 ≤ (pc : Int) + o) (hp1 : ((pc : Int) + o).toNat = pc1) (hp2 : pc + 3 = pc2) (hx : x.toInt = xi) (hy : y.toInt = yi) (g1 : icp cd xi yi → Go W Q h k n pc1 L S) (g2 : ¬ (icp cd xi yi) → Go W Q h k n pc2 L S) : Go W Q h k n pc L (.int y :: .int x :: S) := by
  by_cases q : icp cd xi yi
  · exact g_icmpY C hd ho hp1 hx hy q (g1 q)
  · exact g_icmpN C hd hp2 hx hy q (g2 q)
theorem g_ifY (C : Cx W Z R own code mx ret nm wsx hx0) {cd : ClassFile.Cond} {o : Int} {x : Int32} {xi : Int} (hd : decode code pc = .ok (.ifCond cd o, 3)) (ho : 0 ≤ (pc : Int) + o) (hp1 : ((pc : Int) + o).toNat = pc1) (hx : x.toInt = xi) (q : icp cd xi 0) (g : Go W Q h k n pc1 L S) : Go W Q h k n pc L (.int x :: S) := by
  subst hx
  exact g.st fun T locs X e t kk => XS.ifYes (g := mkF W.m pc L (.int x :: S)) X.here C.x rfl rfl (C.b hd) rfl ((if0 cd x).trans ((icp_eq cd x 0).trans (decide_eq_true q))) ho hp1 kk
theorem g_ifN (C : Cx W Z R own code mx ret nm wsx hx0) {cd : ClassFile.Cond} {o : Int} {x : Int32} {xi : Int} (hd : decode code pc = .ok (.ifCond cd o, 3)) (hp2 : pc + 3 = pc2) (hx : x.toInt = xi) (q : ¬ (icp cd xi 0)) (g : Go W Q h k n pc2 L S) : Go W Q h k n pc L (.int x :: S) := by
  subst hx hp2
  exact g.st fun T locs X e t kk => XS.ifNo (g := mkF W.m pc L (.int x :: S)) X.here C.x rfl (C.b hd) rfl ((if0 cd x).trans ((icp_eq cd x 0).trans (decide_eq_false q))) kk
theorem g_if (C : Cx W Z R own code mx ret nm wsx hx0) {cd : ClassFile.Cond} {o : Int} {x : Int32} {xi : Int} (hd : decode code pc = .ok (.ifCond cd o, 3)) (ho : 0 ≤ (pc : Int) + o) (hp1 : ((pc : Int) + o).toNat = pc1) (hp2 : pc + 3 = pc2) (hx : x.toInt = xi) (g1 : icp cd xi 0 → Go W Q h k n pc1 L S) (g2 : ¬ (icp cd xi 0) → Go W Q h k n pc2 L S) : Go W Q h k n pc L (.int x :: S) := by
  by_cases q : icp cd xi 0
  · exact g_ifY C hd ho hp1 hx q (g1 q)
  · exact g_ifN C hd hp2 hx q (g2 q)
/-- lcmp and the branch behind it -/
theorem g_lcmpY (C : Cx W Z R own code mx ret nm wsx hx0) {cd : ClassFile.Cond} {o : Int} {x y : Int64} {xi yi : Int} (hd : decode code pc = .ok (.lcmp, 1)) (hd' : decode code pc' = .ok (.ifCond cd o, 3)) (hp : pc + 1 = pc') (ho : 0 ≤ (pc' : Int) + o) (hp1 : ((pc' : Int) + o).toNat = pc1) (hx : x.toInt = xi) (hy : y.toInt = yi) (q : icp cd xi yi) (g : Go W Q h k n pc1 L S) : Go W Q h k n pc L (.long y :: .long x :: S) := by
  subst hp hx hy
  have g' : Go W Q h k n (pc + 1) L (.int (lcmpW x y) :: S) := g.st fun T locs X e t kk => XS.ifYes (g := mkF W.m (pc + 1) L (.int (lcmpW x y) :: S)) X.here C.x rfl rfl (C.b hd') rfl ((icp_long cd x y).trans (decide_eq_true q)) ho hp1 kk
  exact g'.st fun T locs X e t kk => XS.lcmp (g := mkF W.m pc L (.long y :: .long x :: S)) X.here C.x rfl (C.b hd) rfl kk
theorem g_lcmpN (C : Cx W Z R own code mx ret nm wsx hx0) {cd : ClassFile.Cond} {o : Int} {x y : Int64} {xi yi : Int} (hd : decode code pc = .ok (.lcmp, 1)) (hd' : decode code pc' = .ok (.ifCond cd o, 3)) (hp : pc + 1 = pc') (hp2 : pc' + 3 = pc2) (hx : x.toInt = xi) (hy : y.toInt = yi) (q : ¬ icp cd xi yi) (g : Go W Q h k n pc2 L S) : Go W Q h k n pc L (.long y :: .long x :: S) := by
  subst hp hx hy hp2
  have g' : Go W Q h k n (pc + 1) L (.int (lcmpW x y) :: S) := g.st fun T locs X e t kk => XS.ifNo (g := mkF W.m (pc + 1) L (.int (lcmpW x y) :: S)) X.here C.x rfl (C.b hd') rfl ((icp_long cd x y).trans (decide_eq_false q)) kk
  exact g'.st fun T locs X e t kk => XS.lcmp (g := mkF W.m pc L (.long y :: .long x :: S)) X.here C.x rfl (C.b hd) rfl kk
theorem g_lcmp (C : Cx W Z R own code mx ret nm wsx hx0) {cd : ClassFile.Cond} {o : Int} {x y : Int64} {xi yi : Int} (hd : decode code pc = .ok (.lcmp, 1)) (hd' : decode code pc' = .ok (.ifCond cd o, 3)) (hp : pc + 1 = pc') (ho : 0 ≤ (pc' : Int) + o) (hp1 : ((pc' : Int) + o).toNat = pc1) (hp2 : pc' + 3 = pc2) (hx : x.toInt = xi) (hy : y.toInt = yi) (g1 : icp cd xi yi → Go W Q h k n pc1 L S) (g2 : ¬ icp cd xi yi → Go W Q h k n pc2 L S) : Go W Q h k n pc L (.long y :: .long x :: S) := by
  by_cases q : icp cd xi yi
  · exact g_lcmpY C hd hd' hp ho hp1 hx hy q (g1 q)
  · exact g_lcmpN C hd hd' hp hp2 hx hy q (g2 q)
theorem icp_b0 {P : Prop} [Decidable P] : icp .eq (b2i P).toInt 0 ↔ ¬ P := by
  show (b2i P).toInt = 0 ↔ ¬ P
  rw [b2i_toInt]; split <;> simp [*]
theorem icp_b1 {P : Prop} [Decidable P] : icp .ne (b2i P).toInt 0 ↔ P := by
  show ¬ (b2i P).toInt = 0 ↔ P
  rw [b2i_toInt]; split <;> simp [*]
/-- ifeq on a truth value -/
theorem g_ifeqb (C : Cx W Z R own code mx ret nm wsx hx0) {o : Int} {x : Int32} {P : Prop} [Decidable P] (hd : decode code pc = .ok (.ifCond .eq o, 3)) (ho : 0 ≤ (pc : Int) + o) (hp1 : ((pc : Int) + o).toNat = pc1) (hp2 : pc + 3 = pc2) (hx : x = b2i P) (g1 : ¬ P → Go W Q h k n pc1 L S) (g2 : P → Go W Q h k n pc2 L S) : Go W Q h k n pc L (.int x :: S) := by
  subst hx
  exact g_if C hd ho hp1 hp2 rfl (fun q => g1 (icp_b0.mp q)) (fun q => g2 (Decidable.not_not.mp fun z => q (icp_b0.mpr z)))
/-- ifne on a truth value -/
theorem g_ifneb (C : Cx W Z R own code mx ret nm wsx hx0) {o : Int} {x : Int32} {P : Prop} [Decidable P] (hd : decode code pc = .ok (.ifCond .ne o, 3)) (ho : 0 ≤ (pc : Int) + o) (hp1 : ((pc : Int) + o).toNat = pc1) (hp2 : pc + 3 = pc2) (hx : x = b2i P) (g1 : P → Go W Q h k n pc1 L S) (g2 : ¬ P → Go W Q h k n pc2 L S) : Go W Q h k n pc L (.int x :: S) := by
  subst hx
  exact g_if C hd ho hp1 hp2 rfl (fun q => g1 (icp_b1.mp q)) (fun q => g2 fun z => q (icp_b1.mpr z))
theorem g_icmpbeq (C : Cx W Z R own code mx ret nm wsx hx0) {o : Int} {x y : Int32} {P P' : Prop} [Decidable P] [Decidable P'] (hd : decode code pc = .ok (.if_icmp .eq o, 3)) (ho : 0 ≤ (pc : Int) + o) (hp1 : ((pc : Int) + o).toNat = pc1) (hp2 : pc + 3 = pc2) (hx : x = b2i P) (hy : y = b2i P') (g1 : (P ↔ P') → Go W Q h k n pc1 L S) (g2 : ¬ (P ↔ P') → Go W Q h k n pc2 L S) : Go W Q h k n pc L (.int y :: .int x :: S) := by
  subst hx hy
  exact g_icmp C hd ho hp1 hp2 rfl rfl (fun q => g1 (b2i_inj.mp (Int32.toInt_inj.mp q))) (fun q => g2 fun z => q (congrArg Int32.toInt (b2i_inj.mpr z)))
theorem g_icmpbne (C : Cx W Z R own code mx ret nm wsx hx0) {o : Int} {x y : Int32} {P P' : Prop} [Decidable P] [Decidable P'] (hd : decode code pc = .ok (.if_icmp .ne o, 3)) (ho : 0 ≤ (pc : Int) + o) (hp1 : ((pc : Int) + o).toNat = pc1) (hp2 : pc + 3 = pc2) (hx : x = b2i P) (hy : y = b2i P') (g1 : ¬ (P ↔ P') → Go W Q h k n pc1 L S) (g2 : (P ↔ P') → Go W Q h k n pc2 L S) : Go W Q h k n pc L (.int y :: .int x :: S) := by
  subst hx hy
  exact g_icmp C hd ho hp1 hp2 rfl rfl (fun q => g1 fun z => q (congrArg Int32.toInt (b2i_inj.mpr z))) (fun q => g2 (b2i_inj.mp (Int32.toInt_inj.mp (Decidable.not_not.mp q))))
theorem isRef_cases {v : Value} (hv : v.isRef = true) (h0 : v ≠ .null) : ∃ b, v = .ref b := by
  rcases ref_cases hv with q | q
  · exact absurd q h0
  · exact q
theorem g_ifnonnull (C : Cx W Z R own code mx ret nm wsx hx0) {o : Int} {v : Value} (hd : decode code pc = .ok (.ifnonnull o, 3)) (ho : 0 ≤ (pc : Int) + o) (hp1 : ((pc : Int) + o).toNat = pc1) (hp2 : pc + 3 = pc2) (hv : v.isRef = true) (g1 : v ≠ .null → Go W Q h k n pc1 L S) (g2 : v = .null → Go W Q h k n pc2 L S) : Go W Q h k n pc L (v :: S) := by
  by_cases q : v = .null
  · have g := g2 q
    subst q hp2
    exact g.st fun T locs X e t kk => XS.ifnonnullNo (g := mkF W.m pc L (.null :: S)) X.here C.x rfl (C.b hd) rfl kk
  · have g := g1 q
    obtain ⟨b, rfl⟩ := isRef_cases hv q
    exact g.st fun T locs X e t kk => XS.ifnonnullYes (g := mkF W.m pc L (.ref b :: S)) X.here C.x rfl rfl (C.b hd) rfl ho hp1 kk
theorem g_ifnull (C : Cx W Z R own code mx ret nm wsx hx0) {o : Int} {v : Value} (hd : decode code pc = .ok (.ifnull o, 3)) (ho : 0 ≤ (pc : Int) + o) (hp1 : ((pc : Int) + o).toNat = pc1) (hp2 : pc + 3 = pc2) (hv : v.isRef = true) (g1 : v = .null → Go W Q h k n pc1 L S) (g2 : v ≠ .null → Go W Q h k n pc2 L S) : Go W Q h k n pc L (v :: S) := by
  by_cases q : v = .null
  · have g := g1 q
    subst q
    exact g.st fun T locs X e t kk => XS.ifnullYes (g := mkF W.m pc L (.null :: S)) X.here C.x rfl rfl (C.b hd) rfl ho hp1 kk
  · have g := g2 q
    obtain ⟨b, rfl⟩ := isRef_cases hv q
    subst hp2
    exact g.st fun T locs X e t kk => XS.ifnullNo (g := mkF W.m pc L (.ref b :: S)) X.here C.x rfl (C.b hd) rfl kk
theorem g_acmpne (C : Cx W Z R own code mx ret nm wsx hx0) {o : Int} {v w : Value} (hd : decode code pc = .ok (.if_acmp .ne o, 3)) (ho : 0 ≤ (pc : Int) + o) (hp1 : ((pc : Int) + o).toNat = pc1) (hp2 : pc + 3 = pc2) (hv : v.isRef = true) (hw : w.isRef = true) (g1 : v ≠ w → Go W Q h k n pc1 L S) (g2 : v = w → Go W Q h k n pc2 L S) : Go W Q h k n pc L (w :: v :: S) := by
  by_cases q : v = w
  · exact (g2 q).st fun T locs X e t kk => Jvm.RoadKit.acmp (g := mkF W.m pc L (w :: v :: S)) X C.x rfl hv hw (same := true) rfl (C.b hd) rfl (decide_eq_true q) ho (by rw [← hp2]; rfl) kk
  · exact (g1 q).st fun T locs X e t kk => Jvm.RoadKit.acmp (g := mkF W.m pc L (w :: v :: S)) X C.x rfl hv hw (same := false) rfl (C.b hd) rfl (decide_eq_false q) ho hp1.symm kk
theorem g_acmpeq (C : Cx W Z R own code mx ret nm wsx hx0) {o : Int} {v w : Value} (hd : decode code pc = .ok (.if_acmp .eq o, 3)) (ho : 0 ≤ (pc : Int) + o) (hp1 : ((pc : Int) + o).toNat = pc1) (hp2 : pc + 3 = pc2) (hv : v.isRef = true) (hw : w.isRef = true) (g1 : v = w → Go W Q h k n pc1 L S) (g2 : v ≠ w → Go W Q h k n pc2 L S) : Go W Q h k n pc L (w :: v :: S) := by
  by_cases q : v = w
  · exact (g1 q).st fun T locs X e t kk => Jvm.RoadKit.acmp (g := mkF W.m pc L (w :: v :: S)) X C.x rfl hv hw (same := true) rfl (C.b hd) rfl (decide_eq_true q) ho hp1.symm kk
  · exact (g2 q).st fun T locs X e t kk => Jvm.RoadKit.acmp (g := mkF W.m pc L (w :: v :: S)) X C.x rfl hv hw (same := false) rfl (C.b hd) rfl (decide_eq_false q) ho (by rw [← hp2]; rfl) kk

/-! fields, objects, arrays -/
theorem g_getL (C : Cx W Z R own code mx ret nm wsx hx0) {i : Nat} {R0 O f d host : String} {a : Addr} {v : Value} (hd : decode code pc = .ok (.getfield i, 3)) (hp : pc + 3 = pc') (w : (Jvm.Cond.fieldLink own i R0 f d).before a0 Z = true ∨ (Jvm.Cond.fieldLinkNest own i R0 f d host).before a0 Z = true) (via : Via Z R0 O f d) (F : Fld Z h a O f d v) (g : Go W Q h k n pc' L (v :: S)) : Go W Q h k n pc L (.ref a :: S) := fun T hT => by
  obtain ⟨locs, X, e, N⟩ := hT
  subst hp
  obtain ⟨T', X', e', st⟩ := getF X C.x C.z C.o w via e F (g := mkF W.m pc L (.ref a :: S)) rfl rfl (C.b hd)
  exact Out.st st (g T' ⟨locs, X', e', N⟩)
theorem g_getO (C : Cx W Z R own code mx ret nm wsx hx0) {i j : Nat} {O f d Cl : String} {a : Addr} {v : Value} {fs : List (String × String × String × Value)} (hd : decode code pc = .ok (.getfield i, 3)) (hp : pc + 3 = pc') (w : (Jvm.Cond.fieldLink own i O f d).before a0 Z = true) (F : Ob Z h a Cl fs) (hj : fs[j]? = some (O, f, d, v)) (g : Go W Q h k n pc' L (v :: S)) : Go W Q h k n pc L (.ref a :: S) :=
  g_getL (host := "") C hd hp (Or.inl w) Via.refl (F.get hj) g
theorem pw_size (C : Cx W Z R own code mx ret nm wsx hx0) {T : State} {locs : List Loc} (X : Sta0 W T locs k n) (e : T.heap = h) : Pw W h.size := by
  have q : W.s.heap.size ≤ T.heap.size := X.same.2.1
  rw [e] at q
  exact Or.inr q
theorem g_putO (C : Cx W Z R own code mx ret nm wsx hx0) {i j kk : Nat} {R0 O f d Cl : String} {ty : FieldType} {a : Addr} {v v' old : Value} {fs fs' : List (String × String × String × Value)} (hd : decode code pc = .ok (.putfield i, 3)) (hp : pc + 3 = pc') (w : (Jvm.Cond.fieldLink own i R0 f d).before a0 Z = true) (via : Via Z R0 O f d) (F : Ob Z h a Cl fs) (hj : fs[j]? = some (O, f, d, old))
    (Lw : (Jvm.Cond.lays Cl O f d).before a0 Z = true ∨ ((Jvm.Cond.laysFinal Cl O f d).before a0 Z = true ∧ own = O ∧ nm = "<init>")) (wi : (Jvm.Cond.instantiable Cl kk).before a0 Z = true) (hty : parseFieldDescriptor d = some ty) (hn : narrow ty v = v') (hf : fits ty v' = true) (hset : fs.set j (O, f, d, v') = fs') (q : Pw W a)
    (g : ∀ h', Ob Z h' a Cl fs' → Keep h h' [a] → Go W Q h' k n pc' L S) : Go W Q h k n pc L (v :: .ref a :: S) := fun T hT => by
  obtain ⟨locs, X, e, N⟩ := hT
  subst hp hset
  obtain ⟨T', h', X', e', Wx, st⟩ := putFN X C.x C.z C.o w via e (F.get hj) F.1 (Lw.imp id fun z => ⟨z.1, z.2.1, C.nme.trans z.2.2⟩) wi hty hn hf (g := mkF W.m pc L (v :: .ref a :: S)) rfl rfl (C.b hd)
  refine Out.st st (g h' (F.put hj Wx) (Keep.of_wr Wx) T' ⟨_, X', e', fun y hy => ?_⟩)
  rcases List.mem_append.mp hy with z | z
  · exact N y z
  · cases List.mem_singleton.mp z; exact q
theorem g_new (C : Cx W Z R own code mx ret nm wsx hx0) {i nn : Nat} {Cl : String} (hd : decode code pc = .ok (.new i, 3)) (hp : pc + 3 = pc') (w : (Jvm.Cond.classLink own i Cl).before a0 Z = true) (wi : (Jvm.Cond.instantiable Cl nn).before a0 Z = true) (wz : (Jvm.Cond.initialized Cl).before a0 Z = true) {k' n' : Nat} (hk : k + 1 = k') (hn : n + nn = n') (hc : k' ≤ R.cells) (hs : n' ≤ R.slots)
    (g : ∀ (h' : Heap) (a : Addr), a = h.size → Ext h h' → Exa Z h' a Cl → (∀ {O f d : String} {ty : FieldType}, Laid Z a0 Cl O f d → parseFieldDescriptor d = some ty → Fld Z h' a O f d (defaultValue ty)) → Pw W a → Go W Q h' k' n' pc' L (.ref a :: S)) : Go W Q h k n pc L S := fun T hT => by
  obtain ⟨locs, X, e, N⟩ := hT
  subst hp hk hn
  obtain ⟨T', h', X', e', E, A, D, -, st⟩ := newO X C.x C.z C.o w wi wz e (g := mkF W.m pc L S) rfl (C.b hd) (by rw [C.r]; exact hc) (by rw [C.r]; exact hs)
  exact Out.st st (g h' h.size rfl E A D (pw_size C X e) T' ⟨locs, X', e', N⟩)
theorem def_list (ty : FieldType) (cA : ClassId) {z : Int32} {len : Nat} (hz : z.toInt = len) : (newA cA ty z).slots.toList = List.replicate len (defaultValue ty) := by
  show (Array.replicate z.toNatClampNeg (defaultValue ty)).toList = _
  rw [clamp_of hz, Array.toList_replicate]
theorem g_newarray (C : Cx W Z R own code mx ret nm wsx hx0) {aty : ArrayType} {ty : FieldType} {z : Int32} {len cap : Nat} (hd : decode code pc = .ok (.newarray aty, 2)) (hp : pc + 2 = pc') (hty : newarray.typeOf aty = ty) (w : (Jvm.Cond.arrayClass ty).before a0 Z = true) (hz : z.toInt = len) (hcap : len ≤ cap) (hb8 : cap * 8 ≤ 536870912) {k' n' : Nat} (hk : k + 1 = k') (hn : n + cap = n') (hc : k' ≤ R.cells) (hs : n' ≤ R.slots)
    (g : ∀ (h' : Heap) (a : Addr), a = h.size → Ext h h' → Ar Z h' a ty (List.replicate len (defaultValue ty)) → Pw W a → Go W Q h' k' n' pc' L (.ref a :: S)) : Go W Q h k n pc L (.int z :: S) := fun T hT => by
  obtain ⟨locs, X, e, N⟩ := hT
  subst hp hty hk hn
  obtain ⟨T', h', cA, X', e', E, A, st⟩ := newP X C.x C.z w e (g := mkF W.m pc L (.int z :: S)) rfl (C.b hd) rfl (nneg_of hz) (cap := cap) (by rw [clamp_of hz]; exact hcap) hb8 (by rw [C.r]; exact hc) (by rw [C.r]; exact hs)
  exact Out.st st (g h' h.size rfl E ⟨_, A, def_list _ _ hz⟩ (pw_size C X e) T' ⟨locs, X', e', N⟩)
theorem g_anewarray (C : Cx W Z R own code mx ret nm wsx hx0) {i : Nat} {Cl : String} {z : Int32} {len cap : Nat} (hd : decode code pc = .ok (.anewarray i, 3)) (hp : pc + 3 = pc') (w : (Jvm.Cond.classLink own i Cl).before a0 Z = true) (w2 : (Jvm.Cond.arrayOver (.object Cl)).before a0 Z = true) (hz : z.toInt = len) (hcap : len ≤ cap) (hb8 : cap * 8 ≤ 536870912) {k' n' : Nat} (hk : k + 1 = k') (hn : n + cap = n') (hc : k' ≤ R.cells) (hs : n' ≤ R.slots)
    (g : ∀ (h' : Heap) (a : Addr), a = h.size → Ext h h' → ArR Z h' a Cl (List.replicate len .null) → Pw W a → Go W Q h' k' n' pc' L (.ref a :: S)) : Go W Q h k n pc L (.int z :: S) := fun T hT => by
  obtain ⟨locs, X, e, N⟩ := hT
  subst hp hk hn
  obtain ⟨T', h', cA, X', e', E, A, O, st⟩ := newR X C.x C.z C.o w w2 e (g := mkF W.m pc L (.int z :: S)) rfl (C.b hd) rfl (nneg_of hz) (cap := cap) (by rw [clamp_of hz]; exact hcap) hb8 (by rw [C.r]; exact hc) (by rw [C.r]; exact hs)
  exact Out.st st (g h' h.size rfl E ⟨_, A, def_list _ _ hz, O⟩ (pw_size C X e) T' ⟨locs, X', e', N⟩)
theorem g_arraylength (C : Cx W Z R own code mx ret nm wsx hx0) {a : Addr} {ty : FieldType} {vs : List Value} {z : Int32} (hd : decode code pc = .ok (.arraylength, 1)) (hp : pc + 1 = pc') (A : Ar Z h a ty vs) (hz : vs.length.toInt32 = z) (g : Go W Q h k n pc' L (.int z :: S)) : Go W Q h k n pc L (.ref a :: S) := by
  subst hp hz
  obtain ⟨c, A, e⟩ := A
  rw [← e, Array.length_toList] at g
  exact g.st fun T locs X eT t kk => X.arraylength C.x (by rw [eT]; exact A.1) (State.isArrayOf_alike C.z.alike A.2.1) (g := mkF W.m pc L (.ref a :: S)) rfl rfl (C.b hd) t kk
theorem g_arraylengthR (C : Cx W Z R own code mx ret nm wsx hx0) {a : Addr} {Cl : String} {vs : List Value} {z : Int32} (hd : decode code pc = .ok (.arraylength, 1)) (hp : pc + 1 = pc') (A : ArR Z h a Cl vs) (hz : vs.length.toInt32 = z) (g : Go W Q h k n pc' L (.int z :: S)) : Go W Q h k n pc L (.ref a :: S) := by
  obtain ⟨c, A, e, -⟩ := A
  exact g_arraylength C hd hp ⟨c, A, e⟩ hz g

theorem g_iaload (C : Cx W Z R own code mx ret nm wsx hx0) {a : Addr} {vs : List Value} {v : Value} {j : Int32} {i : Nat} (hd : decode code pc = .ok (.iaload, 1)) (hp : pc + 1 = pc') (A : Ar Z h a .int vs) (hj : j.toInt = i) (hv : vs[i]? = some v) (g : Go W Q h k n pc' L (v :: S)) : Go W Q h k n pc L (.int j :: .ref a :: S) := by
  subst hp
  obtain ⟨c, A, e⟩ := A
  subst e
  have hi := (List.getElem?_eq_some_iff.mp hv).1
  exact g.st fun T locs X eT t kk => X.iaload C.x (by rw [eT]; exact A.1) (State.isArrayOf_alike C.z.alike A.2.1) A.2.2 (in_of hj hi) (by rw [clamp_of hj, ← Array.getElem?_toList]; exact hv) (g := mkF W.m pc L (.int j :: .ref a :: S)) rfl rfl (C.b hd) t kk
theorem g_laload (C : Cx W Z R own code mx ret nm wsx hx0) {a : Addr} {vs : List Value} {v : Value} {j : Int32} {i : Nat} (hd : decode code pc = .ok (.laload, 1)) (hp : pc + 1 = pc') (A : Ar Z h a .long vs) (hj : j.toInt = i) (hv : vs[i]? = some v) (g : Go W Q h k n pc' L (v :: S)) : Go W Q h k n pc L (.int j :: .ref a :: S) := by
  subst hp
  obtain ⟨c, A, e⟩ := A
  subst e
  have hi := (List.getElem?_eq_some_iff.mp hv).1
  exact g.st fun T locs X eT t kk => X.laload C.x (by rw [eT]; exact A.1) (State.isArrayOf_alike C.z.alike A.2.1) A.2.2 (in_of hj hi) (by rw [clamp_of hj, ← Array.getElem?_toList]; exact hv) (g := mkF W.m pc L (.int j :: .ref a :: S)) rfl rfl (C.b hd) t kk
theorem g_caload (C : Cx W Z R own code mx ret nm wsx hx0) {a : Addr} {vs : List Value} {v : Value} {j : Int32} {i : Nat} (hd : decode code pc = .ok (.caload, 1)) (hp : pc + 1 = pc') (A : Ar Z h a .char vs) (hj : j.toInt = i) (hv : vs[i]? = some v) (g : Go W Q h k n pc' L (v :: S)) : Go W Q h k n pc L (.int j :: .ref a :: S) := by
  subst hp
  obtain ⟨c, A, e⟩ := A
  subst e
  have hi := (List.getElem?_eq_some_iff.mp hv).1
  exact g.st fun T locs X eT t kk => X.caload C.x (by rw [eT]; exact A.1) (State.isArrayOf_alike C.z.alike A.2.1) A.2.2 (in_of hj hi) (by rw [clamp_of hj, ← Array.getElem?_toList]; exact hv) (g := mkF W.m pc L (.int j :: .ref a :: S)) rfl rfl (C.b hd) t kk
theorem g_baload (C : Cx W Z R own code mx ret nm wsx hx0) {a : Addr} {vs : List Value} {v : Value} {j : Int32} {i : Nat} (hd : decode code pc = .ok (.baload, 1)) (hp : pc + 1 = pc') (A : Ar Z h a .byte vs) (hj : j.toInt = i) (hv : vs[i]? = some v) (g : Go W Q h k n pc' L (v :: S)) : Go W Q h k n pc L (.int j :: .ref a :: S) := by
  subst hp
  obtain ⟨c, A, e⟩ := A
  subst e
  have hi := (List.getElem?_eq_some_iff.mp hv).1
  exact g.st fun T locs X eT t kk => X.baloadBytes C.x (by rw [eT]; exact A.1) (State.isArrayOf_alike C.z.alike A.2.1) A.2.2 (in_of hj hi) (by rw [clamp_of hj, ← Array.getElem?_toList]; exact hv) (g := mkF W.m pc L (.int j :: .ref a :: S)) rfl rfl (C.b hd) t kk
theorem g_zaload (C : Cx W Z R own code mx ret nm wsx hx0) {a : Addr} {vs : List Value} {v : Value} {j : Int32} {i : Nat} (hd : decode code pc = .ok (.baload, 1)) (hp : pc + 1 = pc') (A : Ar Z h a .boolean vs) (hj : j.toInt = i) (hv : vs[i]? = some v) (g : Go W Q h k n pc' L (v :: S)) : Go W Q h k n pc L (.int j :: .ref a :: S) := by
  subst hp
  obtain ⟨c, A, e⟩ := A
  subst e
  have hi := (List.getElem?_eq_some_iff.mp hv).1
  exact g.st fun T locs X eT t kk => X.baloadBooleans C.x (by rw [eT]; exact A.1) (State.isArrayOf_alike C.z.alike A.2.1) A.2.2 (in_of hj hi) (by rw [clamp_of hj, ← Array.getElem?_toList]; exact hv) (g := mkF W.m pc L (.int j :: .ref a :: S)) rfl rfl (C.b hd) t kk
theorem g_aaload (C : Cx W Z R own code mx ret nm wsx hx0) {a : Addr} {Cl : String} {vs : List Value} {v : Value} {j : Int32} {i : Nat} (hd : decode code pc = .ok (.aaload, 1)) (hp : pc + 1 = pc') (A : ArR Z h a Cl vs) (hj : j.toInt = i) (hv : vs[i]? = some v) (g : Go W Q h k n pc' L (v :: S)) : Go W Q h k n pc L (.int j :: .ref a :: S) := by
  subst hp
  obtain ⟨c, A, e, -⟩ := A
  subst e
  have hi := (List.getElem?_eq_some_iff.mp hv).1
  exact g.st fun T locs X eT t kk => X.aaload C.x (by rw [eT]; exact A.1) (State.isArrayOf_alike C.z.alike A.2.1) rfl A.2.2 (in_of hj hi) (by rw [clamp_of hj, ← Array.getElem?_toList]; exact hv) (g := mkF W.m pc L (.int j :: .ref a :: S)) rfl rfl (C.b hd) t kk
theorem g_iastore (C : Cx W Z R own code mx ret nm wsx hx0) {a : Addr} {vs vs' : List Value} {x : Int32} {j : Int32} {i : Nat} (hd : decode code pc = .ok (.iastore, 1)) (hp : pc + 1 = pc') (A : Ar Z h a .int vs) (hj : j.toInt = i) (hi : i < vs.length) (hset : vs.set i (.int x) = vs') (q : Pw W a) (g : ∀ h', Ar Z h' a .int vs' → Keep h h' [a] → Go W Q h' k n pc' L S) : Go W Q h k n pc L (.int x :: .int j :: .ref a :: S) := fun T hT => by
  obtain ⟨locs, X, e, N⟩ := hT
  subst hp hset
  obtain ⟨c, A, ec⟩ := A
  obtain ⟨T', h', X', e', Wx, st⟩ := stI X C.x C.z e A (in_of hj (ec ▸ hi)) (g := mkF W.m pc L (.int x :: .int j :: .ref a :: S)) rfl rfl (C.b hd)
  refine Out.st st (g h' (Ar.put A ec hj Wx) (Keep.of_wr Wx) T' ⟨_, X', e', fun y hy => ?_⟩)
  rcases List.mem_append.mp hy with z | z
  · exact N y z
  · cases List.mem_singleton.mp z; exact q
theorem g_lastore (C : Cx W Z R own code mx ret nm wsx hx0) {a : Addr} {vs vs' : List Value} {x : Int64} {j : Int32} {i : Nat} (hd : decode code pc = .ok (.lastore, 1)) (hp : pc + 1 = pc') (A : Ar Z h a .long vs) (hj : j.toInt = i) (hi : i < vs.length) (hset : vs.set i (.long x) = vs') (q : Pw W a) (g : ∀ h', Ar Z h' a .long vs' → Keep h h' [a] → Go W Q h' k n pc' L S) : Go W Q h k n pc L (.long x :: .int j :: .ref a :: S) := fun T hT => by
  obtain ⟨locs, X, e, N⟩ := hT
  subst hp hset
  obtain ⟨c, A, ec⟩ := A
  obtain ⟨T', h', X', e', Wx, st⟩ := stJ X C.x C.z e A (in_of hj (ec ▸ hi)) (g := mkF W.m pc L (.long x :: .int j :: .ref a :: S)) rfl rfl (C.b hd)
  refine Out.st st (g h' (Ar.put A ec hj Wx) (Keep.of_wr Wx) T' ⟨_, X', e', fun y hy => ?_⟩)
  rcases List.mem_append.mp hy with z | z
  · exact N y z
  · cases List.mem_singleton.mp z; exact q
theorem g_castore (C : Cx W Z R own code mx ret nm wsx hx0) {a : Addr} {vs vs' : List Value} {x : Int32} {j : Int32} {i : Nat} (hd : decode code pc = .ok (.castore, 1)) (hp : pc + 1 = pc') (A : Ar Z h a .char vs) (hj : j.toInt = i) (hi : i < vs.length) (hset : vs.set i (.int (nar .char x)) = vs') (q : Pw W a) (g : ∀ h', Ar Z h' a .char vs' → Keep h h' [a] → Go W Q h' k n pc' L S) : Go W Q h k n pc L (.int x :: .int j :: .ref a :: S) := fun T hT => by
  obtain ⟨locs, X, e, N⟩ := hT
  subst hp hset
  obtain ⟨c, A, ec⟩ := A
  obtain ⟨T', h', X', e', Wx, st⟩ := stC X C.x C.z e A (in_of hj (ec ▸ hi)) (g := mkF W.m pc L (.int x :: .int j :: .ref a :: S)) rfl rfl (C.b hd)
  refine Out.st st (g h' (Ar.put A ec hj Wx) (Keep.of_wr Wx) T' ⟨_, X', e', fun y hy => ?_⟩)
  rcases List.mem_append.mp hy with z | z
  · exact N y z
  · cases List.mem_singleton.mp z; exact q
theorem g_bastore (C : Cx W Z R own code mx ret nm wsx hx0) {a : Addr} {vs vs' : List Value} {x : Int32} {j : Int32} {i : Nat} (hd : decode code pc = .ok (.bastore, 1)) (hp : pc + 1 = pc') (A : Ar Z h a .byte vs) (hj : j.toInt = i) (hi : i < vs.length) (hset : vs.set i (.int (nar .byte x)) = vs') (q : Pw W a) (g : ∀ h', Ar Z h' a .byte vs' → Keep h h' [a] → Go W Q h' k n pc' L S) : Go W Q h k n pc L (.int x :: .int j :: .ref a :: S) := fun T hT => by
  obtain ⟨locs, X, e, N⟩ := hT
  subst hp hset
  obtain ⟨c, A, ec⟩ := A
  obtain ⟨T', h', X', e', Wx, st⟩ := stB X C.x C.z e A (in_of hj (ec ▸ hi)) (g := mkF W.m pc L (.int x :: .int j :: .ref a :: S)) rfl rfl (C.b hd)
  refine Out.st st (g h' (Ar.put A ec hj Wx) (Keep.of_wr Wx) T' ⟨_, X', e', fun y hy => ?_⟩)
  rcases List.mem_append.mp hy with z | z
  · exact N y z
  · cases List.mem_singleton.mp z; exact q
theorem g_zastore (C : Cx W Z R own code mx ret nm wsx hx0) {a : Addr} {vs vs' : List Value} {x : Int32} {j : Int32} {i : Nat} (hd : decode code pc = .ok (.bastore, 1)) (hp : pc + 1 = pc') (A : Ar Z h a .boolean vs) (hj : j.toInt = i) (hi : i < vs.length) (hset : vs.set i (.int (nar .boolean x)) = vs') (q : Pw W a) (g : ∀ h', Ar Z h' a .boolean vs' → Keep h h' [a] → Go W Q h' k n pc' L S) : Go W Q h k n pc L (.int x :: .int j :: .ref a :: S) := fun T hT => by
  obtain ⟨locs, X, e, N⟩ := hT
  subst hp hset
  obtain ⟨c, A, ec⟩ := A
  obtain ⟨T', h', X', e', Wx, st⟩ := stZ X C.x C.z e A (in_of hj (ec ▸ hi)) (g := mkF W.m pc L (.int x :: .int j :: .ref a :: S)) rfl rfl (C.b hd)
  refine Out.st st (g h' (Ar.put A ec hj Wx) (Keep.of_wr Wx) T' ⟨_, X', e', fun y hy => ?_⟩)
  rcases List.mem_append.mp hy with z | z
  · exact N y z
  · cases List.mem_singleton.mp z; exact q
theorem ArR.put {Z : State} {h h' : Heap} {a : Addr} {Cl : String} {vs : List Value} {v : Value} {c : Cell} (A : Arr Z h a c (.object Cl)) (e : c.slots.toList = vs) (O : Ovr Z c.cls Cl) {j : Int32} {i : Nat} (hj : j.toInt = i) (W : Wr h h' a j.toNatClampNeg v) : ArR Z h' a Cl (vs.set i v) := by
  refine ⟨_, A.same W, ?_, O⟩
  rw [clamp_of hj, set_toList, e]
theorem g_aastore (C : Cx W Z R own code mx ret nm wsx hx0) {a : Addr} {Cl : String} {vs vs' : List Value} {v : Value} {j : Int32} {i : Nat} (hd : decode code pc = .ok (.aastore, 1)) (hp : pc + 1 = pc') (A : ArR Z h a Cl vs) (hj : j.toInt = i) (hi : i < vs.length) (hset : vs.set i v = vs') (hv : v = .null ∨ ∃ y, v = .ref y ∧ Exa Z h y Cl) (q : Pw W a) (g : ∀ h', ArR Z h' a Cl vs' → Keep h h' [a] → Go W Q h' k n pc' L S) : Go W Q h k n pc L (v :: .int j :: .ref a :: S) := fun T hT => by
  obtain ⟨locs, X, e, N⟩ := hT
  subst hp hset
  obtain ⟨c, A, ec, O⟩ := A
  have F : Sto Z h a v := by
    rcases hv with rfl | ⟨y, rfl, E⟩
    · exact Or.inl rfl
    · exact Sto.of A O (Ins.self E)
  obtain ⟨T', h', X', e', Wx, st⟩ := stR X C.x C.z e A (in_of hj (ec ▸ hi)) rfl F (g := mkF W.m pc L (v :: .int j :: .ref a :: S)) rfl rfl (C.b hd)
  refine Out.st st (g h' (ArR.put A ec O hj Wx) (Keep.of_wr Wx) T' ⟨_, X', e', fun y hy => ?_⟩)
  rcases List.mem_append.mp hy with z | z
  · exact N y z
  · cases List.mem_singleton.mp z; exact q
/-! returns -/
theorem g_end (C : Cx W Z R own code mx ret nm wsx hx0) {v : Option Value} (hv : ret = none → v = none) (hc : k ≤ R.cells) (hs : n ≤ R.slots) (q : Q v h)
    (st : ∀ T locs, Sta0 W T locs k n → ∀ fs, (∀ (f : JFrame) (acts : List Action), f.method = W.m → f.locked = none → f.entered = [] → (doReturn W.e (T.setTop f) acts v).1 = T.setFrames fs) → Stp W (T.setTop (mkF W.m pc L S)) (T.setFrames fs)) : Go W Q h k n pc L S := fun T hT => by
  obtain ⟨locs, X, e, N⟩ := hT
  obtain ⟨fs, hr, hrun, hended, hW, hsame⟩ := X.leave (v := v) (fun z => hv (C.rt ▸ z)) C.lk
  refine ⟨_, _, st T locs X fs hr, hrun, hended, v, locs, rfl, ⟨?_, N⟩, ⟨_, rfl⟩, hW, hsame.mono (by rw [C.r]; exact hc) (by rw [C.r]; exact hs)⟩
  show Q v T.heap
  rw [e]; exact q
theorem g_return (C : Cx W Z R own code mx none nm wsx hx0) (hd : decode code pc = .ok (.return_, 1)) (hc : k ≤ R.cells) (hs : n ≤ R.slots) (q : Q none h) : Go W Q h k n pc L [] :=
  g_end C (fun _ => rfl) hc hs q fun T locs X fs hr => X.returnOut C.x C.rt (C.b hd) hr
theorem g_retN {ty0 : FieldType} (C : Cx W Z R own code mx (some ty0) nm wsx hx0) {z : Int32} (ht : ty0 = .boolean ∨ ty0 = .byte ∨ ty0 = .char ∨ ty0 = .short) (hd : decode code pc = .ok (.ireturn, 1)) (hc : k ≤ R.cells) (hs : n ≤ R.slots) (q : Q (some (.int (nar ty0 z))) h) : Go W Q h k n pc L (.int z :: S) :=
  g_end C nofun hc hs q fun T locs X fs hr => retN X C.x C.rt ht (C.b hd) hr
theorem g_retI (C : Cx W Z R own code mx (some .int) nm wsx hx0) {z : Int32} (hd : decode code pc = .ok (.ireturn, 1)) (hc : k ≤ R.cells) (hs : n ≤ R.slots) (q : Q (some (.int z)) h) : Go W Q h k n pc L (.int z :: S) :=
  g_end C nofun hc hs q fun T locs X fs hr => retOut X C.x C.rt rfl (Or.inl ⟨rfl, Or.inl rfl, z, rfl⟩) (C.b hd) hr
theorem g_retL (C : Cx W Z R own code mx (some .long) nm wsx hx0) {z : Int64} (hd : decode code pc = .ok (.lreturn, 1)) (hc : k ≤ R.cells) (hs : n ≤ R.slots) (q : Q (some (.long z)) h) : Go W Q h k n pc L (.long z :: S) :=
  g_end C nofun hc hs q fun T locs X fs hr => retOut X C.x C.rt rfl (Or.inr (Or.inl ⟨rfl, rfl, z, rfl⟩)) (C.b hd) hr
theorem g_retA {ty0 : FieldType} (C : Cx W Z R own code mx (some ty0) nm wsx hx0) {v : Value} (ht : ty0.isReference = true) (hn : narrow ty0 v = v) (hv : v.isRef = true) (hd : decode code pc = .ok (.areturn, 1)) (hc : k ≤ R.cells) (hs : n ≤ R.slots) (q : Q (some v) h) : Go W Q h k n pc L (v :: S) :=
  g_end C nofun hc hs q fun T locs X fs hr => retOut X C.x C.rt hn (Or.inr (Or.inr (Or.inr (Or.inr ⟨rfl, ht, hv⟩)))) (C.b hd) hr
/-! calls -/
theorem g_initO (C : Cx W Z R own code mx ret nm wsx hx0) {i : Nat} {a : Addr} (hd : decode code pc = .ok (.invokespecial i, 3)) (hp : pc + 3 = pc') (w1 : (Jvm.Cond.methodLink own i Lib.objectInit).before a0 Z = true) (w2 : (Jvm.Cond.instanceMethod Lib.objectInit).before a0 Z = true) (w3 : (Jvm.Cond.code Lib.objectInit Jvm.Pilot.@@N@@.object_method_1_code 1 none).before a0 Z = true) (hL : L.size = mx) (hf : 1 ≤ R.frames) (hl : (S.map fun v => v.category).sum + 12 ≤ R.locals) (g : Go W Q h k n pc' L S) : Go W Q h k n pc L (.ref a :: S) := fun T hT => by
  obtain ⟨locs, X, e, N⟩ := hT
  subst hp
  obtain ⟨T', X', e', st⟩ := initO X C.x C.z C.o w1 w2 w3 e (g := mkF W.m pc L (.ref a :: S)) rfl (by rw [C.ml]; exact hL) rfl (C.b hd) (by rw [C.r]; exact hf) (W := (S.map fun v => v.category).sum) (by show 2 * 0 + _ ≤ _; omega) (by rw [C.r]; exact hl)
  exact Out.st st (g T' ⟨locs, X', e', N⟩)
theorem post_call {T T' : State} {locs L' : List Loc} {k' n' : Nat} {ws : List Addr} (X : Sta0 W T locs k n) (e : T.heap = h) (N : ∀ y ∈ locs, Pw W y.base) (hws : ∀ a ∈ ws, Pw W a) (hL : ∀ y ∈ L', y.base ∈ ws ∨ h.size ≤ y.base) : ∀ y ∈ locs ++ L', Pw W y.base := fun y hy => by
  rcases List.mem_append.mp hy with z | z
  · exact N y z
  · rcases hL y z with q | q
    · exact hws _ q
    · have r : W.s.heap.size ≤ T.heap.size := X.same.2.1
      rw [e] at r
      exact Or.inr (Nat.le_trans r q)
/-- the contract, with what it keeps -/
theorem Con.keeps {l : Launch} {w0 : List Jvm.Cond} {y : MethodName} {bytes : ByteArray} {ret' : Option FieldType} {rm : Room} {as : Array Value} {ws : List Addr} {Q' : Option Value → Heap → Prop} {mx' : Nat} (M : Con l Z w0 y bytes mx' ret' rm as h ws Q') :
    MetFree l y (head1 (Jvm.Cond.code y bytes mx' ret' :: w0) rm) (fun a U => a = as ∧ Z.Warmed39 U.vm ∧ U.heap = h) (fun _ _ _ _ _ => True)
      (fun _ U o U' => ∃ v L, o = .returned v ∧ (Q' v U'.heap ∧ (∀ y ∈ L, y.base ∈ ws ∨ h.size ≤ y.base) ∧ Keep h U'.heap ws) ∧ FrameEnd U o U' L rm.cells rm.slots) := by
  intro p e ha hc hk s m args below hf happ hP hK
  obtain ⟨nn, o, h1, h2, h3, v, L, rfl, ⟨hq, hL⟩, hF⟩ := M p e ha hc hk s m args below hf happ hP hK
  refine ⟨nn, _, h1, h2, h3, v, L, rfl, ⟨hq, hL, ?_⟩, hF⟩
  obtain ⟨rfl, -, rfl⟩ := hP
  have K := keep_of_same hF.2.2 hL
  exact K
theorem g_static (C : Cx W Z R own code mx ret nm wsx hx0) {i : Nat} {y : MethodName} {bytes : ByteArray} {mx' : Nat} {ret' : Option FieldType} {rm : Room} {as : List Value} {ws : List Addr} {Q' : Option Value → Heap → Prop} {S0 : List Value} (hd : decode code pc = .ok (.invokestatic i, 3)) (hp : pc + 3 = pc')
    (w1 : (Jvm.Cond.methodLink own i y).before a0 Z = true) (w2 : (Jvm.Cond.static y).before a0 Z = true) (w3 : (Jvm.Cond.initialized y.cls).before a0 Z = true) (w4 : (Jvm.Cond.code y bytes mx' ret').before a0 Z = true) (hy : y.cls ≠ "java/lang/invoke/MethodHandle" ∧ y.cls ≠ "java/lang/invoke/VarHandle")
    (hlen : ∀ sig, parseMethodDescriptor y.desc = some sig → as.length = sig.parameters.length) (M : Con W.l Z [] y bytes mx' ret' rm as.toArray h ws Q') (hS : S0 = as.reverse ++ S) (hL : L.size = mx) (hf : rm.frames + 1 ≤ R.frames) (hl : (S.map fun v => v.category).sum + (mx' + 11) + rm.locals ≤ R.locals) {k' n' : Nat} (hk : k + rm.cells = k') (hn : n + rm.slots = n') (hc : k' ≤ R.cells) (hs : n' ≤ R.slots) (hws : ∀ a ∈ ws, Pw W a)
    (g : ∀ v h', Q' v h' → Keep h h' ws → Go W Q h' k' n' pc' L (v.toList ++ S)) : Go W Q h k n pc L S0 := fun T hT => by
  obtain ⟨locs, X, e, N⟩ := hT
  subst hp hS hk hn
  obtain ⟨v, _, ⟨T', L1, k1, n1⟩, -, X', ⟨L2, ⟨hQ, hL2, hK⟩, l1, y1, z1⟩, st⟩ := Jvm.LawKit.callS X C.x (y := y) C.o (mvT C.z w1) (mvT C.z w2) (mvT C.z w3) (mvT C.z w4) hy (backOf (R := W.R) (W := (S.map fun v => v.category).sum) (Q := fun v h' L => Q' v h' ∧ (∀ y ∈ L, y.base ∈ ws ∨ h.size ≤ y.base) ∧ Keep h h' ws) M.keeps C.z w4 w3 (by rw [C.r]; exact hf) (by rw [C.r]; exact hl)) (g := mkF W.m pc L (as.reverse ++ S)) rfl (by rw [C.ml]; exact hL) (argsL := as) (rest := S) hlen rfl (by show 2 * 0 + _ ≤ _; omega) (C.b hd) (fun _ _ => ⟨rfl, e, by rw [C.r]; exact hc, by rw [C.r]; exact hs⟩)
  dsimp only [Pt.U, Pt.locs, Pt.cells, Pt.slots] at X' l1 y1 z1 st hQ hK
  subst l1 y1 z1
  exact Out.st st (g v T'.heap hQ hK T' ⟨_, X', rfl, post_call (T' := T') (k' := 0) (n' := 0) X e N hws hL2⟩)
theorem g_special (C : Cx W Z R own code mx ret nm wsx hx0) {i : Nat} {y : MethodName} {bytes : ByteArray} {mx' : Nat} {rm : Room} {as : List Value} {ws : List Addr} {Q' : Option Value → Heap → Prop} {S0 : List Value} {a : Addr} (hd : decode code pc = .ok (.invokespecial i, 3)) (hp : pc + 3 = pc') (hy1 : y.name = "<init>")
    (w1 : (Jvm.Cond.methodLink own i y).before a0 Z = true) (w2 : (Jvm.Cond.instanceMethod y).before a0 Z = true) (w3 : (Jvm.Cond.initialized y.cls).before a0 Z = true) (w4 : (Jvm.Cond.code y bytes mx' none).before a0 Z = true) (hy : y.cls ≠ "java/lang/invoke/MethodHandle" ∧ y.cls ≠ "java/lang/invoke/VarHandle")
    (hlen : ∀ sig, parseMethodDescriptor y.desc = some sig → as.length = sig.parameters.length) (M : Con W.l Z [] y bytes mx' none rm (.ref a :: as).toArray h ws Q') (hS : S0 = as.reverse ++ .ref a :: S) (hL : L.size = mx) (hf : rm.frames + 1 ≤ R.frames) (hl : (S.map fun v => v.category).sum + (mx' + 11) + rm.locals ≤ R.locals) {k' n' : Nat} (hk : k + rm.cells = k') (hn : n + rm.slots = n') (hc : k' ≤ R.cells) (hs : n' ≤ R.slots) (hws : ∀ a ∈ ws, Pw W a)
    (g : ∀ v h', Q' v h' → Keep h h' ws → Go W Q h' k' n' pc' L (v.toList ++ S)) : Go W Q h k n pc L S0 := fun T hT => by
  obtain ⟨locs, X, e, N⟩ := hT
  subst hp hS hk hn
  obtain ⟨v, _, ⟨T', L1, k1, n1⟩, -, X', ⟨L2, ⟨hQ, hL2, hK⟩, l1, y1, z1⟩, st⟩ := X.specialBack C.x (y := y) hy1 C.o (mvT C.z w1) (mvT C.z w2) (mvT C.z w4) hy (backOf (R := W.R) (W := (S.map fun v => v.category).sum) (Q := fun v h' L => Q' v h' ∧ (∀ y ∈ L, y.base ∈ ws ∨ h.size ≤ y.base) ∧ Keep h h' ws) M.keeps C.z w4 w3 (by rw [C.r]; exact hf) (by rw [C.r]; exact hl)) (g := mkF W.m pc L (as.reverse ++ .ref a :: S)) rfl (by rw [C.ml]; exact hL) (Steps.refl _) (a := a) (argsL := as) (rest := S) hlen rfl (by show 2 * 0 + _ ≤ _; omega) (C.b hd) (fun _ _ => ⟨rfl, e, by rw [C.r]; exact hc, by rw [C.r]; exact hs⟩)
  dsimp only [Pt.U, Pt.locs, Pt.cells, Pt.slots] at X' l1 y1 z1 st hQ hK
  subst l1 y1 z1
  exact Out.st (fun t z => st.trans z) (g v T'.heap hQ hK T' ⟨_, X', rfl, post_call (T' := T') (k' := 0) (n' := 0) X e N hws hL2⟩)
theorem g_virtual (C : Cx W Z R own code mx ret nm wsx hx0) {i : Nat} {y : MethodName} {bytes : ByteArray} {mx' : Nat} {ret' : Option FieldType} {rm : Room} {as : List Value} {ws : List Addr} {Q' : Option Value → Heap → Prop} {S0 : List Value} {a : Addr} {Cl : String} (hd : decode code pc = .ok (.invokevirtual i, 3)) (hp : pc + 3 = pc')
    (w1 : (Jvm.Cond.methodLink own i y).before a0 Z = true) (w2 : (Jvm.Cond.instanceMethod y).before a0 Z = true) (w3 : (Jvm.Cond.initialized y.cls).before a0 Z = true) (w4 : (Jvm.Cond.code y bytes mx' ret').before a0 Z = true) (w5 : (Jvm.Cond.declares y).before a0 Z = true) (w6 : (Jvm.Cond.selects Cl y y).before a0 Z = true) (hy : y.cls ≠ "java/lang/invoke/MethodHandle" ∧ y.cls ≠ "java/lang/invoke/VarHandle") (hE : Exa Z h a Cl)
    (hlen : ∀ sig, parseMethodDescriptor y.desc = some sig → as.length = sig.parameters.length) (M : Con W.l Z [] y bytes mx' ret' rm (.ref a :: as).toArray h ws Q') (hS : S0 = as.reverse ++ .ref a :: S) (hL : L.size = mx) (hf : rm.frames + 1 ≤ R.frames) (hl : (S.map fun v => v.category).sum + (mx' + 11) + rm.locals ≤ R.locals) {k' n' : Nat} (hk : k + rm.cells = k') (hn : n + rm.slots = n') (hc : k' ≤ R.cells) (hs : n' ≤ R.slots) (hws : ∀ a ∈ ws, Pw W a)
    (g : ∀ v h', Q' v h' → Keep h h' ws → Go W Q h' k' n' pc' L (v.toList ++ S)) : Go W Q h k n pc L S0 := fun T hT => by
  obtain ⟨locs, X, e, N⟩ := hT
  subst hp hS hk hn
  obtain ⟨cq, kq, qa, qb, qc⟩ := isOf C.z e hE
  obtain ⟨v, _, ⟨T', L1, k1, n1⟩, -, X', ⟨L2, ⟨hQ, hL2, hK⟩, l1, y1, z1⟩, st⟩ := X.virtualBack C.x (y := y) (z := y) C.o (mvT C.z w1) (mvT C.z w5) (notFace_of_selects (args := #[]) (mvT C.z w6)) (mvT C.z w6) (mvT C.z w2) hy (backOf (R := W.R) (W := (S.map fun v => v.category).sum) (Q := fun v h' L => Q' v h' ∧ (∀ y ∈ L, y.base ∈ ws ∨ h.size ≤ y.base) ∧ Keep h h' ws) M.keeps C.z w4 w3 (by rw [C.r]; exact hf) (by rw [C.r]; exact hl)) qa qc (g := mkF W.m pc L (as.reverse ++ .ref a :: S)) rfl (by rw [C.ml]; exact hL) (Steps.refl _) (argsL := as) (rest := S) hlen rfl (by show 2 * 0 + _ ≤ _; omega) (C.b hd) (fun _ _ => ⟨rfl, e, by rw [C.r]; exact hc, by rw [C.r]; exact hs⟩)
  dsimp only [Pt.U, Pt.locs, Pt.cells, Pt.slots] at X' l1 y1 z1 st hQ hK
  subst l1 y1 z1
  exact Out.st (fun t z => st.trans z) (g v T'.heap hQ hK T' ⟨_, X', rfl, post_call (T' := T') (k' := 0) (n' := 0) X e N hws hL2⟩)
theorem g_staticP (C : Cx W Z R own code mx ret nm wsx hx0) {i : Nat} {y : MethodName} {bytes : ByteArray} {mx' : Nat} {ret' : Option FieldType} {rm : Room} {as : List Value} {r : Option Value} {S0 S1 : List Value} (hd : decode code pc = .ok (.invokestatic i, 3)) (hp : pc + 3 = pc')
    (w1 : (Jvm.Cond.methodLink own i y).before a0 Z = true) (w2 : (Jvm.Cond.static y).before a0 Z = true) (w3 : (Jvm.Cond.initialized y.cls).before a0 Z = true) (w4 : (Jvm.Cond.code y bytes mx' ret').before a0 Z = true) (hy : y.cls ≠ "java/lang/invoke/MethodHandle" ∧ y.cls ≠ "java/lang/invoke/VarHandle")
    (hlen : ∀ sig, parseMethodDescriptor y.desc = some sig → as.length = sig.parameters.length) (M : Con W.l Z [] y bytes mx' ret' rm as.toArray h [] (fun v h' => v = r ∧ h' = h)) (hS : S0 = as.reverse ++ S) (hL : L.size = mx) (hf : rm.frames + 1 ≤ R.frames) (hl : (S.map fun v => v.category).sum + (mx' + 11) + rm.locals ≤ R.locals) {k' n' : Nat} (hk : k + rm.cells = k') (hn : n + rm.slots = n') (hc : k' ≤ R.cells) (hs : n' ≤ R.slots) (hS1 : r.toList ++ S = S1)
    (g : Go W Q h k' n' pc' L S1) : Go W Q h k n pc L S0 :=
  g_static C hd hp w1 w2 w3 w4 hy hlen M hS hL hf hl hk hn hc hs all0 fun v h' q K => by
    obtain ⟨rfl, rfl⟩ := q
    rw [hS1]; exact g
theorem g_virtualP (C : Cx W Z R own code mx ret nm wsx hx0) {i : Nat} {y : MethodName} {bytes : ByteArray} {mx' : Nat} {ret' : Option FieldType} {rm : Room} {as : List Value} {r : Option Value} {S0 S1 : List Value} {a : Addr} {Cl : String} (hd : decode code pc = .ok (.invokevirtual i, 3)) (hp : pc + 3 = pc')
    (w1 : (Jvm.Cond.methodLink own i y).before a0 Z = true) (w2 : (Jvm.Cond.instanceMethod y).before a0 Z = true) (w3 : (Jvm.Cond.initialized y.cls).before a0 Z = true) (w4 : (Jvm.Cond.code y bytes mx' ret').before a0 Z = true) (w5 : (Jvm.Cond.declares y).before a0 Z = true) (w6 : (Jvm.Cond.selects Cl y y).before a0 Z = true) (hy : y.cls ≠ "java/lang/invoke/MethodHandle" ∧ y.cls ≠ "java/lang/invoke/VarHandle") (hE : Exa Z h a Cl)
    (hlen : ∀ sig, parseMethodDescriptor y.desc = some sig → as.length = sig.parameters.length) (M : Con W.l Z [] y bytes mx' ret' rm (.ref a :: as).toArray h [] (fun v h' => v = r ∧ h' = h)) (hS : S0 = as.reverse ++ .ref a :: S) (hL : L.size = mx) (hf : rm.frames + 1 ≤ R.frames) (hl : (S.map fun v => v.category).sum + (mx' + 11) + rm.locals ≤ R.locals) {k' n' : Nat} (hk : k + rm.cells = k') (hn : n + rm.slots = n') (hc : k' ≤ R.cells) (hs : n' ≤ R.slots) (hS1 : r.toList ++ S = S1)
    (g : Go W Q h k' n' pc' L S1) : Go W Q h k n pc L S0 :=
  g_virtual C hd hp w1 w2 w3 w4 w5 w6 hy hE hlen M hS hL hf hl hk hn hc hs all0 fun v h' q K => by
    obtain ⟨rfl, rfl⟩ := q
    rw [hS1]; exact g
theorem g_nameI {x : Int32} (g : ∀ z : Int32, z = x → Go W Q h k n pc L (.int z :: S)) : Go W Q h k n pc L (.int x :: S) := g x rfl
theorem g_nameJ {x : Int64} (g : ∀ z : Int64, z = x → Go W Q h k n pc L (.long z :: S)) : Go W Q h k n pc L (.long x :: S) := g x rfl
/-! a body's contract out of its walk -/
theorem locals_of {as : List Value} {mx0 : Nat} {Ls : List Slot} (h : (as.flatMap fun v => if v.category = 2 then [.val v, .second] else [.val v]) ++ List.replicate (mx0 - (as.flatMap fun v => if v.category = 2 then [.val v, .second] else [Slot.val v]).length) .unset = Ls) : argsToLocals as.toArray mx0 = Ls.toArray := by
  have e : ∀ (l : List Value) (acc : Array Slot), (l.foldl (fun acc v => if v.category = 2 then (acc.push (.val v)).push .second else acc.push (.val v)) acc) = acc ++ (l.flatMap fun v => if v.category = 2 then [.val v, .second] else [Slot.val v]).toArray := by
    intro l
    induction l with
    | nil => intro acc; simp
    | cons v l ih =>
      intro acc
      rw [List.foldl_cons, ih, List.flatMap_cons]
      split <;> simp
  subst h
  simp only [argsToLocals, List.foldl_toArray', e]
  simp
theorem Con.of_go {l : Launch} {w0 : List Jvm.Cond} {y : MethodName} {bytes : ByteArray} {ret' : Option FieldType} {rm : Room} {as : Array Value} {ws : List Addr} {Q' : Option Value → Heap → Prop} {mx' : Nat} {L0 : Array Slot} (hpl : plainFor y = true) (hL : argsToLocals as mx' = L0)
    (body : ∀ (W : Wk) (Q : Option Value → Heap → Prop), Q = Q' → W.l = l → Cx W Z rm y.cls bytes mx' ret' y.name ws h → Go W Q h 0 0 0 L0 []) : Con l Z w0 y bytes mx' ret' rm as h ws Q' := by
  refine MetFree.of_bodySF hpl hisR ?_
  intro p e s m args below meth c s₁ Bd hml0 hP hK
  obtain ⟨rfl, hZ, rfl⟩ := hP
  subst hL
  have X0 : Stand p l e rm s m args below meth c s₁ [] 0 0 := Stand.of_body Bd
  have e0 : s₁.heap = s.heap := by rw [Bd.state]; rfl
  obtain ⟨s2, o, h1, h2, h3, v, L, h4, ⟨h5, h6⟩, h7⟩ := body (p, l, e, rm, s, m, args, below, meth, c, ws) _ rfl rfl ⟨Bd.exec, hZ, findClass_of_methodNamed Bd.named, Bd.bytes, hml0, Bd.returns, Bd.notSynchronized, (name_of_methodNamed Bd.named Bd.method).1, rfl, rfl, rfl⟩ s₁ ⟨[], X0, e0, fun _ q => nomatch q⟩
  exact ⟨s2, o, h1, h2, h3, v, L, h4, ⟨h5, h6⟩, h7⟩
end Steps0
end Jvm.OwnKit
namespace Jvm.Pilot.@@N@@
open Jvm Jvm.ClassFile Sem Op Lib Jvm.Free Jvm.Stand Jvm.LawKit Jvm.RoadKit Jvm.OwnKit Bundle Jvm.Pilot.@@N@@.Jvm.D
theorem pd_0 : parseMethodDescriptor "(I)C" = some ⟨[.int], some .char⟩ := by decide +kernel
theorem pd_1 : parseMethodDescriptor "()V" = some ⟨[], none⟩ := by decide +kernel
theorem pd_2 : parseMethodDescriptor "(II)C" = some ⟨[.int, .int], some .char⟩ := by decide +kernel
theorem pd_3 : parseMethodDescriptor "(C)V" = some ⟨[.char], none⟩ := by decide +kernel
theorem pd_4 : parseMethodDescriptor "()I" = some ⟨[], some .int⟩ := by decide +kernel
theorem pd_5 : parseMethodDescriptor "()Z" = some ⟨[], some .boolean⟩ := by decide +kernel
theorem pd_6 : parseMethodDescriptor "(C)Z" = some ⟨[.char], some .boolean⟩ := by decide +kernel
theorem d1_0 : decode method_2_code 0 = .ok (.iload_n 0, 1) := by decide +kernel
theorem d1_1 : decode method_2_code 1 = .ok (.iconst 1, 1) := by decide +kernel
theorem d1_2 : decode method_2_code 2 = .ok (.iand, 1) := by decide +kernel
theorem d1_3 : decode method_2_code 3 = .ok (.ifCond .ne 14, 3) := by decide +kernel
theorem d1_6 : decode method_2_code 6 = .ok (.bipush 48, 2) := by decide +kernel
theorem d1_8 : decode method_2_code 8 = .ok (.iload_n 0, 1) := by decide +kernel
theorem d1_9 : decode method_2_code 9 = .ok (.iconst 1, 1) := by decide +kernel
theorem d1_10 : decode method_2_code 10 = .ok (.iushr, 1) := by decide +kernel
theorem d1_11 : decode method_2_code 11 = .ok (.bipush 10, 2) := by decide +kernel
theorem d1_13 : decode method_2_code 13 = .ok (.irem, 1) := by decide +kernel
theorem d1_14 : decode method_2_code 14 = .ok (.iadd, 1) := by decide +kernel
theorem d1_15 : decode method_2_code 15 = .ok (.i2c, 1) := by decide +kernel
theorem d1_16 : decode method_2_code 16 = .ok (.ireturn, 1) := by decide +kernel
theorem d1_17 : decode method_2_code 17 = .ok (.iload_n 0, 1) := by decide +kernel
theorem d1_18 : decode method_2_code 18 = .ok (.iconst 1, 1) := by decide +kernel
theorem d1_19 : decode method_2_code 19 = .ok (.iushr, 1) := by decide +kernel
theorem d1_20 : decode method_2_code 20 = .ok (.ldc 7, 2) := by decide +kernel
theorem d1_22 : decode method_2_code 22 = .ok (.iand, 1) := by decide +kernel
theorem d1_23 : decode method_2_code 23 = .ok (.i2c, 1) := by decide +kernel
theorem d1_24 : decode method_2_code 24 = .ok (.ireturn, 1) := by decide +kernel
theorem d2_0 : decode prog_49_method_1_code 0 = .ok (.aload_n 0, 1) := by decide +kernel
theorem d2_1 : decode prog_49_method_1_code 1 = .ok (.invokespecial 1, 3) := by decide +kernel
theorem d2_4 : decode prog_49_method_1_code 4 = .ok (.aload_n 0, 1) := by decide +kernel
theorem d2_5 : decode prog_49_method_1_code 5 = .ok (.iconst 1, 1) := by decide +kernel
theorem d2_6 : decode prog_49_method_1_code 6 = .ok (.putfield 7, 3) := by decide +kernel
theorem d2_9 : decode prog_49_method_1_code 9 = .ok (.return_, 1) := by decide +kernel
theorem d4_0 : decode method_3_code 0 = .ok (.bipush 48, 2) := by decide +kernel
theorem d4_2 : decode method_3_code 2 = .ok (.iload_n 0, 1) := by decide +kernel
theorem d4_3 : decode method_3_code 3 = .ok (.iload_n 1, 1) := by decide +kernel
theorem d4_4 : decode method_3_code 4 = .ok (.idiv, 1) := by decide +kernel
theorem d4_5 : decode method_3_code 5 = .ok (.bipush 10, 2) := by decide +kernel
theorem d4_7 : decode method_3_code 7 = .ok (.irem, 1) := by decide +kernel
theorem d4_8 : decode method_3_code 8 = .ok (.iadd, 1) := by decide +kernel
theorem d4_9 : decode method_3_code 9 = .ok (.i2c, 1) := by decide +kernel
theorem d4_10 : decode method_3_code 10 = .ok (.ireturn, 1) := by decide +kernel
theorem d5_0 : decode prog_49_method_3_code 0 = .ok (.iload_n 1, 1) := by decide +kernel
theorem d5_1 : decode prog_49_method_3_code 1 = .ok (.bipush 48, 2) := by decide +kernel
theorem d5_3 : decode prog_49_method_3_code 3 = .ok (.if_icmp .lt 9, 3) := by decide +kernel
theorem d5_6 : decode prog_49_method_3_code 6 = .ok (.iload_n 1, 1) := by decide +kernel
theorem d5_7 : decode prog_49_method_3_code 7 = .ok (.bipush 57, 2) := by decide +kernel
theorem d5_9 : decode prog_49_method_3_code 9 = .ok (.if_icmp .le 11, 3) := by decide +kernel
theorem d5_12 : decode prog_49_method_3_code 12 = .ok (.aload_n 0, 1) := by decide +kernel
theorem d5_13 : decode prog_49_method_3_code 13 = .ok (.iconst 1, 1) := by decide +kernel
theorem d5_14 : decode prog_49_method_3_code 14 = .ok (.putfield 31, 3) := by decide +kernel
theorem d5_17 : decode prog_49_method_3_code 17 = .ok (.goto 48, 3) := by decide +kernel
theorem d5_20 : decode prog_49_method_3_code 20 = .ok (.aload_n 0, 1) := by decide +kernel
theorem d5_21 : decode prog_49_method_3_code 21 = .ok (.getfield 31, 3) := by decide +kernel
theorem d5_24 : decode prog_49_method_3_code 24 = .ok (.ifCond .ne 41, 3) := by decide +kernel
theorem d5_27 : decode prog_49_method_3_code 27 = .ok (.aload_n 0, 1) := by decide +kernel
theorem d5_28 : decode prog_49_method_3_code 28 = .ok (.aload_n 0, 1) := by decide +kernel
theorem d5_29 : decode prog_49_method_3_code 29 = .ok (.getfield 34, 3) := by decide +kernel
theorem d5_32 : decode prog_49_method_3_code 32 = .ok (.ldc2_w 37, 3) := by decide +kernel
theorem d5_35 : decode prog_49_method_3_code 35 = .ok (.lmul, 1) := by decide +kernel
theorem d5_36 : decode prog_49_method_3_code 36 = .ok (.iload_n 1, 1) := by decide +kernel
theorem d5_37 : decode prog_49_method_3_code 37 = .ok (.bipush 48, 2) := by decide +kernel
theorem d5_39 : decode prog_49_method_3_code 39 = .ok (.isub, 1) := by decide +kernel
theorem d5_40 : decode prog_49_method_3_code 40 = .ok (.i2l, 1) := by decide +kernel
theorem d5_41 : decode prog_49_method_3_code 41 = .ok (.ladd, 1) := by decide +kernel
theorem d5_42 : decode prog_49_method_3_code 42 = .ok (.putfield 34, 3) := by decide +kernel
theorem d5_45 : decode prog_49_method_3_code 45 = .ok (.aload_n 0, 1) := by decide +kernel
theorem d5_46 : decode prog_49_method_3_code 46 = .ok (.aload_n 0, 1) := by decide +kernel
theorem d5_47 : decode prog_49_method_3_code 47 = .ok (.getfield 34, 3) := by decide +kernel
theorem d5_50 : decode prog_49_method_3_code 50 = .ok (.ldc2_w 41, 3) := by decide +kernel
theorem d5_53 : decode prog_49_method_3_code 53 = .ok (.lcmp, 1) := by decide +kernel
theorem d5_54 : decode prog_49_method_3_code 54 = .ok (.ifCond .le 7, 3) := by decide +kernel
theorem d5_57 : decode prog_49_method_3_code 57 = .ok (.iconst 1, 1) := by decide +kernel
theorem d5_58 : decode prog_49_method_3_code 58 = .ok (.goto 4, 3) := by decide +kernel
theorem d5_61 : decode prog_49_method_3_code 61 = .ok (.iconst 0, 1) := by decide +kernel
theorem d5_62 : decode prog_49_method_3_code 62 = .ok (.putfield 31, 3) := by decide +kernel
theorem d5_65 : decode prog_49_method_3_code 65 = .ok (.aload_n 0, 1) := by decide +kernel
theorem d5_66 : decode prog_49_method_3_code 66 = .ok (.iconst 0, 1) := by decide +kernel
theorem d5_67 : decode prog_49_method_3_code 67 = .ok (.putfield 7, 3) := by decide +kernel
theorem d5_70 : decode prog_49_method_3_code 70 = .ok (.return_, 1) := by decide +kernel
theorem d6_0 : decode prog_49_method_4_code 0 = .ok (.aload_n 0, 1) := by decide +kernel
theorem d6_1 : decode prog_49_method_4_code 1 = .ok (.getfield 7, 3) := by decide +kernel
theorem d6_4 : decode prog_49_method_4_code 4 = .ok (.ifCond .ne 10, 3) := by decide +kernel
theorem d6_7 : decode prog_49_method_4_code 7 = .ok (.aload_n 0, 1) := by decide +kernel
theorem d6_8 : decode prog_49_method_4_code 8 = .ok (.getfield 31, 3) := by decide +kernel
theorem d6_11 : decode prog_49_method_4_code 11 = .ok (.ifCond .eq 7, 3) := by decide +kernel
theorem d6_14 : decode prog_49_method_4_code 14 = .ok (.iconst (-1), 1) := by decide +kernel
theorem d6_15 : decode prog_49_method_4_code 15 = .ok (.goto 8, 3) := by decide +kernel
theorem d6_18 : decode prog_49_method_4_code 18 = .ok (.aload_n 0, 1) := by decide +kernel
theorem d6_19 : decode prog_49_method_4_code 19 = .ok (.getfield 34, 3) := by decide +kernel
theorem d6_22 : decode prog_49_method_4_code 22 = .ok (.l2i, 1) := by decide +kernel
theorem d6_23 : decode prog_49_method_4_code 23 = .ok (.ireturn, 1) := by decide +kernel
theorem d7_0 : decode prog_49_method_5_code 0 = .ok (.aload_n 0, 1) := by decide +kernel
theorem d7_1 : decode prog_49_method_5_code 1 = .ok (.getfield 7, 3) := by decide +kernel
theorem d7_4 : decode prog_49_method_5_code 4 = .ok (.ireturn, 1) := by decide +kernel
theorem d8_0 : decode method_4_code 0 = .ok (.iload_n 0, 1) := by decide +kernel
theorem d8_1 : decode method_4_code 1 = .ok (.bipush 48, 2) := by decide +kernel
theorem d8_3 : decode method_4_code 3 = .ok (.if_icmp .lt 13, 3) := by decide +kernel
theorem d8_6 : decode method_4_code 6 = .ok (.iload_n 0, 1) := by decide +kernel
theorem d8_7 : decode method_4_code 7 = .ok (.bipush 57, 2) := by decide +kernel
theorem d8_9 : decode method_4_code 9 = .ok (.if_icmp .gt 7, 3) := by decide +kernel
theorem d8_12 : decode method_4_code 12 = .ok (.iconst 1, 1) := by decide +kernel
theorem d8_13 : decode method_4_code 13 = .ok (.goto 4, 3) := by decide +kernel
theorem d8_16 : decode method_4_code 16 = .ok (.iconst 0, 1) := by decide +kernel
theorem d8_17 : decode method_4_code 17 = .ok (.ireturn, 1) := by decide +kernel
set_option maxHeartbeats 4000000 in
theorem dis_0 (Z : State) (a0 : Array Value) (hw : ∀ d ∈ tables_1, d.before a0 Z = true) : ([RoadKit.slotOf Z "com/example/rankfold/rankfold/UnsignedDecimal" "empty" "Z", RoadKit.slotOf Z "com/example/rankfold/rankfold/UnsignedDecimal" "invalid" "Z", RoadKit.slotOf Z "com/example/rankfold/rankfold/UnsignedDecimal" "value" "J"] : List Nat).Nodup := by
  simp only [List.nodup_cons, List.mem_cons, List.not_mem_nil, or_false, not_or, not_false_eq_true, List.nodup_nil, and_true]
  exact ⟨⟨RoadKit.slot_ne (Or.inl (hw _ (List.mem_of_getElem? (i := 17) rfl))) (Or.inl (hw _ (List.mem_of_getElem? (i := 28) rfl))) (by decide) (t := .boolean) (t' := .boolean) (by decide) (by decide), RoadKit.slot_ne (Or.inl (hw _ (List.mem_of_getElem? (i := 17) rfl))) (Or.inl (hw _ (List.mem_of_getElem? (i := 30) rfl))) (by decide) (t := .boolean) (t' := .long) (by decide) (by decide)⟩, RoadKit.slot_ne (Or.inl (hw _ (List.mem_of_getElem? (i := 28) rfl))) (Or.inl (hw _ (List.mem_of_getElem? (i := 30) rfl))) (by decide) (t := .boolean) (t' := .long) (by decide) (by decide)⟩
def stpI (t c : Int) : Int := if t < 0 then t else if 48 ≤ c ∧ c ≤ 57 then t * 10 + (c - 48) else -1
theorem stpI_le {t c B : Int} (h : t ≤ B) (h0 : 0 ≤ B) : stpI t c ≤ 10 * B + 9 := by unfold stpI; split <;> (try split) <;> omega
def UDS (Z : State) (h : Heap) (a : Addr) (t : Int) (E : Prop) [Decidable E] : Prop := ∃ val : Int64, Ob Z h a "com/example/rankfold/rankfold/UnsignedDecimal" [("com/example/rankfold/rankfold/UnsignedDecimal", "empty", "Z", (.int (b2i E))), ("com/example/rankfold/rankfold/UnsignedDecimal", "invalid", "Z", (.int (b2i (t < 0 ∨ 2147483647 < t)))), ("com/example/rankfold/rankfold/UnsignedDecimal", "value", "J", (.long val))] ∧ (0 ≤ t → t ≤ 2147483647 → val.toInt = t)
theorem UDS.keep {Z : State} {h h' : Heap} {a : Addr} {t : Int} {E : Prop} [Decidable E] {ws : List Addr} (U : UDS Z h a t E) (K : Keep h h' ws) (q : a ∉ ws) : UDS Z h' a t E := by obtain ⟨v, O, r⟩ := U; exact ⟨v, O.keep K q, r⟩
theorem UDS.ext {Z : State} {h h' : Heap} {a : Addr} {t : Int} {E : Prop} [Decidable E] (U : UDS Z h a t E) (K : Ext h h') : UDS Z h' a t E := by obtain ⟨v, O, r⟩ := U; exact ⟨v, O.ext K, r⟩
theorem UDS.lt {Z : State} {h : Heap} {a : Addr} {t : Int} {E : Prop} [Decidable E] (U : UDS Z h a t E) : a < h.size := by obtain ⟨v, O, r⟩ := U; exact O.lt
theorem UDS.exa {Z : State} {h : Heap} {a : Addr} {t : Int} {E : Prop} [Decidable E] (U : UDS Z h a t E) : Exa Z h a "com/example/rankfold/rankfold/UnsignedDecimal" := by obtain ⟨v, O, r⟩ := U; exact O.1
theorem UDS.cong {Z : State} {h : Heap} {a : Addr} {t t' : Int} {E E' : Prop} [Decidable E] [Decidable E'] (U : UDS Z h a t E) (et : t = t') (he : E ↔ E') : UDS Z h a t' E' := by
  subst et
  obtain ⟨v, O, r⟩ := U
  rw [b2i_iff he] at O
  exact ⟨v, O, r⟩
set_option maxRecDepth 65536 in
set_option maxHeartbeats 2000000 in
theorem con_init (l : Launch) (Z : State) (a0 : Array Value) (hw : ∀ d ∈ tables_1, d.before a0 Z = true) (a : Addr) (h : Heap) (O : Ob Z h a "com/example/rankfold/rankfold/UnsignedDecimal" [("com/example/rankfold/rankfold/UnsignedDecimal", "empty", "Z", (.int (0 : Int32))), ("com/example/rankfold/rankfold/UnsignedDecimal", "invalid", "Z", (.int (0 : Int32))), ("com/example/rankfold/rankfold/UnsignedDecimal", "value", "J", (.long (0 : Int64)))]) :
    Con l Z [] (⟨"com/example/rankfold/rankfold/UnsignedDecimal", "<init>", "()V"⟩ : MethodName) prog_49_method_1_code 1 none ({ frames := 1, cells := 0, slots := 0, locals := 12 } : Room) #[(.ref a)] h [a] (fun v h' => v = none ∧ UDS Z h' a 0 True) := by
  refine Con.of_go (L0 := #[.val (.ref a)]) (plainFor_of_name (by first | (simp [plainName, overriddenIn]; done) | decide +kernel)) (locals_of rfl) fun W Q hQ hl C => ?_
  subst hl
  refine g_aloadN (pc' := 1) C d2_0 rfl rfl rfl ?_
  refine g_initO (pc' := 4) C d2_1 rfl (hw _ (List.mem_of_getElem? (i := 13) rfl)) (hw _ (List.mem_of_getElem? (i := 14) rfl)) (hw _ (List.mem_of_getElem? (i := 15) rfl)) rfl (by decide) (Nat.le_of_ble_eq_true rfl) ?_
  refine g_aloadN (pc' := 5) C d2_4 rfl rfl rfl ?_
  refine g_iconst (pc' := 6) (z := (1 : Int32)) C d2_5 rfl rfl ?_
  refine g_putO (pc' := 9) (j := 0) (ty := .boolean) (v' := (.int (1 : Int32))) (fs' := [("com/example/rankfold/rankfold/UnsignedDecimal", "empty", "Z", (.int (1 : Int32))), ("com/example/rankfold/rankfold/UnsignedDecimal", "invalid", "Z", (.int (0 : Int32))), ("com/example/rankfold/rankfold/UnsignedDecimal", "value", "J", (.long (0 : Int64)))]) C d2_6 rfl (hw _ (List.mem_of_getElem? (i := 16) rfl)) Via.refl O rfl (Or.inl (hw _ (List.mem_of_getElem? (i := 17) rfl))) (hw _ (List.mem_of_getElem? (i := 8) rfl)) (by decide) rfl rfl rfl (C.old (List.mem_cons_self ..)) fun h1 O Kh1 => ?_
  refine g_return C d2_9 (by decide) (by decide) ?_
  subst hQ
  exact ⟨rfl, _, O, fun _ _ => rfl⟩
set_option maxRecDepth 65536 in
set_option maxHeartbeats 2000000 in
theorem con_append (l : Launch) (Z : State) (a0 : Array Value) (hw : ∀ d ∈ tables_1, d.before a0 Z = true) (a : Addr) (t : Int) (E : Prop) [Decidable E] (c : Int32) (h : Heap) (U : UDS Z h a t E) :
    Con l Z [] (⟨"com/example/rankfold/rankfold/UnsignedDecimal", "append", "(C)V"⟩ : MethodName) prog_49_method_3_code 2 none ({ frames := 0, cells := 0, slots := 0, locals := 0 } : Room) #[(.ref a), (.int c)] h [a] (fun v h' => v = none ∧ UDS Z h' a (stpI t c.toInt) False) := by
  obtain ⟨val, O, hv⟩ := U
  refine Con.of_go (L0 := #[.val (.ref a), .val (.int c)]) (plainFor_of_name (by first | (simp [plainName, overriddenIn]; done) | decide +kernel)) (locals_of rfl) fun W Q hQ hl C => ?_
  subst hl
  refine g_iloadN (pc' := 1) C d5_0 rfl rfl ?_
  refine g_bipush (pc' := 3) (z := (48 : Int32)) C d5_1 rfl rfl ?_
  refine g_icmp (xi := c.toInt) (yi := (48)) (pc1 := 12) (pc2 := 6) C d5_3 (by decide) rfl rfl rfl rfl (fun (c3 : c.toInt < (48)) => ?_) (fun (c3 : ¬ (c.toInt < (48))) => ?_)
  ·
    refine g_aloadN (pc' := 13) C d5_12 rfl rfl rfl ?_
    refine g_iconst (pc' := 14) (z := (1 : Int32)) C d5_13 rfl rfl ?_
    refine g_putO (pc' := 17) (j := 1) (ty := .boolean) (v' := (.int (1 : Int32))) (fs' := [("com/example/rankfold/rankfold/UnsignedDecimal", "empty", "Z", (.int (b2i E))), ("com/example/rankfold/rankfold/UnsignedDecimal", "invalid", "Z", (.int (1 : Int32))), ("com/example/rankfold/rankfold/UnsignedDecimal", "value", "J", (.long val))]) C d5_14 rfl (hw _ (List.mem_of_getElem? (i := 27) rfl)) Via.refl O rfl (Or.inl (hw _ (List.mem_of_getElem? (i := 28) rfl))) (hw _ (List.mem_of_getElem? (i := 8) rfl)) (by decide) rfl rfl rfl (C.old (List.mem_cons_self ..)) fun h1 O Kh1 => ?_
    refine g_goto C d5_17 (by decide) (pc' := 65) rfl ?_
    refine g_aloadN (pc' := 66) C d5_65 rfl rfl rfl ?_
    refine g_iconst (pc' := 67) (z := (0 : Int32)) C d5_66 rfl rfl ?_
    refine g_putO (pc' := 70) (j := 0) (ty := .boolean) (v' := (.int (0 : Int32))) (fs' := [("com/example/rankfold/rankfold/UnsignedDecimal", "empty", "Z", (.int (0 : Int32))), ("com/example/rankfold/rankfold/UnsignedDecimal", "invalid", "Z", (.int (1 : Int32))), ("com/example/rankfold/rankfold/UnsignedDecimal", "value", "J", (.long val))]) C d5_67 rfl (hw _ (List.mem_of_getElem? (i := 16) rfl)) Via.refl O rfl (Or.inl (hw _ (List.mem_of_getElem? (i := 17) rfl))) (hw _ (List.mem_of_getElem? (i := 8) rfl)) (by decide) rfl rfl rfl (C.old (List.mem_cons_self ..)) fun h2 O Kh2 => ?_
    refine g_return C d5_70 (by decide) (by decide) ?_
    subst hQ
    refine ⟨rfl, val, ?_, ?_⟩
    · rw [b2i_pos (by unfold stpI; split <;> (try split) <;> omega : (stpI t c.toInt < 0 ∨ 2147483647 < stpI t c.toInt))]
      exact O
    · unfold stpI; intro y1 y2; split at y1 <;> (try split at y1) <;> omega
  ·
    refine g_iloadN (pc' := 7) C d5_6 rfl rfl ?_
    refine g_bipush (pc' := 9) (z := (57 : Int32)) C d5_7 rfl rfl ?_
    refine g_icmp (xi := c.toInt) (yi := (57)) (pc1 := 20) (pc2 := 12) C d5_9 (by decide) rfl rfl rfl rfl (fun (c9 : c.toInt ≤ (57)) => ?_) (fun (c9 : ¬ (c.toInt ≤ (57))) => ?_)
    ·
      refine g_aloadN (pc' := 21) C d5_20 rfl rfl rfl ?_
      refine g_getO (pc' := 24) (j := 1) C d5_21 rfl (hw _ (List.mem_of_getElem? (i := 27) rfl)) O rfl ?_
      refine g_ifneb (pc1 := 65) (pc2 := 27) C d5_24 (by decide) rfl rfl rfl (fun (c24 : (t < 0 ∨ 2147483647 < t)) => ?_) (fun (c24 : ¬ ((t < 0 ∨ 2147483647 < t))) => ?_)
      ·
        refine g_aloadN (pc' := 66) C d5_65 rfl rfl rfl ?_
        refine g_iconst (pc' := 67) (z := (0 : Int32)) C d5_66 rfl rfl ?_
        refine g_putO (pc' := 70) (j := 0) (ty := .boolean) (v' := (.int (0 : Int32))) (fs' := [("com/example/rankfold/rankfold/UnsignedDecimal", "empty", "Z", (.int (0 : Int32))), ("com/example/rankfold/rankfold/UnsignedDecimal", "invalid", "Z", (.int (b2i (t < 0 ∨ 2147483647 < t)))), ("com/example/rankfold/rankfold/UnsignedDecimal", "value", "J", (.long val))]) C d5_67 rfl (hw _ (List.mem_of_getElem? (i := 16) rfl)) Via.refl O rfl (Or.inl (hw _ (List.mem_of_getElem? (i := 17) rfl))) (hw _ (List.mem_of_getElem? (i := 8) rfl)) (by decide) rfl rfl rfl (C.old (List.mem_cons_self ..)) fun h3 O Kh3 => ?_
        refine g_return C d5_70 (by decide) (by decide) ?_
        subst hQ
        refine ⟨rfl, val, ?_, ?_⟩
        · rw [← b2i_iff (by unfold stpI; constructor <;> intro y <;> (try split) <;> (try split) <;> (try split at y) <;> (try split at y) <;> omega : (t < 0 ∨ 2147483647 < t) ↔ (stpI t c.toInt < 0 ∨ 2147483647 < stpI t c.toInt))]
          exact O
        · unfold stpI; intro y1 y2; split at y1 <;> (try split at y1) <;> (try split at y2) <;> (try split at y2) <;> omega
      ·
        refine g_aloadN (pc' := 28) C d5_27 rfl rfl rfl ?_
        refine g_aloadN (pc' := 29) C d5_28 rfl rfl rfl ?_
        refine g_getO (pc' := 32) (j := 2) C d5_29 rfl (hw _ (List.mem_of_getElem? (i := 29) rfl)) O rfl ?_
        refine g_ldc2L (pc' := 35) C d5_32 rfl (hw _ (List.mem_of_getElem? (i := 31) rfl)) ?_
        refine g_lmul (pc' := 36) C d5_35 rfl ?_
        refine g_iloadN (pc' := 37) C d5_36 rfl rfl ?_
        refine g_bipush (pc' := 39) (z := (48 : Int32)) C d5_37 rfl rfl ?_
        refine g_isub (pc' := 40) C d5_39 rfl ?_
        refine g_i2l (pc' := 41) C d5_40 rfl ?_
        refine g_ladd (pc' := 42) C d5_41 rfl ?_
        refine g_nameJ fun j1 e_j1 => ?_
        refine g_putO (pc' := 45) (j := 2) (ty := .long) (v' := (.long j1)) (fs' := [("com/example/rankfold/rankfold/UnsignedDecimal", "empty", "Z", (.int (b2i E))), ("com/example/rankfold/rankfold/UnsignedDecimal", "invalid", "Z", (.int (b2i (t < 0 ∨ 2147483647 < t)))), ("com/example/rankfold/rankfold/UnsignedDecimal", "value", "J", (.long j1))]) C d5_42 rfl (hw _ (List.mem_of_getElem? (i := 29) rfl)) Via.refl O rfl (Or.inl (hw _ (List.mem_of_getElem? (i := 30) rfl))) (hw _ (List.mem_of_getElem? (i := 8) rfl)) (by decide) rfl rfl rfl (C.old (List.mem_cons_self ..)) fun h4 O Kh4 => ?_
        refine g_aloadN (pc' := 46) C d5_45 rfl rfl rfl ?_
        refine g_aloadN (pc' := 47) C d5_46 rfl rfl rfl ?_
        refine g_getO (pc' := 50) (j := 2) C d5_47 rfl (hw _ (List.mem_of_getElem? (i := 29) rfl)) O rfl ?_
        refine g_ldc2L (pc' := 53) C d5_50 rfl (hw _ (List.mem_of_getElem? (i := 32) rfl)) ?_
        suffices K_53 : ∀ z2 : Int32, z2 = b2i (¬ (j1.toInt ≤ (2147483647))) → Go W Q h4 0 0 62 #[.val (.ref a), .val (.int c)] [(.int z2), (.ref a)] by
          refine g_lcmp (cd := .le) (xi := j1.toInt) (yi := (2147483647)) (pc' := 54) (pc1 := 61) (pc2 := 57) C d5_53 d5_54 rfl (by decide) rfl rfl rfl rfl (fun (c53 : j1.toInt ≤ (2147483647)) => ?_) (fun (c53 : ¬ (j1.toInt ≤ (2147483647))) => ?_)
          ·
            refine g_iconst (pc' := 62) (z := (0 : Int32)) C d5_61 rfl rfl ?_
            exact K_53 (0 : Int32) ((rfl : (0 : Int32) = b2i False).trans (b2i_iff (iff_false_intro (fun y => y c53)).symm))
          ·
            refine g_iconst (pc' := 58) (z := (1 : Int32)) C d5_57 rfl rfl ?_
            refine g_goto C d5_58 (by decide) (pc' := 62) rfl ?_
            exact K_53 (1 : Int32) ((rfl : (1 : Int32) = b2i True).trans (b2i_iff (iff_true_intro c53).symm))
        intro z2 e_z2
        refine g_putO (pc' := 65) (j := 1) (ty := .boolean) (v' := (.int z2)) (fs' := [("com/example/rankfold/rankfold/UnsignedDecimal", "empty", "Z", (.int (b2i E))), ("com/example/rankfold/rankfold/UnsignedDecimal", "invalid", "Z", (.int z2)), ("com/example/rankfold/rankfold/UnsignedDecimal", "value", "J", (.long j1))]) C d5_62 rfl (hw _ (List.mem_of_getElem? (i := 27) rfl)) Via.refl O rfl (Or.inl (hw _ (List.mem_of_getElem? (i := 28) rfl))) (hw _ (List.mem_of_getElem? (i := 8) rfl)) (by decide) (by rw [e_z2]; exact congrArg Value.int (nar_b2i _)) (by rw [e_z2]; exact fits_b2i _) rfl (C.old (List.mem_cons_self ..)) fun h5 O Kh5 => ?_
        refine g_aloadN (pc' := 66) C d5_65 rfl rfl rfl ?_
        refine g_iconst (pc' := 67) (z := (0 : Int32)) C d5_66 rfl rfl ?_
        refine g_putO (pc' := 70) (j := 0) (ty := .boolean) (v' := (.int (0 : Int32))) (fs' := [("com/example/rankfold/rankfold/UnsignedDecimal", "empty", "Z", (.int (0 : Int32))), ("com/example/rankfold/rankfold/UnsignedDecimal", "invalid", "Z", (.int z2)), ("com/example/rankfold/rankfold/UnsignedDecimal", "value", "J", (.long j1))]) C d5_67 rfl (hw _ (List.mem_of_getElem? (i := 16) rfl)) Via.refl O rfl (Or.inl (hw _ (List.mem_of_getElem? (i := 17) rfl))) (hw _ (List.mem_of_getElem? (i := 8) rfl)) (by decide) rfl rfl rfl (C.old (List.mem_cons_self ..)) fun h6 O Kh6 => ?_
        refine g_return C d5_70 (by decide) (by decide) ?_
        subst hQ
        have x1 := c_isub c 48
        have x2 : (48 : Int32).toInt = 48 := rfl
        have x3 := rng32 (c - 48)
        rw [x2] at x1
        have x4 := c_i2l (c - 48)
        have x5 := c_lmul val 10
        have x6 : (10 : Int64).toInt = 10 := rfl
        have x7 := rng64 (val * 10)
        rw [x6] at x5
        have x8 := c_ladd (val * 10) (c - 48).toInt64
        have x9 := rng64 (val * 10 + (c - 48).toInt64)
        have x0 := hv (by omega) (by omega)
        rw [← e_j1] at x8 x9
        have xb : (c - 48).toInt = c.toInt - 48 := by omega
        have xc : (val * 10).toInt = val.toInt * 10 := by omega
        have xd : j1.toInt = val.toInt * 10 + (c.toInt - 48) := by omega
        clear x1 x3 x4 x5 x7 x8 x9
        have xa : stpI t c.toInt = j1.toInt := by unfold stpI; rw [if_neg (by omega), if_pos (by omega)]; omega
        refine ⟨rfl, j1, ?_, ?_⟩
        · rw [xa]; rw [← b2i_iff (by omega : (¬ (j1.toInt ≤ (2147483647))) ↔ (j1.toInt < 0 ∨ 2147483647 < j1.toInt)), ← e_z2]
          exact O
        · intro _ _; exact xa.symm
    ·
      refine g_aloadN (pc' := 13) C d5_12 rfl rfl rfl ?_
      refine g_iconst (pc' := 14) (z := (1 : Int32)) C d5_13 rfl rfl ?_
      refine g_putO (pc' := 17) (j := 1) (ty := .boolean) (v' := (.int (1 : Int32))) (fs' := [("com/example/rankfold/rankfold/UnsignedDecimal", "empty", "Z", (.int (b2i E))), ("com/example/rankfold/rankfold/UnsignedDecimal", "invalid", "Z", (.int (1 : Int32))), ("com/example/rankfold/rankfold/UnsignedDecimal", "value", "J", (.long val))]) C d5_14 rfl (hw _ (List.mem_of_getElem? (i := 27) rfl)) Via.refl O rfl (Or.inl (hw _ (List.mem_of_getElem? (i := 28) rfl))) (hw _ (List.mem_of_getElem? (i := 8) rfl)) (by decide) rfl rfl rfl (C.old (List.mem_cons_self ..)) fun h7 O Kh7 => ?_
      refine g_goto C d5_17 (by decide) (pc' := 65) rfl ?_
      refine g_aloadN (pc' := 66) C d5_65 rfl rfl rfl ?_
      refine g_iconst (pc' := 67) (z := (0 : Int32)) C d5_66 rfl rfl ?_
      refine g_putO (pc' := 70) (j := 0) (ty := .boolean) (v' := (.int (0 : Int32))) (fs' := [("com/example/rankfold/rankfold/UnsignedDecimal", "empty", "Z", (.int (0 : Int32))), ("com/example/rankfold/rankfold/UnsignedDecimal", "invalid", "Z", (.int (1 : Int32))), ("com/example/rankfold/rankfold/UnsignedDecimal", "value", "J", (.long val))]) C d5_67 rfl (hw _ (List.mem_of_getElem? (i := 16) rfl)) Via.refl O rfl (Or.inl (hw _ (List.mem_of_getElem? (i := 17) rfl))) (hw _ (List.mem_of_getElem? (i := 8) rfl)) (by decide) rfl rfl rfl (C.old (List.mem_cons_self ..)) fun h8 O Kh8 => ?_
      refine g_return C d5_70 (by decide) (by decide) ?_
      subst hQ
      refine ⟨rfl, val, ?_, ?_⟩
      · rw [b2i_pos (by unfold stpI; split <;> (try split) <;> omega : (stpI t c.toInt < 0 ∨ 2147483647 < stpI t c.toInt))]
        exact O
      · unfold stpI; intro y1 y2; split at y1 <;> (try split at y1) <;> omega
set_option maxRecDepth 65536 in
set_option maxHeartbeats 2000000 in
theorem con_value (l : Launch) (Z : State) (a0 : Array Value) (hw : ∀ d ∈ tables_1, d.before a0 Z = true) (a : Addr) (t : Int) (E : Prop) [Decidable E] (h : Heap) (U : UDS Z h a t E) :
    Con l Z [] (⟨"com/example/rankfold/rankfold/UnsignedDecimal", "value", "()I"⟩ : MethodName) prog_49_method_4_code 1 (some .int) ({ frames := 0, cells := 0, slots := 0, locals := 0 } : Room) #[(.ref a)] h [] (fun v h' => (∃ r : Int32, v = some (.int r) ∧ r.toInt = (if E ∨ (t < 0 ∨ 2147483647 < t) then -1 else t)) ∧ h = h') := by
  obtain ⟨val, O, hv⟩ := U
  refine Con.of_go (L0 := #[.val (.ref a)]) (plainFor_of_name (by first | (simp [plainName, overriddenIn]; done) | decide +kernel)) (locals_of rfl) fun W Q hQ hl C => ?_
  subst hl
  refine g_aloadN (pc' := 1) C d6_0 rfl rfl rfl ?_
  refine g_getO (pc' := 4) (j := 0) C d6_1 rfl (hw _ (List.mem_of_getElem? (i := 16) rfl)) O rfl ?_
  suffices K_4 : ∀ i1 : Int32, i1 = (if E then (-1 : Int32) else (if ¬ ((t < 0 ∨ 2147483647 < t)) then (val.toInt32) else (-1 : Int32))) → Go W Q h 0 0 23 #[.val (.ref a)] [(.int i1)] by
    refine g_ifneb (pc1 := 14) (pc2 := 7) C d6_4 (by decide) rfl rfl rfl (fun (c4 : E) => ?_) (fun (c4 : ¬ (E)) => ?_)
    ·
      refine g_iconst (pc' := 15) (z := (-1 : Int32)) C d6_14 rfl rfl ?_
      refine g_goto C d6_15 (by decide) (pc' := 23) rfl ?_
      exact K_4 (-1 : Int32) ((if_pos c4).symm)
    ·
      refine g_aloadN (pc' := 8) C d6_7 rfl rfl rfl ?_
      refine g_getO (pc' := 11) (j := 1) C d6_8 rfl (hw _ (List.mem_of_getElem? (i := 27) rfl)) O rfl ?_
      refine g_ifeqb (pc1 := 18) (pc2 := 14) C d6_11 (by decide) rfl rfl rfl (fun (c11 : ¬ ((t < 0 ∨ 2147483647 < t))) => ?_) (fun (c11 : (t < 0 ∨ 2147483647 < t)) => ?_)
      ·
        refine g_aloadN (pc' := 19) C d6_18 rfl rfl rfl ?_
        refine g_getO (pc' := 22) (j := 2) C d6_19 rfl (hw _ (List.mem_of_getElem? (i := 29) rfl)) O rfl ?_
        refine g_l2i (pc' := 23) C d6_22 rfl ?_
        exact K_4 (val.toInt32) (((if_pos c11).symm).trans (if_neg c4).symm)
      ·
        refine g_iconst (pc' := 15) (z := (-1 : Int32)) C d6_14 rfl rfl ?_
        refine g_goto C d6_15 (by decide) (pc' := 23) rfl ?_
        exact K_4 (-1 : Int32) (((if_neg (fun y => y c11)).symm).trans (if_neg c4).symm)
  intro i1 e_i1
  refine g_retI C d6_23 (by decide) (by decide) ?_
  subst hQ
  refine ⟨⟨_, rfl, ?_⟩, rfl⟩
  rw [e_i1]
  have x1 := c_l2i val
  have x2 := rng32 val.toInt32
  have x3 : (-1 : Int32).toInt = -1 := rfl
  by_cases y1 : E <;> by_cases y2 : (t < 0 ∨ 2147483647 < t) <;> simp only [b2i, if_true, if_false, ite_true, ite_false, and_true, true_and, and_false, false_and, or_true, true_or, or_false, false_or, not_true_eq_false, not_false_eq_true, and_self, or_self, y1, y2] <;> first | exact x3 | (have x4 := hv (by omega) (by omega); omega)
set_option maxRecDepth 65536 in
set_option maxHeartbeats 2000000 in
theorem con_isEmpty (l : Launch) (Z : State) (a0 : Array Value) (hw : ∀ d ∈ tables_1, d.before a0 Z = true) (a : Addr) (t : Int) (E : Prop) [Decidable E] (h : Heap) (U : UDS Z h a t E) :
    Con l Z [] (⟨"com/example/rankfold/rankfold/UnsignedDecimal", "isEmpty", "()Z"⟩ : MethodName) prog_49_method_5_code 1 (some .boolean) ({ frames := 0, cells := 0, slots := 0, locals := 0 } : Room) #[(.ref a)] h [] (fun v h' => v = some (.int (b2i E)) ∧ h' = h) := by
  obtain ⟨val, O, hv⟩ := U
  refine Con.of_go (L0 := #[.val (.ref a)]) (plainFor_of_name (by first | (simp [plainName, overriddenIn]; done) | decide +kernel)) (locals_of rfl) fun W Q hQ hl C => ?_
  subst hl
  refine g_aloadN (pc' := 1) C d7_0 rfl rfl rfl ?_
  refine g_getO (pc' := 4) (j := 0) C d7_1 rfl (hw _ (List.mem_of_getElem? (i := 16) rfl)) O rfl ?_
  refine g_retN C (by simp) d7_4 (by decide) (by decide) ?_
  subst hQ
  exact ⟨congrArg (fun z => some (Value.int z)) (nar_b2i _), rfl⟩
set_option maxRecDepth 65536 in
set_option maxHeartbeats 2000000 in
theorem con_draw (l : Launch) (Z : State) (a0 : Array Value) (hw : ∀ d ∈ tables_1, d.before a0 Z = true) (x : Int32) (h : Heap)  :
    Con l Z [] (⟨"com/example/rankfold/rankfold/UnsignedDecimalAppendPinLaw", "draw", "(I)C"⟩ : MethodName) method_2_code 1 (some .char) ({ frames := 0, cells := 0, slots := 0, locals := 0 } : Room) #[(.int x)] h [] (fun v h' => (∃ r : Int32, v = some (.int r) ∧ 0 ≤ r.toInt ∧ r.toInt < 65536) ∧ h = h') := by
  refine Con.of_go (L0 := #[.val (.int x)]) (plainFor_of_name (by first | (simp [plainName, overriddenIn]; done) | decide +kernel)) (locals_of rfl) fun W Q hQ hl C => ?_
  subst hl
  refine g_iloadN (pc' := 1) C d1_0 rfl rfl ?_
  refine g_iconst (pc' := 2) (z := (1 : Int32)) C d1_1 rfl rfl ?_
  refine g_iand (pc' := 3) C d1_2 rfl ?_
  refine g_if (xi := (x &&& (1 : Int32)).toInt) (pc1 := 17) (pc2 := 6) C d1_3 (by decide) rfl rfl rfl (fun (c3 : ¬ ((x &&& (1 : Int32)).toInt = 0)) => ?_) (fun (c3 : ¬ (¬ ((x &&& (1 : Int32)).toInt = 0))) => ?_)
  ·
    refine g_iloadN (pc' := 18) C d1_17 rfl rfl ?_
    refine g_iconst (pc' := 19) (z := (1 : Int32)) C d1_18 rfl rfl ?_
    refine g_iushr (pc' := 20) C d1_19 rfl ?_
    refine g_ldcI (pc' := 22) C d1_20 rfl (hw _ (List.mem_of_getElem? (i := 6) rfl)) ?_
    refine g_iand (pc' := 23) C d1_22 rfl ?_
    refine g_i2c (pc' := 24) C d1_23 rfl ?_
    refine g_retN C (by simp) d1_24 (by decide) (by decide) ?_
    subst hQ
    exact ⟨⟨_, rfl, (c_i2c _).2⟩, rfl⟩
  ·
    replace c3 : (x &&& (1 : Int32)).toInt = 0 := Decidable.not_not.mp c3
    refine g_bipush (pc' := 8) (z := (48 : Int32)) C d1_6 rfl rfl ?_
    refine g_iloadN (pc' := 9) C d1_8 rfl rfl ?_
    refine g_iconst (pc' := 10) (z := (1 : Int32)) C d1_9 rfl rfl ?_
    refine g_iushr (pc' := 11) C d1_10 rfl ?_
    refine g_bipush (pc' := 13) (z := (10 : Int32)) C d1_11 rfl rfl ?_
    refine g_irem (pc' := 14) C d1_13 rfl (by decide) ?_
    refine g_iadd (pc' := 15) C d1_14 rfl ?_
    refine g_i2c (pc' := 16) C d1_15 rfl ?_
    refine g_retN C (by simp) d1_16 (by decide) (by decide) ?_
    subst hQ
    exact ⟨⟨_, rfl, (c_i2c _).2⟩, rfl⟩
set_option maxRecDepth 65536 in
set_option maxHeartbeats 2000000 in
theorem con_dig (l : Launch) (Z : State) (a0 : Array Value) (hw : ∀ d ∈ tables_1, d.before a0 Z = true) (a d : Int32) (ha : 0 ≤ a.toInt) (D : Int) (hD : d.toInt = D) (hd : 0 < D) (h : Heap)  :
    Con l Z [] (⟨"com/example/rankfold/rankfold/UnsignedDecimalAppendPinLaw", "dig", "(II)C"⟩ : MethodName) method_3_code 2 (some .char) ({ frames := 0, cells := 0, slots := 0, locals := 0 } : Room) #[(.int a), (.int d)] h [] (fun v h' => (∃ r : Int32, v = some (.int r) ∧ r.toInt = 48 + a.toInt / D % 10) ∧ h = h') := by
  have hd0 : d ≠ 0 := fun q => by rw [q] at hD; have q2 : (0 : Int32).toInt = 0 := rfl; omega
  have hd1 : d ≠ -1 := fun q => by rw [q] at hD; have q2 : (-1 : Int32).toInt = -1 := rfl; omega
  refine Con.of_go (L0 := #[.val (.int a), .val (.int d)]) (plainFor_of_name (by first | (simp [plainName, overriddenIn]; done) | decide +kernel)) (locals_of rfl) fun W Q hQ hl C => ?_
  subst hl
  refine g_bipush (pc' := 2) (z := (48 : Int32)) C d4_0 rfl rfl ?_
  refine g_iloadN (pc' := 3) C d4_2 rfl rfl ?_
  refine g_iloadN (pc' := 4) C d4_3 rfl rfl ?_
  refine g_idiv (pc' := 5) C d4_4 rfl hd0 ?_
  refine g_bipush (pc' := 7) (z := (10 : Int32)) C d4_5 rfl rfl ?_
  refine g_irem (pc' := 8) C d4_7 rfl (by decide) ?_
  refine g_iadd (pc' := 9) C d4_8 rfl ?_
  refine g_i2c (pc' := 10) C d4_9 rfl ?_
  refine g_retN C (by simp) d4_10 (by decide) (by decide) ?_
  subst hQ
  refine ⟨⟨_, rfl, ?_⟩, rfl⟩
  show (nar .char (((48 : Int32) + ((a / d) % (10 : Int32))).toUInt32.toUInt16.toUInt32.toInt32)).toInt = _
  have y1 : (a / d).toInt = a.toInt / D := (c_idiv a d D hD hd1).1 ha
  have y0 : 0 ≤ a.toInt / D := Int.ediv_nonneg ha (by omega)
  have y2 := (c_irem (a / d) 10 10 rfl).1 (by omega)
  have y3 := c_iadd 48 ((a / d) % 10)
  have y4 : (48 : Int32).toInt = 48 := rfl
  have y5 := rng32 (48 + (a / d) % 10)
  rw [y4] at y3
  have y6 := c_i2c (48 + (a / d) % 10)
  have y7 := c_i2c (48 + (a / d) % 10).toUInt32.toUInt16.toUInt32.toInt32
  rw [y1] at y2
  have y8 : 0 ≤ a.toInt / D % 10 ∧ a.toInt / D % 10 < 10 := by omega
  show (48 + (a / d) % 10).toUInt32.toUInt16.toUInt32.toInt32.toUInt32.toUInt16.toUInt32.toInt32.toInt = _
  omega
set_option maxRecDepth 65536 in
set_option maxHeartbeats 2000000 in
theorem con_isDigit (l : Launch) (Z : State) (a0 : Array Value) (hw : ∀ d ∈ tables_1, d.before a0 Z = true) (c : Int32) (h : Heap)  :
    Con l Z [] (⟨"com/example/rankfold/rankfold/UnsignedDecimalAppendPinLaw", "isDigit", "(C)Z"⟩ : MethodName) method_4_code 1 (some .boolean) ({ frames := 0, cells := 0, slots := 0, locals := 0 } : Room) #[(.int c)] h [] (fun v h' => v = some (.int (b2i (48 ≤ c.toInt ∧ c.toInt ≤ 57))) ∧ h' = h) := by
  refine Con.of_go (L0 := #[.val (.int c)]) (plainFor_of_name (by first | (simp [plainName, overriddenIn]; done) | decide +kernel)) (locals_of rfl) fun W Q hQ hl C => ?_
  subst hl
  refine g_iloadN (pc' := 1) C d8_0 rfl rfl ?_
  refine g_bipush (pc' := 3) (z := (48 : Int32)) C d8_1 rfl rfl ?_
  suffices K_3 : ∀ z1 : Int32, z1 = b2i ((¬ (c.toInt < (48))) ∧ (¬ ((57) < c.toInt))) → Go W Q h 0 0 17 #[.val (.int c)] [(.int z1)] by
    refine g_icmp (xi := c.toInt) (yi := (48)) (pc1 := 16) (pc2 := 6) C d8_3 (by decide) rfl rfl rfl rfl (fun (c3 : c.toInt < (48)) => ?_) (fun (c3 : ¬ (c.toInt < (48))) => ?_)
    ·
      refine g_iconst (pc' := 17) (z := (0 : Int32)) C d8_16 rfl rfl ?_
      exact K_3 (0 : Int32) ((rfl : (0 : Int32) = b2i False).trans (b2i_iff (iff_false_intro (fun y => (fun y => y c3) y.1)).symm))
    ·
      refine g_iloadN (pc' := 7) C d8_6 rfl rfl ?_
      refine g_bipush (pc' := 9) (z := (57 : Int32)) C d8_7 rfl rfl ?_
      refine g_icmp (xi := c.toInt) (yi := (57)) (pc1 := 16) (pc2 := 12) C d8_9 (by decide) rfl rfl rfl rfl (fun (c9 : (57) < c.toInt) => ?_) (fun (c9 : ¬ ((57) < c.toInt)) => ?_)
      ·
        refine g_iconst (pc' := 17) (z := (0 : Int32)) C d8_16 rfl rfl ?_
        exact K_3 (0 : Int32) ((rfl : (0 : Int32) = b2i False).trans (b2i_iff ((and_iff_right c3).trans (iff_false_intro (fun y => y c9))).symm))
      ·
        refine g_iconst (pc' := 13) (z := (1 : Int32)) C d8_12 rfl rfl ?_
        refine g_goto C d8_13 (by decide) (pc' := 17) rfl ?_
        exact K_3 (1 : Int32) ((rfl : (1 : Int32) = b2i True).trans (b2i_iff ((and_iff_right c3).trans (iff_true_intro c9)).symm))
  intro z1 e_z1
  refine g_retN C (by simp) d8_17 (by decide) (by decide) ?_
  subst hQ
  refine ⟨congrArg (fun z => some (Value.int z)) ?_, rfl⟩
  rw [e_z1, nar_b2i]
  refine b2i_iff ?_
  omega
theorem own_fin1 {T c r : Int} (h0 : 0 ≤ T) (h1 : T < 100000000) (x1 : (r - (T * 10 + (c - 48))) % 4294967296 = 0) (x2 : -2147483648 ≤ r ∧ r < 2147483648) : (if False ∨ stpI T c < 0 ∨ 2147483647 < stpI T c then (-1 : Int) else stpI T c) = (if ¬ (48 ≤ c ∧ c ≤ 57) then (-1 : Int) else if 2147483647 < T * 10 + (c - 48) then -1 else r) := by
  simp only [false_or]
  by_cases hc : 48 ≤ c ∧ c ≤ 57
  · rw [show stpI T c = T * 10 + (c - 48) by unfold stpI; rw [if_neg (by omega), if_pos hc], if_neg (not_not_intro hc)]
    (repeat' split) <;> omega
  · rw [show stpI T c = -1 by unfold stpI; rw [if_neg (by omega), if_neg hc], if_pos hc]
    (repeat' split) <;> omega
theorem own_fin2 {T c d r : Int} (h0 : 0 ≤ T) (h1 : T < 100000000) (x1 : (r - ((T * 10 + (c - 48)) * 10 + (d - 48))) % 4294967296 = 0) (x2 : -2147483648 ≤ r ∧ r < 2147483648) : (if False ∨ stpI (stpI T c) d < 0 ∨ 2147483647 < stpI (stpI T c) d then (-1 : Int) else stpI (stpI T c) d) = (if ¬ ((48 ≤ c ∧ c ≤ 57) ∧ (48 ≤ d ∧ d ≤ 57)) then (-1 : Int) else if 2147483647 < (T * 10 + (c - 48)) * 10 + (d - 48) then -1 else r) := by
  simp only [false_or]
  by_cases hc : 48 ≤ c ∧ c ≤ 57
  · rw [show stpI T c = T * 10 + (c - 48) by unfold stpI; rw [if_neg (by omega), if_pos hc]]
    by_cases hd : 48 ≤ d ∧ d ≤ 57
    · rw [show stpI (T * 10 + (c - 48)) d = (T * 10 + (c - 48)) * 10 + (d - 48) by unfold stpI; rw [if_neg (by omega), if_pos hd], if_neg (not_not_intro ⟨hc, hd⟩)]
      (repeat' split) <;> omega
    · rw [show stpI (T * 10 + (c - 48)) d = -1 by unfold stpI; rw [if_neg (by omega), if_neg hd], if_pos (fun y => hd y.2)]
      (repeat' split) <;> omega
  · rw [show stpI T c = -1 by unfold stpI; rw [if_neg (by omega), if_neg hc], show stpI (-1) d = -1 by unfold stpI; rw [if_pos (by omega)], if_pos (fun y => hc y.1)]
    (repeat' split) <;> omega
set_option maxRecDepth 65536 in
set_option maxHeartbeats 2000000 in
theorem con_0 (l : Launch) (Z : State) (a0 : Array Value) (hw : ∀ d ∈ tables_1, d.before a0 Z = true) (p0 p1 p2 p3 : Int32) (h : Heap)  :
    Con l Z tables_1 x code maxLocals ret room_1 #[(.int p0), (.int p1), (.int p2), (.int p3)] h [] (fun v _ => v = some (.int 1)) := by
  refine Con.of_go (L0 := #[.val (.int p0), .val (.int p1), .val (.int p2), .val (.int p3), .unset, .unset, .unset, .unset, .unset, .unset, .unset, .unset, .unset, .unset, .unset, .unset, .unset, .unset, .unset, .unset, .unset, .unset]) (plainFor_of_name (by first | (simp [plainName, overriddenIn]; done) | decide +kernel)) (locals_of rfl) fun W Q hQ hl C => ?_
  subst hl
  refine g_iloadN (pc' := 1) C at_0 rfl rfl ?_
  refine g_iconst (pc' := 2) (z := (1 : Int32)) C at_1 rfl rfl ?_
  refine g_iand (pc' := 3) C at_2 rfl ?_
  suffices K_3 : ∀ z1 : Int32, z1 = b2i (¬ ((p3 &&& (1 : Int32)).toInt = 0)) → Go W Q h 0 0 11 #[.val (.int p0), .val (.int p1), .val (.int p2), .val (.int p3), .unset, .unset, .unset, .unset, .unset, .unset, .unset, .unset, .unset, .unset, .unset, .unset, .unset, .unset, .unset, .unset, .unset, .unset] [(.int z1)] by
    refine g_if (xi := (p3 &&& (1 : Int32)).toInt) (pc1 := 10) (pc2 := 6) C at_3 (by decide) rfl rfl rfl (fun (c3 : (p3 &&& (1 : Int32)).toInt = 0) => ?_) (fun (c3 : ¬ ((p3 &&& (1 : Int32)).toInt = 0)) => ?_)
    ·
      refine g_iconst (pc' := 11) (z := (0 : Int32)) C at_10 rfl rfl ?_
      exact K_3 (0 : Int32) ((rfl : (0 : Int32) = b2i False).trans (b2i_iff (iff_false_intro (fun y => y c3)).symm))
    ·
      refine g_iconst (pc' := 7) (z := (1 : Int32)) C at_6 rfl rfl ?_
      refine g_goto C at_7 (by decide) (pc' := 11) rfl ?_
      exact K_3 (1 : Int32) ((rfl : (1 : Int32) = b2i True).trans (b2i_iff (iff_true_intro c3).symm))
  intro z1 e_z1
  refine g_istore (pc' := 13) (L' := #[.val (.int p0), .val (.int p1), .val (.int p2), .val (.int p3), .val (.int z1), .unset, .unset, .unset, .unset, .unset, .unset, .unset, .unset, .unset, .unset, .unset, .unset, .unset, .unset, .unset, .unset, .unset]) C at_11 rfl rfl ?_
  refine g_iloadN (pc' := 14) C at_13 rfl rfl ?_
  refine g_ldcI (pc' := 16) C at_14 rfl (hw _ (List.mem_of_getElem? (i := 0) rfl)) ?_
  refine g_iand (pc' := 17) C at_16 rfl ?_
  refine g_ldcI (pc' := 19) C at_17 rfl (hw _ (List.mem_of_getElem? (i := 1) rfl)) ?_
  refine g_irem (pc' := 20) C at_19 rfl (by decide) ?_
  refine g_nameI fun i2 e_i2 => ?_
  refine g_istore (pc' := 22) (L' := #[.val (.int p0), .val (.int p1), .val (.int p2), .val (.int p3), .val (.int z1), .val (.int i2), .unset, .unset, .unset, .unset, .unset, .unset, .unset, .unset, .unset, .unset, .unset, .unset, .unset, .unset, .unset, .unset]) C at_20 rfl rfl ?_
  have m1 := c_mask p0 2147483647 31 (by decide) (by decide)
  have m2 := (c_irem (p0 &&& 2147483647) 100000000 100000000 rfl).1 (by omega)
  rw [← e_i2] at m2
  have m3 : 0 ≤ i2.toInt ∧ i2.toInt < 100000000 := by omega
  refine g_iloadN (pc' := 23) C at_22 rfl rfl ?_
  refine g_static (y := (⟨"com/example/rankfold/rankfold/UnsignedDecimalAppendPinLaw", "draw", "(I)C"⟩ : MethodName)) (pc' := 26) (k' := 0) (n' := 0) (S := []) (as := [(.int p1)]) C at_23 rfl (hw _ (List.mem_of_getElem? (i := 2) rfl)) (hw _ (List.mem_of_getElem? (i := 3) rfl)) (hw _ (List.mem_of_getElem? (i := 4) rfl)) (hw _ (List.mem_of_getElem? (i := 5) rfl)) (by decide) (lenOf pd_0 rfl) (con_draw W.l Z a0 hw p1 h) rfl rfl (Nat.le_of_ble_eq_true rfl) (Nat.le_of_ble_eq_true rfl) rfl rfl (Nat.le_of_ble_eq_true rfl) (Nat.le_of_ble_eq_true rfl) all0 fun vh1 h1 qh1 Kh1 => ?_
  obtain ⟨⟨i3, rfl, er_i3, fr_i3⟩, eh⟩ := qh1
  subst eh
  show Go W Q h 0 0 26 #[.val (.int p0), .val (.int p1), .val (.int p2), .val (.int p3), .val (.int z1), .val (.int i2), .unset, .unset, .unset, .unset, .unset, .unset, .unset, .unset, .unset, .unset, .unset, .unset, .unset, .unset, .unset, .unset] [(.int i3)]
  refine g_istore (pc' := 28) (L' := #[.val (.int p0), .val (.int p1), .val (.int p2), .val (.int p3), .val (.int z1), .val (.int i2), .val (.int i3), .unset, .unset, .unset, .unset, .unset, .unset, .unset, .unset, .unset, .unset, .unset, .unset, .unset, .unset, .unset]) C at_26 rfl rfl ?_
  refine g_iloadN (pc' := 29) C at_28 rfl rfl ?_
  refine g_static (y := (⟨"com/example/rankfold/rankfold/UnsignedDecimalAppendPinLaw", "draw", "(I)C"⟩ : MethodName)) (pc' := 32) (k' := 0) (n' := 0) (S := []) (as := [(.int p2)]) C at_29 rfl (hw _ (List.mem_of_getElem? (i := 2) rfl)) (hw _ (List.mem_of_getElem? (i := 3) rfl)) (hw _ (List.mem_of_getElem? (i := 4) rfl)) (hw _ (List.mem_of_getElem? (i := 5) rfl)) (by decide) (lenOf pd_0 rfl) (con_draw W.l Z a0 hw p2 h) rfl rfl (Nat.le_of_ble_eq_true rfl) (Nat.le_of_ble_eq_true rfl) rfl rfl (Nat.le_of_ble_eq_true rfl) (Nat.le_of_ble_eq_true rfl) all0 fun vh2 h2 qh2 Kh2 => ?_
  obtain ⟨⟨i4, rfl, er_i4, fr_i4⟩, eh⟩ := qh2
  subst eh
  show Go W Q h 0 0 32 #[.val (.int p0), .val (.int p1), .val (.int p2), .val (.int p3), .val (.int z1), .val (.int i2), .val (.int i3), .unset, .unset, .unset, .unset, .unset, .unset, .unset, .unset, .unset, .unset, .unset, .unset, .unset, .unset, .unset] [(.int i4)]
  refine g_istore (pc' := 34) (L' := #[.val (.int p0), .val (.int p1), .val (.int p2), .val (.int p3), .val (.int z1), .val (.int i2), .val (.int i3), .val (.int i4), .unset, .unset, .unset, .unset, .unset, .unset, .unset, .unset, .unset, .unset, .unset, .unset, .unset, .unset]) C at_32 rfl rfl ?_
  refine g_new (pc' := 37) (k' := 1) (n' := 3) C at_34 rfl (hw _ (List.mem_of_getElem? (i := 7) rfl)) (hw _ (List.mem_of_getElem? (i := 8) rfl)) (hw _ (List.mem_of_getElem? (i := 9) rfl)) rfl rfl (by decide) (by decide) fun h3 a5 e_a5 Eh3 Xa5 Da5 w_a5 => ?_
  have Oa5 : Ob Z h3 a5 "com/example/rankfold/rankfold/UnsignedDecimal" [("com/example/rankfold/rankfold/UnsignedDecimal", "empty", "Z", (.int (0 : Int32))), ("com/example/rankfold/rankfold/UnsignedDecimal", "invalid", "Z", (.int (0 : Int32))), ("com/example/rankfold/rankfold/UnsignedDecimal", "value", "J", (.long (0 : Int64)))] := ⟨Xa5, by
    simp only [List.forall_mem_cons, List.not_mem_nil, false_implies, implies_true, and_true]
    exact ⟨Da5 (Or.inl (hw _ (List.mem_of_getElem? (i := 17) rfl))) (ty := .boolean) (by decide), Da5 (Or.inl (hw _ (List.mem_of_getElem? (i := 28) rfl))) (ty := .boolean) (by decide), Da5 (Or.inl (hw _ (List.mem_of_getElem? (i := 30) rfl))) (ty := .long) (by decide)⟩, dis_0 Z a0 hw⟩
  refine g_dup (pc' := 38) C at_37 rfl rfl ?_
  refine g_special (y := (⟨"com/example/rankfold/rankfold/UnsignedDecimal", "<init>", "()V"⟩ : MethodName)) (a := a5) (pc' := 41) (k' := 1) (n' := 3) (S := [(.ref a5)]) (as := []) C at_38 rfl rfl (hw _ (List.mem_of_getElem? (i := 10) rfl)) (hw _ (List.mem_of_getElem? (i := 11) rfl)) (hw _ (List.mem_of_getElem? (i := 9) rfl)) (hw _ (List.mem_of_getElem? (i := 12) rfl)) (by decide) (lenOf pd_1 rfl) (con_init W.l Z a0 hw a5 h3 Oa5) rfl rfl (Nat.le_of_ble_eq_true rfl) (Nat.le_of_ble_eq_true rfl) rfl rfl (Nat.le_of_ble_eq_true rfl) (Nat.le_of_ble_eq_true rfl) (allS w_a5 all0) fun vh4 h4 qh4 Kh4 => ?_
  obtain ⟨rfl, Ua5⟩ := qh4
  show Go W Q h4 1 3 41 #[.val (.int p0), .val (.int p1), .val (.int p2), .val (.int p3), .val (.int z1), .val (.int i2), .val (.int i3), .val (.int i4), .unset, .unset, .unset, .unset, .unset, .unset, .unset, .unset, .unset, .unset, .unset, .unset, .unset, .unset] [(.ref a5)]
  refine g_astore (pc' := 43) (L' := #[.val (.int p0), .val (.int p1), .val (.int p2), .val (.int p3), .val (.int z1), .val (.int i2), .val (.int i3), .val (.int i4), .val (.ref a5), .unset, .unset, .unset, .unset, .unset, .unset, .unset, .unset, .unset, .unset, .unset, .unset, .unset]) C at_41 rfl rfl rfl ?_
  refine g_iload (pc' := 45) C at_43 rfl rfl ?_
  suffices K_45 : ∀ (h5 : Heap) (tb : Int), tb = (if ¬ ((p3 &&& (1 : Int32)).toInt = 0) then i2.toInt else 0) → UDS Z h5 a5 tb (¬ (¬ ((p3 &&& (1 : Int32)).toInt = 0))) → Go W Q h5 1 3 145 #[.val (.int p0), .val (.int p1), .val (.int p2), .val (.int p3), .val (.int z1), .val (.int i2), .val (.int i3), .val (.int i4), .val (.ref a5), .unset, .unset, .unset, .unset, .unset, .unset, .unset, .unset, .unset, .unset, .unset, .unset, .unset] [] by
    refine g_ifeqb (pc1 := 145) (pc2 := 48) C at_45 (by decide) rfl rfl e_z1 (fun (c45 : ¬ (¬ ((p3 &&& (1 : Int32)).toInt = 0))) => ?_) (fun (c45 : ¬ ((p3 &&& (1 : Int32)).toInt = 0)) => ?_)
    ·
      replace c45 : (p3 &&& (1 : Int32)).toInt = 0 := Decidable.not_not.mp c45
      exact K_45 h4 _ (by rw [if_neg (fun y => y c45)]) (Ua5.cong rfl ⟨fun _ => (fun y => y c45), fun _ => trivial⟩)
    ·
      refine g_aload (pc' := 50) C at_48 rfl rfl rfl ?_
      refine g_iload (pc' := 52) C at_50 rfl rfl ?_
      refine g_ldcI (pc' := 54) C at_52 rfl (hw _ (List.mem_of_getElem? (i := 18) rfl)) ?_
      refine g_static (y := (⟨"com/example/rankfold/rankfold/UnsignedDecimalAppendPinLaw", "dig", "(II)C"⟩ : MethodName)) (pc' := 57) (k' := 1) (n' := 3) (S := [(.ref a5)]) (as := [(.int i2), (.int (10000000 : Int32))]) C at_54 rfl (hw _ (List.mem_of_getElem? (i := 19) rfl)) (hw _ (List.mem_of_getElem? (i := 20) rfl)) (hw _ (List.mem_of_getElem? (i := 4) rfl)) (hw _ (List.mem_of_getElem? (i := 21) rfl)) (by decide) (lenOf pd_2 rfl) (con_dig W.l Z a0 hw i2 (10000000 : Int32) (by omega) 10000000 rfl (by decide) h4) rfl rfl (Nat.le_of_ble_eq_true rfl) (Nat.le_of_ble_eq_true rfl) rfl rfl (Nat.le_of_ble_eq_true rfl) (Nat.le_of_ble_eq_true rfl) all0 fun vh6 h6 qh6 Kh6 => ?_
      obtain ⟨⟨i6, rfl, er_i6⟩, eh⟩ := qh6
      subst eh
      show Go W Q h4 1 3 57 #[.val (.int p0), .val (.int p1), .val (.int p2), .val (.int p3), .val (.int z1), .val (.int i2), .val (.int i3), .val (.int i4), .val (.ref a5), .unset, .unset, .unset, .unset, .unset, .unset, .unset, .unset, .unset, .unset, .unset, .unset, .unset] [(.int i6), (.ref a5)]
      refine g_virtual (y := (⟨"com/example/rankfold/rankfold/UnsignedDecimal", "append", "(C)V"⟩ : MethodName)) (a := a5) (pc' := 60) (k' := 1) (n' := 3) (S := []) (as := [(.int i6)]) C at_57 rfl (hw _ (List.mem_of_getElem? (i := 22) rfl)) (hw _ (List.mem_of_getElem? (i := 24) rfl)) (hw _ (List.mem_of_getElem? (i := 9) rfl)) (hw _ (List.mem_of_getElem? (i := 26) rfl)) (hw _ (List.mem_of_getElem? (i := 23) rfl)) (hw _ (List.mem_of_getElem? (i := 25) rfl)) (by decide) Ua5.exa (lenOf pd_3 rfl) (con_append W.l Z a0 hw a5 (0 : Int) (True) i6 h4 Ua5) rfl rfl (Nat.le_of_ble_eq_true rfl) (Nat.le_of_ble_eq_true rfl) rfl rfl (Nat.le_of_ble_eq_true rfl) (Nat.le_of_ble_eq_true rfl) (allS w_a5 all0) fun vh7 h7 qh7 Kh7 => ?_
      obtain ⟨rfl, Ua5⟩ := qh7
      show Go W Q h7 1 3 60 #[.val (.int p0), .val (.int p1), .val (.int p2), .val (.int p3), .val (.int z1), .val (.int i2), .val (.int i3), .val (.int i4), .val (.ref a5), .unset, .unset, .unset, .unset, .unset, .unset, .unset, .unset, .unset, .unset, .unset, .unset, .unset] []
      replace Ua5 := UDS.cong (t' := (i2.toInt / 10000000)) Ua5 (by unfold stpI; rw [er_i6, if_neg (by omega), if_pos (by omega)]; omega) Iff.rfl
      refine g_aload (pc' := 62) C at_60 rfl rfl rfl ?_
      refine g_iload (pc' := 64) C at_62 rfl rfl ?_
      refine g_ldcI (pc' := 66) C at_64 rfl (hw _ (List.mem_of_getElem? (i := 33) rfl)) ?_
      refine g_static (y := (⟨"com/example/rankfold/rankfold/UnsignedDecimalAppendPinLaw", "dig", "(II)C"⟩ : MethodName)) (pc' := 69) (k' := 1) (n' := 3) (S := [(.ref a5)]) (as := [(.int i2), (.int (1000000 : Int32))]) C at_66 rfl (hw _ (List.mem_of_getElem? (i := 19) rfl)) (hw _ (List.mem_of_getElem? (i := 20) rfl)) (hw _ (List.mem_of_getElem? (i := 4) rfl)) (hw _ (List.mem_of_getElem? (i := 21) rfl)) (by decide) (lenOf pd_2 rfl) (con_dig W.l Z a0 hw i2 (1000000 : Int32) (by omega) 1000000 rfl (by decide) h7) rfl rfl (Nat.le_of_ble_eq_true rfl) (Nat.le_of_ble_eq_true rfl) rfl rfl (Nat.le_of_ble_eq_true rfl) (Nat.le_of_ble_eq_true rfl) all0 fun vh8 h8 qh8 Kh8 => ?_
      obtain ⟨⟨i7, rfl, er_i7⟩, eh⟩ := qh8
      subst eh
      show Go W Q h7 1 3 69 #[.val (.int p0), .val (.int p1), .val (.int p2), .val (.int p3), .val (.int z1), .val (.int i2), .val (.int i3), .val (.int i4), .val (.ref a5), .unset, .unset, .unset, .unset, .unset, .unset, .unset, .unset, .unset, .unset, .unset, .unset, .unset] [(.int i7), (.ref a5)]
      refine g_virtual (y := (⟨"com/example/rankfold/rankfold/UnsignedDecimal", "append", "(C)V"⟩ : MethodName)) (a := a5) (pc' := 72) (k' := 1) (n' := 3) (S := []) (as := [(.int i7)]) C at_69 rfl (hw _ (List.mem_of_getElem? (i := 22) rfl)) (hw _ (List.mem_of_getElem? (i := 24) rfl)) (hw _ (List.mem_of_getElem? (i := 9) rfl)) (hw _ (List.mem_of_getElem? (i := 26) rfl)) (hw _ (List.mem_of_getElem? (i := 23) rfl)) (hw _ (List.mem_of_getElem? (i := 25) rfl)) (by decide) Ua5.exa (lenOf pd_3 rfl) (con_append W.l Z a0 hw a5 (i2.toInt / 10000000) (False) i7 h7 Ua5) rfl rfl (Nat.le_of_ble_eq_true rfl) (Nat.le_of_ble_eq_true rfl) rfl rfl (Nat.le_of_ble_eq_true rfl) (Nat.le_of_ble_eq_true rfl) (allS w_a5 all0) fun vh9 h9 qh9 Kh9 => ?_
      obtain ⟨rfl, Ua5⟩ := qh9
      show Go W Q h9 1 3 72 #[.val (.int p0), .val (.int p1), .val (.int p2), .val (.int p3), .val (.int z1), .val (.int i2), .val (.int i3), .val (.int i4), .val (.ref a5), .unset, .unset, .unset, .unset, .unset, .unset, .unset, .unset, .unset, .unset, .unset, .unset, .unset] []
      replace Ua5 := UDS.cong (t' := (i2.toInt / 1000000)) Ua5 (by unfold stpI; rw [er_i7, if_neg (by omega), if_pos (by omega)]; omega) Iff.rfl
      refine g_aload (pc' := 74) C at_72 rfl rfl rfl ?_
      refine g_iload (pc' := 76) C at_74 rfl rfl ?_
      refine g_ldcI (pc' := 78) C at_76 rfl (hw _ (List.mem_of_getElem? (i := 34) rfl)) ?_
      refine g_static (y := (⟨"com/example/rankfold/rankfold/UnsignedDecimalAppendPinLaw", "dig", "(II)C"⟩ : MethodName)) (pc' := 81) (k' := 1) (n' := 3) (S := [(.ref a5)]) (as := [(.int i2), (.int (100000 : Int32))]) C at_78 rfl (hw _ (List.mem_of_getElem? (i := 19) rfl)) (hw _ (List.mem_of_getElem? (i := 20) rfl)) (hw _ (List.mem_of_getElem? (i := 4) rfl)) (hw _ (List.mem_of_getElem? (i := 21) rfl)) (by decide) (lenOf pd_2 rfl) (con_dig W.l Z a0 hw i2 (100000 : Int32) (by omega) 100000 rfl (by decide) h9) rfl rfl (Nat.le_of_ble_eq_true rfl) (Nat.le_of_ble_eq_true rfl) rfl rfl (Nat.le_of_ble_eq_true rfl) (Nat.le_of_ble_eq_true rfl) all0 fun vh10 h10 qh10 Kh10 => ?_
      obtain ⟨⟨i8, rfl, er_i8⟩, eh⟩ := qh10
      subst eh
      show Go W Q h9 1 3 81 #[.val (.int p0), .val (.int p1), .val (.int p2), .val (.int p3), .val (.int z1), .val (.int i2), .val (.int i3), .val (.int i4), .val (.ref a5), .unset, .unset, .unset, .unset, .unset, .unset, .unset, .unset, .unset, .unset, .unset, .unset, .unset] [(.int i8), (.ref a5)]
      refine g_virtual (y := (⟨"com/example/rankfold/rankfold/UnsignedDecimal", "append", "(C)V"⟩ : MethodName)) (a := a5) (pc' := 84) (k' := 1) (n' := 3) (S := []) (as := [(.int i8)]) C at_81 rfl (hw _ (List.mem_of_getElem? (i := 22) rfl)) (hw _ (List.mem_of_getElem? (i := 24) rfl)) (hw _ (List.mem_of_getElem? (i := 9) rfl)) (hw _ (List.mem_of_getElem? (i := 26) rfl)) (hw _ (List.mem_of_getElem? (i := 23) rfl)) (hw _ (List.mem_of_getElem? (i := 25) rfl)) (by decide) Ua5.exa (lenOf pd_3 rfl) (con_append W.l Z a0 hw a5 (i2.toInt / 1000000) (False) i8 h9 Ua5) rfl rfl (Nat.le_of_ble_eq_true rfl) (Nat.le_of_ble_eq_true rfl) rfl rfl (Nat.le_of_ble_eq_true rfl) (Nat.le_of_ble_eq_true rfl) (allS w_a5 all0) fun vh11 h11 qh11 Kh11 => ?_
      obtain ⟨rfl, Ua5⟩ := qh11
      show Go W Q h11 1 3 84 #[.val (.int p0), .val (.int p1), .val (.int p2), .val (.int p3), .val (.int z1), .val (.int i2), .val (.int i3), .val (.int i4), .val (.ref a5), .unset, .unset, .unset, .unset, .unset, .unset, .unset, .unset, .unset, .unset, .unset, .unset, .unset] []
      replace Ua5 := UDS.cong (t' := (i2.toInt / 100000)) Ua5 (by unfold stpI; rw [er_i8, if_neg (by omega), if_pos (by omega)]; omega) Iff.rfl
      refine g_aload (pc' := 86) C at_84 rfl rfl rfl ?_
      refine g_iload (pc' := 88) C at_86 rfl rfl ?_
      refine g_sipush (pc' := 91) (z := (10000 : Int32)) C at_88 rfl rfl ?_
      refine g_static (y := (⟨"com/example/rankfold/rankfold/UnsignedDecimalAppendPinLaw", "dig", "(II)C"⟩ : MethodName)) (pc' := 94) (k' := 1) (n' := 3) (S := [(.ref a5)]) (as := [(.int i2), (.int (10000 : Int32))]) C at_91 rfl (hw _ (List.mem_of_getElem? (i := 19) rfl)) (hw _ (List.mem_of_getElem? (i := 20) rfl)) (hw _ (List.mem_of_getElem? (i := 4) rfl)) (hw _ (List.mem_of_getElem? (i := 21) rfl)) (by decide) (lenOf pd_2 rfl) (con_dig W.l Z a0 hw i2 (10000 : Int32) (by omega) 10000 rfl (by decide) h11) rfl rfl (Nat.le_of_ble_eq_true rfl) (Nat.le_of_ble_eq_true rfl) rfl rfl (Nat.le_of_ble_eq_true rfl) (Nat.le_of_ble_eq_true rfl) all0 fun vh12 h12 qh12 Kh12 => ?_
      obtain ⟨⟨i9, rfl, er_i9⟩, eh⟩ := qh12
      subst eh
      show Go W Q h11 1 3 94 #[.val (.int p0), .val (.int p1), .val (.int p2), .val (.int p3), .val (.int z1), .val (.int i2), .val (.int i3), .val (.int i4), .val (.ref a5), .unset, .unset, .unset, .unset, .unset, .unset, .unset, .unset, .unset, .unset, .unset, .unset, .unset] [(.int i9), (.ref a5)]
      refine g_virtual (y := (⟨"com/example/rankfold/rankfold/UnsignedDecimal", "append", "(C)V"⟩ : MethodName)) (a := a5) (pc' := 97) (k' := 1) (n' := 3) (S := []) (as := [(.int i9)]) C at_94 rfl (hw _ (List.mem_of_getElem? (i := 22) rfl)) (hw _ (List.mem_of_getElem? (i := 24) rfl)) (hw _ (List.mem_of_getElem? (i := 9) rfl)) (hw _ (List.mem_of_getElem? (i := 26) rfl)) (hw _ (List.mem_of_getElem? (i := 23) rfl)) (hw _ (List.mem_of_getElem? (i := 25) rfl)) (by decide) Ua5.exa (lenOf pd_3 rfl) (con_append W.l Z a0 hw a5 (i2.toInt / 100000) (False) i9 h11 Ua5) rfl rfl (Nat.le_of_ble_eq_true rfl) (Nat.le_of_ble_eq_true rfl) rfl rfl (Nat.le_of_ble_eq_true rfl) (Nat.le_of_ble_eq_true rfl) (allS w_a5 all0) fun vh13 h13 qh13 Kh13 => ?_
      obtain ⟨rfl, Ua5⟩ := qh13
      show Go W Q h13 1 3 97 #[.val (.int p0), .val (.int p1), .val (.int p2), .val (.int p3), .val (.int z1), .val (.int i2), .val (.int i3), .val (.int i4), .val (.ref a5), .unset, .unset, .unset, .unset, .unset, .unset, .unset, .unset, .unset, .unset, .unset, .unset, .unset] []
      replace Ua5 := UDS.cong (t' := (i2.toInt / 10000)) Ua5 (by unfold stpI; rw [er_i9, if_neg (by omega), if_pos (by omega)]; omega) Iff.rfl
      refine g_aload (pc' := 99) C at_97 rfl rfl rfl ?_
      refine g_iload (pc' := 101) C at_99 rfl rfl ?_
      refine g_sipush (pc' := 104) (z := (1000 : Int32)) C at_101 rfl rfl ?_
      refine g_static (y := (⟨"com/example/rankfold/rankfold/UnsignedDecimalAppendPinLaw", "dig", "(II)C"⟩ : MethodName)) (pc' := 107) (k' := 1) (n' := 3) (S := [(.ref a5)]) (as := [(.int i2), (.int (1000 : Int32))]) C at_104 rfl (hw _ (List.mem_of_getElem? (i := 19) rfl)) (hw _ (List.mem_of_getElem? (i := 20) rfl)) (hw _ (List.mem_of_getElem? (i := 4) rfl)) (hw _ (List.mem_of_getElem? (i := 21) rfl)) (by decide) (lenOf pd_2 rfl) (con_dig W.l Z a0 hw i2 (1000 : Int32) (by omega) 1000 rfl (by decide) h13) rfl rfl (Nat.le_of_ble_eq_true rfl) (Nat.le_of_ble_eq_true rfl) rfl rfl (Nat.le_of_ble_eq_true rfl) (Nat.le_of_ble_eq_true rfl) all0 fun vh14 h14 qh14 Kh14 => ?_
      obtain ⟨⟨i10, rfl, er_i10⟩, eh⟩ := qh14
      subst eh
      show Go W Q h13 1 3 107 #[.val (.int p0), .val (.int p1), .val (.int p2), .val (.int p3), .val (.int z1), .val (.int i2), .val (.int i3), .val (.int i4), .val (.ref a5), .unset, .unset, .unset, .unset, .unset, .unset, .unset, .unset, .unset, .unset, .unset, .unset, .unset] [(.int i10), (.ref a5)]
      refine g_virtual (y := (⟨"com/example/rankfold/rankfold/UnsignedDecimal", "append", "(C)V"⟩ : MethodName)) (a := a5) (pc' := 110) (k' := 1) (n' := 3) (S := []) (as := [(.int i10)]) C at_107 rfl (hw _ (List.mem_of_getElem? (i := 22) rfl)) (hw _ (List.mem_of_getElem? (i := 24) rfl)) (hw _ (List.mem_of_getElem? (i := 9) rfl)) (hw _ (List.mem_of_getElem? (i := 26) rfl)) (hw _ (List.mem_of_getElem? (i := 23) rfl)) (hw _ (List.mem_of_getElem? (i := 25) rfl)) (by decide) Ua5.exa (lenOf pd_3 rfl) (con_append W.l Z a0 hw a5 (i2.toInt / 10000) (False) i10 h13 Ua5) rfl rfl (Nat.le_of_ble_eq_true rfl) (Nat.le_of_ble_eq_true rfl) rfl rfl (Nat.le_of_ble_eq_true rfl) (Nat.le_of_ble_eq_true rfl) (allS w_a5 all0) fun vh15 h15 qh15 Kh15 => ?_
      obtain ⟨rfl, Ua5⟩ := qh15
      show Go W Q h15 1 3 110 #[.val (.int p0), .val (.int p1), .val (.int p2), .val (.int p3), .val (.int z1), .val (.int i2), .val (.int i3), .val (.int i4), .val (.ref a5), .unset, .unset, .unset, .unset, .unset, .unset, .unset, .unset, .unset, .unset, .unset, .unset, .unset] []
      replace Ua5 := UDS.cong (t' := (i2.toInt / 1000)) Ua5 (by unfold stpI; rw [er_i10, if_neg (by omega), if_pos (by omega)]; omega) Iff.rfl
      refine g_aload (pc' := 112) C at_110 rfl rfl rfl ?_
      refine g_iload (pc' := 114) C at_112 rfl rfl ?_
      refine g_bipush (pc' := 116) (z := (100 : Int32)) C at_114 rfl rfl ?_
      refine g_static (y := (⟨"com/example/rankfold/rankfold/UnsignedDecimalAppendPinLaw", "dig", "(II)C"⟩ : MethodName)) (pc' := 119) (k' := 1) (n' := 3) (S := [(.ref a5)]) (as := [(.int i2), (.int (100 : Int32))]) C at_116 rfl (hw _ (List.mem_of_getElem? (i := 19) rfl)) (hw _ (List.mem_of_getElem? (i := 20) rfl)) (hw _ (List.mem_of_getElem? (i := 4) rfl)) (hw _ (List.mem_of_getElem? (i := 21) rfl)) (by decide) (lenOf pd_2 rfl) (con_dig W.l Z a0 hw i2 (100 : Int32) (by omega) 100 rfl (by decide) h15) rfl rfl (Nat.le_of_ble_eq_true rfl) (Nat.le_of_ble_eq_true rfl) rfl rfl (Nat.le_of_ble_eq_true rfl) (Nat.le_of_ble_eq_true rfl) all0 fun vh16 h16 qh16 Kh16 => ?_
      obtain ⟨⟨i11, rfl, er_i11⟩, eh⟩ := qh16
      subst eh
      show Go W Q h15 1 3 119 #[.val (.int p0), .val (.int p1), .val (.int p2), .val (.int p3), .val (.int z1), .val (.int i2), .val (.int i3), .val (.int i4), .val (.ref a5), .unset, .unset, .unset, .unset, .unset, .unset, .unset, .unset, .unset, .unset, .unset, .unset, .unset] [(.int i11), (.ref a5)]
      refine g_virtual (y := (⟨"com/example/rankfold/rankfold/UnsignedDecimal", "append", "(C)V"⟩ : MethodName)) (a := a5) (pc' := 122) (k' := 1) (n' := 3) (S := []) (as := [(.int i11)]) C at_119 rfl (hw _ (List.mem_of_getElem? (i := 22) rfl)) (hw _ (List.mem_of_getElem? (i := 24) rfl)) (hw _ (List.mem_of_getElem? (i := 9) rfl)) (hw _ (List.mem_of_getElem? (i := 26) rfl)) (hw _ (List.mem_of_getElem? (i := 23) rfl)) (hw _ (List.mem_of_getElem? (i := 25) rfl)) (by decide) Ua5.exa (lenOf pd_3 rfl) (con_append W.l Z a0 hw a5 (i2.toInt / 1000) (False) i11 h15 Ua5) rfl rfl (Nat.le_of_ble_eq_true rfl) (Nat.le_of_ble_eq_true rfl) rfl rfl (Nat.le_of_ble_eq_true rfl) (Nat.le_of_ble_eq_true rfl) (allS w_a5 all0) fun vh17 h17 qh17 Kh17 => ?_
      obtain ⟨rfl, Ua5⟩ := qh17
      show Go W Q h17 1 3 122 #[.val (.int p0), .val (.int p1), .val (.int p2), .val (.int p3), .val (.int z1), .val (.int i2), .val (.int i3), .val (.int i4), .val (.ref a5), .unset, .unset, .unset, .unset, .unset, .unset, .unset, .unset, .unset, .unset, .unset, .unset, .unset] []
      replace Ua5 := UDS.cong (t' := (i2.toInt / 100)) Ua5 (by unfold stpI; rw [er_i11, if_neg (by omega), if_pos (by omega)]; omega) Iff.rfl
      refine g_aload (pc' := 124) C at_122 rfl rfl rfl ?_
      refine g_iload (pc' := 126) C at_124 rfl rfl ?_
      refine g_bipush (pc' := 128) (z := (10 : Int32)) C at_126 rfl rfl ?_
      refine g_static (y := (⟨"com/example/rankfold/rankfold/UnsignedDecimalAppendPinLaw", "dig", "(II)C"⟩ : MethodName)) (pc' := 131) (k' := 1) (n' := 3) (S := [(.ref a5)]) (as := [(.int i2), (.int (10 : Int32))]) C at_128 rfl (hw _ (List.mem_of_getElem? (i := 19) rfl)) (hw _ (List.mem_of_getElem? (i := 20) rfl)) (hw _ (List.mem_of_getElem? (i := 4) rfl)) (hw _ (List.mem_of_getElem? (i := 21) rfl)) (by decide) (lenOf pd_2 rfl) (con_dig W.l Z a0 hw i2 (10 : Int32) (by omega) 10 rfl (by decide) h17) rfl rfl (Nat.le_of_ble_eq_true rfl) (Nat.le_of_ble_eq_true rfl) rfl rfl (Nat.le_of_ble_eq_true rfl) (Nat.le_of_ble_eq_true rfl) all0 fun vh18 h18 qh18 Kh18 => ?_
      obtain ⟨⟨i12, rfl, er_i12⟩, eh⟩ := qh18
      subst eh
      show Go W Q h17 1 3 131 #[.val (.int p0), .val (.int p1), .val (.int p2), .val (.int p3), .val (.int z1), .val (.int i2), .val (.int i3), .val (.int i4), .val (.ref a5), .unset, .unset, .unset, .unset, .unset, .unset, .unset, .unset, .unset, .unset, .unset, .unset, .unset] [(.int i12), (.ref a5)]
      refine g_virtual (y := (⟨"com/example/rankfold/rankfold/UnsignedDecimal", "append", "(C)V"⟩ : MethodName)) (a := a5) (pc' := 134) (k' := 1) (n' := 3) (S := []) (as := [(.int i12)]) C at_131 rfl (hw _ (List.mem_of_getElem? (i := 22) rfl)) (hw _ (List.mem_of_getElem? (i := 24) rfl)) (hw _ (List.mem_of_getElem? (i := 9) rfl)) (hw _ (List.mem_of_getElem? (i := 26) rfl)) (hw _ (List.mem_of_getElem? (i := 23) rfl)) (hw _ (List.mem_of_getElem? (i := 25) rfl)) (by decide) Ua5.exa (lenOf pd_3 rfl) (con_append W.l Z a0 hw a5 (i2.toInt / 100) (False) i12 h17 Ua5) rfl rfl (Nat.le_of_ble_eq_true rfl) (Nat.le_of_ble_eq_true rfl) rfl rfl (Nat.le_of_ble_eq_true rfl) (Nat.le_of_ble_eq_true rfl) (allS w_a5 all0) fun vh19 h19 qh19 Kh19 => ?_
      obtain ⟨rfl, Ua5⟩ := qh19
      show Go W Q h19 1 3 134 #[.val (.int p0), .val (.int p1), .val (.int p2), .val (.int p3), .val (.int z1), .val (.int i2), .val (.int i3), .val (.int i4), .val (.ref a5), .unset, .unset, .unset, .unset, .unset, .unset, .unset, .unset, .unset, .unset, .unset, .unset, .unset] []
      replace Ua5 := UDS.cong (t' := (i2.toInt / 10)) Ua5 (by unfold stpI; rw [er_i12, if_neg (by omega), if_pos (by omega)]; omega) Iff.rfl
      refine g_aload (pc' := 136) C at_134 rfl rfl rfl ?_
      refine g_iload (pc' := 138) C at_136 rfl rfl ?_
      refine g_iconst (pc' := 139) (z := (1 : Int32)) C at_138 rfl rfl ?_
      refine g_static (y := (⟨"com/example/rankfold/rankfold/UnsignedDecimalAppendPinLaw", "dig", "(II)C"⟩ : MethodName)) (pc' := 142) (k' := 1) (n' := 3) (S := [(.ref a5)]) (as := [(.int i2), (.int (1 : Int32))]) C at_139 rfl (hw _ (List.mem_of_getElem? (i := 19) rfl)) (hw _ (List.mem_of_getElem? (i := 20) rfl)) (hw _ (List.mem_of_getElem? (i := 4) rfl)) (hw _ (List.mem_of_getElem? (i := 21) rfl)) (by decide) (lenOf pd_2 rfl) (con_dig W.l Z a0 hw i2 (1 : Int32) (by omega) 1 rfl (by decide) h19) rfl rfl (Nat.le_of_ble_eq_true rfl) (Nat.le_of_ble_eq_true rfl) rfl rfl (Nat.le_of_ble_eq_true rfl) (Nat.le_of_ble_eq_true rfl) all0 fun vh20 h20 qh20 Kh20 => ?_
      obtain ⟨⟨i13, rfl, er_i13⟩, eh⟩ := qh20
      subst eh
      show Go W Q h19 1 3 142 #[.val (.int p0), .val (.int p1), .val (.int p2), .val (.int p3), .val (.int z1), .val (.int i2), .val (.int i3), .val (.int i4), .val (.ref a5), .unset, .unset, .unset, .unset, .unset, .unset, .unset, .unset, .unset, .unset, .unset, .unset, .unset] [(.int i13), (.ref a5)]
      refine g_virtual (y := (⟨"com/example/rankfold/rankfold/UnsignedDecimal", "append", "(C)V"⟩ : MethodName)) (a := a5) (pc' := 145) (k' := 1) (n' := 3) (S := []) (as := [(.int i13)]) C at_142 rfl (hw _ (List.mem_of_getElem? (i := 22) rfl)) (hw _ (List.mem_of_getElem? (i := 24) rfl)) (hw _ (List.mem_of_getElem? (i := 9) rfl)) (hw _ (List.mem_of_getElem? (i := 26) rfl)) (hw _ (List.mem_of_getElem? (i := 23) rfl)) (hw _ (List.mem_of_getElem? (i := 25) rfl)) (by decide) Ua5.exa (lenOf pd_3 rfl) (con_append W.l Z a0 hw a5 (i2.toInt / 10) (False) i13 h19 Ua5) rfl rfl (Nat.le_of_ble_eq_true rfl) (Nat.le_of_ble_eq_true rfl) rfl rfl (Nat.le_of_ble_eq_true rfl) (Nat.le_of_ble_eq_true rfl) (allS w_a5 all0) fun vh21 h21 qh21 Kh21 => ?_
      obtain ⟨rfl, Ua5⟩ := qh21
      show Go W Q h21 1 3 145 #[.val (.int p0), .val (.int p1), .val (.int p2), .val (.int p3), .val (.int z1), .val (.int i2), .val (.int i3), .val (.int i4), .val (.ref a5), .unset, .unset, .unset, .unset, .unset, .unset, .unset, .unset, .unset, .unset, .unset, .unset, .unset] []
      replace Ua5 := UDS.cong (t' := (i2.toInt / 1)) Ua5 (by unfold stpI; rw [er_i13, if_neg (by omega), if_pos (by omega)]; omega) Iff.rfl
      exact K_45 h21 _ (by rw [if_pos c45]) (Ua5.cong (by omega) ⟨fun y => y.elim, fun y => y c45⟩)
  intro h5 tb e_tb Ua5
  have m4 : 0 ≤ tb ∧ tb < 100000000 := by rw [e_tb]; split <;> omega
  refine g_aload (pc' := 147) C at_145 rfl rfl rfl ?_
  refine g_iload (pc' := 149) C at_147 rfl rfl ?_
  refine g_virtual (y := (⟨"com/example/rankfold/rankfold/UnsignedDecimal", "append", "(C)V"⟩ : MethodName)) (a := a5) (pc' := 152) (k' := 1) (n' := 3) (S := []) (as := [(.int i3)]) C at_149 rfl (hw _ (List.mem_of_getElem? (i := 22) rfl)) (hw _ (List.mem_of_getElem? (i := 24) rfl)) (hw _ (List.mem_of_getElem? (i := 9) rfl)) (hw _ (List.mem_of_getElem? (i := 26) rfl)) (hw _ (List.mem_of_getElem? (i := 23) rfl)) (hw _ (List.mem_of_getElem? (i := 25) rfl)) (by decide) Ua5.exa (lenOf pd_3 rfl) (con_append W.l Z a0 hw a5 tb (¬ (¬ ((p3 &&& (1 : Int32)).toInt = 0))) i3 h5 Ua5) rfl rfl (Nat.le_of_ble_eq_true rfl) (Nat.le_of_ble_eq_true rfl) rfl rfl (Nat.le_of_ble_eq_true rfl) (Nat.le_of_ble_eq_true rfl) (allS w_a5 all0) fun vh22 h22 qh22 Kh22 => ?_
  obtain ⟨rfl, Ua5⟩ := qh22
  show Go W Q h22 1 3 152 #[.val (.int p0), .val (.int p1), .val (.int p2), .val (.int p3), .val (.int z1), .val (.int i2), .val (.int i3), .val (.int i4), .val (.ref a5), .unset, .unset, .unset, .unset, .unset, .unset, .unset, .unset, .unset, .unset, .unset, .unset, .unset] []
  refine g_aload (pc' := 154) C at_152 rfl rfl rfl ?_
  refine g_virtual (y := (⟨"com/example/rankfold/rankfold/UnsignedDecimal", "value", "()I"⟩ : MethodName)) (a := a5) (pc' := 157) (k' := 1) (n' := 3) (S := []) (as := []) C at_154 rfl (hw _ (List.mem_of_getElem? (i := 35) rfl)) (hw _ (List.mem_of_getElem? (i := 37) rfl)) (hw _ (List.mem_of_getElem? (i := 9) rfl)) (hw _ (List.mem_of_getElem? (i := 39) rfl)) (hw _ (List.mem_of_getElem? (i := 36) rfl)) (hw _ (List.mem_of_getElem? (i := 38) rfl)) (by decide) Ua5.exa (lenOf pd_4 rfl) (con_value W.l Z a0 hw a5 (stpI tb i3.toInt) (False) h22 Ua5) rfl rfl (Nat.le_of_ble_eq_true rfl) (Nat.le_of_ble_eq_true rfl) rfl rfl (Nat.le_of_ble_eq_true rfl) (Nat.le_of_ble_eq_true rfl) all0 fun vh23 h23 qh23 Kh23 => ?_
  obtain ⟨⟨i14, rfl, er_i14⟩, eh⟩ := qh23
  subst eh
  show Go W Q h22 1 3 157 #[.val (.int p0), .val (.int p1), .val (.int p2), .val (.int p3), .val (.int z1), .val (.int i2), .val (.int i3), .val (.int i4), .val (.ref a5), .unset, .unset, .unset, .unset, .unset, .unset, .unset, .unset, .unset, .unset, .unset, .unset, .unset] [(.int i14)]
  refine g_istore (pc' := 159) (L' := #[.val (.int p0), .val (.int p1), .val (.int p2), .val (.int p3), .val (.int z1), .val (.int i2), .val (.int i3), .val (.int i4), .val (.ref a5), .val (.int i14), .unset, .unset, .unset, .unset, .unset, .unset, .unset, .unset, .unset, .unset, .unset, .unset]) C at_157 rfl rfl ?_
  refine g_aload (pc' := 161) C at_159 rfl rfl rfl ?_
  refine g_virtualP (y := (⟨"com/example/rankfold/rankfold/UnsignedDecimal", "isEmpty", "()Z"⟩ : MethodName)) (a := a5) (pc' := 164) (k' := 1) (n' := 3) (S := []) (as := []) C at_161 rfl (hw _ (List.mem_of_getElem? (i := 40) rfl)) (hw _ (List.mem_of_getElem? (i := 42) rfl)) (hw _ (List.mem_of_getElem? (i := 9) rfl)) (hw _ (List.mem_of_getElem? (i := 44) rfl)) (hw _ (List.mem_of_getElem? (i := 41) rfl)) (hw _ (List.mem_of_getElem? (i := 43) rfl)) (by decide) Ua5.exa (lenOf pd_5 rfl) (con_isEmpty W.l Z a0 hw a5 (stpI tb i3.toInt) (False) h22 Ua5) rfl rfl (Nat.le_of_ble_eq_true rfl) (Nat.le_of_ble_eq_true rfl) rfl rfl (Nat.le_of_ble_eq_true rfl) (Nat.le_of_ble_eq_true rfl) (S1 := [(.int (b2i (False)))]) rfl ?_
  refine g_nameI fun i15 e_i15 => ?_
  refine g_istore (pc' := 166) (L' := #[.val (.int p0), .val (.int p1), .val (.int p2), .val (.int p3), .val (.int z1), .val (.int i2), .val (.int i3), .val (.int i4), .val (.ref a5), .val (.int i14), .val (.int i15), .unset, .unset, .unset, .unset, .unset, .unset, .unset, .unset, .unset, .unset, .unset]) C at_164 rfl rfl ?_
  refine g_aload (pc' := 168) C at_166 rfl rfl rfl ?_
  refine g_iload (pc' := 170) C at_168 rfl rfl ?_
  refine g_virtual (y := (⟨"com/example/rankfold/rankfold/UnsignedDecimal", "append", "(C)V"⟩ : MethodName)) (a := a5) (pc' := 173) (k' := 1) (n' := 3) (S := []) (as := [(.int i4)]) C at_170 rfl (hw _ (List.mem_of_getElem? (i := 22) rfl)) (hw _ (List.mem_of_getElem? (i := 24) rfl)) (hw _ (List.mem_of_getElem? (i := 9) rfl)) (hw _ (List.mem_of_getElem? (i := 26) rfl)) (hw _ (List.mem_of_getElem? (i := 23) rfl)) (hw _ (List.mem_of_getElem? (i := 25) rfl)) (by decide) Ua5.exa (lenOf pd_3 rfl) (con_append W.l Z a0 hw a5 (stpI tb i3.toInt) (False) i4 h22 Ua5) rfl rfl (Nat.le_of_ble_eq_true rfl) (Nat.le_of_ble_eq_true rfl) rfl rfl (Nat.le_of_ble_eq_true rfl) (Nat.le_of_ble_eq_true rfl) (allS w_a5 all0) fun vh24 h24 qh24 Kh24 => ?_
  obtain ⟨rfl, Ua5⟩ := qh24
  show Go W Q h24 1 3 173 #[.val (.int p0), .val (.int p1), .val (.int p2), .val (.int p3), .val (.int z1), .val (.int i2), .val (.int i3), .val (.int i4), .val (.ref a5), .val (.int i14), .val (.int i15), .unset, .unset, .unset, .unset, .unset, .unset, .unset, .unset, .unset, .unset, .unset] []
  refine g_aload (pc' := 175) C at_173 rfl rfl rfl ?_
  refine g_virtual (y := (⟨"com/example/rankfold/rankfold/UnsignedDecimal", "value", "()I"⟩ : MethodName)) (a := a5) (pc' := 178) (k' := 1) (n' := 3) (S := []) (as := []) C at_175 rfl (hw _ (List.mem_of_getElem? (i := 35) rfl)) (hw _ (List.mem_of_getElem? (i := 37) rfl)) (hw _ (List.mem_of_getElem? (i := 9) rfl)) (hw _ (List.mem_of_getElem? (i := 39) rfl)) (hw _ (List.mem_of_getElem? (i := 36) rfl)) (hw _ (List.mem_of_getElem? (i := 38) rfl)) (by decide) Ua5.exa (lenOf pd_4 rfl) (con_value W.l Z a0 hw a5 (stpI (stpI tb i3.toInt) i4.toInt) (False) h24 Ua5) rfl rfl (Nat.le_of_ble_eq_true rfl) (Nat.le_of_ble_eq_true rfl) rfl rfl (Nat.le_of_ble_eq_true rfl) (Nat.le_of_ble_eq_true rfl) all0 fun vh25 h25 qh25 Kh25 => ?_
  obtain ⟨⟨i16, rfl, er_i16⟩, eh⟩ := qh25
  subst eh
  show Go W Q h24 1 3 178 #[.val (.int p0), .val (.int p1), .val (.int p2), .val (.int p3), .val (.int z1), .val (.int i2), .val (.int i3), .val (.int i4), .val (.ref a5), .val (.int i14), .val (.int i15), .unset, .unset, .unset, .unset, .unset, .unset, .unset, .unset, .unset, .unset, .unset] [(.int i16)]
  refine g_istore (pc' := 180) (L' := #[.val (.int p0), .val (.int p1), .val (.int p2), .val (.int p3), .val (.int z1), .val (.int i2), .val (.int i3), .val (.int i4), .val (.ref a5), .val (.int i14), .val (.int i15), .val (.int i16), .unset, .unset, .unset, .unset, .unset, .unset, .unset, .unset, .unset, .unset]) C at_178 rfl rfl ?_
  refine g_iload (pc' := 182) C at_180 rfl rfl ?_
  suffices K_182 : ∀ j17 : Int64, j17 = (if (p3 &&& (1 : Int32)).toInt = 0 then (0 : Int64) else (i2.toInt64)) → Go W Q h24 1 3 192 #[.val (.int p0), .val (.int p1), .val (.int p2), .val (.int p3), .val (.int z1), .val (.int i2), .val (.int i3), .val (.int i4), .val (.ref a5), .val (.int i14), .val (.int i15), .val (.int i16), .unset, .unset, .unset, .unset, .unset, .unset, .unset, .unset, .unset, .unset] [(.long j17)] by
    refine g_ifeqb (pc1 := 191) (pc2 := 185) C at_182 (by decide) rfl rfl e_z1 (fun (c182 : ¬ (¬ ((p3 &&& (1 : Int32)).toInt = 0))) => ?_) (fun (c182 : ¬ ((p3 &&& (1 : Int32)).toInt = 0)) => ?_)
    ·
      replace c182 : (p3 &&& (1 : Int32)).toInt = 0 := Decidable.not_not.mp c182
      refine g_lconst (pc' := 192) (z := (0 : Int64)) C at_191 rfl rfl ?_
      exact K_182 (0 : Int64) ((if_pos c182).symm)
    ·
      refine g_iload (pc' := 187) C at_185 rfl rfl ?_
      refine g_i2l (pc' := 188) C at_187 rfl ?_
      refine g_goto C at_188 (by decide) (pc' := 192) rfl ?_
      exact K_182 (i2.toInt64) ((if_neg c182).symm)
  intro j17 e_j17
  refine g_lstore (pc' := 194) (L' := #[.val (.int p0), .val (.int p1), .val (.int p2), .val (.int p3), .val (.int z1), .val (.int i2), .val (.int i3), .val (.int i4), .val (.ref a5), .val (.int i14), .val (.int i15), .val (.int i16), .val (.long j17), .second, .unset, .unset, .unset, .unset, .unset, .unset, .unset, .unset]) C at_192 rfl rfl ?_
  refine g_iload (pc' := 196) C at_194 rfl rfl ?_
  refine g_staticP (y := (⟨"com/example/rankfold/rankfold/UnsignedDecimalAppendPinLaw", "isDigit", "(C)Z"⟩ : MethodName)) (pc' := 199) (k' := 1) (n' := 3) (S := []) (as := [(.int i3)]) C at_196 rfl (hw _ (List.mem_of_getElem? (i := 45) rfl)) (hw _ (List.mem_of_getElem? (i := 46) rfl)) (hw _ (List.mem_of_getElem? (i := 4) rfl)) (hw _ (List.mem_of_getElem? (i := 47) rfl)) (by decide) (lenOf pd_6 rfl) (con_isDigit W.l Z a0 hw i3 h24) rfl rfl (Nat.le_of_ble_eq_true rfl) (Nat.le_of_ble_eq_true rfl) rfl rfl (Nat.le_of_ble_eq_true rfl) (Nat.le_of_ble_eq_true rfl) (S1 := [(.int (b2i (48 ≤ i3.toInt ∧ i3.toInt ≤ 57)))]) rfl ?_
  refine g_nameI fun i18 e_i18 => ?_
  refine g_istore (pc' := 201) (L' := #[.val (.int p0), .val (.int p1), .val (.int p2), .val (.int p3), .val (.int z1), .val (.int i2), .val (.int i3), .val (.int i4), .val (.ref a5), .val (.int i14), .val (.int i15), .val (.int i16), .val (.long j17), .second, .val (.int i18), .unset, .unset, .unset, .unset, .unset, .unset, .unset]) C at_199 rfl rfl ?_
  refine g_iload (pc' := 203) C at_201 rfl rfl ?_
  suffices K_203 : ∀ z19 : Int32, z19 = b2i ((48 ≤ i3.toInt ∧ i3.toInt ≤ 57) ∧ (48 ≤ i4.toInt ∧ i4.toInt ≤ 57)) → Go W Q h24 1 3 219 #[.val (.int p0), .val (.int p1), .val (.int p2), .val (.int p3), .val (.int z1), .val (.int i2), .val (.int i3), .val (.int i4), .val (.ref a5), .val (.int i14), .val (.int i15), .val (.int i16), .val (.long j17), .second, .val (.int i18), .unset, .unset, .unset, .unset, .unset, .unset, .unset] [(.int z19)] by
    refine g_ifeqb (pc1 := 218) (pc2 := 206) C at_203 (by decide) rfl rfl e_i18 (fun (c203 : ¬ (48 ≤ i3.toInt ∧ i3.toInt ≤ 57)) => ?_) (fun (c203 : 48 ≤ i3.toInt ∧ i3.toInt ≤ 57) => ?_)
    ·
      refine g_iconst (pc' := 219) (z := (0 : Int32)) C at_218 rfl rfl ?_
      exact K_203 (0 : Int32) ((rfl : (0 : Int32) = b2i False).trans (b2i_iff (iff_false_intro (fun y => c203 y.1)).symm))
    ·
      refine g_iload (pc' := 208) C at_206 rfl rfl ?_
      refine g_staticP (y := (⟨"com/example/rankfold/rankfold/UnsignedDecimalAppendPinLaw", "isDigit", "(C)Z"⟩ : MethodName)) (pc' := 211) (k' := 1) (n' := 3) (S := []) (as := [(.int i4)]) C at_208 rfl (hw _ (List.mem_of_getElem? (i := 45) rfl)) (hw _ (List.mem_of_getElem? (i := 46) rfl)) (hw _ (List.mem_of_getElem? (i := 4) rfl)) (hw _ (List.mem_of_getElem? (i := 47) rfl)) (by decide) (lenOf pd_6 rfl) (con_isDigit W.l Z a0 hw i4 h24) rfl rfl (Nat.le_of_ble_eq_true rfl) (Nat.le_of_ble_eq_true rfl) rfl rfl (Nat.le_of_ble_eq_true rfl) (Nat.le_of_ble_eq_true rfl) (S1 := [(.int (b2i (48 ≤ i4.toInt ∧ i4.toInt ≤ 57)))]) rfl ?_
      refine g_ifeqb (pc1 := 218) (pc2 := 214) C at_211 (by decide) rfl rfl rfl (fun (c211 : ¬ (48 ≤ i4.toInt ∧ i4.toInt ≤ 57)) => ?_) (fun (c211 : 48 ≤ i4.toInt ∧ i4.toInt ≤ 57) => ?_)
      ·
        refine g_iconst (pc' := 219) (z := (0 : Int32)) C at_218 rfl rfl ?_
        exact K_203 (0 : Int32) ((rfl : (0 : Int32) = b2i False).trans (b2i_iff ((and_iff_right c203).trans (iff_false_intro c211)).symm))
      ·
        refine g_iconst (pc' := 215) (z := (1 : Int32)) C at_214 rfl rfl ?_
        refine g_goto C at_215 (by decide) (pc' := 219) rfl ?_
        exact K_203 (1 : Int32) ((rfl : (1 : Int32) = b2i True).trans (b2i_iff ((and_iff_right c203).trans (iff_true_intro c211)).symm))
  intro z19 e_z19
  refine g_istore (pc' := 221) (L' := #[.val (.int p0), .val (.int p1), .val (.int p2), .val (.int p3), .val (.int z1), .val (.int i2), .val (.int i3), .val (.int i4), .val (.ref a5), .val (.int i14), .val (.int i15), .val (.int i16), .val (.long j17), .second, .val (.int i18), .val (.int z19), .unset, .unset, .unset, .unset, .unset, .unset]) C at_219 rfl rfl ?_
  refine g_lload (pc' := 223) C at_221 rfl rfl ?_
  refine g_ldc2L (pc' := 226) C at_223 rfl (hw _ (List.mem_of_getElem? (i := 48) rfl)) ?_
  refine g_lmul (pc' := 227) C at_226 rfl ?_
  refine g_iload (pc' := 229) C at_227 rfl rfl ?_
  refine g_bipush (pc' := 231) (z := (48 : Int32)) C at_229 rfl rfl ?_
  refine g_isub (pc' := 232) C at_231 rfl ?_
  refine g_i2l (pc' := 233) C at_232 rfl ?_
  refine g_ladd (pc' := 234) C at_233 rfl ?_
  refine g_nameJ fun j20 e_j20 => ?_
  refine g_lstore (pc' := 236) (L' := #[.val (.int p0), .val (.int p1), .val (.int p2), .val (.int p3), .val (.int z1), .val (.int i2), .val (.int i3), .val (.int i4), .val (.ref a5), .val (.int i14), .val (.int i15), .val (.int i16), .val (.long j17), .second, .val (.int i18), .val (.int z19), .val (.long j20), .second, .unset, .unset, .unset, .unset]) C at_234 rfl rfl ?_
  refine g_lload (pc' := 238) C at_236 rfl rfl ?_
  refine g_ldc2L (pc' := 241) C at_238 rfl (hw _ (List.mem_of_getElem? (i := 48) rfl)) ?_
  refine g_lmul (pc' := 242) C at_241 rfl ?_
  refine g_iload (pc' := 244) C at_242 rfl rfl ?_
  refine g_bipush (pc' := 246) (z := (48 : Int32)) C at_244 rfl rfl ?_
  refine g_isub (pc' := 247) C at_246 rfl ?_
  refine g_i2l (pc' := 248) C at_247 rfl ?_
  refine g_ladd (pc' := 249) C at_248 rfl ?_
  refine g_nameJ fun j21 e_j21 => ?_
  refine g_lstore (pc' := 251) (L' := #[.val (.int p0), .val (.int p1), .val (.int p2), .val (.int p3), .val (.int z1), .val (.int i2), .val (.int i3), .val (.int i4), .val (.ref a5), .val (.int i14), .val (.int i15), .val (.int i16), .val (.long j17), .second, .val (.int i18), .val (.int z19), .val (.long j20), .second, .val (.long j21), .second, .unset, .unset]) C at_249 rfl rfl ?_
  refine g_iload (pc' := 253) C at_251 rfl rfl ?_
  suffices K_253 : ∀ i22 : Int32, i22 = (if ¬ (48 ≤ i3.toInt ∧ i3.toInt ≤ 57) then (-1 : Int32) else (if (2147483647) < j20.toInt then (-1 : Int32) else (j20.toInt32))) → Go W Q h24 1 3 272 #[.val (.int p0), .val (.int p1), .val (.int p2), .val (.int p3), .val (.int z1), .val (.int i2), .val (.int i3), .val (.int i4), .val (.ref a5), .val (.int i14), .val (.int i15), .val (.int i16), .val (.long j17), .second, .val (.int i18), .val (.int z19), .val (.long j20), .second, .val (.long j21), .second, .unset, .unset] [(.int i22)] by
    refine g_ifeqb (pc1 := 271) (pc2 := 256) C at_253 (by decide) rfl rfl e_i18 (fun (c253 : ¬ (48 ≤ i3.toInt ∧ i3.toInt ≤ 57)) => ?_) (fun (c253 : 48 ≤ i3.toInt ∧ i3.toInt ≤ 57) => ?_)
    ·
      refine g_iconst (pc' := 272) (z := (-1 : Int32)) C at_271 rfl rfl ?_
      exact K_253 (-1 : Int32) ((if_pos c253).symm)
    ·
      refine g_lload (pc' := 258) C at_256 rfl rfl ?_
      refine g_ldc2L (pc' := 261) C at_258 rfl (hw _ (List.mem_of_getElem? (i := 49) rfl)) ?_
      refine g_lcmp (cd := .gt) (xi := j20.toInt) (yi := (2147483647)) (pc' := 262) (pc1 := 271) (pc2 := 265) C at_261 at_262 rfl (by decide) rfl rfl rfl rfl (fun (c261 : (2147483647) < j20.toInt) => ?_) (fun (c261 : ¬ ((2147483647) < j20.toInt)) => ?_)
      ·
        refine g_iconst (pc' := 272) (z := (-1 : Int32)) C at_271 rfl rfl ?_
        exact K_253 (-1 : Int32) (((if_pos c261).symm).trans (if_neg (fun y => y c253)).symm)
      ·
        refine g_lload (pc' := 267) C at_265 rfl rfl ?_
        refine g_l2i (pc' := 268) C at_267 rfl ?_
        refine g_goto C at_268 (by decide) (pc' := 272) rfl ?_
        exact K_253 (j20.toInt32) (((if_neg c261).symm).trans (if_neg (fun y => y c253)).symm)
  intro i22 e_i22
  refine g_istore (pc' := 274) (L' := #[.val (.int p0), .val (.int p1), .val (.int p2), .val (.int p3), .val (.int z1), .val (.int i2), .val (.int i3), .val (.int i4), .val (.ref a5), .val (.int i14), .val (.int i15), .val (.int i16), .val (.long j17), .second, .val (.int i18), .val (.int z19), .val (.long j20), .second, .val (.long j21), .second, .val (.int i22), .unset]) C at_272 rfl rfl ?_
  refine g_iload (pc' := 276) C at_274 rfl rfl ?_
  suffices K_276 : ∀ i23 : Int32, i23 = (if ¬ ((48 ≤ i3.toInt ∧ i3.toInt ≤ 57) ∧ (48 ≤ i4.toInt ∧ i4.toInt ≤ 57)) then (-1 : Int32) else (if (2147483647) < j21.toInt then (-1 : Int32) else (j21.toInt32))) → Go W Q h24 1 3 295 #[.val (.int p0), .val (.int p1), .val (.int p2), .val (.int p3), .val (.int z1), .val (.int i2), .val (.int i3), .val (.int i4), .val (.ref a5), .val (.int i14), .val (.int i15), .val (.int i16), .val (.long j17), .second, .val (.int i18), .val (.int z19), .val (.long j20), .second, .val (.long j21), .second, .val (.int i22), .unset] [(.int i23)] by
    refine g_ifeqb (pc1 := 294) (pc2 := 279) C at_276 (by decide) rfl rfl e_z19 (fun (c276 : ¬ ((48 ≤ i3.toInt ∧ i3.toInt ≤ 57) ∧ (48 ≤ i4.toInt ∧ i4.toInt ≤ 57))) => ?_) (fun (c276 : (48 ≤ i3.toInt ∧ i3.toInt ≤ 57) ∧ (48 ≤ i4.toInt ∧ i4.toInt ≤ 57)) => ?_)
    ·
      refine g_iconst (pc' := 295) (z := (-1 : Int32)) C at_294 rfl rfl ?_
      exact K_276 (-1 : Int32) ((if_pos c276).symm)
    ·
      refine g_lload (pc' := 281) C at_279 rfl rfl ?_
      refine g_ldc2L (pc' := 284) C at_281 rfl (hw _ (List.mem_of_getElem? (i := 49) rfl)) ?_
      refine g_lcmp (cd := .gt) (xi := j21.toInt) (yi := (2147483647)) (pc' := 285) (pc1 := 294) (pc2 := 288) C at_284 at_285 rfl (by decide) rfl rfl rfl rfl (fun (c284 : (2147483647) < j21.toInt) => ?_) (fun (c284 : ¬ ((2147483647) < j21.toInt)) => ?_)
      ·
        refine g_iconst (pc' := 295) (z := (-1 : Int32)) C at_294 rfl rfl ?_
        exact K_276 (-1 : Int32) (((if_pos c284).symm).trans (if_neg (fun y => y c276)).symm)
      ·
        refine g_lload (pc' := 290) C at_288 rfl rfl ?_
        refine g_l2i (pc' := 291) C at_290 rfl ?_
        refine g_goto C at_291 (by decide) (pc' := 295) rfl ?_
        exact K_276 (j21.toInt32) (((if_neg c284).symm).trans (if_neg (fun y => y c276)).symm)
  intro i23 e_i23
  refine g_istore (pc' := 297) (L' := #[.val (.int p0), .val (.int p1), .val (.int p2), .val (.int p3), .val (.int z1), .val (.int i2), .val (.int i3), .val (.int i4), .val (.ref a5), .val (.int i14), .val (.int i15), .val (.int i16), .val (.long j17), .second, .val (.int i18), .val (.int z19), .val (.long j20), .second, .val (.long j21), .second, .val (.int i22), .val (.int i23)]) C at_295 rfl rfl ?_
  refine g_iload (pc' := 299) C at_297 rfl rfl ?_
  suffices K_299 : ∀ z24 : Int32, z24 = b2i ((¬ (False)) ∧ ((i14.toInt = i22.toInt) ∧ (i16.toInt = i23.toInt))) → Go W Q h24 1 3 321 #[.val (.int p0), .val (.int p1), .val (.int p2), .val (.int p3), .val (.int z1), .val (.int i2), .val (.int i3), .val (.int i4), .val (.ref a5), .val (.int i14), .val (.int i15), .val (.int i16), .val (.long j17), .second, .val (.int i18), .val (.int z19), .val (.long j20), .second, .val (.long j21), .second, .val (.int i22), .val (.int i23)] [(.int z24)] by
    refine g_ifneb (pc1 := 320) (pc2 := 302) C at_299 (by decide) rfl rfl e_i15 (fun (c299 : False) => ?_) (fun (c299 : ¬ (False)) => ?_)
    ·
      refine g_iconst (pc' := 321) (z := (0 : Int32)) C at_320 rfl rfl ?_
      exact K_299 (0 : Int32) ((rfl : (0 : Int32) = b2i False).trans (b2i_iff (iff_false_intro (fun y => (fun y => y c299) y.1)).symm))
    ·
      refine g_iload (pc' := 304) C at_302 rfl rfl ?_
      refine g_iload (pc' := 306) C at_304 rfl rfl ?_
      refine g_icmp (xi := i14.toInt) (yi := i22.toInt) (pc1 := 320) (pc2 := 309) C at_306 (by decide) rfl rfl rfl rfl (fun (c306 : ¬ (i14.toInt = i22.toInt)) => ?_) (fun (c306 : ¬ (¬ (i14.toInt = i22.toInt))) => ?_)
      ·
        refine g_iconst (pc' := 321) (z := (0 : Int32)) C at_320 rfl rfl ?_
        exact K_299 (0 : Int32) ((rfl : (0 : Int32) = b2i False).trans (b2i_iff ((and_iff_right c299).trans (iff_false_intro (fun y => c306 y.1))).symm))
      ·
        replace c306 : i14.toInt = i22.toInt := Decidable.not_not.mp c306
        refine g_iload (pc' := 311) C at_309 rfl rfl ?_
        refine g_iload (pc' := 313) C at_311 rfl rfl ?_
        refine g_icmp (xi := i16.toInt) (yi := i23.toInt) (pc1 := 320) (pc2 := 316) C at_313 (by decide) rfl rfl rfl rfl (fun (c313 : ¬ (i16.toInt = i23.toInt)) => ?_) (fun (c313 : ¬ (¬ (i16.toInt = i23.toInt))) => ?_)
        ·
          refine g_iconst (pc' := 321) (z := (0 : Int32)) C at_320 rfl rfl ?_
          exact K_299 (0 : Int32) ((rfl : (0 : Int32) = b2i False).trans (b2i_iff ((and_iff_right c299).trans ((and_iff_right c306).trans (iff_false_intro c313))).symm))
        ·
          replace c313 : i16.toInt = i23.toInt := Decidable.not_not.mp c313
          refine g_iconst (pc' := 317) (z := (1 : Int32)) C at_316 rfl rfl ?_
          refine g_goto C at_317 (by decide) (pc' := 321) rfl ?_
          exact K_299 (1 : Int32) ((rfl : (1 : Int32) = b2i True).trans (b2i_iff ((and_iff_right c299).trans ((and_iff_right c306).trans (iff_true_intro c313))).symm))
  intro z24 e_z24
  refine g_retN C (by simp) at_321 (by decide) (by decide) ?_
  subst hQ
  refine congrArg (fun z => some (Value.int z)) (?_ : nar .boolean z24 = 1)
  rw [e_z24, nar_b2i]
  refine b2i_pos ?_
  have y0 : j17.toInt = tb := by
    rw [e_j17, e_tb]
    by_cases y : (p3 &&& (1 : Int32)).toInt = 0
    · rw [if_pos y, if_neg (fun z => z y)]; rfl
    · rw [if_neg y, if_pos y]; exact c_i2l i2
  have z48 : (48 : Int32).toInt = 48 := rfl
  have z10 : (10 : Int64).toInt = 10 := rfl
  have y1 := c_isub i3 48
  have y2 := rng32 (i3 - 48)
  have y3 := c_isub i4 48
  have y4 := rng32 (i4 - 48)
  rw [z48] at y1 y3
  have u1 : (i3 - 48).toInt64.toInt = i3.toInt - 48 := by rw [c_i2l]; omega
  have u2 : (i4 - 48).toInt64.toInt = i4.toInt - 48 := by rw [c_i2l]; omega
  have y5 := c_lmul j17 10
  have y6 := rng64 (j17 * 10)
  rw [z10, y0] at y5
  have u3 : (j17 * 10).toInt = tb * 10 := by omega
  have y7 := c_ladd (j17 * 10) (i3 - 48).toInt64
  have y8 := rng64 j20
  rw [← e_j20, u3, u1] at y7
  have u4 : j20.toInt = tb * 10 + (i3.toInt - 48) := by omega
  have y9 := c_lmul j20 10
  have ya := rng64 (j20 * 10)
  rw [z10, u4] at y9
  have u5 : (j20 * 10).toInt = (tb * 10 + (i3.toInt - 48)) * 10 := by omega
  have yb := c_ladd (j20 * 10) (i4 - 48).toInt64
  have yc := rng64 j21
  rw [← e_j21, u5, u2] at yb
  have u6 : j21.toInt = (tb * 10 + (i3.toInt - 48)) * 10 + (i4.toInt - 48) := by omega
  have v1 := c_l2i j20
  have v2 := rng32 j20.toInt32
  have v3 := c_l2i j21
  have v4 := rng32 j21.toInt32
  rw [u4] at v1
  rw [u6] at v3
  have w1 : i22.toInt = (if ¬ (48 ≤ i3.toInt ∧ i3.toInt ≤ 57) then (-1 : Int) else if 2147483647 < tb * 10 + (i3.toInt - 48) then -1 else j20.toInt32.toInt) := by rw [e_i22, u4]; (repeat' split) <;> rfl
  have w2 : i23.toInt = (if ¬ ((48 ≤ i3.toInt ∧ i3.toInt ≤ 57) ∧ (48 ≤ i4.toInt ∧ i4.toInt ≤ 57)) then (-1 : Int) else if 2147483647 < (tb * 10 + (i3.toInt - 48)) * 10 + (i4.toInt - 48) then -1 else j21.toInt32.toInt) := by rw [e_i23, u6]; (repeat' split) <;> rfl
  rw [er_i14, er_i16, w1, w2]
  exact ⟨id, own_fin1 m4.1 m4.2 v1 v2, own_fin2 m4.1 m4.2 v3 v4⟩
set_option maxRecDepth 65536 in
set_option maxHeartbeats 2000000 in
theorem comes_1 {Post : Tables → Env → Array Value → State → Outcome → State → Prop} (hpost : ∀ tb e args s v u, (limb_1_1.after args s (.returned v) u = true ∧ limb_1_2.after args s (.returned v) u = true ∧ True) → FrameEnd s (.returned v) u (Jvm.fieldLocs frame_1_writes args s ++ Jvm.arrayLocs frame_1_arrays args s ++ Jvm.staticLocs frame_1_statics s) 16 128 → Post tb e args s (.returned v) u) :
    ArmFor flags0 classFile x code maxLocals ret World_1 tables_1 room_1 Calls_1 rest_1 Pre_1 Post := by
  intro l hfl _ _ p e ha hc hk s m args below hf hA hF happ hP
  obtain ⟨hcalls, hrest, hpre⟩ := hP
  obtain ⟨-, -, -, hnamed, -, -, -, hat⟩ := (Spec.applies_iff hf).mp happ
  obtain ⟨hg, hn⟩ := and_e (Cond.before_iff.mp (show (Jvm.Cond.and given_1 narrow_1).before args s = true from hpre))
  obtain ⟨g1, g2⟩ := and_e hg
  obtain ⟨g3, g4⟩ := and_e g2
  obtain ⟨g5, g6⟩ := and_e g4
  obtain ⟨g7, g8⟩ := and_e g6
  obtain ⟨w0, w1, w2, w3, rfl⟩ : ∃ w0 w1 w2 w3 : Value, args = #[w0, w1, w2, w3] := by
    have hs : args.size = 4 := by simpa [Cond.value, given_1] using g1
    obtain ⟨L⟩ := args
    match L, hs with
    | [w0, w1, w2, w3], _ => exact ⟨w0, w1, w2, w3, rfl⟩
  have hw := fun d (hd : d ∈ tables_1) => atoms_spec (ws := Jvm.Cond.code x code maxLocals ret :: tables_1) hat d (List.mem_cons_of_mem _ hd)
  obtain ⟨i0, ei0⟩ := is_v g3
  obtain rfl : w0 = (.int i0) := Option.some.inj ei0
  obtain ⟨i1, ei1⟩ := is_v g5
  obtain rfl : w1 = (.int i1) := Option.some.inj ei1
  obtain ⟨i2, ei2⟩ := is_v g7
  obtain rfl : w2 = (.int i2) := Option.some.inj ei2
  obtain ⟨i3, ei3⟩ := is_v g8
  obtain rfl : w3 = (.int i3) := Option.some.inj ei3
  obtain ⟨n, o, h1, h2, h3, _, L, rfl, ⟨rfl, N⟩, hq⟩ := con_0 l s _ hw i0 i1 i2 i3 s.heap p e ha hc hk s m _ below hf ((Spec.applies_iff_loose hf).mp happ).1 ⟨rfl, State.Warmed39.refl s, rfl⟩ trivial
  refine ⟨n, _, h1, h2, h3, hpost _ _ _ _ _ _ ⟨Cond.after_iff.mpr rfl, Cond.after_iff.mpr (eq_i res_at (Term.int_eval (1)) rfl), trivial⟩ ⟨hq.1, hq.2.1, (hq.2.2.sift fun y hy => Or.inr ((N y hy).resolve_left (fun q => nomatch q))).mono (by decide) (by decide)⟩⟩
theorem main_1_1 : Claimed_1_1 := comes_1 fun _ _ _ _ _ _ h hF => ⟨h.1, hF⟩
theorem main_1_2 : Claimed_1_2 := comes_1 fun _ _ _ _ _ _ h hF => ⟨h.2.1, hF⟩
end Jvm.Pilot.@@N@@
namespace Jvm.Pilot.@@N@@
open Jvm Jvm.ClassFile Sem Op Lib Jvm.Free Jvm.Stand Jvm.Pilot.@@N@@.Jvm.D
/-! MADE BY PROGRAM (witnessworld.py) out of the Statement's table words and the real class files: 9 classes; the members and pool entries that the words name. The judged class is class 1, her method 4. -/
namespace start1
open Jvm.ClassFile
def u (s : String) : CpInfo := .utf8 (stringToUtf16 s)
/-- a pool by its gaps: so many unusable entries, then the entry; so many at the end -/
def gap : Nat → List CpInfo → List CpInfo
  | 0, r => r
  | n + 1, r => .unusable :: gap n r
def poolList (es : List (Nat × CpInfo)) (last : Nat) : List CpInfo := es.foldr (fun e r => gap e.1 (e.2 :: r)) (gap last [])
def pool (es : List (Nat × CpInfo)) (last : Nat) : Array CpInfo := ⟨poolList es last⟩
def fileOf (pool : Array CpInfo) (this : Nat) (attrs : Array Attribute := #[]) (ms : Array MethodInfo := #[]) (fl : Nat := 33) (sup : Nat := 0) (ifs : Array Nat := #[]) (fds : Array FieldInfo := #[]) : ClassFile where
  minorVersion := 0
  majorVersion := 65
  constantPool := pool
  accessFlags := fl
  thisClass := this
  superClass := sup
  interfaces := ifs
  fields := fds
  methods := ms
  attributes := attrs
def plain (name : String) (sup : Option ClassId) : Class where
  name := name
  kind := .ordinary
  loader := none
  accessFlags := 33
  super := sup
  interfaces := #[]
  cf := none
  fields := #[]
  methods := #[]
  instanceTypes := #[]
  staticTypes := #[]
  resolved := #[]
  callSites := []
  init := .initialized
  statics := none
  mirror := none

def pool0 : Array CpInfo := pool [(5, u "<init>"), (0, u "()V"), (1, .class_ 10), (1, u "java/lang/Object")] 113

def k0c0 : Code := { maxStack := 0, maxLocals := 1, code := object_method_1_code, exceptionTable := #[], attributes := #[] }
def k0m0 : Method := { name := "<init>", desc := "()V", sig := { parameters := [], returnType := none }, accessFlags := 1, code := some k0c0 }
/-- java/lang/Object -/
def k0 : Class := { plain "java/lang/Object" none with
  accessFlags := 33
  interfaces := #[]
  cf := some (fileOf pool0 8 #[] #[{ accessFlags := 1, nameIndex := 5, descriptorIndex := 6, attributes := #[] }] 33 0 #[] #[])
  fields := #[]
  methods := #[k0m0]
  instanceTypes := #[]
  staticTypes := #[]
  resolved := Array.replicate 124 none
  statics := none }

def pool1 : Array CpInfo := pool [(2, .class_ 4), (0, .nameAndType 5 6), (0, u "java/lang/Object"), (0, u "<init>"), (0, u "()V"), (0, .integer 65535), (0, .integer 2147483647), (0, .integer 100000000), (0, .methodref 11 12), (0, .class_ 13), (0, .nameAndType 14 15), (0, u "com/example/rankfold/rankfold/UnsignedDecimalAppendPinLaw"), (0, u "draw"), (0, u "(I)C"), (0, .class_ 17), (0, u "com/example/rankfold/rankfold/UnsignedDecimal"), (0, .methodref 16 3), (0, .integer 10000000), (0, .methodref 11 21), (0, .nameAndType 22 23), (0, u "dig"), (0, u "(II)C"), (0, .methodref 16 25), (0, .nameAndType 26 27), (0, u "append"), (0, u "(C)V"), (0, .integer 1000000), (0, .integer 100000), (0, .methodref 16 31), (0, .nameAndType 32 33), (0, u "value"), (0, u "()I"), (0, .methodref 16 35), (0, .nameAndType 36 37), (0, u "isEmpty"), (0, u "()Z"), (0, .methodref 11 39), (0, .nameAndType 40 41), (0, u "isDigit"), (0, u "(C)Z"), (0, .long 10), (3, .long 2147483647), (4, u "law"), (0, u "(IIII)Z")] 2

def k1m0 : Method := { name := "<init>", desc := "()V", sig := { parameters := [], returnType := none }, accessFlags := 2, code := none }
def k1c1 : Code := { maxStack := 3, maxLocals := 1, code := method_2_code, exceptionTable := #[], attributes := #[] }
def k1m1 : Method := { name := "draw", desc := "(I)C", sig := { parameters := [.int], returnType := some .char }, accessFlags := 10, code := some k1c1 }
def k1c2 : Code := { maxStack := 3, maxLocals := 2, code := method_3_code, exceptionTable := #[], attributes := #[] }
def k1m2 : Method := { name := "dig", desc := "(II)C", sig := { parameters := [.int, .int], returnType := some .char }, accessFlags := 10, code := some k1c2 }
def k1c3 : Code := { maxStack := 2, maxLocals := 1, code := method_4_code, exceptionTable := #[], attributes := #[] }
def k1m3 : Method := { name := "isDigit", desc := "(C)Z", sig := { parameters := [.char], returnType := some .boolean }, accessFlags := 10, code := some k1c3 }
def k1c4 : Code := { maxStack := 4, maxLocals := 22, code := code, exceptionTable := #[], attributes := #[] }
def k1m4 : Method := { name := "law", desc := "(IIII)Z", sig := { parameters := [.int, .int, .int, .int], returnType := some .boolean }, accessFlags := 9, code := some k1c4 }
/-- com/example/rankfold/rankfold/UnsignedDecimalAppendPinLaw -/
def k1 : Class := { plain "com/example/rankfold/rankfold/UnsignedDecimalAppendPinLaw" (some 0) with
  accessFlags := 49
  interfaces := #[]
  cf := some (fileOf pool1 11 #[] #[{ accessFlags := 2, nameIndex := 5, descriptorIndex := 6, attributes := #[] }, { accessFlags := 10, nameIndex := 14, descriptorIndex := 15, attributes := #[] }, { accessFlags := 10, nameIndex := 22, descriptorIndex := 23, attributes := #[] }, { accessFlags := 10, nameIndex := 40, descriptorIndex := 41, attributes := #[] }, { accessFlags := 9, nameIndex := 51, descriptorIndex := 52, attributes := #[] }] 49 2 #[] #[])
  fields := #[]
  methods := #[k1m0, k1m1, k1m2, k1m3, k1m4]
  instanceTypes := #[]
  staticTypes := #[]
  resolved := Array.replicate 55 none
  statics := none }

def pool2 : Array CpInfo := pool [(1, .methodref 2 3), (0, .class_ 4), (0, .nameAndType 5 6), (0, u "java/lang/Object"), (0, u "<init>"), (0, u "()V"), (0, .fieldref 8 9), (0, .class_ 10), (0, .nameAndType 11 12), (0, u "com/example/rankfold/rankfold/UnsignedDecimal"), (0, u "empty"), (0, u "Z"), (6, u "()I"), (6, u "append"), (0, u "(C)V"), (2, u "value"), (0, .fieldref 8 32), (0, .nameAndType 33 12), (0, u "invalid"), (0, .fieldref 8 35), (0, .nameAndType 30 36), (0, u "J"), (0, .long 10), (3, .long 2147483647), (1, u "INVALID"), (0, u "I"), (7, u "isEmpty"), (0, u "()Z")] 3

def k2c0 : Code := { maxStack := 2, maxLocals := 1, code := prog_49_method_1_code, exceptionTable := #[], attributes := #[] }
def k2m0 : Method := { name := "<init>", desc := "()V", sig := { parameters := [], returnType := none }, accessFlags := 0, code := some k2c0 }
def k2c1 : Code := { maxStack := 5, maxLocals := 2, code := prog_49_method_3_code, exceptionTable := #[], attributes := #[] }
def k2m1 : Method := { name := "append", desc := "(C)V", sig := { parameters := [.char], returnType := none }, accessFlags := 0, code := some k2c1 }
def k2c2 : Code := { maxStack := 2, maxLocals := 1, code := prog_49_method_4_code, exceptionTable := #[], attributes := #[] }
def k2m2 : Method := { name := "value", desc := "()I", sig := { parameters := [], returnType := some .int }, accessFlags := 0, code := some k2c2 }
def k2c3 : Code := { maxStack := 1, maxLocals := 1, code := prog_49_method_5_code, exceptionTable := #[], attributes := #[] }
def k2m3 : Method := { name := "isEmpty", desc := "()Z", sig := { parameters := [], returnType := some .boolean }, accessFlags := 0, code := some k2c3 }
/-- com/example/rankfold/rankfold/UnsignedDecimal -/
def k2 : Class := { plain "com/example/rankfold/rankfold/UnsignedDecimal" (some 0) with
  accessFlags := 48
  interfaces := #[]
  cf := some (fileOf pool2 8 #[] #[{ accessFlags := 0, nameIndex := 5, descriptorIndex := 6, attributes := #[] }, { accessFlags := 0, nameIndex := 26, descriptorIndex := 27, attributes := #[] }, { accessFlags := 0, nameIndex := 30, descriptorIndex := 19, attributes := #[] }, { accessFlags := 0, nameIndex := 52, descriptorIndex := 53, attributes := #[] }] 48 2 #[] #[{ accessFlags := 24, nameIndex := 43, descriptorIndex := 44, attributes := #[] }, { accessFlags := 2, nameIndex := 30, descriptorIndex := 36, attributes := #[] }, { accessFlags := 2, nameIndex := 11, descriptorIndex := 12, attributes := #[] }, { accessFlags := 2, nameIndex := 33, descriptorIndex := 12, attributes := #[] }])
  fields := #[{ name := "INVALID", type := .int, accessFlags := 24, slot := 0, constantValue := 0 }, { name := "value", type := .long, accessFlags := 2, slot := 0, constantValue := 0 }, { name := "empty", type := .boolean, accessFlags := 2, slot := 1, constantValue := 0 }, { name := "invalid", type := .boolean, accessFlags := 2, slot := 2, constantValue := 0 }]
  methods := #[k2m0, k2m1, k2m2, k2m3]
  instanceTypes := #[.long, .boolean, .boolean]
  staticTypes := #[.int]
  resolved := Array.replicate 57 none
  statics := none }

def pool3 : Array CpInfo := pool [(1, u "java/lang/Cloneable"), (0, .class_ 1), (0, u "java/lang/Object"), (0, .class_ 3)] 3

/-- java/lang/Cloneable -/
def k3 : Class := { plain "java/lang/Cloneable" (some 0) with
  accessFlags := 1537
  interfaces := #[]
  cf := some (fileOf pool3 2 #[] #[] 1537 4 #[] #[])
  fields := #[]
  methods := #[]
  instanceTypes := #[]
  staticTypes := #[]
  resolved := Array.replicate 8 none
  statics := none }

def pool4 : Array CpInfo := pool [(1, u "java/io/Serializable"), (0, .class_ 1), (0, u "java/lang/Object"), (0, .class_ 3)] 3

/-- java/io/Serializable -/
def k4 : Class := { plain "java/io/Serializable" (some 0) with
  accessFlags := 1537
  interfaces := #[]
  cf := some (fileOf pool4 2 #[] #[] 1537 4 #[] #[])
  fields := #[]
  methods := #[]
  instanceTypes := #[]
  staticTypes := #[]
  resolved := Array.replicate 8 none
  statics := none }

/-- the primitive byte -/
def k5 : Class := { plain "byte" none with kind := .primitive 'B', accessFlags := 0x411 }
/-- [B -/
def k6 : Class := { plain "[B" (some 0) with kind := .array 5 .byte, interfaces := #[3, 4], accessFlags := 1041 }

/-- the primitive int -/
def k7 : Class := { plain "int" none with kind := .primitive 'I', accessFlags := 0x411 }
/-- [I -/
def k8 : Class := { plain "[I" (some 0) with kind := .array 7 .int, interfaces := #[3, 4], accessFlags := 1041 }

def heap : Heap := #[]
def classes : Array Class := #[k0, k1, k2, k3, k4, k5, k6, k7, k8]
def interned : List (Array UInt16 × Addr) := []
def slotsUsed : Nat := 0
def theMethod : MethodId := ⟨1, 4⟩
def args0 : Array Value := #[.int 5, .int 1, .int 2, .int 3]
def aboutOver (below : List Frame) : State where
  vm := { classes := classes, interned := interned.toArray }
  heap := heap
  slotsUsed := slotsUsed
  threads := #[{ frames := .invoking theMethod args0 :: below }]
def below0 : List Frame := [.native { method := ⟨0, 0⟩, args := #[] }]
def about1 : State := aboutOver below0
def p0 : Program := .bare "" "" ""
def e0 : Env := launch0.env 0 0 0
theorem w_frames : about1.frames = Frame.invoking theMethod args0 :: below0 := rfl
set_option maxRecDepth 65536 in
theorem w_args : argsFit about1.vm theMethod args0 = true := by decide +kernel
set_option maxRecDepth 65536 in
theorem w_heap : heapFits about1 = true := by decide +kernel
set_option maxRecDepth 65536 in
theorem w_runnable : about1.curStatus? = some .runnable := by decide +kernel
set_option maxRecDepth 65536 in
theorem w_alone : about1.alone = true := by decide +kernel
set_option maxRecDepth 65536 in
theorem w_named : about1.methodNamed? x = some theMethod := by decide +kernel
set_option maxRecDepth 65536 in
theorem w_hears : about1.hears theMethod below0 = true := by decide +kernel
set_option maxRecDepth 65536 in
theorem w_ripe : about1.ripe theMethod args0 below0 = true := by decide +kernel
theorem w_running : about1.status = .running := rfl
set_option maxRecDepth 65536 in
theorem w_room : about1.hasRoom e0.platform room_1 = true :=
  launch0.hasRoom_least _ room_1 (by decide +kernel) (by decide +kernel) (by decide +kernel) (by decide +kernel) (by decide +kernel) (by decide +kernel)
theorem allAtoms_all (ts : List Jvm.Cond) (a : Array Jvm.Value) (st : Jvm.State) : (allAtoms ts).before a st = ts.all (fun c => c.before a st) := by
  induction ts with
  | nil => rfl
  | cons c t ih =>
    show (Jvm.Cond.and c (allAtoms t)).before a st = _
    rw [Jvm.Cond.before_and, ih, List.all_cons]
def words1 : List Jvm.Cond := Jvm.Cond.code x code maxLocals ret :: tables_1
/-- a 'code' word, met by the world's own term for the bytes: nothing is compared byte by byte -/
theorem code_word {y : MethodName} {bytes : ByteArray} {mx : Nat} {rt : Option FieldType} {a : Array Value} {s : State} {m : MethodId} {meth : Method} {c : Code} (h1 : s.methodNamed? y = some m) (h2 : s.vm.method? m = some meth) (h3 : meth.code = some c) (h4 : c.code = bytes)
    (h5 : (c.maxLocals == mx && c.exceptionTable.isEmpty && decide (c.maxStack ≤ mostOperands) && decide (meth.sig.returnType = rt) && !meth.locks && decide (parseMethodDescriptor y.desc = some meth.sig)) = true) : (Jvm.Cond.code y bytes mx rt).before a s = true := by
  simp only [Bool.and_eq_true, beq_iff_eq, Bool.not_eq_true', decide_eq_true_eq] at h5
  obtain ⟨⟨⟨⟨⟨g1, g2⟩, g3⟩, g4⟩, g5⟩, g6⟩ := h5
  simp [Cond.before, Cond.holds, Cond.value, h1, h2, h3, h4, g1, g2, g3, g4, g5, g6]
def isCode : Jvm.Cond → Bool
  | .code _ _ _ _ => true
  | _ => false
theorem all_split {L : List Jvm.Cond} {P : Jvm.Cond → Bool} (h1 : L.all (fun c => isCode c || P c) = true) (h2 : ∀ c ∈ L.filter isCode, P c = true) : L.all P = true := by
  refine List.all_eq_true.mpr fun c hc => ?_
  have h := List.all_eq_true.mp h1 c hc
  rcases Bool.eq_false_or_eq_true (isCode c) with hi | hi
  · exact h2 c (List.mem_filter.mpr ⟨hc, hi⟩)
  · simpa [hi] using h
set_option maxRecDepth 65536 in
theorem w_c0 : (Jvm.Cond.code x code maxLocals ret).before args0 about1 = true := code_word (m := ⟨1, 4⟩) (meth := k1m4) (c := k1c4) (by decide +kernel) rfl rfl rfl (by decide +kernel)
set_option maxRecDepth 65536 in
theorem w_c1 : (Jvm.Cond.code ({ cls := "com/example/rankfold/rankfold/UnsignedDecimalAppendPinLaw", name := "draw", desc := "(I)C" } : Jvm.MethodName) method_2_code (1 : Nat) (Option.some Jvm.ClassFile.FieldType.char)).before args0 about1 = true := code_word (m := ⟨1, 1⟩) (meth := k1m1) (c := k1c1) (by decide +kernel) rfl rfl rfl (by decide +kernel)
set_option maxRecDepth 65536 in
theorem w_c2 : (Jvm.Cond.code ({ cls := "com/example/rankfold/rankfold/UnsignedDecimal", name := "<init>", desc := "()V" } : Jvm.MethodName) prog_49_method_1_code (1 : Nat) (Option.none : Option Jvm.ClassFile.FieldType)).before args0 about1 = true := code_word (m := ⟨2, 0⟩) (meth := k2m0) (c := k2c0) (by decide +kernel) rfl rfl rfl (by decide +kernel)
set_option maxRecDepth 65536 in
theorem w_c3 : (Jvm.Cond.code ({ cls := "java/lang/Object", name := "<init>", desc := "()V" } : Jvm.MethodName) object_method_1_code (1 : Nat) (Option.none : Option Jvm.ClassFile.FieldType)).before args0 about1 = true := code_word (m := ⟨0, 0⟩) (meth := k0m0) (c := k0c0) (by decide +kernel) rfl rfl rfl (by decide +kernel)
set_option maxRecDepth 65536 in
theorem w_c4 : (Jvm.Cond.code ({ cls := "com/example/rankfold/rankfold/UnsignedDecimalAppendPinLaw", name := "dig", desc := "(II)C" } : Jvm.MethodName) method_3_code (2 : Nat) (Option.some Jvm.ClassFile.FieldType.char)).before args0 about1 = true := code_word (m := ⟨1, 2⟩) (meth := k1m2) (c := k1c2) (by decide +kernel) rfl rfl rfl (by decide +kernel)
set_option maxRecDepth 65536 in
theorem w_c5 : (Jvm.Cond.code ({ cls := "com/example/rankfold/rankfold/UnsignedDecimal", name := "append", desc := "(C)V" } : Jvm.MethodName) prog_49_method_3_code (2 : Nat) (Option.none : Option Jvm.ClassFile.FieldType)).before args0 about1 = true := code_word (m := ⟨2, 1⟩) (meth := k2m1) (c := k2c1) (by decide +kernel) rfl rfl rfl (by decide +kernel)
set_option maxRecDepth 65536 in
theorem w_c6 : (Jvm.Cond.code ({ cls := "com/example/rankfold/rankfold/UnsignedDecimal", name := "value", desc := "()I" } : Jvm.MethodName) prog_49_method_4_code (1 : Nat) (Option.some Jvm.ClassFile.FieldType.int)).before args0 about1 = true := code_word (m := ⟨2, 2⟩) (meth := k2m2) (c := k2c2) (by decide +kernel) rfl rfl rfl (by decide +kernel)
set_option maxRecDepth 65536 in
theorem w_c7 : (Jvm.Cond.code ({ cls := "com/example/rankfold/rankfold/UnsignedDecimal", name := "isEmpty", desc := "()Z" } : Jvm.MethodName) prog_49_method_5_code (1 : Nat) (Option.some Jvm.ClassFile.FieldType.boolean)).before args0 about1 = true := code_word (m := ⟨2, 3⟩) (meth := k2m3) (c := k2c3) (by decide +kernel) rfl rfl rfl (by decide +kernel)
set_option maxRecDepth 65536 in
theorem w_c8 : (Jvm.Cond.code ({ cls := "com/example/rankfold/rankfold/UnsignedDecimalAppendPinLaw", name := "isDigit", desc := "(C)Z" } : Jvm.MethodName) method_4_code (1 : Nat) (Option.some Jvm.ClassFile.FieldType.boolean)).before args0 about1 = true := code_word (m := ⟨1, 3⟩) (meth := k1m3) (c := k1c3) (by decide +kernel) rfl rfl rfl (by decide +kernel)
def codes1 : List Jvm.Cond := [Jvm.Cond.code x code maxLocals ret, Jvm.Cond.code ({ cls := "com/example/rankfold/rankfold/UnsignedDecimalAppendPinLaw", name := "draw", desc := "(I)C" } : Jvm.MethodName) method_2_code (1 : Nat) (Option.some Jvm.ClassFile.FieldType.char), Jvm.Cond.code ({ cls := "com/example/rankfold/rankfold/UnsignedDecimal", name := "<init>", desc := "()V" } : Jvm.MethodName) prog_49_method_1_code (1 : Nat) (Option.none : Option Jvm.ClassFile.FieldType), Jvm.Cond.code ({ cls := "java/lang/Object", name := "<init>", desc := "()V" } : Jvm.MethodName) object_method_1_code (1 : Nat) (Option.none : Option Jvm.ClassFile.FieldType), Jvm.Cond.code ({ cls := "com/example/rankfold/rankfold/UnsignedDecimalAppendPinLaw", name := "dig", desc := "(II)C" } : Jvm.MethodName) method_3_code (2 : Nat) (Option.some Jvm.ClassFile.FieldType.char), Jvm.Cond.code ({ cls := "com/example/rankfold/rankfold/UnsignedDecimal", name := "append", desc := "(C)V" } : Jvm.MethodName) prog_49_method_3_code (2 : Nat) (Option.none : Option Jvm.ClassFile.FieldType), Jvm.Cond.code ({ cls := "com/example/rankfold/rankfold/UnsignedDecimal", name := "value", desc := "()I" } : Jvm.MethodName) prog_49_method_4_code (1 : Nat) (Option.some Jvm.ClassFile.FieldType.int), Jvm.Cond.code ({ cls := "com/example/rankfold/rankfold/UnsignedDecimal", name := "isEmpty", desc := "()Z" } : Jvm.MethodName) prog_49_method_5_code (1 : Nat) (Option.some Jvm.ClassFile.FieldType.boolean), Jvm.Cond.code ({ cls := "com/example/rankfold/rankfold/UnsignedDecimalAppendPinLaw", name := "isDigit", desc := "(C)Z" } : Jvm.MethodName) method_4_code (1 : Nat) (Option.some Jvm.ClassFile.FieldType.boolean)]
set_option maxRecDepth 65536 in
theorem codes_eq : words1.filter isCode = codes1 := rfl
theorem w_codes : ∀ c ∈ words1.filter isCode, c.before args0 about1 = true := by
  rw [codes_eq]
  intro c hc
  simp only [codes1, List.mem_cons, List.not_mem_nil, or_false] at hc
  rcases hc with rfl | rfl | rfl | rfl | rfl | rfl | rfl | rfl | rfl
  · exact w_c0
  · exact w_c1
  · exact w_c2
  · exact w_c3
  · exact w_c4
  · exact w_c5
  · exact w_c6
  · exact w_c7
  · exact w_c8
set_option maxRecDepth 65536 in
theorem w_t1 : (words1.take 24).all (fun c => isCode c || c.before args0 about1) = true := by decide +kernel
set_option maxRecDepth 65536 in
theorem w_t2 : ((words1.drop 24).take 24).all (fun c => isCode c || c.before args0 about1) = true := by decide +kernel
set_option maxRecDepth 65536 in
theorem w_t3 : ((words1.drop 24).drop 24).all (fun c => isCode c || c.before args0 about1) = true := by decide +kernel
theorem w_tables : (allAtoms (Jvm.Cond.code x code maxLocals ret :: tables_1)).before args0 about1 = true := by
  rw [allAtoms_all]
  show words1.all (fun c => c.before args0 about1) = true
  refine all_split ?_ w_codes
  rw [← List.take_append_drop 24 words1, List.all_append, w_t1, ← List.take_append_drop 24 (words1.drop 24), List.all_append, w_t2, w_t3]
  rfl
set_option maxRecDepth 65536 in
theorem w_case : (Jvm.Cond.and given_1 narrow_1).before args0 about1 = true := by decide +kernel
theorem w_applies : (headSpec (Jvm.Cond.code x code maxLocals ret :: tables_1) room_1).applies x e0.platform about1 = true :=
  (Spec.applies_iff w_frames).mpr ⟨w_running, w_runnable, w_alone, w_named, w_hears, w_ripe, w_room, w_tables⟩
theorem atStart : AtStart classFile x code maxLocals ret World_1 tables_1 room_1 Calls_1 rest_1 Pre_1 launch0 p0 e0 about1 theMethod args0 below0 :=
  ⟨lists_1, trivial, launch0.admits_env _ _ _, launch0.least_env, fairChoices_fair.cas, fairChoices_fair.clock, w_frames, w_args, w_heap, w_applies, trivial, trivial, w_case⟩
end start1
theorem witness_1 : WitnessClaimed_1 := ⟨start1.p0, start1.e0, start1.about1, start1.theMethod, start1.args0, start1.below0, start1.atStart⟩
end Jvm.Pilot.@@N@@
