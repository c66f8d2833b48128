import JvmDerived
import JvmDerived.Pilot.@@N@@Statement
import JvmDerived.Pilot.@@N@@Code
set_option linter.unusedVariables false
set_option linter.unusedSimpArgs false
namespace Jvm.OwnKit
open Jvm Jvm.ClassFile Sem Op Lib Jvm.Free Jvm.Stand Jvm.LawKit Jvm.RoadKit Bundle
/-- what is fixed in one body's walk: program, launch, environment, room, state at the call, method, arguments, frames below, its record, its code, the old addresses that it may write -/
abbrev Wk : Type := Program × Launch × Env × Room × State × MethodId × Array Value × List Frame × Method × Code × List Addr
abbrev Wk.p (W : Wk) : Program := W.1
abbrev Wk.l (W : Wk) : Launch := W.2.1
abbrev Wk.e (W : Wk) : Env := W.2.2.1
abbrev Wk.R (W : Wk) : Room := W.2.2.2.1
abbrev Wk.s (W : Wk) : State := W.2.2.2.2.1
abbrev Wk.m (W : Wk) : MethodId := W.2.2.2.2.2.1
abbrev Wk.args (W : Wk) : Array Value := W.2.2.2.2.2.2.1
abbrev Wk.below (W : Wk) : List Frame := W.2.2.2.2.2.2.2.1
abbrev Wk.meth (W : Wk) : Method := W.2.2.2.2.2.2.2.2.1
abbrev Wk.c (W : Wk) : Code := W.2.2.2.2.2.2.2.2.2.1
abbrev Wk.ws (W : Wk) : List Addr := W.2.2.2.2.2.2.2.2.2.2
/-- an address that may be written: a named old one, or a new one -/
def Pw (W : Wk) (a : Addr) : Prop := a ∈ W.ws ∨ W.s.heap.size ≤ a
abbrev Sta0 (W : Wk) (T : State) (locs : List Loc) (k n : Nat) : Prop := Stand W.p W.l W.e W.R W.s W.m W.args W.below W.meth W.c T locs k n
abbrev Stp (W : Wk) (S t : State) : Prop := Steps W.p.tables W.e W.below S t
def Sd (W : Wk) (T : State) (h : Heap) (k n : Nat) : Prop := ∃ locs, Sta0 W T locs k n ∧ T.heap = h ∧ ∀ y ∈ locs, Pw W y.base
/-- from S the body comes to its end, returning what Q says -/
def Out (W : Wk) (Q : Option Value → Heap → Prop) (S : State) : Prop := ∃ s₂ o, Stp W S s₂ ∧ s₂.status = .running ∧ Ended s₂ W.below o ∧ ∃ v L, o = .returned v ∧ (Q v s₂.heap ∧ ∀ y ∈ L, Pw W y.base) ∧ FrameEnd W.s o s₂ L W.R.cells W.R.slots
/-- from every state that stands here over the heap h, the body comes to its end as Q says -/
def Go (W : Wk) (Q : Option Value → Heap → Prop) (h : Heap) (k n pc : Nat) (L : Array Slot) (S : List Value) : Prop := ∀ T, Sd W T h k n → Out W Q (T.setTop (mkF W.m pc L S))
def Cx (W : Wk) (Z : State) (R : Room) (own : String) (code : ByteArray) (mx : Nat) (ret : Option FieldType) (nm : String) (ws : List Addr) (h0 : Heap) : Prop :=
  W.p.tables.exec = Jvm.exec ∧ Z.Warmed39 W.s.vm ∧ W.s.vm.findClass own = some W.m.cls ∧ W.c.code = code ∧ W.c.maxLocals = mx ∧ W.meth.sig.returnType = ret ∧ W.meth.locks = false ∧ W.meth.name = nm ∧ W.R = R ∧ W.ws = ws ∧ W.s.heap = h0
/-- a body's contract at the heap h: ws: the old addresses that it may write -/
def Con (l : Launch) (Z : State) (w0 : List Jvm.Cond) (y : MethodName) (bytes : ByteArray) (mx : Nat) (ret : Option FieldType) (rm : Room) (as : Array Value) (h : Heap) (ws : List Addr) (Q : Option Value → Heap → Prop) : Prop :=
  MetFree l y (head1 (Jvm.Cond.code y bytes mx ret :: w0) rm) (fun a U => a = as ∧ Z.Warmed39 U.vm ∧ U.heap = h) (fun _ _ _ _ _ => True)
    (fun _ U o U' => ∃ v L, o = .returned v ∧ (Q v U'.heap ∧ ∀ y ∈ L, y.base ∈ ws ∨ h.size ≤ y.base) ∧ FrameEnd U o U' L rm.cells rm.slots)
/-- a truth value as an int -/
def b2i (P : Prop) [Decidable P] : Int32 := if P then 1 else 0
theorem b2i_pos {P : Prop} [Decidable P] (h : P) : b2i P = 1 := if_pos h
theorem b2i_neg {P : Prop} [Decidable P] (h : ¬ P) : b2i P = 0 := if_neg h
theorem b2i_iff {P Q : Prop} [Decidable P] [Decidable Q] (h : P ↔ Q) : b2i P = b2i Q := by by_cases q : Q <;> simp [b2i, h, q]
theorem b2i_toInt (P : Prop) [Decidable P] : (b2i P).toInt = if P then 1 else 0 := by unfold b2i; split <;> rfl
theorem b2i_one {P : Prop} [Decidable P] : b2i P = 1 ↔ P := by unfold b2i; split <;> simp [*]
theorem b2i_zero {P : Prop} [Decidable P] : b2i P = 0 ↔ ¬ P := by unfold b2i; split <;> simp [*]
theorem nar_b2i (P : Prop) [Decidable P] : nar .boolean (b2i P) = b2i P := by unfold b2i; split <;> rfl
theorem b2i_inj {P Q : Prop} [Decidable P] [Decidable Q] : b2i P = b2i Q ↔ (P ↔ Q) := by unfold b2i; split <;> split <;> simp [*]
theorem ref_cat {v : Value} (h : v.isRef = true) : v.category = 1 := by cases v <;> simp [Value.isRef] at h ⊢ <;> rfl
theorem narrow_ref {t : FieldType} {v : Value} (h : v.isRef = true) : narrow t v = v := by cases v <;> simp [Value.isRef] at h <;> cases t <;> rfl
theorem fits_b2i (P : Prop) [Decidable P] : fits .boolean (.int (b2i P)) = true := by unfold b2i; split <;> rfl
theorem fits_ref0 {t : FieldType} {v : Value} (h : v.isRef = true) (ht : refKind t = true := by rfl) : fits t v = true := by cases v <;> simp [Value.isRef] at h <;> cases t <;> simp_all [refKind, fits]
section Facts
variable {Z : State} {h h' : Heap} {a b : Addr} {C : String} {ws : List Addr}
/-- an object of the class C: its fields (declaring class, name, descriptor, value) -/
def Ob (Z : State) (h : Heap) (a : Addr) (C : String) (fs : List (String × String × String × Value)) : Prop :=
  Exa Z h a C ∧ (∀ f ∈ fs, Fld Z h a f.1 f.2.1 f.2.2.1 f.2.2.2) ∧ (fs.map fun f => RoadKit.slotOf Z f.1 f.2.1 f.2.2.1).Nodup
variable {fs fs' : List (String × String × String × Value)} {o n d : String} {v old : Value} {i : Nat}
theorem Ob.exa (O : Ob Z h a C fs) : Exa Z h a C := O.1
theorem Ob.lt (O : Ob Z h a C fs) : a < h.size := O.1.lt
theorem Ob.get (O : Ob Z h a C fs) (hi : fs[i]? = some (o, n, d, v)) : Fld Z h a o n d v := O.2.1 _ (List.mem_of_getElem? hi)
theorem Ob.keep (O : Ob Z h a C fs) (K : Keep h h' ws) (q : a ∉ ws) : Ob Z h' a C fs := ⟨O.1.keep K, fun f hf => (O.2.1 f hf).keep K q, O.2.2⟩
theorem Ob.ext (O : Ob Z h a C fs) (E : Ext h h') : Ob Z h' a C fs := ⟨O.1.ext E, fun f hf => (O.2.1 f hf).ext E, O.2.2⟩
theorem Ob.other (O : Ob Z h b C fs) {sl : Nat} (W : Wr h h' a sl v) (q : b ≠ a) : Ob Z h' b C fs := O.keep (Keep.of_wr W) (ninS q nin0)
theorem Ob.put (O : Ob Z h a C fs) (hi : fs[i]? = some (o, n, d, old)) (W : Wr h h' a (RoadKit.slotOf Z o n d) v) : Ob Z h' a C (fs.set i (o, n, d, v)) := by
  obtain ⟨E, F, N⟩ := O
  have hlt : i < fs.length := (List.getElem?_eq_some_iff.mp hi).1
  have hm : (fs.set i (o, n, d, v)).map (fun f => RoadKit.slotOf Z f.1 f.2.1 f.2.2.1) = fs.map (fun f => RoadKit.slotOf Z f.1 f.2.1 f.2.2.1) := by
    rw [List.map_set]
    have e : (fs.map fun f => RoadKit.slotOf Z f.1 f.2.1 f.2.2.1)[i]? = some (RoadKit.slotOf Z o n d) := by rw [List.getElem?_map, hi]; rfl
    obtain ⟨hl, he⟩ := List.getElem?_eq_some_iff.mp e
    have q := List.set_getElem_self hl
    rw [he] at q
    exact q
  refine ⟨E.wr W, fun f hf => ?_, by rw [hm]; exact N⟩
  obtain ⟨j, hj⟩ := List.mem_iff_getElem?.mp hf
  by_cases e : j = i
  · subst e
    rw [List.getElem?_set_self hlt] at hj
    cases hj
    exact (F _ (List.mem_of_getElem? hi)).same W
  · rw [List.getElem?_set_ne (Ne.symm e)] at hj
    refine (F f (List.mem_of_getElem? hj)).other W (Or.inr fun q => ?_)
    have e1 : (fs.map fun f => RoadKit.slotOf Z f.1 f.2.1 f.2.2.1)[j]? = some (RoadKit.slotOf Z f.1 f.2.1 f.2.2.1) := by rw [List.getElem?_map, hj]; rfl
    have e2 : (fs.map fun f => RoadKit.slotOf Z f.1 f.2.1 f.2.2.1)[i]? = some (RoadKit.slotOf Z o n d) := by rw [List.getElem?_map, hi]; rfl
    rw [q] at e1
    obtain ⟨l1, q1⟩ := List.getElem?_eq_some_iff.mp e1
    obtain ⟨l2, q2⟩ := List.getElem?_eq_some_iff.mp e2
    exact e ((List.getElem_inj N).mp (q1.trans q2.symm))
/-- an array: its components -/
def Ar (Z : State) (h : Heap) (a : Addr) (ty : FieldType) (vs : List Value) : Prop := ∃ c : Cell, Arr Z h a c ty ∧ c.slots.toList = vs
/-- ... of references to objects of the class C -/
def ArR (Z : State) (h : Heap) (a : Addr) (C : String) (vs : List Value) : Prop := ∃ c : Cell, Arr Z h a c (.object C) ∧ c.slots.toList = vs ∧ Ovr Z c.cls C
variable {ty : FieldType} {vs : List Value}
theorem Ar.lt (A : Ar Z h a ty vs) : a < h.size := A.elim fun _ q => q.1.lt
theorem Ar.keep (A : Ar Z h a ty vs) (K : Keep h h' ws) (q : a ∉ ws) : Ar Z h' a ty vs := by obtain ⟨c, A, e⟩ := A; exact ⟨c, ⟨K.2.1 a c A.1 q, A.2⟩, e⟩
theorem Ar.ext (A : Ar Z h a ty vs) (E : Ext h h') : Ar Z h' a ty vs := by obtain ⟨c, A, e⟩ := A; exact ⟨c, A.ext E, e⟩
theorem ArR.lt (A : ArR Z h a C vs) : a < h.size := A.elim fun _ q => q.1.lt
theorem ArR.keep (A : ArR Z h a C vs) (K : Keep h h' ws) (q : a ∉ ws) : ArR Z h' a C vs := by obtain ⟨c, A, e⟩ := A; exact ⟨c, ⟨K.2.1 a c A.1 q, A.2⟩, e⟩
theorem ArR.ext (A : ArR Z h a C vs) (E : Ext h h') : ArR Z h' a C vs := by obtain ⟨c, A, e⟩ := A; exact ⟨c, A.ext E, e⟩
theorem nin1 (q : b ≠ a) : b ∉ [a] := ninS q nin0
theorem clamp_of {j : Int32} {i : Nat} (hj : j.toInt = i) : j.toNatClampNeg = i := by
  show j.toInt.toNat = i
  omega
theorem nneg_of {j : Int32} {i : Nat} (hj : j.toInt = i) : ¬ j < 0 := by
  rw [Int32.lt_iff_toInt_lt, hj]
  show ¬ ((i : Int) < 0)
  omega
theorem in_of {j : Int32} {i : Nat} {c : Cell} (hj : j.toInt = i) (hi : i < c.slots.toList.length) : ¬ (j < 0 ∨ c.slots.size ≤ j.toNatClampNeg) := by
  rw [clamp_of hj]
  rintro (q | q)
  · exact nneg_of hj q
  · rw [Array.length_toList] at hi; omega
theorem set_toList (c : Cell) (i : Nat) (v : Value) : (c.setSlot i v).slots.toList = c.slots.toList.set i v := by
  show (c.slots.setIfInBounds i v).toList = _
  rw [Array.toList_setIfInBounds]
theorem Ar.put {c : Cell} (A : Arr Z h a c ty) (e : c.slots.toList = vs) {j : Int32} {i : Nat} (hj : j.toInt = i) (W : Wr h h' a j.toNatClampNeg v) : Ar Z h' a ty (vs.set i v) := by
  refine ⟨_, A.same W, ?_⟩
  rw [clamp_of hj, set_toList, e]
theorem map_getI {l : List Int32} {i : Nat} (hi : i < l.length) : (l.map Value.int)[i]? = some (.int (l.getD i 0)) := by
  rw [List.getElem?_map, List.getElem?_eq_getElem hi, List.getD_eq_getElem?_getD, List.getElem?_eq_getElem hi]; rfl
theorem map_getJ {l : List Int64} {i : Nat} (hi : i < l.length) : (l.map Value.long)[i]? = some (.long (l.getD i 0)) := by
  rw [List.getElem?_map, List.getElem?_eq_getElem hi, List.getD_eq_getElem?_getD, List.getElem?_eq_getElem hi]; rfl
theorem map_setI (l : List Int32) (i : Nat) (x : Int32) : (l.map Value.int).set i (.int x) = (l.set i x).map Value.int := by rw [List.map_set]
theorem map_setJ (l : List Int64) (i : Nat) (x : Int64) : (l.map Value.long).set i (.long x) = (l.set i x).map Value.long := by rw [List.map_set]
theorem nat32 {n : Nat} (h : n < 2147483648) : n.toInt32.toInt = n := by
  show (Int32.ofNat n).toInt = n
  rw [Int32.toInt_ofNat_of_lt (by omega)]
theorem keep_of_same {s t : State} {L : List Loc} {k n : Nat} {ws : List Addr} (H : s.sameButNew t L k n) (hL : ∀ y ∈ L, y.base ∈ ws ∨ s.heap.size ≤ y.base) : Keep s.heap t.heap ws := by
  obtain ⟨-, h1, -, -, -, h5⟩ := H
  have lt : ∀ (x : Addr) (c : Cell), s.heap[x]? = some c → x < s.heap.size := fun x c q => (Array.getElem?_eq_some_iff.mp q).1
  refine ⟨h1, fun x c q r => ?_, fun x c q => ?_⟩
  · obtain ⟨c', e1, e2, e3, e4⟩ := h5 x c q
    have hs : c'.slots = c.slots := by
      refine Array.ext_getElem? fun i => e4 i fun hm => ?_
      rcases hL _ hm with z | z
      · exact r z
      · exact absurd (lt x c q) (Nat.not_lt.mpr z)
    rw [e1, e2, hs]
  · obtain ⟨c', e1, e2, e3, -⟩ := h5 x c q
    exact ⟨c', e1, by rw [e2], by rw [e2], e3⟩
end Facts
section Steps0
variable {W : Wk} {Z : State} {R : Room} {own nm : String} {code : ByteArray} {mx : Nat} {ret : Option FieldType} {wsx : List Addr} {hx0 : Heap} {Q : Option Value → Heap → Prop} {h : Heap} {k n pc pc' pc1 pc2 : Nat} {L L' : Array Slot} {S S' : List Value} {a0 : Array Value}
theorem Cx.x (C : Cx W Z R own code mx ret nm wsx hx0) : W.p.tables.exec = Jvm.exec := C.1
theorem Cx.z (C : Cx W Z R own code mx ret nm wsx hx0) : Z.Warmed39 W.s.vm := C.2.1
theorem Cx.o (C : Cx W Z R own code mx ret nm wsx hx0) : W.s.vm.findClass own = some W.m.cls := C.2.2.1
theorem Cx.b (C : Cx W Z R own code mx ret nm wsx hx0) {r : Except ClassFile.DecodeError (ClassFile.Instr × Nat)} (hd : decode code pc = r) : decode W.c.code pc = r := hb C.2.2.2.1 hd
theorem Cx.ml (C : Cx W Z R own code mx ret nm wsx hx0) : W.c.maxLocals = mx := C.2.2.2.2.1
theorem Cx.rt (C : Cx W Z R own code mx ret nm wsx hx0) : W.meth.sig.returnType = ret := C.2.2.2.2.2.1
theorem Cx.lk (C : Cx W Z R own code mx ret nm wsx hx0) : W.meth.locks = false := C.2.2.2.2.2.2.1
theorem Cx.nme (C : Cx W Z R own code mx ret nm wsx hx0) : W.meth.name = nm := C.2.2.2.2.2.2.2.1
theorem Cx.r (C : Cx W Z R own code mx ret nm wsx hx0) : W.R = R := C.2.2.2.2.2.2.2.2.1
theorem Cx.ws (C : Cx W Z R own code mx ret nm wsx hx0) : W.ws = wsx := C.2.2.2.2.2.2.2.2.2.1
theorem Cx.h0 (C : Cx W Z R own code mx ret nm wsx hx0) : W.s.heap = hx0 := C.2.2.2.2.2.2.2.2.2.2
theorem Cx.old (C : Cx W Z R own code mx ret nm wsx hx0) {a : Addr} (q : a ∈ wsx) : Pw W a := Or.inl (C.ws ▸ q)
theorem Cx.new (C : Cx W Z R own code mx ret nm wsx hx0) {a : Addr} (q : hx0.size ≤ a) : Pw W a := Or.inr (C.h0 ▸ q)
theorem Out.st {S S' : State} (f : ∀ t, Stp W S' t → Stp W S t) (g : Out W Q S') : Out W Q S := by
  obtain ⟨s2, o, q, r⟩ := g
  exact ⟨s2, o, f _ q, r⟩
theorem Go.st (f : ∀ T locs, Sta0 W T locs k n → T.heap = h → ∀ t, Stp W (T.setTop (mkF W.m pc' L' S')) t → Stp W (T.setTop (mkF W.m pc L S)) t) (g : Go W Q h k n pc' L' S') : Go W Q h k n pc L S := fun T hT => by
  obtain ⟨locs, X, e, N⟩ := hT
  exact Out.st (f T locs X e) (g T ⟨locs, X, e, N⟩)
theorem Go.same {k' n' : Nat} (g : Go W Q h k n pc L S) (e1 : k' = k) (e2 : n' = n) : Go W Q h k' n' pc L S := by subst e1 e2; exact g
theorem Go.more {k' n' : Nat} (g : Go W Q h k' n' pc L S) (e1 : k ≤ k') (e2 : n ≤ n') : Go W Q h k n pc L S := fun T hT => by
  obtain ⟨locs, X, e, N⟩ := hT
  exact g T ⟨locs, ⟨X.admits, X.cas, X.clock, X.frames, X.room, X.hears, X.method, X.code, X.here, X.tail, X.warmed, X.limits, X.bytes, X.same.mono e1 e2⟩, e, N⟩
theorem Go.cell (g : hx0.size ≤ h.size → Go W Q h k n pc L S) (C : Cx W Z R own code mx ret nm wsx hx0) : Go W Q h k n pc L S := fun T hT => by
  obtain ⟨locs, X, e, N⟩ := hT
  have q : W.s.heap.size ≤ T.heap.size := X.same.2.1
  rw [C.h0, e] at q
  exact g q T ⟨locs, X, e, N⟩

theorem g_iadd (C : Cx W Z R own code mx ret nm wsx hx0) {x y : Int32} (hd : decode code pc = .ok (.iadd, 1)) (hp : pc + 1 = pc') (g : Go W Q h k n pc' L (.int (x + y) :: S)) : Go W Q h k n pc L (.int y :: .int x :: S) := by
  subst hp
  exact g.st fun T locs X e t kk => XS.iadd (g := mkF W.m pc L (.int y :: .int x :: S)) X.here C.x rfl (C.b hd) rfl kk
theorem g_isub (C : Cx W Z R own code mx ret nm wsx hx0) {x y : Int32} (hd : decode code pc = .ok (.isub, 1)) (hp : pc + 1 = pc') (g : Go W Q h k n pc' L (.int (x - y) :: S)) : Go W Q h k n pc L (.int y :: .int x :: S) := by
  subst hp
  exact g.st fun T locs X e t kk => XS.isub (g := mkF W.m pc L (.int y :: .int x :: S)) X.here C.x rfl (C.b hd) rfl kk
theorem g_imul (C : Cx W Z R own code mx ret nm wsx hx0) {x y : Int32} (hd : decode code pc = .ok (.imul, 1)) (hp : pc + 1 = pc') (g : Go W Q h k n pc' L (.int (x * y) :: S)) : Go W Q h k n pc L (.int y :: .int x :: S) := by
  subst hp
  exact g.st fun T locs X e t kk => XS.imul (g := mkF W.m pc L (.int y :: .int x :: S)) X.here C.x rfl (C.b hd) rfl kk
theorem g_iand (C : Cx W Z R own code mx ret nm wsx hx0) {x y : Int32} (hd : decode code pc = .ok (.iand, 1)) (hp : pc + 1 = pc') (g : Go W Q h k n pc' L (.int (x &&& y) :: S)) : Go W Q h k n pc L (.int y :: .int x :: S) := by
  subst hp
  exact g.st fun T locs X e t kk => XS.iand (g := mkF W.m pc L (.int y :: .int x :: S)) X.here C.x rfl (C.b hd) rfl kk
theorem g_ior (C : Cx W Z R own code mx ret nm wsx hx0) {x y : Int32} (hd : decode code pc = .ok (.ior, 1)) (hp : pc + 1 = pc') (g : Go W Q h k n pc' L (.int (x ||| y) :: S)) : Go W Q h k n pc L (.int y :: .int x :: S) := by
  subst hp
  exact g.st fun T locs X e t kk => XS.ior (g := mkF W.m pc L (.int y :: .int x :: S)) X.here C.x rfl (C.b hd) rfl kk
theorem g_ixor (C : Cx W Z R own code mx ret nm wsx hx0) {x y : Int32} (hd : decode code pc = .ok (.ixor, 1)) (hp : pc + 1 = pc') (g : Go W Q h k n pc' L (.int (x ^^^ y) :: S)) : Go W Q h k n pc L (.int y :: .int x :: S) := by
  subst hp
  exact g.st fun T locs X e t kk => XS.ixor (g := mkF W.m pc L (.int y :: .int x :: S)) X.here C.x rfl (C.b hd) rfl kk
theorem g_ishl (C : Cx W Z R own code mx ret nm wsx hx0) {x y : Int32} (hd : decode code pc = .ok (.ishl, 1)) (hp : pc + 1 = pc') (g : Go W Q h k n pc' L (.int (x <<< (y &&& 31)) :: S)) : Go W Q h k n pc L (.int y :: .int x :: S) := by
  subst hp
  exact g.st fun T locs X e t kk => XS.ishl (g := mkF W.m pc L (.int y :: .int x :: S)) X.here C.x rfl (C.b hd) rfl kk
theorem g_ishr (C : Cx W Z R own code mx ret nm wsx hx0) {x y : Int32} (hd : decode code pc = .ok (.ishr, 1)) (hp : pc + 1 = pc') (g : Go W Q h k n pc' L (.int (x >>> (y &&& 31)) :: S)) : Go W Q h k n pc L (.int y :: .int x :: S) := by
  subst hp
  exact g.st fun T locs X e t kk => XS.ishr (g := mkF W.m pc L (.int y :: .int x :: S)) X.here C.x rfl (C.b hd) rfl kk
theorem g_iushr (C : Cx W Z R own code mx ret nm wsx hx0) {x y : Int32} (hd : decode code pc = .ok (.iushr, 1)) (hp : pc + 1 = pc') (g : Go W Q h k n pc' L (.int ((x.toUInt32 >>> (y &&& 31).toUInt32).toInt32) :: S)) : Go W Q h k n pc L (.int y :: .int x :: S) := by
  subst hp
  exact g.st fun T locs X e t kk => XS.iushr (g := mkF W.m pc L (.int y :: .int x :: S)) X.here C.x rfl (C.b hd) rfl kk
theorem g_ladd (C : Cx W Z R own code mx ret nm wsx hx0) {x y : Int64} (hd : decode code pc = .ok (.ladd, 1)) (hp : pc + 1 = pc') (g : Go W Q h k n pc' L (.long (x + y) :: S)) : Go W Q h k n pc L (.long y :: .long x :: S) := by
  subst hp
  exact g.st fun T locs X e t kk => XS.ladd (g := mkF W.m pc L (.long y :: .long x :: S)) X.here C.x rfl (C.b hd) rfl kk
theorem g_lsub (C : Cx W Z R own code mx ret nm wsx hx0) {x y : Int64} (hd : decode code pc = .ok (.lsub, 1)) (hp : pc + 1 = pc') (g : Go W Q h k n pc' L (.long (x - y) :: S)) : Go W Q h k n pc L (.long y :: .long x :: S) := by
  subst hp
  exact g.st fun T locs X e t kk => XS.lsub (g := mkF W.m pc L (.long y :: .long x :: S)) X.here C.x rfl (C.b hd) rfl kk
theorem g_lmul (C : Cx W Z R own code mx ret nm wsx hx0) {x y : Int64} (hd : decode code pc = .ok (.lmul, 1)) (hp : pc + 1 = pc') (g : Go W Q h k n pc' L (.long (x * y) :: S)) : Go W Q h k n pc L (.long y :: .long x :: S) := by
  subst hp
  exact g.st fun T locs X e t kk => XS.lmul (g := mkF W.m pc L (.long y :: .long x :: S)) X.here C.x rfl (C.b hd) rfl kk
theorem g_land (C : Cx W Z R own code mx ret nm wsx hx0) {x y : Int64} (hd : decode code pc = .ok (.land, 1)) (hp : pc + 1 = pc') (g : Go W Q h k n pc' L (.long (x &&& y) :: S)) : Go W Q h k n pc L (.long y :: .long x :: S) := by
  subst hp
  exact g.st fun T locs X e t kk => XS.land (g := mkF W.m pc L (.long y :: .long x :: S)) X.here C.x rfl (C.b hd) rfl kk
theorem g_lor (C : Cx W Z R own code mx ret nm wsx hx0) {x y : Int64} (hd : decode code pc = .ok (.lor, 1)) (hp : pc + 1 = pc') (g : Go W Q h k n pc' L (.long (x ||| y) :: S)) : Go W Q h k n pc L (.long y :: .long x :: S) := by
  subst hp
  exact g.st fun T locs X e t kk => XS.lor (g := mkF W.m pc L (.long y :: .long x :: S)) X.here C.x rfl (C.b hd) rfl kk
theorem g_lxor (C : Cx W Z R own code mx ret nm wsx hx0) {x y : Int64} (hd : decode code pc = .ok (.lxor, 1)) (hp : pc + 1 = pc') (g : Go W Q h k n pc' L (.long (x ^^^ y) :: S)) : Go W Q h k n pc L (.long y :: .long x :: S) := by
  subst hp
  exact g.st fun T locs X e t kk => XS.lxor (g := mkF W.m pc L (.long y :: .long x :: S)) X.here C.x rfl (C.b hd) rfl kk
theorem g_lshl (C : Cx W Z R own code mx ret nm wsx hx0) {x : Int64} {y : Int32} (hd : decode code pc = .ok (.lshl, 1)) (hp : pc + 1 = pc') (g : Go W Q h k n pc' L (.long (x <<< (y &&& 0x3f).toInt64) :: S)) : Go W Q h k n pc L (.int y :: .long x :: S) := by
  subst hp
  exact g.st fun T locs X e t kk => XS.lshl (g := mkF W.m pc L (.int y :: .long x :: S)) X.here C.x rfl (C.b hd) rfl kk
theorem g_lshr (C : Cx W Z R own code mx ret nm wsx hx0) {x : Int64} {y : Int32} (hd : decode code pc = .ok (.lshr, 1)) (hp : pc + 1 = pc') (g : Go W Q h k n pc' L (.long (x >>> (y &&& 0x3f).toInt64) :: S)) : Go W Q h k n pc L (.int y :: .long x :: S) := by
  subst hp
  exact g.st fun T locs X e t kk => XS.lshr (g := mkF W.m pc L (.int y :: .long x :: S)) X.here C.x rfl (C.b hd) rfl kk
theorem g_lushr (C : Cx W Z R own code mx ret nm wsx hx0) {x : Int64} {y : Int32} (hd : decode code pc = .ok (.lushr, 1)) (hp : pc + 1 = pc') (g : Go W Q h k n pc' L (.long ((x.toUInt64 >>> (y &&& 0x3f).toInt64.toUInt64).toInt64) :: S)) : Go W Q h k n pc L (.int y :: .long x :: S) := by
  subst hp
  exact g.st fun T locs X e t kk => XS.lushr (g := mkF W.m pc L (.int y :: .long x :: S)) X.here C.x rfl (C.b hd) rfl kk
theorem g_idiv (C : Cx W Z R own code mx ret nm wsx hx0) {x y : Int32} (hd : decode code pc = .ok (.idiv, 1)) (hp : pc + 1 = pc') (hy : y ≠ 0) (g : Go W Q h k n pc' L (.int (x / y) :: S)) : Go W Q h k n pc L (.int y :: .int x :: S) := by
  subst hp
  exact g.st fun T locs X e t kk => XS.idiv (g := mkF W.m pc L (.int y :: .int x :: S)) X.here C.x rfl (C.b hd) rfl hy kk
theorem g_irem (C : Cx W Z R own code mx ret nm wsx hx0) {x y : Int32} (hd : decode code pc = .ok (.irem, 1)) (hp : pc + 1 = pc') (hy : y ≠ 0) (g : Go W Q h k n pc' L (.int (x % y) :: S)) : Go W Q h k n pc L (.int y :: .int x :: S) := by
  subst hp
  exact g.st fun T locs X e t kk => iremM (g := mkF W.m pc L (.int y :: .int x :: S)) X C.x rfl (C.b hd) rfl hy kk
theorem g_ldiv (C : Cx W Z R own code mx ret nm wsx hx0) {x y : Int64} (hd : decode code pc = .ok (.ldiv, 1)) (hp : pc + 1 = pc') (hy : y ≠ 0) (g : Go W Q h k n pc' L (.long (x / y) :: S)) : Go W Q h k n pc L (.long y :: .long x :: S) := by
  subst hp
  exact g.st fun T locs X e t kk => XS.ldiv (g := mkF W.m pc L (.long y :: .long x :: S)) X.here C.x rfl (C.b hd) rfl hy kk
theorem g_lrem (C : Cx W Z R own code mx ret nm wsx hx0) {x y : Int64} (hd : decode code pc = .ok (.lrem, 1)) (hp : pc + 1 = pc') (hy : y ≠ 0) (g : Go W Q h k n pc' L (.long (x % y) :: S)) : Go W Q h k n pc L (.long y :: .long x :: S) := by
  subst hp
  rw [← lrem_mod] at g
  exact g.st fun T locs X e t kk => XS.lrem (g := mkF W.m pc L (.long y :: .long x :: S)) X.here C.x rfl (C.b hd) rfl hy kk
theorem g_ineg (C : Cx W Z R own code mx ret nm wsx hx0) {x : Int32} (hd : decode code pc = .ok (.ineg, 1)) (hp : pc + 1 = pc') (g : Go W Q h k n pc' L (.int (-x) :: S)) : Go W Q h k n pc L (.int x :: S) := by
  subst hp
  exact g.st fun T locs X e t kk => XS.ineg (g := mkF W.m pc L (.int x :: S)) X.here C.x rfl (C.b hd) rfl kk
theorem g_lneg (C : Cx W Z R own code mx ret nm wsx hx0) {x : Int64} (hd : decode code pc = .ok (.lneg, 1)) (hp : pc + 1 = pc') (g : Go W Q h k n pc' L (.long (-x) :: S)) : Go W Q h k n pc L (.long x :: S) := by
  subst hp
  exact g.st fun T locs X e t kk => XS.lneg (g := mkF W.m pc L (.long x :: S)) X.here C.x rfl (C.b hd) rfl kk
theorem g_i2l (C : Cx W Z R own code mx ret nm wsx hx0) {x : Int32} (hd : decode code pc = .ok (.i2l, 1)) (hp : pc + 1 = pc') (g : Go W Q h k n pc' L (.long (x.toInt64) :: S)) : Go W Q h k n pc L (.int x :: S) := by
  subst hp
  exact g.st fun T locs X e t kk => XS.i2l (g := mkF W.m pc L (.int x :: S)) X.here C.x rfl (C.b hd) rfl kk
theorem g_l2i (C : Cx W Z R own code mx ret nm wsx hx0) {x : Int64} (hd : decode code pc = .ok (.l2i, 1)) (hp : pc + 1 = pc') (g : Go W Q h k n pc' L (.int (x.toInt32) :: S)) : Go W Q h k n pc L (.long x :: S) := by
  subst hp
  exact g.st fun T locs X e t kk => XS.l2i (g := mkF W.m pc L (.long x :: S)) X.here C.x rfl (C.b hd) rfl kk
theorem g_i2b (C : Cx W Z R own code mx ret nm wsx hx0) {x : Int32} (hd : decode code pc = .ok (.i2b, 1)) (hp : pc + 1 = pc') (g : Go W Q h k n pc' L (.int (x.toInt8.toInt32) :: S)) : Go W Q h k n pc L (.int x :: S) := by
  subst hp
  exact g.st fun T locs X e t kk => XS.i2b (g := mkF W.m pc L (.int x :: S)) X.here C.x rfl (C.b hd) rfl kk
theorem g_i2c (C : Cx W Z R own code mx ret nm wsx hx0) {x : Int32} (hd : decode code pc = .ok (.i2c, 1)) (hp : pc + 1 = pc') (g : Go W Q h k n pc' L (.int (x.toUInt32.toUInt16.toUInt32.toInt32) :: S)) : Go W Q h k n pc L (.int x :: S) := by
  subst hp
  exact g.st fun T locs X e t kk => XS.i2c (g := mkF W.m pc L (.int x :: S)) X.here C.x rfl (C.b hd) rfl kk
theorem g_i2s (C : Cx W Z R own code mx ret nm wsx hx0) {x : Int32} (hd : decode code pc = .ok (.i2s, 1)) (hp : pc + 1 = pc') (g : Go W Q h k n pc' L (.int (x.toInt16.toInt32) :: S)) : Go W Q h k n pc L (.int x :: S) := by
  subst hp
  exact g.st fun T locs X e t kk => XS.i2s (g := mkF W.m pc L (.int x :: S)) X.here C.x rfl (C.b hd) rfl kk
theorem g_iconst (C : Cx W Z R own code mx ret nm wsx hx0) {i : Int} {z : Int32} (hd : decode code pc = .ok (.iconst i, 1)) (hp : pc + 1 = pc') (hz : Int32.ofInt i = z) (g : Go W Q h k n pc' L (.int z :: S)) : Go W Q h k n pc L S := by
  subst hp hz
  exact g.st fun T locs X e t kk => XS.iconst (g := mkF W.m pc L S) X.here C.x rfl (C.b hd) kk
theorem g_bipush (C : Cx W Z R own code mx ret nm wsx hx0) {i : Int} {z : Int32} (hd : decode code pc = .ok (.bipush i, 2)) (hp : pc + 2 = pc') (hz : (Int8.ofInt i).toInt32 = z) (g : Go W Q h k n pc' L (.int z :: S)) : Go W Q h k n pc L S := by
  subst hp hz
  exact g.st fun T locs X e t kk => XS.bipush (g := mkF W.m pc L S) X.here C.x rfl (C.b hd) kk
theorem g_sipush (C : Cx W Z R own code mx ret nm wsx hx0) {i : Int} {z : Int32} (hd : decode code pc = .ok (.sipush i, 3)) (hp : pc + 3 = pc') (hz : (Int16.ofInt i).toInt32 = z) (g : Go W Q h k n pc' L (.int z :: S)) : Go W Q h k n pc L S := by
  subst hp hz
  exact g.st fun T locs X e t kk => XS.sipush (g := mkF W.m pc L S) X.here C.x rfl (C.b hd) kk
theorem g_lconst (C : Cx W Z R own code mx ret nm wsx hx0) {i : Fin 2} {z : Int64} (hd : decode code pc = .ok (.lconst i, 1)) (hp : pc + 1 = pc') (hz : Int64.ofNat i = z) (g : Go W Q h k n pc' L (.long z :: S)) : Go W Q h k n pc L S := by
  subst hp hz
  exact g.st fun T locs X e t kk => XS.lconst (g := mkF W.m pc L S) X.here C.x rfl (C.b hd) kk
theorem g_aconst_null (C : Cx W Z R own code mx ret nm wsx hx0)  (hd : decode code pc = .ok (.aconst_null, 1)) (hp : pc + 1 = pc') (g : Go W Q h k n pc' L (.null :: S)) : Go W Q h k n pc L (S) := by
  subst hp
  exact g.st fun T locs X e t kk => XS.aconstNull (g := mkF W.m pc L (S)) X.here C.x rfl (C.b hd) kk
theorem g_dup (C : Cx W Z R own code mx ret nm wsx hx0) {x : Value} (hd : decode code pc = .ok (.dup, 1)) (hp : pc + 1 = pc') (hc : x.category = 1) (g : Go W Q h k n pc' L (x :: x :: S)) : Go W Q h k n pc L (x :: S) := by
  subst hp
  exact g.st fun T locs X e t kk => XS.dup (g := mkF W.m pc L (x :: S)) X.here C.x rfl (C.b hd) rfl hc kk
theorem g_dup_x1 (C : Cx W Z R own code mx ret nm wsx hx0) {x y : Value} (hd : decode code pc = .ok (.dup_x1, 1)) (hp : pc + 1 = pc') (hc : x.category = 1) (hc' : y.category = 1) (g : Go W Q h k n pc' L (x :: y :: x :: S)) : Go W Q h k n pc L (x :: y :: S) := by
  subst hp
  exact g.st fun T locs X e t kk => XS.dupX1 (g := mkF W.m pc L (x :: y :: S)) X.here C.x rfl (C.b hd) rfl hc hc' kk
theorem g_dup2 (C : Cx W Z R own code mx ret nm wsx hx0) {x y : Value} (hd : decode code pc = .ok (.dup2, 1)) (hp : pc + 1 = pc') (hc : x.category = 1) (hc' : y.category = 1) (g : Go W Q h k n pc' L (x :: y :: x :: y :: S)) : Go W Q h k n pc L (x :: y :: S) := by
  subst hp
  exact g.st fun T locs X e t kk => XT.dup2 (g := mkF W.m pc L (x :: y :: S)) X.here C.x rfl (C.b hd) rfl hc hc' kk
theorem g_dup2L (C : Cx W Z R own code mx ret nm wsx hx0) {x : Int64} (hd : decode code pc = .ok (.dup2, 1)) (hp : pc + 1 = pc') (g : Go W Q h k n pc' L (.long x :: .long x :: S)) : Go W Q h k n pc L (.long x :: S) := by
  subst hp
  exact g.st fun T locs X e t kk => XT.dup2L (g := mkF W.m pc L (.long x :: S)) X.here C.x rfl (C.b hd) rfl kk
theorem g_pop (C : Cx W Z R own code mx ret nm wsx hx0) {x : Value} (hd : decode code pc = .ok (.pop, 1)) (hp : pc + 1 = pc') (hc : x.category = 1) (g : Go W Q h k n pc' L (S)) : Go W Q h k n pc L (x :: S) := by
  subst hp
  exact g.st fun T locs X e t kk => XS.pop (g := mkF W.m pc L (x :: S)) X.here C.x rfl (C.b hd) rfl hc kk
theorem g_iload (C : Cx W Z R own code mx ret nm wsx hx0) {i : Nat} {x : Int32} (hd : decode code pc = .ok (.iload i, 2)) (hp : pc + 2 = pc') (hl : L[i]? = some (.val (.int x))) (g : Go W Q h k n pc' L (.int x :: S)) : Go W Q h k n pc L (S) := by
  subst hp
  exact g.st fun T locs X e t kk => XS.iload (g := mkF W.m pc L (S)) X.here C.x rfl (C.b hd) hl kk
theorem g_iloadN (C : Cx W Z R own code mx ret nm wsx hx0) {i : Fin 4} {x : Int32} (hd : decode code pc = .ok (.iload_n i, 1)) (hp : pc + 1 = pc') (hl : L[i.val]? = some (.val (.int x))) (g : Go W Q h k n pc' L (.int x :: S)) : Go W Q h k n pc L (S) := by
  subst hp
  exact g.st fun T locs X e t kk => XS.iloadN (g := mkF W.m pc L (S)) X.here C.x rfl (C.b hd) hl kk
theorem g_lload (C : Cx W Z R own code mx ret nm wsx hx0) {i : Nat} {x : Int64} (hd : decode code pc = .ok (.lload i, 2)) (hp : pc + 2 = pc') (hl : L[i]? = some (.val (.long x))) (g : Go W Q h k n pc' L (.long x :: S)) : Go W Q h k n pc L (S) := by
  subst hp
  exact g.st fun T locs X e t kk => XS.lload (g := mkF W.m pc L (S)) X.here C.x rfl (C.b hd) hl kk
theorem g_lloadN (C : Cx W Z R own code mx ret nm wsx hx0) {i : Fin 4} {x : Int64} (hd : decode code pc = .ok (.lload_n i, 1)) (hp : pc + 1 = pc') (hl : L[i.val]? = some (.val (.long x))) (g : Go W Q h k n pc' L (.long x :: S)) : Go W Q h k n pc L (S) := by
  subst hp
  exact g.st fun T locs X e t kk => XS.lloadN (g := mkF W.m pc L (S)) X.here C.x rfl (C.b hd) hl kk
theorem g_aload (C : Cx W Z R own code mx ret nm wsx hx0) {i : Nat} {x : Value} (hd : decode code pc = .ok (.aload i, 2)) (hp : pc + 2 = pc') (hl : L[i]? = some (.val x)) (hv : x.isRef = true) (g : Go W Q h k n pc' L (x :: S)) : Go W Q h k n pc L (S) := by
  subst hp
  exact g.st fun T locs X e t kk => XS.aload (g := mkF W.m pc L (S)) X.here C.x rfl (C.b hd) hl hv kk
theorem g_istore (C : Cx W Z R own code mx ret nm wsx hx0) {i : Nat} {x : Int32} (hd : decode code pc = .ok (.istore i, 2)) (hp : pc + 2 = pc') (hl : storeLocals L i (.int x) = some L') (g : Go W Q h k n pc' L' (S)) : Go W Q h k n pc L (.int x :: S) := by
  subst hp
  exact g.st fun T locs X e t kk => XS.istore (g := mkF W.m pc L (.int x :: S)) X.here C.x rfl (C.b hd) rfl hl kk
theorem g_lstore (C : Cx W Z R own code mx ret nm wsx hx0) {i : Nat} {x : Int64} (hd : decode code pc = .ok (.lstore i, 2)) (hp : pc + 2 = pc') (hl : storeLocals L i (.long x) = some L') (g : Go W Q h k n pc' L' (S)) : Go W Q h k n pc L (.long x :: S) := by
  subst hp
  exact g.st fun T locs X e t kk => XS.lstore (g := mkF W.m pc L (.long x :: S)) X.here C.x rfl (C.b hd) rfl hl kk
theorem g_astore (C : Cx W Z R own code mx ret nm wsx hx0) {i : Nat} {x : Value} (hd : decode code pc = .ok (.astore i, 2)) (hp : pc + 2 = pc') (hv : x.isRef = true) (hl : storeLocals L i x = some L') (g : Go W Q h k n pc' L' (S)) : Go W Q h k n pc L (x :: S) := by
  subst hp
  exact g.st fun T locs X e t kk => XS.astore (g := mkF W.m pc L (x :: S)) X.here C.x rfl (C.b hd) rfl hv hl kk
theorem g_aloadN (C : Cx W Z R own code mx ret nm wsx hx0) {i : Fin 4} {x : Value} (hd : decode code pc = .ok (.aload_n i, 1)) (hp : pc + 1 = pc') (hl : L[i.val]? = some (.val x)) (hv : x.isRef = true) (g : Go W Q h k n pc' L (x :: S)) : Go W Q h k n pc L (S) := by
  subst hp
  exact g.st fun T locs X e t kk => XS.aloadN (g := mkF W.m pc L (S)) X.here C.x rfl (C.b hd) hl hv kk
theorem g_istoreN (C : Cx W Z R own code mx ret nm wsx hx0) {i : Fin 4} {x : Int32} (hd : decode code pc = .ok (.istore_n i, 1)) (hp : pc + 1 = pc') (hl : storeLocals L i.val (.int x) = some L') (g : Go W Q h k n pc' L' (S)) : Go W Q h k n pc L (.int x :: S) := by
  subst hp
  exact g.st fun T locs X e t kk => XS.istoreN (g := mkF W.m pc L (.int x :: S)) X.here C.x rfl (C.b hd) rfl hl kk
theorem g_lstoreN (C : Cx W Z R own code mx ret nm wsx hx0) {i : Fin 4} {x : Int64} (hd : decode code pc = .ok (.lstore_n i, 1)) (hp : pc + 1 = pc') (hl : storeLocals L i.val (.long x) = some L') (g : Go W Q h k n pc' L' (S)) : Go W Q h k n pc L (.long x :: S) := by
  subst hp
  exact g.st fun T locs X e t kk => XS.lstoreN (g := mkF W.m pc L (.long x :: S)) X.here C.x rfl (C.b hd) rfl hl kk
theorem g_astoreN (C : Cx W Z R own code mx ret nm wsx hx0) {i : Fin 4} {x : Value} (hd : decode code pc = .ok (.astore_n i, 1)) (hp : pc + 1 = pc') (hv : x.isRef = true) (hl : storeLocals L i.val x = some L') (g : Go W Q h k n pc' L' (S)) : Go W Q h k n pc L (x :: S) := by
  subst hp
  exact g.st fun T locs X e t kk => XS.astoreN (g := mkF W.m pc L (x :: S)) X.here C.x rfl (C.b hd) rfl hv hl kk
theorem g_iinc (C : Cx W Z R own code mx ret nm wsx hx0) {i : Nat} {cst : Int} {x z : Int32} (hd : decode code pc = .ok (.iinc i cst, 3)) (hp : pc + 3 = pc') (hl : L[i]? = some (.val (.int x))) (hz : x + Int32.ofInt cst = z) (hl' : storeLocals L i (.int z) = some L') (g : Go W Q h k n pc' L' (S)) : Go W Q h k n pc L (S) := by
  subst hp
  exact g.st fun T locs X e t kk => XS.iinc (g := mkF W.m pc L (S)) X.here C.x rfl (C.b hd) hl (hz ▸ hl') kk
theorem g_goto (C : Cx W Z R own code mx ret nm wsx hx0) {o : Int} (hd : decode code pc = .ok (.goto o, 3)) (ho : 0 ≤ (pc : Int) + o) (hp : ((pc : Int) + o).toNat = pc') (g : Go W Q h k n pc' L S) : Go W Q h k n pc L S :=
  g.st fun T locs X e t kk => XS.goto (g := mkF W.m pc L S) X.here C.x rfl rfl (C.b hd) ho hp kk
theorem g_ldcI (C : Cx W Z R own code mx ret nm wsx hx0) {i : Nat} {z : Int32} (hd : decode code pc = .ok (.ldc i, 2)) (hp : pc + 2 = pc') (w : (Jvm.Cond.constant own i z).before a0 Z = true) (g : Go W Q h k n pc' L (.int z :: S)) : Go W Q h k n pc L S := by
  subst hp
  exact g.st fun T locs X e t kk => X.ldcInt C.x C.o (mvT C.z w) (g := mkF W.m pc L S) rfl (C.b hd) t kk
theorem g_ldcwI (C : Cx W Z R own code mx ret nm wsx hx0) {i : Nat} {z : Int32} (hd : decode code pc = .ok (.ldc_w i, 3)) (hp : pc + 3 = pc') (w : (Jvm.Cond.constant own i z).before a0 Z = true) (g : Go W Q h k n pc' L (.int z :: S)) : Go W Q h k n pc L S := by
  subst hp
  exact g.st fun T locs X e t kk => X.ldcwInt C.x C.o (mvT C.z w) (g := mkF W.m pc L S) rfl (C.b hd) t kk
theorem g_ldc2L (C : Cx W Z R own code mx ret nm wsx hx0) {i : Nat} {z : Int64} (hd : decode code pc = .ok (.ldc2_w i, 3)) (hp : pc + 3 = pc') (w : (Jvm.Cond.constantLong own i z).before a0 Z = true) (g : Go W Q h k n pc' L (.long z :: S)) : Go W Q h k n pc L S := by
  subst hp
  exact g.st fun T locs X e t kk => X.ldc2Long C.x C.o (mvT C.z w) (g := mkF W.m pc L S) rfl (C.b hd) t kk
/-- what a branch asks of two integers -/
def icp : ClassFile.Cond → Int → Int → Prop
  | .eq, x, y => x = y
  | .ne, x, y => ¬ x = y
  | .lt, x, y => x < y
  | .ge, x, y => y ≤ x
  | .gt, x, y => y < x
  | .le, x, y => x ≤ y
instance instIcp : (cd : ClassFile.Cond) → (x y : Int) → Decidable (icp cd x y)
  | .eq, x, y => inferInstanceAs (Decidable (x = y))
  | .ne, x, y => inferInstanceAs (Decidable (¬ x = y))
  | .lt, x, y => inferInstanceAs (Decidable (x < y))
  | .ge, x, y => inferInstanceAs (Decidable (y ≤ x))
  | .gt, x, y => inferInstanceAs (Decidable (y < x))
  | .le, x, y => inferInstanceAs (Decidable (x ≤ y))
theorem icp_eq (cd : ClassFile.Cond) (x y : Int32) : if_icmp.holds cd x y = decide (icp cd x.toInt y.toInt) := by
  rw [Bool.eq_iff_iff, decide_eq_true_iff]
  cases cd <;> simp [if_icmp.holds, icp, Int32.lt_iff_toInt_lt, Int32.le_iff_toInt_le, Int32.toInt_inj]
theorem icp_long (cd : ClassFile.Cond) (x y : Int64) : ifCond.holds cd (lcmpW x y) = decide (icp cd x.toInt y.toInt) := by
  rw [if0, icp_eq, Bool.eq_iff_iff, decide_eq_true_iff, decide_eq_true_iff]
  have c := c_lcmp x y
  have z : (0 : Int32).toInt = 0 := rfl
  rw [z]
  rcases Int.lt_trichotomy x.toInt y.toInt with q | q | q
  · rw [c.1 q]; cases cd <;> simp only [icp] <;> omega
  · rw [c.2.1 q]; cases cd <;> simp only [icp] <;> first | omega | simp [q]
  · rw [c.2.2 q]; cases cd <;> simp only [icp] <;> omega

theorem g_icmpY (C : Cx W Z R own code mx ret nm wsx hx0) {cd : ClassFile.Cond} {o : Int} {x y : Int32} {xi yi : Int} (hd : decode code pc = .ok (.if_icmp cd o, 3)) (ho : 0 ≤ (pc : Int) + o) (hp1 : ((pc : Int) + o).toNat = pc1) (hx : x.toInt = xi) (hy : y.toInt = yi) (q : icp cd xi yi) (g : Go W Q h k n pc1 L S) : Go W Q h k n pc L (.int y :: .int x :: S) := by
  subst hx hy
  exact g.st fun T locs X e t kk => XS.icmpYes (g := mkF W.m pc L (.int y :: .int x :: S)) X.here C.x rfl rfl (C.b hd) rfl ((icp_eq cd x y).trans (decide_eq_true q)) ho hp1 kk
theorem g_icmpN (C : Cx W Z R own code mx ret nm wsx hx0) {cd : ClassFile.Cond} {o : Int} {x y : Int32} {xi yi : Int} (hd : decode code pc = .ok (.if_icmp cd o, 3)) (hp2 : pc + 3 = pc2) (hx : x.toInt = xi) (hy : y.toInt = yi) (q : ¬ (icp cd xi yi)) (g : Go W Q h k n pc2 L S) : Go W Q h k n pc L (.int y :: .int x :: S) := by
  subst hx hy hp2
  exact g.st fun T locs X e t kk => XS.icmpNo (g := mkF W.m pc L (.int y :: .int x :: S)) X.here C.x rfl (C.b hd) rfl ((icp_eq cd x y).trans (decide_eq_false q)) kk
theorem g_icmp (C : Cx W Z R own code mx ret nm wsx hx0) {cd : ClassFile.Cond} {o : Int} {x y : Int32} {xi yi : Int} (hd : decode code pc = .ok (.if_icmp cd o, 3)) (ho : 0 ≤ (pc : Int) + o) (hp1 : ((pc : Int) + o).toNat = pc1) (hp2 : pc + 3 = pc2) (hx : x.toInt = xi) (hy : y.toInt = yi) (g1 : icp cd xi yi → Go W Q h k n pc1 L S) (g2 : ¬ (icp cd xi yi) → Go W Q h k n pc2 L S) : Go W Q h k n pc L (.int y :: .int x :: S) := by
  by_cases q : icp cd xi yi
  · exact g_icmpY C hd ho hp1 hx hy q (g1 q)
  · exact g_icmpN C hd hp2 hx hy q (g2 q)
theorem g_ifY (C : Cx W Z R own code mx ret nm wsx hx0) {cd : ClassFile.Cond} {o : Int} {x : Int32} {xi : Int} (hd : decode code pc = .ok (.ifCond cd o, 3)) (ho : 0 ≤ (pc : Int) + o) (hp1 : ((pc : Int) + o).toNat = pc1) (hx : x.toInt = xi) (q : icp cd xi 0) (g : Go W Q h k n pc1 L S) : Go W Q h k n pc L (.int x :: S) := by
  subst hx
  exact g.st fun T locs X e t kk => XS.ifYes (g := mkF W.m pc L (.int x :: S)) X.here C.x rfl rfl (C.b hd) rfl ((if0 cd x).trans ((icp_eq cd x 0).trans (decide_eq_true q))) ho hp1 kk
theorem g_ifN (C : Cx W Z R own code mx ret nm wsx hx0) {cd : ClassFile.Cond} {o : Int} {x : Int32} {xi : Int} (hd : decode code pc = .ok (.ifCond cd o, 3)) (hp2 : pc + 3 = pc2) (hx : x.toInt = xi) (q : ¬ (icp cd xi 0)) (g : Go W Q h k n pc2 L S) : Go W Q h k n pc L (.int x :: S) := by
  subst hx hp2
  exact g.st fun T locs X e t kk => XS.ifNo (g := mkF W.m pc L (.int x :: S)) X.here C.x rfl (C.b hd) rfl ((if0 cd x).trans ((icp_eq cd x 0).trans (decide_eq_false q))) kk
theorem g_if (C : Cx W Z R own code mx ret nm wsx hx0) {cd : ClassFile.Cond} {o : Int} {x : Int32} {xi : Int} (hd : decode code pc = .ok (.ifCond cd o, 3)) (ho : 0 ≤ (pc : Int) + o) (hp1 : ((pc : Int) + o).toNat = pc1) (hp2 : pc + 3 = pc2) (hx : x.toInt = xi) (g1 : icp cd xi 0 → Go W Q h k n pc1 L S) (g2 : ¬ (icp cd xi 0) → Go W Q h k n pc2 L S) : Go W Q h k n pc L (.int x :: S) := by
  by_cases q : icp cd xi 0
  · exact g_ifY C hd ho hp1 hx q (g1 q)
  · exact g_ifN C hd hp2 hx q (g2 q)
/-- lcmp and the branch behind it -/
theorem g_lcmpY (C : Cx W Z R own code mx ret nm wsx hx0) {cd : ClassFile.Cond} {o : Int} {x y : Int64} {xi yi : Int} (hd : decode code pc = .ok (.lcmp, 1)) (hd' : decode code pc' = .ok (.ifCond cd o, 3)) (hp : pc + 1 = pc') (ho : 0 ≤ (pc' : Int) + o) (hp1 : ((pc' : Int) + o).toNat = pc1) (hx : x.toInt = xi) (hy : y.toInt = yi) (q : icp cd xi yi) (g : Go W Q h k n pc1 L S) : Go W Q h k n pc L (.long y :: .long x :: S) := by
  subst hp hx hy
  have g' : Go W Q h k n (pc + 1) L (.int (lcmpW x y) :: S) := g.st fun T locs X e t kk => XS.ifYes (g := mkF W.m (pc + 1) L (.int (lcmpW x y) :: S)) X.here C.x rfl rfl (C.b hd') rfl ((icp_long cd x y).trans (decide_eq_true q)) ho hp1 kk
  exact g'.st fun T locs X e t kk => XS.lcmp (g := mkF W.m pc L (.long y :: .long x :: S)) X.here C.x rfl (C.b hd) rfl kk
theorem g_lcmpN (C : Cx W Z R own code mx ret nm wsx hx0) {cd : ClassFile.Cond} {o : Int} {x y : Int64} {xi yi : Int} (hd : decode code pc = .ok (.lcmp, 1)) (hd' : decode code pc' = .ok (.ifCond cd o, 3)) (hp : pc + 1 = pc') (hp2 : pc' + 3 = pc2) (hx : x.toInt = xi) (hy : y.toInt = yi) (q : ¬ icp cd xi yi) (g : Go W Q h k n pc2 L S) : Go W Q h k n pc L (.long y :: .long x :: S) := by
  subst hp hx hy hp2
  have g' : Go W Q h k n (pc + 1) L (.int (lcmpW x y) :: S) := g.st fun T locs X e t kk => XS.ifNo (g := mkF W.m (pc + 1) L (.int (lcmpW x y) :: S)) X.here C.x rfl (C.b hd') rfl ((icp_long cd x y).trans (decide_eq_false q)) kk
  exact g'.st fun T locs X e t kk => XS.lcmp (g := mkF W.m pc L (.long y :: .long x :: S)) X.here C.x rfl (C.b hd) rfl kk
theorem g_lcmp (C : Cx W Z R own code mx ret nm wsx hx0) {cd : ClassFile.Cond} {o : Int} {x y : Int64} {xi yi : Int} (hd : decode code pc = .ok (.lcmp, 1)) (hd' : decode code pc' = .ok (.ifCond cd o, 3)) (hp : pc + 1 = pc') (ho : 0 ≤ (pc' : Int) + o) (hp1 : ((pc' : Int) + o).toNat = pc1) (hp2 : pc' + 3 = pc2) (hx : x.toInt = xi) (hy : y.toInt = yi) (g1 : icp cd xi yi → Go W Q h k n pc1 L S) (g2 : ¬ icp cd xi yi → Go W Q h k n pc2 L S) : Go W Q h k n pc L (.long y :: .long x :: S) := by
  by_cases q : icp cd xi yi
  · exact g_lcmpY C hd hd' hp ho hp1 hx hy q (g1 q)
  · exact g_lcmpN C hd hd' hp hp2 hx hy q (g2 q)
theorem icp_b0 {P : Prop} [Decidable P] : icp .eq (b2i P).toInt 0 ↔ ¬ P := by
  show (b2i P).toInt = 0 ↔ ¬ P
  rw [b2i_toInt]; split <;> simp [*]
theorem icp_b1 {P : Prop} [Decidable P] : icp .ne (b2i P).toInt 0 ↔ P := by
  show ¬ (b2i P).toInt = 0 ↔ P
  rw [b2i_toInt]; split <;> simp [*]
/-- ifeq on a truth value -/
theorem g_ifeqb (C : Cx W Z R own code mx ret nm wsx hx0) {o : Int} {x : Int32} {P : Prop} [Decidable P] (hd : decode code pc = .ok (.ifCond .eq o, 3)) (ho : 0 ≤ (pc : Int) + o) (hp1 : ((pc : Int) + o).toNat = pc1) (hp2 : pc + 3 = pc2) (hx : x = b2i P) (g1 : ¬ P → Go W Q h k n pc1 L S) (g2 : P → Go W Q h k n pc2 L S) : Go W Q h k n pc L (.int x :: S) := by
  subst hx
  exact g_if C hd ho hp1 hp2 rfl (fun q => g1 (icp_b0.mp q)) (fun q => g2 (Decidable.not_not.mp fun z => q (icp_b0.mpr z)))
/-- ifne on a truth value -/
theorem g_ifneb (C : Cx W Z R own code mx ret nm wsx hx0) {o : Int} {x : Int32} {P : Prop} [Decidable P] (hd : decode code pc = .ok (.ifCond .ne o, 3)) (ho : 0 ≤ (pc : Int) + o) (hp1 : ((pc : Int) + o).toNat = pc1) (hp2 : pc + 3 = pc2) (hx : x = b2i P) (g1 : P → Go W Q h k n pc1 L S) (g2 : ¬ P → Go W Q h k n pc2 L S) : Go W Q h k n pc L (.int x :: S) := by
  subst hx
  exact g_if C hd ho hp1 hp2 rfl (fun q => g1 (icp_b1.mp q)) (fun q => g2 fun z => q (icp_b1.mpr z))
theorem g_icmpbeq (C : Cx W Z R own code mx ret nm wsx hx0) {o : Int} {x y : Int32} {P P' : Prop} [Decidable P] [Decidable P'] (hd : decode code pc = .ok (.if_icmp .eq o, 3)) (ho : 0 ≤ (pc : Int) + o) (hp1 : ((pc : Int) + o).toNat = pc1) (hp2 : pc + 3 = pc2) (hx : x = b2i P) (hy : y = b2i P') (g1 : (P ↔ P') → Go W Q h k n pc1 L S) (g2 : ¬ (P ↔ P') → Go W Q h k n pc2 L S) : Go W Q h k n pc L (.int y :: .int x :: S) := by
  subst hx hy
  exact g_icmp C hd ho hp1 hp2 rfl rfl (fun q => g1 (b2i_inj.mp (Int32.toInt_inj.mp q))) (fun q => g2 fun z => q (congrArg Int32.toInt (b2i_inj.mpr z)))
theorem g_icmpbne (C : Cx W Z R own code mx ret nm wsx hx0) {o : Int} {x y : Int32} {P P' : Prop} [Decidable P] [Decidable P'] (hd : decode code pc = .ok (.if_icmp .ne o, 3)) (ho : 0 ≤ (pc : Int) + o) (hp1 : ((pc : Int) + o).toNat = pc1) (hp2 : pc + 3 = pc2) (hx : x = b2i P) (hy : y = b2i P') (g1 : ¬ (P ↔ P') → Go W Q h k n pc1 L S) (g2 : (P ↔ P') → Go W Q h k n pc2 L S) : Go W Q h k n pc L (.int y :: .int x :: S) := by
  subst hx hy
  exact g_icmp C hd ho hp1 hp2 rfl rfl (fun q => g1 fun z => q (congrArg Int32.toInt (b2i_inj.mpr z))) (fun q => g2 (b2i_inj.mp (Int32.toInt_inj.mp (Decidable.not_not.mp q))))
theorem isRef_cases {v : Value} (hv : v.isRef = true) (h0 : v ≠ .null) : ∃ b, v = .ref b := by
  rcases ref_cases hv with q | q
  · exact absurd q h0
  · exact q
theorem g_ifnonnull (C : Cx W Z R own code mx ret nm wsx hx0) {o : Int} {v : Value} (hd : decode code pc = .ok (.ifnonnull o, 3)) (ho : 0 ≤ (pc : Int) + o) (hp1 : ((pc : Int) + o).toNat = pc1) (hp2 : pc + 3 = pc2) (hv : v.isRef = true) (g1 : v ≠ .null → Go W Q h k n pc1 L S) (g2 : v = .null → Go W Q h k n pc2 L S) : Go W Q h k n pc L (v :: S) := by
  by_cases q : v = .null
  · have g := g2 q
    subst q hp2
    exact g.st fun T locs X e t kk => XS.ifnonnullNo (g := mkF W.m pc L (.null :: S)) X.here C.x rfl (C.b hd) rfl kk
  · have g := g1 q
    obtain ⟨b, rfl⟩ := isRef_cases hv q
    exact g.st fun T locs X e t kk => XS.ifnonnullYes (g := mkF W.m pc L (.ref b :: S)) X.here C.x rfl rfl (C.b hd) rfl ho hp1 kk
theorem g_ifnull (C : Cx W Z R own code mx ret nm wsx hx0) {o : Int} {v : Value} (hd : decode code pc = .ok (.ifnull o, 3)) (ho : 0 ≤ (pc : Int) + o) (hp1 : ((pc : Int) + o).toNat = pc1) (hp2 : pc + 3 = pc2) (hv : v.isRef = true) (g1 : v = .null → Go W Q h k n pc1 L S) (g2 : v ≠ .null → Go W Q h k n pc2 L S) : Go W Q h k n pc L (v :: S) := by
  by_cases q : v = .null
  · have g := g1 q
    subst q
    exact g.st fun T locs X e t kk => XS.ifnullYes (g := mkF W.m pc L (.null :: S)) X.here C.x rfl rfl (C.b hd) rfl ho hp1 kk
  · have g := g2 q
    obtain ⟨b, rfl⟩ := isRef_cases hv q
    subst hp2
    exact g.st fun T locs X e t kk => XS.ifnullNo (g := mkF W.m pc L (.ref b :: S)) X.here C.x rfl (C.b hd) rfl kk
theorem g_acmpne (C : Cx W Z R own code mx ret nm wsx hx0) {o : Int} {v w : Value} (hd : decode code pc = .ok (.if_acmp .ne o, 3)) (ho : 0 ≤ (pc : Int) + o) (hp1 : ((pc : Int) + o).toNat = pc1) (hp2 : pc + 3 = pc2) (hv : v.isRef = true) (hw : w.isRef = true) (g1 : v ≠ w → Go W Q h k n pc1 L S) (g2 : v = w → Go W Q h k n pc2 L S) : Go W Q h k n pc L (w :: v :: S) := by
  by_cases q : v = w
  · exact (g2 q).st fun T locs X e t kk => Jvm.RoadKit.acmp (g := mkF W.m pc L (w :: v :: S)) X C.x rfl hv hw (same := true) rfl (C.b hd) rfl (decide_eq_true q) ho (by rw [← hp2]; rfl) kk
  · exact (g1 q).st fun T locs X e t kk => Jvm.RoadKit.acmp (g := mkF W.m pc L (w :: v :: S)) X C.x rfl hv hw (same := false) rfl (C.b hd) rfl (decide_eq_false q) ho hp1.symm kk
theorem g_acmpeq (C : Cx W Z R own code mx ret nm wsx hx0) {o : Int} {v w : Value} (hd : decode code pc = .ok (.if_acmp .eq o, 3)) (ho : 0 ≤ (pc : Int) + o) (hp1 : ((pc : Int) + o).toNat = pc1) (hp2 : pc + 3 = pc2) (hv : v.isRef = true) (hw : w.isRef = true) (g1 : v = w → Go W Q h k n pc1 L S) (g2 : v ≠ w → Go W Q h k n pc2 L S) : Go W Q h k n pc L (w :: v :: S) := by
  by_cases q : v = w
  · exact (g1 q).st fun T locs X e t kk => Jvm.RoadKit.acmp (g := mkF W.m pc L (w :: v :: S)) X C.x rfl hv hw (same := true) rfl (C.b hd) rfl (decide_eq_true q) ho hp1.symm kk
  · exact (g2 q).st fun T locs X e t kk => Jvm.RoadKit.acmp (g := mkF W.m pc L (w :: v :: S)) X C.x rfl hv hw (same := false) rfl (C.b hd) rfl (decide_eq_false q) ho (by rw [← hp2]; rfl) kk

/-! fields, objects, arrays -/
theorem g_getL (C : Cx W Z R own code mx ret nm wsx hx0) {i : Nat} {R0 O f d host : String} {a : Addr} {v : Value} (hd : decode code pc = .ok (.getfield i, 3)) (hp : pc + 3 = pc') (w : (Jvm.Cond.fieldLink own i R0 f d).before a0 Z = true ∨ (Jvm.Cond.fieldLinkNest own i R0 f d host).before a0 Z = true) (via : Via Z R0 O f d) (F : Fld Z h a O f d v) (g : Go W Q h k n pc' L (v :: S)) : Go W Q h k n pc L (.ref a :: S) := fun T hT => by
  obtain ⟨locs, X, e, N⟩ := hT
  subst hp
  obtain ⟨T', X', e', st⟩ := getF X C.x C.z C.o w via e F (g := mkF W.m pc L (.ref a :: S)) rfl rfl (C.b hd)
  exact Out.st st (g T' ⟨locs, X', e', N⟩)
theorem g_getO (C : Cx W Z R own code mx ret nm wsx hx0) {i j : Nat} {O f d Cl : String} {a : Addr} {v : Value} {fs : List (String × String × String × Value)} (hd : decode code pc = .ok (.getfield i, 3)) (hp : pc + 3 = pc') (w : (Jvm.Cond.fieldLink own i O f d).before a0 Z = true) (F : Ob Z h a Cl fs) (hj : fs[j]? = some (O, f, d, v)) (g : Go W Q h k n pc' L (v :: S)) : Go W Q h k n pc L (.ref a :: S) :=
  g_getL (host := "") C hd hp (Or.inl w) Via.refl (F.get hj) g
theorem pw_size (C : Cx W Z R own code mx ret nm wsx hx0) {T : State} {locs : List Loc} (X : Sta0 W T locs k n) (e : T.heap = h) : Pw W h.size := by
  have q : W.s.heap.size ≤ T.heap.size := X.same.2.1
  rw [e] at q
  exact Or.inr q
theorem g_putO (C : Cx W Z R own code mx ret nm wsx hx0) {i j kk : Nat} {R0 O f d Cl : String} {ty : FieldType} {a : Addr} {v v' old : Value} {fs fs' : List (String × String × String × Value)} (hd : decode code pc = .ok (.putfield i, 3)) (hp : pc + 3 = pc') (w : (Jvm.Cond.fieldLink own i R0 f d).before a0 Z = true) (via : Via Z R0 O f d) (F : Ob Z h a Cl fs) (hj : fs[j]? = some (O, f, d, old))
    (Lw : (Jvm.Cond.lays Cl O f d).before a0 Z = true ∨ ((Jvm.Cond.laysFinal Cl O f d).before a0 Z = true ∧ own = O ∧ nm = "<init>")) (wi : (Jvm.Cond.instantiable Cl kk).before a0 Z = true) (hty : parseFieldDescriptor d = some ty) (hn : narrow ty v = v') (hf : fits ty v' = true) (hset : fs.set j (O, f, d, v') = fs') (q : Pw W a)
    (g : ∀ h', Ob Z h' a Cl fs' → Keep h h' [a] → Go W Q h' k n pc' L S) : Go W Q h k n pc L (v :: .ref a :: S) := fun T hT => by
  obtain ⟨locs, X, e, N⟩ := hT
  subst hp hset
  obtain ⟨T', h', X', e', Wx, st⟩ := putFN X C.x C.z C.o w via e (F.get hj) F.1 (Lw.imp id fun z => ⟨z.1, z.2.1, C.nme.trans z.2.2⟩) wi hty hn hf (g := mkF W.m pc L (v :: .ref a :: S)) rfl rfl (C.b hd)
  refine Out.st st (g h' (F.put hj Wx) (Keep.of_wr Wx) T' ⟨_, X', e', fun y hy => ?_⟩)
  rcases List.mem_append.mp hy with z | z
  · exact N y z
  · cases List.mem_singleton.mp z; exact q
theorem g_new (C : Cx W Z R own code mx ret nm wsx hx0) {i nn : Nat} {Cl : String} (hd : decode code pc = .ok (.new i, 3)) (hp : pc + 3 = pc') (w : (Jvm.Cond.classLink own i Cl).before a0 Z = true) (wi : (Jvm.Cond.instantiable Cl nn).before a0 Z = true) (wz : (Jvm.Cond.initialized Cl).before a0 Z = true) {k' n' : Nat} (hk : k + 1 = k') (hn : n + nn = n') (hc : k' ≤ R.cells) (hs : n' ≤ R.slots)
    (g : ∀ (h' : Heap) (a : Addr), a = h.size → Ext h h' → Exa Z h' a Cl → (∀ {O f d : String} {ty : FieldType}, Laid Z a0 Cl O f d → parseFieldDescriptor d = some ty → Fld Z h' a O f d (defaultValue ty)) → Pw W a → Go W Q h' k' n' pc' L (.ref a :: S)) : Go W Q h k n pc L S := fun T hT => by
  obtain ⟨locs, X, e, N⟩ := hT
  subst hp hk hn
  obtain ⟨T', h', X', e', E, A, D, -, st⟩ := newO X C.x C.z C.o w wi wz e (g := mkF W.m pc L S) rfl (C.b hd) (by rw [C.r]; exact hc) (by rw [C.r]; exact hs)
  exact Out.st st (g h' h.size rfl E A D (pw_size C X e) T' ⟨locs, X', e', N⟩)
theorem def_list (ty : FieldType) (cA : ClassId) {z : Int32} {len : Nat} (hz : z.toInt = len) : (newA cA ty z).slots.toList = List.replicate len (defaultValue ty) := by
  show (Array.replicate z.toNatClampNeg (defaultValue ty)).toList = _
  rw [clamp_of hz, Array.toList_replicate]
theorem g_newarray (C : Cx W Z R own code mx ret nm wsx hx0) {aty : ArrayType} {ty : FieldType} {z : Int32} {len cap : Nat} (hd : decode code pc = .ok (.newarray aty, 2)) (hp : pc + 2 = pc') (hty : newarray.typeOf aty = ty) (w : (Jvm.Cond.arrayClass ty).before a0 Z = true) (hz : z.toInt = len) (hcap : len ≤ cap) (hb8 : cap * 8 ≤ 536870912) {k' n' : Nat} (hk : k + 1 = k') (hn : n + cap = n') (hc : k' ≤ R.cells) (hs : n' ≤ R.slots)
    (g : ∀ (h' : Heap) (a : Addr), a = h.size → Ext h h' → Ar Z h' a ty (List.replicate len (defaultValue ty)) → Pw W a → Go W Q h' k' n' pc' L (.ref a :: S)) : Go W Q h k n pc L (.int z :: S) := fun T hT => by
  obtain ⟨locs, X, e, N⟩ := hT
  subst hp hty hk hn
  obtain ⟨T', h', cA, X', e', E, A, st⟩ := newP X C.x C.z w e (g := mkF W.m pc L (.int z :: S)) rfl (C.b hd) rfl (nneg_of hz) (cap := cap) (by rw [clamp_of hz]; exact hcap) hb8 (by rw [C.r]; exact hc) (by rw [C.r]; exact hs)
  exact Out.st st (g h' h.size rfl E ⟨_, A, def_list _ _ hz⟩ (pw_size C X e) T' ⟨locs, X', e', N⟩)
theorem g_anewarray (C : Cx W Z R own code mx ret nm wsx hx0) {i : Nat} {Cl : String} {z : Int32} {len cap : Nat} (hd : decode code pc = .ok (.anewarray i, 3)) (hp : pc + 3 = pc') (w : (Jvm.Cond.classLink own i Cl).before a0 Z = true) (w2 : (Jvm.Cond.arrayOver (.object Cl)).before a0 Z = true) (hz : z.toInt = len) (hcap : len ≤ cap) (hb8 : cap * 8 ≤ 536870912) {k' n' : Nat} (hk : k + 1 = k') (hn : n + cap = n') (hc : k' ≤ R.cells) (hs : n' ≤ R.slots)
    (g : ∀ (h' : Heap) (a : Addr), a = h.size → Ext h h' → ArR Z h' a Cl (List.replicate len .null) → Pw W a → Go W Q h' k' n' pc' L (.ref a :: S)) : Go W Q h k n pc L (.int z :: S) := fun T hT => by
  obtain ⟨locs, X, e, N⟩ := hT
  subst hp hk hn
  obtain ⟨T', h', cA, X', e', E, A, O, st⟩ := newR X C.x C.z C.o w w2 e (g := mkF W.m pc L (.int z :: S)) rfl (C.b hd) rfl (nneg_of hz) (cap := cap) (by rw [clamp_of hz]; exact hcap) hb8 (by rw [C.r]; exact hc) (by rw [C.r]; exact hs)
  exact Out.st st (g h' h.size rfl E ⟨_, A, def_list _ _ hz, O⟩ (pw_size C X e) T' ⟨locs, X', e', N⟩)
theorem g_arraylength (C : Cx W Z R own code mx ret nm wsx hx0) {a : Addr} {ty : FieldType} {vs : List Value} {z : Int32} (hd : decode code pc = .ok (.arraylength, 1)) (hp : pc + 1 = pc') (A : Ar Z h a ty vs) (hz : vs.length.toInt32 = z) (g : Go W Q h k n pc' L (.int z :: S)) : Go W Q h k n pc L (.ref a :: S) := by
  subst hp hz
  obtain ⟨c, A, e⟩ := A
  rw [← e, Array.length_toList] at g
  exact g.st fun T locs X eT t kk => X.arraylength C.x (by rw [eT]; exact A.1) (State.isArrayOf_alike C.z.alike A.2.1) (g := mkF W.m pc L (.ref a :: S)) rfl rfl (C.b hd) t kk
theorem g_arraylengthR (C : Cx W Z R own code mx ret nm wsx hx0) {a : Addr} {Cl : String} {vs : List Value} {z : Int32} (hd : decode code pc = .ok (.arraylength, 1)) (hp : pc + 1 = pc') (A : ArR Z h a Cl vs) (hz : vs.length.toInt32 = z) (g : Go W Q h k n pc' L (.int z :: S)) : Go W Q h k n pc L (.ref a :: S) := by
  obtain ⟨c, A, e, -⟩ := A
  exact g_arraylength C hd hp ⟨c, A, e⟩ hz g

theorem g_iaload (C : Cx W Z R own code mx ret nm wsx hx0) {a : Addr} {vs : List Value} {v : Value} {j : Int32} {i : Nat} (hd : decode code pc = .ok (.iaload, 1)) (hp : pc + 1 = pc') (A : Ar Z h a .int vs) (hj : j.toInt = i) (hv : vs[i]? = some v) (g : Go W Q h k n pc' L (v :: S)) : Go W Q h k n pc L (.int j :: .ref a :: S) := by
  subst hp
  obtain ⟨c, A, e⟩ := A
  subst e
  have hi := (List.getElem?_eq_some_iff.mp hv).1
  exact g.st fun T locs X eT t kk => X.iaload C.x (by rw [eT]; exact A.1) (State.isArrayOf_alike C.z.alike A.2.1) A.2.2 (in_of hj hi) (by rw [clamp_of hj, ← Array.getElem?_toList]; exact hv) (g := mkF W.m pc L (.int j :: .ref a :: S)) rfl rfl (C.b hd) t kk
theorem g_laload (C : Cx W Z R own code mx ret nm wsx hx0) {a : Addr} {vs : List Value} {v : Value} {j : Int32} {i : Nat} (hd : decode code pc = .ok (.laload, 1)) (hp : pc + 1 = pc') (A : Ar Z h a .long vs) (hj : j.toInt = i) (hv : vs[i]? = some v) (g : Go W Q h k n pc' L (v :: S)) : Go W Q h k n pc L (.int j :: .ref a :: S) := by
  subst hp
  obtain ⟨c, A, e⟩ := A
  subst e
  have hi := (List.getElem?_eq_some_iff.mp hv).1
  exact g.st fun T locs X eT t kk => X.laload C.x (by rw [eT]; exact A.1) (State.isArrayOf_alike C.z.alike A.2.1) A.2.2 (in_of hj hi) (by rw [clamp_of hj, ← Array.getElem?_toList]; exact hv) (g := mkF W.m pc L (.int j :: .ref a :: S)) rfl rfl (C.b hd) t kk
theorem g_caload (C : Cx W Z R own code mx ret nm wsx hx0) {a : Addr} {vs : List Value} {v : Value} {j : Int32} {i : Nat} (hd : decode code pc = .ok (.caload, 1)) (hp : pc + 1 = pc') (A : Ar Z h a .char vs) (hj : j.toInt = i) (hv : vs[i]? = some v) (g : Go W Q h k n pc' L (v :: S)) : Go W Q h k n pc L (.int j :: .ref a :: S) := by
  subst hp
  obtain ⟨c, A, e⟩ := A
  subst e
  have hi := (List.getElem?_eq_some_iff.mp hv).1
  exact g.st fun T locs X eT t kk => X.caload C.x (by rw [eT]; exact A.1) (State.isArrayOf_alike C.z.alike A.2.1) A.2.2 (in_of hj hi) (by rw [clamp_of hj, ← Array.getElem?_toList]; exact hv) (g := mkF W.m pc L (.int j :: .ref a :: S)) rfl rfl (C.b hd) t kk
theorem g_baload (C : Cx W Z R own code mx ret nm wsx hx0) {a : Addr} {vs : List Value} {v : Value} {j : Int32} {i : Nat} (hd : decode code pc = .ok (.baload, 1)) (hp : pc + 1 = pc') (A : Ar Z h a .byte vs) (hj : j.toInt = i) (hv : vs[i]? = some v) (g : Go W Q h k n pc' L (v :: S)) : Go W Q h k n pc L (.int j :: .ref a :: S) := by
  subst hp
  obtain ⟨c, A, e⟩ := A
  subst e
  have hi := (List.getElem?_eq_some_iff.mp hv).1
  exact g.st fun T locs X eT t kk => X.baloadBytes C.x (by rw [eT]; exact A.1) (State.isArrayOf_alike C.z.alike A.2.1) A.2.2 (in_of hj hi) (by rw [clamp_of hj, ← Array.getElem?_toList]; exact hv) (g := mkF W.m pc L (.int j :: .ref a :: S)) rfl rfl (C.b hd) t kk
theorem g_zaload (C : Cx W Z R own code mx ret nm wsx hx0) {a : Addr} {vs : List Value} {v : Value} {j : Int32} {i : Nat} (hd : decode code pc = .ok (.baload, 1)) (hp : pc + 1 = pc') (A : Ar Z h a .boolean vs) (hj : j.toInt = i) (hv : vs[i]? = some v) (g : Go W Q h k n pc' L (v :: S)) : Go W Q h k n pc L (.int j :: .ref a :: S) := by
  subst hp
  obtain ⟨c, A, e⟩ := A
  subst e
  have hi := (List.getElem?_eq_some_iff.mp hv).1
  exact g.st fun T locs X eT t kk => X.baloadBooleans C.x (by rw [eT]; exact A.1) (State.isArrayOf_alike C.z.alike A.2.1) A.2.2 (in_of hj hi) (by rw [clamp_of hj, ← Array.getElem?_toList]; exact hv) (g := mkF W.m pc L (.int j :: .ref a :: S)) rfl rfl (C.b hd) t kk
theorem g_aaload (C : Cx W Z R own code mx ret nm wsx hx0) {a : Addr} {Cl : String} {vs : List Value} {v : Value} {j : Int32} {i : Nat} (hd : decode code pc = .ok (.aaload, 1)) (hp : pc + 1 = pc') (A : ArR Z h a Cl vs) (hj : j.toInt = i) (hv : vs[i]? = some v) (g : Go W Q h k n pc' L (v :: S)) : Go W Q h k n pc L (.int j :: .ref a :: S) := by
  subst hp
  obtain ⟨c, A, e, -⟩ := A
  subst e
  have hi := (List.getElem?_eq_some_iff.mp hv).1
  exact g.st fun T locs X eT t kk => X.aaload C.x (by rw [eT]; exact A.1) (State.isArrayOf_alike C.z.alike A.2.1) rfl A.2.2 (in_of hj hi) (by rw [clamp_of hj, ← Array.getElem?_toList]; exact hv) (g := mkF W.m pc L (.int j :: .ref a :: S)) rfl rfl (C.b hd) t kk
theorem g_iastore (C : Cx W Z R own code mx ret nm wsx hx0) {a : Addr} {vs vs' : List Value} {x : Int32} {j : Int32} {i : Nat} (hd : decode code pc = .ok (.iastore, 1)) (hp : pc + 1 = pc') (A : Ar Z h a .int vs) (hj : j.toInt = i) (hi : i < vs.length) (hset : vs.set i (.int x) = vs') (q : Pw W a) (g : ∀ h', Ar Z h' a .int vs' → Keep h h' [a] → Go W Q h' k n pc' L S) : Go W Q h k n pc L (.int x :: .int j :: .ref a :: S) := fun T hT => by
  obtain ⟨locs, X, e, N⟩ := hT
  subst hp hset
  obtain ⟨c, A, ec⟩ := A
  obtain ⟨T', h', X', e', Wx, st⟩ := stI X C.x C.z e A (in_of hj (ec ▸ hi)) (g := mkF W.m pc L (.int x :: .int j :: .ref a :: S)) rfl rfl (C.b hd)
  refine Out.st st (g h' (Ar.put A ec hj Wx) (Keep.of_wr Wx) T' ⟨_, X', e', fun y hy => ?_⟩)
  rcases List.mem_append.mp hy with z | z
  · exact N y z
  · cases List.mem_singleton.mp z; exact q
theorem g_lastore (C : Cx W Z R own code mx ret nm wsx hx0) {a : Addr} {vs vs' : List Value} {x : Int64} {j : Int32} {i : Nat} (hd : decode code pc = .ok (.lastore, 1)) (hp : pc + 1 = pc') (A : Ar Z h a .long vs) (hj : j.toInt = i) (hi : i < vs.length) (hset : vs.set i (.long x) = vs') (q : Pw W a) (g : ∀ h', Ar Z h' a .long vs' → Keep h h' [a] → Go W Q h' k n pc' L S) : Go W Q h k n pc L (.long x :: .int j :: .ref a :: S) := fun T hT => by
  obtain ⟨locs, X, e, N⟩ := hT
  subst hp hset
  obtain ⟨c, A, ec⟩ := A
  obtain ⟨T', h', X', e', Wx, st⟩ := stJ X C.x C.z e A (in_of hj (ec ▸ hi)) (g := mkF W.m pc L (.long x :: .int j :: .ref a :: S)) rfl rfl (C.b hd)
  refine Out.st st (g h' (Ar.put A ec hj Wx) (Keep.of_wr Wx) T' ⟨_, X', e', fun y hy => ?_⟩)
  rcases List.mem_append.mp hy with z | z
  · exact N y z
  · cases List.mem_singleton.mp z; exact q
theorem g_castore (C : Cx W Z R own code mx ret nm wsx hx0) {a : Addr} {vs vs' : List Value} {x : Int32} {j : Int32} {i : Nat} (hd : decode code pc = .ok (.castore, 1)) (hp : pc + 1 = pc') (A : Ar Z h a .char vs) (hj : j.toInt = i) (hi : i < vs.length) (hset : vs.set i (.int (nar .char x)) = vs') (q : Pw W a) (g : ∀ h', Ar Z h' a .char vs' → Keep h h' [a] → Go W Q h' k n pc' L S) : Go W Q h k n pc L (.int x :: .int j :: .ref a :: S) := fun T hT => by
  obtain ⟨locs, X, e, N⟩ := hT
  subst hp hset
  obtain ⟨c, A, ec⟩ := A
  obtain ⟨T', h', X', e', Wx, st⟩ := stC X C.x C.z e A (in_of hj (ec ▸ hi)) (g := mkF W.m pc L (.int x :: .int j :: .ref a :: S)) rfl rfl (C.b hd)
  refine Out.st st (g h' (Ar.put A ec hj Wx) (Keep.of_wr Wx) T' ⟨_, X', e', fun y hy => ?_⟩)
  rcases List.mem_append.mp hy with z | z
  · exact N y z
  · cases List.mem_singleton.mp z; exact q
theorem g_bastore (C : Cx W Z R own code mx ret nm wsx hx0) {a : Addr} {vs vs' : List Value} {x : Int32} {j : Int32} {i : Nat} (hd : decode code pc = .ok (.bastore, 1)) (hp : pc + 1 = pc') (A : Ar Z h a .byte vs) (hj : j.toInt = i) (hi : i < vs.length) (hset : vs.set i (.int (nar .byte x)) = vs') (q : Pw W a) (g : ∀ h', Ar Z h' a .byte vs' → Keep h h' [a] → Go W Q h' k n pc' L S) : Go W Q h k n pc L (.int x :: .int j :: .ref a :: S) := fun T hT => by
  obtain ⟨locs, X, e, N⟩ := hT
  subst hp hset
  obtain ⟨c, A, ec⟩ := A
  obtain ⟨T', h', X', e', Wx, st⟩ := stB X C.x C.z e A (in_of hj (ec ▸ hi)) (g := mkF W.m pc L (.int x :: .int j :: .ref a :: S)) rfl rfl (C.b hd)
  refine Out.st st (g h' (Ar.put A ec hj Wx) (Keep.of_wr Wx) T' ⟨_, X', e', fun y hy => ?_⟩)
  rcases List.mem_append.mp hy with z | z
  · exact N y z
  · cases List.mem_singleton.mp z; exact q
theorem g_zastore (C : Cx W Z R own code mx ret nm wsx hx0) {a : Addr} {vs vs' : List Value} {x : Int32} {j : Int32} {i : Nat} (hd : decode code pc = .ok (.bastore, 1)) (hp : pc + 1 = pc') (A : Ar Z h a .boolean vs) (hj : j.toInt = i) (hi : i < vs.length) (hset : vs.set i (.int (nar .boolean x)) = vs') (q : Pw W a) (g : ∀ h', Ar Z h' a .boolean vs' → Keep h h' [a] → Go W Q h' k n pc' L S) : Go W Q h k n pc L (.int x :: .int j :: .ref a :: S) := fun T hT => by
  obtain ⟨locs, X, e, N⟩ := hT
  subst hp hset
  obtain ⟨c, A, ec⟩ := A
  obtain ⟨T', h', X', e', Wx, st⟩ := stZ X C.x C.z e A (in_of hj (ec ▸ hi)) (g := mkF W.m pc L (.int x :: .int j :: .ref a :: S)) rfl rfl (C.b hd)
  refine Out.st st (g h' (Ar.put A ec hj Wx) (Keep.of_wr Wx) T' ⟨_, X', e', fun y hy => ?_⟩)
  rcases List.mem_append.mp hy with z | z
  · exact N y z
  · cases List.mem_singleton.mp z; exact q
theorem ArR.put {Z : State} {h h' : Heap} {a : Addr} {Cl : String} {vs : List Value} {v : Value} {c : Cell} (A : Arr Z h a c (.object Cl)) (e : c.slots.toList = vs) (O : Ovr Z c.cls Cl) {j : Int32} {i : Nat} (hj : j.toInt = i) (W : Wr h h' a j.toNatClampNeg v) : ArR Z h' a Cl (vs.set i v) := by
  refine ⟨_, A.same W, ?_, O⟩
  rw [clamp_of hj, set_toList, e]
theorem g_aastore (C : Cx W Z R own code mx ret nm wsx hx0) {a : Addr} {Cl : String} {vs vs' : List Value} {v : Value} {j : Int32} {i : Nat} (hd : decode code pc = .ok (.aastore, 1)) (hp : pc + 1 = pc') (A : ArR Z h a Cl vs) (hj : j.toInt = i) (hi : i < vs.length) (hset : vs.set i v = vs') (hv : v = .null ∨ ∃ y, v = .ref y ∧ Exa Z h y Cl) (q : Pw W a) (g : ∀ h', ArR Z h' a Cl vs' → Keep h h' [a] → Go W Q h' k n pc' L S) : Go W Q h k n pc L (v :: .int j :: .ref a :: S) := fun T hT => by
  obtain ⟨locs, X, e, N⟩ := hT
  subst hp hset
  obtain ⟨c, A, ec, O⟩ := A
  have F : Sto Z h a v := by
    rcases hv with rfl | ⟨y, rfl, E⟩
    · exact Or.inl rfl
    · exact Sto.of A O (Ins.self E)
  obtain ⟨T', h', X', e', Wx, st⟩ := stR X C.x C.z e A (in_of hj (ec ▸ hi)) rfl F (g := mkF W.m pc L (v :: .int j :: .ref a :: S)) rfl rfl (C.b hd)
  refine Out.st st (g h' (ArR.put A ec O hj Wx) (Keep.of_wr Wx) T' ⟨_, X', e', fun y hy => ?_⟩)
  rcases List.mem_append.mp hy with z | z
  · exact N y z
  · cases List.mem_singleton.mp z; exact q
/-! returns -/
theorem g_end (C : Cx W Z R own code mx ret nm wsx hx0) {v : Option Value} (hv : ret = none → v = none) (hc : k ≤ R.cells) (hs : n ≤ R.slots) (q : Q v h)
    (st : ∀ T locs, Sta0 W T locs k n → ∀ fs, (∀ (f : JFrame) (acts : List Action), f.method = W.m → f.locked = none → f.entered = [] → (doReturn W.e (T.setTop f) acts v).1 = T.setFrames fs) → Stp W (T.setTop (mkF W.m pc L S)) (T.setFrames fs)) : Go W Q h k n pc L S := fun T hT => by
  obtain ⟨locs, X, e, N⟩ := hT
  obtain ⟨fs, hr, hrun, hended, hW, hsame⟩ := X.leave (v := v) (fun z => hv (C.rt ▸ z)) C.lk
  refine ⟨_, _, st T locs X fs hr, hrun, hended, v, locs, rfl, ⟨?_, N⟩, ⟨_, rfl⟩, hW, hsame.mono (by rw [C.r]; exact hc) (by rw [C.r]; exact hs)⟩
  show Q v T.heap
  rw [e]; exact q
theorem g_return (C : Cx W Z R own code mx none nm wsx hx0) (hd : decode code pc = .ok (.return_, 1)) (hc : k ≤ R.cells) (hs : n ≤ R.slots) (q : Q none h) : Go W Q h k n pc L [] :=
  g_end C (fun _ => rfl) hc hs q fun T locs X fs hr => X.returnOut C.x C.rt (C.b hd) hr
theorem g_retN {ty0 : FieldType} (C : Cx W Z R own code mx (some ty0) nm wsx hx0) {z : Int32} (ht : ty0 = .boolean ∨ ty0 = .byte ∨ ty0 = .char ∨ ty0 = .short) (hd : decode code pc = .ok (.ireturn, 1)) (hc : k ≤ R.cells) (hs : n ≤ R.slots) (q : Q (some (.int (nar ty0 z))) h) : Go W Q h k n pc L (.int z :: S) :=
  g_end C nofun hc hs q fun T locs X fs hr => retN X C.x C.rt ht (C.b hd) hr
theorem g_retI (C : Cx W Z R own code mx (some .int) nm wsx hx0) {z : Int32} (hd : decode code pc = .ok (.ireturn, 1)) (hc : k ≤ R.cells) (hs : n ≤ R.slots) (q : Q (some (.int z)) h) : Go W Q h k n pc L (.int z :: S) :=
  g_end C nofun hc hs q fun T locs X fs hr => retOut X C.x C.rt rfl (Or.inl ⟨rfl, Or.inl rfl, z, rfl⟩) (C.b hd) hr
theorem g_retL (C : Cx W Z R own code mx (some .long) nm wsx hx0) {z : Int64} (hd : decode code pc = .ok (.lreturn, 1)) (hc : k ≤ R.cells) (hs : n ≤ R.slots) (q : Q (some (.long z)) h) : Go W Q h k n pc L (.long z :: S) :=
  g_end C nofun hc hs q fun T locs X fs hr => retOut X C.x C.rt rfl (Or.inr (Or.inl ⟨rfl, rfl, z, rfl⟩)) (C.b hd) hr
theorem g_retA {ty0 : FieldType} (C : Cx W Z R own code mx (some ty0) nm wsx hx0) {v : Value} (ht : ty0.isReference = true) (hn : narrow ty0 v = v) (hv : v.isRef = true) (hd : decode code pc = .ok (.areturn, 1)) (hc : k ≤ R.cells) (hs : n ≤ R.slots) (q : Q (some v) h) : Go W Q h k n pc L (v :: S) :=
  g_end C nofun hc hs q fun T locs X fs hr => retOut X C.x C.rt hn (Or.inr (Or.inr (Or.inr (Or.inr ⟨rfl, ht, hv⟩)))) (C.b hd) hr
/-! calls -/
theorem g_initO (C : Cx W Z R own code mx ret nm wsx hx0) {i : Nat} {a : Addr} (hd : decode code pc = .ok (.invokespecial i, 3)) (hp : pc + 3 = pc') (w1 : (Jvm.Cond.methodLink own i Lib.objectInit).before a0 Z = true) (w2 : (Jvm.Cond.instanceMethod Lib.objectInit).before a0 Z = true) (w3 : (Jvm.Cond.code Lib.objectInit Jvm.Pilot.@@N@@.object_method_1_code 1 none).before a0 Z = true) (hL : L.size = mx) (hf : 1 ≤ R.frames) (hl : (S.map fun v => v.category).sum + 12 ≤ R.locals) (g : Go W Q h k n pc' L S) : Go W Q h k n pc L (.ref a :: S) := fun T hT => by
  obtain ⟨locs, X, e, N⟩ := hT
  subst hp
  obtain ⟨T', X', e', st⟩ := initO X C.x C.z C.o w1 w2 w3 e (g := mkF W.m pc L (.ref a :: S)) rfl (by rw [C.ml]; exact hL) rfl (C.b hd) (by rw [C.r]; exact hf) (W := (S.map fun v => v.category).sum) (by show 2 * 0 + _ ≤ _; omega) (by rw [C.r]; exact hl)
  exact Out.st st (g T' ⟨locs, X', e', N⟩)
theorem post_call {T T' : State} {locs L' : List Loc} {k' n' : Nat} {ws : List Addr} (X : Sta0 W T locs k n) (e : T.heap = h) (N : ∀ y ∈ locs, Pw W y.base) (hws : ∀ a ∈ ws, Pw W a) (hL : ∀ y ∈ L', y.base ∈ ws ∨ h.size ≤ y.base) : ∀ y ∈ locs ++ L', Pw W y.base := fun y hy => by
  rcases List.mem_append.mp hy with z | z
  · exact N y z
  · rcases hL y z with q | q
    · exact hws _ q
    · have r : W.s.heap.size ≤ T.heap.size := X.same.2.1
      rw [e] at r
      exact Or.inr (Nat.le_trans r q)
/-- the contract, with what it keeps -/
theorem Con.keeps {l : Launch} {w0 : List Jvm.Cond} {y : MethodName} {bytes : ByteArray} {ret' : Option FieldType} {rm : Room} {as : Array Value} {ws : List Addr} {Q' : Option Value → Heap → Prop} {mx' : Nat} (M : Con l Z w0 y bytes mx' ret' rm as h ws Q') :
    MetFree l y (head1 (Jvm.Cond.code y bytes mx' ret' :: w0) rm) (fun a U => a = as ∧ Z.Warmed39 U.vm ∧ U.heap = h) (fun _ _ _ _ _ => True)
      (fun _ U o U' => ∃ v L, o = .returned v ∧ (Q' v U'.heap ∧ (∀ y ∈ L, y.base ∈ ws ∨ h.size ≤ y.base) ∧ Keep h U'.heap ws) ∧ FrameEnd U o U' L rm.cells rm.slots) := by
  intro p e ha hc hk s m args below hf happ hP hK
  obtain ⟨nn, o, h1, h2, h3, v, L, rfl, ⟨hq, hL⟩, hF⟩ := M p e ha hc hk s m args below hf happ hP hK
  refine ⟨nn, _, h1, h2, h3, v, L, rfl, ⟨hq, hL, ?_⟩, hF⟩
  obtain ⟨rfl, -, rfl⟩ := hP
  have K := keep_of_same hF.2.2 hL
  exact K
theorem g_static (C : Cx W Z R own code mx ret nm wsx hx0) {i : Nat} {y : MethodName} {bytes : ByteArray} {mx' : Nat} {ret' : Option FieldType} {rm : Room} {as : List Value} {ws : List Addr} {Q' : Option Value → Heap → Prop} {S0 : List Value} (hd : decode code pc = .ok (.invokestatic i, 3)) (hp : pc + 3 = pc')
    (w1 : (Jvm.Cond.methodLink own i y).before a0 Z = true) (w2 : (Jvm.Cond.static y).before a0 Z = true) (w3 : (Jvm.Cond.initialized y.cls).before a0 Z = true) (w4 : (Jvm.Cond.code y bytes mx' ret').before a0 Z = true) (hy : y.cls ≠ "java/lang/invoke/MethodHandle" ∧ y.cls ≠ "java/lang/invoke/VarHandle")
    (hlen : ∀ sig, parseMethodDescriptor y.desc = some sig → as.length = sig.parameters.length) (M : Con W.l Z [] y bytes mx' ret' rm as.toArray h ws Q') (hS : S0 = as.reverse ++ S) (hL : L.size = mx) (hf : rm.frames + 1 ≤ R.frames) (hl : (S.map fun v => v.category).sum + (mx' + 11) + rm.locals ≤ R.locals) {k' n' : Nat} (hk : k + rm.cells = k') (hn : n + rm.slots = n') (hc : k' ≤ R.cells) (hs : n' ≤ R.slots) (hws : ∀ a ∈ ws, Pw W a)
    (g : ∀ v h', Q' v h' → Keep h h' ws → Go W Q h' k' n' pc' L (v.toList ++ S)) : Go W Q h k n pc L S0 := fun T hT => by
  obtain ⟨locs, X, e, N⟩ := hT
  subst hp hS hk hn
  obtain ⟨v, _, ⟨T', L1, k1, n1⟩, -, X', ⟨L2, ⟨hQ, hL2, hK⟩, l1, y1, z1⟩, st⟩ := Jvm.LawKit.callS X C.x (y := y) C.o (mvT C.z w1) (mvT C.z w2) (mvT C.z w3) (mvT C.z w4) hy (backOf (R := W.R) (W := (S.map fun v => v.category).sum) (Q := fun v h' L => Q' v h' ∧ (∀ y ∈ L, y.base ∈ ws ∨ h.size ≤ y.base) ∧ Keep h h' ws) M.keeps C.z w4 w3 (by rw [C.r]; exact hf) (by rw [C.r]; exact hl)) (g := mkF W.m pc L (as.reverse ++ S)) rfl (by rw [C.ml]; exact hL) (argsL := as) (rest := S) hlen rfl (by show 2 * 0 + _ ≤ _; omega) (C.b hd) (fun _ _ => ⟨rfl, e, by rw [C.r]; exact hc, by rw [C.r]; exact hs⟩)
  dsimp only [Pt.U, Pt.locs, Pt.cells, Pt.slots] at X' l1 y1 z1 st hQ hK
  subst l1 y1 z1
  exact Out.st st (g v T'.heap hQ hK T' ⟨_, X', rfl, post_call (T' := T') (k' := 0) (n' := 0) X e N hws hL2⟩)
theorem g_special (C : Cx W Z R own code mx ret nm wsx hx0) {i : Nat} {y : MethodName} {bytes : ByteArray} {mx' : Nat} {rm : Room} {as : List Value} {ws : List Addr} {Q' : Option Value → Heap → Prop} {S0 : List Value} {a : Addr} (hd : decode code pc = .ok (.invokespecial i, 3)) (hp : pc + 3 = pc') (hy1 : y.name = "<init>")
    (w1 : (Jvm.Cond.methodLink own i y).before a0 Z = true) (w2 : (Jvm.Cond.instanceMethod y).before a0 Z = true) (w3 : (Jvm.Cond.initialized y.cls).before a0 Z = true) (w4 : (Jvm.Cond.code y bytes mx' none).before a0 Z = true) (hy : y.cls ≠ "java/lang/invoke/MethodHandle" ∧ y.cls ≠ "java/lang/invoke/VarHandle")
    (hlen : ∀ sig, parseMethodDescriptor y.desc = some sig → as.length = sig.parameters.length) (M : Con W.l Z [] y bytes mx' none rm (.ref a :: as).toArray h ws Q') (hS : S0 = as.reverse ++ .ref a :: S) (hL : L.size = mx) (hf : rm.frames + 1 ≤ R.frames) (hl : (S.map fun v => v.category).sum + (mx' + 11) + rm.locals ≤ R.locals) {k' n' : Nat} (hk : k + rm.cells = k') (hn : n + rm.slots = n') (hc : k' ≤ R.cells) (hs : n' ≤ R.slots) (hws : ∀ a ∈ ws, Pw W a)
    (g : ∀ v h', Q' v h' → Keep h h' ws → Go W Q h' k' n' pc' L (v.toList ++ S)) : Go W Q h k n pc L S0 := fun T hT => by
  obtain ⟨locs, X, e, N⟩ := hT
  subst hp hS hk hn
  obtain ⟨v, _, ⟨T', L1, k1, n1⟩, -, X', ⟨L2, ⟨hQ, hL2, hK⟩, l1, y1, z1⟩, st⟩ := X.specialBack C.x (y := y) hy1 C.o (mvT C.z w1) (mvT C.z w2) (mvT C.z w4) hy (backOf (R := W.R) (W := (S.map fun v => v.category).sum) (Q := fun v h' L => Q' v h' ∧ (∀ y ∈ L, y.base ∈ ws ∨ h.size ≤ y.base) ∧ Keep h h' ws) M.keeps C.z w4 w3 (by rw [C.r]; exact hf) (by rw [C.r]; exact hl)) (g := mkF W.m pc L (as.reverse ++ .ref a :: S)) rfl (by rw [C.ml]; exact hL) (Steps.refl _) (a := a) (argsL := as) (rest := S) hlen rfl (by show 2 * 0 + _ ≤ _; omega) (C.b hd) (fun _ _ => ⟨rfl, e, by rw [C.r]; exact hc, by rw [C.r]; exact hs⟩)
  dsimp only [Pt.U, Pt.locs, Pt.cells, Pt.slots] at X' l1 y1 z1 st hQ hK
  subst l1 y1 z1
  exact Out.st (fun t z => st.trans z) (g v T'.heap hQ hK T' ⟨_, X', rfl, post_call (T' := T') (k' := 0) (n' := 0) X e N hws hL2⟩)
theorem g_virtual (C : Cx W Z R own code mx ret nm wsx hx0) {i : Nat} {y : MethodName} {bytes : ByteArray} {mx' : Nat} {ret' : Option FieldType} {rm : Room} {as : List Value} {ws : List Addr} {Q' : Option Value → Heap → Prop} {S0 : List Value} {a : Addr} {Cl : String} (hd : decode code pc = .ok (.invokevirtual i, 3)) (hp : pc + 3 = pc')
    (w1 : (Jvm.Cond.methodLink own i y).before a0 Z = true) (w2 : (Jvm.Cond.instanceMethod y).before a0 Z = true) (w3 : (Jvm.Cond.initialized y.cls).before a0 Z = true) (w4 : (Jvm.Cond.code y bytes mx' ret').before a0 Z = true) (w5 : (Jvm.Cond.declares y).before a0 Z = true) (w6 : (Jvm.Cond.selects Cl y y).before a0 Z = true) (hy : y.cls ≠ "java/lang/invoke/MethodHandle" ∧ y.cls ≠ "java/lang/invoke/VarHandle") (hE : Exa Z h a Cl)
    (hlen : ∀ sig, parseMethodDescriptor y.desc = some sig → as.length = sig.parameters.length) (M : Con W.l Z [] y bytes mx' ret' rm (.ref a :: as).toArray h ws Q') (hS : S0 = as.reverse ++ .ref a :: S) (hL : L.size = mx) (hf : rm.frames + 1 ≤ R.frames) (hl : (S.map fun v => v.category).sum + (mx' + 11) + rm.locals ≤ R.locals) {k' n' : Nat} (hk : k + rm.cells = k') (hn : n + rm.slots = n') (hc : k' ≤ R.cells) (hs : n' ≤ R.slots) (hws : ∀ a ∈ ws, Pw W a)
    (g : ∀ v h', Q' v h' → Keep h h' ws → Go W Q h' k' n' pc' L (v.toList ++ S)) : Go W Q h k n pc L S0 := fun T hT => by
  obtain ⟨locs, X, e, N⟩ := hT
  subst hp hS hk hn
  obtain ⟨cq, kq, qa, qb, qc⟩ := isOf C.z e hE
  obtain ⟨v, _, ⟨T', L1, k1, n1⟩, -, X', ⟨L2, ⟨hQ, hL2, hK⟩, l1, y1, z1⟩, st⟩ := X.virtualBack C.x (y := y) (z := y) C.o (mvT C.z w1) (mvT C.z w5) (notFace_of_selects (args := #[]) (mvT C.z w6)) (mvT C.z w6) (mvT C.z w2) hy (backOf (R := W.R) (W := (S.map fun v => v.category).sum) (Q := fun v h' L => Q' v h' ∧ (∀ y ∈ L, y.base ∈ ws ∨ h.size ≤ y.base) ∧ Keep h h' ws) M.keeps C.z w4 w3 (by rw [C.r]; exact hf) (by rw [C.r]; exact hl)) qa qc (g := mkF W.m pc L (as.reverse ++ .ref a :: S)) rfl (by rw [C.ml]; exact hL) (Steps.refl _) (argsL := as) (rest := S) hlen rfl (by show 2 * 0 + _ ≤ _; omega) (C.b hd) (fun _ _ => ⟨rfl, e, by rw [C.r]; exact hc, by rw [C.r]; exact hs⟩)
  dsimp only [Pt.U, Pt.locs, Pt.cells, Pt.slots] at X' l1 y1 z1 st hQ hK
  subst l1 y1 z1
  exact Out.st (fun t z => st.trans z) (g v T'.heap hQ hK T' ⟨_, X', rfl, post_call (T' := T') (k' := 0) (n' := 0) X e N hws hL2⟩)
theorem g_staticP (C : Cx W Z R own code mx ret nm wsx hx0) {i : Nat} {y : MethodName} {bytes : ByteArray} {mx' : Nat} {ret' : Option FieldType} {rm : Room} {as : List Value} {r : Option Value} {S0 S1 : List Value} (hd : decode code pc = .ok (.invokestatic i, 3)) (hp : pc + 3 = pc')
    (w1 : (Jvm.Cond.methodLink own i y).before a0 Z = true) (w2 : (Jvm.Cond.static y).before a0 Z = true) (w3 : (Jvm.Cond.initialized y.cls).before a0 Z = true) (w4 : (Jvm.Cond.code y bytes mx' ret').before a0 Z = true) (hy : y.cls ≠ "java/lang/invoke/MethodHandle" ∧ y.cls ≠ "java/lang/invoke/VarHandle")
    (hlen : ∀ sig, parseMethodDescriptor y.desc = some sig → as.length = sig.parameters.length) (M : Con W.l Z [] y bytes mx' ret' rm as.toArray h [] (fun v h' => v = r ∧ h' = h)) (hS : S0 = as.reverse ++ S) (hL : L.size = mx) (hf : rm.frames + 1 ≤ R.frames) (hl : (S.map fun v => v.category).sum + (mx' + 11) + rm.locals ≤ R.locals) {k' n' : Nat} (hk : k + rm.cells = k') (hn : n + rm.slots = n') (hc : k' ≤ R.cells) (hs : n' ≤ R.slots) (hS1 : r.toList ++ S = S1)
    (g : Go W Q h k' n' pc' L S1) : Go W Q h k n pc L S0 :=
  g_static C hd hp w1 w2 w3 w4 hy hlen M hS hL hf hl hk hn hc hs all0 fun v h' q K => by
    obtain ⟨rfl, rfl⟩ := q
    rw [hS1]; exact g
theorem g_virtualP (C : Cx W Z R own code mx ret nm wsx hx0) {i : Nat} {y : MethodName} {bytes : ByteArray} {mx' : Nat} {ret' : Option FieldType} {rm : Room} {as : List Value} {r : Option Value} {S0 S1 : List Value} {a : Addr} {Cl : String} (hd : decode code pc = .ok (.invokevirtual i, 3)) (hp : pc + 3 = pc')
    (w1 : (Jvm.Cond.methodLink own i y).before a0 Z = true) (w2 : (Jvm.Cond.instanceMethod y).before a0 Z = true) (w3 : (Jvm.Cond.initialized y.cls).before a0 Z = true) (w4 : (Jvm.Cond.code y bytes mx' ret').before a0 Z = true) (w5 : (Jvm.Cond.declares y).before a0 Z = true) (w6 : (Jvm.Cond.selects Cl y y).before a0 Z = true) (hy : y.cls ≠ "java/lang/invoke/MethodHandle" ∧ y.cls ≠ "java/lang/invoke/VarHandle") (hE : Exa Z h a Cl)
    (hlen : ∀ sig, parseMethodDescriptor y.desc = some sig → as.length = sig.parameters.length) (M : Con W.l Z [] y bytes mx' ret' rm (.ref a :: as).toArray h [] (fun v h' => v = r ∧ h' = h)) (hS : S0 = as.reverse ++ .ref a :: S) (hL : L.size = mx) (hf : rm.frames + 1 ≤ R.frames) (hl : (S.map fun v => v.category).sum + (mx' + 11) + rm.locals ≤ R.locals) {k' n' : Nat} (hk : k + rm.cells = k') (hn : n + rm.slots = n') (hc : k' ≤ R.cells) (hs : n' ≤ R.slots) (hS1 : r.toList ++ S = S1)
    (g : Go W Q h k' n' pc' L S1) : Go W Q h k n pc L S0 :=
  g_virtual C hd hp w1 w2 w3 w4 w5 w6 hy hE hlen M hS hL hf hl hk hn hc hs all0 fun v h' q K => by
    obtain ⟨rfl, rfl⟩ := q
    rw [hS1]; exact g
theorem g_nameI {x : Int32} (g : ∀ z : Int32, z = x → Go W Q h k n pc L (.int z :: S)) : Go W Q h k n pc L (.int x :: S) := g x rfl
theorem g_nameJ {x : Int64} (g : ∀ z : Int64, z = x → Go W Q h k n pc L (.long z :: S)) : Go W Q h k n pc L (.long x :: S) := g x rfl
/-! a body's contract out of its walk -/
theorem locals_of {as : List Value} {mx0 : Nat} {Ls : List Slot} (h : (as.flatMap fun v => if v.category = 2 then [.val v, .second] else [.val v]) ++ List.replicate (mx0 - (as.flatMap fun v => if v.category = 2 then [.val v, .second] else [Slot.val v]).length) .unset = Ls) : argsToLocals as.toArray mx0 = Ls.toArray := by
  have e : ∀ (l : List Value) (acc : Array Slot), (l.foldl (fun acc v => if v.category = 2 then (acc.push (.val v)).push .second else acc.push (.val v)) acc) = acc ++ (l.flatMap fun v => if v.category = 2 then [.val v, .second] else [Slot.val v]).toArray := by
    intro l
    induction l with
    | nil => intro acc; simp
    | cons v l ih =>
      intro acc
      rw [List.foldl_cons, ih, List.flatMap_cons]
      split <;> simp
  subst h
  simp only [argsToLocals, List.foldl_toArray', e]
  simp
theorem Con.of_go {l : Launch} {w0 : List Jvm.Cond} {y : MethodName} {bytes : ByteArray} {ret' : Option FieldType} {rm : Room} {as : Array Value} {ws : List Addr} {Q' : Option Value → Heap → Prop} {mx' : Nat} {L0 : Array Slot} (hpl : plainFor y = true) (hL : argsToLocals as mx' = L0)
    (body : ∀ (W : Wk) (Q : Option Value → Heap → Prop), Q = Q' → W.l = l → Cx W Z rm y.cls bytes mx' ret' y.name ws h → Go W Q h 0 0 0 L0 []) : Con l Z w0 y bytes mx' ret' rm as h ws Q' := by
  refine MetFree.of_bodySF hpl hisR ?_
  intro p e s m args below meth c s₁ Bd hml0 hP hK
  obtain ⟨rfl, hZ, rfl⟩ := hP
  subst hL
  have X0 : Stand p l e rm s m args below meth c s₁ [] 0 0 := Stand.of_body Bd
  have e0 : s₁.heap = s.heap := by rw [Bd.state]; rfl
  obtain ⟨s2, o, h1, h2, h3, v, L, h4, ⟨h5, h6⟩, h7⟩ := body (p, l, e, rm, s, m, args, below, meth, c, ws) _ rfl rfl ⟨Bd.exec, hZ, findClass_of_methodNamed Bd.named, Bd.bytes, hml0, Bd.returns, Bd.notSynchronized, (name_of_methodNamed Bd.named Bd.method).1, rfl, rfl, rfl⟩ s₁ ⟨[], X0, e0, fun _ q => nomatch q⟩
  exact ⟨s2, o, h1, h2, h3, v, L, h4, ⟨h5, h6⟩, h7⟩
end Steps0
end Jvm.OwnKit
namespace Jvm.Pilot.@@N@@
open Jvm Jvm.ClassFile Sem Op Lib Jvm.Free Jvm.Stand Jvm.LawKit Jvm.RoadKit Jvm.OwnKit Bundle Jvm.Pilot.@@N@@.Jvm.D
theorem pd_0 : parseMethodDescriptor "(III)C" = some ⟨[.int, .int, .int], some .char⟩ := by decide +kernel
theorem pd_1 : parseMethodDescriptor "()V" = some ⟨[], none⟩ := by decide +kernel
theorem pd_2 : parseMethodDescriptor "(C)V" = some ⟨[.char], none⟩ := by decide +kernel
theorem pd_3 : parseMethodDescriptor "(JCZ)J" = some ⟨[.long, .char, .boolean], some .long⟩ := by decide +kernel
theorem pd_4 : parseMethodDescriptor "()I" = some ⟨[], some .int⟩ := by decide +kernel
theorem d1_0 : decode method_3_code 0 = .ok (.iload_n 0, 1) := by decide +kernel
theorem d1_1 : decode method_3_code 1 = .ok (.ldc 32, 2) := by decide +kernel
theorem d1_3 : decode method_3_code 3 = .ok (.iand, 1) := by decide +kernel
theorem d1_4 : decode method_3_code 4 = .ok (.istore_n 3, 1) := by decide +kernel
theorem d1_5 : decode method_3_code 5 = .ok (.iload_n 1, 1) := by decide +kernel
theorem d1_6 : decode method_3_code 6 = .ok (.bipush 8, 2) := by decide +kernel
theorem d1_8 : decode method_3_code 8 = .ok (.iload_n 2, 1) := by decide +kernel
theorem d1_9 : decode method_3_code 9 = .ok (.iadd, 1) := by decide +kernel
theorem d1_10 : decode method_3_code 10 = .ok (.iushr, 1) := by decide +kernel
theorem d1_11 : decode method_3_code 11 = .ok (.iconst 1, 1) := by decide +kernel
theorem d1_12 : decode method_3_code 12 = .ok (.iand, 1) := by decide +kernel
theorem d1_13 : decode method_3_code 13 = .ok (.ifCond .eq 12, 3) := by decide +kernel
theorem d1_16 : decode method_3_code 16 = .ok (.bipush 48, 2) := by decide +kernel
theorem d1_18 : decode method_3_code 18 = .ok (.iload_n 3, 1) := by decide +kernel
theorem d1_19 : decode method_3_code 19 = .ok (.bipush 10, 2) := by decide +kernel
theorem d1_21 : decode method_3_code 21 = .ok (.irem, 1) := by decide +kernel
theorem d1_22 : decode method_3_code 22 = .ok (.iadd, 1) := by decide +kernel
theorem d1_23 : decode method_3_code 23 = .ok (.i2c, 1) := by decide +kernel
theorem d1_24 : decode method_3_code 24 = .ok (.ireturn, 1) := by decide +kernel
theorem d1_25 : decode method_3_code 25 = .ok (.iload_n 3, 1) := by decide +kernel
theorem d1_26 : decode method_3_code 26 = .ok (.i2c, 1) := by decide +kernel
theorem d1_27 : decode method_3_code 27 = .ok (.ireturn, 1) := by decide +kernel
theorem d2_0 : decode prog_49_method_1_code 0 = .ok (.aload_n 0, 1) := by decide +kernel
theorem d2_1 : decode prog_49_method_1_code 1 = .ok (.invokespecial 1, 3) := by decide +kernel
theorem d2_4 : decode prog_49_method_1_code 4 = .ok (.aload_n 0, 1) := by decide +kernel
theorem d2_5 : decode prog_49_method_1_code 5 = .ok (.iconst 1, 1) := by decide +kernel
theorem d2_6 : decode prog_49_method_1_code 6 = .ok (.putfield 7, 3) := by decide +kernel
theorem d2_9 : decode prog_49_method_1_code 9 = .ok (.return_, 1) := by decide +kernel
theorem d4_0 : decode method_4_code 0 = .ok (.iload_n 3, 1) := by decide +kernel
theorem d4_1 : decode method_4_code 1 = .ok (.ifCond .eq 9, 3) := by decide +kernel
theorem d4_4 : decode method_4_code 4 = .ok (.lload_n 0, 1) := by decide +kernel
theorem d4_5 : decode method_4_code 5 = .ok (.lconst 0, 1) := by decide +kernel
theorem d4_6 : decode method_4_code 6 = .ok (.lcmp, 1) := by decide +kernel
theorem d4_7 : decode method_4_code 7 = .ok (.ifCond .ge 5, 3) := by decide +kernel
theorem d4_10 : decode method_4_code 10 = .ok (.lload_n 0, 1) := by decide +kernel
theorem d4_11 : decode method_4_code 11 = .ok (.lreturn, 1) := by decide +kernel
theorem d4_12 : decode method_4_code 12 = .ok (.iload_n 2, 1) := by decide +kernel
theorem d4_13 : decode method_4_code 13 = .ok (.bipush 48, 2) := by decide +kernel
theorem d4_15 : decode method_4_code 15 = .ok (.if_icmp .lt 9, 3) := by decide +kernel
theorem d4_18 : decode method_4_code 18 = .ok (.iload_n 2, 1) := by decide +kernel
theorem d4_19 : decode method_4_code 19 = .ok (.bipush 57, 2) := by decide +kernel
theorem d4_21 : decode method_4_code 21 = .ok (.if_icmp .le 7, 3) := by decide +kernel
theorem d4_24 : decode method_4_code 24 = .ok (.ldc2_w 33, 3) := by decide +kernel
theorem d4_27 : decode method_4_code 27 = .ok (.lreturn, 1) := by decide +kernel
theorem d4_28 : decode method_4_code 28 = .ok (.lload_n 0, 1) := by decide +kernel
theorem d4_29 : decode method_4_code 29 = .ok (.ldc2_w 35, 3) := by decide +kernel
theorem d4_32 : decode method_4_code 32 = .ok (.lmul, 1) := by decide +kernel
theorem d4_33 : decode method_4_code 33 = .ok (.iload_n 2, 1) := by decide +kernel
theorem d4_34 : decode method_4_code 34 = .ok (.bipush 48, 2) := by decide +kernel
theorem d4_36 : decode method_4_code 36 = .ok (.isub, 1) := by decide +kernel
theorem d4_37 : decode method_4_code 37 = .ok (.i2l, 1) := by decide +kernel
theorem d4_38 : decode method_4_code 38 = .ok (.ladd, 1) := by decide +kernel
theorem d4_39 : decode method_4_code 39 = .ok (.lreturn, 1) := by decide +kernel
theorem d5_0 : decode prog_49_method_4_code 0 = .ok (.aload_n 0, 1) := by decide +kernel
theorem d5_1 : decode prog_49_method_4_code 1 = .ok (.getfield 7, 3) := by decide +kernel
theorem d5_4 : decode prog_49_method_4_code 4 = .ok (.ifCond .ne 10, 3) := by decide +kernel
theorem d5_7 : decode prog_49_method_4_code 7 = .ok (.aload_n 0, 1) := by decide +kernel
theorem d5_8 : decode prog_49_method_4_code 8 = .ok (.getfield 31, 3) := by decide +kernel
theorem d5_11 : decode prog_49_method_4_code 11 = .ok (.ifCond .eq 7, 3) := by decide +kernel
theorem d5_14 : decode prog_49_method_4_code 14 = .ok (.iconst (-1), 1) := by decide +kernel
theorem d5_15 : decode prog_49_method_4_code 15 = .ok (.goto 8, 3) := by decide +kernel
theorem d5_18 : decode prog_49_method_4_code 18 = .ok (.aload_n 0, 1) := by decide +kernel
theorem d5_19 : decode prog_49_method_4_code 19 = .ok (.getfield 34, 3) := by decide +kernel
theorem d5_22 : decode prog_49_method_4_code 22 = .ok (.l2i, 1) := by decide +kernel
theorem d5_23 : decode prog_49_method_4_code 23 = .ok (.ireturn, 1) := by decide +kernel
theorem d6_0 : decode prog_49_method_3_code 0 = .ok (.iload_n 1, 1) := by decide +kernel
theorem d6_1 : decode prog_49_method_3_code 1 = .ok (.bipush 48, 2) := by decide +kernel
theorem d6_3 : decode prog_49_method_3_code 3 = .ok (.if_icmp .lt 9, 3) := by decide +kernel
theorem d6_6 : decode prog_49_method_3_code 6 = .ok (.iload_n 1, 1) := by decide +kernel
theorem d6_7 : decode prog_49_method_3_code 7 = .ok (.bipush 57, 2) := by decide +kernel
theorem d6_9 : decode prog_49_method_3_code 9 = .ok (.if_icmp .le 11, 3) := by decide +kernel
theorem d6_12 : decode prog_49_method_3_code 12 = .ok (.aload_n 0, 1) := by decide +kernel
theorem d6_13 : decode prog_49_method_3_code 13 = .ok (.iconst 1, 1) := by decide +kernel
theorem d6_14 : decode prog_49_method_3_code 14 = .ok (.putfield 31, 3) := by decide +kernel
theorem d6_17 : decode prog_49_method_3_code 17 = .ok (.goto 48, 3) := by decide +kernel
theorem d6_20 : decode prog_49_method_3_code 20 = .ok (.aload_n 0, 1) := by decide +kernel
theorem d6_21 : decode prog_49_method_3_code 21 = .ok (.getfield 31, 3) := by decide +kernel
theorem d6_24 : decode prog_49_method_3_code 24 = .ok (.ifCond .ne 41, 3) := by decide +kernel
theorem d6_27 : decode prog_49_method_3_code 27 = .ok (.aload_n 0, 1) := by decide +kernel
theorem d6_28 : decode prog_49_method_3_code 28 = .ok (.aload_n 0, 1) := by decide +kernel
theorem d6_29 : decode prog_49_method_3_code 29 = .ok (.getfield 34, 3) := by decide +kernel
theorem d6_32 : decode prog_49_method_3_code 32 = .ok (.ldc2_w 37, 3) := by decide +kernel
theorem d6_35 : decode prog_49_method_3_code 35 = .ok (.lmul, 1) := by decide +kernel
theorem d6_36 : decode prog_49_method_3_code 36 = .ok (.iload_n 1, 1) := by decide +kernel
theorem d6_37 : decode prog_49_method_3_code 37 = .ok (.bipush 48, 2) := by decide +kernel
theorem d6_39 : decode prog_49_method_3_code 39 = .ok (.isub, 1) := by decide +kernel
theorem d6_40 : decode prog_49_method_3_code 40 = .ok (.i2l, 1) := by decide +kernel
theorem d6_41 : decode prog_49_method_3_code 41 = .ok (.ladd, 1) := by decide +kernel
theorem d6_42 : decode prog_49_method_3_code 42 = .ok (.putfield 34, 3) := by decide +kernel
theorem d6_45 : decode prog_49_method_3_code 45 = .ok (.aload_n 0, 1) := by decide +kernel
theorem d6_46 : decode prog_49_method_3_code 46 = .ok (.aload_n 0, 1) := by decide +kernel
theorem d6_47 : decode prog_49_method_3_code 47 = .ok (.getfield 34, 3) := by decide +kernel
theorem d6_50 : decode prog_49_method_3_code 50 = .ok (.ldc2_w 41, 3) := by decide +kernel
theorem d6_53 : decode prog_49_method_3_code 53 = .ok (.lcmp, 1) := by decide +kernel
theorem d6_54 : decode prog_49_method_3_code 54 = .ok (.ifCond .le 7, 3) := by decide +kernel
theorem d6_57 : decode prog_49_method_3_code 57 = .ok (.iconst 1, 1) := by decide +kernel
theorem d6_58 : decode prog_49_method_3_code 58 = .ok (.goto 4, 3) := by decide +kernel
theorem d6_61 : decode prog_49_method_3_code 61 = .ok (.iconst 0, 1) := by decide +kernel
theorem d6_62 : decode prog_49_method_3_code 62 = .ok (.putfield 31, 3) := by decide +kernel
theorem d6_65 : decode prog_49_method_3_code 65 = .ok (.aload_n 0, 1) := by decide +kernel
theorem d6_66 : decode prog_49_method_3_code 66 = .ok (.iconst 0, 1) := by decide +kernel
theorem d6_67 : decode prog_49_method_3_code 67 = .ok (.putfield 7, 3) := by decide +kernel
theorem d6_70 : decode prog_49_method_3_code 70 = .ok (.return_, 1) := by decide +kernel
set_option maxHeartbeats 4000000 in
theorem dis_0 (Z : State) (a0 : Array Value) (hw : ∀ d ∈ tables_1, d.before a0 Z = true) : ([RoadKit.slotOf Z "com/example/rankfold/rankfold/UnsignedDecimal" "empty" "Z", RoadKit.slotOf Z "com/example/rankfold/rankfold/UnsignedDecimal" "invalid" "Z", RoadKit.slotOf Z "com/example/rankfold/rankfold/UnsignedDecimal" "value" "J"] : List Nat).Nodup := by
  simp only [List.nodup_cons, List.mem_cons, List.not_mem_nil, or_false, not_or, not_false_eq_true, List.nodup_nil, and_true]
  exact ⟨⟨RoadKit.slot_ne (Or.inl (hw _ (List.mem_of_getElem? (i := 16) rfl))) (Or.inl (hw _ (List.mem_of_getElem? (i := 31) rfl))) (by decide) (t := .boolean) (t' := .boolean) (by decide) (by decide), RoadKit.slot_ne (Or.inl (hw _ (List.mem_of_getElem? (i := 16) rfl))) (Or.inl (hw _ (List.mem_of_getElem? (i := 34) rfl))) (by decide) (t := .boolean) (t' := .long) (by decide) (by decide)⟩, RoadKit.slot_ne (Or.inl (hw _ (List.mem_of_getElem? (i := 31) rfl))) (Or.inl (hw _ (List.mem_of_getElem? (i := 34) rfl))) (by decide) (t := .boolean) (t' := .long) (by decide) (by decide)⟩
def stpI (t c : Int) : Int := if t < 0 then t else if 48 ≤ c ∧ c ≤ 57 then t * 10 + (c - 48) else -1
theorem stpI_le {t c B : Int} (h : t ≤ B) (h0 : 0 ≤ B) : stpI t c ≤ 10 * B + 9 := by unfold stpI; split <;> (try split) <;> omega
def UDS (Z : State) (h : Heap) (a : Addr) (t : Int) (E : Prop) [Decidable E] : Prop := ∃ val : Int64, Ob Z h a "com/example/rankfold/rankfold/UnsignedDecimal" [("com/example/rankfold/rankfold/UnsignedDecimal", "empty", "Z", (.int (b2i E))), ("com/example/rankfold/rankfold/UnsignedDecimal", "invalid", "Z", (.int (b2i (t < 0 ∨ 2147483647 < t)))), ("com/example/rankfold/rankfold/UnsignedDecimal", "value", "J", (.long val))] ∧ (0 ≤ t → t ≤ 2147483647 → val.toInt = t)
theorem UDS.keep {Z : State} {h h' : Heap} {a : Addr} {t : Int} {E : Prop} [Decidable E] {ws : List Addr} (U : UDS Z h a t E) (K : Keep h h' ws) (q : a ∉ ws) : UDS Z h' a t E := by obtain ⟨v, O, r⟩ := U; exact ⟨v, O.keep K q, r⟩
theorem UDS.ext {Z : State} {h h' : Heap} {a : Addr} {t : Int} {E : Prop} [Decidable E] (U : UDS Z h a t E) (K : Ext h h') : UDS Z h' a t E := by obtain ⟨v, O, r⟩ := U; exact ⟨v, O.ext K, r⟩
theorem UDS.lt {Z : State} {h : Heap} {a : Addr} {t : Int} {E : Prop} [Decidable E] (U : UDS Z h a t E) : a < h.size := by obtain ⟨v, O, r⟩ := U; exact O.lt
theorem UDS.exa {Z : State} {h : Heap} {a : Addr} {t : Int} {E : Prop} [Decidable E] (U : UDS Z h a t E) : Exa Z h a "com/example/rankfold/rankfold/UnsignedDecimal" := by obtain ⟨v, O, r⟩ := U; exact O.1
theorem UDS.cong {Z : State} {h : Heap} {a : Addr} {t t' : Int} {E E' : Prop} [Decidable E] [Decidable E'] (U : UDS Z h a t E) (et : t = t') (he : E ↔ E') : UDS Z h a t' E' := by
  subst et
  obtain ⟨v, O, r⟩ := U
  rw [b2i_iff he] at O
  exact ⟨v, O, r⟩
set_option maxRecDepth 65536 in
set_option maxHeartbeats 2000000 in
theorem con_init (l : Launch) (Z : State) (a0 : Array Value) (hw : ∀ d ∈ tables_1, d.before a0 Z = true) (a : Addr) (h : Heap) (O : Ob Z h a "com/example/rankfold/rankfold/UnsignedDecimal" [("com/example/rankfold/rankfold/UnsignedDecimal", "empty", "Z", (.int (0 : Int32))), ("com/example/rankfold/rankfold/UnsignedDecimal", "invalid", "Z", (.int (0 : Int32))), ("com/example/rankfold/rankfold/UnsignedDecimal", "value", "J", (.long (0 : Int64)))]) :
    Con l Z [] (⟨"com/example/rankfold/rankfold/UnsignedDecimal", "<init>", "()V"⟩ : MethodName) prog_49_method_1_code 1 none ({ frames := 1, cells := 0, slots := 0, locals := 12 } : Room) #[(.ref a)] h [a] (fun v h' => v = none ∧ UDS Z h' a 0 True) := by
  refine Con.of_go (L0 := #[.val (.ref a)]) (plainFor_of_name (by first | (simp [plainName, overriddenIn]; done) | decide +kernel)) (locals_of rfl) fun W Q hQ hl C => ?_
  subst hl
  refine g_aloadN (pc' := 1) C d2_0 rfl rfl rfl ?_
  refine g_initO (pc' := 4) C d2_1 rfl (hw _ (List.mem_of_getElem? (i := 12) rfl)) (hw _ (List.mem_of_getElem? (i := 13) rfl)) (hw _ (List.mem_of_getElem? (i := 14) rfl)) rfl (by decide) (Nat.le_of_ble_eq_true rfl) ?_
  refine g_aloadN (pc' := 5) C d2_4 rfl rfl rfl ?_
  refine g_iconst (pc' := 6) (z := (1 : Int32)) C d2_5 rfl rfl ?_
  refine g_putO (pc' := 9) (j := 0) (ty := .boolean) (v' := (.int (1 : Int32))) (fs' := [("com/example/rankfold/rankfold/UnsignedDecimal", "empty", "Z", (.int (1 : Int32))), ("com/example/rankfold/rankfold/UnsignedDecimal", "invalid", "Z", (.int (0 : Int32))), ("com/example/rankfold/rankfold/UnsignedDecimal", "value", "J", (.long (0 : Int64)))]) C d2_6 rfl (hw _ (List.mem_of_getElem? (i := 15) rfl)) Via.refl O rfl (Or.inl (hw _ (List.mem_of_getElem? (i := 16) rfl))) (hw _ (List.mem_of_getElem? (i := 7) rfl)) (by decide) rfl rfl rfl (C.old (List.mem_cons_self ..)) fun h1 O Kh1 => ?_
  refine g_return C d2_9 (by decide) (by decide) ?_
  subst hQ
  exact ⟨rfl, _, O, fun _ _ => rfl⟩
set_option maxRecDepth 65536 in
set_option maxHeartbeats 2000000 in
theorem con_append (l : Launch) (Z : State) (a0 : Array Value) (hw : ∀ d ∈ tables_1, d.before a0 Z = true) (a : Addr) (t : Int) (E : Prop) [Decidable E] (c : Int32) (h : Heap) (U : UDS Z h a t E) :
    Con l Z [] (⟨"com/example/rankfold/rankfold/UnsignedDecimal", "append", "(C)V"⟩ : MethodName) prog_49_method_3_code 2 none ({ frames := 0, cells := 0, slots := 0, locals := 0 } : Room) #[(.ref a), (.int c)] h [a] (fun v h' => v = none ∧ UDS Z h' a (stpI t c.toInt) False) := by
  obtain ⟨val, O, hv⟩ := U
  refine Con.of_go (L0 := #[.val (.ref a), .val (.int c)]) (plainFor_of_name (by first | (simp [plainName, overriddenIn]; done) | decide +kernel)) (locals_of rfl) fun W Q hQ hl C => ?_
  subst hl
  refine g_iloadN (pc' := 1) C d6_0 rfl rfl ?_
  refine g_bipush (pc' := 3) (z := (48 : Int32)) C d6_1 rfl rfl ?_
  refine g_icmp (xi := c.toInt) (yi := (48)) (pc1 := 12) (pc2 := 6) C d6_3 (by decide) rfl rfl rfl rfl (fun (c3 : c.toInt < (48)) => ?_) (fun (c3 : ¬ (c.toInt < (48))) => ?_)
  ·
    refine g_aloadN (pc' := 13) C d6_12 rfl rfl rfl ?_
    refine g_iconst (pc' := 14) (z := (1 : Int32)) C d6_13 rfl rfl ?_
    refine g_putO (pc' := 17) (j := 1) (ty := .boolean) (v' := (.int (1 : Int32))) (fs' := [("com/example/rankfold/rankfold/UnsignedDecimal", "empty", "Z", (.int (b2i E))), ("com/example/rankfold/rankfold/UnsignedDecimal", "invalid", "Z", (.int (1 : Int32))), ("com/example/rankfold/rankfold/UnsignedDecimal", "value", "J", (.long val))]) C d6_14 rfl (hw _ (List.mem_of_getElem? (i := 30) rfl)) Via.refl O rfl (Or.inl (hw _ (List.mem_of_getElem? (i := 31) rfl))) (hw _ (List.mem_of_getElem? (i := 7) rfl)) (by decide) rfl rfl rfl (C.old (List.mem_cons_self ..)) fun h1 O Kh1 => ?_
    refine g_goto C d6_17 (by decide) (pc' := 65) rfl ?_
    refine g_aloadN (pc' := 66) C d6_65 rfl rfl rfl ?_
    refine g_iconst (pc' := 67) (z := (0 : Int32)) C d6_66 rfl rfl ?_
    refine g_putO (pc' := 70) (j := 0) (ty := .boolean) (v' := (.int (0 : Int32))) (fs' := [("com/example/rankfold/rankfold/UnsignedDecimal", "empty", "Z", (.int (0 : Int32))), ("com/example/rankfold/rankfold/UnsignedDecimal", "invalid", "Z", (.int (1 : Int32))), ("com/example/rankfold/rankfold/UnsignedDecimal", "value", "J", (.long val))]) C d6_67 rfl (hw _ (List.mem_of_getElem? (i := 15) rfl)) Via.refl O rfl (Or.inl (hw _ (List.mem_of_getElem? (i := 16) rfl))) (hw _ (List.mem_of_getElem? (i := 7) rfl)) (by decide) rfl rfl rfl (C.old (List.mem_cons_self ..)) fun h2 O Kh2 => ?_
    refine g_return C d6_70 (by decide) (by decide) ?_
    subst hQ
    refine ⟨rfl, val, ?_, ?_⟩
    · rw [b2i_pos (by unfold stpI; split <;> (try split) <;> omega : (stpI t c.toInt < 0 ∨ 2147483647 < stpI t c.toInt))]
      exact O
    · unfold stpI; intro y1 y2; split at y1 <;> (try split at y1) <;> omega
  ·
    refine g_iloadN (pc' := 7) C d6_6 rfl rfl ?_
    refine g_bipush (pc' := 9) (z := (57 : Int32)) C d6_7 rfl rfl ?_
    refine g_icmp (xi := c.toInt) (yi := (57)) (pc1 := 20) (pc2 := 12) C d6_9 (by decide) rfl rfl rfl rfl (fun (c9 : c.toInt ≤ (57)) => ?_) (fun (c9 : ¬ (c.toInt ≤ (57))) => ?_)
    ·
      refine g_aloadN (pc' := 21) C d6_20 rfl rfl rfl ?_
      refine g_getO (pc' := 24) (j := 1) C d6_21 rfl (hw _ (List.mem_of_getElem? (i := 30) rfl)) O rfl ?_
      refine g_ifneb (pc1 := 65) (pc2 := 27) C d6_24 (by decide) rfl rfl rfl (fun (c24 : (t < 0 ∨ 2147483647 < t)) => ?_) (fun (c24 : ¬ ((t < 0 ∨ 2147483647 < t))) => ?_)
      ·
        refine g_aloadN (pc' := 66) C d6_65 rfl rfl rfl ?_
        refine g_iconst (pc' := 67) (z := (0 : Int32)) C d6_66 rfl rfl ?_
        refine g_putO (pc' := 70) (j := 0) (ty := .boolean) (v' := (.int (0 : Int32))) (fs' := [("com/example/rankfold/rankfold/UnsignedDecimal", "empty", "Z", (.int (0 : Int32))), ("com/example/rankfold/rankfold/UnsignedDecimal", "invalid", "Z", (.int (b2i (t < 0 ∨ 2147483647 < t)))), ("com/example/rankfold/rankfold/UnsignedDecimal", "value", "J", (.long val))]) C d6_67 rfl (hw _ (List.mem_of_getElem? (i := 15) rfl)) Via.refl O rfl (Or.inl (hw _ (List.mem_of_getElem? (i := 16) rfl))) (hw _ (List.mem_of_getElem? (i := 7) rfl)) (by decide) rfl rfl rfl (C.old (List.mem_cons_self ..)) fun h3 O Kh3 => ?_
        refine g_return C d6_70 (by decide) (by decide) ?_
        subst hQ
        refine ⟨rfl, val, ?_, ?_⟩
        · rw [← b2i_iff (by unfold stpI; constructor <;> intro y <;> (try split) <;> (try split) <;> (try split at y) <;> (try split at y) <;> omega : (t < 0 ∨ 2147483647 < t) ↔ (stpI t c.toInt < 0 ∨ 2147483647 < stpI t c.toInt))]
          exact O
        · unfold stpI; intro y1 y2; split at y1 <;> (try split at y1) <;> (try split at y2) <;> (try split at y2) <;> omega
      ·
        refine g_aloadN (pc' := 28) C d6_27 rfl rfl rfl ?_
        refine g_aloadN (pc' := 29) C d6_28 rfl rfl rfl ?_
        refine g_getO (pc' := 32) (j := 2) C d6_29 rfl (hw _ (List.mem_of_getElem? (i := 33) rfl)) O rfl ?_
        refine g_ldc2L (pc' := 35) C d6_32 rfl (hw _ (List.mem_of_getElem? (i := 35) rfl)) ?_
        refine g_lmul (pc' := 36) C d6_35 rfl ?_
        refine g_iloadN (pc' := 37) C d6_36 rfl rfl ?_
        refine g_bipush (pc' := 39) (z := (48 : Int32)) C d6_37 rfl rfl ?_
        refine g_isub (pc' := 40) C d6_39 rfl ?_
        refine g_i2l (pc' := 41) C d6_40 rfl ?_
        refine g_ladd (pc' := 42) C d6_41 rfl ?_
        refine g_nameJ fun j1 e_j1 => ?_
        refine g_putO (pc' := 45) (j := 2) (ty := .long) (v' := (.long j1)) (fs' := [("com/example/rankfold/rankfold/UnsignedDecimal", "empty", "Z", (.int (b2i E))), ("com/example/rankfold/rankfold/UnsignedDecimal", "invalid", "Z", (.int (b2i (t < 0 ∨ 2147483647 < t)))), ("com/example/rankfold/rankfold/UnsignedDecimal", "value", "J", (.long j1))]) C d6_42 rfl (hw _ (List.mem_of_getElem? (i := 33) rfl)) Via.refl O rfl (Or.inl (hw _ (List.mem_of_getElem? (i := 34) rfl))) (hw _ (List.mem_of_getElem? (i := 7) rfl)) (by decide) rfl rfl rfl (C.old (List.mem_cons_self ..)) fun h4 O Kh4 => ?_
        refine g_aloadN (pc' := 46) C d6_45 rfl rfl rfl ?_
        refine g_aloadN (pc' := 47) C d6_46 rfl rfl rfl ?_
        refine g_getO (pc' := 50) (j := 2) C d6_47 rfl (hw _ (List.mem_of_getElem? (i := 33) rfl)) O rfl ?_
        refine g_ldc2L (pc' := 53) C d6_50 rfl (hw _ (List.mem_of_getElem? (i := 36) rfl)) ?_
        suffices K_53 : ∀ z2 : Int32, z2 = b2i (¬ (j1.toInt ≤ (2147483647))) → Go W Q h4 0 0 62 #[.val (.ref a), .val (.int c)] [(.int z2), (.ref a)] by
          refine g_lcmp (cd := .le) (xi := j1.toInt) (yi := (2147483647)) (pc' := 54) (pc1 := 61) (pc2 := 57) C d6_53 d6_54 rfl (by decide) rfl rfl rfl rfl (fun (c53 : j1.toInt ≤ (2147483647)) => ?_) (fun (c53 : ¬ (j1.toInt ≤ (2147483647))) => ?_)
          ·
            refine g_iconst (pc' := 62) (z := (0 : Int32)) C d6_61 rfl rfl ?_
            exact K_53 (0 : Int32) ((rfl : (0 : Int32) = b2i False).trans (b2i_iff (iff_false_intro (fun y => y c53)).symm))
          ·
            refine g_iconst (pc' := 58) (z := (1 : Int32)) C d6_57 rfl rfl ?_
            refine g_goto C d6_58 (by decide) (pc' := 62) rfl ?_
            exact K_53 (1 : Int32) ((rfl : (1 : Int32) = b2i True).trans (b2i_iff (iff_true_intro c53).symm))
        intro z2 e_z2
        refine g_putO (pc' := 65) (j := 1) (ty := .boolean) (v' := (.int z2)) (fs' := [("com/example/rankfold/rankfold/UnsignedDecimal", "empty", "Z", (.int (b2i E))), ("com/example/rankfold/rankfold/UnsignedDecimal", "invalid", "Z", (.int z2)), ("com/example/rankfold/rankfold/UnsignedDecimal", "value", "J", (.long j1))]) C d6_62 rfl (hw _ (List.mem_of_getElem? (i := 30) rfl)) Via.refl O rfl (Or.inl (hw _ (List.mem_of_getElem? (i := 31) rfl))) (hw _ (List.mem_of_getElem? (i := 7) rfl)) (by decide) (by rw [e_z2]; exact congrArg Value.int (nar_b2i _)) (by rw [e_z2]; exact fits_b2i _) rfl (C.old (List.mem_cons_self ..)) fun h5 O Kh5 => ?_
        refine g_aloadN (pc' := 66) C d6_65 rfl rfl rfl ?_
        refine g_iconst (pc' := 67) (z := (0 : Int32)) C d6_66 rfl rfl ?_
        refine g_putO (pc' := 70) (j := 0) (ty := .boolean) (v' := (.int (0 : Int32))) (fs' := [("com/example/rankfold/rankfold/UnsignedDecimal", "empty", "Z", (.int (0 : Int32))), ("com/example/rankfold/rankfold/UnsignedDecimal", "invalid", "Z", (.int z2)), ("com/example/rankfold/rankfold/UnsignedDecimal", "value", "J", (.long j1))]) C d6_67 rfl (hw _ (List.mem_of_getElem? (i := 15) rfl)) Via.refl O rfl (Or.inl (hw _ (List.mem_of_getElem? (i := 16) rfl))) (hw _ (List.mem_of_getElem? (i := 7) rfl)) (by decide) rfl rfl rfl (C.old (List.mem_cons_self ..)) fun h6 O Kh6 => ?_
        refine g_return C d6_70 (by decide) (by decide) ?_
        subst hQ
        have x1 := c_isub c 48
        have x2 : (48 : Int32).toInt = 48 := rfl
        have x3 := rng32 (c - 48)
        rw [x2] at x1
        have x4 := c_i2l (c - 48)
        have x5 := c_lmul val 10
        have x6 : (10 : Int64).toInt = 10 := rfl
        have x7 := rng64 (val * 10)
        rw [x6] at x5
        have x8 := c_ladd (val * 10) (c - 48).toInt64
        have x9 := rng64 (val * 10 + (c - 48).toInt64)
        have x0 := hv (by omega) (by omega)
        rw [← e_j1] at x8 x9
        have xb : (c - 48).toInt = c.toInt - 48 := by omega
        have xc : (val * 10).toInt = val.toInt * 10 := by omega
        have xd : j1.toInt = val.toInt * 10 + (c.toInt - 48) := by omega
        clear x1 x3 x4 x5 x7 x8 x9
        have xa : stpI t c.toInt = j1.toInt := by unfold stpI; rw [if_neg (by omega), if_pos (by omega)]; omega
        refine ⟨rfl, j1, ?_, ?_⟩
        · rw [xa]; rw [← b2i_iff (by omega : (¬ (j1.toInt ≤ (2147483647))) ↔ (j1.toInt < 0 ∨ 2147483647 < j1.toInt)), ← e_z2]
          exact O
        · intro _ _; exact xa.symm
    ·
      refine g_aloadN (pc' := 13) C d6_12 rfl rfl rfl ?_
      refine g_iconst (pc' := 14) (z := (1 : Int32)) C d6_13 rfl rfl ?_
      refine g_putO (pc' := 17) (j := 1) (ty := .boolean) (v' := (.int (1 : Int32))) (fs' := [("com/example/rankfold/rankfold/UnsignedDecimal", "empty", "Z", (.int (b2i E))), ("com/example/rankfold/rankfold/UnsignedDecimal", "invalid", "Z", (.int (1 : Int32))), ("com/example/rankfold/rankfold/UnsignedDecimal", "value", "J", (.long val))]) C d6_14 rfl (hw _ (List.mem_of_getElem? (i := 30) rfl)) Via.refl O rfl (Or.inl (hw _ (List.mem_of_getElem? (i := 31) rfl))) (hw _ (List.mem_of_getElem? (i := 7) rfl)) (by decide) rfl rfl rfl (C.old (List.mem_cons_self ..)) fun h7 O Kh7 => ?_
      refine g_goto C d6_17 (by decide) (pc' := 65) rfl ?_
      refine g_aloadN (pc' := 66) C d6_65 rfl rfl rfl ?_
      refine g_iconst (pc' := 67) (z := (0 : Int32)) C d6_66 rfl rfl ?_
      refine g_putO (pc' := 70) (j := 0) (ty := .boolean) (v' := (.int (0 : Int32))) (fs' := [("com/example/rankfold/rankfold/UnsignedDecimal", "empty", "Z", (.int (0 : Int32))), ("com/example/rankfold/rankfold/UnsignedDecimal", "invalid", "Z", (.int (1 : Int32))), ("com/example/rankfold/rankfold/UnsignedDecimal", "value", "J", (.long val))]) C d6_67 rfl (hw _ (List.mem_of_getElem? (i := 15) rfl)) Via.refl O rfl (Or.inl (hw _ (List.mem_of_getElem? (i := 16) rfl))) (hw _ (List.mem_of_getElem? (i := 7) rfl)) (by decide) rfl rfl rfl (C.old (List.mem_cons_self ..)) fun h8 O Kh8 => ?_
      refine g_return C d6_70 (by decide) (by decide) ?_
      subst hQ
      refine ⟨rfl, val, ?_, ?_⟩
      · rw [b2i_pos (by unfold stpI; split <;> (try split) <;> omega : (stpI t c.toInt < 0 ∨ 2147483647 < stpI t c.toInt))]
        exact O
      · unfold stpI; intro y1 y2; split at y1 <;> (try split at y1) <;> omega
set_option maxRecDepth 65536 in
set_option maxHeartbeats 2000000 in
theorem con_value (l : Launch) (Z : State) (a0 : Array Value) (hw : ∀ d ∈ tables_1, d.before a0 Z = true) (a : Addr) (t : Int) (E : Prop) [Decidable E] (h : Heap) (U : UDS Z h a t E) :
    Con l Z [] (⟨"com/example/rankfold/rankfold/UnsignedDecimal", "value", "()I"⟩ : MethodName) prog_49_method_4_code 1 (some .int) ({ frames := 0, cells := 0, slots := 0, locals := 0 } : Room) #[(.ref a)] h [] (fun v h' => (∃ r : Int32, v = some (.int r) ∧ r.toInt = (if E ∨ (t < 0 ∨ 2147483647 < t) then -1 else t)) ∧ h = h') := by
  obtain ⟨val, O, hv⟩ := U
  refine Con.of_go (L0 := #[.val (.ref a)]) (plainFor_of_name (by first | (simp [plainName, overriddenIn]; done) | decide +kernel)) (locals_of rfl) fun W Q hQ hl C => ?_
  subst hl
  refine g_aloadN (pc' := 1) C d5_0 rfl rfl rfl ?_
  refine g_getO (pc' := 4) (j := 0) C d5_1 rfl (hw _ (List.mem_of_getElem? (i := 15) rfl)) O rfl ?_
  suffices K_4 : ∀ i1 : Int32, i1 = (if E then (-1 : Int32) else (if ¬ ((t < 0 ∨ 2147483647 < t)) then (val.toInt32) else (-1 : Int32))) → Go W Q h 0 0 23 #[.val (.ref a)] [(.int i1)] by
    refine g_ifneb (pc1 := 14) (pc2 := 7) C d5_4 (by decide) rfl rfl rfl (fun (c4 : E) => ?_) (fun (c4 : ¬ (E)) => ?_)
    ·
      refine g_iconst (pc' := 15) (z := (-1 : Int32)) C d5_14 rfl rfl ?_
      refine g_goto C d5_15 (by decide) (pc' := 23) rfl ?_
      exact K_4 (-1 : Int32) ((if_pos c4).symm)
    ·
      refine g_aloadN (pc' := 8) C d5_7 rfl rfl rfl ?_
      refine g_getO (pc' := 11) (j := 1) C d5_8 rfl (hw _ (List.mem_of_getElem? (i := 30) rfl)) O rfl ?_
      refine g_ifeqb (pc1 := 18) (pc2 := 14) C d5_11 (by decide) rfl rfl rfl (fun (c11 : ¬ ((t < 0 ∨ 2147483647 < t))) => ?_) (fun (c11 : (t < 0 ∨ 2147483647 < t)) => ?_)
      ·
        refine g_aloadN (pc' := 19) C d5_18 rfl rfl rfl ?_
        refine g_getO (pc' := 22) (j := 2) C d5_19 rfl (hw _ (List.mem_of_getElem? (i := 33) rfl)) O rfl ?_
        refine g_l2i (pc' := 23) C d5_22 rfl ?_
        exact K_4 (val.toInt32) (((if_pos c11).symm).trans (if_neg c4).symm)
      ·
        refine g_iconst (pc' := 15) (z := (-1 : Int32)) C d5_14 rfl rfl ?_
        refine g_goto C d5_15 (by decide) (pc' := 23) rfl ?_
        exact K_4 (-1 : Int32) (((if_neg (fun y => y c11)).symm).trans (if_neg c4).symm)
  intro i1 e_i1
  refine g_retI C d5_23 (by decide) (by decide) ?_
  subst hQ
  refine ⟨⟨_, rfl, ?_⟩, rfl⟩
  rw [e_i1]
  have x1 := c_l2i val
  have x2 := rng32 val.toInt32
  have x3 : (-1 : Int32).toInt = -1 := rfl
  by_cases y1 : E <;> by_cases y2 : (t < 0 ∨ 2147483647 < t) <;> simp only [b2i, if_true, if_false, ite_true, ite_false, and_true, true_and, and_false, false_and, or_true, true_or, or_false, false_or, not_true_eq_false, not_false_eq_true, and_self, or_self, y1, y2] <;> first | exact x3 | (have x4 := hv (by omega) (by omega); omega)
set_option maxRecDepth 65536 in
set_option maxHeartbeats 2000000 in
theorem con_ch (l : Launch) (Z : State) (a0 : Array Value) (hw : ∀ d ∈ tables_1, d.before a0 Z = true) (x n k : Int32) (h : Heap)  :
    Con l Z [] (⟨"com/example/rankfold/rankfold/UnsignedDecimalValuePinLaw", "ch", "(III)C"⟩ : MethodName) method_3_code 4 (some .char) ({ frames := 0, cells := 0, slots := 0, locals := 0 } : Room) #[(.int x), (.int n), (.int k)] h [] (fun v h' => (∃ r : Int32, v = some (.int r)) ∧ h = h') := by
  refine Con.of_go (L0 := #[.val (.int x), .val (.int n), .val (.int k), .unset]) (plainFor_of_name (by first | (simp [plainName, overriddenIn]; done) | decide +kernel)) (locals_of rfl) fun W Q hQ hl C => ?_
  subst hl
  refine g_iloadN (pc' := 1) C d1_0 rfl rfl ?_
  refine g_ldcI (pc' := 3) C d1_1 rfl (hw _ (List.mem_of_getElem? (i := 5) rfl)) ?_
  refine g_iand (pc' := 4) C d1_3 rfl ?_
  refine g_nameI fun i1 e_i1 => ?_
  refine g_istoreN (pc' := 5) (L' := #[.val (.int x), .val (.int n), .val (.int k), .val (.int i1)]) C d1_4 rfl rfl ?_
  refine g_iloadN (pc' := 6) C d1_5 rfl rfl ?_
  refine g_bipush (pc' := 8) (z := (8 : Int32)) C d1_6 rfl rfl ?_
  refine g_iloadN (pc' := 9) C d1_8 rfl rfl ?_
  refine g_iadd (pc' := 10) C d1_9 rfl ?_
  refine g_iushr (pc' := 11) C d1_10 rfl ?_
  refine g_iconst (pc' := 12) (z := (1 : Int32)) C d1_11 rfl rfl ?_
  refine g_iand (pc' := 13) C d1_12 rfl ?_
  refine g_if (xi := (((n.toUInt32 >>> (((8 : Int32) + k) &&& 31).toUInt32).toInt32) &&& (1 : Int32)).toInt) (pc1 := 25) (pc2 := 16) C d1_13 (by decide) rfl rfl rfl (fun (c13 : (((n.toUInt32 >>> (((8 : Int32) + k) &&& 31).toUInt32).toInt32) &&& (1 : Int32)).toInt = 0) => ?_) (fun (c13 : ¬ ((((n.toUInt32 >>> (((8 : Int32) + k) &&& 31).toUInt32).toInt32) &&& (1 : Int32)).toInt = 0)) => ?_)
  ·
    refine g_iloadN (pc' := 26) C d1_25 rfl rfl ?_
    refine g_i2c (pc' := 27) C d1_26 rfl ?_
    refine g_retN C (by simp) d1_27 (by decide) (by decide) ?_
    subst hQ
    exact ⟨⟨_, rfl⟩, rfl⟩
  ·
    refine g_bipush (pc' := 18) (z := (48 : Int32)) C d1_16 rfl rfl ?_
    refine g_iloadN (pc' := 19) C d1_18 rfl rfl ?_
    refine g_bipush (pc' := 21) (z := (10 : Int32)) C d1_19 rfl rfl ?_
    refine g_irem (pc' := 22) C d1_21 rfl (by decide) ?_
    refine g_iadd (pc' := 23) C d1_22 rfl ?_
    refine g_i2c (pc' := 24) C d1_23 rfl ?_
    refine g_retN C (by simp) d1_24 (by decide) (by decide) ?_
    subst hQ
    exact ⟨⟨_, rfl⟩, rfl⟩
set_option maxRecDepth 65536 in
set_option maxHeartbeats 2000000 in
theorem con_step (l : Launch) (Z : State) (a0 : Array Value) (hw : ∀ d ∈ tables_1, d.before a0 Z = true) (s : Int64) (c z : Int32) (P : Prop) [Decidable P] (ez : z = b2i P) (hs : s.toInt ≤ 100000000000) (h : Heap)  :
    Con l Z [] (⟨"com/example/rankfold/rankfold/UnsignedDecimalValuePinLaw", "step", "(JCZ)J"⟩ : MethodName) method_4_code 4 (some .long) ({ frames := 0, cells := 0, slots := 0, locals := 0 } : Room) #[(.long s), (.int c), (.int z)] h [] (fun v h' => (∃ r : Int64, v = some (.long r) ∧ r.toInt = (if P then stpI s.toInt c.toInt else s.toInt)) ∧ h = h') := by
  refine Con.of_go (L0 := #[.val (.long s), .second, .val (.int c), .val (.int z)]) (plainFor_of_name (by first | (simp [plainName, overriddenIn]; done) | decide +kernel)) (locals_of rfl) fun W Q hQ hl C => ?_
  subst hl
  refine g_iloadN (pc' := 1) C d4_0 rfl rfl ?_
  refine g_ifeqb (pc1 := 10) (pc2 := 4) C d4_1 (by decide) rfl rfl ez (fun (c1 : ¬ (P)) => ?_) (fun (c1 : P) => ?_)
  ·
    refine g_lloadN (pc' := 11) C d4_10 rfl rfl ?_
    refine g_retL C d4_11 (by decide) (by decide) ?_
    subst hQ
    refine ⟨⟨_, rfl, ?_⟩, rfl⟩
    have x1 := c_isub c 48
    have x2 : (48 : Int32).toInt = 48 := rfl
    have x3 := rng32 (c - 48)
    rw [x2] at x1
    have x4 := c_i2l (c - 48)
    have x5 := c_lmul s 10
    have x6 : (10 : Int64).toInt = 10 := rfl
    have x7 := rng64 (s * 10)
    rw [x6] at x5
    have x8 := c_ladd (s * 10) (c - 48).toInt64
    have x9 := rng64 (s * 10 + (c - 48).toInt64)
    have xa : (-1 : Int64).toInt = -1 := rfl
    have xb := rng32 c
    by_cases y : P <;> simp only [b2i, if_true, if_false, ite_true, ite_false, and_true, true_and, and_false, false_and, or_true, true_or, or_false, false_or, not_true_eq_false, not_false_eq_true, and_self, or_self, y] at * <;> (try unfold stpI) <;> (try split) <;> (try split) <;> omega
  ·
    refine g_lloadN (pc' := 5) C d4_4 rfl rfl ?_
    refine g_lconst (pc' := 6) (z := (0 : Int64)) C d4_5 rfl rfl ?_
    refine g_lcmp (cd := .ge) (xi := s.toInt) (yi := (0)) (pc' := 7) (pc1 := 12) (pc2 := 10) C d4_6 d4_7 rfl (by decide) rfl rfl rfl rfl (fun (c6 : (0) ≤ s.toInt) => ?_) (fun (c6 : ¬ ((0) ≤ s.toInt)) => ?_)
    ·
      refine g_iloadN (pc' := 13) C d4_12 rfl rfl ?_
      refine g_bipush (pc' := 15) (z := (48 : Int32)) C d4_13 rfl rfl ?_
      refine g_icmp (xi := c.toInt) (yi := (48)) (pc1 := 24) (pc2 := 18) C d4_15 (by decide) rfl rfl rfl rfl (fun (c15 : c.toInt < (48)) => ?_) (fun (c15 : ¬ (c.toInt < (48))) => ?_)
      ·
        refine g_ldc2L (pc' := 27) C d4_24 rfl (hw _ (List.mem_of_getElem? (i := 32) rfl)) ?_
        refine g_retL C d4_27 (by decide) (by decide) ?_
        subst hQ
        refine ⟨⟨_, rfl, ?_⟩, rfl⟩
        have x1 := c_isub c 48
        have x2 : (48 : Int32).toInt = 48 := rfl
        have x3 := rng32 (c - 48)
        rw [x2] at x1
        have x4 := c_i2l (c - 48)
        have x5 := c_lmul s 10
        have x6 : (10 : Int64).toInt = 10 := rfl
        have x7 := rng64 (s * 10)
        rw [x6] at x5
        have x8 := c_ladd (s * 10) (c - 48).toInt64
        have x9 := rng64 (s * 10 + (c - 48).toInt64)
        have xa : (-1 : Int64).toInt = -1 := rfl
        have xb := rng32 c
        by_cases y : P <;> simp only [b2i, if_true, if_false, ite_true, ite_false, and_true, true_and, and_false, false_and, or_true, true_or, or_false, false_or, not_true_eq_false, not_false_eq_true, and_self, or_self, y] at * <;> (try unfold stpI) <;> (try split) <;> (try split) <;> omega
      ·
        refine g_iloadN (pc' := 19) C d4_18 rfl rfl ?_
        refine g_bipush (pc' := 21) (z := (57 : Int32)) C d4_19 rfl rfl ?_
        refine g_icmp (xi := c.toInt) (yi := (57)) (pc1 := 28) (pc2 := 24) C d4_21 (by decide) rfl rfl rfl rfl (fun (c21 : c.toInt ≤ (57)) => ?_) (fun (c21 : ¬ (c.toInt ≤ (57))) => ?_)
        ·
          refine g_lloadN (pc' := 29) C d4_28 rfl rfl ?_
          refine g_ldc2L (pc' := 32) C d4_29 rfl (hw _ (List.mem_of_getElem? (i := 37) rfl)) ?_
          refine g_lmul (pc' := 33) C d4_32 rfl ?_
          refine g_iloadN (pc' := 34) C d4_33 rfl rfl ?_
          refine g_bipush (pc' := 36) (z := (48 : Int32)) C d4_34 rfl rfl ?_
          refine g_isub (pc' := 37) C d4_36 rfl ?_
          refine g_i2l (pc' := 38) C d4_37 rfl ?_
          refine g_ladd (pc' := 39) C d4_38 rfl ?_
          refine g_retL C d4_39 (by decide) (by decide) ?_
          subst hQ
          refine ⟨⟨_, rfl, ?_⟩, rfl⟩
          have x1 := c_isub c 48
          have x2 : (48 : Int32).toInt = 48 := rfl
          have x3 := rng32 (c - 48)
          rw [x2] at x1
          have x4 := c_i2l (c - 48)
          have x5 := c_lmul s 10
          have x6 : (10 : Int64).toInt = 10 := rfl
          have x7 := rng64 (s * 10)
          rw [x6] at x5
          have x8 := c_ladd (s * 10) (c - 48).toInt64
          have x9 := rng64 (s * 10 + (c - 48).toInt64)
          have xa : (-1 : Int64).toInt = -1 := rfl
          have xb := rng32 c
          by_cases y : P <;> simp only [b2i, if_true, if_false, ite_true, ite_false, and_true, true_and, and_false, false_and, or_true, true_or, or_false, false_or, not_true_eq_false, not_false_eq_true, and_self, or_self, y] at * <;> (try unfold stpI) <;> (try split) <;> (try split) <;> omega
        ·
          refine g_ldc2L (pc' := 27) C d4_24 rfl (hw _ (List.mem_of_getElem? (i := 32) rfl)) ?_
          refine g_retL C d4_27 (by decide) (by decide) ?_
          subst hQ
          refine ⟨⟨_, rfl, ?_⟩, rfl⟩
          have x1 := c_isub c 48
          have x2 : (48 : Int32).toInt = 48 := rfl
          have x3 := rng32 (c - 48)
          rw [x2] at x1
          have x4 := c_i2l (c - 48)
          have x5 := c_lmul s 10
          have x6 : (10 : Int64).toInt = 10 := rfl
          have x7 := rng64 (s * 10)
          rw [x6] at x5
          have x8 := c_ladd (s * 10) (c - 48).toInt64
          have x9 := rng64 (s * 10 + (c - 48).toInt64)
          have xa : (-1 : Int64).toInt = -1 := rfl
          have xb := rng32 c
          by_cases y : P <;> simp only [b2i, if_true, if_false, ite_true, ite_false, and_true, true_and, and_false, false_and, or_true, true_or, or_false, false_or, not_true_eq_false, not_false_eq_true, and_self, or_self, y] at * <;> (try unfold stpI) <;> (try split) <;> (try split) <;> omega
    ·
      refine g_lloadN (pc' := 11) C d4_10 rfl rfl ?_
      refine g_retL C d4_11 (by decide) (by decide) ?_
      subst hQ
      refine ⟨⟨_, rfl, ?_⟩, rfl⟩
      have x1 := c_isub c 48
      have x2 : (48 : Int32).toInt = 48 := rfl
      have x3 := rng32 (c - 48)
      rw [x2] at x1
      have x4 := c_i2l (c - 48)
      have x5 := c_lmul s 10
      have x6 : (10 : Int64).toInt = 10 := rfl
      have x7 := rng64 (s * 10)
      rw [x6] at x5
      have x8 := c_ladd (s * 10) (c - 48).toInt64
      have x9 := rng64 (s * 10 + (c - 48).toInt64)
      have xa : (-1 : Int64).toInt = -1 := rfl
      have xb := rng32 c
      by_cases y : P <;> simp only [b2i, if_true, if_false, ite_true, ite_false, and_true, true_and, and_false, false_and, or_true, true_or, or_false, false_or, not_true_eq_false, not_false_eq_true, and_self, or_self, y] at * <;> (try unfold stpI) <;> (try split) <;> (try split) <;> omega
theorem own_fin {len s r : Int} (h : 0 ≤ len) (x1 : (r - s) % 4294967296 = 0) (x2 : -2147483648 ≤ r ∧ r < 2147483648) : (if len ≤ 0 ∨ s < 0 ∨ 2147483647 < s then (-1 : Int) else s) = (if len = 0 then (-1 : Int) else if s < 0 then -1 else if s ≤ 2147483647 then r else -1) := by (repeat' split) <;> omega
set_option maxRecDepth 65536 in
set_option maxHeartbeats 2000000 in
theorem con_0 (l : Launch) (Z : State) (a0 : Array Value) (hw : ∀ d ∈ tables_1, d.before a0 Z = true) (p0 p1 p2 p3 p4 p5 : Int32) (h : Heap)  :
    Con l Z tables_1 x code maxLocals ret room_1 #[(.int p0), (.int p1), (.int p2), (.int p3), (.int p4), (.int p5)] h [] (fun v _ => v = some (.int 1)) := by
  refine Con.of_go (L0 := #[.val (.int p0), .val (.int p1), .val (.int p2), .val (.int p3), .val (.int p4), .val (.int p5), .unset, .unset, .unset, .unset, .unset, .unset]) (plainFor_of_name (by first | (simp [plainName, overriddenIn]; done) | decide +kernel)) (locals_of rfl) fun W Q hQ hl C => ?_
  subst hl
  refine g_iloadN (pc' := 1) C at_0 rfl rfl ?_
  refine g_sipush (pc' := 4) (z := (255 : Int32)) C at_1 rfl rfl ?_
  refine g_iand (pc' := 5) C at_4 rfl ?_
  refine g_bipush (pc' := 7) (z := (11 : Int32)) C at_5 rfl rfl ?_
  refine g_irem (pc' := 8) C at_7 rfl (by decide) ?_
  refine g_nameI fun i1 e_i1 => ?_
  refine g_istore (pc' := 10) (L' := #[.val (.int p0), .val (.int p1), .val (.int p2), .val (.int p3), .val (.int p4), .val (.int p5), .val (.int i1), .unset, .unset, .unset, .unset, .unset]) C at_8 rfl rfl ?_
  have m1 := c_mask p0 255 8 (by decide) (by decide)
  have m2 := (c_irem (p0 &&& 255) 11 11 rfl).1 (by omega)
  rw [← e_i1] at m2
  have m3 : 0 ≤ i1.toInt ∧ i1.toInt ≤ 10 := by omega
  refine g_bipush (pc' := 12) (z := (10 : Int32)) C at_10 rfl rfl ?_
  refine g_newarray (pc' := 14) (ty := .char) (len := 10) (cap := 10) (k' := 1) (n' := 10) C at_12 rfl rfl (hw _ (List.mem_of_getElem? (i := 0) rfl)) rfl (by decide) (by decide) rfl rfl (by decide) (by decide) fun h1 a2 e_a2 Eh1 Aa2 w_a2 => ?_
  replace Aa2 : Ar Z h1 a2 .char [(.int (0 : Int32)), (.int (0 : Int32)), (.int (0 : Int32)), (.int (0 : Int32)), (.int (0 : Int32)), (.int (0 : Int32)), (.int (0 : Int32)), (.int (0 : Int32)), (.int (0 : Int32)), (.int (0 : Int32))] := Aa2
  refine g_astore (pc' := 16) (L' := #[.val (.int p0), .val (.int p1), .val (.int p2), .val (.int p3), .val (.int p4), .val (.int p5), .val (.int i1), .val (.ref a2), .unset, .unset, .unset, .unset]) C at_14 rfl rfl rfl ?_
  refine g_aload (pc' := 18) C at_16 rfl rfl rfl ?_
  refine g_iconst (pc' := 19) (z := (0 : Int32)) C at_18 rfl rfl ?_
  refine g_iloadN (pc' := 20) C at_19 rfl rfl ?_
  refine g_iloadN (pc' := 21) C at_20 rfl rfl ?_
  refine g_iconst (pc' := 22) (z := (0 : Int32)) C at_21 rfl rfl ?_
  refine g_static (y := (⟨"com/example/rankfold/rankfold/UnsignedDecimalValuePinLaw", "ch", "(III)C"⟩ : MethodName)) (pc' := 25) (k' := 1) (n' := 10) (S := [(.int (0 : Int32)), (.ref a2)]) (as := [(.int p1), (.int p0), (.int (0 : Int32))]) C at_22 rfl (hw _ (List.mem_of_getElem? (i := 1) rfl)) (hw _ (List.mem_of_getElem? (i := 2) rfl)) (hw _ (List.mem_of_getElem? (i := 3) rfl)) (hw _ (List.mem_of_getElem? (i := 4) rfl)) (by decide) (lenOf pd_0 rfl) (con_ch W.l Z a0 hw p1 p0 (0 : Int32) h1) rfl rfl (Nat.le_of_ble_eq_true rfl) (Nat.le_of_ble_eq_true rfl) rfl rfl (Nat.le_of_ble_eq_true rfl) (Nat.le_of_ble_eq_true rfl) all0 fun vh2 h2 qh2 Kh2 => ?_
  obtain ⟨⟨i3, rfl⟩, eh⟩ := qh2
  subst eh
  show Go W Q h1 1 10 25 #[.val (.int p0), .val (.int p1), .val (.int p2), .val (.int p3), .val (.int p4), .val (.int p5), .val (.int i1), .val (.ref a2), .unset, .unset, .unset, .unset] [(.int i3), (.int (0 : Int32)), (.ref a2)]
  refine g_castore (pc' := 26) (i := 0) (vs' := [(.int (nar .char i3)), (.int (0 : Int32)), (.int (0 : Int32)), (.int (0 : Int32)), (.int (0 : Int32)), (.int (0 : Int32)), (.int (0 : Int32)), (.int (0 : Int32)), (.int (0 : Int32)), (.int (0 : Int32))]) C at_25 rfl Aa2 rfl (Nat.le_of_ble_eq_true rfl) rfl w_a2 fun h3 Aa2 Kh3 => ?_
  refine g_aload (pc' := 28) C at_26 rfl rfl rfl ?_
  refine g_iconst (pc' := 29) (z := (1 : Int32)) C at_28 rfl rfl ?_
  refine g_iloadN (pc' := 30) C at_29 rfl rfl ?_
  refine g_bipush (pc' := 32) (z := (16 : Int32)) C at_30 rfl rfl ?_
  refine g_iushr (pc' := 33) C at_32 rfl ?_
  refine g_iloadN (pc' := 34) C at_33 rfl rfl ?_
  refine g_iconst (pc' := 35) (z := (1 : Int32)) C at_34 rfl rfl ?_
  refine g_static (y := (⟨"com/example/rankfold/rankfold/UnsignedDecimalValuePinLaw", "ch", "(III)C"⟩ : MethodName)) (pc' := 38) (k' := 1) (n' := 10) (S := [(.int (1 : Int32)), (.ref a2)]) (as := [(.int ((p1.toUInt32 >>> ((16 : Int32) &&& 31).toUInt32).toInt32)), (.int p0), (.int (1 : Int32))]) C at_35 rfl (hw _ (List.mem_of_getElem? (i := 1) rfl)) (hw _ (List.mem_of_getElem? (i := 2) rfl)) (hw _ (List.mem_of_getElem? (i := 3) rfl)) (hw _ (List.mem_of_getElem? (i := 4) rfl)) (by decide) (lenOf pd_0 rfl) (con_ch W.l Z a0 hw ((p1.toUInt32 >>> ((16 : Int32) &&& 31).toUInt32).toInt32) p0 (1 : Int32) h3) rfl rfl (Nat.le_of_ble_eq_true rfl) (Nat.le_of_ble_eq_true rfl) rfl rfl (Nat.le_of_ble_eq_true rfl) (Nat.le_of_ble_eq_true rfl) all0 fun vh4 h4 qh4 Kh4 => ?_
  obtain ⟨⟨i4, rfl⟩, eh⟩ := qh4
  subst eh
  show Go W Q h3 1 10 38 #[.val (.int p0), .val (.int p1), .val (.int p2), .val (.int p3), .val (.int p4), .val (.int p5), .val (.int i1), .val (.ref a2), .unset, .unset, .unset, .unset] [(.int i4), (.int (1 : Int32)), (.ref a2)]
  refine g_castore (pc' := 39) (i := 1) (vs' := [(.int (nar .char i3)), (.int (nar .char i4)), (.int (0 : Int32)), (.int (0 : Int32)), (.int (0 : Int32)), (.int (0 : Int32)), (.int (0 : Int32)), (.int (0 : Int32)), (.int (0 : Int32)), (.int (0 : Int32))]) C at_38 rfl Aa2 rfl (Nat.le_of_ble_eq_true rfl) rfl w_a2 fun h5 Aa2 Kh5 => ?_
  refine g_aload (pc' := 41) C at_39 rfl rfl rfl ?_
  refine g_iconst (pc' := 42) (z := (2 : Int32)) C at_41 rfl rfl ?_
  refine g_iloadN (pc' := 43) C at_42 rfl rfl ?_
  refine g_iloadN (pc' := 44) C at_43 rfl rfl ?_
  refine g_iconst (pc' := 45) (z := (2 : Int32)) C at_44 rfl rfl ?_
  refine g_static (y := (⟨"com/example/rankfold/rankfold/UnsignedDecimalValuePinLaw", "ch", "(III)C"⟩ : MethodName)) (pc' := 48) (k' := 1) (n' := 10) (S := [(.int (2 : Int32)), (.ref a2)]) (as := [(.int p2), (.int p0), (.int (2 : Int32))]) C at_45 rfl (hw _ (List.mem_of_getElem? (i := 1) rfl)) (hw _ (List.mem_of_getElem? (i := 2) rfl)) (hw _ (List.mem_of_getElem? (i := 3) rfl)) (hw _ (List.mem_of_getElem? (i := 4) rfl)) (by decide) (lenOf pd_0 rfl) (con_ch W.l Z a0 hw p2 p0 (2 : Int32) h5) rfl rfl (Nat.le_of_ble_eq_true rfl) (Nat.le_of_ble_eq_true rfl) rfl rfl (Nat.le_of_ble_eq_true rfl) (Nat.le_of_ble_eq_true rfl) all0 fun vh6 h6 qh6 Kh6 => ?_
  obtain ⟨⟨i5, rfl⟩, eh⟩ := qh6
  subst eh
  show Go W Q h5 1 10 48 #[.val (.int p0), .val (.int p1), .val (.int p2), .val (.int p3), .val (.int p4), .val (.int p5), .val (.int i1), .val (.ref a2), .unset, .unset, .unset, .unset] [(.int i5), (.int (2 : Int32)), (.ref a2)]
  refine g_castore (pc' := 49) (i := 2) (vs' := [(.int (nar .char i3)), (.int (nar .char i4)), (.int (nar .char i5)), (.int (0 : Int32)), (.int (0 : Int32)), (.int (0 : Int32)), (.int (0 : Int32)), (.int (0 : Int32)), (.int (0 : Int32)), (.int (0 : Int32))]) C at_48 rfl Aa2 rfl (Nat.le_of_ble_eq_true rfl) rfl w_a2 fun h7 Aa2 Kh7 => ?_
  refine g_aload (pc' := 51) C at_49 rfl rfl rfl ?_
  refine g_iconst (pc' := 52) (z := (3 : Int32)) C at_51 rfl rfl ?_
  refine g_iloadN (pc' := 53) C at_52 rfl rfl ?_
  refine g_bipush (pc' := 55) (z := (16 : Int32)) C at_53 rfl rfl ?_
  refine g_iushr (pc' := 56) C at_55 rfl ?_
  refine g_iloadN (pc' := 57) C at_56 rfl rfl ?_
  refine g_iconst (pc' := 58) (z := (3 : Int32)) C at_57 rfl rfl ?_
  refine g_static (y := (⟨"com/example/rankfold/rankfold/UnsignedDecimalValuePinLaw", "ch", "(III)C"⟩ : MethodName)) (pc' := 61) (k' := 1) (n' := 10) (S := [(.int (3 : Int32)), (.ref a2)]) (as := [(.int ((p2.toUInt32 >>> ((16 : Int32) &&& 31).toUInt32).toInt32)), (.int p0), (.int (3 : Int32))]) C at_58 rfl (hw _ (List.mem_of_getElem? (i := 1) rfl)) (hw _ (List.mem_of_getElem? (i := 2) rfl)) (hw _ (List.mem_of_getElem? (i := 3) rfl)) (hw _ (List.mem_of_getElem? (i := 4) rfl)) (by decide) (lenOf pd_0 rfl) (con_ch W.l Z a0 hw ((p2.toUInt32 >>> ((16 : Int32) &&& 31).toUInt32).toInt32) p0 (3 : Int32) h7) rfl rfl (Nat.le_of_ble_eq_true rfl) (Nat.le_of_ble_eq_true rfl) rfl rfl (Nat.le_of_ble_eq_true rfl) (Nat.le_of_ble_eq_true rfl) all0 fun vh8 h8 qh8 Kh8 => ?_
  obtain ⟨⟨i6, rfl⟩, eh⟩ := qh8
  subst eh
  show Go W Q h7 1 10 61 #[.val (.int p0), .val (.int p1), .val (.int p2), .val (.int p3), .val (.int p4), .val (.int p5), .val (.int i1), .val (.ref a2), .unset, .unset, .unset, .unset] [(.int i6), (.int (3 : Int32)), (.ref a2)]
  refine g_castore (pc' := 62) (i := 3) (vs' := [(.int (nar .char i3)), (.int (nar .char i4)), (.int (nar .char i5)), (.int (nar .char i6)), (.int (0 : Int32)), (.int (0 : Int32)), (.int (0 : Int32)), (.int (0 : Int32)), (.int (0 : Int32)), (.int (0 : Int32))]) C at_61 rfl Aa2 rfl (Nat.le_of_ble_eq_true rfl) rfl w_a2 fun h9 Aa2 Kh9 => ?_
  refine g_aload (pc' := 64) C at_62 rfl rfl rfl ?_
  refine g_iconst (pc' := 65) (z := (4 : Int32)) C at_64 rfl rfl ?_
  refine g_iloadN (pc' := 66) C at_65 rfl rfl ?_
  refine g_iloadN (pc' := 67) C at_66 rfl rfl ?_
  refine g_iconst (pc' := 68) (z := (4 : Int32)) C at_67 rfl rfl ?_
  refine g_static (y := (⟨"com/example/rankfold/rankfold/UnsignedDecimalValuePinLaw", "ch", "(III)C"⟩ : MethodName)) (pc' := 71) (k' := 1) (n' := 10) (S := [(.int (4 : Int32)), (.ref a2)]) (as := [(.int p3), (.int p0), (.int (4 : Int32))]) C at_68 rfl (hw _ (List.mem_of_getElem? (i := 1) rfl)) (hw _ (List.mem_of_getElem? (i := 2) rfl)) (hw _ (List.mem_of_getElem? (i := 3) rfl)) (hw _ (List.mem_of_getElem? (i := 4) rfl)) (by decide) (lenOf pd_0 rfl) (con_ch W.l Z a0 hw p3 p0 (4 : Int32) h9) rfl rfl (Nat.le_of_ble_eq_true rfl) (Nat.le_of_ble_eq_true rfl) rfl rfl (Nat.le_of_ble_eq_true rfl) (Nat.le_of_ble_eq_true rfl) all0 fun vh10 h10 qh10 Kh10 => ?_
  obtain ⟨⟨i7, rfl⟩, eh⟩ := qh10
  subst eh
  show Go W Q h9 1 10 71 #[.val (.int p0), .val (.int p1), .val (.int p2), .val (.int p3), .val (.int p4), .val (.int p5), .val (.int i1), .val (.ref a2), .unset, .unset, .unset, .unset] [(.int i7), (.int (4 : Int32)), (.ref a2)]
  refine g_castore (pc' := 72) (i := 4) (vs' := [(.int (nar .char i3)), (.int (nar .char i4)), (.int (nar .char i5)), (.int (nar .char i6)), (.int (nar .char i7)), (.int (0 : Int32)), (.int (0 : Int32)), (.int (0 : Int32)), (.int (0 : Int32)), (.int (0 : Int32))]) C at_71 rfl Aa2 rfl (Nat.le_of_ble_eq_true rfl) rfl w_a2 fun h11 Aa2 Kh11 => ?_
  refine g_aload (pc' := 74) C at_72 rfl rfl rfl ?_
  refine g_iconst (pc' := 75) (z := (5 : Int32)) C at_74 rfl rfl ?_
  refine g_iloadN (pc' := 76) C at_75 rfl rfl ?_
  refine g_bipush (pc' := 78) (z := (16 : Int32)) C at_76 rfl rfl ?_
  refine g_iushr (pc' := 79) C at_78 rfl ?_
  refine g_iloadN (pc' := 80) C at_79 rfl rfl ?_
  refine g_iconst (pc' := 81) (z := (5 : Int32)) C at_80 rfl rfl ?_
  refine g_static (y := (⟨"com/example/rankfold/rankfold/UnsignedDecimalValuePinLaw", "ch", "(III)C"⟩ : MethodName)) (pc' := 84) (k' := 1) (n' := 10) (S := [(.int (5 : Int32)), (.ref a2)]) (as := [(.int ((p3.toUInt32 >>> ((16 : Int32) &&& 31).toUInt32).toInt32)), (.int p0), (.int (5 : Int32))]) C at_81 rfl (hw _ (List.mem_of_getElem? (i := 1) rfl)) (hw _ (List.mem_of_getElem? (i := 2) rfl)) (hw _ (List.mem_of_getElem? (i := 3) rfl)) (hw _ (List.mem_of_getElem? (i := 4) rfl)) (by decide) (lenOf pd_0 rfl) (con_ch W.l Z a0 hw ((p3.toUInt32 >>> ((16 : Int32) &&& 31).toUInt32).toInt32) p0 (5 : Int32) h11) rfl rfl (Nat.le_of_ble_eq_true rfl) (Nat.le_of_ble_eq_true rfl) rfl rfl (Nat.le_of_ble_eq_true rfl) (Nat.le_of_ble_eq_true rfl) all0 fun vh12 h12 qh12 Kh12 => ?_
  obtain ⟨⟨i8, rfl⟩, eh⟩ := qh12
  subst eh
  show Go W Q h11 1 10 84 #[.val (.int p0), .val (.int p1), .val (.int p2), .val (.int p3), .val (.int p4), .val (.int p5), .val (.int i1), .val (.ref a2), .unset, .unset, .unset, .unset] [(.int i8), (.int (5 : Int32)), (.ref a2)]
  refine g_castore (pc' := 85) (i := 5) (vs' := [(.int (nar .char i3)), (.int (nar .char i4)), (.int (nar .char i5)), (.int (nar .char i6)), (.int (nar .char i7)), (.int (nar .char i8)), (.int (0 : Int32)), (.int (0 : Int32)), (.int (0 : Int32)), (.int (0 : Int32))]) C at_84 rfl Aa2 rfl (Nat.le_of_ble_eq_true rfl) rfl w_a2 fun h13 Aa2 Kh13 => ?_
  refine g_aload (pc' := 87) C at_85 rfl rfl rfl ?_
  refine g_bipush (pc' := 89) (z := (6 : Int32)) C at_87 rfl rfl ?_
  refine g_iload (pc' := 91) C at_89 rfl rfl ?_
  refine g_iloadN (pc' := 92) C at_91 rfl rfl ?_
  refine g_bipush (pc' := 94) (z := (6 : Int32)) C at_92 rfl rfl ?_
  refine g_static (y := (⟨"com/example/rankfold/rankfold/UnsignedDecimalValuePinLaw", "ch", "(III)C"⟩ : MethodName)) (pc' := 97) (k' := 1) (n' := 10) (S := [(.int (6 : Int32)), (.ref a2)]) (as := [(.int p4), (.int p0), (.int (6 : Int32))]) C at_94 rfl (hw _ (List.mem_of_getElem? (i := 1) rfl)) (hw _ (List.mem_of_getElem? (i := 2) rfl)) (hw _ (List.mem_of_getElem? (i := 3) rfl)) (hw _ (List.mem_of_getElem? (i := 4) rfl)) (by decide) (lenOf pd_0 rfl) (con_ch W.l Z a0 hw p4 p0 (6 : Int32) h13) rfl rfl (Nat.le_of_ble_eq_true rfl) (Nat.le_of_ble_eq_true rfl) rfl rfl (Nat.le_of_ble_eq_true rfl) (Nat.le_of_ble_eq_true rfl) all0 fun vh14 h14 qh14 Kh14 => ?_
  obtain ⟨⟨i9, rfl⟩, eh⟩ := qh14
  subst eh
  show Go W Q h13 1 10 97 #[.val (.int p0), .val (.int p1), .val (.int p2), .val (.int p3), .val (.int p4), .val (.int p5), .val (.int i1), .val (.ref a2), .unset, .unset, .unset, .unset] [(.int i9), (.int (6 : Int32)), (.ref a2)]
  refine g_castore (pc' := 98) (i := 6) (vs' := [(.int (nar .char i3)), (.int (nar .char i4)), (.int (nar .char i5)), (.int (nar .char i6)), (.int (nar .char i7)), (.int (nar .char i8)), (.int (nar .char i9)), (.int (0 : Int32)), (.int (0 : Int32)), (.int (0 : Int32))]) C at_97 rfl Aa2 rfl (Nat.le_of_ble_eq_true rfl) rfl w_a2 fun h15 Aa2 Kh15 => ?_
  refine g_aload (pc' := 100) C at_98 rfl rfl rfl ?_
  refine g_bipush (pc' := 102) (z := (7 : Int32)) C at_100 rfl rfl ?_
  refine g_iload (pc' := 104) C at_102 rfl rfl ?_
  refine g_bipush (pc' := 106) (z := (16 : Int32)) C at_104 rfl rfl ?_
  refine g_iushr (pc' := 107) C at_106 rfl ?_
  refine g_iloadN (pc' := 108) C at_107 rfl rfl ?_
  refine g_bipush (pc' := 110) (z := (7 : Int32)) C at_108 rfl rfl ?_
  refine g_static (y := (⟨"com/example/rankfold/rankfold/UnsignedDecimalValuePinLaw", "ch", "(III)C"⟩ : MethodName)) (pc' := 113) (k' := 1) (n' := 10) (S := [(.int (7 : Int32)), (.ref a2)]) (as := [(.int ((p4.toUInt32 >>> ((16 : Int32) &&& 31).toUInt32).toInt32)), (.int p0), (.int (7 : Int32))]) C at_110 rfl (hw _ (List.mem_of_getElem? (i := 1) rfl)) (hw _ (List.mem_of_getElem? (i := 2) rfl)) (hw _ (List.mem_of_getElem? (i := 3) rfl)) (hw _ (List.mem_of_getElem? (i := 4) rfl)) (by decide) (lenOf pd_0 rfl) (con_ch W.l Z a0 hw ((p4.toUInt32 >>> ((16 : Int32) &&& 31).toUInt32).toInt32) p0 (7 : Int32) h15) rfl rfl (Nat.le_of_ble_eq_true rfl) (Nat.le_of_ble_eq_true rfl) rfl rfl (Nat.le_of_ble_eq_true rfl) (Nat.le_of_ble_eq_true rfl) all0 fun vh16 h16 qh16 Kh16 => ?_
  obtain ⟨⟨i10, rfl⟩, eh⟩ := qh16
  subst eh
  show Go W Q h15 1 10 113 #[.val (.int p0), .val (.int p1), .val (.int p2), .val (.int p3), .val (.int p4), .val (.int p5), .val (.int i1), .val (.ref a2), .unset, .unset, .unset, .unset] [(.int i10), (.int (7 : Int32)), (.ref a2)]
  refine g_castore (pc' := 114) (i := 7) (vs' := [(.int (nar .char i3)), (.int (nar .char i4)), (.int (nar .char i5)), (.int (nar .char i6)), (.int (nar .char i7)), (.int (nar .char i8)), (.int (nar .char i9)), (.int (nar .char i10)), (.int (0 : Int32)), (.int (0 : Int32))]) C at_113 rfl Aa2 rfl (Nat.le_of_ble_eq_true rfl) rfl w_a2 fun h17 Aa2 Kh17 => ?_
  refine g_aload (pc' := 116) C at_114 rfl rfl rfl ?_
  refine g_bipush (pc' := 118) (z := (8 : Int32)) C at_116 rfl rfl ?_
  refine g_iload (pc' := 120) C at_118 rfl rfl ?_
  refine g_iloadN (pc' := 121) C at_120 rfl rfl ?_
  refine g_bipush (pc' := 123) (z := (8 : Int32)) C at_121 rfl rfl ?_
  refine g_static (y := (⟨"com/example/rankfold/rankfold/UnsignedDecimalValuePinLaw", "ch", "(III)C"⟩ : MethodName)) (pc' := 126) (k' := 1) (n' := 10) (S := [(.int (8 : Int32)), (.ref a2)]) (as := [(.int p5), (.int p0), (.int (8 : Int32))]) C at_123 rfl (hw _ (List.mem_of_getElem? (i := 1) rfl)) (hw _ (List.mem_of_getElem? (i := 2) rfl)) (hw _ (List.mem_of_getElem? (i := 3) rfl)) (hw _ (List.mem_of_getElem? (i := 4) rfl)) (by decide) (lenOf pd_0 rfl) (con_ch W.l Z a0 hw p5 p0 (8 : Int32) h17) rfl rfl (Nat.le_of_ble_eq_true rfl) (Nat.le_of_ble_eq_true rfl) rfl rfl (Nat.le_of_ble_eq_true rfl) (Nat.le_of_ble_eq_true rfl) all0 fun vh18 h18 qh18 Kh18 => ?_
  obtain ⟨⟨i11, rfl⟩, eh⟩ := qh18
  subst eh
  show Go W Q h17 1 10 126 #[.val (.int p0), .val (.int p1), .val (.int p2), .val (.int p3), .val (.int p4), .val (.int p5), .val (.int i1), .val (.ref a2), .unset, .unset, .unset, .unset] [(.int i11), (.int (8 : Int32)), (.ref a2)]
  refine g_castore (pc' := 127) (i := 8) (vs' := [(.int (nar .char i3)), (.int (nar .char i4)), (.int (nar .char i5)), (.int (nar .char i6)), (.int (nar .char i7)), (.int (nar .char i8)), (.int (nar .char i9)), (.int (nar .char i10)), (.int (nar .char i11)), (.int (0 : Int32))]) C at_126 rfl Aa2 rfl (Nat.le_of_ble_eq_true rfl) rfl w_a2 fun h19 Aa2 Kh19 => ?_
  refine g_aload (pc' := 129) C at_127 rfl rfl rfl ?_
  refine g_bipush (pc' := 131) (z := (9 : Int32)) C at_129 rfl rfl ?_
  refine g_iload (pc' := 133) C at_131 rfl rfl ?_
  refine g_bipush (pc' := 135) (z := (16 : Int32)) C at_133 rfl rfl ?_
  refine g_iushr (pc' := 136) C at_135 rfl ?_
  refine g_iloadN (pc' := 137) C at_136 rfl rfl ?_
  refine g_bipush (pc' := 139) (z := (9 : Int32)) C at_137 rfl rfl ?_
  refine g_static (y := (⟨"com/example/rankfold/rankfold/UnsignedDecimalValuePinLaw", "ch", "(III)C"⟩ : MethodName)) (pc' := 142) (k' := 1) (n' := 10) (S := [(.int (9 : Int32)), (.ref a2)]) (as := [(.int ((p5.toUInt32 >>> ((16 : Int32) &&& 31).toUInt32).toInt32)), (.int p0), (.int (9 : Int32))]) C at_139 rfl (hw _ (List.mem_of_getElem? (i := 1) rfl)) (hw _ (List.mem_of_getElem? (i := 2) rfl)) (hw _ (List.mem_of_getElem? (i := 3) rfl)) (hw _ (List.mem_of_getElem? (i := 4) rfl)) (by decide) (lenOf pd_0 rfl) (con_ch W.l Z a0 hw ((p5.toUInt32 >>> ((16 : Int32) &&& 31).toUInt32).toInt32) p0 (9 : Int32) h19) rfl rfl (Nat.le_of_ble_eq_true rfl) (Nat.le_of_ble_eq_true rfl) rfl rfl (Nat.le_of_ble_eq_true rfl) (Nat.le_of_ble_eq_true rfl) all0 fun vh20 h20 qh20 Kh20 => ?_
  obtain ⟨⟨i12, rfl⟩, eh⟩ := qh20
  subst eh
  show Go W Q h19 1 10 142 #[.val (.int p0), .val (.int p1), .val (.int p2), .val (.int p3), .val (.int p4), .val (.int p5), .val (.int i1), .val (.ref a2), .unset, .unset, .unset, .unset] [(.int i12), (.int (9 : Int32)), (.ref a2)]
  refine g_castore (pc' := 143) (i := 9) (vs' := [(.int (nar .char i3)), (.int (nar .char i4)), (.int (nar .char i5)), (.int (nar .char i6)), (.int (nar .char i7)), (.int (nar .char i8)), (.int (nar .char i9)), (.int (nar .char i10)), (.int (nar .char i11)), (.int (nar .char i12))]) C at_142 rfl Aa2 rfl (Nat.le_of_ble_eq_true rfl) rfl w_a2 fun h21 Aa2 Kh21 => ?_
  refine g_new (pc' := 146) (k' := 2) (n' := 13) C at_143 rfl (hw _ (List.mem_of_getElem? (i := 6) rfl)) (hw _ (List.mem_of_getElem? (i := 7) rfl)) (hw _ (List.mem_of_getElem? (i := 8) rfl)) rfl rfl (by decide) (by decide) fun h22 a13 e_a13 Eh22 Xa13 Da13 w_a13 => ?_
  have n_a2_a13 : a2 ≠ a13 := by rw [e_a13]; exact Nat.ne_of_lt Aa2.lt
  replace Aa2 := Aa2.ext Eh22
  have Oa13 : Ob Z h22 a13 "com/example/rankfold/rankfold/UnsignedDecimal" [("com/example/rankfold/rankfold/UnsignedDecimal", "empty", "Z", (.int (0 : Int32))), ("com/example/rankfold/rankfold/UnsignedDecimal", "invalid", "Z", (.int (0 : Int32))), ("com/example/rankfold/rankfold/UnsignedDecimal", "value", "J", (.long (0 : Int64)))] := ⟨Xa13, by
    simp only [List.forall_mem_cons, List.not_mem_nil, false_implies, implies_true, and_true]
    exact ⟨Da13 (Or.inl (hw _ (List.mem_of_getElem? (i := 16) rfl))) (ty := .boolean) (by decide), Da13 (Or.inl (hw _ (List.mem_of_getElem? (i := 31) rfl))) (ty := .boolean) (by decide), Da13 (Or.inl (hw _ (List.mem_of_getElem? (i := 34) rfl))) (ty := .long) (by decide)⟩, dis_0 Z a0 hw⟩
  refine g_dup (pc' := 147) C at_146 rfl rfl ?_
  refine g_special (y := (⟨"com/example/rankfold/rankfold/UnsignedDecimal", "<init>", "()V"⟩ : MethodName)) (a := a13) (pc' := 150) (k' := 2) (n' := 13) (S := [(.ref a13)]) (as := []) C at_147 rfl rfl (hw _ (List.mem_of_getElem? (i := 9) rfl)) (hw _ (List.mem_of_getElem? (i := 10) rfl)) (hw _ (List.mem_of_getElem? (i := 8) rfl)) (hw _ (List.mem_of_getElem? (i := 11) rfl)) (by decide) (lenOf pd_1 rfl) (con_init W.l Z a0 hw a13 h22 Oa13) rfl rfl (Nat.le_of_ble_eq_true rfl) (Nat.le_of_ble_eq_true rfl) rfl rfl (Nat.le_of_ble_eq_true rfl) (Nat.le_of_ble_eq_true rfl) (allS w_a13 all0) fun vh23 h23 qh23 Kh23 => ?_
  obtain ⟨rfl, Ua13⟩ := qh23
  replace Aa2 := Aa2.keep Kh23 (ninS n_a2_a13 nin0)
  show Go W Q h23 2 13 150 #[.val (.int p0), .val (.int p1), .val (.int p2), .val (.int p3), .val (.int p4), .val (.int p5), .val (.int i1), .val (.ref a2), .unset, .unset, .unset, .unset] [(.ref a13)]
  refine g_astore (pc' := 152) (L' := #[.val (.int p0), .val (.int p1), .val (.int p2), .val (.int p3), .val (.int p4), .val (.int p5), .val (.int i1), .val (.ref a2), .val (.ref a13), .unset, .unset, .unset]) C at_150 rfl rfl rfl ?_
  refine g_iload (pc' := 154) C at_152 rfl rfl ?_
  suffices K_154 : ∀ (h24 : Heap) (t1 : Int), t1 = (if 0 < i1.toInt then stpI (0 : Int) (nar .char i3).toInt else (0 : Int)) → UDS Z h24 a13 t1 (i1.toInt ≤ 0) → Ar Z h24 a2 .char [(.int (nar .char i3)), (.int (nar .char i4)), (.int (nar .char i5)), (.int (nar .char i6)), (.int (nar .char i7)), (.int (nar .char i8)), (.int (nar .char i9)), (.int (nar .char i10)), (.int (nar .char i11)), (.int (nar .char i12))] → Go W Q h24 2 13 166 #[.val (.int p0), .val (.int p1), .val (.int p2), .val (.int p3), .val (.int p4), .val (.int p5), .val (.int i1), .val (.ref a2), .val (.ref a13), .unset, .unset, .unset] [] by
    refine g_if (xi := i1.toInt) (pc1 := 166) (pc2 := 157) C at_154 (by decide) rfl rfl rfl (fun (c154 : i1.toInt ≤ 0) => ?_) (fun (c154 : ¬ (i1.toInt ≤ 0)) => ?_)
    ·
      exact K_154 h23 (0 : Int) (by rw [if_neg (by omega)]) (Ua13.cong rfl (by constructor <;> intro y <;> first | trivial | exact y | omega)) Aa2
    ·
      refine g_aload (pc' := 159) C at_157 rfl rfl rfl ?_
      refine g_aload (pc' := 161) C at_159 rfl rfl rfl ?_
      refine g_iconst (pc' := 162) (z := (0 : Int32)) C at_161 rfl rfl ?_
      refine g_caload (pc' := 163) (i := 0) C at_162 rfl Aa2 rfl rfl ?_
      refine g_virtual (y := (⟨"com/example/rankfold/rankfold/UnsignedDecimal", "append", "(C)V"⟩ : MethodName)) (a := a13) (pc' := 166) (k' := 2) (n' := 13) (S := []) (as := [(.int (nar .char i3))]) C at_163 rfl (hw _ (List.mem_of_getElem? (i := 25) rfl)) (hw _ (List.mem_of_getElem? (i := 27) rfl)) (hw _ (List.mem_of_getElem? (i := 8) rfl)) (hw _ (List.mem_of_getElem? (i := 29) rfl)) (hw _ (List.mem_of_getElem? (i := 26) rfl)) (hw _ (List.mem_of_getElem? (i := 28) rfl)) (by decide) Ua13.exa (lenOf pd_2 rfl) (con_append W.l Z a0 hw a13 (0 : Int) (True) (nar .char i3) h23 Ua13) rfl rfl (Nat.le_of_ble_eq_true rfl) (Nat.le_of_ble_eq_true rfl) rfl rfl (Nat.le_of_ble_eq_true rfl) (Nat.le_of_ble_eq_true rfl) (allS w_a13 all0) fun vh25 h25 qh25 Kh25 => ?_
      obtain ⟨rfl, Ua13⟩ := qh25
      replace Aa2 := Aa2.keep Kh25 (ninS n_a2_a13 nin0)
      show Go W Q h25 2 13 166 #[.val (.int p0), .val (.int p1), .val (.int p2), .val (.int p3), .val (.int p4), .val (.int p5), .val (.int i1), .val (.ref a2), .val (.ref a13), .unset, .unset, .unset] []
      exact K_154 h25 _ (by rw [if_pos (by omega)]) (Ua13.cong rfl (by constructor <;> intro y <;> first | exact y.elim | omega)) Aa2
  intro h24 t1 e_t1 Ua13 Aa2
  refine g_iload (pc' := 168) C at_166 rfl rfl ?_
  refine g_iconst (pc' := 169) (z := (1 : Int32)) C at_168 rfl rfl ?_
  suffices K_169 : ∀ (h26 : Heap) (t2 : Int), t2 = (if 1 < i1.toInt then stpI t1 (nar .char i4).toInt else t1) → UDS Z h26 a13 t2 (i1.toInt ≤ 0) → Ar Z h26 a2 .char [(.int (nar .char i3)), (.int (nar .char i4)), (.int (nar .char i5)), (.int (nar .char i6)), (.int (nar .char i7)), (.int (nar .char i8)), (.int (nar .char i9)), (.int (nar .char i10)), (.int (nar .char i11)), (.int (nar .char i12))] → Go W Q h26 2 13 181 #[.val (.int p0), .val (.int p1), .val (.int p2), .val (.int p3), .val (.int p4), .val (.int p5), .val (.int i1), .val (.ref a2), .val (.ref a13), .unset, .unset, .unset] [] by
    refine g_icmp (xi := i1.toInt) (yi := (1)) (pc1 := 181) (pc2 := 172) C at_169 (by decide) rfl rfl rfl rfl (fun (c169 : i1.toInt ≤ (1)) => ?_) (fun (c169 : ¬ (i1.toInt ≤ (1))) => ?_)
    ·
      exact K_169 h24 t1 (by rw [if_neg (by omega)]) (Ua13.cong rfl (by constructor <;> intro y <;> first | trivial | exact y | omega)) Aa2
    ·
      refine g_aload (pc' := 174) C at_172 rfl rfl rfl ?_
      refine g_aload (pc' := 176) C at_174 rfl rfl rfl ?_
      refine g_iconst (pc' := 177) (z := (1 : Int32)) C at_176 rfl rfl ?_
      refine g_caload (pc' := 178) (i := 1) C at_177 rfl Aa2 rfl rfl ?_
      refine g_virtual (y := (⟨"com/example/rankfold/rankfold/UnsignedDecimal", "append", "(C)V"⟩ : MethodName)) (a := a13) (pc' := 181) (k' := 2) (n' := 13) (S := []) (as := [(.int (nar .char i4))]) C at_178 rfl (hw _ (List.mem_of_getElem? (i := 25) rfl)) (hw _ (List.mem_of_getElem? (i := 27) rfl)) (hw _ (List.mem_of_getElem? (i := 8) rfl)) (hw _ (List.mem_of_getElem? (i := 29) rfl)) (hw _ (List.mem_of_getElem? (i := 26) rfl)) (hw _ (List.mem_of_getElem? (i := 28) rfl)) (by decide) Ua13.exa (lenOf pd_2 rfl) (con_append W.l Z a0 hw a13 t1 (i1.toInt ≤ 0) (nar .char i4) h24 Ua13) rfl rfl (Nat.le_of_ble_eq_true rfl) (Nat.le_of_ble_eq_true rfl) rfl rfl (Nat.le_of_ble_eq_true rfl) (Nat.le_of_ble_eq_true rfl) (allS w_a13 all0) fun vh27 h27 qh27 Kh27 => ?_
      obtain ⟨rfl, Ua13⟩ := qh27
      replace Aa2 := Aa2.keep Kh27 (ninS n_a2_a13 nin0)
      show Go W Q h27 2 13 181 #[.val (.int p0), .val (.int p1), .val (.int p2), .val (.int p3), .val (.int p4), .val (.int p5), .val (.int i1), .val (.ref a2), .val (.ref a13), .unset, .unset, .unset] []
      exact K_169 h27 _ (by rw [if_pos (by omega)]) (Ua13.cong rfl (by constructor <;> intro y <;> first | exact y.elim | omega)) Aa2
  intro h26 t2 e_t2 Ua13 Aa2
  refine g_iload (pc' := 183) C at_181 rfl rfl ?_
  refine g_iconst (pc' := 184) (z := (2 : Int32)) C at_183 rfl rfl ?_
  suffices K_184 : ∀ (h28 : Heap) (t3 : Int), t3 = (if 2 < i1.toInt then stpI t2 (nar .char i5).toInt else t2) → UDS Z h28 a13 t3 (i1.toInt ≤ 0) → Ar Z h28 a2 .char [(.int (nar .char i3)), (.int (nar .char i4)), (.int (nar .char i5)), (.int (nar .char i6)), (.int (nar .char i7)), (.int (nar .char i8)), (.int (nar .char i9)), (.int (nar .char i10)), (.int (nar .char i11)), (.int (nar .char i12))] → Go W Q h28 2 13 196 #[.val (.int p0), .val (.int p1), .val (.int p2), .val (.int p3), .val (.int p4), .val (.int p5), .val (.int i1), .val (.ref a2), .val (.ref a13), .unset, .unset, .unset] [] by
    refine g_icmp (xi := i1.toInt) (yi := (2)) (pc1 := 196) (pc2 := 187) C at_184 (by decide) rfl rfl rfl rfl (fun (c184 : i1.toInt ≤ (2)) => ?_) (fun (c184 : ¬ (i1.toInt ≤ (2))) => ?_)
    ·
      exact K_184 h26 t2 (by rw [if_neg (by omega)]) (Ua13.cong rfl (by constructor <;> intro y <;> first | trivial | exact y | omega)) Aa2
    ·
      refine g_aload (pc' := 189) C at_187 rfl rfl rfl ?_
      refine g_aload (pc' := 191) C at_189 rfl rfl rfl ?_
      refine g_iconst (pc' := 192) (z := (2 : Int32)) C at_191 rfl rfl ?_
      refine g_caload (pc' := 193) (i := 2) C at_192 rfl Aa2 rfl rfl ?_
      refine g_virtual (y := (⟨"com/example/rankfold/rankfold/UnsignedDecimal", "append", "(C)V"⟩ : MethodName)) (a := a13) (pc' := 196) (k' := 2) (n' := 13) (S := []) (as := [(.int (nar .char i5))]) C at_193 rfl (hw _ (List.mem_of_getElem? (i := 25) rfl)) (hw _ (List.mem_of_getElem? (i := 27) rfl)) (hw _ (List.mem_of_getElem? (i := 8) rfl)) (hw _ (List.mem_of_getElem? (i := 29) rfl)) (hw _ (List.mem_of_getElem? (i := 26) rfl)) (hw _ (List.mem_of_getElem? (i := 28) rfl)) (by decide) Ua13.exa (lenOf pd_2 rfl) (con_append W.l Z a0 hw a13 t2 (i1.toInt ≤ 0) (nar .char i5) h26 Ua13) rfl rfl (Nat.le_of_ble_eq_true rfl) (Nat.le_of_ble_eq_true rfl) rfl rfl (Nat.le_of_ble_eq_true rfl) (Nat.le_of_ble_eq_true rfl) (allS w_a13 all0) fun vh29 h29 qh29 Kh29 => ?_
      obtain ⟨rfl, Ua13⟩ := qh29
      replace Aa2 := Aa2.keep Kh29 (ninS n_a2_a13 nin0)
      show Go W Q h29 2 13 196 #[.val (.int p0), .val (.int p1), .val (.int p2), .val (.int p3), .val (.int p4), .val (.int p5), .val (.int i1), .val (.ref a2), .val (.ref a13), .unset, .unset, .unset] []
      exact K_184 h29 _ (by rw [if_pos (by omega)]) (Ua13.cong rfl (by constructor <;> intro y <;> first | exact y.elim | omega)) Aa2
  intro h28 t3 e_t3 Ua13 Aa2
  refine g_iload (pc' := 198) C at_196 rfl rfl ?_
  refine g_iconst (pc' := 199) (z := (3 : Int32)) C at_198 rfl rfl ?_
  suffices K_199 : ∀ (h30 : Heap) (t4 : Int), t4 = (if 3 < i1.toInt then stpI t3 (nar .char i6).toInt else t3) → UDS Z h30 a13 t4 (i1.toInt ≤ 0) → Ar Z h30 a2 .char [(.int (nar .char i3)), (.int (nar .char i4)), (.int (nar .char i5)), (.int (nar .char i6)), (.int (nar .char i7)), (.int (nar .char i8)), (.int (nar .char i9)), (.int (nar .char i10)), (.int (nar .char i11)), (.int (nar .char i12))] → Go W Q h30 2 13 211 #[.val (.int p0), .val (.int p1), .val (.int p2), .val (.int p3), .val (.int p4), .val (.int p5), .val (.int i1), .val (.ref a2), .val (.ref a13), .unset, .unset, .unset] [] by
    refine g_icmp (xi := i1.toInt) (yi := (3)) (pc1 := 211) (pc2 := 202) C at_199 (by decide) rfl rfl rfl rfl (fun (c199 : i1.toInt ≤ (3)) => ?_) (fun (c199 : ¬ (i1.toInt ≤ (3))) => ?_)
    ·
      exact K_199 h28 t3 (by rw [if_neg (by omega)]) (Ua13.cong rfl (by constructor <;> intro y <;> first | trivial | exact y | omega)) Aa2
    ·
      refine g_aload (pc' := 204) C at_202 rfl rfl rfl ?_
      refine g_aload (pc' := 206) C at_204 rfl rfl rfl ?_
      refine g_iconst (pc' := 207) (z := (3 : Int32)) C at_206 rfl rfl ?_
      refine g_caload (pc' := 208) (i := 3) C at_207 rfl Aa2 rfl rfl ?_
      refine g_virtual (y := (⟨"com/example/rankfold/rankfold/UnsignedDecimal", "append", "(C)V"⟩ : MethodName)) (a := a13) (pc' := 211) (k' := 2) (n' := 13) (S := []) (as := [(.int (nar .char i6))]) C at_208 rfl (hw _ (List.mem_of_getElem? (i := 25) rfl)) (hw _ (List.mem_of_getElem? (i := 27) rfl)) (hw _ (List.mem_of_getElem? (i := 8) rfl)) (hw _ (List.mem_of_getElem? (i := 29) rfl)) (hw _ (List.mem_of_getElem? (i := 26) rfl)) (hw _ (List.mem_of_getElem? (i := 28) rfl)) (by decide) Ua13.exa (lenOf pd_2 rfl) (con_append W.l Z a0 hw a13 t3 (i1.toInt ≤ 0) (nar .char i6) h28 Ua13) rfl rfl (Nat.le_of_ble_eq_true rfl) (Nat.le_of_ble_eq_true rfl) rfl rfl (Nat.le_of_ble_eq_true rfl) (Nat.le_of_ble_eq_true rfl) (allS w_a13 all0) fun vh31 h31 qh31 Kh31 => ?_
      obtain ⟨rfl, Ua13⟩ := qh31
      replace Aa2 := Aa2.keep Kh31 (ninS n_a2_a13 nin0)
      show Go W Q h31 2 13 211 #[.val (.int p0), .val (.int p1), .val (.int p2), .val (.int p3), .val (.int p4), .val (.int p5), .val (.int i1), .val (.ref a2), .val (.ref a13), .unset, .unset, .unset] []
      exact K_199 h31 _ (by rw [if_pos (by omega)]) (Ua13.cong rfl (by constructor <;> intro y <;> first | exact y.elim | omega)) Aa2
  intro h30 t4 e_t4 Ua13 Aa2
  refine g_iload (pc' := 213) C at_211 rfl rfl ?_
  refine g_iconst (pc' := 214) (z := (4 : Int32)) C at_213 rfl rfl ?_
  suffices K_214 : ∀ (h32 : Heap) (t5 : Int), t5 = (if 4 < i1.toInt then stpI t4 (nar .char i7).toInt else t4) → UDS Z h32 a13 t5 (i1.toInt ≤ 0) → Ar Z h32 a2 .char [(.int (nar .char i3)), (.int (nar .char i4)), (.int (nar .char i5)), (.int (nar .char i6)), (.int (nar .char i7)), (.int (nar .char i8)), (.int (nar .char i9)), (.int (nar .char i10)), (.int (nar .char i11)), (.int (nar .char i12))] → Go W Q h32 2 13 226 #[.val (.int p0), .val (.int p1), .val (.int p2), .val (.int p3), .val (.int p4), .val (.int p5), .val (.int i1), .val (.ref a2), .val (.ref a13), .unset, .unset, .unset] [] by
    refine g_icmp (xi := i1.toInt) (yi := (4)) (pc1 := 226) (pc2 := 217) C at_214 (by decide) rfl rfl rfl rfl (fun (c214 : i1.toInt ≤ (4)) => ?_) (fun (c214 : ¬ (i1.toInt ≤ (4))) => ?_)
    ·
      exact K_214 h30 t4 (by rw [if_neg (by omega)]) (Ua13.cong rfl (by constructor <;> intro y <;> first | trivial | exact y | omega)) Aa2
    ·
      refine g_aload (pc' := 219) C at_217 rfl rfl rfl ?_
      refine g_aload (pc' := 221) C at_219 rfl rfl rfl ?_
      refine g_iconst (pc' := 222) (z := (4 : Int32)) C at_221 rfl rfl ?_
      refine g_caload (pc' := 223) (i := 4) C at_222 rfl Aa2 rfl rfl ?_
      refine g_virtual (y := (⟨"com/example/rankfold/rankfold/UnsignedDecimal", "append", "(C)V"⟩ : MethodName)) (a := a13) (pc' := 226) (k' := 2) (n' := 13) (S := []) (as := [(.int (nar .char i7))]) C at_223 rfl (hw _ (List.mem_of_getElem? (i := 25) rfl)) (hw _ (List.mem_of_getElem? (i := 27) rfl)) (hw _ (List.mem_of_getElem? (i := 8) rfl)) (hw _ (List.mem_of_getElem? (i := 29) rfl)) (hw _ (List.mem_of_getElem? (i := 26) rfl)) (hw _ (List.mem_of_getElem? (i := 28) rfl)) (by decide) Ua13.exa (lenOf pd_2 rfl) (con_append W.l Z a0 hw a13 t4 (i1.toInt ≤ 0) (nar .char i7) h30 Ua13) rfl rfl (Nat.le_of_ble_eq_true rfl) (Nat.le_of_ble_eq_true rfl) rfl rfl (Nat.le_of_ble_eq_true rfl) (Nat.le_of_ble_eq_true rfl) (allS w_a13 all0) fun vh33 h33 qh33 Kh33 => ?_
      obtain ⟨rfl, Ua13⟩ := qh33
      replace Aa2 := Aa2.keep Kh33 (ninS n_a2_a13 nin0)
      show Go W Q h33 2 13 226 #[.val (.int p0), .val (.int p1), .val (.int p2), .val (.int p3), .val (.int p4), .val (.int p5), .val (.int i1), .val (.ref a2), .val (.ref a13), .unset, .unset, .unset] []
      exact K_214 h33 _ (by rw [if_pos (by omega)]) (Ua13.cong rfl (by constructor <;> intro y <;> first | exact y.elim | omega)) Aa2
  intro h32 t5 e_t5 Ua13 Aa2
  refine g_iload (pc' := 228) C at_226 rfl rfl ?_
  refine g_iconst (pc' := 229) (z := (5 : Int32)) C at_228 rfl rfl ?_
  suffices K_229 : ∀ (h34 : Heap) (t6 : Int), t6 = (if 5 < i1.toInt then stpI t5 (nar .char i8).toInt else t5) → UDS Z h34 a13 t6 (i1.toInt ≤ 0) → Ar Z h34 a2 .char [(.int (nar .char i3)), (.int (nar .char i4)), (.int (nar .char i5)), (.int (nar .char i6)), (.int (nar .char i7)), (.int (nar .char i8)), (.int (nar .char i9)), (.int (nar .char i10)), (.int (nar .char i11)), (.int (nar .char i12))] → Go W Q h34 2 13 241 #[.val (.int p0), .val (.int p1), .val (.int p2), .val (.int p3), .val (.int p4), .val (.int p5), .val (.int i1), .val (.ref a2), .val (.ref a13), .unset, .unset, .unset] [] by
    refine g_icmp (xi := i1.toInt) (yi := (5)) (pc1 := 241) (pc2 := 232) C at_229 (by decide) rfl rfl rfl rfl (fun (c229 : i1.toInt ≤ (5)) => ?_) (fun (c229 : ¬ (i1.toInt ≤ (5))) => ?_)
    ·
      exact K_229 h32 t5 (by rw [if_neg (by omega)]) (Ua13.cong rfl (by constructor <;> intro y <;> first | trivial | exact y | omega)) Aa2
    ·
      refine g_aload (pc' := 234) C at_232 rfl rfl rfl ?_
      refine g_aload (pc' := 236) C at_234 rfl rfl rfl ?_
      refine g_iconst (pc' := 237) (z := (5 : Int32)) C at_236 rfl rfl ?_
      refine g_caload (pc' := 238) (i := 5) C at_237 rfl Aa2 rfl rfl ?_
      refine g_virtual (y := (⟨"com/example/rankfold/rankfold/UnsignedDecimal", "append", "(C)V"⟩ : MethodName)) (a := a13) (pc' := 241) (k' := 2) (n' := 13) (S := []) (as := [(.int (nar .char i8))]) C at_238 rfl (hw _ (List.mem_of_getElem? (i := 25) rfl)) (hw _ (List.mem_of_getElem? (i := 27) rfl)) (hw _ (List.mem_of_getElem? (i := 8) rfl)) (hw _ (List.mem_of_getElem? (i := 29) rfl)) (hw _ (List.mem_of_getElem? (i := 26) rfl)) (hw _ (List.mem_of_getElem? (i := 28) rfl)) (by decide) Ua13.exa (lenOf pd_2 rfl) (con_append W.l Z a0 hw a13 t5 (i1.toInt ≤ 0) (nar .char i8) h32 Ua13) rfl rfl (Nat.le_of_ble_eq_true rfl) (Nat.le_of_ble_eq_true rfl) rfl rfl (Nat.le_of_ble_eq_true rfl) (Nat.le_of_ble_eq_true rfl) (allS w_a13 all0) fun vh35 h35 qh35 Kh35 => ?_
      obtain ⟨rfl, Ua13⟩ := qh35
      replace Aa2 := Aa2.keep Kh35 (ninS n_a2_a13 nin0)
      show Go W Q h35 2 13 241 #[.val (.int p0), .val (.int p1), .val (.int p2), .val (.int p3), .val (.int p4), .val (.int p5), .val (.int i1), .val (.ref a2), .val (.ref a13), .unset, .unset, .unset] []
      exact K_229 h35 _ (by rw [if_pos (by omega)]) (Ua13.cong rfl (by constructor <;> intro y <;> first | exact y.elim | omega)) Aa2
  intro h34 t6 e_t6 Ua13 Aa2
  refine g_iload (pc' := 243) C at_241 rfl rfl ?_
  refine g_bipush (pc' := 245) (z := (6 : Int32)) C at_243 rfl rfl ?_
  suffices K_245 : ∀ (h36 : Heap) (t7 : Int), t7 = (if 6 < i1.toInt then stpI t6 (nar .char i9).toInt else t6) → UDS Z h36 a13 t7 (i1.toInt ≤ 0) → Ar Z h36 a2 .char [(.int (nar .char i3)), (.int (nar .char i4)), (.int (nar .char i5)), (.int (nar .char i6)), (.int (nar .char i7)), (.int (nar .char i8)), (.int (nar .char i9)), (.int (nar .char i10)), (.int (nar .char i11)), (.int (nar .char i12))] → Go W Q h36 2 13 258 #[.val (.int p0), .val (.int p1), .val (.int p2), .val (.int p3), .val (.int p4), .val (.int p5), .val (.int i1), .val (.ref a2), .val (.ref a13), .unset, .unset, .unset] [] by
    refine g_icmp (xi := i1.toInt) (yi := (6)) (pc1 := 258) (pc2 := 248) C at_245 (by decide) rfl rfl rfl rfl (fun (c245 : i1.toInt ≤ (6)) => ?_) (fun (c245 : ¬ (i1.toInt ≤ (6))) => ?_)
    ·
      exact K_245 h34 t6 (by rw [if_neg (by omega)]) (Ua13.cong rfl (by constructor <;> intro y <;> first | trivial | exact y | omega)) Aa2
    ·
      refine g_aload (pc' := 250) C at_248 rfl rfl rfl ?_
      refine g_aload (pc' := 252) C at_250 rfl rfl rfl ?_
      refine g_bipush (pc' := 254) (z := (6 : Int32)) C at_252 rfl rfl ?_
      refine g_caload (pc' := 255) (i := 6) C at_254 rfl Aa2 rfl rfl ?_
      refine g_virtual (y := (⟨"com/example/rankfold/rankfold/UnsignedDecimal", "append", "(C)V"⟩ : MethodName)) (a := a13) (pc' := 258) (k' := 2) (n' := 13) (S := []) (as := [(.int (nar .char i9))]) C at_255 rfl (hw _ (List.mem_of_getElem? (i := 25) rfl)) (hw _ (List.mem_of_getElem? (i := 27) rfl)) (hw _ (List.mem_of_getElem? (i := 8) rfl)) (hw _ (List.mem_of_getElem? (i := 29) rfl)) (hw _ (List.mem_of_getElem? (i := 26) rfl)) (hw _ (List.mem_of_getElem? (i := 28) rfl)) (by decide) Ua13.exa (lenOf pd_2 rfl) (con_append W.l Z a0 hw a13 t6 (i1.toInt ≤ 0) (nar .char i9) h34 Ua13) rfl rfl (Nat.le_of_ble_eq_true rfl) (Nat.le_of_ble_eq_true rfl) rfl rfl (Nat.le_of_ble_eq_true rfl) (Nat.le_of_ble_eq_true rfl) (allS w_a13 all0) fun vh37 h37 qh37 Kh37 => ?_
      obtain ⟨rfl, Ua13⟩ := qh37
      replace Aa2 := Aa2.keep Kh37 (ninS n_a2_a13 nin0)
      show Go W Q h37 2 13 258 #[.val (.int p0), .val (.int p1), .val (.int p2), .val (.int p3), .val (.int p4), .val (.int p5), .val (.int i1), .val (.ref a2), .val (.ref a13), .unset, .unset, .unset] []
      exact K_245 h37 _ (by rw [if_pos (by omega)]) (Ua13.cong rfl (by constructor <;> intro y <;> first | exact y.elim | omega)) Aa2
  intro h36 t7 e_t7 Ua13 Aa2
  refine g_iload (pc' := 260) C at_258 rfl rfl ?_
  refine g_bipush (pc' := 262) (z := (7 : Int32)) C at_260 rfl rfl ?_
  suffices K_262 : ∀ (h38 : Heap) (t8 : Int), t8 = (if 7 < i1.toInt then stpI t7 (nar .char i10).toInt else t7) → UDS Z h38 a13 t8 (i1.toInt ≤ 0) → Ar Z h38 a2 .char [(.int (nar .char i3)), (.int (nar .char i4)), (.int (nar .char i5)), (.int (nar .char i6)), (.int (nar .char i7)), (.int (nar .char i8)), (.int (nar .char i9)), (.int (nar .char i10)), (.int (nar .char i11)), (.int (nar .char i12))] → Go W Q h38 2 13 275 #[.val (.int p0), .val (.int p1), .val (.int p2), .val (.int p3), .val (.int p4), .val (.int p5), .val (.int i1), .val (.ref a2), .val (.ref a13), .unset, .unset, .unset] [] by
    refine g_icmp (xi := i1.toInt) (yi := (7)) (pc1 := 275) (pc2 := 265) C at_262 (by decide) rfl rfl rfl rfl (fun (c262 : i1.toInt ≤ (7)) => ?_) (fun (c262 : ¬ (i1.toInt ≤ (7))) => ?_)
    ·
      exact K_262 h36 t7 (by rw [if_neg (by omega)]) (Ua13.cong rfl (by constructor <;> intro y <;> first | trivial | exact y | omega)) Aa2
    ·
      refine g_aload (pc' := 267) C at_265 rfl rfl rfl ?_
      refine g_aload (pc' := 269) C at_267 rfl rfl rfl ?_
      refine g_bipush (pc' := 271) (z := (7 : Int32)) C at_269 rfl rfl ?_
      refine g_caload (pc' := 272) (i := 7) C at_271 rfl Aa2 rfl rfl ?_
      refine g_virtual (y := (⟨"com/example/rankfold/rankfold/UnsignedDecimal", "append", "(C)V"⟩ : MethodName)) (a := a13) (pc' := 275) (k' := 2) (n' := 13) (S := []) (as := [(.int (nar .char i10))]) C at_272 rfl (hw _ (List.mem_of_getElem? (i := 25) rfl)) (hw _ (List.mem_of_getElem? (i := 27) rfl)) (hw _ (List.mem_of_getElem? (i := 8) rfl)) (hw _ (List.mem_of_getElem? (i := 29) rfl)) (hw _ (List.mem_of_getElem? (i := 26) rfl)) (hw _ (List.mem_of_getElem? (i := 28) rfl)) (by decide) Ua13.exa (lenOf pd_2 rfl) (con_append W.l Z a0 hw a13 t7 (i1.toInt ≤ 0) (nar .char i10) h36 Ua13) rfl rfl (Nat.le_of_ble_eq_true rfl) (Nat.le_of_ble_eq_true rfl) rfl rfl (Nat.le_of_ble_eq_true rfl) (Nat.le_of_ble_eq_true rfl) (allS w_a13 all0) fun vh39 h39 qh39 Kh39 => ?_
      obtain ⟨rfl, Ua13⟩ := qh39
      replace Aa2 := Aa2.keep Kh39 (ninS n_a2_a13 nin0)
      show Go W Q h39 2 13 275 #[.val (.int p0), .val (.int p1), .val (.int p2), .val (.int p3), .val (.int p4), .val (.int p5), .val (.int i1), .val (.ref a2), .val (.ref a13), .unset, .unset, .unset] []
      exact K_262 h39 _ (by rw [if_pos (by omega)]) (Ua13.cong rfl (by constructor <;> intro y <;> first | exact y.elim | omega)) Aa2
  intro h38 t8 e_t8 Ua13 Aa2
  refine g_iload (pc' := 277) C at_275 rfl rfl ?_
  refine g_bipush (pc' := 279) (z := (8 : Int32)) C at_277 rfl rfl ?_
  suffices K_279 : ∀ (h40 : Heap) (t9 : Int), t9 = (if 8 < i1.toInt then stpI t8 (nar .char i11).toInt else t8) → UDS Z h40 a13 t9 (i1.toInt ≤ 0) → Ar Z h40 a2 .char [(.int (nar .char i3)), (.int (nar .char i4)), (.int (nar .char i5)), (.int (nar .char i6)), (.int (nar .char i7)), (.int (nar .char i8)), (.int (nar .char i9)), (.int (nar .char i10)), (.int (nar .char i11)), (.int (nar .char i12))] → Go W Q h40 2 13 292 #[.val (.int p0), .val (.int p1), .val (.int p2), .val (.int p3), .val (.int p4), .val (.int p5), .val (.int i1), .val (.ref a2), .val (.ref a13), .unset, .unset, .unset] [] by
    refine g_icmp (xi := i1.toInt) (yi := (8)) (pc1 := 292) (pc2 := 282) C at_279 (by decide) rfl rfl rfl rfl (fun (c279 : i1.toInt ≤ (8)) => ?_) (fun (c279 : ¬ (i1.toInt ≤ (8))) => ?_)
    ·
      exact K_279 h38 t8 (by rw [if_neg (by omega)]) (Ua13.cong rfl (by constructor <;> intro y <;> first | trivial | exact y | omega)) Aa2
    ·
      refine g_aload (pc' := 284) C at_282 rfl rfl rfl ?_
      refine g_aload (pc' := 286) C at_284 rfl rfl rfl ?_
      refine g_bipush (pc' := 288) (z := (8 : Int32)) C at_286 rfl rfl ?_
      refine g_caload (pc' := 289) (i := 8) C at_288 rfl Aa2 rfl rfl ?_
      refine g_virtual (y := (⟨"com/example/rankfold/rankfold/UnsignedDecimal", "append", "(C)V"⟩ : MethodName)) (a := a13) (pc' := 292) (k' := 2) (n' := 13) (S := []) (as := [(.int (nar .char i11))]) C at_289 rfl (hw _ (List.mem_of_getElem? (i := 25) rfl)) (hw _ (List.mem_of_getElem? (i := 27) rfl)) (hw _ (List.mem_of_getElem? (i := 8) rfl)) (hw _ (List.mem_of_getElem? (i := 29) rfl)) (hw _ (List.mem_of_getElem? (i := 26) rfl)) (hw _ (List.mem_of_getElem? (i := 28) rfl)) (by decide) Ua13.exa (lenOf pd_2 rfl) (con_append W.l Z a0 hw a13 t8 (i1.toInt ≤ 0) (nar .char i11) h38 Ua13) rfl rfl (Nat.le_of_ble_eq_true rfl) (Nat.le_of_ble_eq_true rfl) rfl rfl (Nat.le_of_ble_eq_true rfl) (Nat.le_of_ble_eq_true rfl) (allS w_a13 all0) fun vh41 h41 qh41 Kh41 => ?_
      obtain ⟨rfl, Ua13⟩ := qh41
      replace Aa2 := Aa2.keep Kh41 (ninS n_a2_a13 nin0)
      show Go W Q h41 2 13 292 #[.val (.int p0), .val (.int p1), .val (.int p2), .val (.int p3), .val (.int p4), .val (.int p5), .val (.int i1), .val (.ref a2), .val (.ref a13), .unset, .unset, .unset] []
      exact K_279 h41 _ (by rw [if_pos (by omega)]) (Ua13.cong rfl (by constructor <;> intro y <;> first | exact y.elim | omega)) Aa2
  intro h40 t9 e_t9 Ua13 Aa2
  refine g_iload (pc' := 294) C at_292 rfl rfl ?_
  refine g_bipush (pc' := 296) (z := (9 : Int32)) C at_294 rfl rfl ?_
  suffices K_296 : ∀ (h42 : Heap) (t10 : Int), t10 = (if 9 < i1.toInt then stpI t9 (nar .char i12).toInt else t9) → UDS Z h42 a13 t10 (i1.toInt ≤ 0) → Ar Z h42 a2 .char [(.int (nar .char i3)), (.int (nar .char i4)), (.int (nar .char i5)), (.int (nar .char i6)), (.int (nar .char i7)), (.int (nar .char i8)), (.int (nar .char i9)), (.int (nar .char i10)), (.int (nar .char i11)), (.int (nar .char i12))] → Go W Q h42 2 13 309 #[.val (.int p0), .val (.int p1), .val (.int p2), .val (.int p3), .val (.int p4), .val (.int p5), .val (.int i1), .val (.ref a2), .val (.ref a13), .unset, .unset, .unset] [] by
    refine g_icmp (xi := i1.toInt) (yi := (9)) (pc1 := 309) (pc2 := 299) C at_296 (by decide) rfl rfl rfl rfl (fun (c296 : i1.toInt ≤ (9)) => ?_) (fun (c296 : ¬ (i1.toInt ≤ (9))) => ?_)
    ·
      exact K_296 h40 t9 (by rw [if_neg (by omega)]) (Ua13.cong rfl (by constructor <;> intro y <;> first | trivial | exact y | omega)) Aa2
    ·
      refine g_aload (pc' := 301) C at_299 rfl rfl rfl ?_
      refine g_aload (pc' := 303) C at_301 rfl rfl rfl ?_
      refine g_bipush (pc' := 305) (z := (9 : Int32)) C at_303 rfl rfl ?_
      refine g_caload (pc' := 306) (i := 9) C at_305 rfl Aa2 rfl rfl ?_
      refine g_virtual (y := (⟨"com/example/rankfold/rankfold/UnsignedDecimal", "append", "(C)V"⟩ : MethodName)) (a := a13) (pc' := 309) (k' := 2) (n' := 13) (S := []) (as := [(.int (nar .char i12))]) C at_306 rfl (hw _ (List.mem_of_getElem? (i := 25) rfl)) (hw _ (List.mem_of_getElem? (i := 27) rfl)) (hw _ (List.mem_of_getElem? (i := 8) rfl)) (hw _ (List.mem_of_getElem? (i := 29) rfl)) (hw _ (List.mem_of_getElem? (i := 26) rfl)) (hw _ (List.mem_of_getElem? (i := 28) rfl)) (by decide) Ua13.exa (lenOf pd_2 rfl) (con_append W.l Z a0 hw a13 t9 (i1.toInt ≤ 0) (nar .char i12) h40 Ua13) rfl rfl (Nat.le_of_ble_eq_true rfl) (Nat.le_of_ble_eq_true rfl) rfl rfl (Nat.le_of_ble_eq_true rfl) (Nat.le_of_ble_eq_true rfl) (allS w_a13 all0) fun vh43 h43 qh43 Kh43 => ?_
      obtain ⟨rfl, Ua13⟩ := qh43
      replace Aa2 := Aa2.keep Kh43 (ninS n_a2_a13 nin0)
      show Go W Q h43 2 13 309 #[.val (.int p0), .val (.int p1), .val (.int p2), .val (.int p3), .val (.int p4), .val (.int p5), .val (.int i1), .val (.ref a2), .val (.ref a13), .unset, .unset, .unset] []
      exact K_296 h43 _ (by rw [if_pos (by omega)]) (Ua13.cong rfl (by constructor <;> intro y <;> first | exact y.elim | omega)) Aa2
  intro h42 t10 e_t10 Ua13 Aa2
  refine g_lconst (pc' := 310) (z := (0 : Int64)) C at_309 rfl rfl ?_
  refine g_lstore (pc' := 312) (L' := #[.val (.int p0), .val (.int p1), .val (.int p2), .val (.int p3), .val (.int p4), .val (.int p5), .val (.int i1), .val (.ref a2), .val (.ref a13), .val (.long (0 : Int64)), .second, .unset]) C at_310 rfl rfl ?_
  refine g_lload (pc' := 314) C at_312 rfl rfl ?_
  refine g_aload (pc' := 316) C at_314 rfl rfl rfl ?_
  refine g_iconst (pc' := 317) (z := (0 : Int32)) C at_316 rfl rfl ?_
  refine g_caload (pc' := 318) (i := 0) C at_317 rfl Aa2 rfl rfl ?_
  refine g_iload (pc' := 320) C at_318 rfl rfl ?_
  suffices K_320 : ∀ z14 : Int32, z14 = b2i (¬ (i1.toInt ≤ 0)) → Go W Q h42 2 13 328 #[.val (.int p0), .val (.int p1), .val (.int p2), .val (.int p3), .val (.int p4), .val (.int p5), .val (.int i1), .val (.ref a2), .val (.ref a13), .val (.long (0 : Int64)), .second, .unset] [(.int z14), (.int (nar .char i3)), (.long (0 : Int64))] by
    refine g_if (xi := i1.toInt) (pc1 := 327) (pc2 := 323) C at_320 (by decide) rfl rfl rfl (fun (c320 : i1.toInt ≤ 0) => ?_) (fun (c320 : ¬ (i1.toInt ≤ 0)) => ?_)
    ·
      refine g_iconst (pc' := 328) (z := (0 : Int32)) C at_327 rfl rfl ?_
      exact K_320 (0 : Int32) ((rfl : (0 : Int32) = b2i False).trans (b2i_iff (iff_false_intro (fun y => y c320)).symm))
    ·
      refine g_iconst (pc' := 324) (z := (1 : Int32)) C at_323 rfl rfl ?_
      refine g_goto C at_324 (by decide) (pc' := 328) rfl ?_
      exact K_320 (1 : Int32) ((rfl : (1 : Int32) = b2i True).trans (b2i_iff (iff_true_intro c320).symm))
  intro z14 e_z14
  have q_0 : (0 : Int64).toInt = 0 := rfl
  have b_0 : (0 : Int64).toInt ≤ 0 := by omega
  refine g_static (y := (⟨"com/example/rankfold/rankfold/UnsignedDecimalValuePinLaw", "step", "(JCZ)J"⟩ : MethodName)) (pc' := 331) (k' := 2) (n' := 13) (S := []) (as := [(.long (0 : Int64)), (.int (nar .char i3)), (.int z14)]) C at_328 rfl (hw _ (List.mem_of_getElem? (i := 17) rfl)) (hw _ (List.mem_of_getElem? (i := 18) rfl)) (hw _ (List.mem_of_getElem? (i := 3) rfl)) (hw _ (List.mem_of_getElem? (i := 19) rfl)) (by decide) (lenOf pd_3 rfl) (con_step W.l Z a0 hw (0 : Int64) (nar .char i3) z14 (¬ (i1.toInt ≤ 0)) e_z14 (by omega) h42) rfl rfl (Nat.le_of_ble_eq_true rfl) (Nat.le_of_ble_eq_true rfl) rfl rfl (Nat.le_of_ble_eq_true rfl) (Nat.le_of_ble_eq_true rfl) all0 fun vh44 h44 qh44 Kh44 => ?_
  obtain ⟨⟨j15, rfl, er_j15⟩, eh⟩ := qh44
  subst eh
  show Go W Q h42 2 13 331 #[.val (.int p0), .val (.int p1), .val (.int p2), .val (.int p3), .val (.int p4), .val (.int p5), .val (.int i1), .val (.ref a2), .val (.ref a13), .val (.long (0 : Int64)), .second, .unset] [(.long j15)]
  have q_1 : j15.toInt = t1 := by rw [er_j15, e_t1, q_0]; split <;> split <;> first | rfl | omega
  have b_1 : j15.toInt ≤ 9 := by rw [er_j15]; have y := stpI_le (c := (nar .char i3).toInt) b_0 (by decide); split <;> omega
  refine g_lstore (pc' := 333) (L' := #[.val (.int p0), .val (.int p1), .val (.int p2), .val (.int p3), .val (.int p4), .val (.int p5), .val (.int i1), .val (.ref a2), .val (.ref a13), .val (.long j15), .second, .unset]) C at_331 rfl rfl ?_
  refine g_lload (pc' := 335) C at_333 rfl rfl ?_
  refine g_aload (pc' := 337) C at_335 rfl rfl rfl ?_
  refine g_iconst (pc' := 338) (z := (1 : Int32)) C at_337 rfl rfl ?_
  refine g_caload (pc' := 339) (i := 1) C at_338 rfl Aa2 rfl rfl ?_
  refine g_iload (pc' := 341) C at_339 rfl rfl ?_
  refine g_iconst (pc' := 342) (z := (1 : Int32)) C at_341 rfl rfl ?_
  suffices K_342 : ∀ z16 : Int32, z16 = b2i (¬ (i1.toInt ≤ (1))) → Go W Q h42 2 13 350 #[.val (.int p0), .val (.int p1), .val (.int p2), .val (.int p3), .val (.int p4), .val (.int p5), .val (.int i1), .val (.ref a2), .val (.ref a13), .val (.long j15), .second, .unset] [(.int z16), (.int (nar .char i4)), (.long j15)] by
    refine g_icmp (xi := i1.toInt) (yi := (1)) (pc1 := 349) (pc2 := 345) C at_342 (by decide) rfl rfl rfl rfl (fun (c342 : i1.toInt ≤ (1)) => ?_) (fun (c342 : ¬ (i1.toInt ≤ (1))) => ?_)
    ·
      refine g_iconst (pc' := 350) (z := (0 : Int32)) C at_349 rfl rfl ?_
      exact K_342 (0 : Int32) ((rfl : (0 : Int32) = b2i False).trans (b2i_iff (iff_false_intro (fun y => y c342)).symm))
    ·
      refine g_iconst (pc' := 346) (z := (1 : Int32)) C at_345 rfl rfl ?_
      refine g_goto C at_346 (by decide) (pc' := 350) rfl ?_
      exact K_342 (1 : Int32) ((rfl : (1 : Int32) = b2i True).trans (b2i_iff (iff_true_intro c342).symm))
  intro z16 e_z16
  refine g_static (y := (⟨"com/example/rankfold/rankfold/UnsignedDecimalValuePinLaw", "step", "(JCZ)J"⟩ : MethodName)) (pc' := 353) (k' := 2) (n' := 13) (S := []) (as := [(.long j15), (.int (nar .char i4)), (.int z16)]) C at_350 rfl (hw _ (List.mem_of_getElem? (i := 17) rfl)) (hw _ (List.mem_of_getElem? (i := 18) rfl)) (hw _ (List.mem_of_getElem? (i := 3) rfl)) (hw _ (List.mem_of_getElem? (i := 19) rfl)) (by decide) (lenOf pd_3 rfl) (con_step W.l Z a0 hw j15 (nar .char i4) z16 (¬ (i1.toInt ≤ (1))) e_z16 (by omega) h42) rfl rfl (Nat.le_of_ble_eq_true rfl) (Nat.le_of_ble_eq_true rfl) rfl rfl (Nat.le_of_ble_eq_true rfl) (Nat.le_of_ble_eq_true rfl) all0 fun vh45 h45 qh45 Kh45 => ?_
  obtain ⟨⟨j17, rfl, er_j17⟩, eh⟩ := qh45
  subst eh
  show Go W Q h42 2 13 353 #[.val (.int p0), .val (.int p1), .val (.int p2), .val (.int p3), .val (.int p4), .val (.int p5), .val (.int i1), .val (.ref a2), .val (.ref a13), .val (.long j15), .second, .unset] [(.long j17)]
  have q_2 : j17.toInt = t2 := by rw [er_j17, e_t2, q_1]; split <;> split <;> first | rfl | omega
  have b_2 : j17.toInt ≤ 99 := by rw [er_j17]; have y := stpI_le (c := (nar .char i4).toInt) b_1 (by decide); split <;> omega
  refine g_lstore (pc' := 355) (L' := #[.val (.int p0), .val (.int p1), .val (.int p2), .val (.int p3), .val (.int p4), .val (.int p5), .val (.int i1), .val (.ref a2), .val (.ref a13), .val (.long j17), .second, .unset]) C at_353 rfl rfl ?_
  refine g_lload (pc' := 357) C at_355 rfl rfl ?_
  refine g_aload (pc' := 359) C at_357 rfl rfl rfl ?_
  refine g_iconst (pc' := 360) (z := (2 : Int32)) C at_359 rfl rfl ?_
  refine g_caload (pc' := 361) (i := 2) C at_360 rfl Aa2 rfl rfl ?_
  refine g_iload (pc' := 363) C at_361 rfl rfl ?_
  refine g_iconst (pc' := 364) (z := (2 : Int32)) C at_363 rfl rfl ?_
  suffices K_364 : ∀ z18 : Int32, z18 = b2i (¬ (i1.toInt ≤ (2))) → Go W Q h42 2 13 372 #[.val (.int p0), .val (.int p1), .val (.int p2), .val (.int p3), .val (.int p4), .val (.int p5), .val (.int i1), .val (.ref a2), .val (.ref a13), .val (.long j17), .second, .unset] [(.int z18), (.int (nar .char i5)), (.long j17)] by
    refine g_icmp (xi := i1.toInt) (yi := (2)) (pc1 := 371) (pc2 := 367) C at_364 (by decide) rfl rfl rfl rfl (fun (c364 : i1.toInt ≤ (2)) => ?_) (fun (c364 : ¬ (i1.toInt ≤ (2))) => ?_)
    ·
      refine g_iconst (pc' := 372) (z := (0 : Int32)) C at_371 rfl rfl ?_
      exact K_364 (0 : Int32) ((rfl : (0 : Int32) = b2i False).trans (b2i_iff (iff_false_intro (fun y => y c364)).symm))
    ·
      refine g_iconst (pc' := 368) (z := (1 : Int32)) C at_367 rfl rfl ?_
      refine g_goto C at_368 (by decide) (pc' := 372) rfl ?_
      exact K_364 (1 : Int32) ((rfl : (1 : Int32) = b2i True).trans (b2i_iff (iff_true_intro c364).symm))
  intro z18 e_z18
  refine g_static (y := (⟨"com/example/rankfold/rankfold/UnsignedDecimalValuePinLaw", "step", "(JCZ)J"⟩ : MethodName)) (pc' := 375) (k' := 2) (n' := 13) (S := []) (as := [(.long j17), (.int (nar .char i5)), (.int z18)]) C at_372 rfl (hw _ (List.mem_of_getElem? (i := 17) rfl)) (hw _ (List.mem_of_getElem? (i := 18) rfl)) (hw _ (List.mem_of_getElem? (i := 3) rfl)) (hw _ (List.mem_of_getElem? (i := 19) rfl)) (by decide) (lenOf pd_3 rfl) (con_step W.l Z a0 hw j17 (nar .char i5) z18 (¬ (i1.toInt ≤ (2))) e_z18 (by omega) h42) rfl rfl (Nat.le_of_ble_eq_true rfl) (Nat.le_of_ble_eq_true rfl) rfl rfl (Nat.le_of_ble_eq_true rfl) (Nat.le_of_ble_eq_true rfl) all0 fun vh46 h46 qh46 Kh46 => ?_
  obtain ⟨⟨j19, rfl, er_j19⟩, eh⟩ := qh46
  subst eh
  show Go W Q h42 2 13 375 #[.val (.int p0), .val (.int p1), .val (.int p2), .val (.int p3), .val (.int p4), .val (.int p5), .val (.int i1), .val (.ref a2), .val (.ref a13), .val (.long j17), .second, .unset] [(.long j19)]
  have q_3 : j19.toInt = t3 := by rw [er_j19, e_t3, q_2]; split <;> split <;> first | rfl | omega
  have b_3 : j19.toInt ≤ 999 := by rw [er_j19]; have y := stpI_le (c := (nar .char i5).toInt) b_2 (by decide); split <;> omega
  refine g_lstore (pc' := 377) (L' := #[.val (.int p0), .val (.int p1), .val (.int p2), .val (.int p3), .val (.int p4), .val (.int p5), .val (.int i1), .val (.ref a2), .val (.ref a13), .val (.long j19), .second, .unset]) C at_375 rfl rfl ?_
  refine g_lload (pc' := 379) C at_377 rfl rfl ?_
  refine g_aload (pc' := 381) C at_379 rfl rfl rfl ?_
  refine g_iconst (pc' := 382) (z := (3 : Int32)) C at_381 rfl rfl ?_
  refine g_caload (pc' := 383) (i := 3) C at_382 rfl Aa2 rfl rfl ?_
  refine g_iload (pc' := 385) C at_383 rfl rfl ?_
  refine g_iconst (pc' := 386) (z := (3 : Int32)) C at_385 rfl rfl ?_
  suffices K_386 : ∀ z20 : Int32, z20 = b2i (¬ (i1.toInt ≤ (3))) → Go W Q h42 2 13 394 #[.val (.int p0), .val (.int p1), .val (.int p2), .val (.int p3), .val (.int p4), .val (.int p5), .val (.int i1), .val (.ref a2), .val (.ref a13), .val (.long j19), .second, .unset] [(.int z20), (.int (nar .char i6)), (.long j19)] by
    refine g_icmp (xi := i1.toInt) (yi := (3)) (pc1 := 393) (pc2 := 389) C at_386 (by decide) rfl rfl rfl rfl (fun (c386 : i1.toInt ≤ (3)) => ?_) (fun (c386 : ¬ (i1.toInt ≤ (3))) => ?_)
    ·
      refine g_iconst (pc' := 394) (z := (0 : Int32)) C at_393 rfl rfl ?_
      exact K_386 (0 : Int32) ((rfl : (0 : Int32) = b2i False).trans (b2i_iff (iff_false_intro (fun y => y c386)).symm))
    ·
      refine g_iconst (pc' := 390) (z := (1 : Int32)) C at_389 rfl rfl ?_
      refine g_goto C at_390 (by decide) (pc' := 394) rfl ?_
      exact K_386 (1 : Int32) ((rfl : (1 : Int32) = b2i True).trans (b2i_iff (iff_true_intro c386).symm))
  intro z20 e_z20
  refine g_static (y := (⟨"com/example/rankfold/rankfold/UnsignedDecimalValuePinLaw", "step", "(JCZ)J"⟩ : MethodName)) (pc' := 397) (k' := 2) (n' := 13) (S := []) (as := [(.long j19), (.int (nar .char i6)), (.int z20)]) C at_394 rfl (hw _ (List.mem_of_getElem? (i := 17) rfl)) (hw _ (List.mem_of_getElem? (i := 18) rfl)) (hw _ (List.mem_of_getElem? (i := 3) rfl)) (hw _ (List.mem_of_getElem? (i := 19) rfl)) (by decide) (lenOf pd_3 rfl) (con_step W.l Z a0 hw j19 (nar .char i6) z20 (¬ (i1.toInt ≤ (3))) e_z20 (by omega) h42) rfl rfl (Nat.le_of_ble_eq_true rfl) (Nat.le_of_ble_eq_true rfl) rfl rfl (Nat.le_of_ble_eq_true rfl) (Nat.le_of_ble_eq_true rfl) all0 fun vh47 h47 qh47 Kh47 => ?_
  obtain ⟨⟨j21, rfl, er_j21⟩, eh⟩ := qh47
  subst eh
  show Go W Q h42 2 13 397 #[.val (.int p0), .val (.int p1), .val (.int p2), .val (.int p3), .val (.int p4), .val (.int p5), .val (.int i1), .val (.ref a2), .val (.ref a13), .val (.long j19), .second, .unset] [(.long j21)]
  have q_4 : j21.toInt = t4 := by rw [er_j21, e_t4, q_3]; split <;> split <;> first | rfl | omega
  have b_4 : j21.toInt ≤ 9999 := by rw [er_j21]; have y := stpI_le (c := (nar .char i6).toInt) b_3 (by decide); split <;> omega
  refine g_lstore (pc' := 399) (L' := #[.val (.int p0), .val (.int p1), .val (.int p2), .val (.int p3), .val (.int p4), .val (.int p5), .val (.int i1), .val (.ref a2), .val (.ref a13), .val (.long j21), .second, .unset]) C at_397 rfl rfl ?_
  refine g_lload (pc' := 401) C at_399 rfl rfl ?_
  refine g_aload (pc' := 403) C at_401 rfl rfl rfl ?_
  refine g_iconst (pc' := 404) (z := (4 : Int32)) C at_403 rfl rfl ?_
  refine g_caload (pc' := 405) (i := 4) C at_404 rfl Aa2 rfl rfl ?_
  refine g_iload (pc' := 407) C at_405 rfl rfl ?_
  refine g_iconst (pc' := 408) (z := (4 : Int32)) C at_407 rfl rfl ?_
  suffices K_408 : ∀ z22 : Int32, z22 = b2i (¬ (i1.toInt ≤ (4))) → Go W Q h42 2 13 416 #[.val (.int p0), .val (.int p1), .val (.int p2), .val (.int p3), .val (.int p4), .val (.int p5), .val (.int i1), .val (.ref a2), .val (.ref a13), .val (.long j21), .second, .unset] [(.int z22), (.int (nar .char i7)), (.long j21)] by
    refine g_icmp (xi := i1.toInt) (yi := (4)) (pc1 := 415) (pc2 := 411) C at_408 (by decide) rfl rfl rfl rfl (fun (c408 : i1.toInt ≤ (4)) => ?_) (fun (c408 : ¬ (i1.toInt ≤ (4))) => ?_)
    ·
      refine g_iconst (pc' := 416) (z := (0 : Int32)) C at_415 rfl rfl ?_
      exact K_408 (0 : Int32) ((rfl : (0 : Int32) = b2i False).trans (b2i_iff (iff_false_intro (fun y => y c408)).symm))
    ·
      refine g_iconst (pc' := 412) (z := (1 : Int32)) C at_411 rfl rfl ?_
      refine g_goto C at_412 (by decide) (pc' := 416) rfl ?_
      exact K_408 (1 : Int32) ((rfl : (1 : Int32) = b2i True).trans (b2i_iff (iff_true_intro c408).symm))
  intro z22 e_z22
  refine g_static (y := (⟨"com/example/rankfold/rankfold/UnsignedDecimalValuePinLaw", "step", "(JCZ)J"⟩ : MethodName)) (pc' := 419) (k' := 2) (n' := 13) (S := []) (as := [(.long j21), (.int (nar .char i7)), (.int z22)]) C at_416 rfl (hw _ (List.mem_of_getElem? (i := 17) rfl)) (hw _ (List.mem_of_getElem? (i := 18) rfl)) (hw _ (List.mem_of_getElem? (i := 3) rfl)) (hw _ (List.mem_of_getElem? (i := 19) rfl)) (by decide) (lenOf pd_3 rfl) (con_step W.l Z a0 hw j21 (nar .char i7) z22 (¬ (i1.toInt ≤ (4))) e_z22 (by omega) h42) rfl rfl (Nat.le_of_ble_eq_true rfl) (Nat.le_of_ble_eq_true rfl) rfl rfl (Nat.le_of_ble_eq_true rfl) (Nat.le_of_ble_eq_true rfl) all0 fun vh48 h48 qh48 Kh48 => ?_
  obtain ⟨⟨j23, rfl, er_j23⟩, eh⟩ := qh48
  subst eh
  show Go W Q h42 2 13 419 #[.val (.int p0), .val (.int p1), .val (.int p2), .val (.int p3), .val (.int p4), .val (.int p5), .val (.int i1), .val (.ref a2), .val (.ref a13), .val (.long j21), .second, .unset] [(.long j23)]
  have q_5 : j23.toInt = t5 := by rw [er_j23, e_t5, q_4]; split <;> split <;> first | rfl | omega
  have b_5 : j23.toInt ≤ 99999 := by rw [er_j23]; have y := stpI_le (c := (nar .char i7).toInt) b_4 (by decide); split <;> omega
  refine g_lstore (pc' := 421) (L' := #[.val (.int p0), .val (.int p1), .val (.int p2), .val (.int p3), .val (.int p4), .val (.int p5), .val (.int i1), .val (.ref a2), .val (.ref a13), .val (.long j23), .second, .unset]) C at_419 rfl rfl ?_
  refine g_lload (pc' := 423) C at_421 rfl rfl ?_
  refine g_aload (pc' := 425) C at_423 rfl rfl rfl ?_
  refine g_iconst (pc' := 426) (z := (5 : Int32)) C at_425 rfl rfl ?_
  refine g_caload (pc' := 427) (i := 5) C at_426 rfl Aa2 rfl rfl ?_
  refine g_iload (pc' := 429) C at_427 rfl rfl ?_
  refine g_iconst (pc' := 430) (z := (5 : Int32)) C at_429 rfl rfl ?_
  suffices K_430 : ∀ z24 : Int32, z24 = b2i (¬ (i1.toInt ≤ (5))) → Go W Q h42 2 13 438 #[.val (.int p0), .val (.int p1), .val (.int p2), .val (.int p3), .val (.int p4), .val (.int p5), .val (.int i1), .val (.ref a2), .val (.ref a13), .val (.long j23), .second, .unset] [(.int z24), (.int (nar .char i8)), (.long j23)] by
    refine g_icmp (xi := i1.toInt) (yi := (5)) (pc1 := 437) (pc2 := 433) C at_430 (by decide) rfl rfl rfl rfl (fun (c430 : i1.toInt ≤ (5)) => ?_) (fun (c430 : ¬ (i1.toInt ≤ (5))) => ?_)
    ·
      refine g_iconst (pc' := 438) (z := (0 : Int32)) C at_437 rfl rfl ?_
      exact K_430 (0 : Int32) ((rfl : (0 : Int32) = b2i False).trans (b2i_iff (iff_false_intro (fun y => y c430)).symm))
    ·
      refine g_iconst (pc' := 434) (z := (1 : Int32)) C at_433 rfl rfl ?_
      refine g_goto C at_434 (by decide) (pc' := 438) rfl ?_
      exact K_430 (1 : Int32) ((rfl : (1 : Int32) = b2i True).trans (b2i_iff (iff_true_intro c430).symm))
  intro z24 e_z24
  refine g_static (y := (⟨"com/example/rankfold/rankfold/UnsignedDecimalValuePinLaw", "step", "(JCZ)J"⟩ : MethodName)) (pc' := 441) (k' := 2) (n' := 13) (S := []) (as := [(.long j23), (.int (nar .char i8)), (.int z24)]) C at_438 rfl (hw _ (List.mem_of_getElem? (i := 17) rfl)) (hw _ (List.mem_of_getElem? (i := 18) rfl)) (hw _ (List.mem_of_getElem? (i := 3) rfl)) (hw _ (List.mem_of_getElem? (i := 19) rfl)) (by decide) (lenOf pd_3 rfl) (con_step W.l Z a0 hw j23 (nar .char i8) z24 (¬ (i1.toInt ≤ (5))) e_z24 (by omega) h42) rfl rfl (Nat.le_of_ble_eq_true rfl) (Nat.le_of_ble_eq_true rfl) rfl rfl (Nat.le_of_ble_eq_true rfl) (Nat.le_of_ble_eq_true rfl) all0 fun vh49 h49 qh49 Kh49 => ?_
  obtain ⟨⟨j25, rfl, er_j25⟩, eh⟩ := qh49
  subst eh
  show Go W Q h42 2 13 441 #[.val (.int p0), .val (.int p1), .val (.int p2), .val (.int p3), .val (.int p4), .val (.int p5), .val (.int i1), .val (.ref a2), .val (.ref a13), .val (.long j23), .second, .unset] [(.long j25)]
  have q_6 : j25.toInt = t6 := by rw [er_j25, e_t6, q_5]; split <;> split <;> first | rfl | omega
  have b_6 : j25.toInt ≤ 999999 := by rw [er_j25]; have y := stpI_le (c := (nar .char i8).toInt) b_5 (by decide); split <;> omega
  refine g_lstore (pc' := 443) (L' := #[.val (.int p0), .val (.int p1), .val (.int p2), .val (.int p3), .val (.int p4), .val (.int p5), .val (.int i1), .val (.ref a2), .val (.ref a13), .val (.long j25), .second, .unset]) C at_441 rfl rfl ?_
  refine g_lload (pc' := 445) C at_443 rfl rfl ?_
  refine g_aload (pc' := 447) C at_445 rfl rfl rfl ?_
  refine g_bipush (pc' := 449) (z := (6 : Int32)) C at_447 rfl rfl ?_
  refine g_caload (pc' := 450) (i := 6) C at_449 rfl Aa2 rfl rfl ?_
  refine g_iload (pc' := 452) C at_450 rfl rfl ?_
  refine g_bipush (pc' := 454) (z := (6 : Int32)) C at_452 rfl rfl ?_
  suffices K_454 : ∀ z26 : Int32, z26 = b2i (¬ (i1.toInt ≤ (6))) → Go W Q h42 2 13 462 #[.val (.int p0), .val (.int p1), .val (.int p2), .val (.int p3), .val (.int p4), .val (.int p5), .val (.int i1), .val (.ref a2), .val (.ref a13), .val (.long j25), .second, .unset] [(.int z26), (.int (nar .char i9)), (.long j25)] by
    refine g_icmp (xi := i1.toInt) (yi := (6)) (pc1 := 461) (pc2 := 457) C at_454 (by decide) rfl rfl rfl rfl (fun (c454 : i1.toInt ≤ (6)) => ?_) (fun (c454 : ¬ (i1.toInt ≤ (6))) => ?_)
    ·
      refine g_iconst (pc' := 462) (z := (0 : Int32)) C at_461 rfl rfl ?_
      exact K_454 (0 : Int32) ((rfl : (0 : Int32) = b2i False).trans (b2i_iff (iff_false_intro (fun y => y c454)).symm))
    ·
      refine g_iconst (pc' := 458) (z := (1 : Int32)) C at_457 rfl rfl ?_
      refine g_goto C at_458 (by decide) (pc' := 462) rfl ?_
      exact K_454 (1 : Int32) ((rfl : (1 : Int32) = b2i True).trans (b2i_iff (iff_true_intro c454).symm))
  intro z26 e_z26
  refine g_static (y := (⟨"com/example/rankfold/rankfold/UnsignedDecimalValuePinLaw", "step", "(JCZ)J"⟩ : MethodName)) (pc' := 465) (k' := 2) (n' := 13) (S := []) (as := [(.long j25), (.int (nar .char i9)), (.int z26)]) C at_462 rfl (hw _ (List.mem_of_getElem? (i := 17) rfl)) (hw _ (List.mem_of_getElem? (i := 18) rfl)) (hw _ (List.mem_of_getElem? (i := 3) rfl)) (hw _ (List.mem_of_getElem? (i := 19) rfl)) (by decide) (lenOf pd_3 rfl) (con_step W.l Z a0 hw j25 (nar .char i9) z26 (¬ (i1.toInt ≤ (6))) e_z26 (by omega) h42) rfl rfl (Nat.le_of_ble_eq_true rfl) (Nat.le_of_ble_eq_true rfl) rfl rfl (Nat.le_of_ble_eq_true rfl) (Nat.le_of_ble_eq_true rfl) all0 fun vh50 h50 qh50 Kh50 => ?_
  obtain ⟨⟨j27, rfl, er_j27⟩, eh⟩ := qh50
  subst eh
  show Go W Q h42 2 13 465 #[.val (.int p0), .val (.int p1), .val (.int p2), .val (.int p3), .val (.int p4), .val (.int p5), .val (.int i1), .val (.ref a2), .val (.ref a13), .val (.long j25), .second, .unset] [(.long j27)]
  have q_7 : j27.toInt = t7 := by rw [er_j27, e_t7, q_6]; split <;> split <;> first | rfl | omega
  have b_7 : j27.toInt ≤ 9999999 := by rw [er_j27]; have y := stpI_le (c := (nar .char i9).toInt) b_6 (by decide); split <;> omega
  refine g_lstore (pc' := 467) (L' := #[.val (.int p0), .val (.int p1), .val (.int p2), .val (.int p3), .val (.int p4), .val (.int p5), .val (.int i1), .val (.ref a2), .val (.ref a13), .val (.long j27), .second, .unset]) C at_465 rfl rfl ?_
  refine g_lload (pc' := 469) C at_467 rfl rfl ?_
  refine g_aload (pc' := 471) C at_469 rfl rfl rfl ?_
  refine g_bipush (pc' := 473) (z := (7 : Int32)) C at_471 rfl rfl ?_
  refine g_caload (pc' := 474) (i := 7) C at_473 rfl Aa2 rfl rfl ?_
  refine g_iload (pc' := 476) C at_474 rfl rfl ?_
  refine g_bipush (pc' := 478) (z := (7 : Int32)) C at_476 rfl rfl ?_
  suffices K_478 : ∀ z28 : Int32, z28 = b2i (¬ (i1.toInt ≤ (7))) → Go W Q h42 2 13 486 #[.val (.int p0), .val (.int p1), .val (.int p2), .val (.int p3), .val (.int p4), .val (.int p5), .val (.int i1), .val (.ref a2), .val (.ref a13), .val (.long j27), .second, .unset] [(.int z28), (.int (nar .char i10)), (.long j27)] by
    refine g_icmp (xi := i1.toInt) (yi := (7)) (pc1 := 485) (pc2 := 481) C at_478 (by decide) rfl rfl rfl rfl (fun (c478 : i1.toInt ≤ (7)) => ?_) (fun (c478 : ¬ (i1.toInt ≤ (7))) => ?_)
    ·
      refine g_iconst (pc' := 486) (z := (0 : Int32)) C at_485 rfl rfl ?_
      exact K_478 (0 : Int32) ((rfl : (0 : Int32) = b2i False).trans (b2i_iff (iff_false_intro (fun y => y c478)).symm))
    ·
      refine g_iconst (pc' := 482) (z := (1 : Int32)) C at_481 rfl rfl ?_
      refine g_goto C at_482 (by decide) (pc' := 486) rfl ?_
      exact K_478 (1 : Int32) ((rfl : (1 : Int32) = b2i True).trans (b2i_iff (iff_true_intro c478).symm))
  intro z28 e_z28
  refine g_static (y := (⟨"com/example/rankfold/rankfold/UnsignedDecimalValuePinLaw", "step", "(JCZ)J"⟩ : MethodName)) (pc' := 489) (k' := 2) (n' := 13) (S := []) (as := [(.long j27), (.int (nar .char i10)), (.int z28)]) C at_486 rfl (hw _ (List.mem_of_getElem? (i := 17) rfl)) (hw _ (List.mem_of_getElem? (i := 18) rfl)) (hw _ (List.mem_of_getElem? (i := 3) rfl)) (hw _ (List.mem_of_getElem? (i := 19) rfl)) (by decide) (lenOf pd_3 rfl) (con_step W.l Z a0 hw j27 (nar .char i10) z28 (¬ (i1.toInt ≤ (7))) e_z28 (by omega) h42) rfl rfl (Nat.le_of_ble_eq_true rfl) (Nat.le_of_ble_eq_true rfl) rfl rfl (Nat.le_of_ble_eq_true rfl) (Nat.le_of_ble_eq_true rfl) all0 fun vh51 h51 qh51 Kh51 => ?_
  obtain ⟨⟨j29, rfl, er_j29⟩, eh⟩ := qh51
  subst eh
  show Go W Q h42 2 13 489 #[.val (.int p0), .val (.int p1), .val (.int p2), .val (.int p3), .val (.int p4), .val (.int p5), .val (.int i1), .val (.ref a2), .val (.ref a13), .val (.long j27), .second, .unset] [(.long j29)]
  have q_8 : j29.toInt = t8 := by rw [er_j29, e_t8, q_7]; split <;> split <;> first | rfl | omega
  have b_8 : j29.toInt ≤ 99999999 := by rw [er_j29]; have y := stpI_le (c := (nar .char i10).toInt) b_7 (by decide); split <;> omega
  refine g_lstore (pc' := 491) (L' := #[.val (.int p0), .val (.int p1), .val (.int p2), .val (.int p3), .val (.int p4), .val (.int p5), .val (.int i1), .val (.ref a2), .val (.ref a13), .val (.long j29), .second, .unset]) C at_489 rfl rfl ?_
  refine g_lload (pc' := 493) C at_491 rfl rfl ?_
  refine g_aload (pc' := 495) C at_493 rfl rfl rfl ?_
  refine g_bipush (pc' := 497) (z := (8 : Int32)) C at_495 rfl rfl ?_
  refine g_caload (pc' := 498) (i := 8) C at_497 rfl Aa2 rfl rfl ?_
  refine g_iload (pc' := 500) C at_498 rfl rfl ?_
  refine g_bipush (pc' := 502) (z := (8 : Int32)) C at_500 rfl rfl ?_
  suffices K_502 : ∀ z30 : Int32, z30 = b2i (¬ (i1.toInt ≤ (8))) → Go W Q h42 2 13 510 #[.val (.int p0), .val (.int p1), .val (.int p2), .val (.int p3), .val (.int p4), .val (.int p5), .val (.int i1), .val (.ref a2), .val (.ref a13), .val (.long j29), .second, .unset] [(.int z30), (.int (nar .char i11)), (.long j29)] by
    refine g_icmp (xi := i1.toInt) (yi := (8)) (pc1 := 509) (pc2 := 505) C at_502 (by decide) rfl rfl rfl rfl (fun (c502 : i1.toInt ≤ (8)) => ?_) (fun (c502 : ¬ (i1.toInt ≤ (8))) => ?_)
    ·
      refine g_iconst (pc' := 510) (z := (0 : Int32)) C at_509 rfl rfl ?_
      exact K_502 (0 : Int32) ((rfl : (0 : Int32) = b2i False).trans (b2i_iff (iff_false_intro (fun y => y c502)).symm))
    ·
      refine g_iconst (pc' := 506) (z := (1 : Int32)) C at_505 rfl rfl ?_
      refine g_goto C at_506 (by decide) (pc' := 510) rfl ?_
      exact K_502 (1 : Int32) ((rfl : (1 : Int32) = b2i True).trans (b2i_iff (iff_true_intro c502).symm))
  intro z30 e_z30
  refine g_static (y := (⟨"com/example/rankfold/rankfold/UnsignedDecimalValuePinLaw", "step", "(JCZ)J"⟩ : MethodName)) (pc' := 513) (k' := 2) (n' := 13) (S := []) (as := [(.long j29), (.int (nar .char i11)), (.int z30)]) C at_510 rfl (hw _ (List.mem_of_getElem? (i := 17) rfl)) (hw _ (List.mem_of_getElem? (i := 18) rfl)) (hw _ (List.mem_of_getElem? (i := 3) rfl)) (hw _ (List.mem_of_getElem? (i := 19) rfl)) (by decide) (lenOf pd_3 rfl) (con_step W.l Z a0 hw j29 (nar .char i11) z30 (¬ (i1.toInt ≤ (8))) e_z30 (by omega) h42) rfl rfl (Nat.le_of_ble_eq_true rfl) (Nat.le_of_ble_eq_true rfl) rfl rfl (Nat.le_of_ble_eq_true rfl) (Nat.le_of_ble_eq_true rfl) all0 fun vh52 h52 qh52 Kh52 => ?_
  obtain ⟨⟨j31, rfl, er_j31⟩, eh⟩ := qh52
  subst eh
  show Go W Q h42 2 13 513 #[.val (.int p0), .val (.int p1), .val (.int p2), .val (.int p3), .val (.int p4), .val (.int p5), .val (.int i1), .val (.ref a2), .val (.ref a13), .val (.long j29), .second, .unset] [(.long j31)]
  have q_9 : j31.toInt = t9 := by rw [er_j31, e_t9, q_8]; split <;> split <;> first | rfl | omega
  have b_9 : j31.toInt ≤ 999999999 := by rw [er_j31]; have y := stpI_le (c := (nar .char i11).toInt) b_8 (by decide); split <;> omega
  refine g_lstore (pc' := 515) (L' := #[.val (.int p0), .val (.int p1), .val (.int p2), .val (.int p3), .val (.int p4), .val (.int p5), .val (.int i1), .val (.ref a2), .val (.ref a13), .val (.long j31), .second, .unset]) C at_513 rfl rfl ?_
  refine g_lload (pc' := 517) C at_515 rfl rfl ?_
  refine g_aload (pc' := 519) C at_517 rfl rfl rfl ?_
  refine g_bipush (pc' := 521) (z := (9 : Int32)) C at_519 rfl rfl ?_
  refine g_caload (pc' := 522) (i := 9) C at_521 rfl Aa2 rfl rfl ?_
  refine g_iload (pc' := 524) C at_522 rfl rfl ?_
  refine g_bipush (pc' := 526) (z := (9 : Int32)) C at_524 rfl rfl ?_
  suffices K_526 : ∀ z32 : Int32, z32 = b2i (¬ (i1.toInt ≤ (9))) → Go W Q h42 2 13 534 #[.val (.int p0), .val (.int p1), .val (.int p2), .val (.int p3), .val (.int p4), .val (.int p5), .val (.int i1), .val (.ref a2), .val (.ref a13), .val (.long j31), .second, .unset] [(.int z32), (.int (nar .char i12)), (.long j31)] by
    refine g_icmp (xi := i1.toInt) (yi := (9)) (pc1 := 533) (pc2 := 529) C at_526 (by decide) rfl rfl rfl rfl (fun (c526 : i1.toInt ≤ (9)) => ?_) (fun (c526 : ¬ (i1.toInt ≤ (9))) => ?_)
    ·
      refine g_iconst (pc' := 534) (z := (0 : Int32)) C at_533 rfl rfl ?_
      exact K_526 (0 : Int32) ((rfl : (0 : Int32) = b2i False).trans (b2i_iff (iff_false_intro (fun y => y c526)).symm))
    ·
      refine g_iconst (pc' := 530) (z := (1 : Int32)) C at_529 rfl rfl ?_
      refine g_goto C at_530 (by decide) (pc' := 534) rfl ?_
      exact K_526 (1 : Int32) ((rfl : (1 : Int32) = b2i True).trans (b2i_iff (iff_true_intro c526).symm))
  intro z32 e_z32
  refine g_static (y := (⟨"com/example/rankfold/rankfold/UnsignedDecimalValuePinLaw", "step", "(JCZ)J"⟩ : MethodName)) (pc' := 537) (k' := 2) (n' := 13) (S := []) (as := [(.long j31), (.int (nar .char i12)), (.int z32)]) C at_534 rfl (hw _ (List.mem_of_getElem? (i := 17) rfl)) (hw _ (List.mem_of_getElem? (i := 18) rfl)) (hw _ (List.mem_of_getElem? (i := 3) rfl)) (hw _ (List.mem_of_getElem? (i := 19) rfl)) (by decide) (lenOf pd_3 rfl) (con_step W.l Z a0 hw j31 (nar .char i12) z32 (¬ (i1.toInt ≤ (9))) e_z32 (by omega) h42) rfl rfl (Nat.le_of_ble_eq_true rfl) (Nat.le_of_ble_eq_true rfl) rfl rfl (Nat.le_of_ble_eq_true rfl) (Nat.le_of_ble_eq_true rfl) all0 fun vh53 h53 qh53 Kh53 => ?_
  obtain ⟨⟨j33, rfl, er_j33⟩, eh⟩ := qh53
  subst eh
  show Go W Q h42 2 13 537 #[.val (.int p0), .val (.int p1), .val (.int p2), .val (.int p3), .val (.int p4), .val (.int p5), .val (.int i1), .val (.ref a2), .val (.ref a13), .val (.long j31), .second, .unset] [(.long j33)]
  have q_10 : j33.toInt = t10 := by rw [er_j33, e_t10, q_9]; split <;> split <;> first | rfl | omega
  have b_10 : j33.toInt ≤ 9999999999 := by rw [er_j33]; have y := stpI_le (c := (nar .char i12).toInt) b_9 (by decide); split <;> omega
  refine g_lstore (pc' := 539) (L' := #[.val (.int p0), .val (.int p1), .val (.int p2), .val (.int p3), .val (.int p4), .val (.int p5), .val (.int i1), .val (.ref a2), .val (.ref a13), .val (.long j33), .second, .unset]) C at_537 rfl rfl ?_
  refine g_iload (pc' := 541) C at_539 rfl rfl ?_
  suffices K_541 : ∀ i34 : Int32, i34 = (if i1.toInt = 0 then (-1 : Int32) else (if j33.toInt < (0) then (-1 : Int32) else (if j33.toInt ≤ (2147483647) then (j33.toInt32) else (-1 : Int32)))) → Go W Q h42 2 13 567 #[.val (.int p0), .val (.int p1), .val (.int p2), .val (.int p3), .val (.int p4), .val (.int p5), .val (.int i1), .val (.ref a2), .val (.ref a13), .val (.long j33), .second, .unset] [(.int i34)] by
    refine g_if (xi := i1.toInt) (pc1 := 560) (pc2 := 544) C at_541 (by decide) rfl rfl rfl (fun (c541 : i1.toInt = 0) => ?_) (fun (c541 : ¬ (i1.toInt = 0)) => ?_)
    ·
      refine g_iconst (pc' := 561) (z := (-1 : Int32)) C at_560 rfl rfl ?_
      refine g_goto C at_561 (by decide) (pc' := 567) rfl ?_
      exact K_541 (-1 : Int32) ((if_pos c541).symm)
    ·
      refine g_lload (pc' := 546) C at_544 rfl rfl ?_
      refine g_lconst (pc' := 547) (z := (0 : Int64)) C at_546 rfl rfl ?_
      refine g_lcmp (cd := .lt) (xi := j33.toInt) (yi := (0)) (pc' := 548) (pc1 := 560) (pc2 := 551) C at_547 at_548 rfl (by decide) rfl rfl rfl rfl (fun (c547 : j33.toInt < (0)) => ?_) (fun (c547 : ¬ (j33.toInt < (0))) => ?_)
      ·
        refine g_iconst (pc' := 561) (z := (-1 : Int32)) C at_560 rfl rfl ?_
        refine g_goto C at_561 (by decide) (pc' := 567) rfl ?_
        exact K_541 (-1 : Int32) (((if_pos c547).symm).trans (if_neg c541).symm)
      ·
        refine g_lload (pc' := 553) C at_551 rfl rfl ?_
        refine g_ldc2L (pc' := 556) C at_553 rfl (hw _ (List.mem_of_getElem? (i := 38) rfl)) ?_
        refine g_lcmp (cd := .le) (xi := j33.toInt) (yi := (2147483647)) (pc' := 557) (pc1 := 564) (pc2 := 560) C at_556 at_557 rfl (by decide) rfl rfl rfl rfl (fun (c556 : j33.toInt ≤ (2147483647)) => ?_) (fun (c556 : ¬ (j33.toInt ≤ (2147483647))) => ?_)
        ·
          refine g_lload (pc' := 566) C at_564 rfl rfl ?_
          refine g_l2i (pc' := 567) C at_566 rfl ?_
          exact K_541 (j33.toInt32) ((((if_pos c556).symm).trans (if_neg c547).symm).trans (if_neg c541).symm)
        ·
          refine g_iconst (pc' := 561) (z := (-1 : Int32)) C at_560 rfl rfl ?_
          refine g_goto C at_561 (by decide) (pc' := 567) rfl ?_
          exact K_541 (-1 : Int32) ((((if_neg c556).symm).trans (if_neg c547).symm).trans (if_neg c541).symm)
  intro i34 e_i34
  refine g_istore (pc' := 569) (L' := #[.val (.int p0), .val (.int p1), .val (.int p2), .val (.int p3), .val (.int p4), .val (.int p5), .val (.int i1), .val (.ref a2), .val (.ref a13), .val (.long j33), .second, .val (.int i34)]) C at_567 rfl rfl ?_
  refine g_aload (pc' := 571) C at_569 rfl rfl rfl ?_
  refine g_virtual (y := (⟨"com/example/rankfold/rankfold/UnsignedDecimal", "value", "()I"⟩ : MethodName)) (a := a13) (pc' := 574) (k' := 2) (n' := 13) (S := []) (as := []) C at_571 rfl (hw _ (List.mem_of_getElem? (i := 20) rfl)) (hw _ (List.mem_of_getElem? (i := 22) rfl)) (hw _ (List.mem_of_getElem? (i := 8) rfl)) (hw _ (List.mem_of_getElem? (i := 24) rfl)) (hw _ (List.mem_of_getElem? (i := 21) rfl)) (hw _ (List.mem_of_getElem? (i := 23) rfl)) (by decide) Ua13.exa (lenOf pd_4 rfl) (con_value W.l Z a0 hw a13 t10 (i1.toInt ≤ 0) h42 Ua13) rfl rfl (Nat.le_of_ble_eq_true rfl) (Nat.le_of_ble_eq_true rfl) rfl rfl (Nat.le_of_ble_eq_true rfl) (Nat.le_of_ble_eq_true rfl) all0 fun vh54 h54 qh54 Kh54 => ?_
  obtain ⟨⟨i35, rfl, er_i35⟩, eh⟩ := qh54
  subst eh
  show Go W Q h42 2 13 574 #[.val (.int p0), .val (.int p1), .val (.int p2), .val (.int p3), .val (.int p4), .val (.int p5), .val (.int i1), .val (.ref a2), .val (.ref a13), .val (.long j33), .second, .val (.int i34)] [(.int i35)]
  refine g_iload (pc' := 576) C at_574 rfl rfl ?_
  suffices K_576 : ∀ z36 : Int32, z36 = b2i (i35.toInt = i34.toInt) → Go W Q h42 2 13 584 #[.val (.int p0), .val (.int p1), .val (.int p2), .val (.int p3), .val (.int p4), .val (.int p5), .val (.int i1), .val (.ref a2), .val (.ref a13), .val (.long j33), .second, .val (.int i34)] [(.int z36)] by
    refine g_icmp (xi := i35.toInt) (yi := i34.toInt) (pc1 := 583) (pc2 := 579) C at_576 (by decide) rfl rfl rfl rfl (fun (c576 : ¬ (i35.toInt = i34.toInt)) => ?_) (fun (c576 : ¬ (¬ (i35.toInt = i34.toInt))) => ?_)
    ·
      refine g_iconst (pc' := 584) (z := (0 : Int32)) C at_583 rfl rfl ?_
      exact K_576 (0 : Int32) ((rfl : (0 : Int32) = b2i False).trans (b2i_iff (iff_false_intro c576).symm))
    ·
      replace c576 : i35.toInt = i34.toInt := Decidable.not_not.mp c576
      refine g_iconst (pc' := 580) (z := (1 : Int32)) C at_579 rfl rfl ?_
      refine g_goto C at_580 (by decide) (pc' := 584) rfl ?_
      exact K_576 (1 : Int32) ((rfl : (1 : Int32) = b2i True).trans (b2i_iff (iff_true_intro c576).symm))
  intro z36 e_z36
  refine g_retN C (by simp) at_584 (by decide) (by decide) ?_
  subst hQ
  refine congrArg (fun z => some (Value.int z)) (?_ : nar .boolean z36 = 1)
  rw [e_z36, nar_b2i]
  refine b2i_pos ?_
  have x4 : i34.toInt = (if i1.toInt = 0 then (-1 : Int) else if j33.toInt < 0 then -1 else if j33.toInt ≤ 2147483647 then j33.toInt32.toInt else -1) := by rw [e_i34]; (repeat' split) <;> rfl
  rw [er_i35, x4, ← q_10]
  exact own_fin m3.1 (c_l2i j33) (rng32 j33.toInt32)
set_option maxRecDepth 65536 in
set_option maxHeartbeats 2000000 in
theorem comes_1 {Post : Tables → Env → Array Value → State → Outcome → State → Prop} (hpost : ∀ tb e args s v u, (limb_1_1.after args s (.returned v) u = true ∧ limb_1_2.after args s (.returned v) u = true ∧ True) → FrameEnd s (.returned v) u (Jvm.fieldLocs frame_1_writes args s ++ Jvm.arrayLocs frame_1_arrays args s ++ Jvm.staticLocs frame_1_statics s) 16 128 → Post tb e args s (.returned v) u) :
    ArmFor flags0 classFile x code maxLocals ret World_1 tables_1 room_1 Calls_1 rest_1 Pre_1 Post := by
  intro l hfl _ _ p e ha hc hk s m args below hf hA hF happ hP
  obtain ⟨hcalls, hrest, hpre⟩ := hP
  obtain ⟨-, -, -, hnamed, -, -, -, hat⟩ := (Spec.applies_iff hf).mp happ
  obtain ⟨hg, hn⟩ := and_e (Cond.before_iff.mp (show (Jvm.Cond.and given_1 narrow_1).before args s = true from hpre))
  obtain ⟨g1, g2⟩ := and_e hg
  obtain ⟨g3, g4⟩ := and_e g2
  obtain ⟨g5, g6⟩ := and_e g4
  obtain ⟨g7, g8⟩ := and_e g6
  obtain ⟨g9, g10⟩ := and_e g8
  obtain ⟨g11, g12⟩ := and_e g10
  obtain ⟨w0, w1, w2, w3, w4, w5, rfl⟩ : ∃ w0 w1 w2 w3 w4 w5 : Value, args = #[w0, w1, w2, w3, w4, w5] := by
    have hs : args.size = 6 := by simpa [Cond.value, given_1] using g1
    obtain ⟨L⟩ := args
    match L, hs with
    | [w0, w1, w2, w3, w4, w5], _ => exact ⟨w0, w1, w2, w3, w4, w5, rfl⟩
  have hw := fun d (hd : d ∈ tables_1) => atoms_spec (ws := Jvm.Cond.code x code maxLocals ret :: tables_1) hat d (List.mem_cons_of_mem _ hd)
  obtain ⟨i0, ei0⟩ := is_v g3
  obtain rfl : w0 = (.int i0) := Option.some.inj ei0
  obtain ⟨i1, ei1⟩ := is_v g5
  obtain rfl : w1 = (.int i1) := Option.some.inj ei1
  obtain ⟨i2, ei2⟩ := is_v g7
  obtain rfl : w2 = (.int i2) := Option.some.inj ei2
  obtain ⟨i3, ei3⟩ := is_v g9
  obtain rfl : w3 = (.int i3) := Option.some.inj ei3
  obtain ⟨i4, ei4⟩ := is_v g11
  obtain rfl : w4 = (.int i4) := Option.some.inj ei4
  obtain ⟨i5, ei5⟩ := is_v g12
  obtain rfl : w5 = (.int i5) := Option.some.inj ei5
  obtain ⟨n, o, h1, h2, h3, _, L, rfl, ⟨rfl, N⟩, hq⟩ := con_0 l s _ hw i0 i1 i2 i3 i4 i5 s.heap p e ha hc hk s m _ below hf ((Spec.applies_iff_loose hf).mp happ).1 ⟨rfl, State.Warmed39.refl s, rfl⟩ trivial
  refine ⟨n, _, h1, h2, h3, hpost _ _ _ _ _ _ ⟨Cond.after_iff.mpr rfl, Cond.after_iff.mpr (eq_i res_at (Term.int_eval (1)) rfl), trivial⟩ ⟨hq.1, hq.2.1, (hq.2.2.sift fun y hy => Or.inr ((N y hy).resolve_left (fun q => nomatch q))).mono (by decide) (by decide)⟩⟩
theorem main_1_1 : Claimed_1_1 := comes_1 fun _ _ _ _ _ _ h hF => ⟨h.1, hF⟩
theorem main_1_2 : Claimed_1_2 := comes_1 fun _ _ _ _ _ _ h hF => ⟨h.2.1, hF⟩
end Jvm.Pilot.@@N@@
namespace Jvm.Pilot.@@N@@
open Jvm Jvm.ClassFile Sem Op Lib Jvm.Free Jvm.Stand Jvm.Pilot.@@N@@.Jvm.D
/-! MADE BY PROGRAM (witnessworld.py) out of the Statement's table words and the real class files: 11 classes; the members and pool entries that the words name. The judged class is class 1, her method 1. -/
namespace start1
open Jvm.ClassFile
def u (s : String) : CpInfo := .utf8 (stringToUtf16 s)
/-- a pool by its gaps: so many unusable entries, then the entry; so many at the end -/
def gap : Nat → List CpInfo → List CpInfo
  | 0, r => r
  | n + 1, r => .unusable :: gap n r
def poolList (es : List (Nat × CpInfo)) (last : Nat) : List CpInfo := es.foldr (fun e r => gap e.1 (e.2 :: r)) (gap last [])
def pool (es : List (Nat × CpInfo)) (last : Nat) : Array CpInfo := ⟨poolList es last⟩
def fileOf (pool : Array CpInfo) (this : Nat) (attrs : Array Attribute := #[]) (ms : Array MethodInfo := #[]) (fl : Nat := 33) (sup : Nat := 0) (ifs : Array Nat := #[]) (fds : Array FieldInfo := #[]) : ClassFile where
  minorVersion := 0
  majorVersion := 65
  constantPool := pool
  accessFlags := fl
  thisClass := this
  superClass := sup
  interfaces := ifs
  fields := fds
  methods := ms
  attributes := attrs
def plain (name : String) (sup : Option ClassId) : Class where
  name := name
  kind := .ordinary
  loader := none
  accessFlags := 33
  super := sup
  interfaces := #[]
  cf := none
  fields := #[]
  methods := #[]
  instanceTypes := #[]
  staticTypes := #[]
  resolved := #[]
  callSites := []
  init := .initialized
  statics := none
  mirror := none

def pool0 : Array CpInfo := pool [(5, u "<init>"), (0, u "()V"), (1, .class_ 10), (1, u "java/lang/Object")] 113

def k0c0 : Code := { maxStack := 0, maxLocals := 1, code := object_method_1_code, exceptionTable := #[], attributes := #[] }
def k0m0 : Method := { name := "<init>", desc := "()V", sig := { parameters := [], returnType := none }, accessFlags := 1, code := some k0c0 }
/-- java/lang/Object -/
def k0 : Class := { plain "java/lang/Object" none with
  accessFlags := 33
  interfaces := #[]
  cf := some (fileOf pool0 8 #[] #[{ accessFlags := 1, nameIndex := 5, descriptorIndex := 6, attributes := #[] }] 33 0 #[] #[])
  fields := #[]
  methods := #[k0m0]
  instanceTypes := #[]
  staticTypes := #[]
  resolved := Array.replicate 124 none
  statics := none }

def pool1 : Array CpInfo := pool [(2, .class_ 4), (0, .nameAndType 5 6), (0, u "java/lang/Object"), (0, u "<init>"), (0, u "()V"), (0, .methodref 8 9), (0, .class_ 10), (0, .nameAndType 11 12), (0, u "com/example/rankfold/rankfold/UnsignedDecimalValuePinLaw"), (0, u "ch"), (0, u "(III)C"), (0, .class_ 14), (0, u "com/example/rankfold/rankfold/UnsignedDecimal"), (0, .methodref 13 3), (0, .methodref 13 17), (0, .nameAndType 18 19), (0, u "append"), (0, u "(C)V"), (0, .methodref 8 21), (0, .nameAndType 22 23), (0, u "step"), (0, u "(JCZ)J"), (2, .long 2147483647), (1, .methodref 13 29), (0, .nameAndType 30 31), (0, u "value"), (0, u "()I"), (0, .integer 65535), (0, .long 18446744073709551615), (1, .long 10), (3, u "law"), (0, u "(IIIIII)Z")] 5

def k1m0 : Method := { name := "<init>", desc := "()V", sig := { parameters := [], returnType := none }, accessFlags := 1, code := none }
def k1c1 : Code := { maxStack := 5, maxLocals := 12, code := code, exceptionTable := #[], attributes := #[] }
def k1m1 : Method := { name := "law", desc := "(IIIIII)Z", sig := { parameters := [.int, .int, .int, .int, .int, .int], returnType := some .boolean }, accessFlags := 9, code := some k1c1 }
def k1c2 : Code := { maxStack := 3, maxLocals := 4, code := method_3_code, exceptionTable := #[], attributes := #[] }
def k1m2 : Method := { name := "ch", desc := "(III)C", sig := { parameters := [.int, .int, .int], returnType := some .char }, accessFlags := 10, code := some k1c2 }
def k1c3 : Code := { maxStack := 4, maxLocals := 4, code := method_4_code, exceptionTable := #[], attributes := #[] }
def k1m3 : Method := { name := "step", desc := "(JCZ)J", sig := { parameters := [.long, .char, .boolean], returnType := some .long }, accessFlags := 10, code := some k1c3 }
/-- com/example/rankfold/rankfold/UnsignedDecimalValuePinLaw -/
def k1 : Class := { plain "com/example/rankfold/rankfold/UnsignedDecimalValuePinLaw" (some 0) with
  accessFlags := 49
  interfaces := #[]
  cf := some (fileOf pool1 8 #[] #[{ accessFlags := 1, nameIndex := 5, descriptorIndex := 6, attributes := #[] }, { accessFlags := 9, nameIndex := 39, descriptorIndex := 40, attributes := #[] }, { accessFlags := 10, nameIndex := 11, descriptorIndex := 12, attributes := #[] }, { accessFlags := 10, nameIndex := 22, descriptorIndex := 23, attributes := #[] }] 49 2 #[] #[])
  fields := #[]
  methods := #[k1m0, k1m1, k1m2, k1m3]
  instanceTypes := #[]
  staticTypes := #[]
  resolved := Array.replicate 46 none
  statics := none }

def pool2 : Array CpInfo := pool [(1, .methodref 2 3), (0, .class_ 4), (0, .nameAndType 5 6), (0, u "java/lang/Object"), (0, u "<init>"), (0, u "()V"), (0, .fieldref 8 9), (0, .class_ 10), (0, .nameAndType 11 12), (0, u "com/example/rankfold/rankfold/UnsignedDecimal"), (0, u "empty"), (0, u "Z"), (6, u "()I"), (6, u "append"), (0, u "(C)V"), (2, u "value"), (0, .fieldref 8 32), (0, .nameAndType 33 12), (0, u "invalid"), (0, .fieldref 8 35), (0, .nameAndType 30 36), (0, u "J"), (0, .long 10), (3, .long 2147483647), (1, u "INVALID"), (0, u "I")] 12

def k2c0 : Code := { maxStack := 2, maxLocals := 1, code := prog_49_method_1_code, exceptionTable := #[], attributes := #[] }
def k2m0 : Method := { name := "<init>", desc := "()V", sig := { parameters := [], returnType := none }, accessFlags := 0, code := some k2c0 }
def k2c1 : Code := { maxStack := 5, maxLocals := 2, code := prog_49_method_3_code, exceptionTable := #[], attributes := #[] }
def k2m1 : Method := { name := "append", desc := "(C)V", sig := { parameters := [.char], returnType := none }, accessFlags := 0, code := some k2c1 }
def k2c2 : Code := { maxStack := 2, maxLocals := 1, code := prog_49_method_4_code, exceptionTable := #[], attributes := #[] }
def k2m2 : Method := { name := "value", desc := "()I", sig := { parameters := [], returnType := some .int }, accessFlags := 0, code := some k2c2 }
/-- com/example/rankfold/rankfold/UnsignedDecimal -/
def k2 : Class := { plain "com/example/rankfold/rankfold/UnsignedDecimal" (some 0) with
  accessFlags := 48
  interfaces := #[]
  cf := some (fileOf pool2 8 #[] #[{ accessFlags := 0, nameIndex := 5, descriptorIndex := 6, attributes := #[] }, { accessFlags := 0, nameIndex := 26, descriptorIndex := 27, attributes := #[] }, { accessFlags := 0, nameIndex := 30, descriptorIndex := 19, attributes := #[] }] 48 2 #[] #[{ accessFlags := 24, nameIndex := 43, descriptorIndex := 44, attributes := #[] }, { accessFlags := 2, nameIndex := 30, descriptorIndex := 36, attributes := #[] }, { accessFlags := 2, nameIndex := 11, descriptorIndex := 12, attributes := #[] }, { accessFlags := 2, nameIndex := 33, descriptorIndex := 12, attributes := #[] }])
  fields := #[{ name := "INVALID", type := .int, accessFlags := 24, slot := 0, constantValue := 0 }, { name := "value", type := .long, accessFlags := 2, slot := 0, constantValue := 0 }, { name := "empty", type := .boolean, accessFlags := 2, slot := 1, constantValue := 0 }, { name := "invalid", type := .boolean, accessFlags := 2, slot := 2, constantValue := 0 }]
  methods := #[k2m0, k2m1, k2m2]
  instanceTypes := #[.long, .boolean, .boolean]
  staticTypes := #[.int]
  resolved := Array.replicate 57 none
  statics := none }

def pool3 : Array CpInfo := pool [(1, u "java/lang/Cloneable"), (0, .class_ 1), (0, u "java/lang/Object"), (0, .class_ 3)] 3

/-- java/lang/Cloneable -/
def k3 : Class := { plain "java/lang/Cloneable" (some 0) with
  accessFlags := 1537
  interfaces := #[]
  cf := some (fileOf pool3 2 #[] #[] 1537 4 #[] #[])
  fields := #[]
  methods := #[]
  instanceTypes := #[]
  staticTypes := #[]
  resolved := Array.replicate 8 none
  statics := none }

def pool4 : Array CpInfo := pool [(1, u "java/io/Serializable"), (0, .class_ 1), (0, u "java/lang/Object"), (0, .class_ 3)] 3

/-- java/io/Serializable -/
def k4 : Class := { plain "java/io/Serializable" (some 0) with
  accessFlags := 1537
  interfaces := #[]
  cf := some (fileOf pool4 2 #[] #[] 1537 4 #[] #[])
  fields := #[]
  methods := #[]
  instanceTypes := #[]
  staticTypes := #[]
  resolved := Array.replicate 8 none
  statics := none }

/-- the primitive byte -/
def k5 : Class := { plain "byte" none with kind := .primitive 'B', accessFlags := 0x411 }
/-- [B -/
def k6 : Class := { plain "[B" (some 0) with kind := .array 5 .byte, interfaces := #[3, 4], accessFlags := 1041 }

/-- the primitive char -/
def k7 : Class := { plain "char" none with kind := .primitive 'C', accessFlags := 0x411 }
/-- [C -/
def k8 : Class := { plain "[C" (some 0) with kind := .array 7 .char, interfaces := #[3, 4], accessFlags := 1041 }

/-- the primitive int -/
def k9 : Class := { plain "int" none with kind := .primitive 'I', accessFlags := 0x411 }
/-- [I -/
def k10 : Class := { plain "[I" (some 0) with kind := .array 9 .int, interfaces := #[3, 4], accessFlags := 1041 }

def heap : Heap := #[]
def classes : Array Class := #[k0, k1, k2, k3, k4, k5, k6, k7, k8, k9, k10]
def interned : List (Array UInt16 × Addr) := []
def slotsUsed : Nat := 0
def theMethod : MethodId := ⟨1, 1⟩
def args0 : Array Value := #[.int 5, .int 1, .int 2, .int 3, .int 4, .int 5]
def aboutOver (below : List Frame) : State where
  vm := { classes := classes, interned := interned.toArray }
  heap := heap
  slotsUsed := slotsUsed
  threads := #[{ frames := .invoking theMethod args0 :: below }]
def below0 : List Frame := [.native { method := ⟨0, 0⟩, args := #[] }]
def about1 : State := aboutOver below0
def p0 : Program := .bare "" "" ""
def e0 : Env := launch0.env 0 0 0
theorem w_frames : about1.frames = Frame.invoking theMethod args0 :: below0 := rfl
set_option maxRecDepth 65536 in
theorem w_args : argsFit about1.vm theMethod args0 = true := by decide +kernel
set_option maxRecDepth 65536 in
theorem w_heap : heapFits about1 = true := by decide +kernel
set_option maxRecDepth 65536 in
theorem w_runnable : about1.curStatus? = some .runnable := by decide +kernel
set_option maxRecDepth 65536 in
theorem w_alone : about1.alone = true := by decide +kernel
set_option maxRecDepth 65536 in
theorem w_named : about1.methodNamed? x = some theMethod := by decide +kernel
set_option maxRecDepth 65536 in
theorem w_hears : about1.hears theMethod below0 = true := by decide +kernel
set_option maxRecDepth 65536 in
theorem w_ripe : about1.ripe theMethod args0 below0 = true := by decide +kernel
theorem w_running : about1.status = .running := rfl
set_option maxRecDepth 65536 in
theorem w_room : about1.hasRoom e0.platform room_1 = true :=
  launch0.hasRoom_least _ room_1 (by decide +kernel) (by decide +kernel) (by decide +kernel) (by decide +kernel) (by decide +kernel) (by decide +kernel)
theorem allAtoms_all (ts : List Jvm.Cond) (a : Array Jvm.Value) (st : Jvm.State) : (allAtoms ts).before a st = ts.all (fun c => c.before a st) := by
  induction ts with
  | nil => rfl
  | cons c t ih =>
    show (Jvm.Cond.and c (allAtoms t)).before a st = _
    rw [Jvm.Cond.before_and, ih, List.all_cons]
def words1 : List Jvm.Cond := Jvm.Cond.code x code maxLocals ret :: tables_1
/-- a 'code' word, met by the world's own term for the bytes: nothing is compared byte by byte -/
theorem code_word {y : MethodName} {bytes : ByteArray} {mx : Nat} {rt : Option FieldType} {a : Array Value} {s : State} {m : MethodId} {meth : Method} {c : Code} (h1 : s.methodNamed? y = some m) (h2 : s.vm.method? m = some meth) (h3 : meth.code = some c) (h4 : c.code = bytes)
    (h5 : (c.maxLocals == mx && c.exceptionTable.isEmpty && decide (c.maxStack ≤ mostOperands) && decide (meth.sig.returnType = rt) && !meth.locks && decide (parseMethodDescriptor y.desc = some meth.sig)) = true) : (Jvm.Cond.code y bytes mx rt).before a s = true := by
  simp only [Bool.and_eq_true, beq_iff_eq, Bool.not_eq_true', decide_eq_true_eq] at h5
  obtain ⟨⟨⟨⟨⟨g1, g2⟩, g3⟩, g4⟩, g5⟩, g6⟩ := h5
  simp [Cond.before, Cond.holds, Cond.value, h1, h2, h3, h4, g1, g2, g3, g4, g5, g6]
def isCode : Jvm.Cond → Bool
  | .code _ _ _ _ => true
  | _ => false
theorem all_split {L : List Jvm.Cond} {P : Jvm.Cond → Bool} (h1 : L.all (fun c => isCode c || P c) = true) (h2 : ∀ c ∈ L.filter isCode, P c = true) : L.all P = true := by
  refine List.all_eq_true.mpr fun c hc => ?_
  have h := List.all_eq_true.mp h1 c hc
  rcases Bool.eq_false_or_eq_true (isCode c) with hi | hi
  · exact h2 c (List.mem_filter.mpr ⟨hc, hi⟩)
  · simpa [hi] using h
set_option maxRecDepth 65536 in
theorem w_c0 : (Jvm.Cond.code x code maxLocals ret).before args0 about1 = true := code_word (m := ⟨1, 1⟩) (meth := k1m1) (c := k1c1) (by decide +kernel) rfl rfl rfl (by decide +kernel)
set_option maxRecDepth 65536 in
theorem w_c1 : (Jvm.Cond.code ({ cls := "com/example/rankfold/rankfold/UnsignedDecimalValuePinLaw", name := "ch", desc := "(III)C" } : Jvm.MethodName) method_3_code (4 : Nat) (Option.some Jvm.ClassFile.FieldType.char)).before args0 about1 = true := code_word (m := ⟨1, 2⟩) (meth := k1m2) (c := k1c2) (by decide +kernel) rfl rfl rfl (by decide +kernel)
set_option maxRecDepth 65536 in
theorem w_c2 : (Jvm.Cond.code ({ cls := "com/example/rankfold/rankfold/UnsignedDecimal", name := "<init>", desc := "()V" } : Jvm.MethodName) prog_49_method_1_code (1 : Nat) (Option.none : Option Jvm.ClassFile.FieldType)).before args0 about1 = true := code_word (m := ⟨2, 0⟩) (meth := k2m0) (c := k2c0) (by decide +kernel) rfl rfl rfl (by decide +kernel)
set_option maxRecDepth 65536 in
theorem w_c3 : (Jvm.Cond.code ({ cls := "java/lang/Object", name := "<init>", desc := "()V" } : Jvm.MethodName) object_method_1_code (1 : Nat) (Option.none : Option Jvm.ClassFile.FieldType)).before args0 about1 = true := code_word (m := ⟨0, 0⟩) (meth := k0m0) (c := k0c0) (by decide +kernel) rfl rfl rfl (by decide +kernel)
set_option maxRecDepth 65536 in
theorem w_c4 : (Jvm.Cond.code ({ cls := "com/example/rankfold/rankfold/UnsignedDecimalValuePinLaw", name := "step", desc := "(JCZ)J" } : Jvm.MethodName) method_4_code (4 : Nat) (Option.some Jvm.ClassFile.FieldType.long)).before args0 about1 = true := code_word (m := ⟨1, 3⟩) (meth := k1m3) (c := k1c3) (by decide +kernel) rfl rfl rfl (by decide +kernel)
set_option maxRecDepth 65536 in
theorem w_c5 : (Jvm.Cond.code ({ cls := "com/example/rankfold/rankfold/UnsignedDecimal", name := "value", desc := "()I" } : Jvm.MethodName) prog_49_method_4_code (1 : Nat) (Option.some Jvm.ClassFile.FieldType.int)).before args0 about1 = true := code_word (m := ⟨2, 2⟩) (meth := k2m2) (c := k2c2) (by decide +kernel) rfl rfl rfl (by decide +kernel)
set_option maxRecDepth 65536 in
theorem w_c6 : (Jvm.Cond.code ({ cls := "com/example/rankfold/rankfold/UnsignedDecimal", name := "append", desc := "(C)V" } : Jvm.MethodName) prog_49_method_3_code (2 : Nat) (Option.none : Option Jvm.ClassFile.FieldType)).before args0 about1 = true := code_word (m := ⟨2, 1⟩) (meth := k2m1) (c := k2c1) (by decide +kernel) rfl rfl rfl (by decide +kernel)
def codes1 : List Jvm.Cond := [Jvm.Cond.code x code maxLocals ret, Jvm.Cond.code ({ cls := "com/example/rankfold/rankfold/UnsignedDecimalValuePinLaw", name := "ch", desc := "(III)C" } : Jvm.MethodName) method_3_code (4 : Nat) (Option.some Jvm.ClassFile.FieldType.char), Jvm.Cond.code ({ cls := "com/example/rankfold/rankfold/UnsignedDecimal", name := "<init>", desc := "()V" } : Jvm.MethodName) prog_49_method_1_code (1 : Nat) (Option.none : Option Jvm.ClassFile.FieldType), Jvm.Cond.code ({ cls := "java/lang/Object", name := "<init>", desc := "()V" } : Jvm.MethodName) object_method_1_code (1 : Nat) (Option.none : Option Jvm.ClassFile.FieldType), Jvm.Cond.code ({ cls := "com/example/rankfold/rankfold/UnsignedDecimalValuePinLaw", name := "step", desc := "(JCZ)J" } : Jvm.MethodName) method_4_code (4 : Nat) (Option.some Jvm.ClassFile.FieldType.long), Jvm.Cond.code ({ cls := "com/example/rankfold/rankfold/UnsignedDecimal", name := "value", desc := "()I" } : Jvm.MethodName) prog_49_method_4_code (1 : Nat) (Option.some Jvm.ClassFile.FieldType.int), Jvm.Cond.code ({ cls := "com/example/rankfold/rankfold/UnsignedDecimal", name := "append", desc := "(C)V" } : Jvm.MethodName) prog_49_method_3_code (2 : Nat) (Option.none : Option Jvm.ClassFile.FieldType)]
set_option maxRecDepth 65536 in
theorem codes_eq : words1.filter isCode = codes1 := rfl
theorem w_codes : ∀ c ∈ words1.filter isCode, c.before args0 about1 = true := by
  rw [codes_eq]
  intro c hc
  simp only [codes1, List.mem_cons, List.not_mem_nil, or_false] at hc
  rcases hc with rfl | rfl | rfl | rfl | rfl | rfl | rfl
  · exact w_c0
  · exact w_c1
  · exact w_c2
  · exact w_c3
  · exact w_c4
  · exact w_c5
  · exact w_c6
set_option maxRecDepth 65536 in
theorem w_t1 : (words1.take 24).all (fun c => isCode c || c.before args0 about1) = true := by decide +kernel
set_option maxRecDepth 65536 in
theorem w_t2 : (words1.drop 24).all (fun c => isCode c || c.before args0 about1) = true := by decide +kernel
theorem w_tables : (allAtoms (Jvm.Cond.code x code maxLocals ret :: tables_1)).before args0 about1 = true := by
  rw [allAtoms_all]
  show words1.all (fun c => c.before args0 about1) = true
  refine all_split ?_ w_codes
  rw [← List.take_append_drop 24 words1, List.all_append, w_t1, w_t2]
  rfl
set_option maxRecDepth 65536 in
theorem w_case : (Jvm.Cond.and given_1 narrow_1).before args0 about1 = true := by decide +kernel
theorem w_applies : (headSpec (Jvm.Cond.code x code maxLocals ret :: tables_1) room_1).applies x e0.platform about1 = true :=
  (Spec.applies_iff w_frames).mpr ⟨w_running, w_runnable, w_alone, w_named, w_hears, w_ripe, w_room, w_tables⟩
theorem atStart : AtStart classFile x code maxLocals ret World_1 tables_1 room_1 Calls_1 rest_1 Pre_1 launch0 p0 e0 about1 theMethod args0 below0 :=
  ⟨lists_1, trivial, launch0.admits_env _ _ _, launch0.least_env, fairChoices_fair.cas, fairChoices_fair.clock, w_frames, w_args, w_heap, w_applies, trivial, trivial, w_case⟩
end start1
theorem witness_1 : WitnessClaimed_1 := ⟨start1.p0, start1.e0, start1.about1, start1.theMethod, start1.args0, start1.below0, start1.atStart⟩
end Jvm.Pilot.@@N@@
