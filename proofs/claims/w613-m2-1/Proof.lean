import JvmDerived
import JvmDerived.Pilot.@@N@@Statement
import JvmDerived.Pilot.@@N@@Code
set_option linter.unusedVariables false
set_option linter.unusedSimpArgs false
namespace Jvm.OwnKit
open Jvm Jvm.ClassFile Sem Op Lib Jvm.Free Jvm.Stand Jvm.LawKit Jvm.RoadKit Bundle
/-- what is fixed in one body's walk: program, launch, environment, room, state at the call, method, arguments, frames below, its record, its code, the old addresses that it may write -/
abbrev Wk : Type := Program × Launch × Env × Room × State × MethodId × Array Value × List Frame × Method × Code × List Addr
abbrev Wk.p (W : Wk) : Program := W.1
abbrev Wk.l (W : Wk) : Launch := W.2.1
abbrev Wk.e (W : Wk) : Env := W.2.2.1
abbrev Wk.R (W : Wk) : Room := W.2.2.2.1
abbrev Wk.s (W : Wk) : State := W.2.2.2.2.1
abbrev Wk.m (W : Wk) : MethodId := W.2.2.2.2.2.1
abbrev Wk.args (W : Wk) : Array Value := W.2.2.2.2.2.2.1
abbrev Wk.below (W : Wk) : List Frame := W.2.2.2.2.2.2.2.1
abbrev Wk.meth (W : Wk) : Method := W.2.2.2.2.2.2.2.2.1
abbrev Wk.c (W : Wk) : Code := W.2.2.2.2.2.2.2.2.2.1
abbrev Wk.ws (W : Wk) : List Addr := W.2.2.2.2.2.2.2.2.2.2
/-- an address that may be written: a named old one, or a new one -/
def Pw (W : Wk) (a : Addr) : Prop := a ∈ W.ws ∨ W.s.heap.size ≤ a
abbrev Sta0 (W : Wk) (T : State) (locs : List Loc) (k n : Nat) : Prop := Stand W.p W.l W.e W.R W.s W.m W.args W.below W.meth W.c T locs k n
abbrev Stp (W : Wk) (S t : State) : Prop := Steps W.p.tables W.e W.below S t
def Sd (W : Wk) (T : State) (h : Heap) (k n : Nat) : Prop := ∃ locs, Sta0 W T locs k n ∧ T.heap = h ∧ ∀ y ∈ locs, Pw W y.base
/-- from S the body comes to its end, returning what Q says -/
def Out (W : Wk) (Q : Option Value → Heap → Prop) (S : State) : Prop := ∃ s₂ o, Stp W S s₂ ∧ s₂.status = .running ∧ Ended s₂ W.below o ∧ ∃ v L, o = .returned v ∧ (Q v s₂.heap ∧ ∀ y ∈ L, Pw W y.base) ∧ FrameEnd W.s o s₂ L W.R.cells W.R.slots
/-- from every state that stands here over the heap h, the body comes to its end as Q says -/
def Go (W : Wk) (Q : Option Value → Heap → Prop) (h : Heap) (k n pc : Nat) (L : Array Slot) (S : List Value) : Prop := ∀ T, Sd W T h k n → Out W Q (T.setTop (mkF W.m pc L S))
def Cx (W : Wk) (Z : State) (R : Room) (own : String) (code : ByteArray) (mx : Nat) (ret : Option FieldType) (nm : String) (ws : List Addr) (h0 : Heap) : Prop :=
  W.p.tables.exec = Jvm.exec ∧ Z.Warmed39 W.s.vm ∧ W.s.vm.findClass own = some W.m.cls ∧ W.c.code = code ∧ W.c.maxLocals = mx ∧ W.meth.sig.returnType = ret ∧ W.meth.locks = false ∧ W.meth.name = nm ∧ W.R = R ∧ W.ws = ws ∧ W.s.heap = h0
/-- a body's contract at the heap h: ws: the old addresses that it may write -/
def Con (l : Launch) (Z : State) (w0 : List Jvm.Cond) (y : MethodName) (bytes : ByteArray) (mx : Nat) (ret : Option FieldType) (rm : Room) (as : Array Value) (h : Heap) (ws : List Addr) (Q : Option Value → Heap → Prop) : Prop :=
  MetFree l y (head1 (Jvm.Cond.code y bytes mx ret :: w0) rm) (fun a U => a = as ∧ Z.Warmed39 U.vm ∧ U.heap = h) (fun _ _ _ _ _ => True)
    (fun _ U o U' => ∃ v L, o = .returned v ∧ (Q v U'.heap ∧ ∀ y ∈ L, y.base ∈ ws ∨ h.size ≤ y.base) ∧ FrameEnd U o U' L rm.cells rm.slots)
/-- a truth value as an int -/
def b2i (P : Prop) [Decidable P] : Int32 := if P then 1 else 0
theorem b2i_pos {P : Prop} [Decidable P] (h : P) : b2i P = 1 := if_pos h
theorem b2i_neg {P : Prop} [Decidable P] (h : ¬ P) : b2i P = 0 := if_neg h
theorem b2i_iff {P Q : Prop} [Decidable P] [Decidable Q] (h : P ↔ Q) : b2i P = b2i Q := by by_cases q : Q <;> simp [b2i, h, q]
theorem b2i_toInt (P : Prop) [Decidable P] : (b2i P).toInt = if P then 1 else 0 := by unfold b2i; split <;> rfl
theorem b2i_one {P : Prop} [Decidable P] : b2i P = 1 ↔ P := by unfold b2i; split <;> simp [*]
theorem b2i_zero {P : Prop} [Decidable P] : b2i P = 0 ↔ ¬ P := by unfold b2i; split <;> simp [*]
theorem nar_b2i (P : Prop) [Decidable P] : nar .boolean (b2i P) = b2i P := by unfold b2i; split <;> rfl
theorem b2i_inj {P Q : Prop} [Decidable P] [Decidable Q] : b2i P = b2i Q ↔ (P ↔ Q) := by unfold b2i; split <;> split <;> simp [*]
theorem ref_cat {v : Value} (h : v.isRef = true) : v.category = 1 := by cases v <;> simp [Value.isRef] at h ⊢ <;> rfl
theorem narrow_ref {t : FieldType} {v : Value} (h : v.isRef = true) : narrow t v = v := by cases v <;> simp [Value.isRef] at h <;> cases t <;> rfl
theorem fits_b2i (P : Prop) [Decidable P] : fits .boolean (.int (b2i P)) = true := by unfold b2i; split <;> rfl
theorem fits_ref0 {t : FieldType} {v : Value} (h : v.isRef = true) (ht : refKind t = true := by rfl) : fits t v = true := by cases v <;> simp [Value.isRef] at h <;> cases t <;> simp_all [refKind, fits]
section Facts
variable {Z : State} {h h' : Heap} {a b : Addr} {C : String} {ws : List Addr}
/-- an object of the class C: its fields (declaring class, name, descriptor, value) -/
def Ob (Z : State) (h : Heap) (a : Addr) (C : String) (fs : List (String × String × String × Value)) : Prop :=
  Exa Z h a C ∧ (∀ f ∈ fs, Fld Z h a f.1 f.2.1 f.2.2.1 f.2.2.2) ∧ (fs.map fun f => RoadKit.slotOf Z f.1 f.2.1 f.2.2.1).Nodup
variable {fs fs' : List (String × String × String × Value)} {o n d : String} {v old : Value} {i : Nat}
theorem Ob.exa (O : Ob Z h a C fs) : Exa Z h a C := O.1
theorem Ob.lt (O : Ob Z h a C fs) : a < h.size := O.1.lt
theorem Ob.get (O : Ob Z h a C fs) (hi : fs[i]? = some (o, n, d, v)) : Fld Z h a o n d v := O.2.1 _ (List.mem_of_getElem? hi)
theorem Ob.keep (O : Ob Z h a C fs) (K : Keep h h' ws) (q : a ∉ ws) : Ob Z h' a C fs := ⟨O.1.keep K, fun f hf => (O.2.1 f hf).keep K q, O.2.2⟩
theorem Ob.ext (O : Ob Z h a C fs) (E : Ext h h') : Ob Z h' a C fs := ⟨O.1.ext E, fun f hf => (O.2.1 f hf).ext E, O.2.2⟩
theorem Ob.other (O : Ob Z h b C fs) {sl : Nat} (W : Wr h h' a sl v) (q : b ≠ a) : Ob Z h' b C fs := O.keep (Keep.of_wr W) (ninS q nin0)
theorem Ob.put (O : Ob Z h a C fs) (hi : fs[i]? = some (o, n, d, old)) (W : Wr h h' a (RoadKit.slotOf Z o n d) v) : Ob Z h' a C (fs.set i (o, n, d, v)) := by
  obtain ⟨E, F, N⟩ := O
  have hlt : i < fs.length := (List.getElem?_eq_some_iff.mp hi).1
  have hm : (fs.set i (o, n, d, v)).map (fun f => RoadKit.slotOf Z f.1 f.2.1 f.2.2.1) = fs.map (fun f => RoadKit.slotOf Z f.1 f.2.1 f.2.2.1) := by
    rw [List.map_set]
    have e : (fs.map fun f => RoadKit.slotOf Z f.1 f.2.1 f.2.2.1)[i]? = some (RoadKit.slotOf Z o n d) := by rw [List.getElem?_map, hi]; rfl
    obtain ⟨hl, he⟩ := List.getElem?_eq_some_iff.mp e
    have q := List.set_getElem_self hl
    rw [he] at q
    exact q
  refine ⟨E.wr W, fun f hf => ?_, by rw [hm]; exact N⟩
  obtain ⟨j, hj⟩ := List.mem_iff_getElem?.mp hf
  by_cases e : j = i
  · subst e
    rw [List.getElem?_set_self hlt] at hj
    cases hj
    exact (F _ (List.mem_of_getElem? hi)).same W
  · rw [List.getElem?_set_ne (Ne.symm e)] at hj
    refine (F f (List.mem_of_getElem? hj)).other W (Or.inr fun q => ?_)
    have e1 : (fs.map fun f => RoadKit.slotOf Z f.1 f.2.1 f.2.2.1)[j]? = some (RoadKit.slotOf Z f.1 f.2.1 f.2.2.1) := by rw [List.getElem?_map, hj]; rfl
    have e2 : (fs.map fun f => RoadKit.slotOf Z f.1 f.2.1 f.2.2.1)[i]? = some (RoadKit.slotOf Z o n d) := by rw [List.getElem?_map, hi]; rfl
    rw [q] at e1
    obtain ⟨l1, q1⟩ := List.getElem?_eq_some_iff.mp e1
    obtain ⟨l2, q2⟩ := List.getElem?_eq_some_iff.mp e2
    exact e ((List.getElem_inj N).mp (q1.trans q2.symm))
/-- an array: its components -/
def Ar (Z : State) (h : Heap) (a : Addr) (ty : FieldType) (vs : List Value) : Prop := ∃ c : Cell, Arr Z h a c ty ∧ c.slots.toList = vs
/-- ... of references to objects of the class C -/
def ArR (Z : State) (h : Heap) (a : Addr) (C : String) (vs : List Value) : Prop := ∃ c : Cell, Arr Z h a c (.object C) ∧ c.slots.toList = vs ∧ Ovr Z c.cls C
variable {ty : FieldType} {vs : List Value}
theorem Ar.lt (A : Ar Z h a ty vs) : a < h.size := A.elim fun _ q => q.1.lt
theorem Ar.keep (A : Ar Z h a ty vs) (K : Keep h h' ws) (q : a ∉ ws) : Ar Z h' a ty vs := by obtain ⟨c, A, e⟩ := A; exact ⟨c, ⟨K.2.1 a c A.1 q, A.2⟩, e⟩
theorem Ar.ext (A : Ar Z h a ty vs) (E : Ext h h') : Ar Z h' a ty vs := by obtain ⟨c, A, e⟩ := A; exact ⟨c, A.ext E, e⟩
theorem ArR.lt (A : ArR Z h a C vs) : a < h.size := A.elim fun _ q => q.1.lt
theorem ArR.keep (A : ArR Z h a C vs) (K : Keep h h' ws) (q : a ∉ ws) : ArR Z h' a C vs := by obtain ⟨c, A, e⟩ := A; exact ⟨c, ⟨K.2.1 a c A.1 q, A.2⟩, e⟩
theorem ArR.ext (A : ArR Z h a C vs) (E : Ext h h') : ArR Z h' a C vs := by obtain ⟨c, A, e⟩ := A; exact ⟨c, A.ext E, e⟩
theorem nin1 (q : b ≠ a) : b ∉ [a] := ninS q nin0
theorem clamp_of {j : Int32} {i : Nat} (hj : j.toInt = i) : j.toNatClampNeg = i := by
  show j.toInt.toNat = i
  omega
theorem nneg_of {j : Int32} {i : Nat} (hj : j.toInt = i) : ¬ j < 0 := by
  rw [Int32.lt_iff_toInt_lt, hj]
  show ¬ ((i : Int) < 0)
  omega
theorem in_of {j : Int32} {i : Nat} {c : Cell} (hj : j.toInt = i) (hi : i < c.slots.toList.length) : ¬ (j < 0 ∨ c.slots.size ≤ j.toNatClampNeg) := by
  rw [clamp_of hj]
  rintro (q | q)
  · exact nneg_of hj q
  · rw [Array.length_toList] at hi; omega
theorem set_toList (c : Cell) (i : Nat) (v : Value) : (c.setSlot i v).slots.toList = c.slots.toList.set i v := by
  show (c.slots.setIfInBounds i v).toList = _
  rw [Array.toList_setIfInBounds]
theorem Ar.put {c : Cell} (A : Arr Z h a c ty) (e : c.slots.toList = vs) {j : Int32} {i : Nat} (hj : j.toInt = i) (W : Wr h h' a j.toNatClampNeg v) : Ar Z h' a ty (vs.set i v) := by
  refine ⟨_, A.same W, ?_⟩
  rw [clamp_of hj, set_toList, e]
theorem map_getI {l : List Int32} {i : Nat} (hi : i < l.length) : (l.map Value.int)[i]? = some (.int (l.getD i 0)) := by
  rw [List.getElem?_map, List.getElem?_eq_getElem hi, List.getD_eq_getElem?_getD, List.getElem?_eq_getElem hi]; rfl
theorem map_getJ {l : List Int64} {i : Nat} (hi : i < l.length) : (l.map Value.long)[i]? = some (.long (l.getD i 0)) := by
  rw [List.getElem?_map, List.getElem?_eq_getElem hi, List.getD_eq_getElem?_getD, List.getElem?_eq_getElem hi]; rfl
theorem map_setI (l : List Int32) (i : Nat) (x : Int32) : (l.map Value.int).set i (.int x) = (l.set i x).map Value.int := by rw [List.map_set]
theorem map_setJ (l : List Int64) (i : Nat) (x : Int64) : (l.map Value.long).set i (.long x) = (l.set i x).map Value.long := by rw [List.map_set]
theorem nat32 {n : Nat} (h : n < 2147483648) : n.toInt32.toInt = n := by
  show (Int32.ofNat n).toInt = n
  rw [Int32.toInt_ofNat_of_lt (by omega)]
theorem keep_of_same {s t : State} {L : List Loc} {k n : Nat} {ws : List Addr} (H : s.sameButNew t L k n) (hL : ∀ y ∈ L, y.base ∈ ws ∨ s.heap.size ≤ y.base) : Keep s.heap t.heap ws := by
  obtain ⟨-, h1, -, -, -, h5⟩ := H
  have lt : ∀ (x : Addr) (c : Cell), s.heap[x]? = some c → x < s.heap.size := fun x c q => (Array.getElem?_eq_some_iff.mp q).1
  refine ⟨h1, fun x c q r => ?_, fun x c q => ?_⟩
  · obtain ⟨c', e1, e2, e3, e4⟩ := h5 x c q
    have hs : c'.slots = c.slots := by
      refine Array.ext_getElem? fun i => e4 i fun hm => ?_
      rcases hL _ hm with z | z
      · exact r z
      · exact absurd (lt x c q) (Nat.not_lt.mpr z)
    rw [e1, e2, hs]
  · obtain ⟨c', e1, e2, e3, -⟩ := h5 x c q
    exact ⟨c', e1, by rw [e2], by rw [e2], e3⟩
end Facts
section Steps0
variable {W : Wk} {Z : State} {R : Room} {own nm : String} {code : ByteArray} {mx : Nat} {ret : Option FieldType} {wsx : List Addr} {hx0 : Heap} {Q : Option Value → Heap → Prop} {h : Heap} {k n pc pc' pc1 pc2 : Nat} {L L' : Array Slot} {S S' : List Value} {a0 : Array Value}
theorem Cx.x (C : Cx W Z R own code mx ret nm wsx hx0) : W.p.tables.exec = Jvm.exec := C.1
theorem Cx.z (C : Cx W Z R own code mx ret nm wsx hx0) : Z.Warmed39 W.s.vm := C.2.1
theorem Cx.o (C : Cx W Z R own code mx ret nm wsx hx0) : W.s.vm.findClass own = some W.m.cls := C.2.2.1
theorem Cx.b (C : Cx W Z R own code mx ret nm wsx hx0) {r : Except ClassFile.DecodeError (ClassFile.Instr × Nat)} (hd : decode code pc = r) : decode W.c.code pc = r := hb C.2.2.2.1 hd
theorem Cx.ml (C : Cx W Z R own code mx ret nm wsx hx0) : W.c.maxLocals = mx := C.2.2.2.2.1
theorem Cx.rt (C : Cx W Z R own code mx ret nm wsx hx0) : W.meth.sig.returnType = ret := C.2.2.2.2.2.1
theorem Cx.lk (C : Cx W Z R own code mx ret nm wsx hx0) : W.meth.locks = false := C.2.2.2.2.2.2.1
theorem Cx.nme (C : Cx W Z R own code mx ret nm wsx hx0) : W.meth.name = nm := C.2.2.2.2.2.2.2.1
theorem Cx.r (C : Cx W Z R own code mx ret nm wsx hx0) : W.R = R := C.2.2.2.2.2.2.2.2.1
theorem Cx.ws (C : Cx W Z R own code mx ret nm wsx hx0) : W.ws = wsx := C.2.2.2.2.2.2.2.2.2.1
theorem Cx.h0 (C : Cx W Z R own code mx ret nm wsx hx0) : W.s.heap = hx0 := C.2.2.2.2.2.2.2.2.2.2
theorem Cx.old (C : Cx W Z R own code mx ret nm wsx hx0) {a : Addr} (q : a ∈ wsx) : Pw W a := Or.inl (C.ws ▸ q)
theorem Cx.new (C : Cx W Z R own code mx ret nm wsx hx0) {a : Addr} (q : hx0.size ≤ a) : Pw W a := Or.inr (C.h0 ▸ q)
theorem Out.st {S S' : State} (f : ∀ t, Stp W S' t → Stp W S t) (g : Out W Q S') : Out W Q S := by
  obtain ⟨s2, o, q, r⟩ := g
  exact ⟨s2, o, f _ q, r⟩
theorem Go.st (f : ∀ T locs, Sta0 W T locs k n → T.heap = h → ∀ t, Stp W (T.setTop (mkF W.m pc' L' S')) t → Stp W (T.setTop (mkF W.m pc L S)) t) (g : Go W Q h k n pc' L' S') : Go W Q h k n pc L S := fun T hT => by
  obtain ⟨locs, X, e, N⟩ := hT
  exact Out.st (f T locs X e) (g T ⟨locs, X, e, N⟩)
theorem Go.same {k' n' : Nat} (g : Go W Q h k n pc L S) (e1 : k' = k) (e2 : n' = n) : Go W Q h k' n' pc L S := by subst e1 e2; exact g
theorem Go.more {k' n' : Nat} (g : Go W Q h k' n' pc L S) (e1 : k ≤ k') (e2 : n ≤ n') : Go W Q h k n pc L S := fun T hT => by
  obtain ⟨locs, X, e, N⟩ := hT
  exact g T ⟨locs, ⟨X.admits, X.cas, X.clock, X.frames, X.room, X.hears, X.method, X.code, X.here, X.tail, X.warmed, X.limits, X.bytes, X.same.mono e1 e2⟩, e, N⟩
theorem Go.cell (g : hx0.size ≤ h.size → Go W Q h k n pc L S) (C : Cx W Z R own code mx ret nm wsx hx0) : Go W Q h k n pc L S := fun T hT => by
  obtain ⟨locs, X, e, N⟩ := hT
  have q : W.s.heap.size ≤ T.heap.size := X.same.2.1
  rw [C.h0, e] at q
  exact g q T ⟨locs, X, e, N⟩

theorem g_iadd (C : Cx W Z R own code mx ret nm wsx hx0) {x y : Int32} (hd : decode code pc = .ok (.iadd, 1)) (hp : pc + 1 = pc') (g : Go W Q h k n pc' L (.int (x + y) :: S)) : Go W Q h k n pc L (.int y :: .int x :: S) := by
  subst hp
  exact g.st fun T locs X e t kk => XS.iadd (g := mkF W.m pc L (.int y :: .int x :: S)) X.here C.x rfl (C.b hd) rfl kk
theorem g_isub (C : Cx W Z R own code mx ret nm wsx hx0) {x y : Int32} (hd : decode code pc = .ok (.isub, 1)) (hp : pc + 1 = pc') (g : Go W Q h k n pc' L (.int (x - y) :: S)) : Go W Q h k n pc L (.int y :: .int x :: S) := by
  subst hp
  exact g.st fun T locs X e t kk => XS.isub (g := mkF W.m pc L (.int y :: .int x :: S)) X.here C.x rfl (C.b hd) rfl kk
theorem g_imul (C : Cx W Z R own code mx ret nm wsx hx0) {x y : Int32} (hd : decode code pc = .ok (.imul, 1)) (hp : pc + 1 = pc') (g : Go W Q h k n pc' L (.int (x * y) :: S)) : Go W Q h k n pc L (.int y :: .int x :: S) := by
  subst hp
  exact g.st fun T locs X e t kk => XS.imul (g := mkF W.m pc L (.int y :: .int x :: S)) X.here C.x rfl (C.b hd) rfl kk
theorem g_iand (C : Cx W Z R own code mx ret nm wsx hx0) {x y : Int32} (hd : decode code pc = .ok (.iand, 1)) (hp : pc + 1 = pc') (g : Go W Q h k n pc' L (.int (x &&& y) :: S)) : Go W Q h k n pc L (.int y :: .int x :: S) := by
  subst hp
  exact g.st fun T locs X e t kk => XS.iand (g := mkF W.m pc L (.int y :: .int x :: S)) X.here C.x rfl (C.b hd) rfl kk
theorem g_ior (C : Cx W Z R own code mx ret nm wsx hx0) {x y : Int32} (hd : decode code pc = .ok (.ior, 1)) (hp : pc + 1 = pc') (g : Go W Q h k n pc' L (.int (x ||| y) :: S)) : Go W Q h k n pc L (.int y :: .int x :: S) := by
  subst hp
  exact g.st fun T locs X e t kk => XS.ior (g := mkF W.m pc L (.int y :: .int x :: S)) X.here C.x rfl (C.b hd) rfl kk
theorem g_ixor (C : Cx W Z R own code mx ret nm wsx hx0) {x y : Int32} (hd : decode code pc = .ok (.ixor, 1)) (hp : pc + 1 = pc') (g : Go W Q h k n pc' L (.int (x ^^^ y) :: S)) : Go W Q h k n pc L (.int y :: .int x :: S) := by
  subst hp
  exact g.st fun T locs X e t kk => XS.ixor (g := mkF W.m pc L (.int y :: .int x :: S)) X.here C.x rfl (C.b hd) rfl kk
theorem g_ishl (C : Cx W Z R own code mx ret nm wsx hx0) {x y : Int32} (hd : decode code pc = .ok (.ishl, 1)) (hp : pc + 1 = pc') (g : Go W Q h k n pc' L (.int (x <<< (y &&& 31)) :: S)) : Go W Q h k n pc L (.int y :: .int x :: S) := by
  subst hp
  exact g.st fun T locs X e t kk => XS.ishl (g := mkF W.m pc L (.int y :: .int x :: S)) X.here C.x rfl (C.b hd) rfl kk
theorem g_ishr (C : Cx W Z R own code mx ret nm wsx hx0) {x y : Int32} (hd : decode code pc = .ok (.ishr, 1)) (hp : pc + 1 = pc') (g : Go W Q h k n pc' L (.int (x >>> (y &&& 31)) :: S)) : Go W Q h k n pc L (.int y :: .int x :: S) := by
  subst hp
  exact g.st fun T locs X e t kk => XS.ishr (g := mkF W.m pc L (.int y :: .int x :: S)) X.here C.x rfl (C.b hd) rfl kk
theorem g_iushr (C : Cx W Z R own code mx ret nm wsx hx0) {x y : Int32} (hd : decode code pc = .ok (.iushr, 1)) (hp : pc + 1 = pc') (g : Go W Q h k n pc' L (.int ((x.toUInt32 >>> (y &&& 31).toUInt32).toInt32) :: S)) : Go W Q h k n pc L (.int y :: .int x :: S) := by
  subst hp
  exact g.st fun T locs X e t kk => XS.iushr (g := mkF W.m pc L (.int y :: .int x :: S)) X.here C.x rfl (C.b hd) rfl kk
theorem g_ladd (C : Cx W Z R own code mx ret nm wsx hx0) {x y : Int64} (hd : decode code pc = .ok (.ladd, 1)) (hp : pc + 1 = pc') (g : Go W Q h k n pc' L (.long (x + y) :: S)) : Go W Q h k n pc L (.long y :: .long x :: S) := by
  subst hp
  exact g.st fun T locs X e t kk => XS.ladd (g := mkF W.m pc L (.long y :: .long x :: S)) X.here C.x rfl (C.b hd) rfl kk
theorem g_lsub (C : Cx W Z R own code mx ret nm wsx hx0) {x y : Int64} (hd : decode code pc = .ok (.lsub, 1)) (hp : pc + 1 = pc') (g : Go W Q h k n pc' L (.long (x - y) :: S)) : Go W Q h k n pc L (.long y :: .long x :: S) := by
  subst hp
  exact g.st fun T locs X e t kk => XS.lsub (g := mkF W.m pc L (.long y :: .long x :: S)) X.here C.x rfl (C.b hd) rfl kk
theorem g_lmul (C : Cx W Z R own code mx ret nm wsx hx0) {x y : Int64} (hd : decode code pc = .ok (.lmul, 1)) (hp : pc + 1 = pc') (g : Go W Q h k n pc' L (.long (x * y) :: S)) : Go W Q h k n pc L (.long y :: .long x :: S) := by
  subst hp
  exact g.st fun T locs X e t kk => XS.lmul (g := mkF W.m pc L (.long y :: .long x :: S)) X.here C.x rfl (C.b hd) rfl kk
theorem g_land (C : Cx W Z R own code mx ret nm wsx hx0) {x y : Int64} (hd : decode code pc = .ok (.land, 1)) (hp : pc + 1 = pc') (g : Go W Q h k n pc' L (.long (x &&& y) :: S)) : Go W Q h k n pc L (.long y :: .long x :: S) := by
  subst hp
  exact g.st fun T locs X e t kk => XS.land (g := mkF W.m pc L (.long y :: .long x :: S)) X.here C.x rfl (C.b hd) rfl kk
theorem g_lor (C : Cx W Z R own code mx ret nm wsx hx0) {x y : Int64} (hd : decode code pc = .ok (.lor, 1)) (hp : pc + 1 = pc') (g : Go W Q h k n pc' L (.long (x ||| y) :: S)) : Go W Q h k n pc L (.long y :: .long x :: S) := by
  subst hp
  exact g.st fun T locs X e t kk => XS.lor (g := mkF W.m pc L (.long y :: .long x :: S)) X.here C.x rfl (C.b hd) rfl kk
theorem g_lxor (C : Cx W Z R own code mx ret nm wsx hx0) {x y : Int64} (hd : decode code pc = .ok (.lxor, 1)) (hp : pc + 1 = pc') (g : Go W Q h k n pc' L (.long (x ^^^ y) :: S)) : Go W Q h k n pc L (.long y :: .long x :: S) := by
  subst hp
  exact g.st fun T locs X e t kk => XS.lxor (g := mkF W.m pc L (.long y :: .long x :: S)) X.here C.x rfl (C.b hd) rfl kk
theorem g_lshl (C : Cx W Z R own code mx ret nm wsx hx0) {x : Int64} {y : Int32} (hd : decode code pc = .ok (.lshl, 1)) (hp : pc + 1 = pc') (g : Go W Q h k n pc' L (.long (x <<< (y &&& 0x3f).toInt64) :: S)) : Go W Q h k n pc L (.int y :: .long x :: S) := by
  subst hp
  exact g.st fun T locs X e t kk => XS.lshl (g := mkF W.m pc L (.int y :: .long x :: S)) X.here C.x rfl (C.b hd) rfl kk
theorem g_lshr (C : Cx W Z R own code mx ret nm wsx hx0) {x : Int64} {y : Int32} (hd : decode code pc = .ok (.lshr, 1)) (hp : pc + 1 = pc') (g : Go W Q h k n pc' L (.long (x >>> (y &&& 0x3f).toInt64) :: S)) : Go W Q h k n pc L (.int y :: .long x :: S) := by
  subst hp
  exact g.st fun T locs X e t kk => XS.lshr (g := mkF W.m pc L (.int y :: .long x :: S)) X.here C.x rfl (C.b hd) rfl kk
theorem g_lushr (C : Cx W Z R own code mx ret nm wsx hx0) {x : Int64} {y : Int32} (hd : decode code pc = .ok (.lushr, 1)) (hp : pc + 1 = pc') (g : Go W Q h k n pc' L (.long ((x.toUInt64 >>> (y &&& 0x3f).toInt64.toUInt64).toInt64) :: S)) : Go W Q h k n pc L (.int y :: .long x :: S) := by
  subst hp
  exact g.st fun T locs X e t kk => XS.lushr (g := mkF W.m pc L (.int y :: .long x :: S)) X.here C.x rfl (C.b hd) rfl kk
theorem g_idiv (C : Cx W Z R own code mx ret nm wsx hx0) {x y : Int32} (hd : decode code pc = .ok (.idiv, 1)) (hp : pc + 1 = pc') (hy : y ≠ 0) (g : Go W Q h k n pc' L (.int (x / y) :: S)) : Go W Q h k n pc L (.int y :: .int x :: S) := by
  subst hp
  exact g.st fun T locs X e t kk => XS.idiv (g := mkF W.m pc L (.int y :: .int x :: S)) X.here C.x rfl (C.b hd) rfl hy kk
theorem g_irem (C : Cx W Z R own code mx ret nm wsx hx0) {x y : Int32} (hd : decode code pc = .ok (.irem, 1)) (hp : pc + 1 = pc') (hy : y ≠ 0) (g : Go W Q h k n pc' L (.int (x % y) :: S)) : Go W Q h k n pc L (.int y :: .int x :: S) := by
  subst hp
  exact g.st fun T locs X e t kk => iremM (g := mkF W.m pc L (.int y :: .int x :: S)) X C.x rfl (C.b hd) rfl hy kk
theorem g_ldiv (C : Cx W Z R own code mx ret nm wsx hx0) {x y : Int64} (hd : decode code pc = .ok (.ldiv, 1)) (hp : pc + 1 = pc') (hy : y ≠ 0) (g : Go W Q h k n pc' L (.long (x / y) :: S)) : Go W Q h k n pc L (.long y :: .long x :: S) := by
  subst hp
  exact g.st fun T locs X e t kk => XS.ldiv (g := mkF W.m pc L (.long y :: .long x :: S)) X.here C.x rfl (C.b hd) rfl hy kk
theorem g_lrem (C : Cx W Z R own code mx ret nm wsx hx0) {x y : Int64} (hd : decode code pc = .ok (.lrem, 1)) (hp : pc + 1 = pc') (hy : y ≠ 0) (g : Go W Q h k n pc' L (.long (x % y) :: S)) : Go W Q h k n pc L (.long y :: .long x :: S) := by
  subst hp
  rw [← lrem_mod] at g
  exact g.st fun T locs X e t kk => XS.lrem (g := mkF W.m pc L (.long y :: .long x :: S)) X.here C.x rfl (C.b hd) rfl hy kk
theorem g_ineg (C : Cx W Z R own code mx ret nm wsx hx0) {x : Int32} (hd : decode code pc = .ok (.ineg, 1)) (hp : pc + 1 = pc') (g : Go W Q h k n pc' L (.int (-x) :: S)) : Go W Q h k n pc L (.int x :: S) := by
  subst hp
  exact g.st fun T locs X e t kk => XS.ineg (g := mkF W.m pc L (.int x :: S)) X.here C.x rfl (C.b hd) rfl kk
theorem g_lneg (C : Cx W Z R own code mx ret nm wsx hx0) {x : Int64} (hd : decode code pc = .ok (.lneg, 1)) (hp : pc + 1 = pc') (g : Go W Q h k n pc' L (.long (-x) :: S)) : Go W Q h k n pc L (.long x :: S) := by
  subst hp
  exact g.st fun T locs X e t kk => XS.lneg (g := mkF W.m pc L (.long x :: S)) X.here C.x rfl (C.b hd) rfl kk
theorem g_i2l (C : Cx W Z R own code mx ret nm wsx hx0) {x : Int32} (hd : decode code pc = .ok (.i2l, 1)) (hp : pc + 1 = pc') (g : Go W Q h k n pc' L (.long (x.toInt64) :: S)) : Go W Q h k n pc L (.int x :: S) := by
  subst hp
  exact g.st fun T locs X e t kk => XS.i2l (g := mkF W.m pc L (.int x :: S)) X.here C.x rfl (C.b hd) rfl kk
theorem g_l2i (C : Cx W Z R own code mx ret nm wsx hx0) {x : Int64} (hd : decode code pc = .ok (.l2i, 1)) (hp : pc + 1 = pc') (g : Go W Q h k n pc' L (.int (x.toInt32) :: S)) : Go W Q h k n pc L (.long x :: S) := by
  subst hp
  exact g.st fun T locs X e t kk => XS.l2i (g := mkF W.m pc L (.long x :: S)) X.here C.x rfl (C.b hd) rfl kk
theorem g_i2b (C : Cx W Z R own code mx ret nm wsx hx0) {x : Int32} (hd : decode code pc = .ok (.i2b, 1)) (hp : pc + 1 = pc') (g : Go W Q h k n pc' L (.int (x.toInt8.toInt32) :: S)) : Go W Q h k n pc L (.int x :: S) := by
  subst hp
  exact g.st fun T locs X e t kk => XS.i2b (g := mkF W.m pc L (.int x :: S)) X.here C.x rfl (C.b hd) rfl kk
theorem g_i2c (C : Cx W Z R own code mx ret nm wsx hx0) {x : Int32} (hd : decode code pc = .ok (.i2c, 1)) (hp : pc + 1 = pc') (g : Go W Q h k n pc' L (.int (x.toUInt32.toUInt16.toUInt32.toInt32) :: S)) : Go W Q h k n pc L (.int x :: S) := by
  subst hp
  exact g.st fun T locs X e t kk => XS.i2c (g := mkF W.m pc L (.int x :: S)) X.here C.x rfl (C.b hd) rfl kk
theorem g_i2s (C : Cx W Z R own code mx ret nm wsx hx0) {x : Int32} (hd : decode code pc = .ok (.i2s, 1)) (hp : pc + 1 = pc') (g : Go W Q h k n pc' L (.int (x.toInt16.toInt32) :: S)) : Go W Q h k n pc L (.int x :: S) := by
  subst hp
  exact g.st fun T locs X e t kk => XS.i2s (g := mkF W.m pc L (.int x :: S)) X.here C.x rfl (C.b hd) rfl kk
theorem g_iconst (C : Cx W Z R own code mx ret nm wsx hx0) {i : Int} {z : Int32} (hd : decode code pc = .ok (.iconst i, 1)) (hp : pc + 1 = pc') (hz : Int32.ofInt i = z) (g : Go W Q h k n pc' L (.int z :: S)) : Go W Q h k n pc L S := by
  subst hp hz
  exact g.st fun T locs X e t kk => XS.iconst (g := mkF W.m pc L S) X.here C.x rfl (C.b hd) kk
theorem g_bipush (C : Cx W Z R own code mx ret nm wsx hx0) {i : Int} {z : Int32} (hd : decode code pc = .ok (.bipush i, 2)) (hp : pc + 2 = pc') (hz : (Int8.ofInt i).toInt32 = z) (g : Go W Q h k n pc' L (.int z :: S)) : Go W Q h k n pc L S := by
  subst hp hz
  exact g.st fun T locs X e t kk => XS.bipush (g := mkF W.m pc L S) X.here C.x rfl (C.b hd) kk
theorem g_sipush (C : Cx W Z R own code mx ret nm wsx hx0) {i : Int} {z : Int32} (hd : decode code pc = .ok (.sipush i, 3)) (hp : pc + 3 = pc') (hz : (Int16.ofInt i).toInt32 = z) (g : Go W Q h k n pc' L (.int z :: S)) : Go W Q h k n pc L S := by
  subst hp hz
  exact g.st fun T locs X e t kk => XS.sipush (g := mkF W.m pc L S) X.here C.x rfl (C.b hd) kk
theorem g_lconst (C : Cx W Z R own code mx ret nm wsx hx0) {i : Fin 2} {z : Int64} (hd : decode code pc = .ok (.lconst i, 1)) (hp : pc + 1 = pc') (hz : Int64.ofNat i = z) (g : Go W Q h k n pc' L (.long z :: S)) : Go W Q h k n pc L S := by
  subst hp hz
  exact g.st fun T locs X e t kk => XS.lconst (g := mkF W.m pc L S) X.here C.x rfl (C.b hd) kk
theorem g_aconst_null (C : Cx W Z R own code mx ret nm wsx hx0)  (hd : decode code pc = .ok (.aconst_null, 1)) (hp : pc + 1 = pc') (g : Go W Q h k n pc' L (.null :: S)) : Go W Q h k n pc L (S) := by
  subst hp
  exact g.st fun T locs X e t kk => XS.aconstNull (g := mkF W.m pc L (S)) X.here C.x rfl (C.b hd) kk
theorem g_dup (C : Cx W Z R own code mx ret nm wsx hx0) {x : Value} (hd : decode code pc = .ok (.dup, 1)) (hp : pc + 1 = pc') (hc : x.category = 1) (g : Go W Q h k n pc' L (x :: x :: S)) : Go W Q h k n pc L (x :: S) := by
  subst hp
  exact g.st fun T locs X e t kk => XS.dup (g := mkF W.m pc L (x :: S)) X.here C.x rfl (C.b hd) rfl hc kk
theorem g_dup_x1 (C : Cx W Z R own code mx ret nm wsx hx0) {x y : Value} (hd : decode code pc = .ok (.dup_x1, 1)) (hp : pc + 1 = pc') (hc : x.category = 1) (hc' : y.category = 1) (g : Go W Q h k n pc' L (x :: y :: x :: S)) : Go W Q h k n pc L (x :: y :: S) := by
  subst hp
  exact g.st fun T locs X e t kk => XS.dupX1 (g := mkF W.m pc L (x :: y :: S)) X.here C.x rfl (C.b hd) rfl hc hc' kk
theorem g_dup2 (C : Cx W Z R own code mx ret nm wsx hx0) {x y : Value} (hd : decode code pc = .ok (.dup2, 1)) (hp : pc + 1 = pc') (hc : x.category = 1) (hc' : y.category = 1) (g : Go W Q h k n pc' L (x :: y :: x :: y :: S)) : Go W Q h k n pc L (x :: y :: S) := by
  subst hp
  exact g.st fun T locs X e t kk => XT.dup2 (g := mkF W.m pc L (x :: y :: S)) X.here C.x rfl (C.b hd) rfl hc hc' kk
theorem g_dup2L (C : Cx W Z R own code mx ret nm wsx hx0) {x : Int64} (hd : decode code pc = .ok (.dup2, 1)) (hp : pc + 1 = pc') (g : Go W Q h k n pc' L (.long x :: .long x :: S)) : Go W Q h k n pc L (.long x :: S) := by
  subst hp
  exact g.st fun T locs X e t kk => XT.dup2L (g := mkF W.m pc L (.long x :: S)) X.here C.x rfl (C.b hd) rfl kk
theorem g_pop (C : Cx W Z R own code mx ret nm wsx hx0) {x : Value} (hd : decode code pc = .ok (.pop, 1)) (hp : pc + 1 = pc') (hc : x.category = 1) (g : Go W Q h k n pc' L (S)) : Go W Q h k n pc L (x :: S) := by
  subst hp
  exact g.st fun T locs X e t kk => XS.pop (g := mkF W.m pc L (x :: S)) X.here C.x rfl (C.b hd) rfl hc kk
theorem g_iload (C : Cx W Z R own code mx ret nm wsx hx0) {i : Nat} {x : Int32} (hd : decode code pc = .ok (.iload i, 2)) (hp : pc + 2 = pc') (hl : L[i]? = some (.val (.int x))) (g : Go W Q h k n pc' L (.int x :: S)) : Go W Q h k n pc L (S) := by
  subst hp
  exact g.st fun T locs X e t kk => XS.iload (g := mkF W.m pc L (S)) X.here C.x rfl (C.b hd) hl kk
theorem g_iloadN (C : Cx W Z R own code mx ret nm wsx hx0) {i : Fin 4} {x : Int32} (hd : decode code pc = .ok (.iload_n i, 1)) (hp : pc + 1 = pc') (hl : L[i.val]? = some (.val (.int x))) (g : Go W Q h k n pc' L (.int x :: S)) : Go W Q h k n pc L (S) := by
  subst hp
  exact g.st fun T locs X e t kk => XS.iloadN (g := mkF W.m pc L (S)) X.here C.x rfl (C.b hd) hl kk
theorem g_lload (C : Cx W Z R own code mx ret nm wsx hx0) {i : Nat} {x : Int64} (hd : decode code pc = .ok (.lload i, 2)) (hp : pc + 2 = pc') (hl : L[i]? = some (.val (.long x))) (g : Go W Q h k n pc' L (.long x :: S)) : Go W Q h k n pc L (S) := by
  subst hp
  exact g.st fun T locs X e t kk => XS.lload (g := mkF W.m pc L (S)) X.here C.x rfl (C.b hd) hl kk
theorem g_lloadN (C : Cx W Z R own code mx ret nm wsx hx0) {i : Fin 4} {x : Int64} (hd : decode code pc = .ok (.lload_n i, 1)) (hp : pc + 1 = pc') (hl : L[i.val]? = some (.val (.long x))) (g : Go W Q h k n pc' L (.long x :: S)) : Go W Q h k n pc L (S) := by
  subst hp
  exact g.st fun T locs X e t kk => XS.lloadN (g := mkF W.m pc L (S)) X.here C.x rfl (C.b hd) hl kk
theorem g_aload (C : Cx W Z R own code mx ret nm wsx hx0) {i : Nat} {x : Value} (hd : decode code pc = .ok (.aload i, 2)) (hp : pc + 2 = pc') (hl : L[i]? = some (.val x)) (hv : x.isRef = true) (g : Go W Q h k n pc' L (x :: S)) : Go W Q h k n pc L (S) := by
  subst hp
  exact g.st fun T locs X e t kk => XS.aload (g := mkF W.m pc L (S)) X.here C.x rfl (C.b hd) hl hv kk
theorem g_istore (C : Cx W Z R own code mx ret nm wsx hx0) {i : Nat} {x : Int32} (hd : decode code pc = .ok (.istore i, 2)) (hp : pc + 2 = pc') (hl : storeLocals L i (.int x) = some L') (g : Go W Q h k n pc' L' (S)) : Go W Q h k n pc L (.int x :: S) := by
  subst hp
  exact g.st fun T locs X e t kk => XS.istore (g := mkF W.m pc L (.int x :: S)) X.here C.x rfl (C.b hd) rfl hl kk
theorem g_lstore (C : Cx W Z R own code mx ret nm wsx hx0) {i : Nat} {x : Int64} (hd : decode code pc = .ok (.lstore i, 2)) (hp : pc + 2 = pc') (hl : storeLocals L i (.long x) = some L') (g : Go W Q h k n pc' L' (S)) : Go W Q h k n pc L (.long x :: S) := by
  subst hp
  exact g.st fun T locs X e t kk => XS.lstore (g := mkF W.m pc L (.long x :: S)) X.here C.x rfl (C.b hd) rfl hl kk
theorem g_astore (C : Cx W Z R own code mx ret nm wsx hx0) {i : Nat} {x : Value} (hd : decode code pc = .ok (.astore i, 2)) (hp : pc + 2 = pc') (hv : x.isRef = true) (hl : storeLocals L i x = some L') (g : Go W Q h k n pc' L' (S)) : Go W Q h k n pc L (x :: S) := by
  subst hp
  exact g.st fun T locs X e t kk => XS.astore (g := mkF W.m pc L (x :: S)) X.here C.x rfl (C.b hd) rfl hv hl kk
theorem g_aloadN (C : Cx W Z R own code mx ret nm wsx hx0) {i : Fin 4} {x : Value} (hd : decode code pc = .ok (.aload_n i, 1)) (hp : pc + 1 = pc') (hl : L[i.val]? = some (.val x)) (hv : x.isRef = true) (g : Go W Q h k n pc' L (x :: S)) : Go W Q h k n pc L (S) := by
  subst hp
  exact g.st fun T locs X e t kk => XS.aloadN (g := mkF W.m pc L (S)) X.here C.x rfl (C.b hd) hl hv kk
theorem g_istoreN (C : Cx W Z R own code mx ret nm wsx hx0) {i : Fin 4} {x : Int32} (hd : decode code pc = .ok (.istore_n i, 1)) (hp : pc + 1 = pc') (hl : storeLocals L i.val (.int x) = some L') (g : Go W Q h k n pc' L' (S)) : Go W Q h k n pc L (.int x :: S) := by
  subst hp
  exact g.st fun T locs X e t kk => XS.istoreN (g := mkF W.m pc L (.int x :: S)) X.here C.x rfl (C.b hd) rfl hl kk
theorem g_lstoreN (C : Cx W Z R own code mx ret nm wsx hx0) {i : Fin 4} {x : Int64} (hd : decode code pc = .ok (.lstore_n i, 1)) (hp : pc + 1 = pc') (hl : storeLocals L i.val (.long x) = some L') (g : Go W Q h k n pc' L' (S)) : Go W Q h k n pc L (.long x :: S) := by
  subst hp
  exact g.st fun T locs X e t kk => XS.lstoreN (g := mkF W.m pc L (.long x :: S)) X.here C.x rfl (C.b hd) rfl hl kk
theorem g_astoreN (C : Cx W Z R own code mx ret nm wsx hx0) {i : Fin 4} {x : Value} (hd : decode code pc = .ok (.astore_n i, 1)) (hp : pc + 1 = pc') (hv : x.isRef = true) (hl : storeLocals L i.val x = some L') (g : Go W Q h k n pc' L' (S)) : Go W Q h k n pc L (x :: S) := by
  subst hp
  exact g.st fun T locs X e t kk => XS.astoreN (g := mkF W.m pc L (x :: S)) X.here C.x rfl (C.b hd) rfl hv hl kk
theorem g_iinc (C : Cx W Z R own code mx ret nm wsx hx0) {i : Nat} {cst : Int} {x z : Int32} (hd : decode code pc = .ok (.iinc i cst, 3)) (hp : pc + 3 = pc') (hl : L[i]? = some (.val (.int x))) (hz : x + Int32.ofInt cst = z) (hl' : storeLocals L i (.int z) = some L') (g : Go W Q h k n pc' L' (S)) : Go W Q h k n pc L (S) := by
  subst hp
  exact g.st fun T locs X e t kk => XS.iinc (g := mkF W.m pc L (S)) X.here C.x rfl (C.b hd) hl (hz ▸ hl') kk
theorem g_goto (C : Cx W Z R own code mx ret nm wsx hx0) {o : Int} (hd : decode code pc = .ok (.goto o, 3)) (ho : 0 ≤ (pc : Int) + o) (hp : ((pc : Int) + o).toNat = pc') (g : Go W Q h k n pc' L S) : Go W Q h k n pc L S :=
  g.st fun T locs X e t kk => XS.goto (g := mkF W.m pc L S) X.here C.x rfl rfl (C.b hd) ho hp kk
theorem g_ldcI (C : Cx W Z R own code mx ret nm wsx hx0) {i : Nat} {z : Int32} (hd : decode code pc = .ok (.ldc i, 2)) (hp : pc + 2 = pc') (w : (Jvm.Cond.constant own i z).before a0 Z = true) (g : Go W Q h k n pc' L (.int z :: S)) : Go W Q h k n pc L S := by
  subst hp
  exact g.st fun T locs X e t kk => X.ldcInt C.x C.o (mvT C.z w) (g := mkF W.m pc L S) rfl (C.b hd) t kk
theorem g_ldcwI (C : Cx W Z R own code mx ret nm wsx hx0) {i : Nat} {z : Int32} (hd : decode code pc = .ok (.ldc_w i, 3)) (hp : pc + 3 = pc') (w : (Jvm.Cond.constant own i z).before a0 Z = true) (g : Go W Q h k n pc' L (.int z :: S)) : Go W Q h k n pc L S := by
  subst hp
  exact g.st fun T locs X e t kk => X.ldcwInt C.x C.o (mvT C.z w) (g := mkF W.m pc L S) rfl (C.b hd) t kk
theorem g_ldc2L (C : Cx W Z R own code mx ret nm wsx hx0) {i : Nat} {z : Int64} (hd : decode code pc = .ok (.ldc2_w i, 3)) (hp : pc + 3 = pc') (w : (Jvm.Cond.constantLong own i z).before a0 Z = true) (g : Go W Q h k n pc' L (.long z :: S)) : Go W Q h k n pc L S := by
  subst hp
  exact g.st fun T locs X e t kk => X.ldc2Long C.x C.o (mvT C.z w) (g := mkF W.m pc L S) rfl (C.b hd) t kk
/-- what a branch asks of two integers -/
def icp : ClassFile.Cond → Int → Int → Prop
  | .eq, x, y => x = y
  | .ne, x, y => ¬ x = y
  | .lt, x, y => x < y
  | .ge, x, y => y ≤ x
  | .gt, x, y => y < x
  | .le, x, y => x ≤ y
instance instIcp : (cd : ClassFile.Cond) → (x y : Int) → Decidable (icp cd x y)
  | .eq, x, y => inferInstanceAs (Decidable (x = y))
  | .ne, x, y => inferInstanceAs (Decidable (¬ x = y))
  | .lt, x, y => inferInstanceAs (Decidable (x < y))
  | .ge, x, y => inferInstanceAs (Decidable (y ≤ x))
  | .gt, x, y => inferInstanceAs (Decidable (y < x))
  | .le, x, y => inferInstanceAs (Decidable (x ≤ y))
theorem icp_eq (cd : ClassFile.Cond) (x y : Int32) : if_icmp.holds cd x y = decide (icp cd x.toInt y.toInt) := by
  rw [Bool.eq_iff_iff, decide_eq_true_iff]
  cases cd <;> simp [if_icmp.holds, icp, Int32.lt_iff_toInt_lt, Int32.le_iff_toInt_le, Int32.toInt_inj]
theorem icp_long (cd : ClassFile.Cond) (x y : Int64) : ifCond.holds cd (lcmpW x y) = decide (icp cd x.toInt y.toInt) := by
  rw [if0, icp_eq, Bool.eq_iff_iff, decide_eq_true_iff, decide_eq_true_iff]
  have c := c_lcmp x y
  have z : (0 : Int32).toInt = 0 := rfl
  rw [z]
  rcases Int.lt_trichotomy x.toInt y.toInt with q | q | q
  · rw [c.1 q]; cases cd <;> simp only [icp] <;> omega
  · rw [c.2.1 q]; cases cd <;> simp only [icp] <;> first | omega | simp [q]
  · rw [c.2.2 q]; cases cd <;> simp only [icp] <;> omega

theorem g_icmpY (C : Cx W Z R own code mx ret nm wsx hx0) {cd : ClassFile.Cond} {o : Int} {x y : Int32} {xi yi : Int} (hd : decode code pc = .ok (.if_icmp cd o, 3)) (ho : 0 ≤ (pc : Int) + o) (hp1 : ((pc : Int) + o).toNat = pc1) (hx : x.toInt = xi) (hy : y.toInt = yi) (q : icp cd xi yi) (g : Go W Q h k n pc1 L S) : Go W Q h k n pc L (.int y :: .int x :: S) := by
  subst hx hy
  exact g.st fun T locs X e t kk => XS.icmpYes (g := mkF W.m pc L (.int y :: .int x :: S)) X.here C.x rfl rfl (C.b hd) rfl ((icp_eq cd x y).trans (decide_eq_true q)) ho hp1 kk
theorem g_icmpN (C : Cx W Z R own code mx ret nm wsx hx0) {cd : ClassFile.Cond} {o : Int} {x y : Int32} {xi yi : Int} (hd : decode code pc = .ok (.if_icmp cd o, 3)) (hp2 : pc + 3 = pc2) (hx : x.toInt = xi) (hy : y.toInt = yi) (q : ¬ (icp cd xi yi)) (g : Go W Q h k n pc2 L S) : Go W Q h k n pc L (.int y :: .int x :: S) := by
  subst hx hy hp2
  exact g.st fun T locs X e t kk => XS.icmpNo (g := mkF W.m pc L (.int y :: .int x :: S)) X.here C.x rfl (C.b hd) rfl ((icp_eq cd x y).trans (decide_eq_false q)) kk
theorem g_icmp (C : Cx W Z R own code mx ret nm wsx hx0) {cd : ClassFile.Cond} {o : Int} {x y : Int32} {xi yi : Int} (hd : decode code pc = .ok (.if_icmp cd o, 3)) (ho : 0 ≤ (pc : Int) + o) (hp1 : ((pc : Int) + o).toNat = pc1) (hp2 : pc + 3 = pc2) (hx : x.toInt = xi) (hy : y.toInt = yi) (g1 : icp cd xi yi → Go W Q h k n pc1 L S) (g2 : ¬ (icp cd xi yi) → Go W Q h k n pc2 L S) : Go W Q h k n pc L (.int y :: .int x :: S) := by
  by_cases q : icp cd xi yi
  · exact g_icmpY C hd ho hp1 hx hy q (g1 q)
  · exact g_icmpN C hd hp2 hx hy q (g2 q)
theorem g_ifY (C : Cx W Z R own code mx ret nm wsx hx0) {cd : ClassFile.Cond} {o : Int} {x : Int32} {xi : Int} (hd : decode code pc = .ok (.ifCond cd o, 3)) (ho : 0 ≤ (pc : Int) + o) (hp1 : ((pc : Int) + o).toNat = pc1) (hx : x.toInt = xi) (q : icp cd xi 0) (g : Go W Q h k n pc1 L S) : Go W Q h k n pc L (.int x :: S) := by
  subst hx
  exact g.st fun T locs X e t kk => XS.ifYes (g := mkF W.m pc L (.int x :: S)) X.here C.x rfl rfl (C.b hd) rfl ((if0 cd x).trans ((icp_eq cd x 0).trans (decide_eq_true q))) ho hp1 kk
theorem g_ifN (C : Cx W Z R own code mx ret nm wsx hx0) {cd : ClassFile.Cond} {o : Int} {x : Int32} {xi : Int} (hd : decode code pc = .ok (.ifCond cd o, 3)) (hp2 : pc + 3 = pc2) (hx : x.toInt = xi) (q : ¬ (icp cd xi 0)) (g : Go W Q h k n pc2 L S) : Go W Q h k n pc L (.int x :: S) := by
  subst hx hp2
  exact g.st fun T locs X e t kk => XS.ifNo (g := mkF W.m pc L (.int x :: S)) X.here C.x rfl (C.b hd) rfl ((if0 cd x).trans ((icp_eq cd x 0).trans (decide_eq_false q))) kk
theorem g_if (C : Cx W Z R own code mx ret nm wsx hx0) {cd : ClassFile.Cond} {o : Int} {x : Int32} {xi : Int} (hd : decode code pc = .ok (.ifCond cd o, 3)) (ho : 0 ≤ (pc : Int) + o) (hp1 : ((pc : Int) + o).toNat = pc1) (hp2 : pc + 3 = pc2) (hx : x.toInt = xi) (g1 : icp cd xi 0 → Go W Q h k n pc1 L S) (g2 : ¬ (icp cd xi 0) → Go W Q h k n pc2 L S) : Go W Q h k n pc L (.int x :: S) := by
  by_cases q : icp cd xi 0
  · exact g_ifY C hd ho hp1 hx q (g1 q)
  · exact g_ifN C hd hp2 hx q (g2 q)
/-- lcmp and the branch behind it -/
theorem g_lcmpY (C : Cx W Z R own code mx ret nm wsx hx0) {cd : ClassFile.Cond} {o : Int} {x y : Int64} {xi yi : Int} (hd : decode code pc = .ok (.lcmp, 1)) (hd' : decode code pc' = .ok (.ifCond cd o, 3)) (hp : pc + 1 = pc') (ho : 0 ≤ (pc' : Int) + o) (hp1 : ((pc' : Int) + o).toNat = pc1) (hx : x.toInt = xi) (hy : y.toInt = yi) (q : icp cd xi yi) (g : Go W Q h k n pc1 L S) : Go W Q h k n pc L (.long y :: .long x :: S) := by
  subst hp hx hy
  have g' : Go W Q h k n (pc + 1) L (.int (lcmpW x y) :: S) := g.st fun T locs X e t kk => XS.ifYes (g := mkF W.m (pc + 1) L (.int (lcmpW x y) :: S)) X.here C.x rfl rfl (C.b hd') rfl ((icp_long cd x y).trans (decide_eq_true q)) ho hp1 kk
  exact g'.st fun T locs X e t kk => XS.lcmp (g := mkF W.m pc L (.long y :: .long x :: S)) X.here C.x rfl (C.b hd) rfl kk
theorem g_lcmpN (C : Cx W Z R own code mx ret nm wsx hx0) {cd : ClassFile.Cond} {o : Int} {x y : Int64} {xi yi : Int} (hd : decode code pc = .ok (.lcmp, 1)) (hd' : decode code pc' = .ok (.ifCond cd o, 3)) (hp : pc + 1 = pc') (hp2 : pc' + 3 = pc2) (hx : x.toInt = xi) (hy : y.toInt = yi) (q : ¬ icp cd xi yi) (g : Go W Q h k n pc2 L S) : Go W Q h k n pc L (.long y :: .long x :: S) := by
  subst hp hx hy hp2
  have g' : Go W Q h k n (pc + 1) L (.int (lcmpW x y) :: S) := g.st fun T locs X e t kk => XS.ifNo (g := mkF W.m (pc + 1) L (.int (lcmpW x y) :: S)) X.here C.x rfl (C.b hd') rfl ((icp_long cd x y).trans (decide_eq_false q)) kk
  exact g'.st fun T locs X e t kk => XS.lcmp (g := mkF W.m pc L (.long y :: .long x :: S)) X.here C.x rfl (C.b hd) rfl kk
theorem g_lcmp (C : Cx W Z R own code mx ret nm wsx hx0) {cd : ClassFile.Cond} {o : Int} {x y : Int64} {xi yi : Int} (hd : decode code pc = .ok (.lcmp, 1)) (hd' : decode code pc' = .ok (.ifCond cd o, 3)) (hp : pc + 1 = pc') (ho : 0 ≤ (pc' : Int) + o) (hp1 : ((pc' : Int) + o).toNat = pc1) (hp2 : pc' + 3 = pc2) (hx : x.toInt = xi) (hy : y.toInt = yi) (g1 : icp cd xi yi → Go W Q h k n pc1 L S) (g2 : ¬ icp cd xi yi → Go W Q h k n pc2 L S) : Go W Q h k n pc L (.long y :: .long x :: S) := by
  by_cases q : icp cd xi yi
  · exact g_lcmpY C hd hd' hp ho hp1 hx hy q (g1 q)
  · exact g_lcmpN C hd hd' hp hp2 hx hy q (g2 q)
theorem icp_b0 {P : Prop} [Decidable P] : icp .eq (b2i P).toInt 0 ↔ ¬ P := by
  show (b2i P).toInt = 0 ↔ ¬ P
  rw [b2i_toInt]; split <;> simp [*]
theorem icp_b1 {P : Prop} [Decidable P] : icp .ne (b2i P).toInt 0 ↔ P := by
  show ¬ (b2i P).toInt = 0 ↔ P
  rw [b2i_toInt]; split <;> simp [*]
/-- ifeq on a truth value -/
theorem g_ifeqb (C : Cx W Z R own code mx ret nm wsx hx0) {o : Int} {x : Int32} {P : Prop} [Decidable P] (hd : decode code pc = .ok (.ifCond .eq o, 3)) (ho : 0 ≤ (pc : Int) + o) (hp1 : ((pc : Int) + o).toNat = pc1) (hp2 : pc + 3 = pc2) (hx : x = b2i P) (g1 : ¬ P → Go W Q h k n pc1 L S) (g2 : P → Go W Q h k n pc2 L S) : Go W Q h k n pc L (.int x :: S) := by
  subst hx
  exact g_if C hd ho hp1 hp2 rfl (fun q => g1 (icp_b0.mp q)) (fun q => g2 (Decidable.not_not.mp fun z => q (icp_b0.mpr z)))
/-- ifne on a truth value -/
theorem g_ifneb (C : Cx W Z R own code mx ret nm wsx hx0) {o : Int} {x : Int32} {P : Prop} [Decidable P] (hd : decode code pc = .ok (.ifCond .ne o, 3)) (ho : 0 ≤ (pc : Int) + o) (hp1 : ((pc : Int) + o).toNat = pc1) (hp2 : pc + 3 = pc2) (hx : x = b2i P) (g1 : P → Go W Q h k n pc1 L S) (g2 : ¬ P → Go W Q h k n pc2 L S) : Go W Q h k n pc L (.int x :: S) := by
  subst hx
  exact g_if C hd ho hp1 hp2 rfl (fun q => g1 (icp_b1.mp q)) (fun q => g2 fun z => q (icp_b1.mpr z))
theorem g_icmpbeq (C : Cx W Z R own code mx ret nm wsx hx0) {o : Int} {x y : Int32} {P P' : Prop} [Decidable P] [Decidable P'] (hd : decode code pc = .ok (.if_icmp .eq o, 3)) (ho : 0 ≤ (pc : Int) + o) (hp1 : ((pc : Int) + o).toNat = pc1) (hp2 : pc + 3 = pc2) (hx : x = b2i P) (hy : y = b2i P') (g1 : (P ↔ P') → Go W Q h k n pc1 L S) (g2 : ¬ (P ↔ P') → Go W Q h k n pc2 L S) : Go W Q h k n pc L (.int y :: .int x :: S) := by
  subst hx hy
  exact g_icmp C hd ho hp1 hp2 rfl rfl (fun q => g1 (b2i_inj.mp (Int32.toInt_inj.mp q))) (fun q => g2 fun z => q (congrArg Int32.toInt (b2i_inj.mpr z)))
theorem g_icmpbne (C : Cx W Z R own code mx ret nm wsx hx0) {o : Int} {x y : Int32} {P P' : Prop} [Decidable P] [Decidable P'] (hd : decode code pc = .ok (.if_icmp .ne o, 3)) (ho : 0 ≤ (pc : Int) + o) (hp1 : ((pc : Int) + o).toNat = pc1) (hp2 : pc + 3 = pc2) (hx : x = b2i P) (hy : y = b2i P') (g1 : ¬ (P ↔ P') → Go W Q h k n pc1 L S) (g2 : (P ↔ P') → Go W Q h k n pc2 L S) : Go W Q h k n pc L (.int y :: .int x :: S) := by
  subst hx hy
  exact g_icmp C hd ho hp1 hp2 rfl rfl (fun q => g1 fun z => q (congrArg Int32.toInt (b2i_inj.mpr z))) (fun q => g2 (b2i_inj.mp (Int32.toInt_inj.mp (Decidable.not_not.mp q))))
theorem isRef_cases {v : Value} (hv : v.isRef = true) (h0 : v ≠ .null) : ∃ b, v = .ref b := by
  rcases ref_cases hv with q | q
  · exact absurd q h0
  · exact q
theorem g_ifnonnull (C : Cx W Z R own code mx ret nm wsx hx0) {o : Int} {v : Value} (hd : decode code pc = .ok (.ifnonnull o, 3)) (ho : 0 ≤ (pc : Int) + o) (hp1 : ((pc : Int) + o).toNat = pc1) (hp2 : pc + 3 = pc2) (hv : v.isRef = true) (g1 : v ≠ .null → Go W Q h k n pc1 L S) (g2 : v = .null → Go W Q h k n pc2 L S) : Go W Q h k n pc L (v :: S) := by
  by_cases q : v = .null
  · have g := g2 q
    subst q hp2
    exact g.st fun T locs X e t kk => XS.ifnonnullNo (g := mkF W.m pc L (.null :: S)) X.here C.x rfl (C.b hd) rfl kk
  · have g := g1 q
    obtain ⟨b, rfl⟩ := isRef_cases hv q
    exact g.st fun T locs X e t kk => XS.ifnonnullYes (g := mkF W.m pc L (.ref b :: S)) X.here C.x rfl rfl (C.b hd) rfl ho hp1 kk
theorem g_ifnull (C : Cx W Z R own code mx ret nm wsx hx0) {o : Int} {v : Value} (hd : decode code pc = .ok (.ifnull o, 3)) (ho : 0 ≤ (pc : Int) + o) (hp1 : ((pc : Int) + o).toNat = pc1) (hp2 : pc + 3 = pc2) (hv : v.isRef = true) (g1 : v = .null → Go W Q h k n pc1 L S) (g2 : v ≠ .null → Go W Q h k n pc2 L S) : Go W Q h k n pc L (v :: S) := by
  by_cases q : v = .null
  · have g := g1 q
    subst q
    exact g.st fun T locs X e t kk => XS.ifnullYes (g := mkF W.m pc L (.null :: S)) X.here C.x rfl rfl (C.b hd) rfl ho hp1 kk
  · have g := g2 q
    obtain ⟨b, rfl⟩ := isRef_cases hv q
    subst hp2
    exact g.st fun T locs X e t kk => XS.ifnullNo (g := mkF W.m pc L (.ref b :: S)) X.here C.x rfl (C.b hd) rfl kk
theorem g_acmpne (C : Cx W Z R own code mx ret nm wsx hx0) {o : Int} {v w : Value} (hd : decode code pc = .ok (.if_acmp .ne o, 3)) (ho : 0 ≤ (pc : Int) + o) (hp1 : ((pc : Int) + o).toNat = pc1) (hp2 : pc + 3 = pc2) (hv : v.isRef = true) (hw : w.isRef = true) (g1 : v ≠ w → Go W Q h k n pc1 L S) (g2 : v = w → Go W Q h k n pc2 L S) : Go W Q h k n pc L (w :: v :: S) := by
  by_cases q : v = w
  · exact (g2 q).st fun T locs X e t kk => Jvm.RoadKit.acmp (g := mkF W.m pc L (w :: v :: S)) X C.x rfl hv hw (same := true) rfl (C.b hd) rfl (decide_eq_true q) ho (by rw [← hp2]; rfl) kk
  · exact (g1 q).st fun T locs X e t kk => Jvm.RoadKit.acmp (g := mkF W.m pc L (w :: v :: S)) X C.x rfl hv hw (same := false) rfl (C.b hd) rfl (decide_eq_false q) ho hp1.symm kk
theorem g_acmpeq (C : Cx W Z R own code mx ret nm wsx hx0) {o : Int} {v w : Value} (hd : decode code pc = .ok (.if_acmp .eq o, 3)) (ho : 0 ≤ (pc : Int) + o) (hp1 : ((pc : Int) + o).toNat = pc1) (hp2 : pc + 3 = pc2) (hv : v.isRef = true) (hw : w.isRef = true) (g1 : v = w → Go W Q h k n pc1 L S) (g2 : v ≠ w → Go W Q h k n pc2 L S) : Go W Q h k n pc L (w :: v :: S) := by
  by_cases q : v = w
  · exact (g1 q).st fun T locs X e t kk => Jvm.RoadKit.acmp (g := mkF W.m pc L (w :: v :: S)) X C.x rfl hv hw (same := true) rfl (C.b hd) rfl (decide_eq_true q) ho hp1.symm kk
  · exact (g2 q).st fun T locs X e t kk => Jvm.RoadKit.acmp (g := mkF W.m pc L (w :: v :: S)) X C.x rfl hv hw (same := false) rfl (C.b hd) rfl (decide_eq_false q) ho (by rw [← hp2]; rfl) kk

/-! fields, objects, arrays -/
theorem g_getL (C : Cx W Z R own code mx ret nm wsx hx0) {i : Nat} {R0 O f d host : String} {a : Addr} {v : Value} (hd : decode code pc = .ok (.getfield i, 3)) (hp : pc + 3 = pc') (w : (Jvm.Cond.fieldLink own i R0 f d).before a0 Z = true ∨ (Jvm.Cond.fieldLinkNest own i R0 f d host).before a0 Z = true) (via : Via Z R0 O f d) (F : Fld Z h a O f d v) (g : Go W Q h k n pc' L (v :: S)) : Go W Q h k n pc L (.ref a :: S) := fun T hT => by
  obtain ⟨locs, X, e, N⟩ := hT
  subst hp
  obtain ⟨T', X', e', st⟩ := getF X C.x C.z C.o w via e F (g := mkF W.m pc L (.ref a :: S)) rfl rfl (C.b hd)
  exact Out.st st (g T' ⟨locs, X', e', N⟩)
theorem g_getO (C : Cx W Z R own code mx ret nm wsx hx0) {i j : Nat} {O f d Cl : String} {a : Addr} {v : Value} {fs : List (String × String × String × Value)} (hd : decode code pc = .ok (.getfield i, 3)) (hp : pc + 3 = pc') (w : (Jvm.Cond.fieldLink own i O f d).before a0 Z = true) (F : Ob Z h a Cl fs) (hj : fs[j]? = some (O, f, d, v)) (g : Go W Q h k n pc' L (v :: S)) : Go W Q h k n pc L (.ref a :: S) :=
  g_getL (host := "") C hd hp (Or.inl w) Via.refl (F.get hj) g
theorem pw_size (C : Cx W Z R own code mx ret nm wsx hx0) {T : State} {locs : List Loc} (X : Sta0 W T locs k n) (e : T.heap = h) : Pw W h.size := by
  have q : W.s.heap.size ≤ T.heap.size := X.same.2.1
  rw [e] at q
  exact Or.inr q
theorem g_putO (C : Cx W Z R own code mx ret nm wsx hx0) {i j kk : Nat} {R0 O f d Cl : String} {ty : FieldType} {a : Addr} {v v' old : Value} {fs fs' : List (String × String × String × Value)} (hd : decode code pc = .ok (.putfield i, 3)) (hp : pc + 3 = pc') (w : (Jvm.Cond.fieldLink own i R0 f d).before a0 Z = true) (via : Via Z R0 O f d) (F : Ob Z h a Cl fs) (hj : fs[j]? = some (O, f, d, old))
    (Lw : (Jvm.Cond.lays Cl O f d).before a0 Z = true ∨ ((Jvm.Cond.laysFinal Cl O f d).before a0 Z = true ∧ own = O ∧ nm = "<init>")) (wi : (Jvm.Cond.instantiable Cl kk).before a0 Z = true) (hty : parseFieldDescriptor d = some ty) (hn : narrow ty v = v') (hf : fits ty v' = true) (hset : fs.set j (O, f, d, v') = fs') (q : Pw W a)
    (g : ∀ h', Ob Z h' a Cl fs' → Keep h h' [a] → Go W Q h' k n pc' L S) : Go W Q h k n pc L (v :: .ref a :: S) := fun T hT => by
  obtain ⟨locs, X, e, N⟩ := hT
  subst hp hset
  obtain ⟨T', h', X', e', Wx, st⟩ := putFN X C.x C.z C.o w via e (F.get hj) F.1 (Lw.imp id fun z => ⟨z.1, z.2.1, C.nme.trans z.2.2⟩) wi hty hn hf (g := mkF W.m pc L (v :: .ref a :: S)) rfl rfl (C.b hd)
  refine Out.st st (g h' (F.put hj Wx) (Keep.of_wr Wx) T' ⟨_, X', e', fun y hy => ?_⟩)
  rcases List.mem_append.mp hy with z | z
  · exact N y z
  · cases List.mem_singleton.mp z; exact q
theorem g_new (C : Cx W Z R own code mx ret nm wsx hx0) {i nn : Nat} {Cl : String} (hd : decode code pc = .ok (.new i, 3)) (hp : pc + 3 = pc') (w : (Jvm.Cond.classLink own i Cl).before a0 Z = true) (wi : (Jvm.Cond.instantiable Cl nn).before a0 Z = true) (wz : (Jvm.Cond.initialized Cl).before a0 Z = true) {k' n' : Nat} (hk : k + 1 = k') (hn : n + nn = n') (hc : k' ≤ R.cells) (hs : n' ≤ R.slots)
    (g : ∀ (h' : Heap) (a : Addr), a = h.size → Ext h h' → Exa Z h' a Cl → (∀ {O f d : String} {ty : FieldType}, Laid Z a0 Cl O f d → parseFieldDescriptor d = some ty → Fld Z h' a O f d (defaultValue ty)) → Pw W a → Go W Q h' k' n' pc' L (.ref a :: S)) : Go W Q h k n pc L S := fun T hT => by
  obtain ⟨locs, X, e, N⟩ := hT
  subst hp hk hn
  obtain ⟨T', h', X', e', E, A, D, -, st⟩ := newO X C.x C.z C.o w wi wz e (g := mkF W.m pc L S) rfl (C.b hd) (by rw [C.r]; exact hc) (by rw [C.r]; exact hs)
  exact Out.st st (g h' h.size rfl E A D (pw_size C X e) T' ⟨locs, X', e', N⟩)
theorem def_list (ty : FieldType) (cA : ClassId) {z : Int32} {len : Nat} (hz : z.toInt = len) : (newA cA ty z).slots.toList = List.replicate len (defaultValue ty) := by
  show (Array.replicate z.toNatClampNeg (defaultValue ty)).toList = _
  rw [clamp_of hz, Array.toList_replicate]
theorem g_newarray (C : Cx W Z R own code mx ret nm wsx hx0) {aty : ArrayType} {ty : FieldType} {z : Int32} {len cap : Nat} (hd : decode code pc = .ok (.newarray aty, 2)) (hp : pc + 2 = pc') (hty : newarray.typeOf aty = ty) (w : (Jvm.Cond.arrayClass ty).before a0 Z = true) (hz : z.toInt = len) (hcap : len ≤ cap) (hb8 : cap * 8 ≤ 536870912) {k' n' : Nat} (hk : k + 1 = k') (hn : n + cap = n') (hc : k' ≤ R.cells) (hs : n' ≤ R.slots)
    (g : ∀ (h' : Heap) (a : Addr), a = h.size → Ext h h' → Ar Z h' a ty (List.replicate len (defaultValue ty)) → Pw W a → Go W Q h' k' n' pc' L (.ref a :: S)) : Go W Q h k n pc L (.int z :: S) := fun T hT => by
  obtain ⟨locs, X, e, N⟩ := hT
  subst hp hty hk hn
  obtain ⟨T', h', cA, X', e', E, A, st⟩ := newP X C.x C.z w e (g := mkF W.m pc L (.int z :: S)) rfl (C.b hd) rfl (nneg_of hz) (cap := cap) (by rw [clamp_of hz]; exact hcap) hb8 (by rw [C.r]; exact hc) (by rw [C.r]; exact hs)
  exact Out.st st (g h' h.size rfl E ⟨_, A, def_list _ _ hz⟩ (pw_size C X e) T' ⟨locs, X', e', N⟩)
theorem g_anewarray (C : Cx W Z R own code mx ret nm wsx hx0) {i : Nat} {Cl : String} {z : Int32} {len cap : Nat} (hd : decode code pc = .ok (.anewarray i, 3)) (hp : pc + 3 = pc') (w : (Jvm.Cond.classLink own i Cl).before a0 Z = true) (w2 : (Jvm.Cond.arrayOver (.object Cl)).before a0 Z = true) (hz : z.toInt = len) (hcap : len ≤ cap) (hb8 : cap * 8 ≤ 536870912) {k' n' : Nat} (hk : k + 1 = k') (hn : n + cap = n') (hc : k' ≤ R.cells) (hs : n' ≤ R.slots)
    (g : ∀ (h' : Heap) (a : Addr), a = h.size → Ext h h' → ArR Z h' a Cl (List.replicate len .null) → Pw W a → Go W Q h' k' n' pc' L (.ref a :: S)) : Go W Q h k n pc L (.int z :: S) := fun T hT => by
  obtain ⟨locs, X, e, N⟩ := hT
  subst hp hk hn
  obtain ⟨T', h', cA, X', e', E, A, O, st⟩ := newR X C.x C.z C.o w w2 e (g := mkF W.m pc L (.int z :: S)) rfl (C.b hd) rfl (nneg_of hz) (cap := cap) (by rw [clamp_of hz]; exact hcap) hb8 (by rw [C.r]; exact hc) (by rw [C.r]; exact hs)
  exact Out.st st (g h' h.size rfl E ⟨_, A, def_list _ _ hz, O⟩ (pw_size C X e) T' ⟨locs, X', e', N⟩)
theorem g_arraylength (C : Cx W Z R own code mx ret nm wsx hx0) {a : Addr} {ty : FieldType} {vs : List Value} {z : Int32} (hd : decode code pc = .ok (.arraylength, 1)) (hp : pc + 1 = pc') (A : Ar Z h a ty vs) (hz : vs.length.toInt32 = z) (g : Go W Q h k n pc' L (.int z :: S)) : Go W Q h k n pc L (.ref a :: S) := by
  subst hp hz
  obtain ⟨c, A, e⟩ := A
  rw [← e, Array.length_toList] at g
  exact g.st fun T locs X eT t kk => X.arraylength C.x (by rw [eT]; exact A.1) (State.isArrayOf_alike C.z.alike A.2.1) (g := mkF W.m pc L (.ref a :: S)) rfl rfl (C.b hd) t kk
theorem g_arraylengthR (C : Cx W Z R own code mx ret nm wsx hx0) {a : Addr} {Cl : String} {vs : List Value} {z : Int32} (hd : decode code pc = .ok (.arraylength, 1)) (hp : pc + 1 = pc') (A : ArR Z h a Cl vs) (hz : vs.length.toInt32 = z) (g : Go W Q h k n pc' L (.int z :: S)) : Go W Q h k n pc L (.ref a :: S) := by
  obtain ⟨c, A, e, -⟩ := A
  exact g_arraylength C hd hp ⟨c, A, e⟩ hz g

theorem g_iaload (C : Cx W Z R own code mx ret nm wsx hx0) {a : Addr} {vs : List Value} {v : Value} {j : Int32} {i : Nat} (hd : decode code pc = .ok (.iaload, 1)) (hp : pc + 1 = pc') (A : Ar Z h a .int vs) (hj : j.toInt = i) (hv : vs[i]? = some v) (g : Go W Q h k n pc' L (v :: S)) : Go W Q h k n pc L (.int j :: .ref a :: S) := by
  subst hp
  obtain ⟨c, A, e⟩ := A
  subst e
  have hi := (List.getElem?_eq_some_iff.mp hv).1
  exact g.st fun T locs X eT t kk => X.iaload C.x (by rw [eT]; exact A.1) (State.isArrayOf_alike C.z.alike A.2.1) A.2.2 (in_of hj hi) (by rw [clamp_of hj, ← Array.getElem?_toList]; exact hv) (g := mkF W.m pc L (.int j :: .ref a :: S)) rfl rfl (C.b hd) t kk
theorem g_laload (C : Cx W Z R own code mx ret nm wsx hx0) {a : Addr} {vs : List Value} {v : Value} {j : Int32} {i : Nat} (hd : decode code pc = .ok (.laload, 1)) (hp : pc + 1 = pc') (A : Ar Z h a .long vs) (hj : j.toInt = i) (hv : vs[i]? = some v) (g : Go W Q h k n pc' L (v :: S)) : Go W Q h k n pc L (.int j :: .ref a :: S) := by
  subst hp
  obtain ⟨c, A, e⟩ := A
  subst e
  have hi := (List.getElem?_eq_some_iff.mp hv).1
  exact g.st fun T locs X eT t kk => X.laload C.x (by rw [eT]; exact A.1) (State.isArrayOf_alike C.z.alike A.2.1) A.2.2 (in_of hj hi) (by rw [clamp_of hj, ← Array.getElem?_toList]; exact hv) (g := mkF W.m pc L (.int j :: .ref a :: S)) rfl rfl (C.b hd) t kk
theorem g_caload (C : Cx W Z R own code mx ret nm wsx hx0) {a : Addr} {vs : List Value} {v : Value} {j : Int32} {i : Nat} (hd : decode code pc = .ok (.caload, 1)) (hp : pc + 1 = pc') (A : Ar Z h a .char vs) (hj : j.toInt = i) (hv : vs[i]? = some v) (g : Go W Q h k n pc' L (v :: S)) : Go W Q h k n pc L (.int j :: .ref a :: S) := by
  subst hp
  obtain ⟨c, A, e⟩ := A
  subst e
  have hi := (List.getElem?_eq_some_iff.mp hv).1
  exact g.st fun T locs X eT t kk => X.caload C.x (by rw [eT]; exact A.1) (State.isArrayOf_alike C.z.alike A.2.1) A.2.2 (in_of hj hi) (by rw [clamp_of hj, ← Array.getElem?_toList]; exact hv) (g := mkF W.m pc L (.int j :: .ref a :: S)) rfl rfl (C.b hd) t kk
theorem g_baload (C : Cx W Z R own code mx ret nm wsx hx0) {a : Addr} {vs : List Value} {v : Value} {j : Int32} {i : Nat} (hd : decode code pc = .ok (.baload, 1)) (hp : pc + 1 = pc') (A : Ar Z h a .byte vs) (hj : j.toInt = i) (hv : vs[i]? = some v) (g : Go W Q h k n pc' L (v :: S)) : Go W Q h k n pc L (.int j :: .ref a :: S) := by
  subst hp
  obtain ⟨c, A, e⟩ := A
  subst e
  have hi := (List.getElem?_eq_some_iff.mp hv).1
  exact g.st fun T locs X eT t kk => X.baloadBytes C.x (by rw [eT]; exact A.1) (State.isArrayOf_alike C.z.alike A.2.1) A.2.2 (in_of hj hi) (by rw [clamp_of hj, ← Array.getElem?_toList]; exact hv) (g := mkF W.m pc L (.int j :: .ref a :: S)) rfl rfl (C.b hd) t kk
theorem g_zaload (C : Cx W Z R own code mx ret nm wsx hx0) {a : Addr} {vs : List Value} {v : Value} {j : Int32} {i : Nat} (hd : decode code pc = .ok (.baload, 1)) (hp : pc + 1 = pc') (A : Ar Z h a .boolean vs) (hj : j.toInt = i) (hv : vs[i]? = some v) (g : Go W Q h k n pc' L (v :: S)) : Go W Q h k n pc L (.int j :: .ref a :: S) := by
  subst hp
  obtain ⟨c, A, e⟩ := A
  subst e
  have hi := (List.getElem?_eq_some_iff.mp hv).1
  exact g.st fun T locs X eT t kk => X.baloadBooleans C.x (by rw [eT]; exact A.1) (State.isArrayOf_alike C.z.alike A.2.1) A.2.2 (in_of hj hi) (by rw [clamp_of hj, ← Array.getElem?_toList]; exact hv) (g := mkF W.m pc L (.int j :: .ref a :: S)) rfl rfl (C.b hd) t kk
theorem g_aaload (C : Cx W Z R own code mx ret nm wsx hx0) {a : Addr} {Cl : String} {vs : List Value} {v : Value} {j : Int32} {i : Nat} (hd : decode code pc = .ok (.aaload, 1)) (hp : pc + 1 = pc') (A : ArR Z h a Cl vs) (hj : j.toInt = i) (hv : vs[i]? = some v) (g : Go W Q h k n pc' L (v :: S)) : Go W Q h k n pc L (.int j :: .ref a :: S) := by
  subst hp
  obtain ⟨c, A, e, -⟩ := A
  subst e
  have hi := (List.getElem?_eq_some_iff.mp hv).1
  exact g.st fun T locs X eT t kk => X.aaload C.x (by rw [eT]; exact A.1) (State.isArrayOf_alike C.z.alike A.2.1) rfl A.2.2 (in_of hj hi) (by rw [clamp_of hj, ← Array.getElem?_toList]; exact hv) (g := mkF W.m pc L (.int j :: .ref a :: S)) rfl rfl (C.b hd) t kk
theorem g_iastore (C : Cx W Z R own code mx ret nm wsx hx0) {a : Addr} {vs vs' : List Value} {x : Int32} {j : Int32} {i : Nat} (hd : decode code pc = .ok (.iastore, 1)) (hp : pc + 1 = pc') (A : Ar Z h a .int vs) (hj : j.toInt = i) (hi : i < vs.length) (hset : vs.set i (.int x) = vs') (q : Pw W a) (g : ∀ h', Ar Z h' a .int vs' → Keep h h' [a] → Go W Q h' k n pc' L S) : Go W Q h k n pc L (.int x :: .int j :: .ref a :: S) := fun T hT => by
  obtain ⟨locs, X, e, N⟩ := hT
  subst hp hset
  obtain ⟨c, A, ec⟩ := A
  obtain ⟨T', h', X', e', Wx, st⟩ := stI X C.x C.z e A (in_of hj (ec ▸ hi)) (g := mkF W.m pc L (.int x :: .int j :: .ref a :: S)) rfl rfl (C.b hd)
  refine Out.st st (g h' (Ar.put A ec hj Wx) (Keep.of_wr Wx) T' ⟨_, X', e', fun y hy => ?_⟩)
  rcases List.mem_append.mp hy with z | z
  · exact N y z
  · cases List.mem_singleton.mp z; exact q
theorem g_lastore (C : Cx W Z R own code mx ret nm wsx hx0) {a : Addr} {vs vs' : List Value} {x : Int64} {j : Int32} {i : Nat} (hd : decode code pc = .ok (.lastore, 1)) (hp : pc + 1 = pc') (A : Ar Z h a .long vs) (hj : j.toInt = i) (hi : i < vs.length) (hset : vs.set i (.long x) = vs') (q : Pw W a) (g : ∀ h', Ar Z h' a .long vs' → Keep h h' [a] → Go W Q h' k n pc' L S) : Go W Q h k n pc L (.long x :: .int j :: .ref a :: S) := fun T hT => by
  obtain ⟨locs, X, e, N⟩ := hT
  subst hp hset
  obtain ⟨c, A, ec⟩ := A
  obtain ⟨T', h', X', e', Wx, st⟩ := stJ X C.x C.z e A (in_of hj (ec ▸ hi)) (g := mkF W.m pc L (.long x :: .int j :: .ref a :: S)) rfl rfl (C.b hd)
  refine Out.st st (g h' (Ar.put A ec hj Wx) (Keep.of_wr Wx) T' ⟨_, X', e', fun y hy => ?_⟩)
  rcases List.mem_append.mp hy with z | z
  · exact N y z
  · cases List.mem_singleton.mp z; exact q
theorem g_castore (C : Cx W Z R own code mx ret nm wsx hx0) {a : Addr} {vs vs' : List Value} {x : Int32} {j : Int32} {i : Nat} (hd : decode code pc = .ok (.castore, 1)) (hp : pc + 1 = pc') (A : Ar Z h a .char vs) (hj : j.toInt = i) (hi : i < vs.length) (hset : vs.set i (.int (nar .char x)) = vs') (q : Pw W a) (g : ∀ h', Ar Z h' a .char vs' → Keep h h' [a] → Go W Q h' k n pc' L S) : Go W Q h k n pc L (.int x :: .int j :: .ref a :: S) := fun T hT => by
  obtain ⟨locs, X, e, N⟩ := hT
  subst hp hset
  obtain ⟨c, A, ec⟩ := A
  obtain ⟨T', h', X', e', Wx, st⟩ := stC X C.x C.z e A (in_of hj (ec ▸ hi)) (g := mkF W.m pc L (.int x :: .int j :: .ref a :: S)) rfl rfl (C.b hd)
  refine Out.st st (g h' (Ar.put A ec hj Wx) (Keep.of_wr Wx) T' ⟨_, X', e', fun y hy => ?_⟩)
  rcases List.mem_append.mp hy with z | z
  · exact N y z
  · cases List.mem_singleton.mp z; exact q
theorem g_bastore (C : Cx W Z R own code mx ret nm wsx hx0) {a : Addr} {vs vs' : List Value} {x : Int32} {j : Int32} {i : Nat} (hd : decode code pc = .ok (.bastore, 1)) (hp : pc + 1 = pc') (A : Ar Z h a .byte vs) (hj : j.toInt = i) (hi : i < vs.length) (hset : vs.set i (.int (nar .byte x)) = vs') (q : Pw W a) (g : ∀ h', Ar Z h' a .byte vs' → Keep h h' [a] → Go W Q h' k n pc' L S) : Go W Q h k n pc L (.int x :: .int j :: .ref a :: S) := fun T hT => by
  obtain ⟨locs, X, e, N⟩ := hT
  subst hp hset
  obtain ⟨c, A, ec⟩ := A
  obtain ⟨T', h', X', e', Wx, st⟩ := stB X C.x C.z e A (in_of hj (ec ▸ hi)) (g := mkF W.m pc L (.int x :: .int j :: .ref a :: S)) rfl rfl (C.b hd)
  refine Out.st st (g h' (Ar.put A ec hj Wx) (Keep.of_wr Wx) T' ⟨_, X', e', fun y hy => ?_⟩)
  rcases List.mem_append.mp hy with z | z
  · exact N y z
  · cases List.mem_singleton.mp z; exact q
theorem g_zastore (C : Cx W Z R own code mx ret nm wsx hx0) {a : Addr} {vs vs' : List Value} {x : Int32} {j : Int32} {i : Nat} (hd : decode code pc = .ok (.bastore, 1)) (hp : pc + 1 = pc') (A : Ar Z h a .boolean vs) (hj : j.toInt = i) (hi : i < vs.length) (hset : vs.set i (.int (nar .boolean x)) = vs') (q : Pw W a) (g : ∀ h', Ar Z h' a .boolean vs' → Keep h h' [a] → Go W Q h' k n pc' L S) : Go W Q h k n pc L (.int x :: .int j :: .ref a :: S) := fun T hT => by
  obtain ⟨locs, X, e, N⟩ := hT
  subst hp hset
  obtain ⟨c, A, ec⟩ := A
  obtain ⟨T', h', X', e', Wx, st⟩ := stZ X C.x C.z e A (in_of hj (ec ▸ hi)) (g := mkF W.m pc L (.int x :: .int j :: .ref a :: S)) rfl rfl (C.b hd)
  refine Out.st st (g h' (Ar.put A ec hj Wx) (Keep.of_wr Wx) T' ⟨_, X', e', fun y hy => ?_⟩)
  rcases List.mem_append.mp hy with z | z
  · exact N y z
  · cases List.mem_singleton.mp z; exact q
theorem ArR.put {Z : State} {h h' : Heap} {a : Addr} {Cl : String} {vs : List Value} {v : Value} {c : Cell} (A : Arr Z h a c (.object Cl)) (e : c.slots.toList = vs) (O : Ovr Z c.cls Cl) {j : Int32} {i : Nat} (hj : j.toInt = i) (W : Wr h h' a j.toNatClampNeg v) : ArR Z h' a Cl (vs.set i v) := by
  refine ⟨_, A.same W, ?_, O⟩
  rw [clamp_of hj, set_toList, e]
theorem g_aastore (C : Cx W Z R own code mx ret nm wsx hx0) {a : Addr} {Cl : String} {vs vs' : List Value} {v : Value} {j : Int32} {i : Nat} (hd : decode code pc = .ok (.aastore, 1)) (hp : pc + 1 = pc') (A : ArR Z h a Cl vs) (hj : j.toInt = i) (hi : i < vs.length) (hset : vs.set i v = vs') (hv : v = .null ∨ ∃ y, v = .ref y ∧ Exa Z h y Cl) (q : Pw W a) (g : ∀ h', ArR Z h' a Cl vs' → Keep h h' [a] → Go W Q h' k n pc' L S) : Go W Q h k n pc L (v :: .int j :: .ref a :: S) := fun T hT => by
  obtain ⟨locs, X, e, N⟩ := hT
  subst hp hset
  obtain ⟨c, A, ec, O⟩ := A
  have F : Sto Z h a v := by
    rcases hv with rfl | ⟨y, rfl, E⟩
    · exact Or.inl rfl
    · exact Sto.of A O (Ins.self E)
  obtain ⟨T', h', X', e', Wx, st⟩ := stR X C.x C.z e A (in_of hj (ec ▸ hi)) rfl F (g := mkF W.m pc L (v :: .int j :: .ref a :: S)) rfl rfl (C.b hd)
  refine Out.st st (g h' (ArR.put A ec O hj Wx) (Keep.of_wr Wx) T' ⟨_, X', e', fun y hy => ?_⟩)
  rcases List.mem_append.mp hy with z | z
  · exact N y z
  · cases List.mem_singleton.mp z; exact q
/-! returns -/
theorem g_end (C : Cx W Z R own code mx ret nm wsx hx0) {v : Option Value} (hv : ret = none → v = none) (hc : k ≤ R.cells) (hs : n ≤ R.slots) (q : Q v h)
    (st : ∀ T locs, Sta0 W T locs k n → ∀ fs, (∀ (f : JFrame) (acts : List Action), f.method = W.m → f.locked = none → f.entered = [] → (doReturn W.e (T.setTop f) acts v).1 = T.setFrames fs) → Stp W (T.setTop (mkF W.m pc L S)) (T.setFrames fs)) : Go W Q h k n pc L S := fun T hT => by
  obtain ⟨locs, X, e, N⟩ := hT
  obtain ⟨fs, hr, hrun, hended, hW, hsame⟩ := X.leave (v := v) (fun z => hv (C.rt ▸ z)) C.lk
  refine ⟨_, _, st T locs X fs hr, hrun, hended, v, locs, rfl, ⟨?_, N⟩, ⟨_, rfl⟩, hW, hsame.mono (by rw [C.r]; exact hc) (by rw [C.r]; exact hs)⟩
  show Q v T.heap
  rw [e]; exact q
theorem g_return (C : Cx W Z R own code mx none nm wsx hx0) (hd : decode code pc = .ok (.return_, 1)) (hc : k ≤ R.cells) (hs : n ≤ R.slots) (q : Q none h) : Go W Q h k n pc L [] :=
  g_end C (fun _ => rfl) hc hs q fun T locs X fs hr => X.returnOut C.x C.rt (C.b hd) hr
theorem g_retN {ty0 : FieldType} (C : Cx W Z R own code mx (some ty0) nm wsx hx0) {z : Int32} (ht : ty0 = .boolean ∨ ty0 = .byte ∨ ty0 = .char ∨ ty0 = .short) (hd : decode code pc = .ok (.ireturn, 1)) (hc : k ≤ R.cells) (hs : n ≤ R.slots) (q : Q (some (.int (nar ty0 z))) h) : Go W Q h k n pc L (.int z :: S) :=
  g_end C nofun hc hs q fun T locs X fs hr => retN X C.x C.rt ht (C.b hd) hr
theorem g_retI (C : Cx W Z R own code mx (some .int) nm wsx hx0) {z : Int32} (hd : decode code pc = .ok (.ireturn, 1)) (hc : k ≤ R.cells) (hs : n ≤ R.slots) (q : Q (some (.int z)) h) : Go W Q h k n pc L (.int z :: S) :=
  g_end C nofun hc hs q fun T locs X fs hr => retOut X C.x C.rt rfl (Or.inl ⟨rfl, Or.inl rfl, z, rfl⟩) (C.b hd) hr
theorem g_retL (C : Cx W Z R own code mx (some .long) nm wsx hx0) {z : Int64} (hd : decode code pc = .ok (.lreturn, 1)) (hc : k ≤ R.cells) (hs : n ≤ R.slots) (q : Q (some (.long z)) h) : Go W Q h k n pc L (.long z :: S) :=
  g_end C nofun hc hs q fun T locs X fs hr => retOut X C.x C.rt rfl (Or.inr (Or.inl ⟨rfl, rfl, z, rfl⟩)) (C.b hd) hr
theorem g_retA {ty0 : FieldType} (C : Cx W Z R own code mx (some ty0) nm wsx hx0) {v : Value} (ht : ty0.isReference = true) (hn : narrow ty0 v = v) (hv : v.isRef = true) (hd : decode code pc = .ok (.areturn, 1)) (hc : k ≤ R.cells) (hs : n ≤ R.slots) (q : Q (some v) h) : Go W Q h k n pc L (v :: S) :=
  g_end C nofun hc hs q fun T locs X fs hr => retOut X C.x C.rt hn (Or.inr (Or.inr (Or.inr (Or.inr ⟨rfl, ht, hv⟩)))) (C.b hd) hr
/-! calls -/
theorem post_call {T T' : State} {locs L' : List Loc} {k' n' : Nat} {ws : List Addr} (X : Sta0 W T locs k n) (e : T.heap = h) (N : ∀ y ∈ locs, Pw W y.base) (hws : ∀ a ∈ ws, Pw W a) (hL : ∀ y ∈ L', y.base ∈ ws ∨ h.size ≤ y.base) : ∀ y ∈ locs ++ L', Pw W y.base := fun y hy => by
  rcases List.mem_append.mp hy with z | z
  · exact N y z
  · rcases hL y z with q | q
    · exact hws _ q
    · have r : W.s.heap.size ≤ T.heap.size := X.same.2.1
      rw [e] at r
      exact Or.inr (Nat.le_trans r q)
/-- the contract, with what it keeps -/
theorem Con.keeps {l : Launch} {w0 : List Jvm.Cond} {y : MethodName} {bytes : ByteArray} {ret' : Option FieldType} {rm : Room} {as : Array Value} {ws : List Addr} {Q' : Option Value → Heap → Prop} {mx' : Nat} (M : Con l Z w0 y bytes mx' ret' rm as h ws Q') :
    MetFree l y (head1 (Jvm.Cond.code y bytes mx' ret' :: w0) rm) (fun a U => a = as ∧ Z.Warmed39 U.vm ∧ U.heap = h) (fun _ _ _ _ _ => True)
      (fun _ U o U' => ∃ v L, o = .returned v ∧ (Q' v U'.heap ∧ (∀ y ∈ L, y.base ∈ ws ∨ h.size ≤ y.base) ∧ Keep h U'.heap ws) ∧ FrameEnd U o U' L rm.cells rm.slots) := by
  intro p e ha hc hk s m args below hf happ hP hK
  obtain ⟨nn, o, h1, h2, h3, v, L, rfl, ⟨hq, hL⟩, hF⟩ := M p e ha hc hk s m args below hf happ hP hK
  refine ⟨nn, _, h1, h2, h3, v, L, rfl, ⟨hq, hL, ?_⟩, hF⟩
  obtain ⟨rfl, -, rfl⟩ := hP
  have K := keep_of_same hF.2.2 hL
  exact K
theorem g_static (C : Cx W Z R own code mx ret nm wsx hx0) {i : Nat} {y : MethodName} {bytes : ByteArray} {mx' : Nat} {ret' : Option FieldType} {rm : Room} {as : List Value} {ws : List Addr} {Q' : Option Value → Heap → Prop} {S0 : List Value} (hd : decode code pc = .ok (.invokestatic i, 3)) (hp : pc + 3 = pc')
    (w1 : (Jvm.Cond.methodLink own i y).before a0 Z = true) (w2 : (Jvm.Cond.static y).before a0 Z = true) (w3 : (Jvm.Cond.initialized y.cls).before a0 Z = true) (w4 : (Jvm.Cond.code y bytes mx' ret').before a0 Z = true) (hy : y.cls ≠ "java/lang/invoke/MethodHandle" ∧ y.cls ≠ "java/lang/invoke/VarHandle")
    (hlen : ∀ sig, parseMethodDescriptor y.desc = some sig → as.length = sig.parameters.length) (M : Con W.l Z [] y bytes mx' ret' rm as.toArray h ws Q') (hS : S0 = as.reverse ++ S) (hL : L.size = mx) (hf : rm.frames + 1 ≤ R.frames) (hl : (S.map fun v => v.category).sum + (mx' + 11) + rm.locals ≤ R.locals) {k' n' : Nat} (hk : k + rm.cells = k') (hn : n + rm.slots = n') (hc : k' ≤ R.cells) (hs : n' ≤ R.slots) (hws : ∀ a ∈ ws, Pw W a)
    (g : ∀ v h', Q' v h' → Keep h h' ws → Go W Q h' k' n' pc' L (v.toList ++ S)) : Go W Q h k n pc L S0 := fun T hT => by
  obtain ⟨locs, X, e, N⟩ := hT
  subst hp hS hk hn
  obtain ⟨v, _, ⟨T', L1, k1, n1⟩, -, X', ⟨L2, ⟨hQ, hL2, hK⟩, l1, y1, z1⟩, st⟩ := Jvm.LawKit.callS X C.x (y := y) C.o (mvT C.z w1) (mvT C.z w2) (mvT C.z w3) (mvT C.z w4) hy (backOf (R := W.R) (W := (S.map fun v => v.category).sum) (Q := fun v h' L => Q' v h' ∧ (∀ y ∈ L, y.base ∈ ws ∨ h.size ≤ y.base) ∧ Keep h h' ws) M.keeps C.z w4 w3 (by rw [C.r]; exact hf) (by rw [C.r]; exact hl)) (g := mkF W.m pc L (as.reverse ++ S)) rfl (by rw [C.ml]; exact hL) (argsL := as) (rest := S) hlen rfl (by show 2 * 0 + _ ≤ _; omega) (C.b hd) (fun _ _ => ⟨rfl, e, by rw [C.r]; exact hc, by rw [C.r]; exact hs⟩)
  dsimp only [Pt.U, Pt.locs, Pt.cells, Pt.slots] at X' l1 y1 z1 st hQ hK
  subst l1 y1 z1
  exact Out.st st (g v T'.heap hQ hK T' ⟨_, X', rfl, post_call (T' := T') (k' := 0) (n' := 0) X e N hws hL2⟩)
theorem g_special (C : Cx W Z R own code mx ret nm wsx hx0) {i : Nat} {y : MethodName} {bytes : ByteArray} {mx' : Nat} {rm : Room} {as : List Value} {ws : List Addr} {Q' : Option Value → Heap → Prop} {S0 : List Value} {a : Addr} (hd : decode code pc = .ok (.invokespecial i, 3)) (hp : pc + 3 = pc') (hy1 : y.name = "<init>")
    (w1 : (Jvm.Cond.methodLink own i y).before a0 Z = true) (w2 : (Jvm.Cond.instanceMethod y).before a0 Z = true) (w3 : (Jvm.Cond.initialized y.cls).before a0 Z = true) (w4 : (Jvm.Cond.code y bytes mx' none).before a0 Z = true) (hy : y.cls ≠ "java/lang/invoke/MethodHandle" ∧ y.cls ≠ "java/lang/invoke/VarHandle")
    (hlen : ∀ sig, parseMethodDescriptor y.desc = some sig → as.length = sig.parameters.length) (M : Con W.l Z [] y bytes mx' none rm (.ref a :: as).toArray h ws Q') (hS : S0 = as.reverse ++ .ref a :: S) (hL : L.size = mx) (hf : rm.frames + 1 ≤ R.frames) (hl : (S.map fun v => v.category).sum + (mx' + 11) + rm.locals ≤ R.locals) {k' n' : Nat} (hk : k + rm.cells = k') (hn : n + rm.slots = n') (hc : k' ≤ R.cells) (hs : n' ≤ R.slots) (hws : ∀ a ∈ ws, Pw W a)
    (g : ∀ v h', Q' v h' → Keep h h' ws → Go W Q h' k' n' pc' L (v.toList ++ S)) : Go W Q h k n pc L S0 := fun T hT => by
  obtain ⟨locs, X, e, N⟩ := hT
  subst hp hS hk hn
  obtain ⟨v, _, ⟨T', L1, k1, n1⟩, -, X', ⟨L2, ⟨hQ, hL2, hK⟩, l1, y1, z1⟩, st⟩ := X.specialBack C.x (y := y) hy1 C.o (mvT C.z w1) (mvT C.z w2) (mvT C.z w4) hy (backOf (R := W.R) (W := (S.map fun v => v.category).sum) (Q := fun v h' L => Q' v h' ∧ (∀ y ∈ L, y.base ∈ ws ∨ h.size ≤ y.base) ∧ Keep h h' ws) M.keeps C.z w4 w3 (by rw [C.r]; exact hf) (by rw [C.r]; exact hl)) (g := mkF W.m pc L (as.reverse ++ .ref a :: S)) rfl (by rw [C.ml]; exact hL) (Steps.refl _) (a := a) (argsL := as) (rest := S) hlen rfl (by show 2 * 0 + _ ≤ _; omega) (C.b hd) (fun _ _ => ⟨rfl, e, by rw [C.r]; exact hc, by rw [C.r]; exact hs⟩)
  dsimp only [Pt.U, Pt.locs, Pt.cells, Pt.slots] at X' l1 y1 z1 st hQ hK
  subst l1 y1 z1
  exact Out.st (fun t z => st.trans z) (g v T'.heap hQ hK T' ⟨_, X', rfl, post_call (T' := T') (k' := 0) (n' := 0) X e N hws hL2⟩)
theorem g_virtual (C : Cx W Z R own code mx ret nm wsx hx0) {i : Nat} {y : MethodName} {bytes : ByteArray} {mx' : Nat} {ret' : Option FieldType} {rm : Room} {as : List Value} {ws : List Addr} {Q' : Option Value → Heap → Prop} {S0 : List Value} {a : Addr} {Cl : String} (hd : decode code pc = .ok (.invokevirtual i, 3)) (hp : pc + 3 = pc')
    (w1 : (Jvm.Cond.methodLink own i y).before a0 Z = true) (w2 : (Jvm.Cond.instanceMethod y).before a0 Z = true) (w3 : (Jvm.Cond.initialized y.cls).before a0 Z = true) (w4 : (Jvm.Cond.code y bytes mx' ret').before a0 Z = true) (w5 : (Jvm.Cond.declares y).before a0 Z = true) (w6 : (Jvm.Cond.selects Cl y y).before a0 Z = true) (hy : y.cls ≠ "java/lang/invoke/MethodHandle" ∧ y.cls ≠ "java/lang/invoke/VarHandle") (hE : Exa Z h a Cl)
    (hlen : ∀ sig, parseMethodDescriptor y.desc = some sig → as.length = sig.parameters.length) (M : Con W.l Z [] y bytes mx' ret' rm (.ref a :: as).toArray h ws Q') (hS : S0 = as.reverse ++ .ref a :: S) (hL : L.size = mx) (hf : rm.frames + 1 ≤ R.frames) (hl : (S.map fun v => v.category).sum + (mx' + 11) + rm.locals ≤ R.locals) {k' n' : Nat} (hk : k + rm.cells = k') (hn : n + rm.slots = n') (hc : k' ≤ R.cells) (hs : n' ≤ R.slots) (hws : ∀ a ∈ ws, Pw W a)
    (g : ∀ v h', Q' v h' → Keep h h' ws → Go W Q h' k' n' pc' L (v.toList ++ S)) : Go W Q h k n pc L S0 := fun T hT => by
  obtain ⟨locs, X, e, N⟩ := hT
  subst hp hS hk hn
  obtain ⟨cq, kq, qa, qb, qc⟩ := isOf C.z e hE
  obtain ⟨v, _, ⟨T', L1, k1, n1⟩, -, X', ⟨L2, ⟨hQ, hL2, hK⟩, l1, y1, z1⟩, st⟩ := X.virtualBack C.x (y := y) (z := y) C.o (mvT C.z w1) (mvT C.z w5) (notFace_of_selects (args := #[]) (mvT C.z w6)) (mvT C.z w6) (mvT C.z w2) hy (backOf (R := W.R) (W := (S.map fun v => v.category).sum) (Q := fun v h' L => Q' v h' ∧ (∀ y ∈ L, y.base ∈ ws ∨ h.size ≤ y.base) ∧ Keep h h' ws) M.keeps C.z w4 w3 (by rw [C.r]; exact hf) (by rw [C.r]; exact hl)) qa qc (g := mkF W.m pc L (as.reverse ++ .ref a :: S)) rfl (by rw [C.ml]; exact hL) (Steps.refl _) (argsL := as) (rest := S) hlen rfl (by show 2 * 0 + _ ≤ _; omega) (C.b hd) (fun _ _ => ⟨rfl, e, by rw [C.r]; exact hc, by rw [C.r]; exact hs⟩)
  dsimp only [Pt.U, Pt.locs, Pt.cells, Pt.slots] at X' l1 y1 z1 st hQ hK
  subst l1 y1 z1
  exact Out.st (fun t z => st.trans z) (g v T'.heap hQ hK T' ⟨_, X', rfl, post_call (T' := T') (k' := 0) (n' := 0) X e N hws hL2⟩)
theorem g_staticP (C : Cx W Z R own code mx ret nm wsx hx0) {i : Nat} {y : MethodName} {bytes : ByteArray} {mx' : Nat} {ret' : Option FieldType} {rm : Room} {as : List Value} {r : Option Value} {S0 S1 : List Value} (hd : decode code pc = .ok (.invokestatic i, 3)) (hp : pc + 3 = pc')
    (w1 : (Jvm.Cond.methodLink own i y).before a0 Z = true) (w2 : (Jvm.Cond.static y).before a0 Z = true) (w3 : (Jvm.Cond.initialized y.cls).before a0 Z = true) (w4 : (Jvm.Cond.code y bytes mx' ret').before a0 Z = true) (hy : y.cls ≠ "java/lang/invoke/MethodHandle" ∧ y.cls ≠ "java/lang/invoke/VarHandle")
    (hlen : ∀ sig, parseMethodDescriptor y.desc = some sig → as.length = sig.parameters.length) (M : Con W.l Z [] y bytes mx' ret' rm as.toArray h [] (fun v h' => v = r ∧ h' = h)) (hS : S0 = as.reverse ++ S) (hL : L.size = mx) (hf : rm.frames + 1 ≤ R.frames) (hl : (S.map fun v => v.category).sum + (mx' + 11) + rm.locals ≤ R.locals) {k' n' : Nat} (hk : k + rm.cells = k') (hn : n + rm.slots = n') (hc : k' ≤ R.cells) (hs : n' ≤ R.slots) (hS1 : r.toList ++ S = S1)
    (g : Go W Q h k' n' pc' L S1) : Go W Q h k n pc L S0 :=
  g_static C hd hp w1 w2 w3 w4 hy hlen M hS hL hf hl hk hn hc hs all0 fun v h' q K => by
    obtain ⟨rfl, rfl⟩ := q
    rw [hS1]; exact g
theorem g_virtualP (C : Cx W Z R own code mx ret nm wsx hx0) {i : Nat} {y : MethodName} {bytes : ByteArray} {mx' : Nat} {ret' : Option FieldType} {rm : Room} {as : List Value} {r : Option Value} {S0 S1 : List Value} {a : Addr} {Cl : String} (hd : decode code pc = .ok (.invokevirtual i, 3)) (hp : pc + 3 = pc')
    (w1 : (Jvm.Cond.methodLink own i y).before a0 Z = true) (w2 : (Jvm.Cond.instanceMethod y).before a0 Z = true) (w3 : (Jvm.Cond.initialized y.cls).before a0 Z = true) (w4 : (Jvm.Cond.code y bytes mx' ret').before a0 Z = true) (w5 : (Jvm.Cond.declares y).before a0 Z = true) (w6 : (Jvm.Cond.selects Cl y y).before a0 Z = true) (hy : y.cls ≠ "java/lang/invoke/MethodHandle" ∧ y.cls ≠ "java/lang/invoke/VarHandle") (hE : Exa Z h a Cl)
    (hlen : ∀ sig, parseMethodDescriptor y.desc = some sig → as.length = sig.parameters.length) (M : Con W.l Z [] y bytes mx' ret' rm (.ref a :: as).toArray h [] (fun v h' => v = r ∧ h' = h)) (hS : S0 = as.reverse ++ .ref a :: S) (hL : L.size = mx) (hf : rm.frames + 1 ≤ R.frames) (hl : (S.map fun v => v.category).sum + (mx' + 11) + rm.locals ≤ R.locals) {k' n' : Nat} (hk : k + rm.cells = k') (hn : n + rm.slots = n') (hc : k' ≤ R.cells) (hs : n' ≤ R.slots) (hS1 : r.toList ++ S = S1)
    (g : Go W Q h k' n' pc' L S1) : Go W Q h k n pc L S0 :=
  g_virtual C hd hp w1 w2 w3 w4 w5 w6 hy hE hlen M hS hL hf hl hk hn hc hs all0 fun v h' q K => by
    obtain ⟨rfl, rfl⟩ := q
    rw [hS1]; exact g
theorem g_nameI {x : Int32} (g : ∀ z : Int32, z = x → Go W Q h k n pc L (.int z :: S)) : Go W Q h k n pc L (.int x :: S) := g x rfl
theorem g_nameJ {x : Int64} (g : ∀ z : Int64, z = x → Go W Q h k n pc L (.long z :: S)) : Go W Q h k n pc L (.long x :: S) := g x rfl
/-! a body's contract out of its walk -/
theorem locals_of {as : List Value} {mx0 : Nat} {Ls : List Slot} (h : (as.flatMap fun v => if v.category = 2 then [.val v, .second] else [.val v]) ++ List.replicate (mx0 - (as.flatMap fun v => if v.category = 2 then [.val v, .second] else [Slot.val v]).length) .unset = Ls) : argsToLocals as.toArray mx0 = Ls.toArray := by
  have e : ∀ (l : List Value) (acc : Array Slot), (l.foldl (fun acc v => if v.category = 2 then (acc.push (.val v)).push .second else acc.push (.val v)) acc) = acc ++ (l.flatMap fun v => if v.category = 2 then [.val v, .second] else [Slot.val v]).toArray := by
    intro l
    induction l with
    | nil => intro acc; simp
    | cons v l ih =>
      intro acc
      rw [List.foldl_cons, ih, List.flatMap_cons]
      split <;> simp
  subst h
  simp only [argsToLocals, List.foldl_toArray', e]
  simp
theorem Con.of_go {l : Launch} {w0 : List Jvm.Cond} {y : MethodName} {bytes : ByteArray} {ret' : Option FieldType} {rm : Room} {as : Array Value} {ws : List Addr} {Q' : Option Value → Heap → Prop} {mx' : Nat} {L0 : Array Slot} (hpl : plainFor y = true) (hL : argsToLocals as mx' = L0)
    (body : ∀ (W : Wk) (Q : Option Value → Heap → Prop), Q = Q' → W.l = l → Cx W Z rm y.cls bytes mx' ret' y.name ws h → Go W Q h 0 0 0 L0 []) : Con l Z w0 y bytes mx' ret' rm as h ws Q' := by
  refine MetFree.of_bodySF hpl hisR ?_
  intro p e s m args below meth c s₁ Bd hml0 hP hK
  obtain ⟨rfl, hZ, rfl⟩ := hP
  subst hL
  have X0 : Stand p l e rm s m args below meth c s₁ [] 0 0 := Stand.of_body Bd
  have e0 : s₁.heap = s.heap := by rw [Bd.state]; rfl
  obtain ⟨s2, o, h1, h2, h3, v, L, h4, ⟨h5, h6⟩, h7⟩ := body (p, l, e, rm, s, m, args, below, meth, c, ws) _ rfl rfl ⟨Bd.exec, hZ, findClass_of_methodNamed Bd.named, Bd.bytes, hml0, Bd.returns, Bd.notSynchronized, (name_of_methodNamed Bd.named Bd.method).1, rfl, rfl, rfl⟩ s₁ ⟨[], X0, e0, fun _ q => nomatch q⟩
  exact ⟨s2, o, h1, h2, h3, v, L, h4, ⟨h5, h6⟩, h7⟩
end Steps0
end Jvm.OwnKit
namespace Jvm.OwnKit
def allR (f : Nat → Bool) : Nat → Nat → Bool
  | 0, lo => f lo
  | d + 1, lo => allR f d lo && allR f d (lo + 2 ^ d)
theorem allR_spec {f : Nat → Bool} : ∀ {d lo : Nat}, allR f d lo = true → ∀ i, lo ≤ i → i < lo + 2 ^ d → f i = true
  | 0, lo, h, i, h1, h2 => by
    obtain rfl : i = lo := by omega
    exact h
  | d + 1, lo, h, i, h1, h2 => by
    simp only [allR, Bool.and_eq_true] at h
    by_cases q : i < lo + 2 ^ d
    · exact allR_spec h.1 i h1 q
    · exact allR_spec h.2 i (by omega) (by rw [Nat.pow_succ] at h2; omega)
def kOf (q c : Int) : Int := (q * 1292913986 + c) / 4294967296
def chk (q c bl bh : Int) : Bool :=
  let k := kOf q c
  let a := q * 3010299956639811
  let b := q * 3010299956639812
  ((if a ≤ b then a else b) - bh) / 10000000000000000 == k && ((if a ≤ b then b else a) - bl) / 10000000000000000 == k
theorem chk0 : allR (fun i => decide (2046 ≤ i) || chk (-1074 + i) 0 0 0) 11 0 = true := by decide +kernel
theorem chk1 : allR (fun i => decide (2045 ≤ i) || chk (-1073 + i) (-536607788) 1249387366082999 1249387366083000) 11 0 = true := by decide +kernel
theorem chk0_spec {q : Int} (h1 : -1074 ≤ q) (h2 : q < 972) : ((if q * 3010299956639811 ≤ q * 3010299956639812 then q * 3010299956639811 else q * 3010299956639812) - 0) / 10000000000000000 = kOf q 0 ∧ ((if q * 3010299956639811 ≤ q * 3010299956639812 then q * 3010299956639812 else q * 3010299956639811) - 0) / 10000000000000000 = kOf q 0 := by
  have h := allR_spec chk0 (q + 1074).toNat (by omega) (by show _ < 0 + 2048; omega)
  have e : -1074 + ((q + 1074).toNat : Int) = q := by omega
  have n : ¬ 2046 ≤ (q + 1074).toNat := by omega
  simp only [n, decide_false, Bool.false_or, e, chk, Bool.and_eq_true, beq_iff_eq] at h
  exact h
theorem chk1_spec {q : Int} (h1 : -1073 ≤ q) (h2 : q < 972) : ((if q * 3010299956639811 ≤ q * 3010299956639812 then q * 3010299956639811 else q * 3010299956639812) - 1249387366083000) / 10000000000000000 = kOf q (-536607788) ∧ ((if q * 3010299956639811 ≤ q * 3010299956639812 then q * 3010299956639812 else q * 3010299956639811) - 1249387366082999) / 10000000000000000 = kOf q (-536607788) := by
  have h := allR_spec chk1 (q + 1073).toNat (by omega) (by show _ < 0 + 2048; omega)
  have e : -1073 + ((q + 1073).toNat : Int) = q := by omega
  have n : ¬ 2045 ≤ (q + 1073).toNat := by omega
  simp only [n, decide_false, Bool.false_or, e, chk, Bool.and_eq_true, beq_iff_eq] at h
  exact h
theorem lshr_toInt (x b : Int64) (k : Nat) (hk : (b.toBitVec.smod 64).toNat = k) : (x >>> b).toInt = x.toInt / (2 ^ k : Nat) := by
  show (x >>> b).toBitVec.toInt = _
  rw [Int64.toBitVec_shiftRight]
  show (x.toBitVec.sshiftRight (b.toBitVec.smod 64).toNat).toInt = _
  rw [hk, BitVec.toInt_sshiftRight, Int.shiftRight_eq_div_pow]
  rfl
theorem lshr32 (x b : Int64) (hk : (b.toBitVec.smod 64).toNat = 32) : (x >>> b).toInt = x.toInt / 4294967296 := by
  have h := lshr_toInt x b 32 hk
  simpa using h
theorem dexp_arith {q j1 r1 r2 r3 c : Int} (h1 : -2000 ≤ q) (h2 : q ≤ 2000) (hc : c = -536607788 ∨ c = 0) (d1 : (r1 - q * 1292913986) % 18446744073709551616 = 0) (g1 : -9223372036854775808 ≤ r1 ∧ r1 < 9223372036854775808) (d2 : (r2 - (r1 + c)) % 18446744073709551616 = 0) (g2 : -9223372036854775808 ≤ r2 ∧ r2 < 9223372036854775808)
    (d4 : (r3 - r2 / 4294967296) % 4294967296 = 0) (g4 : -2147483648 ≤ r3 ∧ r3 < 2147483648) : r3 = kOf q c := by
  unfold kOf
  have e1 : r1 = q * 1292913986 := by omega
  have e2 : r2 = q * 1292913986 + c := by omega
  rw [e2] at d4
  rcases hc with rfl | rfl <;> omega
end Jvm.OwnKit
namespace Jvm.Pilot.@@N@@
open Jvm Jvm.ClassFile Sem Op Lib Jvm.Free Jvm.Stand Jvm.LawKit Jvm.RoadKit Jvm.OwnKit Bundle Jvm.Pilot.@@N@@.Jvm.D
theorem pd_0 : parseMethodDescriptor "(IZ)I" = some ⟨[.int, .boolean], some .int⟩ := by decide +kernel
theorem pd_1 : parseMethodDescriptor "(JJ)J" = some ⟨[.long, .long], some .long⟩ := by decide +kernel
theorem pd_2 : parseMethodDescriptor "(J)J" = some ⟨[.long], some .long⟩ := by decide +kernel
theorem d1_0 : decode prog_15_method_8_code 0 = .ok (.iload_n 0, 1) := by decide +kernel
theorem d1_1 : decode prog_15_method_8_code 1 = .ok (.i2l, 1) := by decide +kernel
theorem d1_2 : decode prog_15_method_8_code 2 = .ok (.ldc2_w 119, 3) := by decide +kernel
theorem d1_5 : decode prog_15_method_8_code 5 = .ok (.lmul, 1) := by decide +kernel
theorem d1_6 : decode prog_15_method_8_code 6 = .ok (.iload_n 1, 1) := by decide +kernel
theorem d1_7 : decode prog_15_method_8_code 7 = .ok (.ifCond .eq 9, 3) := by decide +kernel
theorem d1_10 : decode prog_15_method_8_code 10 = .ok (.ldc2_w 121, 3) := by decide +kernel
theorem d1_13 : decode prog_15_method_8_code 13 = .ok (.goto 4, 3) := by decide +kernel
theorem d1_16 : decode prog_15_method_8_code 16 = .ok (.lconst 0, 1) := by decide +kernel
theorem d1_17 : decode prog_15_method_8_code 17 = .ok (.ladd, 1) := by decide +kernel
theorem d1_18 : decode prog_15_method_8_code 18 = .ok (.bipush 32, 2) := by decide +kernel
theorem d1_20 : decode prog_15_method_8_code 20 = .ok (.lshr, 1) := by decide +kernel
theorem d1_21 : decode prog_15_method_8_code 21 = .ok (.l2i, 1) := by decide +kernel
theorem d1_22 : decode prog_15_method_8_code 22 = .ok (.ireturn, 1) := by decide +kernel
theorem d2_0 : decode jdk_29_method_70_code 0 = .ok (.lload_n 0, 1) := by decide +kernel
theorem d2_1 : decode jdk_29_method_70_code 1 = .ok (.lload_n 2, 1) := by decide +kernel
theorem d2_2 : decode jdk_29_method_70_code 2 = .ok (.lcmp, 1) := by decide +kernel
theorem d2_3 : decode jdk_29_method_70_code 3 = .ok (.ifCond .gt 7, 3) := by decide +kernel
theorem d2_6 : decode jdk_29_method_70_code 6 = .ok (.lload_n 0, 1) := by decide +kernel
theorem d2_7 : decode jdk_29_method_70_code 7 = .ok (.goto 4, 3) := by decide +kernel
theorem d2_10 : decode jdk_29_method_70_code 10 = .ok (.lload_n 2, 1) := by decide +kernel
theorem d2_11 : decode jdk_29_method_70_code 11 = .ok (.lreturn, 1) := by decide +kernel
theorem d3_0 : decode jdk_29_method_66_code 0 = .ok (.lload_n 0, 1) := by decide +kernel
theorem d3_1 : decode jdk_29_method_66_code 1 = .ok (.lload_n 2, 1) := by decide +kernel
theorem d3_2 : decode jdk_29_method_66_code 2 = .ok (.lcmp, 1) := by decide +kernel
theorem d3_3 : decode jdk_29_method_66_code 3 = .ok (.ifCond .lt 7, 3) := by decide +kernel
theorem d3_6 : decode jdk_29_method_66_code 6 = .ok (.lload_n 0, 1) := by decide +kernel
theorem d3_7 : decode jdk_29_method_66_code 7 = .ok (.goto 4, 3) := by decide +kernel
theorem d3_10 : decode jdk_29_method_66_code 10 = .ok (.lload_n 2, 1) := by decide +kernel
theorem d3_11 : decode jdk_29_method_66_code 11 = .ok (.lreturn, 1) := by decide +kernel
theorem d4_0 : decode method_3_code 0 = .ok (.ldc2_w 37, 3) := by decide +kernel
theorem d4_3 : decode method_3_code 3 = .ok (.lstore_n 2, 1) := by decide +kernel
theorem d4_4 : decode method_3_code 4 = .ok (.lload_n 0, 1) := by decide +kernel
theorem d4_5 : decode method_3_code 5 = .ok (.lload_n 2, 1) := by decide +kernel
theorem d4_6 : decode method_3_code 6 = .ok (.ldiv, 1) := by decide +kernel
theorem d4_7 : decode method_3_code 7 = .ok (.lstore 4, 2) := by decide +kernel
theorem d4_9 : decode method_3_code 9 = .ok (.lload_n 0, 1) := by decide +kernel
theorem d4_10 : decode method_3_code 10 = .ok (.lload_n 2, 1) := by decide +kernel
theorem d4_11 : decode method_3_code 11 = .ok (.lrem, 1) := by decide +kernel
theorem d4_12 : decode method_3_code 12 = .ok (.lconst 0, 1) := by decide +kernel
theorem d4_13 : decode method_3_code 13 = .ok (.lcmp, 1) := by decide +kernel
theorem d4_14 : decode method_3_code 14 = .ok (.ifCond .eq 15, 3) := by decide +kernel
theorem d4_17 : decode method_3_code 17 = .ok (.lload_n 0, 1) := by decide +kernel
theorem d4_18 : decode method_3_code 18 = .ok (.lconst 0, 1) := by decide +kernel
theorem d4_19 : decode method_3_code 19 = .ok (.lcmp, 1) := by decide +kernel
theorem d4_20 : decode method_3_code 20 = .ok (.ifCond .ge 9, 3) := by decide +kernel
theorem d4_23 : decode method_3_code 23 = .ok (.lload 4, 2) := by decide +kernel
theorem d4_25 : decode method_3_code 25 = .ok (.lconst 1, 1) := by decide +kernel
theorem d4_26 : decode method_3_code 26 = .ok (.lsub, 1) := by decide +kernel
theorem d4_27 : decode method_3_code 27 = .ok (.lstore 4, 2) := by decide +kernel
theorem d4_29 : decode method_3_code 29 = .ok (.lload 4, 2) := by decide +kernel
theorem d4_31 : decode method_3_code 31 = .ok (.lreturn, 1) := by decide +kernel
set_option maxRecDepth 65536 in
set_option maxHeartbeats 2000000 in
theorem con_1 (l : Launch) (Z : State) (a0 : Array Value) (hw : ∀ d ∈ tables_1, d.before a0 Z = true) (q z : Int32) (P : Prop) [Decidable P] (ez : z = b2i P) (hq1 : -2000 ≤ q.toInt) (hq2 : q.toInt ≤ 2000) (h : Heap)  :
    Con l Z [] (⟨"com/example/quarray/quarray/engine/NumberText", "decimalExponent", "(IZ)I"⟩ : MethodName) prog_15_method_8_code 2 (some .int) ({ frames := 0, cells := 0, slots := 0, locals := 0 } : Room) #[(.int q), (.int z)] h [] (fun v h' => (∃ r : Int32, v = some (.int r) ∧ r.toInt = kOf q.toInt (if P then -536607788 else 0)) ∧ h = h') := by
  refine Con.of_go (L0 := #[.val (.int q), .val (.int z)]) (plainFor_of_name (by first | (simp [plainName, overriddenIn]; done) | decide +kernel)) (locals_of rfl) fun W Q hQ hl C => ?_
  subst hl
  refine g_iloadN (pc' := 1) C d1_0 rfl rfl ?_
  refine g_i2l (pc' := 2) C d1_1 rfl ?_
  refine g_ldc2L (pc' := 5) C d1_2 rfl (hw _ (List.mem_of_getElem? (i := 5) rfl)) ?_
  refine g_lmul (pc' := 6) C d1_5 rfl ?_
  refine g_iloadN (pc' := 7) C d1_6 rfl rfl ?_
  suffices K_7 : ∀ j1 : Int64, j1 = (if ¬ (P) then (0 : Int64) else (-536607788 : Int64)) → Go W Q h 0 0 17 #[.val (.int q), .val (.int z)] [(.long j1), (.long ((q.toInt64) * (1292913986 : Int64)))] by
    refine g_ifeqb (pc1 := 16) (pc2 := 10) C d1_7 (by decide) rfl rfl ez (fun (c7 : ¬ (P)) => ?_) (fun (c7 : P) => ?_)
    ·
      refine g_lconst (pc' := 17) (z := (0 : Int64)) C d1_16 rfl rfl ?_
      exact K_7 (0 : Int64) ((if_pos c7).symm)
    ·
      refine g_ldc2L (pc' := 13) C d1_10 rfl (hw _ (List.mem_of_getElem? (i := 6) rfl)) ?_
      refine g_goto C d1_13 (by decide) (pc' := 17) rfl ?_
      exact K_7 (-536607788 : Int64) ((if_neg (fun y => y c7)).symm)
  intro j1 e_j1
  refine g_ladd (pc' := 18) C d1_17 rfl ?_
  refine g_bipush (pc' := 20) (z := (32 : Int32)) C d1_18 rfl rfl ?_
  refine g_lshr (pc' := 21) C d1_20 rfl ?_
  refine g_l2i (pc' := 22) C d1_21 rfl ?_
  refine g_retI C d1_22 (by decide) (by decide) ?_
  subst hQ
  refine ⟨⟨_, rfl, ?_⟩, rfl⟩
  have d1 := c_lmul q.toInt64 1292913986
  have z1 : (1292913986 : Int64).toInt = 1292913986 := by decide
  have g1 := rng64 (q.toInt64 * 1292913986)
  rw [z1, c_i2l q] at d1
  have z2 : j1.toInt = (if P then -536607788 else 0) := by rw [e_j1]; by_cases x : P <;> simp only [x, b2i, if_true, if_false, ite_true, ite_false, and_true, true_and, and_false, false_and, or_true, true_or, or_false, false_or, not_true_eq_false, not_false_eq_true, and_self, or_self] <;> decide
  have d2 := c_ladd (q.toInt64 * 1292913986) j1
  have g2 := rng64 (q.toInt64 * 1292913986 + j1)
  rw [z2] at d2
  have d4 := c_l2i ((q.toInt64 * 1292913986 + j1) >>> ((32 : Int32) &&& 0x3f).toInt64)
  rw [lshr32 _ _ (by decide)] at d4
  have g4 := rng32 ((q.toInt64 * 1292913986 + j1) >>> ((32 : Int32) &&& 0x3f).toInt64).toInt32
  exact dexp_arith (j1 := 0) hq1 hq2 (by by_cases x : P <;> simp [x]) d1 g1 d2 g2 d4 g4
set_option maxRecDepth 65536 in
set_option maxHeartbeats 2000000 in
theorem con_2 (l : Launch) (Z : State) (a0 : Array Value) (hw : ∀ d ∈ tables_1, d.before a0 Z = true) (x y : Int64) (h : Heap)  :
    Con l Z [] (⟨"java/lang/Math", "min", "(JJ)J"⟩ : MethodName) jdk_29_method_70_code 4 (some .long) ({ frames := 0, cells := 0, slots := 0, locals := 0 } : Room) #[(.long x), (.long y)] h [] (fun v h' => (∃ r : Int64, v = some (.long r) ∧ r.toInt = (if x.toInt ≤ y.toInt then x.toInt else y.toInt)) ∧ h = h') := by
  refine Con.of_go (L0 := #[.val (.long x), .second, .val (.long y), .second]) (Jvm.Free.JP.mathPlain rfl (by decide +kernel)) (locals_of rfl) fun W Q hQ hl C => ?_
  subst hl
  refine g_lloadN (pc' := 1) C d2_0 rfl rfl ?_
  refine g_lloadN (pc' := 2) C d2_1 rfl rfl ?_
  suffices K_2 : ∀ j1 : Int64, j1 = (if y.toInt < x.toInt then y else x) → Go W Q h 0 0 11 #[.val (.long x), .second, .val (.long y), .second] [(.long j1)] by
    refine g_lcmp (cd := .gt) (xi := x.toInt) (yi := y.toInt) (pc' := 3) (pc1 := 10) (pc2 := 6) C d2_2 d2_3 rfl (by decide) rfl rfl rfl rfl (fun (c2 : y.toInt < x.toInt) => ?_) (fun (c2 : ¬ (y.toInt < x.toInt)) => ?_)
    ·
      refine g_lloadN (pc' := 11) C d2_10 rfl rfl ?_
      exact K_2 y ((if_pos c2).symm)
    ·
      refine g_lloadN (pc' := 7) C d2_6 rfl rfl ?_
      refine g_goto C d2_7 (by decide) (pc' := 11) rfl ?_
      exact K_2 x ((if_neg c2).symm)
  intro j1 e_j1
  refine g_retL C d2_11 (by decide) (by decide) ?_
  subst hQ
  refine ⟨⟨_, rfl, ?_⟩, rfl⟩
  rw [e_j1]
  split <;> split <;> omega
set_option maxRecDepth 65536 in
set_option maxHeartbeats 2000000 in
theorem con_3 (l : Launch) (Z : State) (a0 : Array Value) (hw : ∀ d ∈ tables_1, d.before a0 Z = true) (x y : Int64) (h : Heap)  :
    Con l Z [] (⟨"java/lang/Math", "max", "(JJ)J"⟩ : MethodName) jdk_29_method_66_code 4 (some .long) ({ frames := 0, cells := 0, slots := 0, locals := 0 } : Room) #[(.long x), (.long y)] h [] (fun v h' => (∃ r : Int64, v = some (.long r) ∧ r.toInt = (if x.toInt ≤ y.toInt then y.toInt else x.toInt)) ∧ h = h') := by
  refine Con.of_go (L0 := #[.val (.long x), .second, .val (.long y), .second]) (Jvm.Free.JP.mathPlain rfl (by decide +kernel)) (locals_of rfl) fun W Q hQ hl C => ?_
  subst hl
  refine g_lloadN (pc' := 1) C d3_0 rfl rfl ?_
  refine g_lloadN (pc' := 2) C d3_1 rfl rfl ?_
  suffices K_2 : ∀ j1 : Int64, j1 = (if x.toInt < y.toInt then y else x) → Go W Q h 0 0 11 #[.val (.long x), .second, .val (.long y), .second] [(.long j1)] by
    refine g_lcmp (cd := .lt) (xi := x.toInt) (yi := y.toInt) (pc' := 3) (pc1 := 10) (pc2 := 6) C d3_2 d3_3 rfl (by decide) rfl rfl rfl rfl (fun (c2 : x.toInt < y.toInt) => ?_) (fun (c2 : ¬ (x.toInt < y.toInt)) => ?_)
    ·
      refine g_lloadN (pc' := 11) C d3_10 rfl rfl ?_
      exact K_2 y ((if_pos c2).symm)
    ·
      refine g_lloadN (pc' := 7) C d3_6 rfl rfl ?_
      refine g_goto C d3_7 (by decide) (pc' := 11) rfl ?_
      exact K_2 x ((if_neg c2).symm)
  intro j1 e_j1
  refine g_retL C d3_11 (by decide) (by decide) ?_
  subst hQ
  refine ⟨⟨_, rfl, ?_⟩, rfl⟩
  rw [e_j1]
  split <;> split <;> omega
set_option maxRecDepth 65536 in
set_option maxHeartbeats 2000000 in
theorem con_4 (l : Launch) (Z : State) (a0 : Array Value) (hw : ∀ d ∈ tables_1, d.before a0 Z = true) (n : Int64) (h : Heap)  :
    Con l Z [] (⟨"com/example/quarray/quarray/engine/NumberTextDecimalExponentPinLaw", "floorOfScaled", "(J)J"⟩ : MethodName) method_3_code 6 (some .long) ({ frames := 0, cells := 0, slots := 0, locals := 0 } : Room) #[(.long n)] h [] (fun v h' => (∃ r : Int64, v = some (.long r) ∧ r.toInt = n.toInt / 10000000000000000) ∧ h = h') := by
  refine Con.of_go (L0 := #[.val (.long n), .second, .unset, .unset, .unset, .unset]) (plainFor_of_name (by first | (simp [plainName, overriddenIn]; done) | decide +kernel)) (locals_of rfl) fun W Q hQ hl C => ?_
  subst hl
  refine g_ldc2L (pc' := 3) C d4_0 rfl (hw _ (List.mem_of_getElem? (i := 22) rfl)) ?_
  refine g_lstoreN (pc' := 4) (L' := #[.val (.long n), .second, .val (.long (10000000000000000 : Int64)), .second, .unset, .unset]) C d4_3 rfl rfl ?_
  refine g_lloadN (pc' := 5) C d4_4 rfl rfl ?_
  refine g_lloadN (pc' := 6) C d4_5 rfl rfl ?_
  refine g_ldiv (pc' := 7) C d4_6 rfl (by decide) ?_
  refine g_nameJ fun j1 e_j1 => ?_
  refine g_lstore (pc' := 9) (L' := #[.val (.long n), .second, .val (.long (10000000000000000 : Int64)), .second, .val (.long j1), .second]) C d4_7 rfl rfl ?_
  refine g_lloadN (pc' := 10) C d4_9 rfl rfl ?_
  refine g_lloadN (pc' := 11) C d4_10 rfl rfl ?_
  refine g_lrem (pc' := 12) C d4_11 rfl (by decide) ?_
  refine g_lconst (pc' := 13) (z := (0 : Int64)) C d4_12 rfl rfl ?_
  suffices K_13 : ∀ j2 : Int64, j2 = (if (n % (10000000000000000 : Int64)).toInt = (0) then j1 else (if (0) ≤ n.toInt then j1 else (j1 - (1 : Int64)))) → Go W Q h 0 0 29 #[.val (.long n), .second, .val (.long (10000000000000000 : Int64)), .second, .val (.long j2), .second] [] by
    refine g_lcmp (cd := .eq) (xi := (n % (10000000000000000 : Int64)).toInt) (yi := (0)) (pc' := 14) (pc1 := 29) (pc2 := 17) C d4_13 d4_14 rfl (by decide) rfl rfl rfl rfl (fun (c13 : (n % (10000000000000000 : Int64)).toInt = (0)) => ?_) (fun (c13 : ¬ ((n % (10000000000000000 : Int64)).toInt = (0))) => ?_)
    ·
      exact K_13 j1 ((if_pos c13).symm)
    ·
      refine g_lloadN (pc' := 18) C d4_17 rfl rfl ?_
      refine g_lconst (pc' := 19) (z := (0 : Int64)) C d4_18 rfl rfl ?_
      refine g_lcmp (cd := .ge) (xi := n.toInt) (yi := (0)) (pc' := 20) (pc1 := 29) (pc2 := 23) C d4_19 d4_20 rfl (by decide) rfl rfl rfl rfl (fun (c19 : (0) ≤ n.toInt) => ?_) (fun (c19 : ¬ ((0) ≤ n.toInt)) => ?_)
      ·
        exact K_13 j1 (((if_pos c19).symm).trans (if_neg c13).symm)
      ·
        refine g_lload (pc' := 25) C d4_23 rfl rfl ?_
        refine g_lconst (pc' := 26) (z := (1 : Int64)) C d4_25 rfl rfl ?_
        refine g_lsub (pc' := 27) C d4_26 rfl ?_
        refine g_lstore (pc' := 29) (L' := #[.val (.long n), .second, .val (.long (10000000000000000 : Int64)), .second, .val (.long (j1 - (1 : Int64))), .second]) C d4_27 rfl rfl ?_
        exact K_13 (j1 - (1 : Int64)) (((if_neg c19).symm).trans (if_neg c13).symm)
  intro j2 e_j2
  refine g_lload (pc' := 31) C d4_29 rfl rfl ?_
  refine g_retL C d4_31 (by decide) (by decide) ?_
  subst hQ
  refine ⟨⟨_, rfl, ?_⟩, rfl⟩
  have g0 := rng64 n
  have d1 := c_ldiv n 10000000000000000 10000000000000000 rfl (by decide)
  have d2 := c_lrem n 10000000000000000 10000000000000000 rfl
  rw [lrem_mod] at d2
  rw [← e_j1] at d1
  have d3 := c_lsub j1 1
  have z1 : (1 : Int64).toInt = 1 := rfl
  have g3 := rng64 (j1 - 1)
  rw [z1] at d3
  try subst e_j2
  rcases Int.lt_or_le n.toInt 0 with c | c
  · have d1 := d1.2 c; have d2 := d2.2 c; (repeat' split) <;> omega
  · have d1 := d1.1 c; have d2 := d2.1 c; (repeat' split) <;> omega
set_option maxRecDepth 65536 in
set_option maxHeartbeats 2000000 in
theorem con_0 (l : Launch) (Z : State) (a0 : Array Value) (hw : ∀ d ∈ tables_1, d.before a0 Z = true) (p0 p1 : Int32) (h : Heap)  :
    Con l Z tables_1 x code maxLocals ret room_1 #[(.int p0), (.int p1)] h [] (fun v _ => v = some (.int 1)) := by
  refine Con.of_go (L0 := #[.val (.int p0), .val (.int p1), .unset, .unset, .unset, .unset, .unset, .unset, .unset, .unset, .unset, .unset, .unset, .unset, .unset, .unset, .unset, .unset, .unset, .unset, .unset]) (plainFor_of_name (by first | (simp [plainName, overriddenIn]; done) | decide +kernel)) (locals_of rfl) fun W Q hQ hl C => ?_
  subst hl
  refine g_iloadN (pc' := 1) C at_0 rfl rfl ?_
  refine g_iconst (pc' := 2) (z := (1 : Int32)) C at_1 rfl rfl ?_
  refine g_iand (pc' := 3) C at_2 rfl ?_
  suffices K_3 : ∀ z1 : Int32, z1 = b2i (¬ ((p1 &&& (1 : Int32)).toInt = 0)) → Go W Q h 0 0 11 #[.val (.int p0), .val (.int p1), .unset, .unset, .unset, .unset, .unset, .unset, .unset, .unset, .unset, .unset, .unset, .unset, .unset, .unset, .unset, .unset, .unset, .unset, .unset] [(.int z1)] by
    refine g_if (xi := (p1 &&& (1 : Int32)).toInt) (pc1 := 10) (pc2 := 6) C at_3 (by decide) rfl rfl rfl (fun (c3 : (p1 &&& (1 : Int32)).toInt = 0) => ?_) (fun (c3 : ¬ ((p1 &&& (1 : Int32)).toInt = 0)) => ?_)
    ·
      refine g_iconst (pc' := 11) (z := (0 : Int32)) C at_10 rfl rfl ?_
      exact K_3 (0 : Int32) ((rfl : (0 : Int32) = b2i False).trans (b2i_iff (iff_false_intro (fun y => y c3)).symm))
    ·
      refine g_iconst (pc' := 7) (z := (1 : Int32)) C at_6 rfl rfl ?_
      refine g_goto C at_7 (by decide) (pc' := 11) rfl ?_
      exact K_3 (1 : Int32) ((rfl : (1 : Int32) = b2i True).trans (b2i_iff (iff_true_intro c3).symm))
  intro z1 e_z1
  refine g_istoreN (pc' := 12) (L' := #[.val (.int p0), .val (.int p1), .val (.int z1), .unset, .unset, .unset, .unset, .unset, .unset, .unset, .unset, .unset, .unset, .unset, .unset, .unset, .unset, .unset, .unset, .unset, .unset]) C at_11 rfl rfl ?_
  refine g_iloadN (pc' := 13) C at_12 rfl rfl ?_
  suffices K_13 : ∀ i2 : Int32, i2 = (if (p1 &&& (1 : Int32)).toInt = 0 then ((-1074 : Int32) + ((p0 &&& (2147483647 : Int32)) % (2046 : Int32))) else ((-1073 : Int32) + ((p0 &&& (2147483647 : Int32)) % (2045 : Int32)))) → Go W Q h 0 0 43 #[.val (.int p0), .val (.int p1), .val (.int z1), .unset, .unset, .unset, .unset, .unset, .unset, .unset, .unset, .unset, .unset, .unset, .unset, .unset, .unset, .unset, .unset, .unset, .unset] [(.int i2)] by
    refine g_ifeqb (pc1 := 31) (pc2 := 16) C at_13 (by decide) rfl rfl e_z1 (fun (c13 : ¬ (¬ ((p1 &&& (1 : Int32)).toInt = 0))) => ?_) (fun (c13 : ¬ ((p1 &&& (1 : Int32)).toInt = 0)) => ?_)
    ·
      replace c13 : (p1 &&& (1 : Int32)).toInt = 0 := Decidable.not_not.mp c13
      refine g_sipush (pc' := 34) (z := (-1074 : Int32)) C at_31 rfl rfl ?_
      refine g_iloadN (pc' := 35) C at_34 rfl rfl ?_
      refine g_ldcI (pc' := 37) C at_35 rfl (hw _ (List.mem_of_getElem? (i := 0) rfl)) ?_
      refine g_iand (pc' := 38) C at_37 rfl ?_
      refine g_sipush (pc' := 41) (z := (2046 : Int32)) C at_38 rfl rfl ?_
      refine g_irem (pc' := 42) C at_41 rfl (by decide) ?_
      refine g_iadd (pc' := 43) C at_42 rfl ?_
      exact K_13 ((-1074 : Int32) + ((p0 &&& (2147483647 : Int32)) % (2046 : Int32))) ((if_pos c13).symm)
    ·
      refine g_sipush (pc' := 19) (z := (-1073 : Int32)) C at_16 rfl rfl ?_
      refine g_iloadN (pc' := 20) C at_19 rfl rfl ?_
      refine g_ldcI (pc' := 22) C at_20 rfl (hw _ (List.mem_of_getElem? (i := 0) rfl)) ?_
      refine g_iand (pc' := 23) C at_22 rfl ?_
      refine g_sipush (pc' := 26) (z := (2045 : Int32)) C at_23 rfl rfl ?_
      refine g_irem (pc' := 27) C at_26 rfl (by decide) ?_
      refine g_iadd (pc' := 28) C at_27 rfl ?_
      refine g_goto C at_28 (by decide) (pc' := 43) rfl ?_
      exact K_13 ((-1073 : Int32) + ((p0 &&& (2147483647 : Int32)) % (2045 : Int32))) ((if_neg c13).symm)
  intro i2 e_i2
  refine g_istoreN (pc' := 44) (L' := #[.val (.int p0), .val (.int p1), .val (.int z1), .val (.int i2), .unset, .unset, .unset, .unset, .unset, .unset, .unset, .unset, .unset, .unset, .unset, .unset, .unset, .unset, .unset, .unset, .unset]) C at_43 rfl rfl ?_
  refine g_iloadN (pc' := 45) C at_44 rfl rfl ?_
  refine g_iloadN (pc' := 46) C at_45 rfl rfl ?_
  have m1 := c_mask p0 2147483647 31 (by decide) (by decide)
  have m2 := (c_irem (p0 &&& 2147483647) 2045 2045 rfl).1 (by omega)
  have m3 := (c_irem (p0 &&& 2147483647) 2046 2046 rfl).1 (by omega)
  have m4 := c_iadd (-1073) ((p0 &&& 2147483647) % 2045)
  have m5 := c_iadd (-1074) ((p0 &&& 2147483647) % 2046)
  have z4 : (-1073 : Int32).toInt = -1073 := rfl
  have z5 : (-1074 : Int32).toInt = -1074 := rfl
  have g4 := rng32 (-1073 + (p0 &&& 2147483647) % 2045)
  have g5 := rng32 (-1074 + (p0 &&& 2147483647) % 2046)
  rw [z4] at m4
  rw [z5] at m5
  have hq : ((¬ ((p1 &&& (1 : Int32)).toInt = 0)) ∧ -1073 ≤ i2.toInt ∧ i2.toInt < 972) ∨ (¬ (¬ ((p1 &&& (1 : Int32)).toInt = 0)) ∧ -1074 ≤ i2.toInt ∧ i2.toInt < 972) := by
    rw [e_i2]
    by_cases c : (p1 &&& (1 : Int32)).toInt = 0 <;> simp only [b2i, if_true, if_false, ite_true, ite_false, and_true, true_and, and_false, false_and, or_true, true_or, or_false, false_or, not_true_eq_false, not_false_eq_true, and_self, or_self, c] <;> omega
  refine g_static (y := (⟨"com/example/quarray/quarray/engine/NumberText", "decimalExponent", "(IZ)I"⟩ : MethodName)) (pc' := 49) (k' := 0) (n' := 0) (S := []) (as := [(.int i2), (.int z1)]) C at_46 rfl (hw _ (List.mem_of_getElem? (i := 1) rfl)) (hw _ (List.mem_of_getElem? (i := 2) rfl)) (hw _ (List.mem_of_getElem? (i := 3) rfl)) (hw _ (List.mem_of_getElem? (i := 4) rfl)) (by decide) (lenOf pd_0 rfl) (con_1 W.l Z a0 hw i2 z1 (¬ ((p1 &&& (1 : Int32)).toInt = 0)) e_z1 (by omega) (by omega) h) rfl rfl (Nat.le_of_ble_eq_true rfl) (Nat.le_of_ble_eq_true rfl) rfl rfl (Nat.le_of_ble_eq_true rfl) (Nat.le_of_ble_eq_true rfl) all0 fun vh1 h1 qh1 Kh1 => ?_
  obtain ⟨⟨i3, rfl, er_i3⟩, eh⟩ := qh1
  subst eh
  show Go W Q h 0 0 49 #[.val (.int p0), .val (.int p1), .val (.int z1), .val (.int i2), .unset, .unset, .unset, .unset, .unset, .unset, .unset, .unset, .unset, .unset, .unset, .unset, .unset, .unset, .unset, .unset, .unset] [(.int i3)]
  refine g_istore (pc' := 51) (L' := #[.val (.int p0), .val (.int p1), .val (.int z1), .val (.int i2), .val (.int i3), .unset, .unset, .unset, .unset, .unset, .unset, .unset, .unset, .unset, .unset, .unset, .unset, .unset, .unset, .unset, .unset]) C at_49 rfl rfl ?_
  refine g_ldc2L (pc' := 54) C at_51 rfl (hw _ (List.mem_of_getElem? (i := 7) rfl)) ?_
  refine g_lstore (pc' := 56) (L' := #[.val (.int p0), .val (.int p1), .val (.int z1), .val (.int i2), .val (.int i3), .val (.long (3010299956639811 : Int64)), .second, .unset, .unset, .unset, .unset, .unset, .unset, .unset, .unset, .unset, .unset, .unset, .unset, .unset, .unset]) C at_54 rfl rfl ?_
  refine g_ldc2L (pc' := 59) C at_56 rfl (hw _ (List.mem_of_getElem? (i := 8) rfl)) ?_
  refine g_lstore (pc' := 61) (L' := #[.val (.int p0), .val (.int p1), .val (.int z1), .val (.int i2), .val (.int i3), .val (.long (3010299956639811 : Int64)), .second, .val (.long (3010299956639812 : Int64)), .second, .unset, .unset, .unset, .unset, .unset, .unset, .unset, .unset, .unset, .unset, .unset, .unset]) C at_59 rfl rfl ?_
  refine g_iloadN (pc' := 62) C at_61 rfl rfl ?_
  suffices K_62 : ∀ j4 : Int64, j4 = (if (p1 &&& (1 : Int32)).toInt = 0 then (0 : Int64) else (1249387366082999 : Int64)) → Go W Q h 0 0 72 #[.val (.int p0), .val (.int p1), .val (.int z1), .val (.int i2), .val (.int i3), .val (.long (3010299956639811 : Int64)), .second, .val (.long (3010299956639812 : Int64)), .second, .unset, .unset, .unset, .unset, .unset, .unset, .unset, .unset, .unset, .unset, .unset, .unset] [(.long j4)] by
    refine g_ifeqb (pc1 := 71) (pc2 := 65) C at_62 (by decide) rfl rfl e_z1 (fun (c62 : ¬ (¬ ((p1 &&& (1 : Int32)).toInt = 0))) => ?_) (fun (c62 : ¬ ((p1 &&& (1 : Int32)).toInt = 0)) => ?_)
    ·
      replace c62 : (p1 &&& (1 : Int32)).toInt = 0 := Decidable.not_not.mp c62
      refine g_lconst (pc' := 72) (z := (0 : Int64)) C at_71 rfl rfl ?_
      exact K_62 (0 : Int64) ((if_pos c62).symm)
    ·
      refine g_ldc2L (pc' := 68) C at_65 rfl (hw _ (List.mem_of_getElem? (i := 9) rfl)) ?_
      refine g_goto C at_68 (by decide) (pc' := 72) rfl ?_
      exact K_62 (1249387366082999 : Int64) ((if_neg c62).symm)
  intro j4 e_j4
  refine g_lstore (pc' := 74) (L' := #[.val (.int p0), .val (.int p1), .val (.int z1), .val (.int i2), .val (.int i3), .val (.long (3010299956639811 : Int64)), .second, .val (.long (3010299956639812 : Int64)), .second, .val (.long j4), .second, .unset, .unset, .unset, .unset, .unset, .unset, .unset, .unset, .unset, .unset]) C at_72 rfl rfl ?_
  refine g_iloadN (pc' := 75) C at_74 rfl rfl ?_
  suffices K_75 : ∀ j5 : Int64, j5 = (if (p1 &&& (1 : Int32)).toInt = 0 then (0 : Int64) else (1249387366083000 : Int64)) → Go W Q h 0 0 85 #[.val (.int p0), .val (.int p1), .val (.int z1), .val (.int i2), .val (.int i3), .val (.long (3010299956639811 : Int64)), .second, .val (.long (3010299956639812 : Int64)), .second, .val (.long j4), .second, .unset, .unset, .unset, .unset, .unset, .unset, .unset, .unset, .unset, .unset] [(.long j5)] by
    refine g_ifeqb (pc1 := 84) (pc2 := 78) C at_75 (by decide) rfl rfl e_z1 (fun (c75 : ¬ (¬ ((p1 &&& (1 : Int32)).toInt = 0))) => ?_) (fun (c75 : ¬ ((p1 &&& (1 : Int32)).toInt = 0)) => ?_)
    ·
      replace c75 : (p1 &&& (1 : Int32)).toInt = 0 := Decidable.not_not.mp c75
      refine g_lconst (pc' := 85) (z := (0 : Int64)) C at_84 rfl rfl ?_
      exact K_75 (0 : Int64) ((if_pos c75).symm)
    ·
      refine g_ldc2L (pc' := 81) C at_78 rfl (hw _ (List.mem_of_getElem? (i := 10) rfl)) ?_
      refine g_goto C at_81 (by decide) (pc' := 85) rfl ?_
      exact K_75 (1249387366083000 : Int64) ((if_neg c75).symm)
  intro j5 e_j5
  refine g_lstore (pc' := 87) (L' := #[.val (.int p0), .val (.int p1), .val (.int z1), .val (.int i2), .val (.int i3), .val (.long (3010299956639811 : Int64)), .second, .val (.long (3010299956639812 : Int64)), .second, .val (.long j4), .second, .val (.long j5), .second, .unset, .unset, .unset, .unset, .unset, .unset, .unset, .unset]) C at_85 rfl rfl ?_
  refine g_iloadN (pc' := 88) C at_87 rfl rfl ?_
  refine g_i2l (pc' := 89) C at_88 rfl ?_
  refine g_lload (pc' := 91) C at_89 rfl rfl ?_
  refine g_lmul (pc' := 92) C at_91 rfl ?_
  refine g_nameJ fun j6 e_j6 => ?_
  refine g_lstore (pc' := 94) (L' := #[.val (.int p0), .val (.int p1), .val (.int z1), .val (.int i2), .val (.int i3), .val (.long (3010299956639811 : Int64)), .second, .val (.long (3010299956639812 : Int64)), .second, .val (.long j4), .second, .val (.long j5), .second, .val (.long j6), .second, .unset, .unset, .unset, .unset, .unset, .unset]) C at_92 rfl rfl ?_
  refine g_iloadN (pc' := 95) C at_94 rfl rfl ?_
  refine g_i2l (pc' := 96) C at_95 rfl ?_
  refine g_lload (pc' := 98) C at_96 rfl rfl ?_
  refine g_lmul (pc' := 99) C at_98 rfl ?_
  refine g_nameJ fun j7 e_j7 => ?_
  refine g_lstore (pc' := 101) (L' := #[.val (.int p0), .val (.int p1), .val (.int z1), .val (.int i2), .val (.int i3), .val (.long (3010299956639811 : Int64)), .second, .val (.long (3010299956639812 : Int64)), .second, .val (.long j4), .second, .val (.long j5), .second, .val (.long j6), .second, .val (.long j7), .second, .unset, .unset, .unset, .unset]) C at_99 rfl rfl ?_
  refine g_lload (pc' := 103) C at_101 rfl rfl ?_
  refine g_lload (pc' := 105) C at_103 rfl rfl ?_
  refine g_static (y := (⟨"java/lang/Math", "min", "(JJ)J"⟩ : MethodName)) (pc' := 108) (k' := 0) (n' := 0) (S := []) (as := [(.long j6), (.long j7)]) C at_105 rfl (hw _ (List.mem_of_getElem? (i := 11) rfl)) (hw _ (List.mem_of_getElem? (i := 12) rfl)) (hw _ (List.mem_of_getElem? (i := 13) rfl)) (hw _ (List.mem_of_getElem? (i := 14) rfl)) (by decide) (lenOf pd_1 rfl) (con_2 W.l Z a0 hw j6 j7 h) rfl rfl (Nat.le_of_ble_eq_true rfl) (Nat.le_of_ble_eq_true rfl) rfl rfl (Nat.le_of_ble_eq_true rfl) (Nat.le_of_ble_eq_true rfl) all0 fun vh2 h2 qh2 Kh2 => ?_
  obtain ⟨⟨j8, rfl, er_j8⟩, eh⟩ := qh2
  subst eh
  show Go W Q h 0 0 108 #[.val (.int p0), .val (.int p1), .val (.int z1), .val (.int i2), .val (.int i3), .val (.long (3010299956639811 : Int64)), .second, .val (.long (3010299956639812 : Int64)), .second, .val (.long j4), .second, .val (.long j5), .second, .val (.long j6), .second, .val (.long j7), .second, .unset, .unset, .unset, .unset] [(.long j8)]
  refine g_lload (pc' := 110) C at_108 rfl rfl ?_
  refine g_lsub (pc' := 111) C at_110 rfl ?_
  refine g_nameJ fun j9 e_j9 => ?_
  refine g_lstore (pc' := 113) (L' := #[.val (.int p0), .val (.int p1), .val (.int z1), .val (.int i2), .val (.int i3), .val (.long (3010299956639811 : Int64)), .second, .val (.long (3010299956639812 : Int64)), .second, .val (.long j4), .second, .val (.long j5), .second, .val (.long j6), .second, .val (.long j7), .second, .val (.long j9), .second, .unset, .unset]) C at_111 rfl rfl ?_
  refine g_lload (pc' := 115) C at_113 rfl rfl ?_
  refine g_lload (pc' := 117) C at_115 rfl rfl ?_
  refine g_static (y := (⟨"java/lang/Math", "max", "(JJ)J"⟩ : MethodName)) (pc' := 120) (k' := 0) (n' := 0) (S := []) (as := [(.long j6), (.long j7)]) C at_117 rfl (hw _ (List.mem_of_getElem? (i := 15) rfl)) (hw _ (List.mem_of_getElem? (i := 16) rfl)) (hw _ (List.mem_of_getElem? (i := 13) rfl)) (hw _ (List.mem_of_getElem? (i := 17) rfl)) (by decide) (lenOf pd_1 rfl) (con_3 W.l Z a0 hw j6 j7 h) rfl rfl (Nat.le_of_ble_eq_true rfl) (Nat.le_of_ble_eq_true rfl) rfl rfl (Nat.le_of_ble_eq_true rfl) (Nat.le_of_ble_eq_true rfl) all0 fun vh3 h3 qh3 Kh3 => ?_
  obtain ⟨⟨j10, rfl, er_j10⟩, eh⟩ := qh3
  subst eh
  show Go W Q h 0 0 120 #[.val (.int p0), .val (.int p1), .val (.int z1), .val (.int i2), .val (.int i3), .val (.long (3010299956639811 : Int64)), .second, .val (.long (3010299956639812 : Int64)), .second, .val (.long j4), .second, .val (.long j5), .second, .val (.long j6), .second, .val (.long j7), .second, .val (.long j9), .second, .unset, .unset] [(.long j10)]
  refine g_lload (pc' := 122) C at_120 rfl rfl ?_
  refine g_lsub (pc' := 123) C at_122 rfl ?_
  refine g_nameJ fun j11 e_j11 => ?_
  refine g_lstore (pc' := 125) (L' := #[.val (.int p0), .val (.int p1), .val (.int z1), .val (.int i2), .val (.int i3), .val (.long (3010299956639811 : Int64)), .second, .val (.long (3010299956639812 : Int64)), .second, .val (.long j4), .second, .val (.long j5), .second, .val (.long j6), .second, .val (.long j7), .second, .val (.long j9), .second, .val (.long j11), .second]) C at_123 rfl rfl ?_
  refine g_lload (pc' := 127) C at_125 rfl rfl ?_
  have w0 := c_i2l i2
  have w1 := c_lmul i2.toInt64 3010299956639811
  have w2 := c_lmul i2.toInt64 3010299956639812
  have v1 : (3010299956639811 : Int64).toInt = 3010299956639811 := rfl
  have v2 : (3010299956639812 : Int64).toInt = 3010299956639812 := rfl
  rw [← e_j6, v1, w0] at w1
  rw [← e_j7, v2, w0] at w2
  have r6 := rng64 j6
  have r7 := rng64 j7
  have r9 := rng64 j9
  have r11 := rng64 j11
  have x6 : j6.toInt = i2.toInt * 3010299956639811 := by omega
  have x7 : j7.toInt = i2.toInt * 3010299956639812 := by omega
  have w5 := c_lsub j8 j5
  have w6 := c_lsub j10 j4
  rw [← e_j9] at w5
  rw [← e_j11] at w6
  rw [x6, x7] at er_j8 er_j10
  have kk : j9.toInt / 10000000000000000 = i3.toInt ∧ j11.toInt / 10000000000000000 = i3.toInt := by
    rw [er_i3]
    rcases hq with ⟨c, q1, q2⟩ | ⟨c, q1, q2⟩
    · have t := chk1_spec q1 q2
      have y4 : j4.toInt = 1249387366082999 := by rw [e_j4, if_neg c]; rfl
      have y5 : j5.toInt = 1249387366083000 := by rw [e_j5, if_neg c]; rfl
      rw [← er_j8, ← er_j10] at t
      rw [if_pos c]
      have b8 : -4000000000000000000 ≤ j8.toInt ∧ j8.toInt ≤ 4000000000000000000 := by rw [er_j8]; split <;> omega
      have b10 : -4000000000000000000 ≤ j10.toInt ∧ j10.toInt ≤ 4000000000000000000 := by rw [er_j10]; split <;> omega
      have s9 : j9.toInt = j8.toInt - 1249387366083000 := by omega
      have s11 : j11.toInt = j10.toInt - 1249387366082999 := by omega
      rw [s9, s11]; exact t
    · have t := chk0_spec q1 q2
      have y4 : j4.toInt = 0 := by rw [e_j4, if_pos (Decidable.not_not.mp c)]; rfl
      have y5 : j5.toInt = 0 := by rw [e_j5, if_pos (Decidable.not_not.mp c)]; rfl
      rw [← er_j8, ← er_j10] at t
      rw [if_neg c]
      have b8 : -4000000000000000000 ≤ j8.toInt ∧ j8.toInt ≤ 4000000000000000000 := by rw [er_j8]; split <;> omega
      have b10 : -4000000000000000000 ≤ j10.toInt ∧ j10.toInt ≤ 4000000000000000000 := by rw [er_j10]; split <;> omega
      have s9 : j9.toInt = j8.toInt - 0 := by omega
      have s11 : j11.toInt = j10.toInt - 0 := by omega
      rw [s9, s11]; exact t
  have w7 := c_i2l i3
  refine g_static (y := (⟨"com/example/quarray/quarray/engine/NumberTextDecimalExponentPinLaw", "floorOfScaled", "(J)J"⟩ : MethodName)) (pc' := 130) (k' := 0) (n' := 0) (S := []) (as := [(.long j9)]) C at_127 rfl (hw _ (List.mem_of_getElem? (i := 18) rfl)) (hw _ (List.mem_of_getElem? (i := 19) rfl)) (hw _ (List.mem_of_getElem? (i := 20) rfl)) (hw _ (List.mem_of_getElem? (i := 21) rfl)) (by decide) (lenOf pd_2 rfl) (con_4 W.l Z a0 hw j9 h) rfl rfl (Nat.le_of_ble_eq_true rfl) (Nat.le_of_ble_eq_true rfl) rfl rfl (Nat.le_of_ble_eq_true rfl) (Nat.le_of_ble_eq_true rfl) all0 fun vh4 h4 qh4 Kh4 => ?_
  obtain ⟨⟨j12, rfl, er_j12⟩, eh⟩ := qh4
  subst eh
  show Go W Q h 0 0 130 #[.val (.int p0), .val (.int p1), .val (.int z1), .val (.int i2), .val (.int i3), .val (.long (3010299956639811 : Int64)), .second, .val (.long (3010299956639812 : Int64)), .second, .val (.long j4), .second, .val (.long j5), .second, .val (.long j6), .second, .val (.long j7), .second, .val (.long j9), .second, .val (.long j11), .second] [(.long j12)]
  refine g_iload (pc' := 132) C at_130 rfl rfl ?_
  refine g_i2l (pc' := 133) C at_132 rfl ?_
  refine g_lcmp (cd := .ne) (xi := j12.toInt) (yi := (i3.toInt64).toInt) (pc' := 134) (pc1 := 153) (pc2 := 137) C at_133 at_134 rfl (by decide) rfl rfl rfl rfl (fun (c133 : ¬ (j12.toInt = (i3.toInt64).toInt)) => ?_) (fun (c133 : ¬ (¬ (j12.toInt = (i3.toInt64).toInt))) => ?_)
  ·
    refine g_iconst (pc' := 154) (z := (0 : Int32)) C at_153 rfl rfl ?_
    refine g_retN C (by simp) at_154 (by decide) (by decide) ?_
    subst hQ
    exfalso
    omega
  ·
    replace c133 : j12.toInt = (i3.toInt64).toInt := Decidable.not_not.mp c133
    refine g_lload (pc' := 139) C at_137 rfl rfl ?_
    refine g_static (y := (⟨"com/example/quarray/quarray/engine/NumberTextDecimalExponentPinLaw", "floorOfScaled", "(J)J"⟩ : MethodName)) (pc' := 142) (k' := 0) (n' := 0) (S := []) (as := [(.long j11)]) C at_139 rfl (hw _ (List.mem_of_getElem? (i := 18) rfl)) (hw _ (List.mem_of_getElem? (i := 19) rfl)) (hw _ (List.mem_of_getElem? (i := 20) rfl)) (hw _ (List.mem_of_getElem? (i := 21) rfl)) (by decide) (lenOf pd_2 rfl) (con_4 W.l Z a0 hw j11 h) rfl rfl (Nat.le_of_ble_eq_true rfl) (Nat.le_of_ble_eq_true rfl) rfl rfl (Nat.le_of_ble_eq_true rfl) (Nat.le_of_ble_eq_true rfl) all0 fun vh5 h5 qh5 Kh5 => ?_
    obtain ⟨⟨j13, rfl, er_j13⟩, eh⟩ := qh5
    subst eh
    show Go W Q h 0 0 142 #[.val (.int p0), .val (.int p1), .val (.int z1), .val (.int i2), .val (.int i3), .val (.long (3010299956639811 : Int64)), .second, .val (.long (3010299956639812 : Int64)), .second, .val (.long j4), .second, .val (.long j5), .second, .val (.long j6), .second, .val (.long j7), .second, .val (.long j9), .second, .val (.long j11), .second] [(.long j13)]
    refine g_iload (pc' := 144) C at_142 rfl rfl ?_
    refine g_i2l (pc' := 145) C at_144 rfl ?_
    suffices K_145 : ∀ z14 : Int32, z14 = b2i (j13.toInt = (i3.toInt64).toInt) → Go W Q h 0 0 154 #[.val (.int p0), .val (.int p1), .val (.int z1), .val (.int i2), .val (.int i3), .val (.long (3010299956639811 : Int64)), .second, .val (.long (3010299956639812 : Int64)), .second, .val (.long j4), .second, .val (.long j5), .second, .val (.long j6), .second, .val (.long j7), .second, .val (.long j9), .second, .val (.long j11), .second] [(.int z14)] by
      refine g_lcmp (cd := .ne) (xi := j13.toInt) (yi := (i3.toInt64).toInt) (pc' := 146) (pc1 := 153) (pc2 := 149) C at_145 at_146 rfl (by decide) rfl rfl rfl rfl (fun (c145 : ¬ (j13.toInt = (i3.toInt64).toInt)) => ?_) (fun (c145 : ¬ (¬ (j13.toInt = (i3.toInt64).toInt))) => ?_)
      ·
        refine g_iconst (pc' := 154) (z := (0 : Int32)) C at_153 rfl rfl ?_
        exact K_145 (0 : Int32) ((rfl : (0 : Int32) = b2i False).trans (b2i_iff (iff_false_intro c145).symm))
      ·
        replace c145 : j13.toInt = (i3.toInt64).toInt := Decidable.not_not.mp c145
        refine g_iconst (pc' := 150) (z := (1 : Int32)) C at_149 rfl rfl ?_
        refine g_goto C at_150 (by decide) (pc' := 154) rfl ?_
        exact K_145 (1 : Int32) ((rfl : (1 : Int32) = b2i True).trans (b2i_iff (iff_true_intro c145).symm))
    intro z14 e_z14
    refine g_retN C (by simp) at_154 (by decide) (by decide) ?_
    subst hQ
    refine congrArg (fun z => some (Value.int z)) (?_ : nar .boolean z14 = 1)
    rw [e_z14, nar_b2i]
    refine b2i_pos ?_
    omega
set_option maxRecDepth 65536 in
set_option maxHeartbeats 2000000 in
theorem comes_1 {Post : Tables → Env → Array Value → State → Outcome → State → Prop} (hpost : ∀ tb e args s v u, (limb_1_1.after args s (.returned v) u = true ∧ limb_1_2.after args s (.returned v) u = true ∧ True) → FrameEnd s (.returned v) u (Jvm.fieldLocs frame_1_writes args s ++ Jvm.arrayLocs frame_1_arrays args s ++ Jvm.staticLocs frame_1_statics s) 0 0 → Post tb e args s (.returned v) u) :
    ArmFor flags0 classFile x code maxLocals ret World_1 tables_1 room_1 Calls_1 rest_1 Pre_1 Post := by
  intro l hfl _ _ p e ha hc hk s m args below hf hA hF happ hP
  obtain ⟨hcalls, hrest, hpre⟩ := hP
  obtain ⟨-, -, -, hnamed, -, -, -, hat⟩ := (Spec.applies_iff hf).mp happ
  obtain ⟨hg, hn⟩ := and_e (Cond.before_iff.mp (show (Jvm.Cond.and given_1 narrow_1).before args s = true from hpre))
  obtain ⟨g1, g2⟩ := and_e hg
  obtain ⟨g3, g4⟩ := and_e g2
  obtain ⟨w0, w1, rfl⟩ : ∃ w0 w1 : Value, args = #[w0, w1] := by
    have hs : args.size = 2 := by simpa [Cond.value, given_1] using g1
    obtain ⟨L⟩ := args
    match L, hs with
    | [w0, w1], _ => exact ⟨w0, w1, rfl⟩
  have hw := fun d (hd : d ∈ tables_1) => atoms_spec (ws := Jvm.Cond.code x code maxLocals ret :: tables_1) hat d (List.mem_cons_of_mem _ hd)
  obtain ⟨i0, ei0⟩ := is_v g3
  obtain rfl : w0 = (.int i0) := Option.some.inj ei0
  obtain ⟨i1, ei1⟩ := is_v g4
  obtain rfl : w1 = (.int i1) := Option.some.inj ei1
  obtain ⟨n, o, h1, h2, h3, _, L, rfl, ⟨rfl, N⟩, hq⟩ := con_0 l s _ hw i0 i1 s.heap p e ha hc hk s m _ below hf ((Spec.applies_iff_loose hf).mp happ).1 ⟨rfl, State.Warmed39.refl s, rfl⟩ trivial
  refine ⟨n, _, h1, h2, h3, hpost _ _ _ _ _ _ ⟨Cond.after_iff.mpr rfl, Cond.after_iff.mpr (eq_i res_at (Term.int_eval (1)) rfl), trivial⟩ ⟨hq.1, hq.2.1, (hq.2.2.sift fun y hy => Or.inr ((N y hy).resolve_left (fun q => nomatch q))).mono (by decide) (by decide)⟩⟩
theorem main_1_1 : Claimed_1_1 := comes_1 fun _ _ _ _ _ _ h hF => ⟨h.1, hF⟩
theorem main_1_2 : Claimed_1_2 := comes_1 fun _ _ _ _ _ _ h hF => ⟨h.2.1, hF⟩
end Jvm.Pilot.@@N@@
namespace Jvm.Pilot.@@N@@
open Jvm Jvm.ClassFile Sem Op Lib Jvm.Free Jvm.Stand Jvm.Pilot.@@N@@.Jvm.D
/-! MADE BY PROGRAM (witnessworld.py) out of the Statement's table words and the real class files: 10 classes; the members and pool entries that the words name. The judged class is class 1, her method 1. -/
namespace start1
open Jvm.ClassFile
def u (s : String) : CpInfo := .utf8 (stringToUtf16 s)
/-- a pool by its gaps: so many unusable entries, then the entry; so many at the end -/
def gap : Nat → List CpInfo → List CpInfo
  | 0, r => r
  | n + 1, r => .unusable :: gap n r
def poolList (es : List (Nat × CpInfo)) (last : Nat) : List CpInfo := es.foldr (fun e r => gap e.1 (e.2 :: r)) (gap last [])
def pool (es : List (Nat × CpInfo)) (last : Nat) : Array CpInfo := ⟨poolList es last⟩
def fileOf (pool : Array CpInfo) (this : Nat) (attrs : Array Attribute := #[]) (ms : Array MethodInfo := #[]) (fl : Nat := 33) (sup : Nat := 0) (ifs : Array Nat := #[]) (fds : Array FieldInfo := #[]) : ClassFile where
  minorVersion := 0
  majorVersion := 65
  constantPool := pool
  accessFlags := fl
  thisClass := this
  superClass := sup
  interfaces := ifs
  fields := fds
  methods := ms
  attributes := attrs
def plain (name : String) (sup : Option ClassId) : Class where
  name := name
  kind := .ordinary
  loader := none
  accessFlags := 33
  super := sup
  interfaces := #[]
  cf := none
  fields := #[]
  methods := #[]
  instanceTypes := #[]
  staticTypes := #[]
  resolved := #[]
  callSites := []
  init := .initialized
  statics := none
  mirror := none

def pool0 : Array CpInfo := pool [(5, u "<init>"), (0, u "()V"), (1, .class_ 10), (1, u "java/lang/Object")] 113

def k0m0 : Method := { name := "<init>", desc := "()V", sig := { parameters := [], returnType := none }, accessFlags := 1, code := none }
/-- java/lang/Object -/
def k0 : Class := { plain "java/lang/Object" none with
  accessFlags := 33
  interfaces := #[]
  cf := some (fileOf pool0 8 #[] #[{ accessFlags := 1, nameIndex := 5, descriptorIndex := 6, attributes := #[] }] 33 0 #[] #[])
  fields := #[]
  methods := #[k0m0]
  instanceTypes := #[]
  staticTypes := #[]
  resolved := Array.replicate 124 none
  statics := none }

def pool1 : Array CpInfo := pool [(2, .class_ 4), (1, u "java/lang/Object"), (0, u "<init>"), (0, u "()V"), (0, .integer 2147483647), (0, .methodref 9 10), (0, .class_ 11), (0, .nameAndType 12 13), (0, u "com/example/quarray/quarray/engine/NumberText"), (0, u "decimalExponent"), (0, u "(IZ)I"), (0, .long 3010299956639811), (1, .long 3010299956639812), (1, .long 1249387366082999), (1, .long 1249387366083000), (1, .methodref 23 24), (0, .class_ 25), (0, .nameAndType 26 27), (0, u "java/lang/Math"), (0, u "min"), (0, u "(JJ)J"), (0, .methodref 23 29), (0, .nameAndType 30 27), (0, u "max"), (0, .methodref 32 33), (0, .class_ 34), (0, .nameAndType 35 36), (0, u "com/example/quarray/quarray/engine/NumberTextDecimalExponentPinLaw"), (0, u "floorOfScaled"), (0, u "(J)J"), (0, .long 10000000000000000), (3, u "law"), (0, u "(II)Z")] 3

def k1m0 : Method := { name := "<init>", desc := "()V", sig := { parameters := [], returnType := none }, accessFlags := 2, code := none }
def k1c1 : Code := { maxStack := 4, maxLocals := 21, code := code, exceptionTable := #[], attributes := #[] }
def k1m1 : Method := { name := "law", desc := "(II)Z", sig := { parameters := [.int, .int], returnType := some .boolean }, accessFlags := 9, code := some k1c1 }
def k1c2 : Code := { maxStack := 4, maxLocals := 6, code := method_3_code, exceptionTable := #[], attributes := #[] }
def k1m2 : Method := { name := "floorOfScaled", desc := "(J)J", sig := { parameters := [.long], returnType := some .long }, accessFlags := 10, code := some k1c2 }
/-- com/example/quarray/quarray/engine/NumberTextDecimalExponentPinLaw -/
def k1 : Class := { plain "com/example/quarray/quarray/engine/NumberTextDecimalExponentPinLaw" (some 0) with
  accessFlags := 49
  interfaces := #[]
  cf := some (fileOf pool1 32 #[] #[{ accessFlags := 2, nameIndex := 5, descriptorIndex := 6, attributes := #[] }, { accessFlags := 9, nameIndex := 41, descriptorIndex := 42, attributes := #[] }, { accessFlags := 10, nameIndex := 35, descriptorIndex := 36, attributes := #[] }] 49 2 #[] #[])
  fields := #[]
  methods := #[k1m0, k1m1, k1m2]
  instanceTypes := #[]
  staticTypes := #[]
  resolved := Array.replicate 46 none
  statics := none }

def pool2 : Array CpInfo := pool [(2, .class_ 4), (1, u "java/lang/Object"), (0, u "<init>"), (0, u "()V"), (1, .class_ 10), (1, u "com/example/quarray/quarray/engine/NumberText"), (11, u "EIGHT_BYTES"), (0, u "Ljava/lang/invoke/VarHandle;"), (48, u "decimalExponent"), (0, u "(IZ)I"), (5, u "[J"), (39, .long 1292913986), (1, .long 18446744073172943828), (44, u "POWERS_OF_TEN"), (42, u "DIGIT_PAIRS"), (0, u "[B"), (21, u "LONGEST_INTEGER"), (0, u "I"), (2, u "LONGEST_REAL"), (1, u "UNDECIDED"), (0, u "J"), (0, u "MOST_DIGITS"), (1, u "LEAST_OF_SIXTEEN_DIGITS"), (0, u "LEAST_OF_SEVENTEEN_DIGITS"), (0, u "EIGHT_ZEROS"), (0, u "ZERO_POINT_ZEROS"), (0, u "FRACTION_BITS")] 14

def k2m0 : Method := { name := "<init>", desc := "()V", sig := { parameters := [], returnType := none }, accessFlags := 2, code := none }
def k2c1 : Code := { maxStack := 4, maxLocals := 2, code := prog_15_method_8_code, exceptionTable := #[], attributes := #[] }
def k2m1 : Method := { name := "decimalExponent", desc := "(IZ)I", sig := { parameters := [.int, .boolean], returnType := some .int }, accessFlags := 8, code := some k2c1 }
/-- com/example/quarray/quarray/engine/NumberText -/
def k2 : Class := { plain "com/example/quarray/quarray/engine/NumberText" (some 0) with
  accessFlags := 49
  interfaces := #[]
  cf := some (fileOf pool2 8 #[] #[{ accessFlags := 2, nameIndex := 5, descriptorIndex := 6, attributes := #[] }, { accessFlags := 8, nameIndex := 72, descriptorIndex := 73, attributes := #[] }] 49 2 #[] #[{ accessFlags := 25, nameIndex := 232, descriptorIndex := 233, attributes := #[] }, { accessFlags := 25, nameIndex := 236, descriptorIndex := 233, attributes := #[] }, { accessFlags := 26, nameIndex := 238, descriptorIndex := 239, attributes := #[] }, { accessFlags := 26, nameIndex := 240, descriptorIndex := 233, attributes := #[] }, { accessFlags := 26, nameIndex := 242, descriptorIndex := 239, attributes := #[] }, { accessFlags := 26, nameIndex := 243, descriptorIndex := 239, attributes := #[] }, { accessFlags := 25, nameIndex := 244, descriptorIndex := 239, attributes := #[] }, { accessFlags := 26, nameIndex := 245, descriptorIndex := 239, attributes := #[] }, { accessFlags := 25, nameIndex := 166, descriptorIndex := 79, attributes := #[] }, { accessFlags := 26, nameIndex := 209, descriptorIndex := 210, attributes := #[] }, { accessFlags := 26, nameIndex := 22, descriptorIndex := 23, attributes := #[] }, { accessFlags := 26, nameIndex := 246, descriptorIndex := 239, attributes := #[] }])
  fields := #[{ name := "LONGEST_INTEGER", type := .int, accessFlags := 25, slot := 0, constantValue := 0 }, { name := "LONGEST_REAL", type := .int, accessFlags := 25, slot := 1, constantValue := 0 }, { name := "UNDECIDED", type := .long, accessFlags := 26, slot := 2, constantValue := 0 }, { name := "MOST_DIGITS", type := .int, accessFlags := 26, slot := 3, constantValue := 0 }, { name := "LEAST_OF_SIXTEEN_DIGITS", type := .long, accessFlags := 26, slot := 4, constantValue := 0 }, { name := "LEAST_OF_SEVENTEEN_DIGITS", type := .long, accessFlags := 26, slot := 5, constantValue := 0 }, { name := "EIGHT_ZEROS", type := .long, accessFlags := 25, slot := 6, constantValue := 0 }, { name := "ZERO_POINT_ZEROS", type := .long, accessFlags := 26, slot := 7, constantValue := 0 }, { name := "POWERS_OF_TEN", type := (.array .long), accessFlags := 25, slot := 8, constantValue := 0 }, { name := "DIGIT_PAIRS", type := (.array .byte), accessFlags := 26, slot := 9, constantValue := 0 }, { name := "EIGHT_BYTES", type := (.object "java/lang/invoke/VarHandle"), accessFlags := 26, slot := 10, constantValue := 0 }, { name := "FRACTION_BITS", type := .long, accessFlags := 26, slot := 11, constantValue := 0 }]
  methods := #[k2m0, k2m1]
  instanceTypes := #[]
  staticTypes := #[.int, .int, .long, .int, .long, .long, .long, .long, (.array .long), (.array .byte), (.object "java/lang/invoke/VarHandle"), .long]
  resolved := Array.replicate 261 none
  statics := none }

def pool3 : Array CpInfo := pool [(1, .class_ 2), (0, u "java/lang/Math"), (1, .class_ 6), (1, u "java/lang/Object"), (0, u "<init>"), (0, u "()V"), (89, .class_ 100), (1, u "java/lang/Math$RandomNumberGeneratorHolder"), (20, u "(JJ)J"), (50, u "negativeZeroFloatBits"), (0, u "J"), (2, u "negativeZeroDoubleBits"), (21, u "max"), (2, u "min"), (43, u "$assertionsDisabled"), (0, u "Z"), (91, u "twoToTheDoubleScaleDown"), (0, u "D"), (4, u "twoToTheDoubleScaleUp"), (9, u "E"), (3, u "PI"), (2, u "TAU"), (2, u "DEGREES_TO_RADIANS"), (0, u "RADIANS_TO_DEGREES")] 94

def k3m0 : Method := { name := "<init>", desc := "()V", sig := { parameters := [], returnType := none }, accessFlags := 2, code := none }
def k3c1 : Code := { maxStack := 4, maxLocals := 4, code := jdk_29_method_66_code, exceptionTable := #[], attributes := #[] }
def k3m1 : Method := { name := "max", desc := "(JJ)J", sig := { parameters := [.long, .long], returnType := some .long }, accessFlags := 9, code := some k3c1 }
def k3c2 : Code := { maxStack := 4, maxLocals := 4, code := jdk_29_method_70_code, exceptionTable := #[], attributes := #[] }
def k3m2 : Method := { name := "min", desc := "(JJ)J", sig := { parameters := [.long, .long], returnType := some .long }, accessFlags := 9, code := some k3c2 }
/-- java/lang/Math -/
def k3 : Class := { plain "java/lang/Math" (some 0) with
  accessFlags := 49
  interfaces := #[]
  cf := some (fileOf pool3 1 #[.nestMembers #[98]] #[{ accessFlags := 2, nameIndex := 7, descriptorIndex := 8, attributes := #[] }, { accessFlags := 9, nameIndex := 198, descriptorIndex := 121, attributes := #[] }, { accessFlags := 9, nameIndex := 201, descriptorIndex := 121, attributes := #[] }] 49 4 #[] #[{ accessFlags := 25, nameIndex := 354, descriptorIndex := 339, attributes := #[] }, { accessFlags := 25, nameIndex := 358, descriptorIndex := 339, attributes := #[] }, { accessFlags := 25, nameIndex := 361, descriptorIndex := 339, attributes := #[] }, { accessFlags := 26, nameIndex := 364, descriptorIndex := 339, attributes := #[] }, { accessFlags := 26, nameIndex := 365, descriptorIndex := 339, attributes := #[] }, { accessFlags := 26, nameIndex := 172, descriptorIndex := 173, attributes := #[] }, { accessFlags := 26, nameIndex := 176, descriptorIndex := 173, attributes := #[] }, { accessFlags := 8, nameIndex := 344, descriptorIndex := 339, attributes := #[] }, { accessFlags := 8, nameIndex := 338, descriptorIndex := 339, attributes := #[] }, { accessFlags := 4120, nameIndex := 245, descriptorIndex := 246, attributes := #[] }])
  fields := #[{ name := "E", type := .double, accessFlags := 25, slot := 0, constantValue := 0 }, { name := "PI", type := .double, accessFlags := 25, slot := 1, constantValue := 0 }, { name := "TAU", type := .double, accessFlags := 25, slot := 2, constantValue := 0 }, { name := "DEGREES_TO_RADIANS", type := .double, accessFlags := 26, slot := 3, constantValue := 0 }, { name := "RADIANS_TO_DEGREES", type := .double, accessFlags := 26, slot := 4, constantValue := 0 }, { name := "negativeZeroFloatBits", type := .long, accessFlags := 26, slot := 5, constantValue := 0 }, { name := "negativeZeroDoubleBits", type := .long, accessFlags := 26, slot := 6, constantValue := 0 }, { name := "twoToTheDoubleScaleUp", type := .double, accessFlags := 8, slot := 7, constantValue := 0 }, { name := "twoToTheDoubleScaleDown", type := .double, accessFlags := 8, slot := 8, constantValue := 0 }, { name := "$assertionsDisabled", type := .boolean, accessFlags := 4120, slot := 9, constantValue := 0 }]
  methods := #[k3m0, k3m1, k3m2]
  instanceTypes := #[]
  staticTypes := #[.double, .double, .double, .double, .double, .long, .long, .double, .double, .boolean]
  resolved := Array.replicate 460 none
  statics := none }

def pool4 : Array CpInfo := pool [(1, u "java/lang/Cloneable"), (0, .class_ 1), (0, u "java/lang/Object"), (0, .class_ 3)] 3

/-- java/lang/Cloneable -/
def k4 : Class := { plain "java/lang/Cloneable" (some 0) with
  accessFlags := 1537
  interfaces := #[]
  cf := some (fileOf pool4 2 #[] #[] 1537 4 #[] #[])
  fields := #[]
  methods := #[]
  instanceTypes := #[]
  staticTypes := #[]
  resolved := Array.replicate 8 none
  statics := none }

def pool5 : Array CpInfo := pool [(1, u "java/io/Serializable"), (0, .class_ 1), (0, u "java/lang/Object"), (0, .class_ 3)] 3

/-- java/io/Serializable -/
def k5 : Class := { plain "java/io/Serializable" (some 0) with
  accessFlags := 1537
  interfaces := #[]
  cf := some (fileOf pool5 2 #[] #[] 1537 4 #[] #[])
  fields := #[]
  methods := #[]
  instanceTypes := #[]
  staticTypes := #[]
  resolved := Array.replicate 8 none
  statics := none }

/-- the primitive byte -/
def k6 : Class := { plain "byte" none with kind := .primitive 'B', accessFlags := 0x411 }
/-- [B -/
def k7 : Class := { plain "[B" (some 0) with kind := .array 6 .byte, interfaces := #[4, 5], accessFlags := 1041 }

/-- the primitive int -/
def k8 : Class := { plain "int" none with kind := .primitive 'I', accessFlags := 0x411 }
/-- [I -/
def k9 : Class := { plain "[I" (some 0) with kind := .array 8 .int, interfaces := #[4, 5], accessFlags := 1041 }

def heap : Heap := #[]
def classes : Array Class := #[k0, k1, k2, k3, k4, k5, k6, k7, k8, k9]
def interned : List (Array UInt16 × Addr) := []
def slotsUsed : Nat := 0
def theMethod : MethodId := ⟨1, 1⟩
def args0 : Array Value := #[.int 5, .int 1]
def aboutOver (below : List Frame) : State where
  vm := { classes := classes, interned := interned.toArray }
  heap := heap
  slotsUsed := slotsUsed
  threads := #[{ frames := .invoking theMethod args0 :: below }]
def below0 : List Frame := [.native { method := ⟨0, 0⟩, args := #[] }]
def about1 : State := aboutOver below0
def p0 : Program := .bare "" "" ""
def e0 : Env := launch0.env 0 0 0
theorem w_frames : about1.frames = Frame.invoking theMethod args0 :: below0 := rfl
set_option maxRecDepth 65536 in
theorem w_args : argsFit about1.vm theMethod args0 = true := by decide +kernel
set_option maxRecDepth 65536 in
theorem w_heap : heapFits about1 = true := by decide +kernel
set_option maxRecDepth 65536 in
theorem w_runnable : about1.curStatus? = some .runnable := by decide +kernel
set_option maxRecDepth 65536 in
theorem w_alone : about1.alone = true := by decide +kernel
set_option maxRecDepth 65536 in
theorem w_named : about1.methodNamed? x = some theMethod := by decide +kernel
set_option maxRecDepth 65536 in
theorem w_hears : about1.hears theMethod below0 = true := by decide +kernel
set_option maxRecDepth 65536 in
theorem w_ripe : about1.ripe theMethod args0 below0 = true := by decide +kernel
theorem w_running : about1.status = .running := rfl
set_option maxRecDepth 65536 in
theorem w_room : about1.hasRoom e0.platform room_1 = true :=
  launch0.hasRoom_least _ room_1 (by decide +kernel) (by decide +kernel) (by decide +kernel) (by decide +kernel) (by decide +kernel) (by decide +kernel)
theorem allAtoms_all (ts : List Jvm.Cond) (a : Array Jvm.Value) (st : Jvm.State) : (allAtoms ts).before a st = ts.all (fun c => c.before a st) := by
  induction ts with
  | nil => rfl
  | cons c t ih =>
    show (Jvm.Cond.and c (allAtoms t)).before a st = _
    rw [Jvm.Cond.before_and, ih, List.all_cons]
def words1 : List Jvm.Cond := Jvm.Cond.code x code maxLocals ret :: tables_1
/-- a 'code' word, met by the world's own term for the bytes: nothing is compared byte by byte -/
theorem code_word {y : MethodName} {bytes : ByteArray} {mx : Nat} {rt : Option FieldType} {a : Array Value} {s : State} {m : MethodId} {meth : Method} {c : Code} (h1 : s.methodNamed? y = some m) (h2 : s.vm.method? m = some meth) (h3 : meth.code = some c) (h4 : c.code = bytes)
    (h5 : (c.maxLocals == mx && c.exceptionTable.isEmpty && decide (c.maxStack ≤ mostOperands) && decide (meth.sig.returnType = rt) && !meth.locks && decide (parseMethodDescriptor y.desc = some meth.sig)) = true) : (Jvm.Cond.code y bytes mx rt).before a s = true := by
  simp only [Bool.and_eq_true, beq_iff_eq, Bool.not_eq_true', decide_eq_true_eq] at h5
  obtain ⟨⟨⟨⟨⟨g1, g2⟩, g3⟩, g4⟩, g5⟩, g6⟩ := h5
  simp [Cond.before, Cond.holds, Cond.value, h1, h2, h3, h4, g1, g2, g3, g4, g5, g6]
def isCode : Jvm.Cond → Bool
  | .code _ _ _ _ => true
  | _ => false
theorem all_split {L : List Jvm.Cond} {P : Jvm.Cond → Bool} (h1 : L.all (fun c => isCode c || P c) = true) (h2 : ∀ c ∈ L.filter isCode, P c = true) : L.all P = true := by
  refine List.all_eq_true.mpr fun c hc => ?_
  have h := List.all_eq_true.mp h1 c hc
  rcases Bool.eq_false_or_eq_true (isCode c) with hi | hi
  · exact h2 c (List.mem_filter.mpr ⟨hc, hi⟩)
  · simpa [hi] using h
set_option maxRecDepth 65536 in
theorem w_c0 : (Jvm.Cond.code x code maxLocals ret).before args0 about1 = true := code_word (m := ⟨1, 1⟩) (meth := k1m1) (c := k1c1) (by decide +kernel) rfl rfl rfl (by decide +kernel)
set_option maxRecDepth 65536 in
theorem w_c1 : (Jvm.Cond.code ({ cls := "com/example/quarray/quarray/engine/NumberText", name := "decimalExponent", desc := "(IZ)I" } : Jvm.MethodName) prog_15_method_8_code (2 : Nat) (Option.some Jvm.ClassFile.FieldType.int)).before args0 about1 = true := code_word (m := ⟨2, 1⟩) (meth := k2m1) (c := k2c1) (by decide +kernel) rfl rfl rfl (by decide +kernel)
set_option maxRecDepth 65536 in
theorem w_c2 : (Jvm.Cond.code ({ cls := "java/lang/Math", name := "min", desc := "(JJ)J" } : Jvm.MethodName) jdk_29_method_70_code (4 : Nat) (Option.some Jvm.ClassFile.FieldType.long)).before args0 about1 = true := code_word (m := ⟨3, 2⟩) (meth := k3m2) (c := k3c2) (by decide +kernel) rfl rfl rfl (by decide +kernel)
set_option maxRecDepth 65536 in
theorem w_c3 : (Jvm.Cond.code ({ cls := "java/lang/Math", name := "max", desc := "(JJ)J" } : Jvm.MethodName) jdk_29_method_66_code (4 : Nat) (Option.some Jvm.ClassFile.FieldType.long)).before args0 about1 = true := code_word (m := ⟨3, 1⟩) (meth := k3m1) (c := k3c1) (by decide +kernel) rfl rfl rfl (by decide +kernel)
set_option maxRecDepth 65536 in
theorem w_c4 : (Jvm.Cond.code ({ cls := "com/example/quarray/quarray/engine/NumberTextDecimalExponentPinLaw", name := "floorOfScaled", desc := "(J)J" } : Jvm.MethodName) method_3_code (6 : Nat) (Option.some Jvm.ClassFile.FieldType.long)).before args0 about1 = true := code_word (m := ⟨1, 2⟩) (meth := k1m2) (c := k1c2) (by decide +kernel) rfl rfl rfl (by decide +kernel)
def codes1 : List Jvm.Cond := [Jvm.Cond.code x code maxLocals ret, Jvm.Cond.code ({ cls := "com/example/quarray/quarray/engine/NumberText", name := "decimalExponent", desc := "(IZ)I" } : Jvm.MethodName) prog_15_method_8_code (2 : Nat) (Option.some Jvm.ClassFile.FieldType.int), Jvm.Cond.code ({ cls := "java/lang/Math", name := "min", desc := "(JJ)J" } : Jvm.MethodName) jdk_29_method_70_code (4 : Nat) (Option.some Jvm.ClassFile.FieldType.long), Jvm.Cond.code ({ cls := "java/lang/Math", name := "max", desc := "(JJ)J" } : Jvm.MethodName) jdk_29_method_66_code (4 : Nat) (Option.some Jvm.ClassFile.FieldType.long), Jvm.Cond.code ({ cls := "com/example/quarray/quarray/engine/NumberTextDecimalExponentPinLaw", name := "floorOfScaled", desc := "(J)J" } : Jvm.MethodName) method_3_code (6 : Nat) (Option.some Jvm.ClassFile.FieldType.long)]
set_option maxRecDepth 65536 in
theorem codes_eq : words1.filter isCode = codes1 := rfl
theorem w_codes : ∀ c ∈ words1.filter isCode, c.before args0 about1 = true := by
  rw [codes_eq]
  intro c hc
  simp only [codes1, List.mem_cons, List.not_mem_nil, or_false] at hc
  rcases hc with rfl | rfl | rfl | rfl | rfl
  · exact w_c0
  · exact w_c1
  · exact w_c2
  · exact w_c3
  · exact w_c4
set_option maxRecDepth 65536 in
theorem w_t1 : words1.all (fun c => isCode c || c.before args0 about1) = true := by decide +kernel
theorem w_tables : (allAtoms (Jvm.Cond.code x code maxLocals ret :: tables_1)).before args0 about1 = true := by
  rw [allAtoms_all]
  show words1.all (fun c => c.before args0 about1) = true
  refine all_split ?_ w_codes
  rw [w_t1]
set_option maxRecDepth 65536 in
theorem w_case : (Jvm.Cond.and given_1 narrow_1).before args0 about1 = true := by decide +kernel
theorem w_applies : (headSpec (Jvm.Cond.code x code maxLocals ret :: tables_1) room_1).applies x e0.platform about1 = true :=
  (Spec.applies_iff w_frames).mpr ⟨w_running, w_runnable, w_alone, w_named, w_hears, w_ripe, w_room, w_tables⟩
theorem atStart : AtStart classFile x code maxLocals ret World_1 tables_1 room_1 Calls_1 rest_1 Pre_1 launch0 p0 e0 about1 theMethod args0 below0 :=
  ⟨lists_1, trivial, launch0.admits_env _ _ _, launch0.least_env, fairChoices_fair.cas, fairChoices_fair.clock, w_frames, w_args, w_heap, w_applies, trivial, trivial, w_case⟩
end start1
theorem witness_1 : WitnessClaimed_1 := ⟨start1.p0, start1.e0, start1.about1, start1.theMethod, start1.args0, start1.below0, start1.atStart⟩
end Jvm.Pilot.@@N@@
