import JvmDerived
import JvmDerived.Pilot.@@N@@Statement
import JvmDerived.Pilot.@@N@@Code
set_option linter.unusedVariables false
set_option linter.unusedSimpArgs false
namespace Jvm.OwnKit
open Jvm Jvm.ClassFile Sem Op Lib Jvm.Free Jvm.Stand Jvm.LawKit Jvm.RoadKit Bundle
/-- what is fixed in one body's walk: program, launch, environment, room, state at the call, method, arguments, frames below, its record, its code, the old addresses that it may write -/
abbrev Wk : Type := Program × Launch × Env × Room × State × MethodId × Array Value × List Frame × Method × Code × List Addr
abbrev Wk.p (W : Wk) : Program := W.1
abbrev Wk.l (W : Wk) : Launch := W.2.1
abbrev Wk.e (W : Wk) : Env := W.2.2.1
abbrev Wk.R (W : Wk) : Room := W.2.2.2.1
abbrev Wk.s (W : Wk) : State := W.2.2.2.2.1
abbrev Wk.m (W : Wk) : MethodId := W.2.2.2.2.2.1
abbrev Wk.args (W : Wk) : Array Value := W.2.2.2.2.2.2.1
abbrev Wk.below (W : Wk) : List Frame := W.2.2.2.2.2.2.2.1
abbrev Wk.meth (W : Wk) : Method := W.2.2.2.2.2.2.2.2.1
abbrev Wk.c (W : Wk) : Code := W.2.2.2.2.2.2.2.2.2.1
abbrev Wk.ws (W : Wk) : List Addr := W.2.2.2.2.2.2.2.2.2.2
/-- an address that may be written: a named old one, or a new one -/
def Pw (W : Wk) (a : Addr) : Prop := a ∈ W.ws ∨ W.s.heap.size ≤ a
abbrev Sta0 (W : Wk) (T : State) (locs : List Loc) (k n : Nat) : Prop := Stand W.p W.l W.e W.R W.s W.m W.args W.below W.meth W.c T locs k n
abbrev Stp (W : Wk) (S t : State) : Prop := Steps W.p.tables W.e W.below S t
def Sd (W : Wk) (T : State) (h : Heap) (k n : Nat) : Prop := ∃ locs, Sta0 W T locs k n ∧ T.heap = h ∧ ∀ y ∈ locs, Pw W y.base
/-- from S the body comes to its end, returning what Q says -/
def Out (W : Wk) (Q : Option Value → Heap → Prop) (S : State) : Prop := ∃ s₂ o, Stp W S s₂ ∧ s₂.status = .running ∧ Ended s₂ W.below o ∧ ∃ v L, o = .returned v ∧ (Q v s₂.heap ∧ ∀ y ∈ L, Pw W y.base) ∧ FrameEnd W.s o s₂ L W.R.cells W.R.slots
/-- from every state that stands here over the heap h, the body comes to its end as Q says -/
def Go (W : Wk) (Q : Option Value → Heap → Prop) (h : Heap) (k n pc : Nat) (L : Array Slot) (S : List Value) : Prop := ∀ T, Sd W T h k n → Out W Q (T.setTop (mkF W.m pc L S))
def Cx (W : Wk) (Z : State) (R : Room) (own : String) (code : ByteArray) (mx : Nat) (ret : Option FieldType) (nm : String) (ws : List Addr) (h0 : Heap) : Prop :=
  W.p.tables.exec = Jvm.exec ∧ Z.Warmed39 W.s.vm ∧ W.s.vm.findClass own = some W.m.cls ∧ W.c.code = code ∧ W.c.maxLocals = mx ∧ W.meth.sig.returnType = ret ∧ W.meth.locks = false ∧ W.meth.name = nm ∧ W.R = R ∧ W.ws = ws ∧ W.s.heap = h0
/-- a body's contract at the heap h: ws: the old addresses that it may write -/
def Con (l : Launch) (Z : State) (w0 : List Jvm.Cond) (y : MethodName) (bytes : ByteArray) (mx : Nat) (ret : Option FieldType) (rm : Room) (as : Array Value) (h : Heap) (ws : List Addr) (Q : Option Value → Heap → Prop) : Prop :=
  MetFree l y (head1 (Jvm.Cond.code y bytes mx ret :: w0) rm) (fun a U => a = as ∧ Z.Warmed39 U.vm ∧ U.heap = h) (fun _ _ _ _ _ => True)
    (fun _ U o U' => ∃ v L, o = .returned v ∧ (Q v U'.heap ∧ ∀ y ∈ L, y.base ∈ ws ∨ h.size ≤ y.base) ∧ FrameEnd U o U' L rm.cells rm.slots)
/-- a truth value as an int -/
def b2i (P : Prop) [Decidable P] : Int32 := if P then 1 else 0
theorem b2i_pos {P : Prop} [Decidable P] (h : P) : b2i P = 1 := if_pos h
theorem b2i_neg {P : Prop} [Decidable P] (h : ¬ P) : b2i P = 0 := if_neg h
theorem b2i_iff {P Q : Prop} [Decidable P] [Decidable Q] (h : P ↔ Q) : b2i P = b2i Q := by by_cases q : Q <;> simp [b2i, h, q]
theorem b2i_toInt (P : Prop) [Decidable P] : (b2i P).toInt = if P then 1 else 0 := by unfold b2i; split <;> rfl
theorem b2i_one {P : Prop} [Decidable P] : b2i P = 1 ↔ P := by unfold b2i; split <;> simp [*]
theorem b2i_zero {P : Prop} [Decidable P] : b2i P = 0 ↔ ¬ P := by unfold b2i; split <;> simp [*]
theorem nar_b2i (P : Prop) [Decidable P] : nar .boolean (b2i P) = b2i P := by unfold b2i; split <;> rfl
theorem b2i_inj {P Q : Prop} [Decidable P] [Decidable Q] : b2i P = b2i Q ↔ (P ↔ Q) := by unfold b2i; split <;> split <;> simp [*]
theorem ref_cat {v : Value} (h : v.isRef = true) : v.category = 1 := by cases v <;> simp [Value.isRef] at h ⊢ <;> rfl
theorem narrow_ref {t : FieldType} {v : Value} (h : v.isRef = true) : narrow t v = v := by cases v <;> simp [Value.isRef] at h <;> cases t <;> rfl
theorem fits_b2i (P : Prop) [Decidable P] : fits .boolean (.int (b2i P)) = true := by unfold b2i; split <;> rfl
theorem fits_ref0 {t : FieldType} {v : Value} (h : v.isRef = true) (ht : refKind t = true := by rfl) : fits t v = true := by cases v <;> simp [Value.isRef] at h <;> cases t <;> simp_all [refKind, fits]
section Facts
variable {Z : State} {h h' : Heap} {a b : Addr} {C : String} {ws : List Addr}
/-- an object of the class C: its fields (declaring class, name, descriptor, value) -/
def Ob (Z : State) (h : Heap) (a : Addr) (C : String) (fs : List (String × String × String × Value)) : Prop :=
  Exa Z h a C ∧ (∀ f ∈ fs, Fld Z h a f.1 f.2.1 f.2.2.1 f.2.2.2) ∧ (fs.map fun f => RoadKit.slotOf Z f.1 f.2.1 f.2.2.1).Nodup
variable {fs fs' : List (String × String × String × Value)} {o n d : String} {v old : Value} {i : Nat}
theorem Ob.exa (O : Ob Z h a C fs) : Exa Z h a C := O.1
theorem Ob.lt (O : Ob Z h a C fs) : a < h.size := O.1.lt
theorem Ob.get (O : Ob Z h a C fs) (hi : fs[i]? = some (o, n, d, v)) : Fld Z h a o n d v := O.2.1 _ (List.mem_of_getElem? hi)
theorem Ob.keep (O : Ob Z h a C fs) (K : Keep h h' ws) (q : a ∉ ws) : Ob Z h' a C fs := ⟨O.1.keep K, fun f hf => (O.2.1 f hf).keep K q, O.2.2⟩
theorem Ob.ext (O : Ob Z h a C fs) (E : Ext h h') : Ob Z h' a C fs := ⟨O.1.ext E, fun f hf => (O.2.1 f hf).ext E, O.2.2⟩
theorem Ob.other (O : Ob Z h b C fs) {sl : Nat} (W : Wr h h' a sl v) (q : b ≠ a) : Ob Z h' b C fs := O.keep (Keep.of_wr W) (ninS q nin0)
theorem Ob.put (O : Ob Z h a C fs) (hi : fs[i]? = some (o, n, d, old)) (W : Wr h h' a (RoadKit.slotOf Z o n d) v) : Ob Z h' a C (fs.set i (o, n, d, v)) := by
  obtain ⟨E, F, N⟩ := O
  have hlt : i < fs.length := (List.getElem?_eq_some_iff.mp hi).1
  have hm : (fs.set i (o, n, d, v)).map (fun f => RoadKit.slotOf Z f.1 f.2.1 f.2.2.1) = fs.map (fun f => RoadKit.slotOf Z f.1 f.2.1 f.2.2.1) := by
    rw [List.map_set]
    have e : (fs.map fun f => RoadKit.slotOf Z f.1 f.2.1 f.2.2.1)[i]? = some (RoadKit.slotOf Z o n d) := by rw [List.getElem?_map, hi]; rfl
    obtain ⟨hl, he⟩ := List.getElem?_eq_some_iff.mp e
    have q := List.set_getElem_self hl
    rw [he] at q
    exact q
  refine ⟨E.wr W, fun f hf => ?_, by rw [hm]; exact N⟩
  obtain ⟨j, hj⟩ := List.mem_iff_getElem?.mp hf
  by_cases e : j = i
  · subst e
    rw [List.getElem?_set_self hlt] at hj
    cases hj
    exact (F _ (List.mem_of_getElem? hi)).same W
  · rw [List.getElem?_set_ne (Ne.symm e)] at hj
    refine (F f (List.mem_of_getElem? hj)).other W (Or.inr fun q => ?_)
    have e1 : (fs.map fun f => RoadKit.slotOf Z f.1 f.2.1 f.2.2.1)[j]? = some (RoadKit.slotOf Z f.1 f.2.1 f.2.2.1) := by rw [List.getElem?_map, hj]; rfl
    have e2 : (fs.map fun f => RoadKit.slotOf Z f.1 f.2.1 f.2.2.1)[i]? = some (RoadKit.slotOf Z o n d) := by rw [List.getElem?_map, hi]; rfl
    rw [q] at e1
    obtain ⟨l1, q1⟩ := List.getElem?_eq_some_iff.mp e1
    obtain ⟨l2, q2⟩ := List.getElem?_eq_some_iff.mp e2
    exact e ((List.getElem_inj N).mp (q1.trans q2.symm))
/-- an array: its components -/
def Ar (Z : State) (h : Heap) (a : Addr) (ty : FieldType) (vs : List Value) : Prop := ∃ c : Cell, Arr Z h a c ty ∧ c.slots.toList = vs
/-- ... of references to objects of the class C -/
def ArR (Z : State) (h : Heap) (a : Addr) (C : String) (vs : List Value) : Prop := ∃ c : Cell, Arr Z h a c (.object C) ∧ c.slots.toList = vs ∧ Ovr Z c.cls C
variable {ty : FieldType} {vs : List Value}
theorem Ar.lt (A : Ar Z h a ty vs) : a < h.size := A.elim fun _ q => q.1.lt
theorem Ar.keep (A : Ar Z h a ty vs) (K : Keep h h' ws) (q : a ∉ ws) : Ar Z h' a ty vs := by obtain ⟨c, A, e⟩ := A; exact ⟨c, ⟨K.2.1 a c A.1 q, A.2⟩, e⟩
theorem Ar.ext (A : Ar Z h a ty vs) (E : Ext h h') : Ar Z h' a ty vs := by obtain ⟨c, A, e⟩ := A; exact ⟨c, A.ext E, e⟩
theorem ArR.lt (A : ArR Z h a C vs) : a < h.size := A.elim fun _ q => q.1.lt
theorem ArR.keep (A : ArR Z h a C vs) (K : Keep h h' ws) (q : a ∉ ws) : ArR Z h' a C vs := by obtain ⟨c, A, e⟩ := A; exact ⟨c, ⟨K.2.1 a c A.1 q, A.2⟩, e⟩
theorem ArR.ext (A : ArR Z h a C vs) (E : Ext h h') : ArR Z h' a C vs := by obtain ⟨c, A, e⟩ := A; exact ⟨c, A.ext E, e⟩
theorem nin1 (q : b ≠ a) : b ∉ [a] := ninS q nin0
theorem clamp_of {j : Int32} {i : Nat} (hj : j.toInt = i) : j.toNatClampNeg = i := by
  show j.toInt.toNat = i
  omega
theorem nneg_of {j : Int32} {i : Nat} (hj : j.toInt = i) : ¬ j < 0 := by
  rw [Int32.lt_iff_toInt_lt, hj]
  show ¬ ((i : Int) < 0)
  omega
theorem in_of {j : Int32} {i : Nat} {c : Cell} (hj : j.toInt = i) (hi : i < c.slots.toList.length) : ¬ (j < 0 ∨ c.slots.size ≤ j.toNatClampNeg) := by
  rw [clamp_of hj]
  rintro (q | q)
  · exact nneg_of hj q
  · rw [Array.length_toList] at hi; omega
theorem set_toList (c : Cell) (i : Nat) (v : Value) : (c.setSlot i v).slots.toList = c.slots.toList.set i v := by
  show (c.slots.setIfInBounds i v).toList = _
  rw [Array.toList_setIfInBounds]
theorem Ar.put {c : Cell} (A : Arr Z h a c ty) (e : c.slots.toList = vs) {j : Int32} {i : Nat} (hj : j.toInt = i) (W : Wr h h' a j.toNatClampNeg v) : Ar Z h' a ty (vs.set i v) := by
  refine ⟨_, A.same W, ?_⟩
  rw [clamp_of hj, set_toList, e]
theorem map_getI {l : List Int32} {i : Nat} (hi : i < l.length) : (l.map Value.int)[i]? = some (.int (l.getD i 0)) := by
  rw [List.getElem?_map, List.getElem?_eq_getElem hi, List.getD_eq_getElem?_getD, List.getElem?_eq_getElem hi]; rfl
theorem map_getJ {l : List Int64} {i : Nat} (hi : i < l.length) : (l.map Value.long)[i]? = some (.long (l.getD i 0)) := by
  rw [List.getElem?_map, List.getElem?_eq_getElem hi, List.getD_eq_getElem?_getD, List.getElem?_eq_getElem hi]; rfl
theorem map_setI (l : List Int32) (i : Nat) (x : Int32) : (l.map Value.int).set i (.int x) = (l.set i x).map Value.int := by rw [List.map_set]
theorem map_setJ (l : List Int64) (i : Nat) (x : Int64) : (l.map Value.long).set i (.long x) = (l.set i x).map Value.long := by rw [List.map_set]
theorem nat32 {n : Nat} (h : n < 2147483648) : n.toInt32.toInt = n := by
  show (Int32.ofNat n).toInt = n
  rw [Int32.toInt_ofNat_of_lt (by omega)]
theorem keep_of_same {s t : State} {L : List Loc} {k n : Nat} {ws : List Addr} (H : s.sameButNew t L k n) (hL : ∀ y ∈ L, y.base ∈ ws ∨ s.heap.size ≤ y.base) : Keep s.heap t.heap ws := by
  obtain ⟨-, h1, -, -, -, h5⟩ := H
  have lt : ∀ (x : Addr) (c : Cell), s.heap[x]? = some c → x < s.heap.size := fun x c q => (Array.getElem?_eq_some_iff.mp q).1
  refine ⟨h1, fun x c q r => ?_, fun x c q => ?_⟩
  · obtain ⟨c', e1, e2, e3, e4⟩ := h5 x c q
    have hs : c'.slots = c.slots := by
      refine Array.ext_getElem? fun i => e4 i fun hm => ?_
      rcases hL _ hm with z | z
      · exact r z
      · exact absurd (lt x c q) (Nat.not_lt.mpr z)
    rw [e1, e2, hs]
  · obtain ⟨c', e1, e2, e3, -⟩ := h5 x c q
    exact ⟨c', e1, by rw [e2], by rw [e2], e3⟩
end Facts
section Steps0
variable {W : Wk} {Z : State} {R : Room} {own nm : String} {code : ByteArray} {mx : Nat} {ret : Option FieldType} {wsx : List Addr} {hx0 : Heap} {Q : Option Value → Heap → Prop} {h : Heap} {k n pc pc' pc1 pc2 : Nat} {L L' : Array Slot} {S S' : List Value} {a0 : Array Value}
theorem Cx.x (C : Cx W Z R own code mx ret nm wsx hx0) : W.p.tables.exec = Jvm.exec := C.1
theorem Cx.z (C : Cx W Z R own code mx ret nm wsx hx0) : Z.Warmed39 W.s.vm := C.2.1
theorem Cx.o (C : Cx W Z R own code mx ret nm wsx hx0) : W.s.vm.findClass own = some W.m.cls := C.2.2.1
theorem Cx.b (C : Cx W Z R own code mx ret nm wsx hx0) {r : Except ClassFile.DecodeError (ClassFile.Instr × Nat)} (hd : decode code pc = r) : decode W.c.code pc = r := hb C.2.2.2.1 hd
theorem Cx.ml (C : Cx W Z R own code mx ret nm wsx hx0) : W.c.maxLocals = mx := C.2.2.2.2.1
theorem Cx.rt (C : Cx W Z R own code mx ret nm wsx hx0) : W.meth.sig.returnType = ret := C.2.2.2.2.2.1
theorem Cx.lk (C : Cx W Z R own code mx ret nm wsx hx0) : W.meth.locks = false := C.2.2.2.2.2.2.1
theorem Cx.nme (C : Cx W Z R own code mx ret nm wsx hx0) : W.meth.name = nm := C.2.2.2.2.2.2.2.1
theorem Cx.r (C : Cx W Z R own code mx ret nm wsx hx0) : W.R = R := C.2.2.2.2.2.2.2.2.1
theorem Cx.ws (C : Cx W Z R own code mx ret nm wsx hx0) : W.ws = wsx := C.2.2.2.2.2.2.2.2.2.1
theorem Cx.h0 (C : Cx W Z R own code mx ret nm wsx hx0) : W.s.heap = hx0 := C.2.2.2.2.2.2.2.2.2.2
theorem Cx.old (C : Cx W Z R own code mx ret nm wsx hx0) {a : Addr} (q : a ∈ wsx) : Pw W a := Or.inl (C.ws ▸ q)
theorem Cx.new (C : Cx W Z R own code mx ret nm wsx hx0) {a : Addr} (q : hx0.size ≤ a) : Pw W a := Or.inr (C.h0 ▸ q)
theorem Out.st {S S' : State} (f : ∀ t, Stp W S' t → Stp W S t) (g : Out W Q S') : Out W Q S := by
  obtain ⟨s2, o, q, r⟩ := g
  exact ⟨s2, o, f _ q, r⟩
theorem Go.st (f : ∀ T locs, Sta0 W T locs k n → T.heap = h → ∀ t, Stp W (T.setTop (mkF W.m pc' L' S')) t → Stp W (T.setTop (mkF W.m pc L S)) t) (g : Go W Q h k n pc' L' S') : Go W Q h k n pc L S := fun T hT => by
  obtain ⟨locs, X, e, N⟩ := hT
  exact Out.st (f T locs X e) (g T ⟨locs, X, e, N⟩)
theorem Go.same {k' n' : Nat} (g : Go W Q h k n pc L S) (e1 : k' = k) (e2 : n' = n) : Go W Q h k' n' pc L S := by subst e1 e2; exact g
theorem Go.more {k' n' : Nat} (g : Go W Q h k' n' pc L S) (e1 : k ≤ k') (e2 : n ≤ n') : Go W Q h k n pc L S := fun T hT => by
  obtain ⟨locs, X, e, N⟩ := hT
  exact g T ⟨locs, ⟨X.admits, X.cas, X.clock, X.frames, X.room, X.hears, X.method, X.code, X.here, X.tail, X.warmed, X.limits, X.bytes, X.same.mono e1 e2⟩, e, N⟩
theorem Go.cell (g : hx0.size ≤ h.size → Go W Q h k n pc L S) (C : Cx W Z R own code mx ret nm wsx hx0) : Go W Q h k n pc L S := fun T hT => by
  obtain ⟨locs, X, e, N⟩ := hT
  have q : W.s.heap.size ≤ T.heap.size := X.same.2.1
  rw [C.h0, e] at q
  exact g q T ⟨locs, X, e, N⟩

theorem g_iadd (C : Cx W Z R own code mx ret nm wsx hx0) {x y : Int32} (hd : decode code pc = .ok (.iadd, 1)) (hp : pc + 1 = pc') (g : Go W Q h k n pc' L (.int (x + y) :: S)) : Go W Q h k n pc L (.int y :: .int x :: S) := by
  subst hp
  exact g.st fun T locs X e t kk => XS.iadd (g := mkF W.m pc L (.int y :: .int x :: S)) X.here C.x rfl (C.b hd) rfl kk
theorem g_isub (C : Cx W Z R own code mx ret nm wsx hx0) {x y : Int32} (hd : decode code pc = .ok (.isub, 1)) (hp : pc + 1 = pc') (g : Go W Q h k n pc' L (.int (x - y) :: S)) : Go W Q h k n pc L (.int y :: .int x :: S) := by
  subst hp
  exact g.st fun T locs X e t kk => XS.isub (g := mkF W.m pc L (.int y :: .int x :: S)) X.here C.x rfl (C.b hd) rfl kk
theorem g_imul (C : Cx W Z R own code mx ret nm wsx hx0) {x y : Int32} (hd : decode code pc = .ok (.imul, 1)) (hp : pc + 1 = pc') (g : Go W Q h k n pc' L (.int (x * y) :: S)) : Go W Q h k n pc L (.int y :: .int x :: S) := by
  subst hp
  exact g.st fun T locs X e t kk => XS.imul (g := mkF W.m pc L (.int y :: .int x :: S)) X.here C.x rfl (C.b hd) rfl kk
theorem g_iand (C : Cx W Z R own code mx ret nm wsx hx0) {x y : Int32} (hd : decode code pc = .ok (.iand, 1)) (hp : pc + 1 = pc') (g : Go W Q h k n pc' L (.int (x &&& y) :: S)) : Go W Q h k n pc L (.int y :: .int x :: S) := by
  subst hp
  exact g.st fun T locs X e t kk => XS.iand (g := mkF W.m pc L (.int y :: .int x :: S)) X.here C.x rfl (C.b hd) rfl kk
theorem g_ior (C : Cx W Z R own code mx ret nm wsx hx0) {x y : Int32} (hd : decode code pc = .ok (.ior, 1)) (hp : pc + 1 = pc') (g : Go W Q h k n pc' L (.int (x ||| y) :: S)) : Go W Q h k n pc L (.int y :: .int x :: S) := by
  subst hp
  exact g.st fun T locs X e t kk => XS.ior (g := mkF W.m pc L (.int y :: .int x :: S)) X.here C.x rfl (C.b hd) rfl kk
theorem g_ixor (C : Cx W Z R own code mx ret nm wsx hx0) {x y : Int32} (hd : decode code pc = .ok (.ixor, 1)) (hp : pc + 1 = pc') (g : Go W Q h k n pc' L (.int (x ^^^ y) :: S)) : Go W Q h k n pc L (.int y :: .int x :: S) := by
  subst hp
  exact g.st fun T locs X e t kk => XS.ixor (g := mkF W.m pc L (.int y :: .int x :: S)) X.here C.x rfl (C.b hd) rfl kk
theorem g_ishl (C : Cx W Z R own code mx ret nm wsx hx0) {x y : Int32} (hd : decode code pc = .ok (.ishl, 1)) (hp : pc + 1 = pc') (g : Go W Q h k n pc' L (.int (x <<< (y &&& 31)) :: S)) : Go W Q h k n pc L (.int y :: .int x :: S) := by
  subst hp
  exact g.st fun T locs X e t kk => XS.ishl (g := mkF W.m pc L (.int y :: .int x :: S)) X.here C.x rfl (C.b hd) rfl kk
theorem g_ishr (C : Cx W Z R own code mx ret nm wsx hx0) {x y : Int32} (hd : decode code pc = .ok (.ishr, 1)) (hp : pc + 1 = pc') (g : Go W Q h k n pc' L (.int (x >>> (y &&& 31)) :: S)) : Go W Q h k n pc L (.int y :: .int x :: S) := by
  subst hp
  exact g.st fun T locs X e t kk => XS.ishr (g := mkF W.m pc L (.int y :: .int x :: S)) X.here C.x rfl (C.b hd) rfl kk
theorem g_iushr (C : Cx W Z R own code mx ret nm wsx hx0) {x y : Int32} (hd : decode code pc = .ok (.iushr, 1)) (hp : pc + 1 = pc') (g : Go W Q h k n pc' L (.int ((x.toUInt32 >>> (y &&& 31).toUInt32).toInt32) :: S)) : Go W Q h k n pc L (.int y :: .int x :: S) := by
  subst hp
  exact g.st fun T locs X e t kk => XS.iushr (g := mkF W.m pc L (.int y :: .int x :: S)) X.here C.x rfl (C.b hd) rfl kk
theorem g_ladd (C : Cx W Z R own code mx ret nm wsx hx0) {x y : Int64} (hd : decode code pc = .ok (.ladd, 1)) (hp : pc + 1 = pc') (g : Go W Q h k n pc' L (.long (x + y) :: S)) : Go W Q h k n pc L (.long y :: .long x :: S) := by
  subst hp
  exact g.st fun T locs X e t kk => XS.ladd (g := mkF W.m pc L (.long y :: .long x :: S)) X.here C.x rfl (C.b hd) rfl kk
theorem g_lsub (C : Cx W Z R own code mx ret nm wsx hx0) {x y : Int64} (hd : decode code pc = .ok (.lsub, 1)) (hp : pc + 1 = pc') (g : Go W Q h k n pc' L (.long (x - y) :: S)) : Go W Q h k n pc L (.long y :: .long x :: S) := by
  subst hp
  exact g.st fun T locs X e t kk => XS.lsub (g := mkF W.m pc L (.long y :: .long x :: S)) X.here C.x rfl (C.b hd) rfl kk
theorem g_lmul (C : Cx W Z R own code mx ret nm wsx hx0) {x y : Int64} (hd : decode code pc = .ok (.lmul, 1)) (hp : pc + 1 = pc') (g : Go W Q h k n pc' L (.long (x * y) :: S)) : Go W Q h k n pc L (.long y :: .long x :: S) := by
  subst hp
  exact g.st fun T locs X e t kk => XS.lmul (g := mkF W.m pc L (.long y :: .long x :: S)) X.here C.x rfl (C.b hd) rfl kk
theorem g_land (C : Cx W Z R own code mx ret nm wsx hx0) {x y : Int64} (hd : decode code pc = .ok (.land, 1)) (hp : pc + 1 = pc') (g : Go W Q h k n pc' L (.long (x &&& y) :: S)) : Go W Q h k n pc L (.long y :: .long x :: S) := by
  subst hp
  exact g.st fun T locs X e t kk => XS.land (g := mkF W.m pc L (.long y :: .long x :: S)) X.here C.x rfl (C.b hd) rfl kk
theorem g_lor (C : Cx W Z R own code mx ret nm wsx hx0) {x y : Int64} (hd : decode code pc = .ok (.lor, 1)) (hp : pc + 1 = pc') (g : Go W Q h k n pc' L (.long (x ||| y) :: S)) : Go W Q h k n pc L (.long y :: .long x :: S) := by
  subst hp
  exact g.st fun T locs X e t kk => XS.lor (g := mkF W.m pc L (.long y :: .long x :: S)) X.here C.x rfl (C.b hd) rfl kk
theorem g_lxor (C : Cx W Z R own code mx ret nm wsx hx0) {x y : Int64} (hd : decode code pc = .ok (.lxor, 1)) (hp : pc + 1 = pc') (g : Go W Q h k n pc' L (.long (x ^^^ y) :: S)) : Go W Q h k n pc L (.long y :: .long x :: S) := by
  subst hp
  exact g.st fun T locs X e t kk => XS.lxor (g := mkF W.m pc L (.long y :: .long x :: S)) X.here C.x rfl (C.b hd) rfl kk
theorem g_lshl (C : Cx W Z R own code mx ret nm wsx hx0) {x : Int64} {y : Int32} (hd : decode code pc = .ok (.lshl, 1)) (hp : pc + 1 = pc') (g : Go W Q h k n pc' L (.long (x <<< (y &&& 0x3f).toInt64) :: S)) : Go W Q h k n pc L (.int y :: .long x :: S) := by
  subst hp
  exact g.st fun T locs X e t kk => XS.lshl (g := mkF W.m pc L (.int y :: .long x :: S)) X.here C.x rfl (C.b hd) rfl kk
theorem g_lshr (C : Cx W Z R own code mx ret nm wsx hx0) {x : Int64} {y : Int32} (hd : decode code pc = .ok (.lshr, 1)) (hp : pc + 1 = pc') (g : Go W Q h k n pc' L (.long (x >>> (y &&& 0x3f).toInt64) :: S)) : Go W Q h k n pc L (.int y :: .long x :: S) := by
  subst hp
  exact g.st fun T locs X e t kk => XS.lshr (g := mkF W.m pc L (.int y :: .long x :: S)) X.here C.x rfl (C.b hd) rfl kk
theorem g_lushr (C : Cx W Z R own code mx ret nm wsx hx0) {x : Int64} {y : Int32} (hd : decode code pc = .ok (.lushr, 1)) (hp : pc + 1 = pc') (g : Go W Q h k n pc' L (.long ((x.toUInt64 >>> (y &&& 0x3f).toInt64.toUInt64).toInt64) :: S)) : Go W Q h k n pc L (.int y :: .long x :: S) := by
  subst hp
  exact g.st fun T locs X e t kk => XS.lushr (g := mkF W.m pc L (.int y :: .long x :: S)) X.here C.x rfl (C.b hd) rfl kk
theorem g_idiv (C : Cx W Z R own code mx ret nm wsx hx0) {x y : Int32} (hd : decode code pc = .ok (.idiv, 1)) (hp : pc + 1 = pc') (hy : y ≠ 0) (g : Go W Q h k n pc' L (.int (x / y) :: S)) : Go W Q h k n pc L (.int y :: .int x :: S) := by
  subst hp
  exact g.st fun T locs X e t kk => XS.idiv (g := mkF W.m pc L (.int y :: .int x :: S)) X.here C.x rfl (C.b hd) rfl hy kk
theorem g_irem (C : Cx W Z R own code mx ret nm wsx hx0) {x y : Int32} (hd : decode code pc = .ok (.irem, 1)) (hp : pc + 1 = pc') (hy : y ≠ 0) (g : Go W Q h k n pc' L (.int (x % y) :: S)) : Go W Q h k n pc L (.int y :: .int x :: S) := by
  subst hp
  exact g.st fun T locs X e t kk => iremM (g := mkF W.m pc L (.int y :: .int x :: S)) X C.x rfl (C.b hd) rfl hy kk
theorem g_ldiv (C : Cx W Z R own code mx ret nm wsx hx0) {x y : Int64} (hd : decode code pc = .ok (.ldiv, 1)) (hp : pc + 1 = pc') (hy : y ≠ 0) (g : Go W Q h k n pc' L (.long (x / y) :: S)) : Go W Q h k n pc L (.long y :: .long x :: S) := by
  subst hp
  exact g.st fun T locs X e t kk => XS.ldiv (g := mkF W.m pc L (.long y :: .long x :: S)) X.here C.x rfl (C.b hd) rfl hy kk
theorem g_lrem (C : Cx W Z R own code mx ret nm wsx hx0) {x y : Int64} (hd : decode code pc = .ok (.lrem, 1)) (hp : pc + 1 = pc') (hy : y ≠ 0) (g : Go W Q h k n pc' L (.long (x % y) :: S)) : Go W Q h k n pc L (.long y :: .long x :: S) := by
  subst hp
  rw [← lrem_mod] at g
  exact g.st fun T locs X e t kk => XS.lrem (g := mkF W.m pc L (.long y :: .long x :: S)) X.here C.x rfl (C.b hd) rfl hy kk
theorem g_ineg (C : Cx W Z R own code mx ret nm wsx hx0) {x : Int32} (hd : decode code pc = .ok (.ineg, 1)) (hp : pc + 1 = pc') (g : Go W Q h k n pc' L (.int (-x) :: S)) : Go W Q h k n pc L (.int x :: S) := by
  subst hp
  exact g.st fun T locs X e t kk => XS.ineg (g := mkF W.m pc L (.int x :: S)) X.here C.x rfl (C.b hd) rfl kk
theorem g_lneg (C : Cx W Z R own code mx ret nm wsx hx0) {x : Int64} (hd : decode code pc = .ok (.lneg, 1)) (hp : pc + 1 = pc') (g : Go W Q h k n pc' L (.long (-x) :: S)) : Go W Q h k n pc L (.long x :: S) := by
  subst hp
  exact g.st fun T locs X e t kk => XS.lneg (g := mkF W.m pc L (.long x :: S)) X.here C.x rfl (C.b hd) rfl kk
theorem g_i2l (C : Cx W Z R own code mx ret nm wsx hx0) {x : Int32} (hd : decode code pc = .ok (.i2l, 1)) (hp : pc + 1 = pc') (g : Go W Q h k n pc' L (.long (x.toInt64) :: S)) : Go W Q h k n pc L (.int x :: S) := by
  subst hp
  exact g.st fun T locs X e t kk => XS.i2l (g := mkF W.m pc L (.int x :: S)) X.here C.x rfl (C.b hd) rfl kk
theorem g_l2i (C : Cx W Z R own code mx ret nm wsx hx0) {x : Int64} (hd : decode code pc = .ok (.l2i, 1)) (hp : pc + 1 = pc') (g : Go W Q h k n pc' L (.int (x.toInt32) :: S)) : Go W Q h k n pc L (.long x :: S) := by
  subst hp
  exact g.st fun T locs X e t kk => XS.l2i (g := mkF W.m pc L (.long x :: S)) X.here C.x rfl (C.b hd) rfl kk
theorem g_i2b (C : Cx W Z R own code mx ret nm wsx hx0) {x : Int32} (hd : decode code pc = .ok (.i2b, 1)) (hp : pc + 1 = pc') (g : Go W Q h k n pc' L (.int (x.toInt8.toInt32) :: S)) : Go W Q h k n pc L (.int x :: S) := by
  subst hp
  exact g.st fun T locs X e t kk => XS.i2b (g := mkF W.m pc L (.int x :: S)) X.here C.x rfl (C.b hd) rfl kk
theorem g_i2c (C : Cx W Z R own code mx ret nm wsx hx0) {x : Int32} (hd : decode code pc = .ok (.i2c, 1)) (hp : pc + 1 = pc') (g : Go W Q h k n pc' L (.int (x.toUInt32.toUInt16.toUInt32.toInt32) :: S)) : Go W Q h k n pc L (.int x :: S) := by
  subst hp
  exact g.st fun T locs X e t kk => XS.i2c (g := mkF W.m pc L (.int x :: S)) X.here C.x rfl (C.b hd) rfl kk
theorem g_i2s (C : Cx W Z R own code mx ret nm wsx hx0) {x : Int32} (hd : decode code pc = .ok (.i2s, 1)) (hp : pc + 1 = pc') (g : Go W Q h k n pc' L (.int (x.toInt16.toInt32) :: S)) : Go W Q h k n pc L (.int x :: S) := by
  subst hp
  exact g.st fun T locs X e t kk => XS.i2s (g := mkF W.m pc L (.int x :: S)) X.here C.x rfl (C.b hd) rfl kk
theorem g_iconst (C : Cx W Z R own code mx ret nm wsx hx0) {i : Int} {z : Int32} (hd : decode code pc = .ok (.iconst i, 1)) (hp : pc + 1 = pc') (hz : Int32.ofInt i = z) (g : Go W Q h k n pc' L (.int z :: S)) : Go W Q h k n pc L S := by
  subst hp hz
  exact g.st fun T locs X e t kk => XS.iconst (g := mkF W.m pc L S) X.here C.x rfl (C.b hd) kk
theorem g_bipush (C : Cx W Z R own code mx ret nm wsx hx0) {i : Int} {z : Int32} (hd : decode code pc = .ok (.bipush i, 2)) (hp : pc + 2 = pc') (hz : (Int8.ofInt i).toInt32 = z) (g : Go W Q h k n pc' L (.int z :: S)) : Go W Q h k n pc L S := by
  subst hp hz
  exact g.st fun T locs X e t kk => XS.bipush (g := mkF W.m pc L S) X.here C.x rfl (C.b hd) kk
theorem g_sipush (C : Cx W Z R own code mx ret nm wsx hx0) {i : Int} {z : Int32} (hd : decode code pc = .ok (.sipush i, 3)) (hp : pc + 3 = pc') (hz : (Int16.ofInt i).toInt32 = z) (g : Go W Q h k n pc' L (.int z :: S)) : Go W Q h k n pc L S := by
  subst hp hz
  exact g.st fun T locs X e t kk => XS.sipush (g := mkF W.m pc L S) X.here C.x rfl (C.b hd) kk
theorem g_lconst (C : Cx W Z R own code mx ret nm wsx hx0) {i : Fin 2} {z : Int64} (hd : decode code pc = .ok (.lconst i, 1)) (hp : pc + 1 = pc') (hz : Int64.ofNat i = z) (g : Go W Q h k n pc' L (.long z :: S)) : Go W Q h k n pc L S := by
  subst hp hz
  exact g.st fun T locs X e t kk => XS.lconst (g := mkF W.m pc L S) X.here C.x rfl (C.b hd) kk
theorem g_aconst_null (C : Cx W Z R own code mx ret nm wsx hx0)  (hd : decode code pc = .ok (.aconst_null, 1)) (hp : pc + 1 = pc') (g : Go W Q h k n pc' L (.null :: S)) : Go W Q h k n pc L (S) := by
  subst hp
  exact g.st fun T locs X e t kk => XS.aconstNull (g := mkF W.m pc L (S)) X.here C.x rfl (C.b hd) kk
theorem g_dup (C : Cx W Z R own code mx ret nm wsx hx0) {x : Value} (hd : decode code pc = .ok (.dup, 1)) (hp : pc + 1 = pc') (hc : x.category = 1) (g : Go W Q h k n pc' L (x :: x :: S)) : Go W Q h k n pc L (x :: S) := by
  subst hp
  exact g.st fun T locs X e t kk => XS.dup (g := mkF W.m pc L (x :: S)) X.here C.x rfl (C.b hd) rfl hc kk
theorem g_dup_x1 (C : Cx W Z R own code mx ret nm wsx hx0) {x y : Value} (hd : decode code pc = .ok (.dup_x1, 1)) (hp : pc + 1 = pc') (hc : x.category = 1) (hc' : y.category = 1) (g : Go W Q h k n pc' L (x :: y :: x :: S)) : Go W Q h k n pc L (x :: y :: S) := by
  subst hp
  exact g.st fun T locs X e t kk => XS.dupX1 (g := mkF W.m pc L (x :: y :: S)) X.here C.x rfl (C.b hd) rfl hc hc' kk
theorem dupX2s {tb : Tables} [Ours tb] {e : Env} {below : List Frame} {T target : State} {m : MethodId} {c : Code} {g : JFrame} (h : At T m c below) (hx : tb.exec = Jvm.exec) (hg : g.method = m) {x y z : Value} {rest : List Value} (hd : decode c.code g.pc = .ok (.dup_x2, 1)) (hs : g.stack = x :: y :: z :: rest) (hc : x.category = 1) (hc' : y.category = 1) (hc'' : z.category = 1)
    (hr : Steps tb e below (T.setTop { g with pc := g.pc + 1, stack := x :: y :: z :: x :: rest }) target) : Steps tb e below (T.setTop g) target := by
  subst hg
  jvm_step h [h.top, hx, hd, hs, hc, hc', hc'']
  exact hr
theorem g_dup_x2 (C : Cx W Z R own code mx ret nm wsx hx0) {x y z : Value} (hd : decode code pc = .ok (.dup_x2, 1)) (hp : pc + 1 = pc') (hc : x.category = 1) (hc' : y.category = 1) (hc'' : z.category = 1) (g : Go W Q h k n pc' L (x :: y :: z :: x :: S)) : Go W Q h k n pc L (x :: y :: z :: S) := by
  subst hp
  exact g.st fun T locs X e t kk => dupX2s (g := mkF W.m pc L (x :: y :: z :: S)) X.here C.x rfl (C.b hd) rfl hc hc' hc'' kk
theorem g_dup2 (C : Cx W Z R own code mx ret nm wsx hx0) {x y : Value} (hd : decode code pc = .ok (.dup2, 1)) (hp : pc + 1 = pc') (hc : x.category = 1) (hc' : y.category = 1) (g : Go W Q h k n pc' L (x :: y :: x :: y :: S)) : Go W Q h k n pc L (x :: y :: S) := by
  subst hp
  exact g.st fun T locs X e t kk => XT.dup2 (g := mkF W.m pc L (x :: y :: S)) X.here C.x rfl (C.b hd) rfl hc hc' kk
theorem g_dup2L (C : Cx W Z R own code mx ret nm wsx hx0) {x : Int64} (hd : decode code pc = .ok (.dup2, 1)) (hp : pc + 1 = pc') (g : Go W Q h k n pc' L (.long x :: .long x :: S)) : Go W Q h k n pc L (.long x :: S) := by
  subst hp
  exact g.st fun T locs X e t kk => XT.dup2L (g := mkF W.m pc L (.long x :: S)) X.here C.x rfl (C.b hd) rfl kk
theorem g_pop (C : Cx W Z R own code mx ret nm wsx hx0) {x : Value} (hd : decode code pc = .ok (.pop, 1)) (hp : pc + 1 = pc') (hc : x.category = 1) (g : Go W Q h k n pc' L (S)) : Go W Q h k n pc L (x :: S) := by
  subst hp
  exact g.st fun T locs X e t kk => XS.pop (g := mkF W.m pc L (x :: S)) X.here C.x rfl (C.b hd) rfl hc kk
theorem g_iload (C : Cx W Z R own code mx ret nm wsx hx0) {i : Nat} {x : Int32} (hd : decode code pc = .ok (.iload i, 2)) (hp : pc + 2 = pc') (hl : L[i]? = some (.val (.int x))) (g : Go W Q h k n pc' L (.int x :: S)) : Go W Q h k n pc L (S) := by
  subst hp
  exact g.st fun T locs X e t kk => XS.iload (g := mkF W.m pc L (S)) X.here C.x rfl (C.b hd) hl kk
theorem g_iloadN (C : Cx W Z R own code mx ret nm wsx hx0) {i : Fin 4} {x : Int32} (hd : decode code pc = .ok (.iload_n i, 1)) (hp : pc + 1 = pc') (hl : L[i.val]? = some (.val (.int x))) (g : Go W Q h k n pc' L (.int x :: S)) : Go W Q h k n pc L (S) := by
  subst hp
  exact g.st fun T locs X e t kk => XS.iloadN (g := mkF W.m pc L (S)) X.here C.x rfl (C.b hd) hl kk
theorem g_lload (C : Cx W Z R own code mx ret nm wsx hx0) {i : Nat} {x : Int64} (hd : decode code pc = .ok (.lload i, 2)) (hp : pc + 2 = pc') (hl : L[i]? = some (.val (.long x))) (g : Go W Q h k n pc' L (.long x :: S)) : Go W Q h k n pc L (S) := by
  subst hp
  exact g.st fun T locs X e t kk => XS.lload (g := mkF W.m pc L (S)) X.here C.x rfl (C.b hd) hl kk
theorem g_lloadN (C : Cx W Z R own code mx ret nm wsx hx0) {i : Fin 4} {x : Int64} (hd : decode code pc = .ok (.lload_n i, 1)) (hp : pc + 1 = pc') (hl : L[i.val]? = some (.val (.long x))) (g : Go W Q h k n pc' L (.long x :: S)) : Go W Q h k n pc L (S) := by
  subst hp
  exact g.st fun T locs X e t kk => XS.lloadN (g := mkF W.m pc L (S)) X.here C.x rfl (C.b hd) hl kk
theorem g_aload (C : Cx W Z R own code mx ret nm wsx hx0) {i : Nat} {x : Value} (hd : decode code pc = .ok (.aload i, 2)) (hp : pc + 2 = pc') (hl : L[i]? = some (.val x)) (hv : x.isRef = true) (g : Go W Q h k n pc' L (x :: S)) : Go W Q h k n pc L (S) := by
  subst hp
  exact g.st fun T locs X e t kk => XS.aload (g := mkF W.m pc L (S)) X.here C.x rfl (C.b hd) hl hv kk
theorem g_istore (C : Cx W Z R own code mx ret nm wsx hx0) {i : Nat} {x : Int32} (hd : decode code pc = .ok (.istore i, 2)) (hp : pc + 2 = pc') (hl : storeLocals L i (.int x) = some L') (g : Go W Q h k n pc' L' (S)) : Go W Q h k n pc L (.int x :: S) := by
  subst hp
  exact g.st fun T locs X e t kk => XS.istore (g := mkF W.m pc L (.int x :: S)) X.here C.x rfl (C.b hd) rfl hl kk
theorem g_lstore (C : Cx W Z R own code mx ret nm wsx hx0) {i : Nat} {x : Int64} (hd : decode code pc = .ok (.lstore i, 2)) (hp : pc + 2 = pc') (hl : storeLocals L i (.long x) = some L') (g : Go W Q h k n pc' L' (S)) : Go W Q h k n pc L (.long x :: S) := by
  subst hp
  exact g.st fun T locs X e t kk => XS.lstore (g := mkF W.m pc L (.long x :: S)) X.here C.x rfl (C.b hd) rfl hl kk
theorem g_astore (C : Cx W Z R own code mx ret nm wsx hx0) {i : Nat} {x : Value} (hd : decode code pc = .ok (.astore i, 2)) (hp : pc + 2 = pc') (hv : x.isRef = true) (hl : storeLocals L i x = some L') (g : Go W Q h k n pc' L' (S)) : Go W Q h k n pc L (x :: S) := by
  subst hp
  exact g.st fun T locs X e t kk => XS.astore (g := mkF W.m pc L (x :: S)) X.here C.x rfl (C.b hd) rfl hv hl kk
theorem g_aloadN (C : Cx W Z R own code mx ret nm wsx hx0) {i : Fin 4} {x : Value} (hd : decode code pc = .ok (.aload_n i, 1)) (hp : pc + 1 = pc') (hl : L[i.val]? = some (.val x)) (hv : x.isRef = true) (g : Go W Q h k n pc' L (x :: S)) : Go W Q h k n pc L (S) := by
  subst hp
  exact g.st fun T locs X e t kk => XS.aloadN (g := mkF W.m pc L (S)) X.here C.x rfl (C.b hd) hl hv kk
theorem g_istoreN (C : Cx W Z R own code mx ret nm wsx hx0) {i : Fin 4} {x : Int32} (hd : decode code pc = .ok (.istore_n i, 1)) (hp : pc + 1 = pc') (hl : storeLocals L i.val (.int x) = some L') (g : Go W Q h k n pc' L' (S)) : Go W Q h k n pc L (.int x :: S) := by
  subst hp
  exact g.st fun T locs X e t kk => XS.istoreN (g := mkF W.m pc L (.int x :: S)) X.here C.x rfl (C.b hd) rfl hl kk
theorem g_lstoreN (C : Cx W Z R own code mx ret nm wsx hx0) {i : Fin 4} {x : Int64} (hd : decode code pc = .ok (.lstore_n i, 1)) (hp : pc + 1 = pc') (hl : storeLocals L i.val (.long x) = some L') (g : Go W Q h k n pc' L' (S)) : Go W Q h k n pc L (.long x :: S) := by
  subst hp
  exact g.st fun T locs X e t kk => XS.lstoreN (g := mkF W.m pc L (.long x :: S)) X.here C.x rfl (C.b hd) rfl hl kk
theorem g_astoreN (C : Cx W Z R own code mx ret nm wsx hx0) {i : Fin 4} {x : Value} (hd : decode code pc = .ok (.astore_n i, 1)) (hp : pc + 1 = pc') (hv : x.isRef = true) (hl : storeLocals L i.val x = some L') (g : Go W Q h k n pc' L' (S)) : Go W Q h k n pc L (x :: S) := by
  subst hp
  exact g.st fun T locs X e t kk => XS.astoreN (g := mkF W.m pc L (x :: S)) X.here C.x rfl (C.b hd) rfl hv hl kk
theorem g_iinc (C : Cx W Z R own code mx ret nm wsx hx0) {i : Nat} {cst : Int} {x z : Int32} (hd : decode code pc = .ok (.iinc i cst, 3)) (hp : pc + 3 = pc') (hl : L[i]? = some (.val (.int x))) (hz : x + Int32.ofInt cst = z) (hl' : storeLocals L i (.int z) = some L') (g : Go W Q h k n pc' L' (S)) : Go W Q h k n pc L (S) := by
  subst hp
  exact g.st fun T locs X e t kk => XS.iinc (g := mkF W.m pc L (S)) X.here C.x rfl (C.b hd) hl (hz ▸ hl') kk
theorem g_goto (C : Cx W Z R own code mx ret nm wsx hx0) {o : Int} (hd : decode code pc = .ok (.goto o, 3)) (ho : 0 ≤ (pc : Int) + o) (hp : ((pc : Int) + o).toNat = pc') (g : Go W Q h k n pc' L S) : Go W Q h k n pc L S :=
  g.st fun T locs X e t kk => XS.goto (g := mkF W.m pc L S) X.here C.x rfl rfl (C.b hd) ho hp kk
theorem g_ldcI (C : Cx W Z R own code mx ret nm wsx hx0) {i : Nat} {z : Int32} (hd : decode code pc = .ok (.ldc i, 2)) (hp : pc + 2 = pc') (w : (Jvm.Cond.constant own i z).before a0 Z = true) (g : Go W Q h k n pc' L (.int z :: S)) : Go W Q h k n pc L S := by
  subst hp
  exact g.st fun T locs X e t kk => X.ldcInt C.x C.o (mvT C.z w) (g := mkF W.m pc L S) rfl (C.b hd) t kk
theorem g_ldcwI (C : Cx W Z R own code mx ret nm wsx hx0) {i : Nat} {z : Int32} (hd : decode code pc = .ok (.ldc_w i, 3)) (hp : pc + 3 = pc') (w : (Jvm.Cond.constant own i z).before a0 Z = true) (g : Go W Q h k n pc' L (.int z :: S)) : Go W Q h k n pc L S := by
  subst hp
  exact g.st fun T locs X e t kk => X.ldcwInt C.x C.o (mvT C.z w) (g := mkF W.m pc L S) rfl (C.b hd) t kk
theorem g_ldc2L (C : Cx W Z R own code mx ret nm wsx hx0) {i : Nat} {z : Int64} (hd : decode code pc = .ok (.ldc2_w i, 3)) (hp : pc + 3 = pc') (w : (Jvm.Cond.constantLong own i z).before a0 Z = true) (g : Go W Q h k n pc' L (.long z :: S)) : Go W Q h k n pc L S := by
  subst hp
  exact g.st fun T locs X e t kk => X.ldc2Long C.x C.o (mvT C.z w) (g := mkF W.m pc L S) rfl (C.b hd) t kk
theorem g_ldcF (C : Cx W Z R own code mx ret nm wsx hx0) {i : Nat} {z : UInt32} (hd : decode code pc = .ok (.ldc i, 2)) (hp : pc + 2 = pc') (w : (Jvm.Cond.constantFloat own i z).before a0 Z = true) (g : Go W Q h k n pc' L (.float z :: S)) : Go W Q h k n pc L S := by
  subst hp
  obtain ⟨kk, cf, hk, hcf, hcp⟩ := Cond.constantFloat_spec C.o (mvT (args := #[]) C.z w)
  exact g.st fun T locs X e t kt => X.ldcFloat C.x hk hcf hcp (g := mkF W.m pc L S) rfl (C.b hd) t kt
/-- what a branch asks of two integers -/
def icp : ClassFile.Cond → Int → Int → Prop
  | .eq, x, y => x = y
  | .ne, x, y => ¬ x = y
  | .lt, x, y => x < y
  | .ge, x, y => y ≤ x
  | .gt, x, y => y < x
  | .le, x, y => x ≤ y
instance instIcp : (cd : ClassFile.Cond) → (x y : Int) → Decidable (icp cd x y)
  | .eq, x, y => inferInstanceAs (Decidable (x = y))
  | .ne, x, y => inferInstanceAs (Decidable (¬ x = y))
  | .lt, x, y => inferInstanceAs (Decidable (x < y))
  | .ge, x, y => inferInstanceAs (Decidable (y ≤ x))
  | .gt, x, y => inferInstanceAs (Decidable (y < x))
  | .le, x, y => inferInstanceAs (Decidable (x ≤ y))
theorem icp_eq (cd : ClassFile.Cond) (x y : Int32) : if_icmp.holds cd x y = decide (icp cd x.toInt y.toInt) := by
  rw [Bool.eq_iff_iff, decide_eq_true_iff]
  cases cd <;> simp [if_icmp.holds, icp, Int32.lt_iff_toInt_lt, Int32.le_iff_toInt_le, Int32.toInt_inj]
theorem icp_long (cd : ClassFile.Cond) (x y : Int64) : ifCond.holds cd (lcmpW x y) = decide (icp cd x.toInt y.toInt) := by
  rw [if0, icp_eq, Bool.eq_iff_iff, decide_eq_true_iff, decide_eq_true_iff]
  have c := c_lcmp x y
  have z : (0 : Int32).toInt = 0 := rfl
  rw [z]
  rcases Int.lt_trichotomy x.toInt y.toInt with q | q | q
  · rw [c.1 q]; cases cd <;> simp only [icp] <;> omega
  · rw [c.2.1 q]; cases cd <;> simp only [icp] <;> first | omega | simp [q]
  · rw [c.2.2 q]; cases cd <;> simp only [icp] <;> omega

theorem g_icmpY (C : Cx W Z R own code mx ret nm wsx hx0) {cd : ClassFile.Cond} {o : Int} {x y : Int32} {xi yi : Int} (hd : decode code pc = .ok (.if_icmp cd o, 3)) (ho : 0 ≤ (pc : Int) + o) (hp1 : ((pc : Int) + o).toNat = pc1) (hx : x.toInt = xi) (hy : y.toInt = yi) (q : icp cd xi yi) (g : Go W Q h k n pc1 L S) : Go W Q h k n pc L (.int y :: .int x :: S) := by
  subst hx hy
  exact g.st fun T locs X e t kk => XS.icmpYes (g := mkF W.m pc L (.int y :: .int x :: S)) X.here C.x rfl rfl (C.b hd) rfl ((icp_eq cd x y).trans (decide_eq_true q)) ho hp1 kk
theorem g_icmpN (C : Cx W Z R own code mx ret nm wsx hx0) {cd : ClassFile.Cond} {o : Int} {x y : Int32} {xi yi : Int} (hd : decode code pc = .ok (.if_icmp cd o, 3)) (hp2 : pc + 3 = pc2) (hx : x.toInt = xi) (hy : y.toInt = yi) (q : ¬ (icp cd xi yi)) (g : Go W Q h k n pc2 L S) : Go W Q h k n pc L (.int y :: .int x :: S) := by
  subst hx hy hp2
  exact g.st fun T locs X e t kk => XS.icmpNo (g := mkF W.m pc L (.int y :: .int x :: S)) X.here C.x rfl (C.b hd) rfl ((icp_eq cd x y).trans (decide_eq_false q)) kk
theorem g_icmp (C : Cx W Z R own code mx ret nm wsx hx0) {cd : ClassFile.Cond} {o : Int} {x y : Int32} {xi yi : Int} (hd : decode code pc = .ok (.if_icmp cd o, 3)) (ho : 0 ≤ (pc : Int) + o) (hp1 : ((pc : Int) + o).toNat = pc1) (hp2 : pc + 3 = pc2) (hx : x.toInt = xi) (hy : y.toInt = yi) (g1 : icp cd xi yi → Go W Q h k n pc1 L S) (g2 : ¬ (icp cd xi yi) → Go W Q h k n pc2 L S) : Go W Q h k n pc L (.int y :: .int x :: S) := by
  by_cases q : icp cd xi yi
  · exact g_icmpY C hd ho hp1 hx hy q (g1 q)
  · exact g_icmpN C hd hp2 hx hy q (g2 q)
theorem g_ifY (C : Cx W Z R own code mx ret nm wsx hx0) {cd : ClassFile.Cond} {o : Int} {x : Int32} {xi : Int} (hd : decode code pc = .ok (.ifCond cd o, 3)) (ho : 0 ≤ (pc : Int) + o) (hp1 : ((pc : Int) + o).toNat = pc1) (hx : x.toInt = xi) (q : icp cd xi 0) (g : Go W Q h k n pc1 L S) : Go W Q h k n pc L (.int x :: S) := by
  subst hx
  exact g.st fun T locs X e t kk => XS.ifYes (g := mkF W.m pc L (.int x :: S)) X.here C.x rfl rfl (C.b hd) rfl ((if0 cd x).trans ((icp_eq cd x 0).trans (decide_eq_true q))) ho hp1 kk
theorem g_ifN (C : Cx W Z R own code mx ret nm wsx hx0) {cd : ClassFile.Cond} {o : Int} {x : Int32} {xi : Int} (hd : decode code pc = .ok (.ifCond cd o, 3)) (hp2 : pc + 3 = pc2) (hx : x.toInt = xi) (q : ¬ (icp cd xi 0)) (g : Go W Q h k n pc2 L S) : Go W Q h k n pc L (.int x :: S) := by
  subst hx hp2
  exact g.st fun T locs X e t kk => XS.ifNo (g := mkF W.m pc L (.int x :: S)) X.here C.x rfl (C.b hd) rfl ((if0 cd x).trans ((icp_eq cd x 0).trans (decide_eq_false q))) kk
theorem g_if (C : Cx W Z R own code mx ret nm wsx hx0) {cd : ClassFile.Cond} {o : Int} {x : Int32} {xi : Int} (hd : decode code pc = .ok (.ifCond cd o, 3)) (ho : 0 ≤ (pc : Int) + o) (hp1 : ((pc : Int) + o).toNat = pc1) (hp2 : pc + 3 = pc2) (hx : x.toInt = xi) (g1 : icp cd xi 0 → Go W Q h k n pc1 L S) (g2 : ¬ (icp cd xi 0) → Go W Q h k n pc2 L S) : Go W Q h k n pc L (.int x :: S) := by
  by_cases q : icp cd xi 0
  · exact g_ifY C hd ho hp1 hx q (g1 q)
  · exact g_ifN C hd hp2 hx q (g2 q)
/-- lcmp and the branch behind it -/
theorem g_lcmpY (C : Cx W Z R own code mx ret nm wsx hx0) {cd : ClassFile.Cond} {o : Int} {x y : Int64} {xi yi : Int} (hd : decode code pc = .ok (.lcmp, 1)) (hd' : decode code pc' = .ok (.ifCond cd o, 3)) (hp : pc + 1 = pc') (ho : 0 ≤ (pc' : Int) + o) (hp1 : ((pc' : Int) + o).toNat = pc1) (hx : x.toInt = xi) (hy : y.toInt = yi) (q : icp cd xi yi) (g : Go W Q h k n pc1 L S) : Go W Q h k n pc L (.long y :: .long x :: S) := by
  subst hp hx hy
  have g' : Go W Q h k n (pc + 1) L (.int (lcmpW x y) :: S) := g.st fun T locs X e t kk => XS.ifYes (g := mkF W.m (pc + 1) L (.int (lcmpW x y) :: S)) X.here C.x rfl rfl (C.b hd') rfl ((icp_long cd x y).trans (decide_eq_true q)) ho hp1 kk
  exact g'.st fun T locs X e t kk => XS.lcmp (g := mkF W.m pc L (.long y :: .long x :: S)) X.here C.x rfl (C.b hd) rfl kk
theorem g_lcmpN (C : Cx W Z R own code mx ret nm wsx hx0) {cd : ClassFile.Cond} {o : Int} {x y : Int64} {xi yi : Int} (hd : decode code pc = .ok (.lcmp, 1)) (hd' : decode code pc' = .ok (.ifCond cd o, 3)) (hp : pc + 1 = pc') (hp2 : pc' + 3 = pc2) (hx : x.toInt = xi) (hy : y.toInt = yi) (q : ¬ icp cd xi yi) (g : Go W Q h k n pc2 L S) : Go W Q h k n pc L (.long y :: .long x :: S) := by
  subst hp hx hy hp2
  have g' : Go W Q h k n (pc + 1) L (.int (lcmpW x y) :: S) := g.st fun T locs X e t kk => XS.ifNo (g := mkF W.m (pc + 1) L (.int (lcmpW x y) :: S)) X.here C.x rfl (C.b hd') rfl ((icp_long cd x y).trans (decide_eq_false q)) kk
  exact g'.st fun T locs X e t kk => XS.lcmp (g := mkF W.m pc L (.long y :: .long x :: S)) X.here C.x rfl (C.b hd) rfl kk
theorem g_lcmp (C : Cx W Z R own code mx ret nm wsx hx0) {cd : ClassFile.Cond} {o : Int} {x y : Int64} {xi yi : Int} (hd : decode code pc = .ok (.lcmp, 1)) (hd' : decode code pc' = .ok (.ifCond cd o, 3)) (hp : pc + 1 = pc') (ho : 0 ≤ (pc' : Int) + o) (hp1 : ((pc' : Int) + o).toNat = pc1) (hp2 : pc' + 3 = pc2) (hx : x.toInt = xi) (hy : y.toInt = yi) (g1 : icp cd xi yi → Go W Q h k n pc1 L S) (g2 : ¬ icp cd xi yi → Go W Q h k n pc2 L S) : Go W Q h k n pc L (.long y :: .long x :: S) := by
  by_cases q : icp cd xi yi
  · exact g_lcmpY C hd hd' hp ho hp1 hx hy q (g1 q)
  · exact g_lcmpN C hd hd' hp hp2 hx hy q (g2 q)
theorem icp_b0 {P : Prop} [Decidable P] : icp .eq (b2i P).toInt 0 ↔ ¬ P := by
  show (b2i P).toInt = 0 ↔ ¬ P
  rw [b2i_toInt]; split <;> simp [*]
theorem icp_b1 {P : Prop} [Decidable P] : icp .ne (b2i P).toInt 0 ↔ P := by
  show ¬ (b2i P).toInt = 0 ↔ P
  rw [b2i_toInt]; split <;> simp [*]
/-- ifeq on a truth value -/
theorem g_ifeqb (C : Cx W Z R own code mx ret nm wsx hx0) {o : Int} {x : Int32} {P : Prop} [Decidable P] (hd : decode code pc = .ok (.ifCond .eq o, 3)) (ho : 0 ≤ (pc : Int) + o) (hp1 : ((pc : Int) + o).toNat = pc1) (hp2 : pc + 3 = pc2) (hx : x = b2i P) (g1 : ¬ P → Go W Q h k n pc1 L S) (g2 : P → Go W Q h k n pc2 L S) : Go W Q h k n pc L (.int x :: S) := by
  subst hx
  exact g_if C hd ho hp1 hp2 rfl (fun q => g1 (icp_b0.mp q)) (fun q => g2 (Decidable.not_not.mp fun z => q (icp_b0.mpr z)))
/-- ifne on a truth value -/
theorem g_ifneb (C : Cx W Z R own code mx ret nm wsx hx0) {o : Int} {x : Int32} {P : Prop} [Decidable P] (hd : decode code pc = .ok (.ifCond .ne o, 3)) (ho : 0 ≤ (pc : Int) + o) (hp1 : ((pc : Int) + o).toNat = pc1) (hp2 : pc + 3 = pc2) (hx : x = b2i P) (g1 : P → Go W Q h k n pc1 L S) (g2 : ¬ P → Go W Q h k n pc2 L S) : Go W Q h k n pc L (.int x :: S) := by
  subst hx
  exact g_if C hd ho hp1 hp2 rfl (fun q => g1 (icp_b1.mp q)) (fun q => g2 fun z => q (icp_b1.mpr z))
theorem g_icmpbeq (C : Cx W Z R own code mx ret nm wsx hx0) {o : Int} {x y : Int32} {P P' : Prop} [Decidable P] [Decidable P'] (hd : decode code pc = .ok (.if_icmp .eq o, 3)) (ho : 0 ≤ (pc : Int) + o) (hp1 : ((pc : Int) + o).toNat = pc1) (hp2 : pc + 3 = pc2) (hx : x = b2i P) (hy : y = b2i P') (g1 : (P ↔ P') → Go W Q h k n pc1 L S) (g2 : ¬ (P ↔ P') → Go W Q h k n pc2 L S) : Go W Q h k n pc L (.int y :: .int x :: S) := by
  subst hx hy
  exact g_icmp C hd ho hp1 hp2 rfl rfl (fun q => g1 (b2i_inj.mp (Int32.toInt_inj.mp q))) (fun q => g2 fun z => q (congrArg Int32.toInt (b2i_inj.mpr z)))
theorem g_icmpbne (C : Cx W Z R own code mx ret nm wsx hx0) {o : Int} {x y : Int32} {P P' : Prop} [Decidable P] [Decidable P'] (hd : decode code pc = .ok (.if_icmp .ne o, 3)) (ho : 0 ≤ (pc : Int) + o) (hp1 : ((pc : Int) + o).toNat = pc1) (hp2 : pc + 3 = pc2) (hx : x = b2i P) (hy : y = b2i P') (g1 : ¬ (P ↔ P') → Go W Q h k n pc1 L S) (g2 : (P ↔ P') → Go W Q h k n pc2 L S) : Go W Q h k n pc L (.int y :: .int x :: S) := by
  subst hx hy
  exact g_icmp C hd ho hp1 hp2 rfl rfl (fun q => g1 fun z => q (congrArg Int32.toInt (b2i_inj.mpr z))) (fun q => g2 (b2i_inj.mp (Int32.toInt_inj.mp (Decidable.not_not.mp q))))
theorem isRef_cases {v : Value} (hv : v.isRef = true) (h0 : v ≠ .null) : ∃ b, v = .ref b := by
  rcases ref_cases hv with q | q
  · exact absurd q h0
  · exact q
theorem g_ifnonnull (C : Cx W Z R own code mx ret nm wsx hx0) {o : Int} {v : Value} (hd : decode code pc = .ok (.ifnonnull o, 3)) (ho : 0 ≤ (pc : Int) + o) (hp1 : ((pc : Int) + o).toNat = pc1) (hp2 : pc + 3 = pc2) (hv : v.isRef = true) (g1 : v ≠ .null → Go W Q h k n pc1 L S) (g2 : v = .null → Go W Q h k n pc2 L S) : Go W Q h k n pc L (v :: S) := by
  by_cases q : v = .null
  · have g := g2 q
    subst q hp2
    exact g.st fun T locs X e t kk => XS.ifnonnullNo (g := mkF W.m pc L (.null :: S)) X.here C.x rfl (C.b hd) rfl kk
  · have g := g1 q
    obtain ⟨b, rfl⟩ := isRef_cases hv q
    exact g.st fun T locs X e t kk => XS.ifnonnullYes (g := mkF W.m pc L (.ref b :: S)) X.here C.x rfl rfl (C.b hd) rfl ho hp1 kk
theorem g_ifnull (C : Cx W Z R own code mx ret nm wsx hx0) {o : Int} {v : Value} (hd : decode code pc = .ok (.ifnull o, 3)) (ho : 0 ≤ (pc : Int) + o) (hp1 : ((pc : Int) + o).toNat = pc1) (hp2 : pc + 3 = pc2) (hv : v.isRef = true) (g1 : v = .null → Go W Q h k n pc1 L S) (g2 : v ≠ .null → Go W Q h k n pc2 L S) : Go W Q h k n pc L (v :: S) := by
  by_cases q : v = .null
  · have g := g1 q
    subst q
    exact g.st fun T locs X e t kk => XS.ifnullYes (g := mkF W.m pc L (.null :: S)) X.here C.x rfl rfl (C.b hd) rfl ho hp1 kk
  · have g := g2 q
    obtain ⟨b, rfl⟩ := isRef_cases hv q
    subst hp2
    exact g.st fun T locs X e t kk => XS.ifnullNo (g := mkF W.m pc L (.ref b :: S)) X.here C.x rfl (C.b hd) rfl kk
theorem g_acmpne (C : Cx W Z R own code mx ret nm wsx hx0) {o : Int} {v w : Value} (hd : decode code pc = .ok (.if_acmp .ne o, 3)) (ho : 0 ≤ (pc : Int) + o) (hp1 : ((pc : Int) + o).toNat = pc1) (hp2 : pc + 3 = pc2) (hv : v.isRef = true) (hw : w.isRef = true) (g1 : v ≠ w → Go W Q h k n pc1 L S) (g2 : v = w → Go W Q h k n pc2 L S) : Go W Q h k n pc L (w :: v :: S) := by
  by_cases q : v = w
  · exact (g2 q).st fun T locs X e t kk => Jvm.RoadKit.acmp (g := mkF W.m pc L (w :: v :: S)) X C.x rfl hv hw (same := true) rfl (C.b hd) rfl (decide_eq_true q) ho (by rw [← hp2]; rfl) kk
  · exact (g1 q).st fun T locs X e t kk => Jvm.RoadKit.acmp (g := mkF W.m pc L (w :: v :: S)) X C.x rfl hv hw (same := false) rfl (C.b hd) rfl (decide_eq_false q) ho hp1.symm kk
theorem g_acmpeq (C : Cx W Z R own code mx ret nm wsx hx0) {o : Int} {v w : Value} (hd : decode code pc = .ok (.if_acmp .eq o, 3)) (ho : 0 ≤ (pc : Int) + o) (hp1 : ((pc : Int) + o).toNat = pc1) (hp2 : pc + 3 = pc2) (hv : v.isRef = true) (hw : w.isRef = true) (g1 : v = w → Go W Q h k n pc1 L S) (g2 : v ≠ w → Go W Q h k n pc2 L S) : Go W Q h k n pc L (w :: v :: S) := by
  by_cases q : v = w
  · exact (g1 q).st fun T locs X e t kk => Jvm.RoadKit.acmp (g := mkF W.m pc L (w :: v :: S)) X C.x rfl hv hw (same := true) rfl (C.b hd) rfl (decide_eq_true q) ho hp1.symm kk
  · exact (g2 q).st fun T locs X e t kk => Jvm.RoadKit.acmp (g := mkF W.m pc L (w :: v :: S)) X C.x rfl hv hw (same := false) rfl (C.b hd) rfl (decide_eq_false q) ho (by rw [← hp2]; rfl) kk

/-! fields, objects, arrays -/
theorem g_getL (C : Cx W Z R own code mx ret nm wsx hx0) {i : Nat} {R0 O f d host : String} {a : Addr} {v : Value} (hd : decode code pc = .ok (.getfield i, 3)) (hp : pc + 3 = pc') (w : (Jvm.Cond.fieldLink own i R0 f d).before a0 Z = true ∨ (Jvm.Cond.fieldLinkNest own i R0 f d host).before a0 Z = true) (via : Via Z R0 O f d) (F : Fld Z h a O f d v) (g : Go W Q h k n pc' L (v :: S)) : Go W Q h k n pc L (.ref a :: S) := fun T hT => by
  obtain ⟨locs, X, e, N⟩ := hT
  subst hp
  obtain ⟨T', X', e', st⟩ := getF X C.x C.z C.o w via e F (g := mkF W.m pc L (.ref a :: S)) rfl rfl (C.b hd)
  exact Out.st st (g T' ⟨locs, X', e', N⟩)
theorem g_getO (C : Cx W Z R own code mx ret nm wsx hx0) {i j : Nat} {O f d Cl : String} {a : Addr} {v : Value} {fs : List (String × String × String × Value)} (hd : decode code pc = .ok (.getfield i, 3)) (hp : pc + 3 = pc') (w : (Jvm.Cond.fieldLink own i O f d).before a0 Z = true) (F : Ob Z h a Cl fs) (hj : fs[j]? = some (O, f, d, v)) (g : Go W Q h k n pc' L (v :: S)) : Go W Q h k n pc L (.ref a :: S) :=
  g_getL (host := "") C hd hp (Or.inl w) Via.refl (F.get hj) g
theorem pw_size (C : Cx W Z R own code mx ret nm wsx hx0) {T : State} {locs : List Loc} (X : Sta0 W T locs k n) (e : T.heap = h) : Pw W h.size := by
  have q : W.s.heap.size ≤ T.heap.size := X.same.2.1
  rw [e] at q
  exact Or.inr q
theorem g_putO (C : Cx W Z R own code mx ret nm wsx hx0) {i j kk : Nat} {R0 O f d Cl : String} {ty : FieldType} {a : Addr} {v v' old : Value} {fs fs' : List (String × String × String × Value)} (hd : decode code pc = .ok (.putfield i, 3)) (hp : pc + 3 = pc') (w : (Jvm.Cond.fieldLink own i R0 f d).before a0 Z = true) (via : Via Z R0 O f d) (F : Ob Z h a Cl fs) (hj : fs[j]? = some (O, f, d, old))
    (Lw : (Jvm.Cond.lays Cl O f d).before a0 Z = true ∨ ((Jvm.Cond.laysFinal Cl O f d).before a0 Z = true ∧ own = O ∧ nm = "<init>")) (wi : (Jvm.Cond.instantiable Cl kk).before a0 Z = true) (hty : parseFieldDescriptor d = some ty) (hn : narrow ty v = v') (hf : fits ty v' = true) (hset : fs.set j (O, f, d, v') = fs') (q : Pw W a)
    (g : ∀ h', Ob Z h' a Cl fs' → Keep h h' [a] → Go W Q h' k n pc' L S) : Go W Q h k n pc L (v :: .ref a :: S) := fun T hT => by
  obtain ⟨locs, X, e, N⟩ := hT
  subst hp hset
  obtain ⟨T', h', X', e', Wx, st⟩ := putFN X C.x C.z C.o w via e (F.get hj) F.1 (Lw.imp id fun z => ⟨z.1, z.2.1, C.nme.trans z.2.2⟩) wi hty hn hf (g := mkF W.m pc L (v :: .ref a :: S)) rfl rfl (C.b hd)
  refine Out.st st (g h' (F.put hj Wx) (Keep.of_wr Wx) T' ⟨_, X', e', fun y hy => ?_⟩)
  rcases List.mem_append.mp hy with z | z
  · exact N y z
  · cases List.mem_singleton.mp z; exact q
theorem g_new (C : Cx W Z R own code mx ret nm wsx hx0) {i nn : Nat} {Cl : String} (hd : decode code pc = .ok (.new i, 3)) (hp : pc + 3 = pc') (w : (Jvm.Cond.classLink own i Cl).before a0 Z = true) (wi : (Jvm.Cond.instantiable Cl nn).before a0 Z = true) (wz : (Jvm.Cond.initialized Cl).before a0 Z = true) {k' n' : Nat} (hk : k + 1 = k') (hn : n + nn = n') (hc : k' ≤ R.cells) (hs : n' ≤ R.slots)
    (g : ∀ (h' : Heap) (a : Addr), a = h.size → Ext h h' → Exa Z h' a Cl → (∀ {O f d : String} {ty : FieldType}, Laid Z a0 Cl O f d → parseFieldDescriptor d = some ty → Fld Z h' a O f d (defaultValue ty)) → Pw W a → Go W Q h' k' n' pc' L (.ref a :: S)) : Go W Q h k n pc L S := fun T hT => by
  obtain ⟨locs, X, e, N⟩ := hT
  subst hp hk hn
  obtain ⟨T', h', X', e', E, A, D, -, st⟩ := newO X C.x C.z C.o w wi wz e (g := mkF W.m pc L S) rfl (C.b hd) (by rw [C.r]; exact hc) (by rw [C.r]; exact hs)
  exact Out.st st (g h' h.size rfl E A D (pw_size C X e) T' ⟨locs, X', e', N⟩)
theorem def_list (ty : FieldType) (cA : ClassId) {z : Int32} {len : Nat} (hz : z.toInt = len) : (newA cA ty z).slots.toList = List.replicate len (defaultValue ty) := by
  show (Array.replicate z.toNatClampNeg (defaultValue ty)).toList = _
  rw [clamp_of hz, Array.toList_replicate]
theorem g_newarray (C : Cx W Z R own code mx ret nm wsx hx0) {aty : ArrayType} {ty : FieldType} {z : Int32} {len cap : Nat} (hd : decode code pc = .ok (.newarray aty, 2)) (hp : pc + 2 = pc') (hty : newarray.typeOf aty = ty) (w : (Jvm.Cond.arrayClass ty).before a0 Z = true) (hz : z.toInt = len) (hcap : len ≤ cap) (hb8 : cap * 8 ≤ 536870912) {k' n' : Nat} (hk : k + 1 = k') (hn : n + cap = n') (hc : k' ≤ R.cells) (hs : n' ≤ R.slots)
    (g : ∀ (h' : Heap) (a : Addr), a = h.size → Ext h h' → Ar Z h' a ty (List.replicate len (defaultValue ty)) → Pw W a → Go W Q h' k' n' pc' L (.ref a :: S)) : Go W Q h k n pc L (.int z :: S) := fun T hT => by
  obtain ⟨locs, X, e, N⟩ := hT
  subst hp hty hk hn
  obtain ⟨T', h', cA, X', e', E, A, st⟩ := newP X C.x C.z w e (g := mkF W.m pc L (.int z :: S)) rfl (C.b hd) rfl (nneg_of hz) (cap := cap) (by rw [clamp_of hz]; exact hcap) hb8 (by rw [C.r]; exact hc) (by rw [C.r]; exact hs)
  exact Out.st st (g h' h.size rfl E ⟨_, A, def_list _ _ hz⟩ (pw_size C X e) T' ⟨locs, X', e', N⟩)
theorem g_anewarray (C : Cx W Z R own code mx ret nm wsx hx0) {i : Nat} {Cl : String} {z : Int32} {len cap : Nat} (hd : decode code pc = .ok (.anewarray i, 3)) (hp : pc + 3 = pc') (w : (Jvm.Cond.classLink own i Cl).before a0 Z = true) (w2 : (Jvm.Cond.arrayOver (.object Cl)).before a0 Z = true) (hz : z.toInt = len) (hcap : len ≤ cap) (hb8 : cap * 8 ≤ 536870912) {k' n' : Nat} (hk : k + 1 = k') (hn : n + cap = n') (hc : k' ≤ R.cells) (hs : n' ≤ R.slots)
    (g : ∀ (h' : Heap) (a : Addr), a = h.size → Ext h h' → ArR Z h' a Cl (List.replicate len .null) → Pw W a → Go W Q h' k' n' pc' L (.ref a :: S)) : Go W Q h k n pc L (.int z :: S) := fun T hT => by
  obtain ⟨locs, X, e, N⟩ := hT
  subst hp hk hn
  obtain ⟨T', h', cA, X', e', E, A, O, st⟩ := newR X C.x C.z C.o w w2 e (g := mkF W.m pc L (.int z :: S)) rfl (C.b hd) rfl (nneg_of hz) (cap := cap) (by rw [clamp_of hz]; exact hcap) hb8 (by rw [C.r]; exact hc) (by rw [C.r]; exact hs)
  exact Out.st st (g h' h.size rfl E ⟨_, A, def_list _ _ hz, O⟩ (pw_size C X e) T' ⟨locs, X', e', N⟩)
theorem g_arraylength (C : Cx W Z R own code mx ret nm wsx hx0) {a : Addr} {ty : FieldType} {vs : List Value} {z : Int32} (hd : decode code pc = .ok (.arraylength, 1)) (hp : pc + 1 = pc') (A : Ar Z h a ty vs) (hz : vs.length.toInt32 = z) (g : Go W Q h k n pc' L (.int z :: S)) : Go W Q h k n pc L (.ref a :: S) := by
  subst hp hz
  obtain ⟨c, A, e⟩ := A
  rw [← e, Array.length_toList] at g
  exact g.st fun T locs X eT t kk => X.arraylength C.x (by rw [eT]; exact A.1) (State.isArrayOf_alike C.z.alike A.2.1) (g := mkF W.m pc L (.ref a :: S)) rfl rfl (C.b hd) t kk
theorem g_arraylengthR (C : Cx W Z R own code mx ret nm wsx hx0) {a : Addr} {Cl : String} {vs : List Value} {z : Int32} (hd : decode code pc = .ok (.arraylength, 1)) (hp : pc + 1 = pc') (A : ArR Z h a Cl vs) (hz : vs.length.toInt32 = z) (g : Go W Q h k n pc' L (.int z :: S)) : Go W Q h k n pc L (.ref a :: S) := by
  obtain ⟨c, A, e, -⟩ := A
  exact g_arraylength C hd hp ⟨c, A, e⟩ hz g

theorem g_iaload (C : Cx W Z R own code mx ret nm wsx hx0) {a : Addr} {vs : List Value} {v : Value} {j : Int32} {i : Nat} (hd : decode code pc = .ok (.iaload, 1)) (hp : pc + 1 = pc') (A : Ar Z h a .int vs) (hj : j.toInt = i) (hv : vs[i]? = some v) (g : Go W Q h k n pc' L (v :: S)) : Go W Q h k n pc L (.int j :: .ref a :: S) := by
  subst hp
  obtain ⟨c, A, e⟩ := A
  subst e
  have hi := (List.getElem?_eq_some_iff.mp hv).1
  exact g.st fun T locs X eT t kk => X.iaload C.x (by rw [eT]; exact A.1) (State.isArrayOf_alike C.z.alike A.2.1) A.2.2 (in_of hj hi) (by rw [clamp_of hj, ← Array.getElem?_toList]; exact hv) (g := mkF W.m pc L (.int j :: .ref a :: S)) rfl rfl (C.b hd) t kk
theorem g_laload (C : Cx W Z R own code mx ret nm wsx hx0) {a : Addr} {vs : List Value} {v : Value} {j : Int32} {i : Nat} (hd : decode code pc = .ok (.laload, 1)) (hp : pc + 1 = pc') (A : Ar Z h a .long vs) (hj : j.toInt = i) (hv : vs[i]? = some v) (g : Go W Q h k n pc' L (v :: S)) : Go W Q h k n pc L (.int j :: .ref a :: S) := by
  subst hp
  obtain ⟨c, A, e⟩ := A
  subst e
  have hi := (List.getElem?_eq_some_iff.mp hv).1
  exact g.st fun T locs X eT t kk => X.laload C.x (by rw [eT]; exact A.1) (State.isArrayOf_alike C.z.alike A.2.1) A.2.2 (in_of hj hi) (by rw [clamp_of hj, ← Array.getElem?_toList]; exact hv) (g := mkF W.m pc L (.int j :: .ref a :: S)) rfl rfl (C.b hd) t kk
theorem g_caload (C : Cx W Z R own code mx ret nm wsx hx0) {a : Addr} {vs : List Value} {v : Value} {j : Int32} {i : Nat} (hd : decode code pc = .ok (.caload, 1)) (hp : pc + 1 = pc') (A : Ar Z h a .char vs) (hj : j.toInt = i) (hv : vs[i]? = some v) (g : Go W Q h k n pc' L (v :: S)) : Go W Q h k n pc L (.int j :: .ref a :: S) := by
  subst hp
  obtain ⟨c, A, e⟩ := A
  subst e
  have hi := (List.getElem?_eq_some_iff.mp hv).1
  exact g.st fun T locs X eT t kk => X.caload C.x (by rw [eT]; exact A.1) (State.isArrayOf_alike C.z.alike A.2.1) A.2.2 (in_of hj hi) (by rw [clamp_of hj, ← Array.getElem?_toList]; exact hv) (g := mkF W.m pc L (.int j :: .ref a :: S)) rfl rfl (C.b hd) t kk
theorem g_baload (C : Cx W Z R own code mx ret nm wsx hx0) {a : Addr} {vs : List Value} {v : Value} {j : Int32} {i : Nat} (hd : decode code pc = .ok (.baload, 1)) (hp : pc + 1 = pc') (A : Ar Z h a .byte vs) (hj : j.toInt = i) (hv : vs[i]? = some v) (g : Go W Q h k n pc' L (v :: S)) : Go W Q h k n pc L (.int j :: .ref a :: S) := by
  subst hp
  obtain ⟨c, A, e⟩ := A
  subst e
  have hi := (List.getElem?_eq_some_iff.mp hv).1
  exact g.st fun T locs X eT t kk => X.baloadBytes C.x (by rw [eT]; exact A.1) (State.isArrayOf_alike C.z.alike A.2.1) A.2.2 (in_of hj hi) (by rw [clamp_of hj, ← Array.getElem?_toList]; exact hv) (g := mkF W.m pc L (.int j :: .ref a :: S)) rfl rfl (C.b hd) t kk
theorem g_zaload (C : Cx W Z R own code mx ret nm wsx hx0) {a : Addr} {vs : List Value} {v : Value} {j : Int32} {i : Nat} (hd : decode code pc = .ok (.baload, 1)) (hp : pc + 1 = pc') (A : Ar Z h a .boolean vs) (hj : j.toInt = i) (hv : vs[i]? = some v) (g : Go W Q h k n pc' L (v :: S)) : Go W Q h k n pc L (.int j :: .ref a :: S) := by
  subst hp
  obtain ⟨c, A, e⟩ := A
  subst e
  have hi := (List.getElem?_eq_some_iff.mp hv).1
  exact g.st fun T locs X eT t kk => X.baloadBooleans C.x (by rw [eT]; exact A.1) (State.isArrayOf_alike C.z.alike A.2.1) A.2.2 (in_of hj hi) (by rw [clamp_of hj, ← Array.getElem?_toList]; exact hv) (g := mkF W.m pc L (.int j :: .ref a :: S)) rfl rfl (C.b hd) t kk
theorem g_aaload (C : Cx W Z R own code mx ret nm wsx hx0) {a : Addr} {Cl : String} {vs : List Value} {v : Value} {j : Int32} {i : Nat} (hd : decode code pc = .ok (.aaload, 1)) (hp : pc + 1 = pc') (A : ArR Z h a Cl vs) (hj : j.toInt = i) (hv : vs[i]? = some v) (g : Go W Q h k n pc' L (v :: S)) : Go W Q h k n pc L (.int j :: .ref a :: S) := by
  subst hp
  obtain ⟨c, A, e, -⟩ := A
  subst e
  have hi := (List.getElem?_eq_some_iff.mp hv).1
  exact g.st fun T locs X eT t kk => X.aaload C.x (by rw [eT]; exact A.1) (State.isArrayOf_alike C.z.alike A.2.1) rfl A.2.2 (in_of hj hi) (by rw [clamp_of hj, ← Array.getElem?_toList]; exact hv) (g := mkF W.m pc L (.int j :: .ref a :: S)) rfl rfl (C.b hd) t kk
theorem g_iastore (C : Cx W Z R own code mx ret nm wsx hx0) {a : Addr} {vs vs' : List Value} {x : Int32} {j : Int32} {i : Nat} (hd : decode code pc = .ok (.iastore, 1)) (hp : pc + 1 = pc') (A : Ar Z h a .int vs) (hj : j.toInt = i) (hi : i < vs.length) (hset : vs.set i (.int x) = vs') (q : Pw W a) (g : ∀ h', Ar Z h' a .int vs' → Keep h h' [a] → Go W Q h' k n pc' L S) : Go W Q h k n pc L (.int x :: .int j :: .ref a :: S) := fun T hT => by
  obtain ⟨locs, X, e, N⟩ := hT
  subst hp hset
  obtain ⟨c, A, ec⟩ := A
  obtain ⟨T', h', X', e', Wx, st⟩ := stI X C.x C.z e A (in_of hj (ec ▸ hi)) (g := mkF W.m pc L (.int x :: .int j :: .ref a :: S)) rfl rfl (C.b hd)
  refine Out.st st (g h' (Ar.put A ec hj Wx) (Keep.of_wr Wx) T' ⟨_, X', e', fun y hy => ?_⟩)
  rcases List.mem_append.mp hy with z | z
  · exact N y z
  · cases List.mem_singleton.mp z; exact q
theorem g_lastore (C : Cx W Z R own code mx ret nm wsx hx0) {a : Addr} {vs vs' : List Value} {x : Int64} {j : Int32} {i : Nat} (hd : decode code pc = .ok (.lastore, 1)) (hp : pc + 1 = pc') (A : Ar Z h a .long vs) (hj : j.toInt = i) (hi : i < vs.length) (hset : vs.set i (.long x) = vs') (q : Pw W a) (g : ∀ h', Ar Z h' a .long vs' → Keep h h' [a] → Go W Q h' k n pc' L S) : Go W Q h k n pc L (.long x :: .int j :: .ref a :: S) := fun T hT => by
  obtain ⟨locs, X, e, N⟩ := hT
  subst hp hset
  obtain ⟨c, A, ec⟩ := A
  obtain ⟨T', h', X', e', Wx, st⟩ := stJ X C.x C.z e A (in_of hj (ec ▸ hi)) (g := mkF W.m pc L (.long x :: .int j :: .ref a :: S)) rfl rfl (C.b hd)
  refine Out.st st (g h' (Ar.put A ec hj Wx) (Keep.of_wr Wx) T' ⟨_, X', e', fun y hy => ?_⟩)
  rcases List.mem_append.mp hy with z | z
  · exact N y z
  · cases List.mem_singleton.mp z; exact q
theorem g_castore (C : Cx W Z R own code mx ret nm wsx hx0) {a : Addr} {vs vs' : List Value} {x : Int32} {j : Int32} {i : Nat} (hd : decode code pc = .ok (.castore, 1)) (hp : pc + 1 = pc') (A : Ar Z h a .char vs) (hj : j.toInt = i) (hi : i < vs.length) (hset : vs.set i (.int (nar .char x)) = vs') (q : Pw W a) (g : ∀ h', Ar Z h' a .char vs' → Keep h h' [a] → Go W Q h' k n pc' L S) : Go W Q h k n pc L (.int x :: .int j :: .ref a :: S) := fun T hT => by
  obtain ⟨locs, X, e, N⟩ := hT
  subst hp hset
  obtain ⟨c, A, ec⟩ := A
  obtain ⟨T', h', X', e', Wx, st⟩ := stC X C.x C.z e A (in_of hj (ec ▸ hi)) (g := mkF W.m pc L (.int x :: .int j :: .ref a :: S)) rfl rfl (C.b hd)
  refine Out.st st (g h' (Ar.put A ec hj Wx) (Keep.of_wr Wx) T' ⟨_, X', e', fun y hy => ?_⟩)
  rcases List.mem_append.mp hy with z | z
  · exact N y z
  · cases List.mem_singleton.mp z; exact q
theorem g_bastore (C : Cx W Z R own code mx ret nm wsx hx0) {a : Addr} {vs vs' : List Value} {x : Int32} {j : Int32} {i : Nat} (hd : decode code pc = .ok (.bastore, 1)) (hp : pc + 1 = pc') (A : Ar Z h a .byte vs) (hj : j.toInt = i) (hi : i < vs.length) (hset : vs.set i (.int (nar .byte x)) = vs') (q : Pw W a) (g : ∀ h', Ar Z h' a .byte vs' → Keep h h' [a] → Go W Q h' k n pc' L S) : Go W Q h k n pc L (.int x :: .int j :: .ref a :: S) := fun T hT => by
  obtain ⟨locs, X, e, N⟩ := hT
  subst hp hset
  obtain ⟨c, A, ec⟩ := A
  obtain ⟨T', h', X', e', Wx, st⟩ := stB X C.x C.z e A (in_of hj (ec ▸ hi)) (g := mkF W.m pc L (.int x :: .int j :: .ref a :: S)) rfl rfl (C.b hd)
  refine Out.st st (g h' (Ar.put A ec hj Wx) (Keep.of_wr Wx) T' ⟨_, X', e', fun y hy => ?_⟩)
  rcases List.mem_append.mp hy with z | z
  · exact N y z
  · cases List.mem_singleton.mp z; exact q
theorem g_zastore (C : Cx W Z R own code mx ret nm wsx hx0) {a : Addr} {vs vs' : List Value} {x : Int32} {j : Int32} {i : Nat} (hd : decode code pc = .ok (.bastore, 1)) (hp : pc + 1 = pc') (A : Ar Z h a .boolean vs) (hj : j.toInt = i) (hi : i < vs.length) (hset : vs.set i (.int (nar .boolean x)) = vs') (q : Pw W a) (g : ∀ h', Ar Z h' a .boolean vs' → Keep h h' [a] → Go W Q h' k n pc' L S) : Go W Q h k n pc L (.int x :: .int j :: .ref a :: S) := fun T hT => by
  obtain ⟨locs, X, e, N⟩ := hT
  subst hp hset
  obtain ⟨c, A, ec⟩ := A
  obtain ⟨T', h', X', e', Wx, st⟩ := stZ X C.x C.z e A (in_of hj (ec ▸ hi)) (g := mkF W.m pc L (.int x :: .int j :: .ref a :: S)) rfl rfl (C.b hd)
  refine Out.st st (g h' (Ar.put A ec hj Wx) (Keep.of_wr Wx) T' ⟨_, X', e', fun y hy => ?_⟩)
  rcases List.mem_append.mp hy with z | z
  · exact N y z
  · cases List.mem_singleton.mp z; exact q
theorem ArR.put {Z : State} {h h' : Heap} {a : Addr} {Cl : String} {vs : List Value} {v : Value} {c : Cell} (A : Arr Z h a c (.object Cl)) (e : c.slots.toList = vs) (O : Ovr Z c.cls Cl) {j : Int32} {i : Nat} (hj : j.toInt = i) (W : Wr h h' a j.toNatClampNeg v) : ArR Z h' a Cl (vs.set i v) := by
  refine ⟨_, A.same W, ?_, O⟩
  rw [clamp_of hj, set_toList, e]
theorem g_aastore (C : Cx W Z R own code mx ret nm wsx hx0) {a : Addr} {Cl : String} {vs vs' : List Value} {v : Value} {j : Int32} {i : Nat} (hd : decode code pc = .ok (.aastore, 1)) (hp : pc + 1 = pc') (A : ArR Z h a Cl vs) (hj : j.toInt = i) (hi : i < vs.length) (hset : vs.set i v = vs') (hv : v = .null ∨ ∃ y, v = .ref y ∧ Exa Z h y Cl) (q : Pw W a) (g : ∀ h', ArR Z h' a Cl vs' → Keep h h' [a] → Go W Q h' k n pc' L S) : Go W Q h k n pc L (v :: .int j :: .ref a :: S) := fun T hT => by
  obtain ⟨locs, X, e, N⟩ := hT
  subst hp hset
  obtain ⟨c, A, ec, O⟩ := A
  have F : Sto Z h a v := by
    rcases hv with rfl | ⟨y, rfl, E⟩
    · exact Or.inl rfl
    · exact Sto.of A O (Ins.self E)
  obtain ⟨T', h', X', e', Wx, st⟩ := stR X C.x C.z e A (in_of hj (ec ▸ hi)) rfl F (g := mkF W.m pc L (v :: .int j :: .ref a :: S)) rfl rfl (C.b hd)
  refine Out.st st (g h' (ArR.put A ec O hj Wx) (Keep.of_wr Wx) T' ⟨_, X', e', fun y hy => ?_⟩)
  rcases List.mem_append.mp hy with z | z
  · exact N y z
  · cases List.mem_singleton.mp z; exact q
/-! returns -/
theorem g_end (C : Cx W Z R own code mx ret nm wsx hx0) {v : Option Value} (hv : ret = none → v = none) (hc : k ≤ R.cells) (hs : n ≤ R.slots) (q : Q v h)
    (st : ∀ T locs, Sta0 W T locs k n → ∀ fs, (∀ (f : JFrame) (acts : List Action), f.method = W.m → f.locked = none → f.entered = [] → (doReturn W.e (T.setTop f) acts v).1 = T.setFrames fs) → Stp W (T.setTop (mkF W.m pc L S)) (T.setFrames fs)) : Go W Q h k n pc L S := fun T hT => by
  obtain ⟨locs, X, e, N⟩ := hT
  obtain ⟨fs, hr, hrun, hended, hW, hsame⟩ := X.leave (v := v) (fun z => hv (C.rt ▸ z)) C.lk
  refine ⟨_, _, st T locs X fs hr, hrun, hended, v, locs, rfl, ⟨?_, N⟩, ⟨_, rfl⟩, hW, hsame.mono (by rw [C.r]; exact hc) (by rw [C.r]; exact hs)⟩
  show Q v T.heap
  rw [e]; exact q
theorem g_return (C : Cx W Z R own code mx none nm wsx hx0) (hd : decode code pc = .ok (.return_, 1)) (hc : k ≤ R.cells) (hs : n ≤ R.slots) (q : Q none h) : Go W Q h k n pc L [] :=
  g_end C (fun _ => rfl) hc hs q fun T locs X fs hr => X.returnOut C.x C.rt (C.b hd) hr
theorem g_retN {ty0 : FieldType} (C : Cx W Z R own code mx (some ty0) nm wsx hx0) {z : Int32} (ht : ty0 = .boolean ∨ ty0 = .byte ∨ ty0 = .char ∨ ty0 = .short) (hd : decode code pc = .ok (.ireturn, 1)) (hc : k ≤ R.cells) (hs : n ≤ R.slots) (q : Q (some (.int (nar ty0 z))) h) : Go W Q h k n pc L (.int z :: S) :=
  g_end C nofun hc hs q fun T locs X fs hr => retN X C.x C.rt ht (C.b hd) hr
theorem g_retI (C : Cx W Z R own code mx (some .int) nm wsx hx0) {z : Int32} (hd : decode code pc = .ok (.ireturn, 1)) (hc : k ≤ R.cells) (hs : n ≤ R.slots) (q : Q (some (.int z)) h) : Go W Q h k n pc L (.int z :: S) :=
  g_end C nofun hc hs q fun T locs X fs hr => retOut X C.x C.rt rfl (Or.inl ⟨rfl, Or.inl rfl, z, rfl⟩) (C.b hd) hr
theorem g_retL (C : Cx W Z R own code mx (some .long) nm wsx hx0) {z : Int64} (hd : decode code pc = .ok (.lreturn, 1)) (hc : k ≤ R.cells) (hs : n ≤ R.slots) (q : Q (some (.long z)) h) : Go W Q h k n pc L (.long z :: S) :=
  g_end C nofun hc hs q fun T locs X fs hr => retOut X C.x C.rt rfl (Or.inr (Or.inl ⟨rfl, rfl, z, rfl⟩)) (C.b hd) hr
theorem g_retA {ty0 : FieldType} (C : Cx W Z R own code mx (some ty0) nm wsx hx0) {v : Value} (ht : ty0.isReference = true) (hn : narrow ty0 v = v) (hv : v.isRef = true) (hd : decode code pc = .ok (.areturn, 1)) (hc : k ≤ R.cells) (hs : n ≤ R.slots) (q : Q (some v) h) : Go W Q h k n pc L (v :: S) :=
  g_end C nofun hc hs q fun T locs X fs hr => retOut X C.x C.rt hn (Or.inr (Or.inr (Or.inr (Or.inr ⟨rfl, ht, hv⟩)))) (C.b hd) hr
/-! calls -/
theorem g_initO (C : Cx W Z R own code mx ret nm wsx hx0) {i : Nat} {a : Addr} (hd : decode code pc = .ok (.invokespecial i, 3)) (hp : pc + 3 = pc') (w1 : (Jvm.Cond.methodLink own i Lib.objectInit).before a0 Z = true) (w2 : (Jvm.Cond.instanceMethod Lib.objectInit).before a0 Z = true) (w3 : (Jvm.Cond.code Lib.objectInit Jvm.Pilot.@@N@@.object_method_1_code 1 none).before a0 Z = true) (hL : L.size = mx) (hf : 1 ≤ R.frames) (hl : (S.map fun v => v.category).sum + 12 ≤ R.locals) (g : Go W Q h k n pc' L S) : Go W Q h k n pc L (.ref a :: S) := fun T hT => by
  obtain ⟨locs, X, e, N⟩ := hT
  subst hp
  obtain ⟨T', X', e', st⟩ := initO X C.x C.z C.o w1 w2 w3 e (g := mkF W.m pc L (.ref a :: S)) rfl (by rw [C.ml]; exact hL) rfl (C.b hd) (by rw [C.r]; exact hf) (W := (S.map fun v => v.category).sum) (by show 2 * 0 + _ ≤ _; omega) (by rw [C.r]; exact hl)
  exact Out.st st (g T' ⟨locs, X', e', N⟩)
theorem post_call {T T' : State} {locs L' : List Loc} {k' n' : Nat} {ws : List Addr} (X : Sta0 W T locs k n) (e : T.heap = h) (N : ∀ y ∈ locs, Pw W y.base) (hws : ∀ a ∈ ws, Pw W a) (hL : ∀ y ∈ L', y.base ∈ ws ∨ h.size ≤ y.base) : ∀ y ∈ locs ++ L', Pw W y.base := fun y hy => by
  rcases List.mem_append.mp hy with z | z
  · exact N y z
  · rcases hL y z with q | q
    · exact hws _ q
    · have r : W.s.heap.size ≤ T.heap.size := X.same.2.1
      rw [e] at r
      exact Or.inr (Nat.le_trans r q)
/-- the contract, with what it keeps -/
theorem Con.keeps {l : Launch} {w0 : List Jvm.Cond} {y : MethodName} {bytes : ByteArray} {ret' : Option FieldType} {rm : Room} {as : Array Value} {ws : List Addr} {Q' : Option Value → Heap → Prop} {mx' : Nat} (M : Con l Z w0 y bytes mx' ret' rm as h ws Q') :
    MetFree l y (head1 (Jvm.Cond.code y bytes mx' ret' :: w0) rm) (fun a U => a = as ∧ Z.Warmed39 U.vm ∧ U.heap = h) (fun _ _ _ _ _ => True)
      (fun _ U o U' => ∃ v L, o = .returned v ∧ (Q' v U'.heap ∧ (∀ y ∈ L, y.base ∈ ws ∨ h.size ≤ y.base) ∧ Keep h U'.heap ws) ∧ FrameEnd U o U' L rm.cells rm.slots) := by
  intro p e ha hc hk s m args below hf happ hP hK
  obtain ⟨nn, o, h1, h2, h3, v, L, rfl, ⟨hq, hL⟩, hF⟩ := M p e ha hc hk s m args below hf happ hP hK
  refine ⟨nn, _, h1, h2, h3, v, L, rfl, ⟨hq, hL, ?_⟩, hF⟩
  obtain ⟨rfl, -, rfl⟩ := hP
  have K := keep_of_same hF.2.2 hL
  exact K
theorem g_static (C : Cx W Z R own code mx ret nm wsx hx0) {i : Nat} {y : MethodName} {bytes : ByteArray} {mx' : Nat} {ret' : Option FieldType} {rm : Room} {as : List Value} {ws : List Addr} {Q' : Option Value → Heap → Prop} {S0 : List Value} (hd : decode code pc = .ok (.invokestatic i, 3)) (hp : pc + 3 = pc')
    (w1 : (Jvm.Cond.methodLink own i y).before a0 Z = true) (w2 : (Jvm.Cond.static y).before a0 Z = true) (w3 : (Jvm.Cond.initialized y.cls).before a0 Z = true) (w4 : (Jvm.Cond.code y bytes mx' ret').before a0 Z = true) (hy : y.cls ≠ "java/lang/invoke/MethodHandle" ∧ y.cls ≠ "java/lang/invoke/VarHandle")
    (hlen : ∀ sig, parseMethodDescriptor y.desc = some sig → as.length = sig.parameters.length) (M : Con W.l Z [] y bytes mx' ret' rm as.toArray h ws Q') (hS : S0 = as.reverse ++ S) (hL : L.size = mx) (hf : rm.frames + 1 ≤ R.frames) (hl : (S.map fun v => v.category).sum + (mx' + 11) + rm.locals ≤ R.locals) {k' n' : Nat} (hk : k + rm.cells = k') (hn : n + rm.slots = n') (hc : k' ≤ R.cells) (hs : n' ≤ R.slots) (hws : ∀ a ∈ ws, Pw W a)
    (g : ∀ v h', Q' v h' → Keep h h' ws → Go W Q h' k' n' pc' L (v.toList ++ S)) : Go W Q h k n pc L S0 := fun T hT => by
  obtain ⟨locs, X, e, N⟩ := hT
  subst hp hS hk hn
  obtain ⟨v, _, ⟨T', L1, k1, n1⟩, -, X', ⟨L2, ⟨hQ, hL2, hK⟩, l1, y1, z1⟩, st⟩ := Jvm.LawKit.callS X C.x (y := y) C.o (mvT C.z w1) (mvT C.z w2) (mvT C.z w3) (mvT C.z w4) hy (backOf (R := W.R) (W := (S.map fun v => v.category).sum) (Q := fun v h' L => Q' v h' ∧ (∀ y ∈ L, y.base ∈ ws ∨ h.size ≤ y.base) ∧ Keep h h' ws) M.keeps C.z w4 w3 (by rw [C.r]; exact hf) (by rw [C.r]; exact hl)) (g := mkF W.m pc L (as.reverse ++ S)) rfl (by rw [C.ml]; exact hL) (argsL := as) (rest := S) hlen rfl (by show 2 * 0 + _ ≤ _; omega) (C.b hd) (fun _ _ => ⟨rfl, e, by rw [C.r]; exact hc, by rw [C.r]; exact hs⟩)
  dsimp only [Pt.U, Pt.locs, Pt.cells, Pt.slots] at X' l1 y1 z1 st hQ hK
  subst l1 y1 z1
  exact Out.st st (g v T'.heap hQ hK T' ⟨_, X', rfl, post_call (T' := T') (k' := 0) (n' := 0) X e N hws hL2⟩)
theorem g_special (C : Cx W Z R own code mx ret nm wsx hx0) {i : Nat} {y : MethodName} {bytes : ByteArray} {mx' : Nat} {rm : Room} {as : List Value} {ws : List Addr} {Q' : Option Value → Heap → Prop} {S0 : List Value} {a : Addr} (hd : decode code pc = .ok (.invokespecial i, 3)) (hp : pc + 3 = pc') (hy1 : y.name = "<init>")
    (w1 : (Jvm.Cond.methodLink own i y).before a0 Z = true) (w2 : (Jvm.Cond.instanceMethod y).before a0 Z = true) (w3 : (Jvm.Cond.initialized y.cls).before a0 Z = true) (w4 : (Jvm.Cond.code y bytes mx' none).before a0 Z = true) (hy : y.cls ≠ "java/lang/invoke/MethodHandle" ∧ y.cls ≠ "java/lang/invoke/VarHandle")
    (hlen : ∀ sig, parseMethodDescriptor y.desc = some sig → as.length = sig.parameters.length) (M : Con W.l Z [] y bytes mx' none rm (.ref a :: as).toArray h ws Q') (hS : S0 = as.reverse ++ .ref a :: S) (hL : L.size = mx) (hf : rm.frames + 1 ≤ R.frames) (hl : (S.map fun v => v.category).sum + (mx' + 11) + rm.locals ≤ R.locals) {k' n' : Nat} (hk : k + rm.cells = k') (hn : n + rm.slots = n') (hc : k' ≤ R.cells) (hs : n' ≤ R.slots) (hws : ∀ a ∈ ws, Pw W a)
    (g : ∀ v h', Q' v h' → Keep h h' ws → Go W Q h' k' n' pc' L (v.toList ++ S)) : Go W Q h k n pc L S0 := fun T hT => by
  obtain ⟨locs, X, e, N⟩ := hT
  subst hp hS hk hn
  obtain ⟨v, _, ⟨T', L1, k1, n1⟩, -, X', ⟨L2, ⟨hQ, hL2, hK⟩, l1, y1, z1⟩, st⟩ := X.specialBack C.x (y := y) hy1 C.o (mvT C.z w1) (mvT C.z w2) (mvT C.z w4) hy (backOf (R := W.R) (W := (S.map fun v => v.category).sum) (Q := fun v h' L => Q' v h' ∧ (∀ y ∈ L, y.base ∈ ws ∨ h.size ≤ y.base) ∧ Keep h h' ws) M.keeps C.z w4 w3 (by rw [C.r]; exact hf) (by rw [C.r]; exact hl)) (g := mkF W.m pc L (as.reverse ++ .ref a :: S)) rfl (by rw [C.ml]; exact hL) (Steps.refl _) (a := a) (argsL := as) (rest := S) hlen rfl (by show 2 * 0 + _ ≤ _; omega) (C.b hd) (fun _ _ => ⟨rfl, e, by rw [C.r]; exact hc, by rw [C.r]; exact hs⟩)
  dsimp only [Pt.U, Pt.locs, Pt.cells, Pt.slots] at X' l1 y1 z1 st hQ hK
  subst l1 y1 z1
  exact Out.st (fun t z => st.trans z) (g v T'.heap hQ hK T' ⟨_, X', rfl, post_call (T' := T') (k' := 0) (n' := 0) X e N hws hL2⟩)
theorem g_virtual (C : Cx W Z R own code mx ret nm wsx hx0) {i : Nat} {y : MethodName} {bytes : ByteArray} {mx' : Nat} {ret' : Option FieldType} {rm : Room} {as : List Value} {ws : List Addr} {Q' : Option Value → Heap → Prop} {S0 : List Value} {a : Addr} {Cl : String} (hd : decode code pc = .ok (.invokevirtual i, 3)) (hp : pc + 3 = pc')
    (w1 : (Jvm.Cond.methodLink own i y).before a0 Z = true) (w2 : (Jvm.Cond.instanceMethod y).before a0 Z = true) (w3 : (Jvm.Cond.initialized y.cls).before a0 Z = true) (w4 : (Jvm.Cond.code y bytes mx' ret').before a0 Z = true) (w5 : (Jvm.Cond.declares y).before a0 Z = true) (w6 : (Jvm.Cond.selects Cl y y).before a0 Z = true) (hy : y.cls ≠ "java/lang/invoke/MethodHandle" ∧ y.cls ≠ "java/lang/invoke/VarHandle") (hE : Exa Z h a Cl)
    (hlen : ∀ sig, parseMethodDescriptor y.desc = some sig → as.length = sig.parameters.length) (M : Con W.l Z [] y bytes mx' ret' rm (.ref a :: as).toArray h ws Q') (hS : S0 = as.reverse ++ .ref a :: S) (hL : L.size = mx) (hf : rm.frames + 1 ≤ R.frames) (hl : (S.map fun v => v.category).sum + (mx' + 11) + rm.locals ≤ R.locals) {k' n' : Nat} (hk : k + rm.cells = k') (hn : n + rm.slots = n') (hc : k' ≤ R.cells) (hs : n' ≤ R.slots) (hws : ∀ a ∈ ws, Pw W a)
    (g : ∀ v h', Q' v h' → Keep h h' ws → Go W Q h' k' n' pc' L (v.toList ++ S)) : Go W Q h k n pc L S0 := fun T hT => by
  obtain ⟨locs, X, e, N⟩ := hT
  subst hp hS hk hn
  obtain ⟨cq, kq, qa, qb, qc⟩ := isOf C.z e hE
  obtain ⟨v, _, ⟨T', L1, k1, n1⟩, -, X', ⟨L2, ⟨hQ, hL2, hK⟩, l1, y1, z1⟩, st⟩ := X.virtualBack C.x (y := y) (z := y) C.o (mvT C.z w1) (mvT C.z w5) (notFace_of_selects (args := #[]) (mvT C.z w6)) (mvT C.z w6) (mvT C.z w2) hy (backOf (R := W.R) (W := (S.map fun v => v.category).sum) (Q := fun v h' L => Q' v h' ∧ (∀ y ∈ L, y.base ∈ ws ∨ h.size ≤ y.base) ∧ Keep h h' ws) M.keeps C.z w4 w3 (by rw [C.r]; exact hf) (by rw [C.r]; exact hl)) qa qc (g := mkF W.m pc L (as.reverse ++ .ref a :: S)) rfl (by rw [C.ml]; exact hL) (Steps.refl _) (argsL := as) (rest := S) hlen rfl (by show 2 * 0 + _ ≤ _; omega) (C.b hd) (fun _ _ => ⟨rfl, e, by rw [C.r]; exact hc, by rw [C.r]; exact hs⟩)
  dsimp only [Pt.U, Pt.locs, Pt.cells, Pt.slots] at X' l1 y1 z1 st hQ hK
  subst l1 y1 z1
  exact Out.st (fun t z => st.trans z) (g v T'.heap hQ hK T' ⟨_, X', rfl, post_call (T' := T') (k' := 0) (n' := 0) X e N hws hL2⟩)
/-- a private method -/
theorem g_private (C : Cx W Z R own code mx ret nm wsx hx0) {i : Nat} {y : MethodName} {bytes : ByteArray} {mx' : Nat} {ret' : Option FieldType} {rm : Room} {as : List Value} {ws : List Addr} {Q' : Option Value → Heap → Prop} {S0 : List Value} {a : Addr} {Cl : String} {nI : Nat} (hd : decode code pc = .ok (.invokevirtual i, 3)) (hp : pc + 3 = pc')
    (w1 : (Jvm.Cond.methodLink own i y).before a0 Z = true) (w2 : (Jvm.Cond.instanceMethod y).before a0 Z = true) (w3 : (Jvm.Cond.initialized y.cls).before a0 Z = true) (w4 : (Jvm.Cond.code y bytes mx' ret').before a0 Z = true) (w5 : (Jvm.Cond.privateMethod y).before a0 Z = true) (w6 : (Jvm.Cond.instantiable y.cls nI).before a0 Z = true) (hy : y.cls ≠ "java/lang/invoke/MethodHandle" ∧ y.cls ≠ "java/lang/invoke/VarHandle") (hE : Exa Z h a Cl)
    (hlen : ∀ sig, parseMethodDescriptor y.desc = some sig → as.length = sig.parameters.length) (M : Con W.l Z [] y bytes mx' ret' rm (.ref a :: as).toArray h ws Q') (hS : S0 = as.reverse ++ .ref a :: S) (hL : L.size = mx) (hf : rm.frames + 1 ≤ R.frames) (hl : (S.map fun v => v.category).sum + (mx' + 11) + rm.locals ≤ R.locals) {k' n' : Nat} (hk : k + rm.cells = k') (hn : n + rm.slots = n') (hc : k' ≤ R.cells) (hs : n' ≤ R.slots) (hws : ∀ a ∈ ws, Pw W a)
    (g : ∀ v h', Q' v h' → Keep h h' ws → Go W Q h' k' n' pc' L (v.toList ++ S)) : Go W Q h k n pc L S0 := fun T hT => by
  obtain ⟨locs, X, e, N⟩ := hT
  subst hp hS hk hn
  obtain ⟨cq, kq, qa, qb, cellq, qc1, qc2, qc3⟩ := isOf C.z e hE
  obtain ⟨cI, kI, i1, i2, -, i4, -⟩ := Cond.instantiable_spec (args := #[]) (idx := []) (mvT C.z w6)
  have hP := Cond.privateMethod_at (args := #[]) (mvT C.z w5)
  obtain ⟨v, _, ⟨T', L1, k1, n1⟩, -, X', ⟨L2, ⟨hQ, hL2, hK⟩, l1, y1, z1⟩, st⟩ := X.privateBack C.x (y := y) C.o (mvT C.z w1) (mvT C.z w2) (Stand.selects_self_of_private i1 i2 (Bool.or_eq_false_iff.mp i4).1 hP (mvT C.z w2) hy) hP (mvT C.z w4) hy (backOf (R := W.R) (W := (S.map fun v => v.category).sum) (Q := fun v h' L => Q' v h' ∧ (∀ y ∈ L, y.base ∈ ws ∨ h.size ≤ y.base) ∧ Keep h h' ws) M.keeps C.z w4 w3 (by rw [C.r]; exact hf) (by rw [C.r]; exact hl)) (g := mkF W.m pc L (as.reverse ++ .ref a :: S)) rfl (by rw [C.ml]; exact hL) (Steps.refl _) qc1 (fun q c => by rw [c] at qc3; cases qc3) (argsL := as) (rest := S) hlen rfl (by show 2 * 0 + _ ≤ _; omega) (C.b hd) (fun _ _ => ⟨rfl, e, by rw [C.r]; exact hc, by rw [C.r]; exact hs⟩)
  dsimp only [Pt.U, Pt.locs, Pt.cells, Pt.slots] at X' l1 y1 z1 st hQ hK
  subst l1 y1 z1
  exact Out.st (fun t z => st.trans z) (g v T'.heap hQ hK T' ⟨_, X', rfl, post_call (T' := T') (k' := 0) (n' := 0) X e N hws hL2⟩)
theorem g_staticP (C : Cx W Z R own code mx ret nm wsx hx0) {i : Nat} {y : MethodName} {bytes : ByteArray} {mx' : Nat} {ret' : Option FieldType} {rm : Room} {as : List Value} {r : Option Value} {S0 S1 : List Value} (hd : decode code pc = .ok (.invokestatic i, 3)) (hp : pc + 3 = pc')
    (w1 : (Jvm.Cond.methodLink own i y).before a0 Z = true) (w2 : (Jvm.Cond.static y).before a0 Z = true) (w3 : (Jvm.Cond.initialized y.cls).before a0 Z = true) (w4 : (Jvm.Cond.code y bytes mx' ret').before a0 Z = true) (hy : y.cls ≠ "java/lang/invoke/MethodHandle" ∧ y.cls ≠ "java/lang/invoke/VarHandle")
    (hlen : ∀ sig, parseMethodDescriptor y.desc = some sig → as.length = sig.parameters.length) (M : Con W.l Z [] y bytes mx' ret' rm as.toArray h [] (fun v h' => v = r ∧ h' = h)) (hS : S0 = as.reverse ++ S) (hL : L.size = mx) (hf : rm.frames + 1 ≤ R.frames) (hl : (S.map fun v => v.category).sum + (mx' + 11) + rm.locals ≤ R.locals) {k' n' : Nat} (hk : k + rm.cells = k') (hn : n + rm.slots = n') (hc : k' ≤ R.cells) (hs : n' ≤ R.slots) (hS1 : r.toList ++ S = S1)
    (g : Go W Q h k' n' pc' L S1) : Go W Q h k n pc L S0 :=
  g_static C hd hp w1 w2 w3 w4 hy hlen M hS hL hf hl hk hn hc hs all0 fun v h' q K => by
    obtain ⟨rfl, rfl⟩ := q
    rw [hS1]; exact g
theorem g_virtualP (C : Cx W Z R own code mx ret nm wsx hx0) {i : Nat} {y : MethodName} {bytes : ByteArray} {mx' : Nat} {ret' : Option FieldType} {rm : Room} {as : List Value} {r : Option Value} {S0 S1 : List Value} {a : Addr} {Cl : String} (hd : decode code pc = .ok (.invokevirtual i, 3)) (hp : pc + 3 = pc')
    (w1 : (Jvm.Cond.methodLink own i y).before a0 Z = true) (w2 : (Jvm.Cond.instanceMethod y).before a0 Z = true) (w3 : (Jvm.Cond.initialized y.cls).before a0 Z = true) (w4 : (Jvm.Cond.code y bytes mx' ret').before a0 Z = true) (w5 : (Jvm.Cond.declares y).before a0 Z = true) (w6 : (Jvm.Cond.selects Cl y y).before a0 Z = true) (hy : y.cls ≠ "java/lang/invoke/MethodHandle" ∧ y.cls ≠ "java/lang/invoke/VarHandle") (hE : Exa Z h a Cl)
    (hlen : ∀ sig, parseMethodDescriptor y.desc = some sig → as.length = sig.parameters.length) (M : Con W.l Z [] y bytes mx' ret' rm (.ref a :: as).toArray h [] (fun v h' => v = r ∧ h' = h)) (hS : S0 = as.reverse ++ .ref a :: S) (hL : L.size = mx) (hf : rm.frames + 1 ≤ R.frames) (hl : (S.map fun v => v.category).sum + (mx' + 11) + rm.locals ≤ R.locals) {k' n' : Nat} (hk : k + rm.cells = k') (hn : n + rm.slots = n') (hc : k' ≤ R.cells) (hs : n' ≤ R.slots) (hS1 : r.toList ++ S = S1)
    (g : Go W Q h k' n' pc' L S1) : Go W Q h k n pc L S0 :=
  g_virtual C hd hp w1 w2 w3 w4 w5 w6 hy hE hlen M hS hL hf hl hk hn hc hs all0 fun v h' q K => by
    obtain ⟨rfl, rfl⟩ := q
    rw [hS1]; exact g
theorem g_privateP (C : Cx W Z R own code mx ret nm wsx hx0) {i : Nat} {y : MethodName} {bytes : ByteArray} {mx' : Nat} {ret' : Option FieldType} {rm : Room} {as : List Value} {r : Option Value} {S0 S1 : List Value} {a : Addr} {Cl : String} {nI : Nat} (hd : decode code pc = .ok (.invokevirtual i, 3)) (hp : pc + 3 = pc')
    (w1 : (Jvm.Cond.methodLink own i y).before a0 Z = true) (w2 : (Jvm.Cond.instanceMethod y).before a0 Z = true) (w3 : (Jvm.Cond.initialized y.cls).before a0 Z = true) (w4 : (Jvm.Cond.code y bytes mx' ret').before a0 Z = true) (w5 : (Jvm.Cond.privateMethod y).before a0 Z = true) (w6 : (Jvm.Cond.instantiable y.cls nI).before a0 Z = true) (hy : y.cls ≠ "java/lang/invoke/MethodHandle" ∧ y.cls ≠ "java/lang/invoke/VarHandle") (hE : Exa Z h a Cl)
    (hlen : ∀ sig, parseMethodDescriptor y.desc = some sig → as.length = sig.parameters.length) (M : Con W.l Z [] y bytes mx' ret' rm (.ref a :: as).toArray h [] (fun v h' => v = r ∧ h' = h)) (hS : S0 = as.reverse ++ .ref a :: S) (hL : L.size = mx) (hf : rm.frames + 1 ≤ R.frames) (hl : (S.map fun v => v.category).sum + (mx' + 11) + rm.locals ≤ R.locals) {k' n' : Nat} (hk : k + rm.cells = k') (hn : n + rm.slots = n') (hc : k' ≤ R.cells) (hs : n' ≤ R.slots) (hS1 : r.toList ++ S = S1)
    (g : Go W Q h k' n' pc' L S1) : Go W Q h k n pc L S0 :=
  g_private C hd hp w1 w2 w3 w4 w5 w6 hy hE hlen M hS hL hf hl hk hn hc hs all0 fun v h' q K => by
    obtain ⟨rfl, rfl⟩ := q
    rw [hS1]; exact g
theorem g_nameI {x : Int32} (g : ∀ z : Int32, z = x → Go W Q h k n pc L (.int z :: S)) : Go W Q h k n pc L (.int x :: S) := g x rfl
theorem g_nameJ {x : Int64} (g : ∀ z : Int64, z = x → Go W Q h k n pc L (.long z :: S)) : Go W Q h k n pc L (.long x :: S) := g x rfl
/-! a body's contract out of its walk -/
theorem locals_of {as : List Value} {mx0 : Nat} {Ls : List Slot} (h : (as.flatMap fun v => if v.category = 2 then [.val v, .second] else [.val v]) ++ List.replicate (mx0 - (as.flatMap fun v => if v.category = 2 then [.val v, .second] else [Slot.val v]).length) .unset = Ls) : argsToLocals as.toArray mx0 = Ls.toArray := by
  have e : ∀ (l : List Value) (acc : Array Slot), (l.foldl (fun acc v => if v.category = 2 then (acc.push (.val v)).push .second else acc.push (.val v)) acc) = acc ++ (l.flatMap fun v => if v.category = 2 then [.val v, .second] else [Slot.val v]).toArray := by
    intro l
    induction l with
    | nil => intro acc; simp
    | cons v l ih =>
      intro acc
      rw [List.foldl_cons, ih, List.flatMap_cons]
      split <;> simp
  subst h
  simp only [argsToLocals, List.foldl_toArray', e]
  simp
theorem Con.of_go {l : Launch} {w0 : List Jvm.Cond} {y : MethodName} {bytes : ByteArray} {ret' : Option FieldType} {rm : Room} {as : Array Value} {ws : List Addr} {Q' : Option Value → Heap → Prop} {mx' : Nat} {L0 : Array Slot} (hpl : plainFor y = true) (hL : argsToLocals as mx' = L0)
    (body : ∀ (W : Wk) (Q : Option Value → Heap → Prop), Q = Q' → W.l = l → Cx W Z rm y.cls bytes mx' ret' y.name ws h → Go W Q h 0 0 0 L0 []) : Con l Z w0 y bytes mx' ret' rm as h ws Q' := by
  refine MetFree.of_bodySF hpl hisR ?_
  intro p e s m args below meth c s₁ Bd hml0 hP hK
  obtain ⟨rfl, hZ, rfl⟩ := hP
  subst hL
  have X0 : Stand p l e rm s m args below meth c s₁ [] 0 0 := Stand.of_body Bd
  have e0 : s₁.heap = s.heap := by rw [Bd.state]; rfl
  obtain ⟨s2, o, h1, h2, h3, v, L, h4, ⟨h5, h6⟩, h7⟩ := body (p, l, e, rm, s, m, args, below, meth, c, ws) _ rfl rfl ⟨Bd.exec, hZ, findClass_of_methodNamed Bd.named, Bd.bytes, hml0, Bd.returns, Bd.notSynchronized, (name_of_methodNamed Bd.named Bd.method).1, rfl, rfl, rfl⟩ s₁ ⟨[], X0, e0, fun _ q => nomatch q⟩
  exact ⟨s2, o, h1, h2, h3, v, L, h4, ⟨h5, h6⟩, h7⟩
end Steps0
end Jvm.OwnKit
namespace Jvm.OwnKit
open Jvm.RoadKit
abbrev U (x : Int64) : Nat := x.toBitVec.toNat
theorem U_inj {x y : Int64} (h : U x = U y) : x = y := Int64.toBitVec_inj.mp (BitVec.eq_of_toNat_eq h)
theorem U_or (x y : Int64) : U (x ||| y) = U x ||| U y := by unfold U; rw [Int64.toBitVec_or, BitVec.toNat_or]
theorem U_shl (x : Int64) (b : Int64) (k : Nat) (hk : (b.toBitVec.smod 64).toNat = k) : U (x <<< b) = (U x * 2 ^ k) % 2 ^ 64 := by
  unfold U; rw [Int64.toBitVec_shiftLeft]
  show (x.toBitVec <<< (b.toBitVec.smod 64).toNat).toNat = _
  rw [hk, BitVec.toNat_shiftLeft, Nat.shiftLeft_eq]
theorem U_ushr (x : Int64) (b : UInt64) (k : Nat) (hk : b.toNat % 64 = k) : U ((x.toUInt64 >>> b).toInt64) = U x / 2 ^ k := by
  show (x.toUInt64 >>> b).toBitVec.toNat = _
  rw [UInt64.toBitVec_shiftRight]
  show (x.toUInt64.toBitVec >>> (b.toBitVec % 64).toNat).toNat = _
  rw [BitVec.toNat_ushiftRight, Nat.shiftRight_eq_div_pow, BitVec.toNat_umod]
  have : b.toBitVec.toNat % (64 : BitVec 64).toNat = k := hk
  rw [this]; rfl
theorem U_i2l {i : Int32} {n : Nat} (h : i.toInt = n) : U i.toInt64 = n := by
  have e : i.toInt64.toInt = n := (Int32.toInt_toInt64 i).trans h
  have l := i.toInt_lt
  have e2 : i.toInt64.toBitVec.toInt = n := e
  rw [BitVec.toInt_eq_toNat_cond] at e2
  have := i.toInt64.toBitVec.isLt
  show i.toInt64.toBitVec.toNat = n
  split at e2 <;> omega
theorem toInt_U (x : Int64) : (x.toInt - (U x : Int)) % 18446744073709551616 = 0 := by
  show (x.toBitVec.toInt - (x.toBitVec.toNat : Int)) % 18446744073709551616 = 0
  rw [BitVec.toInt_eq_toNat_cond]
  split <;> omega
def vlen (V : Nat) : Nat := if V < 128 then 1 else if V < 16384 then 2 else if V < 2097152 then 3 else if V < 268435456 then 4 else if V < 34359738368 then 5 else if V < 4398046511104 then 6 else if V < 562949953421312 then 7 else if V < 72057594037927936 then 8 else if V < 9223372036854775808 then 9 else 10
theorem vlen_of {V m : Nat} (h : m = 1 ∧ V < 128 ∨ m = 2 ∧ 128 ≤ V ∧ V < 16384 ∨ m = 3 ∧ 16384 ≤ V ∧ V < 2097152 ∨ m = 4 ∧ 2097152 ≤ V ∧ V < 268435456 ∨ m = 5 ∧ 268435456 ≤ V ∧ V < 34359738368 ∨ m = 6 ∧ 34359738368 ≤ V ∧ V < 4398046511104 ∨ m = 7 ∧ 4398046511104 ≤ V ∧ V < 562949953421312 ∨ m = 8 ∧ 562949953421312 ≤ V ∧ V < 72057594037927936 ∨ m = 9 ∧ 72057594037927936 ≤ V ∧ V < 9223372036854775808 ∨ m = 10 ∧ 9223372036854775808 ≤ V) : vlen V = m := by
  unfold vlen
  repeat' split
  all_goals omega
theorem vlen_cases (V : Nat) : vlen V = 1 ∧ V < 128 ∨ vlen V = 2 ∧ 128 ≤ V ∧ V < 16384 ∨ vlen V = 3 ∧ 16384 ≤ V ∧ V < 2097152 ∨ vlen V = 4 ∧ 2097152 ≤ V ∧ V < 268435456 ∨ vlen V = 5 ∧ 268435456 ≤ V ∧ V < 34359738368 ∨ vlen V = 6 ∧ 34359738368 ≤ V ∧ V < 4398046511104 ∨ vlen V = 7 ∧ 4398046511104 ≤ V ∧ V < 562949953421312 ∨ vlen V = 8 ∧ 562949953421312 ≤ V ∧ V < 72057594037927936 ∨ vlen V = 9 ∧ 72057594037927936 ≤ V ∧ V < 9223372036854775808 ∨ vlen V = 10 ∧ 9223372036854775808 ≤ V := by
  unfold vlen
  repeat' split
  all_goals omega
theorem vlen_rng (V : Nat) : 1 ≤ vlen V ∧ vlen V ≤ 10 := by
  have := vlen_cases V
  omega
theorem ten {i : Nat} (h : i < 10) : i = 0 ∨ i = 1 ∨ i = 2 ∨ i = 3 ∨ i = 4 ∨ i = 5 ∨ i = 6 ∨ i = 7 ∨ i = 8 ∨ i = 9 := by omega
theorem vlen_last {V i : Nat} (hV : V < 2 ^ 64) (hi : i < vlen V) : V / 128 ^ i < 128 ↔ i + 1 = vlen V := by
  have c := vlen_cases V
  rcases ten (i := i) (by omega) with rfl | rfl | rfl | rfl | rfl | rfl | rfl | rfl | rfl | rfl <;> omega
theorem vlen_lt {V : Nat} (hV : V < 2 ^ 64) : V < 128 ^ vlen V := by
  rcases vlen_cases V with ⟨e, h⟩ | ⟨e, h⟩ | ⟨e, h⟩ | ⟨e, h⟩ | ⟨e, h⟩ | ⟨e, h⟩ | ⟨e, h⟩ | ⟨e, h⟩ | ⟨e, h⟩ | ⟨e, h⟩ <;> rw [e] <;> omega
def byteAt (V i : Nat) : Int := (V / 128 ^ i % 128 : Nat) - (if i + 1 = vlen V then 0 else 128)
theorem byteAt_last {V i : Nat} (h : i + 1 = vlen V) : byteAt V i = (V / 128 ^ i % 128 : Nat) := by
  unfold byteAt; rw [if_pos h]; omega
theorem byteAt_more {V i : Nat} (h : ¬ i + 1 = vlen V) : byteAt V i = (V / 128 ^ i % 128 : Nat) - 128 := by
  unfold byteAt; rw [if_neg h]
theorem U_and127 (x : Int64) : U (x &&& 127) = U x % 128 := by
  unfold U; rw [Int64.toBitVec_and, BitVec.toNat_and]
  exact Nat.and_two_pow_sub_one_eq_mod _ 7
theorem and_hi (x : Int64) : (x &&& (-128)).toInt = 0 ↔ U x < 128 := by
  have e : U (x &&& (-128)) = U x / 128 * 128 := by
    unfold U; rw [Int64.toBitVec_and, BitVec.toNat_and]
    have hx := x.toBitVec.isLt
    generalize x.toBitVec.toNat = n at hx
    show n &&& (2 ^ 64 - 128) = n / 128 * 128
    have a : n / 128 * 128 = (n >>> 7) <<< 7 := by rw [Nat.shiftRight_eq_div_pow, Nat.shiftLeft_eq]
    have b : (2 : Nat) ^ 64 - 128 = (2 ^ 57 - 1) <<< 7 := by decide
    rw [a, b]
    apply Nat.eq_of_testBit_eq
    intro j
    rw [Nat.testBit_and, Nat.testBit_shiftLeft, Nat.testBit_shiftLeft, Nat.testBit_shiftRight, Nat.testBit_two_pow_sub_one]
    by_cases q : 7 ≤ j
    · rw [decide_eq_true q, show 7 + (j - 7) = j by omega]
      by_cases q2 : j < 64
      · rw [decide_eq_true (show j - 7 < 57 by omega)]; simp
      · have : n.testBit j = false := Nat.testBit_lt_two_pow (Nat.lt_of_lt_of_le hx (Nat.pow_le_pow_right (by decide) (by omega)))
        rw [this]; simp
    · rw [decide_eq_false q]; simp
  have z := toInt_U (x &&& (-128))
  have y : U (x &&& (-128)) < 2 ^ 64 := (x &&& (-128)).toBitVec.isLt
  have l := (x &&& (-128)).toInt_lt
  have m := (x &&& (-128)).le_toInt
  constructor
  · intro q; omega
  · intro q; omega
theorem U_div7 {r : Int64} {V i : Nat} (h : U r = V / 128 ^ i) : U ((r.toUInt64 >>> ((7 : Int32) &&& 0x3f).toInt64.toUInt64).toInt64) = V / 128 ^ (i + 1) := by
  rw [U_ushr _ _ 7 (by decide), h, Nat.div_div_eq_div_mul, show (2 : Nat) ^ 7 = 128 from rfl, ← Nat.pow_succ]
theorem more_byte (r : Int64) : (nar .byte ((r &&& 127) ||| 128).toInt32.toInt8.toInt32).toInt = (U r % 128 : Nat) - 128 := by
  show (((r &&& 127) ||| 128).toInt32.toInt8.toInt32.toInt8.toInt32).toInt = _
  have e : U ((r &&& 127) ||| 128) = U r % 128 + 128 := by
    rw [U_or, U_and127]
    have := Nat.two_pow_add_eq_or_of_lt (i := 7) (b := U r % 128) (by omega) 1
    rw [Nat.or_comm]
    have e2 : U (128 : Int64) = 2 ^ 7 * 1 := rfl
    rw [e2, ← this]; omega
  have a1 := c_i2b ((r &&& 127) ||| 128).toInt32
  have a2 := c_i2b ((r &&& 127) ||| 128).toInt32.toInt8.toInt32
  have a3 := c_l2i ((r &&& 127) ||| 128)
  have a4 := toInt_U ((r &&& 127) ||| 128)
  omega
theorem last_byte {r : Int64} (h : U r < 128) : (nar .byte r.toInt32.toInt8.toInt32).toInt = (U r : Nat) := by
  show (r.toInt32.toInt8.toInt32.toInt8.toInt32).toInt = _
  have a1 := c_i2b r.toInt32
  have a2 := c_i2b r.toInt32.toInt8.toInt32
  have a3 := c_l2i r
  have a4 := toInt_U r
  omega
def Wrt (vs ws : List Value) (V o i : Nat) : Prop := ws.length = 256 ∧ (∀ j, j < o → ws[j]? = vs[j]?) ∧ ∀ k, k < i → ∃ x : Int32, ws[o + k]? = some (.int x) ∧ x.toInt = byteAt V k
theorem Wrt.step {vs ws : List Value} {V o i : Nat} {x : Int32} (P : Wrt vs ws V o i) (hi : o + i < 256) (hx : x.toInt = byteAt V i) : Wrt vs (ws.set (o + i) (.int x)) V o (i + 1) := by
  obtain ⟨l, p, q⟩ := P
  refine ⟨by rw [List.length_set]; exact l, fun j hj => ?_, fun k hk => ?_⟩
  · rw [List.getElem?_set_ne (by omega)]; exact p j hj
  · by_cases e : k = i
    · subst e; exact ⟨x, List.getElem?_set_self (by omega), hx⟩
    · rw [List.getElem?_set_ne (by omega)]; exact q k (by omega)
theorem rd_step {j : Int64} {x s : Int32} {V i : Nat} (hV : V < 2 ^ 64) (hi : i < 10) (hj : U j = V % 128 ^ i) (hx : x.toInt = byteAt V i) (hs : s.toInt = 7 * i) : U (j ||| ((x &&& 127).toInt64 <<< (s &&& 0x3f).toInt64)) = V % 128 ^ (i + 1) := by
  have hm : (x &&& 127).toInt = (V / 128 ^ i % 128 : Nat) := by
    rw [c_mask x 127 7 (by decide) (by decide), hx]
    unfold byteAt
    split <;> omega
  have core : ∀ k : Nat, k = 7 * i → (((s &&& 0x3f).toInt64).toBitVec.smod 64).toNat = k → U (j ||| ((x &&& 127).toInt64 <<< (s &&& 0x3f).toInt64)) = V % 128 ^ (i + 1) := by
    intro k hk e
    rw [U_or, U_shl _ _ k e, U_i2l hm, hj]
    have p : (128 : Nat) ^ i = 2 ^ k := by rw [hk, Nat.pow_mul]
    rw [p]
    have lt : V / 2 ^ k % 128 * 2 ^ k < 2 ^ 64 := by
      have h1 : V / 2 ^ k * 2 ^ k ≤ V := Nat.div_mul_le_self _ _
      have h2 : V / 2 ^ k % 128 ≤ V / 2 ^ k := Nat.mod_le _ _
      have h3 := Nat.mul_le_mul_right (2 ^ k) h2
      omega
    rw [Nat.mod_eq_of_lt lt, Nat.or_comm, Nat.mul_comm, ← Nat.two_pow_add_eq_or_of_lt (Nat.mod_lt _ (Nat.two_pow_pos k)), Nat.pow_succ, p, Nat.mod_mul]
    omega
  have hb : s = 0 ∧ i = 0 ∨ s = 7 ∧ i = 1 ∨ s = 14 ∧ i = 2 ∨ s = 21 ∧ i = 3 ∨ s = 28 ∧ i = 4 ∨ s = 35 ∧ i = 5 ∨ s = 42 ∧ i = 6 ∨ s = 49 ∧ i = 7 ∨ s = 56 ∧ i = 8 ∨ s = 63 ∧ i = 9 := by
    have inj : ∀ n : Int32, n.toInt = 7 * i → s = n := fun n e => Int32.toInt_inj.mp (by omega)
    rcases ten hi with rfl | rfl | rfl | rfl | rfl | rfl | rfl | rfl | rfl | rfl
    · exact Or.inl ⟨inj 0 rfl, rfl⟩
    · exact Or.inr (Or.inl ⟨inj 7 rfl, rfl⟩)
    · exact Or.inr (Or.inr (Or.inl ⟨inj 14 rfl, rfl⟩))
    · exact Or.inr (Or.inr (Or.inr (Or.inl ⟨inj 21 rfl, rfl⟩)))
    · exact Or.inr (Or.inr (Or.inr (Or.inr (Or.inl ⟨inj 28 rfl, rfl⟩))))
    · exact Or.inr (Or.inr (Or.inr (Or.inr (Or.inr (Or.inl ⟨inj 35 rfl, rfl⟩)))))
    · exact Or.inr (Or.inr (Or.inr (Or.inr (Or.inr (Or.inr (Or.inl ⟨inj 42 rfl, rfl⟩))))))
    · exact Or.inr (Or.inr (Or.inr (Or.inr (Or.inr (Or.inr (Or.inr (Or.inl ⟨inj 49 rfl, rfl⟩)))))))
    · exact Or.inr (Or.inr (Or.inr (Or.inr (Or.inr (Or.inr (Or.inr (Or.inr (Or.inl ⟨inj 56 rfl, rfl⟩))))))))
    · exact Or.inr (Or.inr (Or.inr (Or.inr (Or.inr (Or.inr (Or.inr (Or.inr (Or.inr ⟨inj 63 rfl, rfl⟩))))))))
  rcases hb with ⟨rfl, e⟩ | ⟨rfl, e⟩ | ⟨rfl, e⟩ | ⟨rfl, e⟩ | ⟨rfl, e⟩ | ⟨rfl, e⟩ | ⟨rfl, e⟩ | ⟨rfl, e⟩ | ⟨rfl, e⟩ | ⟨rfl, e⟩ <;> exact core _ (by rw [e]) (by decide)
theorem st_u {a : Addr} {j : Int64} {s x : Int32} {u : Slot} (hu : u = .unset ∨ ∃ y, u = .val (.int y)) : storeLocals #[.val (.ref a), .val (.long j), .second, .val (.int s), u] 4 (.int x) = some #[.val (.ref a), .val (.long j), .second, .val (.int s), .val (.int x)] := by
  rcases hu with rfl | ⟨y, rfl⟩ <;> rfl
end Jvm.OwnKit
namespace Jvm.Pilot.@@N@@
open Jvm Jvm.ClassFile Sem Op Lib Jvm.Free Jvm.Stand Jvm.LawKit Jvm.RoadKit Jvm.OwnKit Bundle Jvm.Pilot.@@N@@.Jvm.D
theorem pd_0 : parseMethodDescriptor "(I)V" = some ⟨[.int], none⟩ := by decide +kernel
theorem pd_1 : parseMethodDescriptor "()V" = some ⟨[], none⟩ := by decide +kernel
theorem pd_2 : parseMethodDescriptor "(J)V" = some ⟨[.long], none⟩ := by decide +kernel
theorem pd_3 : parseMethodDescriptor "()I" = some ⟨[], some .int⟩ := by decide +kernel
theorem pd_4 : parseMethodDescriptor "()[B" = some ⟨[], some (.array .byte)⟩ := by decide +kernel
theorem pd_5 : parseMethodDescriptor "([BI)V" = some ⟨[(.array .byte), .int], none⟩ := by decide +kernel
theorem pd_6 : parseMethodDescriptor "()J" = some ⟨[], some .long⟩ := by decide +kernel
theorem pd_7 : parseMethodDescriptor "(J)I" = some ⟨[.long], some .int⟩ := by decide +kernel
theorem d1_0 : decode prog_83_method_1_code 0 = .ok (.aload_n 0, 1) := by decide +kernel
theorem d1_1 : decode prog_83_method_1_code 1 = .ok (.invokespecial 1, 3) := by decide +kernel
theorem d1_4 : decode prog_83_method_1_code 4 = .ok (.aload_n 0, 1) := by decide +kernel
theorem d1_5 : decode prog_83_method_1_code 5 = .ok (.sipush 256, 3) := by decide +kernel
theorem d1_8 : decode prog_83_method_1_code 8 = .ok (.newarray .byte, 2) := by decide +kernel
theorem d1_10 : decode prog_83_method_1_code 10 = .ok (.putfield 7, 3) := by decide +kernel
theorem d1_13 : decode prog_83_method_1_code 13 = .ok (.return_, 1) := by decide +kernel
theorem d3_0 : decode prog_83_method_5_code 0 = .ok (.aload_n 0, 1) := by decide +kernel
theorem d3_1 : decode prog_83_method_5_code 1 = .ok (.bipush 10, 2) := by decide +kernel
theorem d3_3 : decode prog_83_method_5_code 3 = .ok (.invokevirtual 17, 3) := by decide +kernel
theorem d3_6 : decode prog_83_method_5_code 6 = .ok (.lload_n 1, 1) := by decide +kernel
theorem d3_7 : decode prog_83_method_5_code 7 = .ok (.lstore_n 3, 1) := by decide +kernel
theorem d3_8 : decode prog_83_method_5_code 8 = .ok (.lload_n 3, 1) := by decide +kernel
theorem d3_9 : decode prog_83_method_5_code 9 = .ok (.ldc2_w 21, 3) := by decide +kernel
theorem d3_12 : decode prog_83_method_5_code 12 = .ok (.land, 1) := by decide +kernel
theorem d3_13 : decode prog_83_method_5_code 13 = .ok (.lconst 0, 1) := by decide +kernel
theorem d3_14 : decode prog_83_method_5_code 14 = .ok (.lcmp, 1) := by decide +kernel
theorem d3_15 : decode prog_83_method_5_code 15 = .ok (.ifCond .eq 38, 3) := by decide +kernel
theorem d3_18 : decode prog_83_method_5_code 18 = .ok (.aload_n 0, 1) := by decide +kernel
theorem d3_19 : decode prog_83_method_5_code 19 = .ok (.getfield 7, 3) := by decide +kernel
theorem d3_22 : decode prog_83_method_5_code 22 = .ok (.aload_n 0, 1) := by decide +kernel
theorem d3_23 : decode prog_83_method_5_code 23 = .ok (.dup, 1) := by decide +kernel
theorem d3_24 : decode prog_83_method_5_code 24 = .ok (.getfield 13, 3) := by decide +kernel
theorem d3_27 : decode prog_83_method_5_code 27 = .ok (.dup_x1, 1) := by decide +kernel
theorem d3_28 : decode prog_83_method_5_code 28 = .ok (.iconst 1, 1) := by decide +kernel
theorem d3_29 : decode prog_83_method_5_code 29 = .ok (.iadd, 1) := by decide +kernel
theorem d3_30 : decode prog_83_method_5_code 30 = .ok (.putfield 13, 3) := by decide +kernel
theorem d3_33 : decode prog_83_method_5_code 33 = .ok (.lload_n 3, 1) := by decide +kernel
theorem d3_34 : decode prog_83_method_5_code 34 = .ok (.ldc2_w 23, 3) := by decide +kernel
theorem d3_37 : decode prog_83_method_5_code 37 = .ok (.land, 1) := by decide +kernel
theorem d3_38 : decode prog_83_method_5_code 38 = .ok (.ldc2_w 25, 3) := by decide +kernel
theorem d3_41 : decode prog_83_method_5_code 41 = .ok (.lor, 1) := by decide +kernel
theorem d3_42 : decode prog_83_method_5_code 42 = .ok (.l2i, 1) := by decide +kernel
theorem d3_43 : decode prog_83_method_5_code 43 = .ok (.i2b, 1) := by decide +kernel
theorem d3_44 : decode prog_83_method_5_code 44 = .ok (.bastore, 1) := by decide +kernel
theorem d3_45 : decode prog_83_method_5_code 45 = .ok (.lload_n 3, 1) := by decide +kernel
theorem d3_46 : decode prog_83_method_5_code 46 = .ok (.bipush 7, 2) := by decide +kernel
theorem d3_48 : decode prog_83_method_5_code 48 = .ok (.lushr, 1) := by decide +kernel
theorem d3_49 : decode prog_83_method_5_code 49 = .ok (.lstore_n 3, 1) := by decide +kernel
theorem d3_50 : decode prog_83_method_5_code 50 = .ok (.goto (-42), 3) := by decide +kernel
theorem d3_53 : decode prog_83_method_5_code 53 = .ok (.aload_n 0, 1) := by decide +kernel
theorem d3_54 : decode prog_83_method_5_code 54 = .ok (.getfield 7, 3) := by decide +kernel
theorem d3_57 : decode prog_83_method_5_code 57 = .ok (.aload_n 0, 1) := by decide +kernel
theorem d3_58 : decode prog_83_method_5_code 58 = .ok (.dup, 1) := by decide +kernel
theorem d3_59 : decode prog_83_method_5_code 59 = .ok (.getfield 13, 3) := by decide +kernel
theorem d3_62 : decode prog_83_method_5_code 62 = .ok (.dup_x1, 1) := by decide +kernel
theorem d3_63 : decode prog_83_method_5_code 63 = .ok (.iconst 1, 1) := by decide +kernel
theorem d3_64 : decode prog_83_method_5_code 64 = .ok (.iadd, 1) := by decide +kernel
theorem d3_65 : decode prog_83_method_5_code 65 = .ok (.putfield 13, 3) := by decide +kernel
theorem d3_68 : decode prog_83_method_5_code 68 = .ok (.lload_n 3, 1) := by decide +kernel
theorem d3_69 : decode prog_83_method_5_code 69 = .ok (.l2i, 1) := by decide +kernel
theorem d3_70 : decode prog_83_method_5_code 70 = .ok (.i2b, 1) := by decide +kernel
theorem d3_71 : decode prog_83_method_5_code 71 = .ok (.bastore, 1) := by decide +kernel
theorem d3_72 : decode prog_83_method_5_code 72 = .ok (.return_, 1) := by decide +kernel
theorem d4_0 : decode prog_83_method_8_code 0 = .ok (.aload_n 0, 1) := by decide +kernel
theorem d4_1 : decode prog_83_method_8_code 1 = .ok (.getfield 13, 3) := by decide +kernel
theorem d4_4 : decode prog_83_method_8_code 4 = .ok (.iload_n 1, 1) := by decide +kernel
theorem d4_5 : decode prog_83_method_8_code 5 = .ok (.iadd, 1) := by decide +kernel
theorem d4_6 : decode prog_83_method_8_code 6 = .ok (.aload_n 0, 1) := by decide +kernel
theorem d4_7 : decode prog_83_method_8_code 7 = .ok (.getfield 7, 3) := by decide +kernel
theorem d4_10 : decode prog_83_method_8_code 10 = .ok (.arraylength, 1) := by decide +kernel
theorem d4_11 : decode prog_83_method_8_code 11 = .ok (.if_icmp .le 32, 3) := by decide +kernel
theorem d4_14 : decode prog_83_method_8_code 14 = .ok (.aload_n 0, 1) := by decide +kernel
theorem d4_15 : decode prog_83_method_8_code 15 = .ok (.getfield 7, 3) := by decide +kernel
theorem d4_18 : decode prog_83_method_8_code 18 = .ok (.arraylength, 1) := by decide +kernel
theorem d4_19 : decode prog_83_method_8_code 19 = .ok (.iconst 2, 1) := by decide +kernel
theorem d4_20 : decode prog_83_method_8_code 20 = .ok (.imul, 1) := by decide +kernel
theorem d4_21 : decode prog_83_method_8_code 21 = .ok (.aload_n 0, 1) := by decide +kernel
theorem d4_22 : decode prog_83_method_8_code 22 = .ok (.getfield 13, 3) := by decide +kernel
theorem d4_25 : decode prog_83_method_8_code 25 = .ok (.iload_n 1, 1) := by decide +kernel
theorem d4_26 : decode prog_83_method_8_code 26 = .ok (.iadd, 1) := by decide +kernel
theorem d4_27 : decode prog_83_method_8_code 27 = .ok (.invokestatic 33, 3) := by decide +kernel
theorem d4_30 : decode prog_83_method_8_code 30 = .ok (.istore_n 2, 1) := by decide +kernel
theorem d4_31 : decode prog_83_method_8_code 31 = .ok (.aload_n 0, 1) := by decide +kernel
theorem d4_32 : decode prog_83_method_8_code 32 = .ok (.aload_n 0, 1) := by decide +kernel
theorem d4_33 : decode prog_83_method_8_code 33 = .ok (.getfield 7, 3) := by decide +kernel
theorem d4_36 : decode prog_83_method_8_code 36 = .ok (.iload_n 2, 1) := by decide +kernel
theorem d4_37 : decode prog_83_method_8_code 37 = .ok (.invokestatic 39, 3) := by decide +kernel
theorem d4_40 : decode prog_83_method_8_code 40 = .ok (.putfield 7, 3) := by decide +kernel
theorem d4_43 : decode prog_83_method_8_code 43 = .ok (.return_, 1) := by decide +kernel
theorem d5_0 : decode prog_83_method_3_code 0 = .ok (.aload_n 0, 1) := by decide +kernel
theorem d5_1 : decode prog_83_method_3_code 1 = .ok (.getfield 13, 3) := by decide +kernel
theorem d5_4 : decode prog_83_method_3_code 4 = .ok (.ireturn, 1) := by decide +kernel
theorem d6_0 : decode prog_83_method_2_code 0 = .ok (.aload_n 0, 1) := by decide +kernel
theorem d6_1 : decode prog_83_method_2_code 1 = .ok (.getfield 7, 3) := by decide +kernel
theorem d6_4 : decode prog_83_method_2_code 4 = .ok (.areturn, 1) := by decide +kernel
theorem d7_0 : decode prog_84_method_1_code 0 = .ok (.aload_n 0, 1) := by decide +kernel
theorem d7_1 : decode prog_84_method_1_code 1 = .ok (.invokespecial 1, 3) := by decide +kernel
theorem d7_4 : decode prog_84_method_1_code 4 = .ok (.aload_n 0, 1) := by decide +kernel
theorem d7_5 : decode prog_84_method_1_code 5 = .ok (.aload_n 1, 1) := by decide +kernel
theorem d7_6 : decode prog_84_method_1_code 6 = .ok (.putfield 7, 3) := by decide +kernel
theorem d7_9 : decode prog_84_method_1_code 9 = .ok (.aload_n 0, 1) := by decide +kernel
theorem d7_10 : decode prog_84_method_1_code 10 = .ok (.iload_n 2, 1) := by decide +kernel
theorem d7_11 : decode prog_84_method_1_code 11 = .ok (.putfield 13, 3) := by decide +kernel
theorem d7_14 : decode prog_84_method_1_code 14 = .ok (.return_, 1) := by decide +kernel
theorem d8_0 : decode prog_84_method_3_code 0 = .ok (.lconst 0, 1) := by decide +kernel
theorem d8_1 : decode prog_84_method_3_code 1 = .ok (.lstore_n 1, 1) := by decide +kernel
theorem d8_2 : decode prog_84_method_3_code 2 = .ok (.iconst 0, 1) := by decide +kernel
theorem d8_3 : decode prog_84_method_3_code 3 = .ok (.istore_n 3, 1) := by decide +kernel
theorem d8_4 : decode prog_84_method_3_code 4 = .ok (.aload_n 0, 1) := by decide +kernel
theorem d8_5 : decode prog_84_method_3_code 5 = .ok (.getfield 7, 3) := by decide +kernel
theorem d8_8 : decode prog_84_method_3_code 8 = .ok (.aload_n 0, 1) := by decide +kernel
theorem d8_9 : decode prog_84_method_3_code 9 = .ok (.dup, 1) := by decide +kernel
theorem d8_10 : decode prog_84_method_3_code 10 = .ok (.getfield 13, 3) := by decide +kernel
theorem d8_13 : decode prog_84_method_3_code 13 = .ok (.dup_x1, 1) := by decide +kernel
theorem d8_14 : decode prog_84_method_3_code 14 = .ok (.iconst 1, 1) := by decide +kernel
theorem d8_15 : decode prog_84_method_3_code 15 = .ok (.iadd, 1) := by decide +kernel
theorem d8_16 : decode prog_84_method_3_code 16 = .ok (.putfield 13, 3) := by decide +kernel
theorem d8_19 : decode prog_84_method_3_code 19 = .ok (.baload, 1) := by decide +kernel
theorem d8_20 : decode prog_84_method_3_code 20 = .ok (.istore 4, 2) := by decide +kernel
theorem d8_22 : decode prog_84_method_3_code 22 = .ok (.lload_n 1, 1) := by decide +kernel
theorem d8_23 : decode prog_84_method_3_code 23 = .ok (.iload 4, 2) := by decide +kernel
theorem d8_25 : decode prog_84_method_3_code 25 = .ok (.bipush 127, 2) := by decide +kernel
theorem d8_27 : decode prog_84_method_3_code 27 = .ok (.iand, 1) := by decide +kernel
theorem d8_28 : decode prog_84_method_3_code 28 = .ok (.i2l, 1) := by decide +kernel
theorem d8_29 : decode prog_84_method_3_code 29 = .ok (.iload_n 3, 1) := by decide +kernel
theorem d8_30 : decode prog_84_method_3_code 30 = .ok (.lshl, 1) := by decide +kernel
theorem d8_31 : decode prog_84_method_3_code 31 = .ok (.lor, 1) := by decide +kernel
theorem d8_32 : decode prog_84_method_3_code 32 = .ok (.lstore_n 1, 1) := by decide +kernel
theorem d8_33 : decode prog_84_method_3_code 33 = .ok (.iinc 3 7, 3) := by decide +kernel
theorem d8_36 : decode prog_84_method_3_code 36 = .ok (.iload 4, 2) := by decide +kernel
theorem d8_38 : decode prog_84_method_3_code 38 = .ok (.ifCond .lt (-34), 3) := by decide +kernel
theorem d8_41 : decode prog_84_method_3_code 41 = .ok (.lload_n 1, 1) := by decide +kernel
theorem d8_42 : decode prog_84_method_3_code 42 = .ok (.lreturn, 1) := by decide +kernel
theorem d9_0 : decode prog_84_method_2_code 0 = .ok (.aload_n 0, 1) := by decide +kernel
theorem d9_1 : decode prog_84_method_2_code 1 = .ok (.getfield 13, 3) := by decide +kernel
theorem d9_4 : decode prog_84_method_2_code 4 = .ok (.ireturn, 1) := by decide +kernel
theorem d10_0 : decode method_2_code 0 = .ok (.lload_n 0, 1) := by decide +kernel
theorem d10_1 : decode method_2_code 1 = .ok (.lconst 0, 1) := by decide +kernel
theorem d10_2 : decode method_2_code 2 = .ok (.lcmp, 1) := by decide +kernel
theorem d10_3 : decode method_2_code 3 = .ok (.ifCond .ge 6, 3) := by decide +kernel
theorem d10_6 : decode method_2_code 6 = .ok (.bipush 10, 2) := by decide +kernel
theorem d10_8 : decode method_2_code 8 = .ok (.ireturn, 1) := by decide +kernel
theorem d10_9 : decode method_2_code 9 = .ok (.lload_n 0, 1) := by decide +kernel
theorem d10_10 : decode method_2_code 10 = .ok (.ldc2_w 7, 3) := by decide +kernel
theorem d10_13 : decode method_2_code 13 = .ok (.lcmp, 1) := by decide +kernel
theorem d10_14 : decode method_2_code 14 = .ok (.ifCond .ge 5, 3) := by decide +kernel
theorem d10_17 : decode method_2_code 17 = .ok (.iconst 1, 1) := by decide +kernel
theorem d10_18 : decode method_2_code 18 = .ok (.ireturn, 1) := by decide +kernel
theorem d10_19 : decode method_2_code 19 = .ok (.lload_n 0, 1) := by decide +kernel
theorem d10_20 : decode method_2_code 20 = .ok (.ldc2_w 9, 3) := by decide +kernel
theorem d10_23 : decode method_2_code 23 = .ok (.lcmp, 1) := by decide +kernel
theorem d10_24 : decode method_2_code 24 = .ok (.ifCond .ge 5, 3) := by decide +kernel
theorem d10_27 : decode method_2_code 27 = .ok (.iconst 2, 1) := by decide +kernel
theorem d10_28 : decode method_2_code 28 = .ok (.ireturn, 1) := by decide +kernel
theorem d10_29 : decode method_2_code 29 = .ok (.lload_n 0, 1) := by decide +kernel
theorem d10_30 : decode method_2_code 30 = .ok (.ldc2_w 11, 3) := by decide +kernel
theorem d10_33 : decode method_2_code 33 = .ok (.lcmp, 1) := by decide +kernel
theorem d10_34 : decode method_2_code 34 = .ok (.ifCond .ge 5, 3) := by decide +kernel
theorem d10_37 : decode method_2_code 37 = .ok (.iconst 3, 1) := by decide +kernel
theorem d10_38 : decode method_2_code 38 = .ok (.ireturn, 1) := by decide +kernel
theorem d10_39 : decode method_2_code 39 = .ok (.lload_n 0, 1) := by decide +kernel
theorem d10_40 : decode method_2_code 40 = .ok (.ldc2_w 13, 3) := by decide +kernel
theorem d10_43 : decode method_2_code 43 = .ok (.lcmp, 1) := by decide +kernel
theorem d10_44 : decode method_2_code 44 = .ok (.ifCond .ge 5, 3) := by decide +kernel
theorem d10_47 : decode method_2_code 47 = .ok (.iconst 4, 1) := by decide +kernel
theorem d10_48 : decode method_2_code 48 = .ok (.ireturn, 1) := by decide +kernel
theorem d10_49 : decode method_2_code 49 = .ok (.lload_n 0, 1) := by decide +kernel
theorem d10_50 : decode method_2_code 50 = .ok (.ldc2_w 15, 3) := by decide +kernel
theorem d10_53 : decode method_2_code 53 = .ok (.lcmp, 1) := by decide +kernel
theorem d10_54 : decode method_2_code 54 = .ok (.ifCond .ge 5, 3) := by decide +kernel
theorem d10_57 : decode method_2_code 57 = .ok (.iconst 5, 1) := by decide +kernel
theorem d10_58 : decode method_2_code 58 = .ok (.ireturn, 1) := by decide +kernel
theorem d10_59 : decode method_2_code 59 = .ok (.lload_n 0, 1) := by decide +kernel
theorem d10_60 : decode method_2_code 60 = .ok (.ldc2_w 17, 3) := by decide +kernel
theorem d10_63 : decode method_2_code 63 = .ok (.lcmp, 1) := by decide +kernel
theorem d10_64 : decode method_2_code 64 = .ok (.ifCond .ge 6, 3) := by decide +kernel
theorem d10_67 : decode method_2_code 67 = .ok (.bipush 6, 2) := by decide +kernel
theorem d10_69 : decode method_2_code 69 = .ok (.ireturn, 1) := by decide +kernel
theorem d10_70 : decode method_2_code 70 = .ok (.lload_n 0, 1) := by decide +kernel
theorem d10_71 : decode method_2_code 71 = .ok (.ldc2_w 19, 3) := by decide +kernel
theorem d10_74 : decode method_2_code 74 = .ok (.lcmp, 1) := by decide +kernel
theorem d10_75 : decode method_2_code 75 = .ok (.ifCond .ge 6, 3) := by decide +kernel
theorem d10_78 : decode method_2_code 78 = .ok (.bipush 7, 2) := by decide +kernel
theorem d10_80 : decode method_2_code 80 = .ok (.ireturn, 1) := by decide +kernel
theorem d10_81 : decode method_2_code 81 = .ok (.lload_n 0, 1) := by decide +kernel
theorem d10_82 : decode method_2_code 82 = .ok (.ldc2_w 21, 3) := by decide +kernel
theorem d10_85 : decode method_2_code 85 = .ok (.lcmp, 1) := by decide +kernel
theorem d10_86 : decode method_2_code 86 = .ok (.ifCond .ge 6, 3) := by decide +kernel
theorem d10_89 : decode method_2_code 89 = .ok (.bipush 8, 2) := by decide +kernel
theorem d10_91 : decode method_2_code 91 = .ok (.ireturn, 1) := by decide +kernel
theorem d10_92 : decode method_2_code 92 = .ok (.bipush 9, 2) := by decide +kernel
theorem d10_94 : decode method_2_code 94 = .ok (.ireturn, 1) := by decide +kernel
set_option maxHeartbeats 4000000 in
theorem dis_0 (Z : State) (a0 : Array Value) (hw : ∀ d ∈ tables_1, d.before a0 Z = true) : ([RoadKit.slotOf Z "com/example/strict_replicas/strictreplicas/expenses/Bytes" "bytes" "[B", RoadKit.slotOf Z "com/example/strict_replicas/strictreplicas/expenses/Bytes" "length" "I"] : List Nat).Nodup := by
  simp only [List.nodup_cons, List.mem_cons, List.not_mem_nil, or_false, not_or, not_false_eq_true, List.nodup_nil, and_true]
  exact RoadKit.slot_ne (Or.inl (hw _ (List.mem_of_getElem? (i := 11) rfl))) (Or.inl (hw _ (List.mem_of_getElem? (i := 22) rfl))) (by decide) (t := (.array .byte)) (t' := .int) (by decide) (by decide)
set_option maxHeartbeats 4000000 in
theorem dis_1 (Z : State) (a0 : Array Value) (hw : ∀ d ∈ tables_1, d.before a0 Z = true) : ([RoadKit.slotOf Z "com/example/strict_replicas/strictreplicas/expenses/Bytes$Reader" "bytes" "[B", RoadKit.slotOf Z "com/example/strict_replicas/strictreplicas/expenses/Bytes$Reader" "position" "I"] : List Nat).Nodup := by
  simp only [List.nodup_cons, List.mem_cons, List.not_mem_nil, or_false, not_or, not_false_eq_true, List.nodup_nil, and_true]
  exact RoadKit.slot_ne (Or.inr (hw _ (List.mem_of_getElem? (i := 42) rfl))) (Or.inl (hw _ (List.mem_of_getElem? (i := 44) rfl))) (by decide) (t := (.array .byte)) (t' := .int) (by decide) (by decide)
set_option maxRecDepth 65536 in
set_option maxHeartbeats 2000000 in
theorem con_init (l : Launch) (Z : State) (a0 : Array Value) (hw : ∀ d ∈ tables_1, d.before a0 Z = true) (a : Addr) (h : Heap) (O : Ob Z h a "com/example/strict_replicas/strictreplicas/expenses/Bytes" [("com/example/strict_replicas/strictreplicas/expenses/Bytes", "bytes", "[B", .null), ("com/example/strict_replicas/strictreplicas/expenses/Bytes", "length", "I", (.int (0 : Int32)))]) :
    Con l Z [] (⟨"com/example/strict_replicas/strictreplicas/expenses/Bytes", "<init>", "()V"⟩ : MethodName) prog_83_method_1_code 1 none ({ frames := 1, cells := 1, slots := 256, locals := 12 } : Room) #[(.ref a)] h [a] (fun v h' => v = none ∧ ∃ (d : Addr) (vs : List Value), h.size ≤ d ∧ d ≠ a ∧ vs.length = 256 ∧ Ob Z h' a "com/example/strict_replicas/strictreplicas/expenses/Bytes" [("com/example/strict_replicas/strictreplicas/expenses/Bytes", "bytes", "[B", (.ref d)), ("com/example/strict_replicas/strictreplicas/expenses/Bytes", "length", "I", (.int (0 : Int32)))] ∧ Ar Z h' d .byte vs) := by
  refine Con.of_go (L0 := #[.val (.ref a)]) (plainFor_of_name (by first | (simp [plainName, overriddenIn]; done) | decide +kernel)) (locals_of rfl) fun W Q hQ hl C => ?_
  subst hl
  refine g_aloadN (pc' := 1) C d1_0 rfl rfl rfl ?_
  refine g_initO (pc' := 4) C d1_1 rfl (hw _ (List.mem_of_getElem? (i := 6) rfl)) (hw _ (List.mem_of_getElem? (i := 7) rfl)) (hw _ (List.mem_of_getElem? (i := 8) rfl)) rfl (by decide) (Nat.le_of_ble_eq_true rfl) ?_
  refine g_aloadN (pc' := 5) C d1_4 rfl rfl rfl ?_
  refine g_sipush (pc' := 8) (z := (256 : Int32)) C d1_5 rfl rfl ?_
  refine g_newarray (pc' := 10) (ty := .byte) (len := 256) (cap := 256) (k' := 1) (n' := 256) C d1_8 rfl rfl (hw _ (List.mem_of_getElem? (i := 9) rfl)) rfl (by decide) (by decide) rfl rfl (by decide) (by decide) fun h1 a1 e_a1 Eh1 Aa1 w_a1 => ?_
  have n_a_a1 : a ≠ a1 := by rw [e_a1]; exact Nat.ne_of_lt O.lt
  replace O := O.ext Eh1
  refine g_putO (pc' := 13) (j := 0) (ty := (.array .byte)) (v' := (.ref a1)) (fs' := [("com/example/strict_replicas/strictreplicas/expenses/Bytes", "bytes", "[B", (.ref a1)), ("com/example/strict_replicas/strictreplicas/expenses/Bytes", "length", "I", (.int (0 : Int32)))]) C d1_10 rfl (hw _ (List.mem_of_getElem? (i := 10) rfl)) Via.refl O rfl (Or.inl (hw _ (List.mem_of_getElem? (i := 11) rfl))) (hw _ (List.mem_of_getElem? (i := 1) rfl)) (by decide) rfl rfl rfl (C.old (List.mem_cons_self ..)) fun h2 O Kh2 => ?_
  replace Aa1 := Aa1.keep Kh2 (ninS (Ne.symm n_a_a1) nin0)
  refine g_return C d1_13 (by decide) (by decide) ?_
  subst hQ
  exact ⟨rfl, _, _, Nat.le_of_eq e_a1.symm, (Ne.symm n_a_a1), List.length_replicate, O, Aa1⟩
set_option maxRecDepth 65536 in
set_option maxHeartbeats 2000000 in
theorem con_room (l : Launch) (Z : State) (a0 : Array Value) (hw : ∀ d ∈ tables_1, d.before a0 Z = true) (a d : Addr) (c z : Int32) (vs : List Value) (hl : vs.length = 256) (hc : (c + z).toInt ≤ 256) (h : Heap) (O : Ob Z h a "com/example/strict_replicas/strictreplicas/expenses/Bytes" [("com/example/strict_replicas/strictreplicas/expenses/Bytes", "bytes", "[B", (.ref d)), ("com/example/strict_replicas/strictreplicas/expenses/Bytes", "length", "I", (.int c))]) (A : Ar Z h d .byte vs) :
    Con l Z [] (⟨"com/example/strict_replicas/strictreplicas/expenses/Bytes", "room", "(I)V"⟩ : MethodName) prog_83_method_8_code 3 none ({ frames := 0, cells := 0, slots := 0, locals := 0 } : Room) #[(.ref a), (.int z)] h [] (fun v h' => v = none ∧ h' = h) := by
  refine Con.of_go (L0 := #[.val (.ref a), .val (.int z), .unset]) (plainFor_of_name (by first | (simp [plainName, overriddenIn]; done) | decide +kernel)) (locals_of rfl) fun W Q hQ hl C => ?_
  subst hl
  refine g_aloadN (pc' := 1) C d4_0 rfl rfl rfl ?_
  refine g_getO (pc' := 4) (j := 1) C d4_1 rfl (hw _ (List.mem_of_getElem? (i := 21) rfl)) O rfl ?_
  refine g_iloadN (pc' := 5) C d4_4 rfl rfl ?_
  refine g_iadd (pc' := 6) C d4_5 rfl ?_
  refine g_aloadN (pc' := 7) C d4_6 rfl rfl rfl ?_
  refine g_getO (pc' := 10) (j := 0) C d4_7 rfl (hw _ (List.mem_of_getElem? (i := 10) rfl)) O rfl ?_
  refine g_arraylength (pc' := 11) (z := (256 : Int32)) C d4_10 rfl A (by rw [hl]; rfl) ?_
  refine g_icmp (xi := (c + z).toInt) (yi := (256)) (pc1 := 43) (pc2 := 14) C d4_11 (by decide) rfl rfl rfl rfl (fun (c11 : (c + z).toInt ≤ (256)) => ?_) (fun (c11 : ¬ ((c + z).toInt ≤ (256))) => ?_)
  ·
    refine g_return C d4_43 (by decide) (by decide) ?_
    subst hQ
    exact ⟨rfl, rfl⟩
  ·
    exfalso; omega
set_option maxRecDepth 65536 in
set_option maxHeartbeats 2000000 in
theorem con_len (l : Launch) (Z : State) (a0 : Array Value) (hw : ∀ d ∈ tables_1, d.before a0 Z = true) (a d : Addr) (c : Int32) (h : Heap) (O : Ob Z h a "com/example/strict_replicas/strictreplicas/expenses/Bytes" [("com/example/strict_replicas/strictreplicas/expenses/Bytes", "bytes", "[B", (.ref d)), ("com/example/strict_replicas/strictreplicas/expenses/Bytes", "length", "I", (.int c))]) :
    Con l Z [] (⟨"com/example/strict_replicas/strictreplicas/expenses/Bytes", "length", "()I"⟩ : MethodName) prog_83_method_3_code 1 (some .int) ({ frames := 0, cells := 0, slots := 0, locals := 0 } : Room) #[(.ref a)] h [] (fun v h' => v = some (.int c) ∧ h' = h) := by
  refine Con.of_go (L0 := #[.val (.ref a)]) (plainFor_of_name (by first | (simp [plainName, overriddenIn]; done) | decide +kernel)) (locals_of rfl) fun W Q hQ hl C => ?_
  subst hl
  refine g_aloadN (pc' := 1) C d5_0 rfl rfl rfl ?_
  refine g_getO (pc' := 4) (j := 1) C d5_1 rfl (hw _ (List.mem_of_getElem? (i := 21) rfl)) O rfl ?_
  refine g_retI C d5_4 (by decide) (by decide) ?_
  subst hQ
  exact ⟨rfl, rfl⟩
set_option maxRecDepth 65536 in
set_option maxHeartbeats 2000000 in
theorem con_bytes (l : Launch) (Z : State) (a0 : Array Value) (hw : ∀ d ∈ tables_1, d.before a0 Z = true) (a d : Addr) (c : Int32) (h : Heap) (O : Ob Z h a "com/example/strict_replicas/strictreplicas/expenses/Bytes" [("com/example/strict_replicas/strictreplicas/expenses/Bytes", "bytes", "[B", (.ref d)), ("com/example/strict_replicas/strictreplicas/expenses/Bytes", "length", "I", (.int c))]) :
    Con l Z [] (⟨"com/example/strict_replicas/strictreplicas/expenses/Bytes", "bytes", "()[B"⟩ : MethodName) prog_83_method_2_code 1 (some (.array .byte)) ({ frames := 0, cells := 0, slots := 0, locals := 0 } : Room) #[(.ref a)] h [] (fun v h' => v = some (.ref d) ∧ h' = h) := by
  refine Con.of_go (L0 := #[.val (.ref a)]) (plainFor_of_name (by first | (simp [plainName, overriddenIn]; done) | decide +kernel)) (locals_of rfl) fun W Q hQ hl C => ?_
  subst hl
  refine g_aloadN (pc' := 1) C d6_0 rfl rfl rfl ?_
  refine g_getO (pc' := 4) (j := 0) C d6_1 rfl (hw _ (List.mem_of_getElem? (i := 10) rfl)) O rfl ?_
  refine g_retA C rfl rfl rfl d6_4 (by decide) (by decide) ?_
  subst hQ
  exact ⟨rfl, rfl⟩
set_option maxRecDepth 65536 in
set_option maxHeartbeats 2000000 in
theorem con_pos (l : Launch) (Z : State) (a0 : Array Value) (hw : ∀ d ∈ tables_1, d.before a0 Z = true) (a d : Addr) (c : Int32) (h : Heap) (O : Ob Z h a "com/example/strict_replicas/strictreplicas/expenses/Bytes$Reader" [("com/example/strict_replicas/strictreplicas/expenses/Bytes$Reader", "bytes", "[B", (.ref d)), ("com/example/strict_replicas/strictreplicas/expenses/Bytes$Reader", "position", "I", (.int c))]) :
    Con l Z [] (⟨"com/example/strict_replicas/strictreplicas/expenses/Bytes$Reader", "position", "()I"⟩ : MethodName) prog_84_method_2_code 1 (some .int) ({ frames := 0, cells := 0, slots := 0, locals := 0 } : Room) #[(.ref a)] h [] (fun v h' => v = some (.int c) ∧ h' = h) := by
  refine Con.of_go (L0 := #[.val (.ref a)]) (plainFor_of_name (by first | (simp [plainName, overriddenIn]; done) | decide +kernel)) (locals_of rfl) fun W Q hQ hl C => ?_
  subst hl
  refine g_aloadN (pc' := 1) C d9_0 rfl rfl rfl ?_
  refine g_getO (pc' := 4) (j := 1) C d9_1 rfl (hw _ (List.mem_of_getElem? (i := 43) rfl)) O rfl ?_
  refine g_retI C d9_4 (by decide) (by decide) ?_
  subst hQ
  exact ⟨rfl, rfl⟩
set_option maxRecDepth 65536 in
set_option maxHeartbeats 2000000 in
theorem con_write (l : Launch) (Z : State) (a0 : Array Value) (hw : ∀ d ∈ tables_1, d.before a0 Z = true) (a d : Addr) (c : Int32) (v : Int64) (o : Nat) (vs : List Value) (hc : c.toInt = o) (ho : o ≤ 100) (hl : vs.length = 256) (nda : d ≠ a) (h : Heap) (O : Ob Z h a "com/example/strict_replicas/strictreplicas/expenses/Bytes" [("com/example/strict_replicas/strictreplicas/expenses/Bytes", "bytes", "[B", (.ref d)), ("com/example/strict_replicas/strictreplicas/expenses/Bytes", "length", "I", (.int c))]) (A : Ar Z h d .byte vs) :
    Con l Z [] (⟨"com/example/strict_replicas/strictreplicas/expenses/Bytes", "varint", "(J)V"⟩ : MethodName) prog_83_method_5_code 5 none ({ frames := 1, cells := 0, slots := 0, locals := 14 } : Room) #[(.ref a), (.long v)] h [a, d] (fun w h' => w = none ∧ ∃ (c' : Int32) (ws : List Value), c'.toInt = o + vlen (U v) ∧ Wrt vs ws (U v) o (vlen (U v)) ∧ Ob Z h' a "com/example/strict_replicas/strictreplicas/expenses/Bytes" [("com/example/strict_replicas/strictreplicas/expenses/Bytes", "bytes", "[B", (.ref d)), ("com/example/strict_replicas/strictreplicas/expenses/Bytes", "length", "I", (.int c'))] ∧ Ar Z h' d .byte ws) := by
  refine Con.of_go (L0 := #[.val (.ref a), .val (.long v), .second, .unset, .unset]) (plainFor_of_name (by first | (simp [plainName, overriddenIn]; done) | decide +kernel)) (locals_of rfl) fun W Q hQ hl C => ?_
  subst hl
  have hV : U v < 2 ^ 64 := v.toBitVec.isLt
  have hr := vlen_rng (U v)
  have loop : ∀ (f : Nat) (h1 : Heap) (z : Int32) (r : Int64) (ws : List Value) (i : Nat), i + f + 1 = vlen (U v) → z.toInt = o + i → U r = U v / 128 ^ i → Wrt vs ws (U v) o i → Ob Z h1 a "com/example/strict_replicas/strictreplicas/expenses/Bytes" [("com/example/strict_replicas/strictreplicas/expenses/Bytes", "bytes", "[B", (.ref d)), ("com/example/strict_replicas/strictreplicas/expenses/Bytes", "length", "I", (.int z))] → Ar Z h1 d .byte ws → Go W Q h1 0 0 8 #[.val (.ref a), .val (.long v), .second, .val (.long r), .second] [] := by
    intro f
    induction f with
    | zero =>
      intro h1 z r ws i gi gz gr gw O A
      have x1 := vlen_last (i := i) hV (by omega)
      rw [← gr] at x1
      have x6 := c_iadd z 1
      have x7 := rng32 (z + 1)
      have x4 : (1 : Int32).toInt = 1 := rfl
      rw [x4] at x6
      refine g_lloadN (pc' := 9) C d3_8 rfl rfl ?_
      refine g_ldc2L (pc' := 12) C d3_9 rfl (hw _ (List.mem_of_getElem? (i := 23) rfl)) ?_
      refine g_land (pc' := 13) C d3_12 rfl ?_
      refine g_lconst (pc' := 14) (z := (0 : Int64)) C d3_13 rfl rfl ?_
      refine g_lcmp (cd := .eq) (xi := (r &&& (-128 : Int64)).toInt) (yi := (0)) (pc' := 15) (pc1 := 53) (pc2 := 18) C d3_14 d3_15 rfl (by decide) rfl rfl rfl rfl (fun (c14 : (r &&& (-128 : Int64)).toInt = (0)) => ?_) (fun (c14 : ¬ ((r &&& (-128 : Int64)).toInt = (0))) => ?_)
      ·
        have k1 := (and_hi r).mp c14
        refine g_aloadN (pc' := 54) C d3_53 rfl rfl rfl ?_
        refine g_getO (pc' := 57) (j := 0) C d3_54 rfl (hw _ (List.mem_of_getElem? (i := 10) rfl)) O rfl ?_
        refine g_aloadN (pc' := 58) C d3_57 rfl rfl rfl ?_
        refine g_dup (pc' := 59) C d3_58 rfl rfl ?_
        refine g_getO (pc' := 62) (j := 1) C d3_59 rfl (hw _ (List.mem_of_getElem? (i := 21) rfl)) O rfl ?_
        refine g_dup_x1 (pc' := 63) C d3_62 rfl rfl rfl ?_
        refine g_iconst (pc' := 64) (z := (1 : Int32)) C d3_63 rfl rfl ?_
        refine g_iadd (pc' := 65) C d3_64 rfl ?_
        refine g_putO (pc' := 68) (j := 1) (ty := .int) (v' := (.int (z + (1 : Int32)))) (fs' := [("com/example/strict_replicas/strictreplicas/expenses/Bytes", "bytes", "[B", (.ref d)), ("com/example/strict_replicas/strictreplicas/expenses/Bytes", "length", "I", (.int (z + (1 : Int32))))]) C d3_65 rfl (hw _ (List.mem_of_getElem? (i := 21) rfl)) Via.refl O rfl (Or.inl (hw _ (List.mem_of_getElem? (i := 22) rfl))) (hw _ (List.mem_of_getElem? (i := 1) rfl)) (by decide) rfl rfl rfl (C.old (List.mem_of_getElem? (i := 0) rfl)) fun h11 O Kh11 => ?_
        replace A := A.keep Kh11 (ninS nda nin0)
        refine g_lloadN (pc' := 69) C d3_68 rfl rfl ?_
        refine g_l2i (pc' := 70) C d3_69 rfl ?_
        refine g_i2b (pc' := 71) C d3_70 rfl ?_
        refine g_bastore (pc' := 72) (i := o + i) C d3_71 rfl A (by omega) (by rw [gw.1]; omega) rfl (C.old (List.mem_of_getElem? (i := 1) rfl)) fun h12 A Kh12 => ?_
        replace O := O.keep Kh12 (ninS (Ne.symm nda) nin0)
        refine g_return C d3_72 (by decide) (by decide) ?_
        subst hQ
        refine ⟨rfl, _, _, ?_, ?_, O, A⟩
        · omega
        · rw [← gi]
          exact gw.step (by omega) (by rw [last_byte k1, byteAt_last (by omega), gr]; omega)
      ·
        exfalso
        have k1 := and_hi r
        omega
    | succ f ih =>
      intro h1 z r ws i gi gz gr gw O A
      have x1 := vlen_last (i := i) hV (by omega)
      rw [← gr] at x1
      have x6 := c_iadd z 1
      have x7 := rng32 (z + 1)
      have x4 : (1 : Int32).toInt = 1 := rfl
      rw [x4] at x6
      refine g_lloadN (pc' := 9) C d3_8 rfl rfl ?_
      refine g_ldc2L (pc' := 12) C d3_9 rfl (hw _ (List.mem_of_getElem? (i := 23) rfl)) ?_
      refine g_land (pc' := 13) C d3_12 rfl ?_
      refine g_lconst (pc' := 14) (z := (0 : Int64)) C d3_13 rfl rfl ?_
      refine g_lcmp (cd := .eq) (xi := (r &&& (-128 : Int64)).toInt) (yi := (0)) (pc' := 15) (pc1 := 53) (pc2 := 18) C d3_14 d3_15 rfl (by decide) rfl rfl rfl rfl (fun (c14 : (r &&& (-128 : Int64)).toInt = (0)) => ?_) (fun (c14 : ¬ ((r &&& (-128 : Int64)).toInt = (0))) => ?_)
      ·
        exfalso
        have k1 := and_hi r
        omega
      ·
        refine g_aloadN (pc' := 19) C d3_18 rfl rfl rfl ?_
        refine g_getO (pc' := 22) (j := 0) C d3_19 rfl (hw _ (List.mem_of_getElem? (i := 10) rfl)) O rfl ?_
        refine g_aloadN (pc' := 23) C d3_22 rfl rfl rfl ?_
        refine g_dup (pc' := 24) C d3_23 rfl rfl ?_
        refine g_getO (pc' := 27) (j := 1) C d3_24 rfl (hw _ (List.mem_of_getElem? (i := 21) rfl)) O rfl ?_
        refine g_dup_x1 (pc' := 28) C d3_27 rfl rfl rfl ?_
        refine g_iconst (pc' := 29) (z := (1 : Int32)) C d3_28 rfl rfl ?_
        refine g_iadd (pc' := 30) C d3_29 rfl ?_
        refine g_putO (pc' := 33) (j := 1) (ty := .int) (v' := (.int (z + (1 : Int32)))) (fs' := [("com/example/strict_replicas/strictreplicas/expenses/Bytes", "bytes", "[B", (.ref d)), ("com/example/strict_replicas/strictreplicas/expenses/Bytes", "length", "I", (.int (z + (1 : Int32))))]) C d3_30 rfl (hw _ (List.mem_of_getElem? (i := 21) rfl)) Via.refl O rfl (Or.inl (hw _ (List.mem_of_getElem? (i := 22) rfl))) (hw _ (List.mem_of_getElem? (i := 1) rfl)) (by decide) rfl rfl rfl (C.old (List.mem_of_getElem? (i := 0) rfl)) fun h11 O Kh11 => ?_
        replace A := A.keep Kh11 (ninS nda nin0)
        refine g_lloadN (pc' := 34) C d3_33 rfl rfl ?_
        refine g_ldc2L (pc' := 37) C d3_34 rfl (hw _ (List.mem_of_getElem? (i := 60) rfl)) ?_
        refine g_land (pc' := 38) C d3_37 rfl ?_
        refine g_ldc2L (pc' := 41) C d3_38 rfl (hw _ (List.mem_of_getElem? (i := 61) rfl)) ?_
        refine g_lor (pc' := 42) C d3_41 rfl ?_
        refine g_l2i (pc' := 43) C d3_42 rfl ?_
        refine g_i2b (pc' := 44) C d3_43 rfl ?_
        refine g_bastore (pc' := 45) (i := o + i) C d3_44 rfl A (by omega) (by rw [gw.1]; omega) rfl (C.old (List.mem_of_getElem? (i := 1) rfl)) fun h12 A Kh12 => ?_
        replace O := O.keep Kh12 (ninS (Ne.symm nda) nin0)
        refine g_lloadN (pc' := 46) C d3_45 rfl rfl ?_
        refine g_bipush (pc' := 48) (z := (7 : Int32)) C d3_46 rfl rfl ?_
        refine g_lushr (pc' := 49) C d3_48 rfl ?_
        refine g_lstoreN (pc' := 50) (L' := #[.val (.ref a), .val (.long v), .second, .val (.long ((r.toUInt64 >>> ((7 : Int32) &&& 0x3f).toInt64.toUInt64).toInt64)), .second]) C d3_49 rfl rfl ?_
        refine g_goto C d3_50 (by decide) (pc' := 8) rfl ?_
        exact ih _ _ _ _ (i + 1) (by omega) (by omega) (U_div7 gr) (gw.step (by omega) (by rw [more_byte, byteAt_more (by omega), gr])) O A
  refine g_aloadN (pc' := 1) C d3_0 rfl rfl rfl ?_
  refine g_bipush (pc' := 3) (z := (10 : Int32)) C d3_1 rfl rfl ?_
  refine g_privateP (y := (⟨"com/example/strict_replicas/strictreplicas/expenses/Bytes", "room", "(I)V"⟩ : MethodName)) (a := a) (pc' := 6) (k' := 0) (n' := 0) (S := []) (as := [(.int (10 : Int32))]) C d3_3 rfl (hw _ (List.mem_of_getElem? (i := 17) rfl)) (hw _ (List.mem_of_getElem? (i := 18) rfl)) (hw _ (List.mem_of_getElem? (i := 2) rfl)) (hw _ (List.mem_of_getElem? (i := 20) rfl)) (hw _ (List.mem_of_getElem? (i := 19) rfl)) (hw _ (List.mem_of_getElem? (i := 1) rfl)) (by decide) O.1 (lenOf pd_0 rfl) (con_room W.l Z a0 hw a d c (10 : Int32) vs hl (by have x1 := c_iadd c 10; have x2 : (10 : Int32).toInt = 10 := rfl; have x3 := rng32 (c + 10); omega) h O A) rfl rfl (Nat.le_of_ble_eq_true rfl) (Nat.le_of_ble_eq_true rfl) rfl rfl (Nat.le_of_ble_eq_true rfl) (Nat.le_of_ble_eq_true rfl) (S1 := []) rfl ?_
  refine g_lloadN (pc' := 7) C d3_6 rfl rfl ?_
  refine g_lstoreN (pc' := 8) (L' := #[.val (.ref a), .val (.long v), .second, .val (.long v), .second]) C d3_7 rfl rfl ?_
  exact loop (vlen (U v) - 1) h c v vs 0 (by omega) (by omega) (by rw [Nat.pow_zero, Nat.div_one]) ⟨hl, fun _ _ => rfl, fun k hk => absurd hk (Nat.not_lt_zero k)⟩ O A
set_option maxRecDepth 65536 in
set_option maxHeartbeats 2000000 in
theorem con_rinit (l : Launch) (Z : State) (a0 : Array Value) (hw : ∀ d ∈ tables_1, d.before a0 Z = true) (a b : Addr) (q : Int32) (h : Heap) (O : Ob Z h a "com/example/strict_replicas/strictreplicas/expenses/Bytes$Reader" [("com/example/strict_replicas/strictreplicas/expenses/Bytes$Reader", "bytes", "[B", .null), ("com/example/strict_replicas/strictreplicas/expenses/Bytes$Reader", "position", "I", (.int (0 : Int32)))]) :
    Con l Z [] (⟨"com/example/strict_replicas/strictreplicas/expenses/Bytes$Reader", "<init>", "([BI)V"⟩ : MethodName) prog_84_method_1_code 3 none ({ frames := 1, cells := 0, slots := 0, locals := 12 } : Room) #[(.ref a), (.ref b), (.int q)] h [a] (fun v h' => v = none ∧ Ob Z h' a "com/example/strict_replicas/strictreplicas/expenses/Bytes$Reader" [("com/example/strict_replicas/strictreplicas/expenses/Bytes$Reader", "bytes", "[B", (.ref b)), ("com/example/strict_replicas/strictreplicas/expenses/Bytes$Reader", "position", "I", (.int q))]) := by
  refine Con.of_go (L0 := #[.val (.ref a), .val (.ref b), .val (.int q)]) (plainFor_of_name (by first | (simp [plainName, overriddenIn]; done) | decide +kernel)) (locals_of rfl) fun W Q hQ hl C => ?_
  subst hl
  refine g_aloadN (pc' := 1) C d7_0 rfl rfl rfl ?_
  refine g_initO (pc' := 4) C d7_1 rfl (hw _ (List.mem_of_getElem? (i := 40) rfl)) (hw _ (List.mem_of_getElem? (i := 7) rfl)) (hw _ (List.mem_of_getElem? (i := 8) rfl)) rfl (by decide) (Nat.le_of_ble_eq_true rfl) ?_
  refine g_aloadN (pc' := 5) C d7_4 rfl rfl rfl ?_
  refine g_aloadN (pc' := 6) C d7_5 rfl rfl rfl ?_
  refine g_putO (pc' := 9) (j := 0) (ty := (.array .byte)) (v' := (.ref b)) (fs' := [("com/example/strict_replicas/strictreplicas/expenses/Bytes$Reader", "bytes", "[B", (.ref b)), ("com/example/strict_replicas/strictreplicas/expenses/Bytes$Reader", "position", "I", (.int (0 : Int32)))]) C d7_6 rfl (hw _ (List.mem_of_getElem? (i := 41) rfl)) Via.refl O rfl (Or.inr ⟨(hw _ (List.mem_of_getElem? (i := 42) rfl)), rfl, rfl⟩) (hw _ (List.mem_of_getElem? (i := 30) rfl)) (by decide) rfl rfl rfl (C.old (List.mem_cons_self ..)) fun h1 O Kh1 => ?_
  refine g_aloadN (pc' := 10) C d7_9 rfl rfl rfl ?_
  refine g_iloadN (pc' := 11) C d7_10 rfl rfl ?_
  refine g_putO (pc' := 14) (j := 1) (ty := .int) (v' := (.int q)) (fs' := [("com/example/strict_replicas/strictreplicas/expenses/Bytes$Reader", "bytes", "[B", (.ref b)), ("com/example/strict_replicas/strictreplicas/expenses/Bytes$Reader", "position", "I", (.int q))]) C d7_11 rfl (hw _ (List.mem_of_getElem? (i := 43) rfl)) Via.refl O rfl (Or.inl (hw _ (List.mem_of_getElem? (i := 44) rfl))) (hw _ (List.mem_of_getElem? (i := 30) rfl)) (by decide) rfl rfl rfl (C.old (List.mem_cons_self ..)) fun h2 O Kh2 => ?_
  refine g_return C d7_14 (by decide) (by decide) ?_
  subst hQ
  exact ⟨rfl, O⟩
set_option maxRecDepth 65536 in
set_option maxHeartbeats 2000000 in
theorem con_read (l : Launch) (Z : State) (a0 : Array Value) (hw : ∀ d ∈ tables_1, d.before a0 Z = true) (a b : Addr) (q : Int32) (o V : Nat) (vs : List Value) (hq : q.toInt = o) (ho : o ≤ 100) (hV : V < 2 ^ 64) (hB : ∀ k, k < vlen V → ∃ x : Int32, vs[o + k]? = some (.int x) ∧ x.toInt = byteAt V k) (nba : b ≠ a) (h : Heap) (O : Ob Z h a "com/example/strict_replicas/strictreplicas/expenses/Bytes$Reader" [("com/example/strict_replicas/strictreplicas/expenses/Bytes$Reader", "bytes", "[B", (.ref b)), ("com/example/strict_replicas/strictreplicas/expenses/Bytes$Reader", "position", "I", (.int q))]) (A : Ar Z h b .byte vs) :
    Con l Z [] (⟨"com/example/strict_replicas/strictreplicas/expenses/Bytes$Reader", "varint", "()J"⟩ : MethodName) prog_84_method_3_code 5 (some .long) ({ frames := 0, cells := 0, slots := 0, locals := 0 } : Room) #[(.ref a)] h [a] (fun v h' => ∃ (j : Int64) (q' : Int32), v = some (.long j) ∧ U j = V ∧ q'.toInt = o + vlen V ∧ Ob Z h' a "com/example/strict_replicas/strictreplicas/expenses/Bytes$Reader" [("com/example/strict_replicas/strictreplicas/expenses/Bytes$Reader", "bytes", "[B", (.ref b)), ("com/example/strict_replicas/strictreplicas/expenses/Bytes$Reader", "position", "I", (.int q'))]) := by
  refine Con.of_go (L0 := #[.val (.ref a), .unset, .unset, .unset, .unset]) (plainFor_of_name (by first | (simp [plainName, overriddenIn]; done) | decide +kernel)) (locals_of rfl) fun W Q hQ hl C => ?_
  subst hl
  have hr := vlen_rng V
  have loop : ∀ (f : Nat) (h1 : Heap) (z s : Int32) (j : Int64) (i : Nat) (u : Slot), (u = .unset ∨ ∃ y, u = .val (.int y)) → i + f + 1 = vlen V → z.toInt = o + i → U j = V % 128 ^ i → s.toInt = 7 * i → Ob Z h1 a "com/example/strict_replicas/strictreplicas/expenses/Bytes$Reader" [("com/example/strict_replicas/strictreplicas/expenses/Bytes$Reader", "bytes", "[B", (.ref b)), ("com/example/strict_replicas/strictreplicas/expenses/Bytes$Reader", "position", "I", (.int z))] → Ar Z h1 b .byte vs → Go W Q h1 0 0 4 #[.val (.ref a), .val (.long j), .second, .val (.int s), u] [] := by
    intro f
    induction f with
    | zero =>
      intro h1 z s j i u hu gi gz gj gs O A
      obtain ⟨x, hx, gx⟩ := hB i (by omega)
      have x1 := byteAt_last (V := V) (i := i) (by omega)
      have x2 : V / 128 ^ i % 128 < 128 := Nat.mod_lt _ (by decide)
      have x3 := c_iadd s 7
      have x4 : (7 : Int32).toInt = 7 := rfl
      have x5 := rng32 (s + 7)
      have x6 := c_iadd z 1
      have x7 := rng32 (z + 1)
      have x8 : (1 : Int32).toInt = 1 := rfl
      rw [x4] at x3
      rw [x8] at x6
      refine g_aloadN (pc' := 5) C d8_4 rfl rfl rfl ?_
      refine g_getO (pc' := 8) (j := 0) C d8_5 rfl (hw _ (List.mem_of_getElem? (i := 41) rfl)) O rfl ?_
      refine g_aloadN (pc' := 9) C d8_8 rfl rfl rfl ?_
      refine g_dup (pc' := 10) C d8_9 rfl rfl ?_
      refine g_getO (pc' := 13) (j := 1) C d8_10 rfl (hw _ (List.mem_of_getElem? (i := 43) rfl)) O rfl ?_
      refine g_dup_x1 (pc' := 14) C d8_13 rfl rfl rfl ?_
      refine g_iconst (pc' := 15) (z := (1 : Int32)) C d8_14 rfl rfl ?_
      refine g_iadd (pc' := 16) C d8_15 rfl ?_
      refine g_putO (pc' := 19) (j := 1) (ty := .int) (v' := (.int (z + (1 : Int32)))) (fs' := [("com/example/strict_replicas/strictreplicas/expenses/Bytes$Reader", "bytes", "[B", (.ref b)), ("com/example/strict_replicas/strictreplicas/expenses/Bytes$Reader", "position", "I", (.int (z + (1 : Int32))))]) C d8_16 rfl (hw _ (List.mem_of_getElem? (i := 43) rfl)) Via.refl O rfl (Or.inl (hw _ (List.mem_of_getElem? (i := 44) rfl))) (hw _ (List.mem_of_getElem? (i := 30) rfl)) (by decide) rfl rfl rfl (C.old (List.mem_cons_self ..)) fun h11 O Kh11 => ?_
      replace A := A.keep Kh11 (ninS nba nin0)
      refine g_baload (pc' := 20) (i := o + i) C d8_19 rfl A (by omega) hx ?_
      refine g_istore (pc' := 22) C d8_20 rfl (st_u hu) ?_
      refine g_lloadN (pc' := 23) C d8_22 rfl rfl ?_
      refine g_iload (pc' := 25) C d8_23 rfl rfl ?_
      refine g_bipush (pc' := 27) (z := (127 : Int32)) C d8_25 rfl rfl ?_
      refine g_iand (pc' := 28) C d8_27 rfl ?_
      refine g_i2l (pc' := 29) C d8_28 rfl ?_
      refine g_iloadN (pc' := 30) C d8_29 rfl rfl ?_
      refine g_lshl (pc' := 31) C d8_30 rfl ?_
      refine g_lor (pc' := 32) C d8_31 rfl ?_
      refine g_lstoreN (pc' := 33) (L' := #[.val (.ref a), .val (.long (j ||| (((x &&& (127 : Int32)).toInt64) <<< (s &&& 0x3f).toInt64))), .second, .val (.int s), .val (.int x)]) C d8_32 rfl rfl ?_
      refine g_iinc (pc' := 36) (z := (s + (7 : Int32))) (L' := #[.val (.ref a), .val (.long (j ||| (((x &&& (127 : Int32)).toInt64) <<< (s &&& 0x3f).toInt64))), .second, .val (.int (s + (7 : Int32))), .val (.int x)]) C d8_33 rfl rfl rfl rfl ?_
      refine g_iload (pc' := 38) C d8_36 rfl rfl ?_
      refine g_if (xi := x.toInt) (pc1 := 4) (pc2 := 41) C d8_38 (by decide) rfl rfl rfl (fun (c38 : x.toInt < 0) => ?_) (fun (c38 : ¬ (x.toInt < 0)) => ?_)
      ·
        exfalso; omega
      ·
        refine g_lloadN (pc' := 42) C d8_41 rfl rfl ?_
        refine g_retL C d8_42 (by decide) (by decide) ?_
        subst hQ
        refine ⟨_, _, rfl, ?_, ?_, O⟩
        · rw [rd_step hV (by omega) gj gx gs, show i + 1 = vlen V by omega]
          exact Nat.mod_eq_of_lt (vlen_lt hV)
        · omega
    | succ f ih =>
      intro h1 z s j i u hu gi gz gj gs O A
      obtain ⟨x, hx, gx⟩ := hB i (by omega)
      have x1 := byteAt_more (V := V) (i := i) (by omega)
      have x2 : V / 128 ^ i % 128 < 128 := Nat.mod_lt _ (by decide)
      have x3 := c_iadd s 7
      have x4 : (7 : Int32).toInt = 7 := rfl
      have x5 := rng32 (s + 7)
      have x6 := c_iadd z 1
      have x7 := rng32 (z + 1)
      have x8 : (1 : Int32).toInt = 1 := rfl
      rw [x4] at x3
      rw [x8] at x6
      refine g_aloadN (pc' := 5) C d8_4 rfl rfl rfl ?_
      refine g_getO (pc' := 8) (j := 0) C d8_5 rfl (hw _ (List.mem_of_getElem? (i := 41) rfl)) O rfl ?_
      refine g_aloadN (pc' := 9) C d8_8 rfl rfl rfl ?_
      refine g_dup (pc' := 10) C d8_9 rfl rfl ?_
      refine g_getO (pc' := 13) (j := 1) C d8_10 rfl (hw _ (List.mem_of_getElem? (i := 43) rfl)) O rfl ?_
      refine g_dup_x1 (pc' := 14) C d8_13 rfl rfl rfl ?_
      refine g_iconst (pc' := 15) (z := (1 : Int32)) C d8_14 rfl rfl ?_
      refine g_iadd (pc' := 16) C d8_15 rfl ?_
      refine g_putO (pc' := 19) (j := 1) (ty := .int) (v' := (.int (z + (1 : Int32)))) (fs' := [("com/example/strict_replicas/strictreplicas/expenses/Bytes$Reader", "bytes", "[B", (.ref b)), ("com/example/strict_replicas/strictreplicas/expenses/Bytes$Reader", "position", "I", (.int (z + (1 : Int32))))]) C d8_16 rfl (hw _ (List.mem_of_getElem? (i := 43) rfl)) Via.refl O rfl (Or.inl (hw _ (List.mem_of_getElem? (i := 44) rfl))) (hw _ (List.mem_of_getElem? (i := 30) rfl)) (by decide) rfl rfl rfl (C.old (List.mem_cons_self ..)) fun h11 O Kh11 => ?_
      replace A := A.keep Kh11 (ninS nba nin0)
      refine g_baload (pc' := 20) (i := o + i) C d8_19 rfl A (by omega) hx ?_
      refine g_istore (pc' := 22) C d8_20 rfl (st_u hu) ?_
      refine g_lloadN (pc' := 23) C d8_22 rfl rfl ?_
      refine g_iload (pc' := 25) C d8_23 rfl rfl ?_
      refine g_bipush (pc' := 27) (z := (127 : Int32)) C d8_25 rfl rfl ?_
      refine g_iand (pc' := 28) C d8_27 rfl ?_
      refine g_i2l (pc' := 29) C d8_28 rfl ?_
      refine g_iloadN (pc' := 30) C d8_29 rfl rfl ?_
      refine g_lshl (pc' := 31) C d8_30 rfl ?_
      refine g_lor (pc' := 32) C d8_31 rfl ?_
      refine g_lstoreN (pc' := 33) (L' := #[.val (.ref a), .val (.long (j ||| (((x &&& (127 : Int32)).toInt64) <<< (s &&& 0x3f).toInt64))), .second, .val (.int s), .val (.int x)]) C d8_32 rfl rfl ?_
      refine g_iinc (pc' := 36) (z := (s + (7 : Int32))) (L' := #[.val (.ref a), .val (.long (j ||| (((x &&& (127 : Int32)).toInt64) <<< (s &&& 0x3f).toInt64))), .second, .val (.int (s + (7 : Int32))), .val (.int x)]) C d8_33 rfl rfl rfl rfl ?_
      refine g_iload (pc' := 38) C d8_36 rfl rfl ?_
      refine g_if (xi := x.toInt) (pc1 := 4) (pc2 := 41) C d8_38 (by decide) rfl rfl rfl (fun (c38 : x.toInt < 0) => ?_) (fun (c38 : ¬ (x.toInt < 0)) => ?_)
      ·
        exact ih _ _ _ _ (i + 1) _ (Or.inr ⟨_, rfl⟩) (by omega) (by omega) (rd_step hV (by omega) gj gx gs) (by omega) O A
      ·
        exfalso; omega
  refine g_lconst (pc' := 1) (z := (0 : Int64)) C d8_0 rfl rfl ?_
  refine g_lstoreN (pc' := 2) (L' := #[.val (.ref a), .val (.long (0 : Int64)), .second, .unset, .unset]) C d8_1 rfl rfl ?_
  refine g_iconst (pc' := 3) (z := (0 : Int32)) C d8_2 rfl rfl ?_
  refine g_istoreN (pc' := 4) (L' := #[.val (.ref a), .val (.long (0 : Int64)), .second, .val (.int (0 : Int32)), .unset]) C d8_3 rfl rfl ?_
  exact loop (vlen V - 1) h q 0 0 0 _ (Or.inl rfl) (by omega) (by omega) (by rw [Nat.pow_zero, Nat.mod_one]; rfl) rfl O A
set_option maxRecDepth 65536 in
set_option maxHeartbeats 2000000 in
theorem con_size (l : Launch) (Z : State) (a0 : Array Value) (hw : ∀ d ∈ tables_1, d.before a0 Z = true) (v : Int64) (h : Heap)  :
    Con l Z [] (⟨"com/example/strict_replicas/strictreplicas/expenses/ReaderVarintPinLaw", "size", "(J)I"⟩ : MethodName) method_2_code 2 (some .int) ({ frames := 0, cells := 0, slots := 0, locals := 0 } : Room) #[(.long v)] h [] (fun u h' => ∃ z : Int32, u = some (.int z) ∧ h = h' ∧ z.toInt = vlen (U v)) := by
  refine Con.of_go (L0 := #[.val (.long v), .second]) (plainFor_of_name (by first | (simp [plainName, overriddenIn]; done) | decide +kernel)) (locals_of rfl) fun W Q hQ hl C => ?_
  subst hl
  have x1 := toInt_U v
  have x2 := v.toInt_lt
  have x3 := v.le_toInt
  have x4 : U v < 2 ^ 64 := v.toBitVec.isLt
  refine g_lloadN (pc' := 1) C d10_0 rfl rfl ?_
  refine g_lconst (pc' := 2) (z := (0 : Int64)) C d10_1 rfl rfl ?_
  refine g_lcmp (cd := .ge) (xi := v.toInt) (yi := (0)) (pc' := 3) (pc1 := 9) (pc2 := 6) C d10_2 d10_3 rfl (by decide) rfl rfl rfl rfl (fun (c2 : (0) ≤ v.toInt) => ?_) (fun (c2 : ¬ ((0) ≤ v.toInt)) => ?_)
  ·
    refine g_lloadN (pc' := 10) C d10_9 rfl rfl ?_
    refine g_ldc2L (pc' := 13) C d10_10 rfl (hw _ (List.mem_of_getElem? (i := 59) rfl)) ?_
    refine g_lcmp (cd := .ge) (xi := v.toInt) (yi := (128)) (pc' := 14) (pc1 := 19) (pc2 := 17) C d10_13 d10_14 rfl (by decide) rfl rfl rfl rfl (fun (c13 : (128) ≤ v.toInt) => ?_) (fun (c13 : ¬ ((128) ≤ v.toInt)) => ?_)
    ·
      refine g_lloadN (pc' := 20) C d10_19 rfl rfl ?_
      refine g_ldc2L (pc' := 23) C d10_20 rfl (hw _ (List.mem_of_getElem? (i := 62) rfl)) ?_
      refine g_lcmp (cd := .ge) (xi := v.toInt) (yi := (16384)) (pc' := 24) (pc1 := 29) (pc2 := 27) C d10_23 d10_24 rfl (by decide) rfl rfl rfl rfl (fun (c23 : (16384) ≤ v.toInt) => ?_) (fun (c23 : ¬ ((16384) ≤ v.toInt)) => ?_)
      ·
        refine g_lloadN (pc' := 30) C d10_29 rfl rfl ?_
        refine g_ldc2L (pc' := 33) C d10_30 rfl (hw _ (List.mem_of_getElem? (i := 63) rfl)) ?_
        refine g_lcmp (cd := .ge) (xi := v.toInt) (yi := (2097152)) (pc' := 34) (pc1 := 39) (pc2 := 37) C d10_33 d10_34 rfl (by decide) rfl rfl rfl rfl (fun (c33 : (2097152) ≤ v.toInt) => ?_) (fun (c33 : ¬ ((2097152) ≤ v.toInt)) => ?_)
        ·
          refine g_lloadN (pc' := 40) C d10_39 rfl rfl ?_
          refine g_ldc2L (pc' := 43) C d10_40 rfl (hw _ (List.mem_of_getElem? (i := 64) rfl)) ?_
          refine g_lcmp (cd := .ge) (xi := v.toInt) (yi := (268435456)) (pc' := 44) (pc1 := 49) (pc2 := 47) C d10_43 d10_44 rfl (by decide) rfl rfl rfl rfl (fun (c43 : (268435456) ≤ v.toInt) => ?_) (fun (c43 : ¬ ((268435456) ≤ v.toInt)) => ?_)
          ·
            refine g_lloadN (pc' := 50) C d10_49 rfl rfl ?_
            refine g_ldc2L (pc' := 53) C d10_50 rfl (hw _ (List.mem_of_getElem? (i := 65) rfl)) ?_
            refine g_lcmp (cd := .ge) (xi := v.toInt) (yi := (34359738368)) (pc' := 54) (pc1 := 59) (pc2 := 57) C d10_53 d10_54 rfl (by decide) rfl rfl rfl rfl (fun (c53 : (34359738368) ≤ v.toInt) => ?_) (fun (c53 : ¬ ((34359738368) ≤ v.toInt)) => ?_)
            ·
              refine g_lloadN (pc' := 60) C d10_59 rfl rfl ?_
              refine g_ldc2L (pc' := 63) C d10_60 rfl (hw _ (List.mem_of_getElem? (i := 66) rfl)) ?_
              refine g_lcmp (cd := .ge) (xi := v.toInt) (yi := (4398046511104)) (pc' := 64) (pc1 := 70) (pc2 := 67) C d10_63 d10_64 rfl (by decide) rfl rfl rfl rfl (fun (c63 : (4398046511104) ≤ v.toInt) => ?_) (fun (c63 : ¬ ((4398046511104) ≤ v.toInt)) => ?_)
              ·
                refine g_lloadN (pc' := 71) C d10_70 rfl rfl ?_
                refine g_ldc2L (pc' := 74) C d10_71 rfl (hw _ (List.mem_of_getElem? (i := 67) rfl)) ?_
                refine g_lcmp (cd := .ge) (xi := v.toInt) (yi := (562949953421312)) (pc' := 75) (pc1 := 81) (pc2 := 78) C d10_74 d10_75 rfl (by decide) rfl rfl rfl rfl (fun (c74 : (562949953421312) ≤ v.toInt) => ?_) (fun (c74 : ¬ ((562949953421312) ≤ v.toInt)) => ?_)
                ·
                  refine g_lloadN (pc' := 82) C d10_81 rfl rfl ?_
                  refine g_ldc2L (pc' := 85) C d10_82 rfl (hw _ (List.mem_of_getElem? (i := 68) rfl)) ?_
                  refine g_lcmp (cd := .ge) (xi := v.toInt) (yi := (72057594037927936)) (pc' := 86) (pc1 := 92) (pc2 := 89) C d10_85 d10_86 rfl (by decide) rfl rfl rfl rfl (fun (c85 : (72057594037927936) ≤ v.toInt) => ?_) (fun (c85 : ¬ ((72057594037927936) ≤ v.toInt)) => ?_)
                  ·
                    refine g_bipush (pc' := 94) (z := (9 : Int32)) C d10_92 rfl rfl ?_
                    refine g_retI C d10_94 (by decide) (by decide) ?_
                    subst hQ
                    refine ⟨_, rfl, rfl, ?_⟩
                    rw [vlen_of (m := 9) (by omega)]; rfl
                  ·
                    refine g_bipush (pc' := 91) (z := (8 : Int32)) C d10_89 rfl rfl ?_
                    refine g_retI C d10_91 (by decide) (by decide) ?_
                    subst hQ
                    refine ⟨_, rfl, rfl, ?_⟩
                    rw [vlen_of (m := 8) (by omega)]; rfl
                ·
                  refine g_bipush (pc' := 80) (z := (7 : Int32)) C d10_78 rfl rfl ?_
                  refine g_retI C d10_80 (by decide) (by decide) ?_
                  subst hQ
                  refine ⟨_, rfl, rfl, ?_⟩
                  rw [vlen_of (m := 7) (by omega)]; rfl
              ·
                refine g_bipush (pc' := 69) (z := (6 : Int32)) C d10_67 rfl rfl ?_
                refine g_retI C d10_69 (by decide) (by decide) ?_
                subst hQ
                refine ⟨_, rfl, rfl, ?_⟩
                rw [vlen_of (m := 6) (by omega)]; rfl
            ·
              refine g_iconst (pc' := 58) (z := (5 : Int32)) C d10_57 rfl rfl ?_
              refine g_retI C d10_58 (by decide) (by decide) ?_
              subst hQ
              refine ⟨_, rfl, rfl, ?_⟩
              rw [vlen_of (m := 5) (by omega)]; rfl
          ·
            refine g_iconst (pc' := 48) (z := (4 : Int32)) C d10_47 rfl rfl ?_
            refine g_retI C d10_48 (by decide) (by decide) ?_
            subst hQ
            refine ⟨_, rfl, rfl, ?_⟩
            rw [vlen_of (m := 4) (by omega)]; rfl
        ·
          refine g_iconst (pc' := 38) (z := (3 : Int32)) C d10_37 rfl rfl ?_
          refine g_retI C d10_38 (by decide) (by decide) ?_
          subst hQ
          refine ⟨_, rfl, rfl, ?_⟩
          rw [vlen_of (m := 3) (by omega)]; rfl
      ·
        refine g_iconst (pc' := 28) (z := (2 : Int32)) C d10_27 rfl rfl ?_
        refine g_retI C d10_28 (by decide) (by decide) ?_
        subst hQ
        refine ⟨_, rfl, rfl, ?_⟩
        rw [vlen_of (m := 2) (by omega)]; rfl
    ·
      refine g_iconst (pc' := 18) (z := (1 : Int32)) C d10_17 rfl rfl ?_
      refine g_retI C d10_18 (by decide) (by decide) ?_
      subst hQ
      refine ⟨_, rfl, rfl, ?_⟩
      rw [vlen_of (m := 1) (by omega)]; rfl
  ·
    refine g_bipush (pc' := 8) (z := (10 : Int32)) C d10_6 rfl rfl ?_
    refine g_retI C d10_8 (by decide) (by decide) ?_
    subst hQ
    refine ⟨_, rfl, rfl, ?_⟩
    rw [vlen_of (m := 10) (by omega)]; rfl
set_option maxRecDepth 65536 in
set_option maxHeartbeats 2000000 in
theorem con_0 (l : Launch) (Z : State) (a0 : Array Value) (hw : ∀ d ∈ tables_1, d.before a0 Z = true) (p0 p1 : Int64) (h : Heap)  :
    Con l Z tables_1 x code maxLocals ret room_1 #[(.long p0), (.long p1)] h [] (fun v _ => v = some (.int 1)) := by
  refine Con.of_go (L0 := #[.val (.long p0), .second, .val (.long p1), .second, .unset, .unset, .unset, .unset, .unset, .unset, .unset, .unset, .unset, .unset]) (plainFor_of_name (by first | (simp [plainName, overriddenIn]; done) | decide +kernel)) (locals_of rfl) fun W Q hQ hl C => ?_
  subst hl
  have b0 := vlen_rng (U p0)
  have b1 := vlen_rng (U p1)
  refine g_new (pc' := 3) (k' := 1) (n' := 2) C at_0 rfl (hw _ (List.mem_of_getElem? (i := 0) rfl)) (hw _ (List.mem_of_getElem? (i := 1) rfl)) (hw _ (List.mem_of_getElem? (i := 2) rfl)) rfl rfl (by decide) (by decide) fun h1 a1 e_a1 Eh1 Xa1 Da1 w_a1 => ?_
  have Oa1 : Ob Z h1 a1 "com/example/strict_replicas/strictreplicas/expenses/Bytes" [("com/example/strict_replicas/strictreplicas/expenses/Bytes", "bytes", "[B", .null), ("com/example/strict_replicas/strictreplicas/expenses/Bytes", "length", "I", (.int (0 : Int32)))] := ⟨Xa1, by
    simp only [List.forall_mem_cons, List.not_mem_nil, false_implies, implies_true, and_true]
    exact ⟨Da1 (Or.inl (hw _ (List.mem_of_getElem? (i := 11) rfl))) (ty := (.array .byte)) (by decide), Da1 (Or.inl (hw _ (List.mem_of_getElem? (i := 22) rfl))) (ty := .int) (by decide)⟩, dis_0 Z a0 hw⟩
  refine g_dup (pc' := 4) C at_3 rfl rfl ?_
  refine g_special (y := (⟨"com/example/strict_replicas/strictreplicas/expenses/Bytes", "<init>", "()V"⟩ : MethodName)) (a := a1) (pc' := 7) (k' := 2) (n' := 258) (S := [(.ref a1)]) (as := []) C at_4 rfl rfl (hw _ (List.mem_of_getElem? (i := 3) rfl)) (hw _ (List.mem_of_getElem? (i := 4) rfl)) (hw _ (List.mem_of_getElem? (i := 2) rfl)) (hw _ (List.mem_of_getElem? (i := 5) rfl)) (by decide) (lenOf pd_1 rfl) (con_init W.l Z a0 hw a1 h1 Oa1) rfl rfl (Nat.le_of_ble_eq_true rfl) (Nat.le_of_ble_eq_true rfl) rfl rfl (Nat.le_of_ble_eq_true rfl) (Nat.le_of_ble_eq_true rfl) (allS w_a1 all0) fun vh2 h2 qh2 Kh2 => ?_
  obtain ⟨rfl, d, vs0, gd, nda, hl0, Oa1, A⟩ := qh2
  show Go W Q h2 2 258 7 #[.val (.long p0), .second, .val (.long p1), .second, .unset, .unset, .unset, .unset, .unset, .unset, .unset, .unset, .unset, .unset] [(.ref a1)]
  have w_d : Pw W d := C.new (Nat.le_trans Eh1.1 gd)
  refine g_astore (pc' := 9) (L' := #[.val (.long p0), .second, .val (.long p1), .second, .val (.ref a1), .unset, .unset, .unset, .unset, .unset, .unset, .unset, .unset, .unset]) C at_7 rfl rfl rfl ?_
  refine g_aload (pc' := 11) C at_9 rfl rfl rfl ?_
  refine g_lloadN (pc' := 12) C at_11 rfl rfl ?_
  refine g_virtual (y := (⟨"com/example/strict_replicas/strictreplicas/expenses/Bytes", "varint", "(J)V"⟩ : MethodName)) (a := a1) (pc' := 15) (k' := 2) (n' := 258) (S := []) (as := [(.long p0)]) C at_12 rfl (hw _ (List.mem_of_getElem? (i := 12) rfl)) (hw _ (List.mem_of_getElem? (i := 14) rfl)) (hw _ (List.mem_of_getElem? (i := 2) rfl)) (hw _ (List.mem_of_getElem? (i := 16) rfl)) (hw _ (List.mem_of_getElem? (i := 13) rfl)) (hw _ (List.mem_of_getElem? (i := 15) rfl)) (by decide) Oa1.1 (lenOf pd_2 rfl) (con_write W.l Z a0 hw a1 d (0 : Int32) p0 0 vs0 rfl (by omega) hl0 nda h2 Oa1 A) rfl rfl (Nat.le_of_ble_eq_true rfl) (Nat.le_of_ble_eq_true rfl) rfl rfl (Nat.le_of_ble_eq_true rfl) (Nat.le_of_ble_eq_true rfl) (allS w_a1 (allS w_d all0)) fun vh3 h3 qh3 Kh3 => ?_
  obtain ⟨rfl, c1, vs1, hc1, hw1, Oa1, A⟩ := qh3
  show Go W Q h3 2 258 15 #[.val (.long p0), .second, .val (.long p1), .second, .val (.ref a1), .unset, .unset, .unset, .unset, .unset, .unset, .unset, .unset, .unset] []
  refine g_aload (pc' := 17) C at_15 rfl rfl rfl ?_
  refine g_virtualP (y := (⟨"com/example/strict_replicas/strictreplicas/expenses/Bytes", "length", "()I"⟩ : MethodName)) (a := a1) (pc' := 20) (k' := 2) (n' := 258) (S := []) (as := []) C at_17 rfl (hw _ (List.mem_of_getElem? (i := 24) rfl)) (hw _ (List.mem_of_getElem? (i := 26) rfl)) (hw _ (List.mem_of_getElem? (i := 2) rfl)) (hw _ (List.mem_of_getElem? (i := 28) rfl)) (hw _ (List.mem_of_getElem? (i := 25) rfl)) (hw _ (List.mem_of_getElem? (i := 27) rfl)) (by decide) Oa1.1 (lenOf pd_3 rfl) (con_len W.l Z a0 hw a1 d c1 h3 Oa1) rfl rfl (Nat.le_of_ble_eq_true rfl) (Nat.le_of_ble_eq_true rfl) rfl rfl (Nat.le_of_ble_eq_true rfl) (Nat.le_of_ble_eq_true rfl) (S1 := [(.int c1)]) rfl ?_
  refine g_istore (pc' := 22) (L' := #[.val (.long p0), .second, .val (.long p1), .second, .val (.ref a1), .val (.int c1), .unset, .unset, .unset, .unset, .unset, .unset, .unset, .unset]) C at_20 rfl rfl ?_
  refine g_aload (pc' := 24) C at_22 rfl rfl rfl ?_
  refine g_lloadN (pc' := 25) C at_24 rfl rfl ?_
  refine g_virtual (y := (⟨"com/example/strict_replicas/strictreplicas/expenses/Bytes", "varint", "(J)V"⟩ : MethodName)) (a := a1) (pc' := 28) (k' := 2) (n' := 258) (S := []) (as := [(.long p1)]) C at_25 rfl (hw _ (List.mem_of_getElem? (i := 12) rfl)) (hw _ (List.mem_of_getElem? (i := 14) rfl)) (hw _ (List.mem_of_getElem? (i := 2) rfl)) (hw _ (List.mem_of_getElem? (i := 16) rfl)) (hw _ (List.mem_of_getElem? (i := 13) rfl)) (hw _ (List.mem_of_getElem? (i := 15) rfl)) (by decide) Oa1.1 (lenOf pd_2 rfl) (con_write W.l Z a0 hw a1 d c1 p1 (vlen (U p0)) vs1 (by omega) (by omega) hw1.1 nda h3 Oa1 A) rfl rfl (Nat.le_of_ble_eq_true rfl) (Nat.le_of_ble_eq_true rfl) rfl rfl (Nat.le_of_ble_eq_true rfl) (Nat.le_of_ble_eq_true rfl) (allS w_a1 (allS w_d all0)) fun vh4 h4 qh4 Kh4 => ?_
  obtain ⟨rfl, c2, vs2, hc2, hw2, Oa1, A⟩ := qh4
  show Go W Q h4 2 258 28 #[.val (.long p0), .second, .val (.long p1), .second, .val (.ref a1), .val (.int c1), .unset, .unset, .unset, .unset, .unset, .unset, .unset, .unset] []
  refine g_aload (pc' := 30) C at_28 rfl rfl rfl ?_
  refine g_virtualP (y := (⟨"com/example/strict_replicas/strictreplicas/expenses/Bytes", "length", "()I"⟩ : MethodName)) (a := a1) (pc' := 33) (k' := 2) (n' := 258) (S := []) (as := []) C at_30 rfl (hw _ (List.mem_of_getElem? (i := 24) rfl)) (hw _ (List.mem_of_getElem? (i := 26) rfl)) (hw _ (List.mem_of_getElem? (i := 2) rfl)) (hw _ (List.mem_of_getElem? (i := 28) rfl)) (hw _ (List.mem_of_getElem? (i := 25) rfl)) (hw _ (List.mem_of_getElem? (i := 27) rfl)) (by decide) Oa1.1 (lenOf pd_3 rfl) (con_len W.l Z a0 hw a1 d c2 h4 Oa1) rfl rfl (Nat.le_of_ble_eq_true rfl) (Nat.le_of_ble_eq_true rfl) rfl rfl (Nat.le_of_ble_eq_true rfl) (Nat.le_of_ble_eq_true rfl) (S1 := [(.int c2)]) rfl ?_
  refine g_istore (pc' := 35) (L' := #[.val (.long p0), .second, .val (.long p1), .second, .val (.ref a1), .val (.int c1), .val (.int c2), .unset, .unset, .unset, .unset, .unset, .unset, .unset]) C at_33 rfl rfl ?_
  refine g_new (pc' := 38) (k' := 3) (n' := 260) C at_35 rfl (hw _ (List.mem_of_getElem? (i := 29) rfl)) (hw _ (List.mem_of_getElem? (i := 30) rfl)) (hw _ (List.mem_of_getElem? (i := 31) rfl)) rfl rfl (by decide) (by decide) fun h5 a2 e_a2 Eh5 Xa2 Da2 w_a2 => ?_
  have n_a1_a2 : a1 ≠ a2 := by rw [e_a2]; exact Nat.ne_of_lt Oa1.lt
  have n_d_a2 : d ≠ a2 := by rw [e_a2]; exact Nat.ne_of_lt A.lt
  replace Oa1 := Oa1.ext Eh5
  replace A := A.ext Eh5
  have Oa2 : Ob Z h5 a2 "com/example/strict_replicas/strictreplicas/expenses/Bytes$Reader" [("com/example/strict_replicas/strictreplicas/expenses/Bytes$Reader", "bytes", "[B", .null), ("com/example/strict_replicas/strictreplicas/expenses/Bytes$Reader", "position", "I", (.int (0 : Int32)))] := ⟨Xa2, by
    simp only [List.forall_mem_cons, List.not_mem_nil, false_implies, implies_true, and_true]
    exact ⟨Da2 (Or.inr (hw _ (List.mem_of_getElem? (i := 42) rfl))) (ty := (.array .byte)) (by decide), Da2 (Or.inl (hw _ (List.mem_of_getElem? (i := 44) rfl))) (ty := .int) (by decide)⟩, dis_1 Z a0 hw⟩
  refine g_dup (pc' := 39) C at_38 rfl rfl ?_
  refine g_aload (pc' := 41) C at_39 rfl rfl rfl ?_
  refine g_virtualP (y := (⟨"com/example/strict_replicas/strictreplicas/expenses/Bytes", "bytes", "()[B"⟩ : MethodName)) (a := a1) (pc' := 44) (k' := 3) (n' := 260) (S := [(.ref a2), (.ref a2)]) (as := []) C at_41 rfl (hw _ (List.mem_of_getElem? (i := 32) rfl)) (hw _ (List.mem_of_getElem? (i := 34) rfl)) (hw _ (List.mem_of_getElem? (i := 2) rfl)) (hw _ (List.mem_of_getElem? (i := 36) rfl)) (hw _ (List.mem_of_getElem? (i := 33) rfl)) (hw _ (List.mem_of_getElem? (i := 35) rfl)) (by decide) Oa1.1 (lenOf pd_4 rfl) (con_bytes W.l Z a0 hw a1 d c2 h5 Oa1) rfl rfl (Nat.le_of_ble_eq_true rfl) (Nat.le_of_ble_eq_true rfl) rfl rfl (Nat.le_of_ble_eq_true rfl) (Nat.le_of_ble_eq_true rfl) (S1 := [(.ref d), (.ref a2), (.ref a2)]) rfl ?_
  refine g_iconst (pc' := 45) (z := (0 : Int32)) C at_44 rfl rfl ?_
  refine g_special (y := (⟨"com/example/strict_replicas/strictreplicas/expenses/Bytes$Reader", "<init>", "([BI)V"⟩ : MethodName)) (a := a2) (pc' := 48) (k' := 3) (n' := 260) (S := [(.ref a2)]) (as := [(.ref d), (.int (0 : Int32))]) C at_45 rfl rfl (hw _ (List.mem_of_getElem? (i := 37) rfl)) (hw _ (List.mem_of_getElem? (i := 38) rfl)) (hw _ (List.mem_of_getElem? (i := 31) rfl)) (hw _ (List.mem_of_getElem? (i := 39) rfl)) (by decide) (lenOf pd_5 rfl) (con_rinit W.l Z a0 hw a2 d (0 : Int32) h5 Oa2) rfl rfl (Nat.le_of_ble_eq_true rfl) (Nat.le_of_ble_eq_true rfl) rfl rfl (Nat.le_of_ble_eq_true rfl) (Nat.le_of_ble_eq_true rfl) (allS w_a2 all0) fun vh6 h6 qh6 Kh6 => ?_
  obtain ⟨rfl, Oa2⟩ := qh6
  replace Oa1 := Oa1.keep Kh6 (ninS n_a1_a2 nin0)
  replace A := A.keep Kh6 (ninS n_d_a2 nin0)
  show Go W Q h6 3 260 48 #[.val (.long p0), .second, .val (.long p1), .second, .val (.ref a1), .val (.int c1), .val (.int c2), .unset, .unset, .unset, .unset, .unset, .unset, .unset] [(.ref a2)]
  refine g_astore (pc' := 50) (L' := #[.val (.long p0), .second, .val (.long p1), .second, .val (.ref a1), .val (.int c1), .val (.int c2), .val (.ref a2), .unset, .unset, .unset, .unset, .unset, .unset]) C at_48 rfl rfl rfl ?_
  refine g_aload (pc' := 52) C at_50 rfl rfl rfl ?_
  have hB0 : ∀ k, k < vlen (U p0) → ∃ x : Int32, vs2[0 + k]? = some (.int x) ∧ x.toInt = byteAt (U p0) k := fun k hk => by
    obtain ⟨x, e1, e2⟩ := hw1.2.2 k hk
    exact ⟨x, by rw [hw2.2.1 (0 + k) (by omega)]; exact e1, e2⟩
  have hB1 := hw2.2.2
  refine g_virtual (y := (⟨"com/example/strict_replicas/strictreplicas/expenses/Bytes$Reader", "varint", "()J"⟩ : MethodName)) (a := a2) (pc' := 55) (k' := 3) (n' := 260) (S := []) (as := []) C at_52 rfl (hw _ (List.mem_of_getElem? (i := 45) rfl)) (hw _ (List.mem_of_getElem? (i := 47) rfl)) (hw _ (List.mem_of_getElem? (i := 31) rfl)) (hw _ (List.mem_of_getElem? (i := 49) rfl)) (hw _ (List.mem_of_getElem? (i := 46) rfl)) (hw _ (List.mem_of_getElem? (i := 48) rfl)) (by decide) Oa2.1 (lenOf pd_6 rfl) (con_read W.l Z a0 hw a2 d (0 : Int32) 0 (U p0) vs2 rfl (by omega) p0.toBitVec.isLt hB0 n_d_a2 h6 Oa2 A) rfl rfl (Nat.le_of_ble_eq_true rfl) (Nat.le_of_ble_eq_true rfl) rfl rfl (Nat.le_of_ble_eq_true rfl) (Nat.le_of_ble_eq_true rfl) (allS w_a2 all0) fun vh7 h7 qh7 Kh7 => ?_
  obtain ⟨j0, q0, rfl, uj0, hq0, Oa2⟩ := qh7
  replace Oa1 := Oa1.keep Kh7 (ninS n_a1_a2 nin0)
  replace A := A.keep Kh7 (ninS n_d_a2 nin0)
  show Go W Q h7 3 260 55 #[.val (.long p0), .second, .val (.long p1), .second, .val (.ref a1), .val (.int c1), .val (.int c2), .val (.ref a2), .unset, .unset, .unset, .unset, .unset, .unset] [(.long j0)]
  have ej0 : j0 = p0 := U_inj uj0
  refine g_lstore (pc' := 57) (L' := #[.val (.long p0), .second, .val (.long p1), .second, .val (.ref a1), .val (.int c1), .val (.int c2), .val (.ref a2), .val (.long j0), .second, .unset, .unset, .unset, .unset]) C at_55 rfl rfl ?_
  refine g_aload (pc' := 59) C at_57 rfl rfl rfl ?_
  refine g_virtualP (y := (⟨"com/example/strict_replicas/strictreplicas/expenses/Bytes$Reader", "position", "()I"⟩ : MethodName)) (a := a2) (pc' := 62) (k' := 3) (n' := 260) (S := []) (as := []) C at_59 rfl (hw _ (List.mem_of_getElem? (i := 50) rfl)) (hw _ (List.mem_of_getElem? (i := 52) rfl)) (hw _ (List.mem_of_getElem? (i := 31) rfl)) (hw _ (List.mem_of_getElem? (i := 54) rfl)) (hw _ (List.mem_of_getElem? (i := 51) rfl)) (hw _ (List.mem_of_getElem? (i := 53) rfl)) (by decide) Oa2.1 (lenOf pd_3 rfl) (con_pos W.l Z a0 hw a2 d q0 h7 Oa2) rfl rfl (Nat.le_of_ble_eq_true rfl) (Nat.le_of_ble_eq_true rfl) rfl rfl (Nat.le_of_ble_eq_true rfl) (Nat.le_of_ble_eq_true rfl) (S1 := [(.int q0)]) rfl ?_
  refine g_istore (pc' := 64) (L' := #[.val (.long p0), .second, .val (.long p1), .second, .val (.ref a1), .val (.int c1), .val (.int c2), .val (.ref a2), .val (.long j0), .second, .val (.int q0), .unset, .unset, .unset]) C at_62 rfl rfl ?_
  refine g_aload (pc' := 66) C at_64 rfl rfl rfl ?_
  refine g_virtual (y := (⟨"com/example/strict_replicas/strictreplicas/expenses/Bytes$Reader", "varint", "()J"⟩ : MethodName)) (a := a2) (pc' := 69) (k' := 3) (n' := 260) (S := []) (as := []) C at_66 rfl (hw _ (List.mem_of_getElem? (i := 45) rfl)) (hw _ (List.mem_of_getElem? (i := 47) rfl)) (hw _ (List.mem_of_getElem? (i := 31) rfl)) (hw _ (List.mem_of_getElem? (i := 49) rfl)) (hw _ (List.mem_of_getElem? (i := 46) rfl)) (hw _ (List.mem_of_getElem? (i := 48) rfl)) (by decide) Oa2.1 (lenOf pd_6 rfl) (con_read W.l Z a0 hw a2 d q0 (vlen (U p0)) (U p1) vs2 (by omega) (by omega) p1.toBitVec.isLt hB1 n_d_a2 h7 Oa2 A) rfl rfl (Nat.le_of_ble_eq_true rfl) (Nat.le_of_ble_eq_true rfl) rfl rfl (Nat.le_of_ble_eq_true rfl) (Nat.le_of_ble_eq_true rfl) (allS w_a2 all0) fun vh8 h8 qh8 Kh8 => ?_
  obtain ⟨j1, q1, rfl, uj1, hq1, Oa2⟩ := qh8
  replace Oa1 := Oa1.keep Kh8 (ninS n_a1_a2 nin0)
  replace A := A.keep Kh8 (ninS n_d_a2 nin0)
  show Go W Q h8 3 260 69 #[.val (.long p0), .second, .val (.long p1), .second, .val (.ref a1), .val (.int c1), .val (.int c2), .val (.ref a2), .val (.long j0), .second, .val (.int q0), .unset, .unset, .unset] [(.long j1)]
  have ej1 : j1 = p1 := U_inj uj1
  refine g_lstore (pc' := 71) (L' := #[.val (.long p0), .second, .val (.long p1), .second, .val (.ref a1), .val (.int c1), .val (.int c2), .val (.ref a2), .val (.long j0), .second, .val (.int q0), .val (.long j1), .second, .unset]) C at_69 rfl rfl ?_
  refine g_aload (pc' := 73) C at_71 rfl rfl rfl ?_
  refine g_virtualP (y := (⟨"com/example/strict_replicas/strictreplicas/expenses/Bytes$Reader", "position", "()I"⟩ : MethodName)) (a := a2) (pc' := 76) (k' := 3) (n' := 260) (S := []) (as := []) C at_73 rfl (hw _ (List.mem_of_getElem? (i := 50) rfl)) (hw _ (List.mem_of_getElem? (i := 52) rfl)) (hw _ (List.mem_of_getElem? (i := 31) rfl)) (hw _ (List.mem_of_getElem? (i := 54) rfl)) (hw _ (List.mem_of_getElem? (i := 51) rfl)) (hw _ (List.mem_of_getElem? (i := 53) rfl)) (by decide) Oa2.1 (lenOf pd_3 rfl) (con_pos W.l Z a0 hw a2 d q1 h8 Oa2) rfl rfl (Nat.le_of_ble_eq_true rfl) (Nat.le_of_ble_eq_true rfl) rfl rfl (Nat.le_of_ble_eq_true rfl) (Nat.le_of_ble_eq_true rfl) (S1 := [(.int q1)]) rfl ?_
  refine g_istore (pc' := 78) (L' := #[.val (.long p0), .second, .val (.long p1), .second, .val (.ref a1), .val (.int c1), .val (.int c2), .val (.ref a2), .val (.long j0), .second, .val (.int q0), .val (.long j1), .second, .val (.int q1)]) C at_76 rfl rfl ?_
  refine g_lload (pc' := 80) C at_78 rfl rfl ?_
  refine g_lloadN (pc' := 81) C at_80 rfl rfl ?_
  refine g_lcmp (cd := .ne) (xi := j0.toInt) (yi := p0.toInt) (pc' := 82) (pc1 := 131) (pc2 := 85) C at_81 at_82 rfl (by decide) rfl rfl rfl rfl (fun (c81 : ¬ (j0.toInt = p0.toInt)) => ?_) (fun (c81 : ¬ (¬ (j0.toInt = p0.toInt))) => ?_)
  ·
    exfalso
    rw [ej0] at c81
    exact c81 rfl
  ·
    replace c81 : j0.toInt = p0.toInt := Decidable.not_not.mp c81
    refine g_iload (pc' := 87) C at_85 rfl rfl ?_
    refine g_iload (pc' := 89) C at_87 rfl rfl ?_
    refine g_icmp (xi := q0.toInt) (yi := c1.toInt) (pc1 := 131) (pc2 := 92) C at_89 (by decide) rfl rfl rfl rfl (fun (c89 : ¬ (q0.toInt = c1.toInt)) => ?_) (fun (c89 : ¬ (¬ (q0.toInt = c1.toInt))) => ?_)
    ·
      exfalso
      omega
    ·
      replace c89 : q0.toInt = c1.toInt := Decidable.not_not.mp c89
      refine g_iload (pc' := 94) C at_92 rfl rfl ?_
      refine g_lloadN (pc' := 95) C at_94 rfl rfl ?_
      refine g_static (y := (⟨"com/example/strict_replicas/strictreplicas/expenses/ReaderVarintPinLaw", "size", "(J)I"⟩ : MethodName)) (pc' := 98) (k' := 3) (n' := 260) (S := [(.int q0)]) (as := [(.long p0)]) C at_95 rfl (hw _ (List.mem_of_getElem? (i := 55) rfl)) (hw _ (List.mem_of_getElem? (i := 56) rfl)) (hw _ (List.mem_of_getElem? (i := 57) rfl)) (hw _ (List.mem_of_getElem? (i := 58) rfl)) (by decide) (lenOf pd_7 rfl) (con_size W.l Z a0 hw p0 h8) rfl rfl (Nat.le_of_ble_eq_true rfl) (Nat.le_of_ble_eq_true rfl) rfl rfl (Nat.le_of_ble_eq_true rfl) (Nat.le_of_ble_eq_true rfl) all0 fun vh9 h9 qh9 Kh9 => ?_
      obtain ⟨zp0, rfl, eh, gzp0⟩ := qh9
      subst eh
      show Go W Q h8 3 260 98 #[.val (.long p0), .second, .val (.long p1), .second, .val (.ref a1), .val (.int c1), .val (.int c2), .val (.ref a2), .val (.long j0), .second, .val (.int q0), .val (.long j1), .second, .val (.int q1)] [(.int zp0), (.int q0)]
      refine g_icmp (xi := q0.toInt) (yi := zp0.toInt) (pc1 := 131) (pc2 := 101) C at_98 (by decide) rfl rfl rfl rfl (fun (c98 : ¬ (q0.toInt = zp0.toInt)) => ?_) (fun (c98 : ¬ (¬ (q0.toInt = zp0.toInt))) => ?_)
      ·
        exfalso
        omega
      ·
        replace c98 : q0.toInt = zp0.toInt := Decidable.not_not.mp c98
        refine g_lload (pc' := 103) C at_101 rfl rfl ?_
        refine g_lloadN (pc' := 104) C at_103 rfl rfl ?_
        refine g_lcmp (cd := .ne) (xi := j1.toInt) (yi := p1.toInt) (pc' := 105) (pc1 := 131) (pc2 := 108) C at_104 at_105 rfl (by decide) rfl rfl rfl rfl (fun (c104 : ¬ (j1.toInt = p1.toInt)) => ?_) (fun (c104 : ¬ (¬ (j1.toInt = p1.toInt))) => ?_)
        ·
          exfalso
          rw [ej1] at c104
          exact c104 rfl
        ·
          replace c104 : j1.toInt = p1.toInt := Decidable.not_not.mp c104
          refine g_iload (pc' := 110) C at_108 rfl rfl ?_
          refine g_iload (pc' := 112) C at_110 rfl rfl ?_
          refine g_icmp (xi := q1.toInt) (yi := c2.toInt) (pc1 := 131) (pc2 := 115) C at_112 (by decide) rfl rfl rfl rfl (fun (c112 : ¬ (q1.toInt = c2.toInt)) => ?_) (fun (c112 : ¬ (¬ (q1.toInt = c2.toInt))) => ?_)
          ·
            exfalso
            omega
          ·
            replace c112 : q1.toInt = c2.toInt := Decidable.not_not.mp c112
            refine g_iload (pc' := 117) C at_115 rfl rfl ?_
            refine g_iload (pc' := 119) C at_117 rfl rfl ?_
            refine g_isub (pc' := 120) C at_119 rfl ?_
            refine g_lloadN (pc' := 121) C at_120 rfl rfl ?_
            refine g_static (y := (⟨"com/example/strict_replicas/strictreplicas/expenses/ReaderVarintPinLaw", "size", "(J)I"⟩ : MethodName)) (pc' := 124) (k' := 3) (n' := 260) (S := [(.int (q1 - q0))]) (as := [(.long p1)]) C at_121 rfl (hw _ (List.mem_of_getElem? (i := 55) rfl)) (hw _ (List.mem_of_getElem? (i := 56) rfl)) (hw _ (List.mem_of_getElem? (i := 57) rfl)) (hw _ (List.mem_of_getElem? (i := 58) rfl)) (by decide) (lenOf pd_7 rfl) (con_size W.l Z a0 hw p1 h8) rfl rfl (Nat.le_of_ble_eq_true rfl) (Nat.le_of_ble_eq_true rfl) rfl rfl (Nat.le_of_ble_eq_true rfl) (Nat.le_of_ble_eq_true rfl) all0 fun vh10 h10 qh10 Kh10 => ?_
            obtain ⟨zp1, rfl, eh, gzp1⟩ := qh10
            subst eh
            show Go W Q h8 3 260 124 #[.val (.long p0), .second, .val (.long p1), .second, .val (.ref a1), .val (.int c1), .val (.int c2), .val (.ref a2), .val (.long j0), .second, .val (.int q0), .val (.long j1), .second, .val (.int q1)] [(.int zp1), (.int (q1 - q0))]
            refine g_icmp (xi := (q1 - q0).toInt) (yi := zp1.toInt) (pc1 := 131) (pc2 := 127) C at_124 (by decide) rfl rfl rfl rfl (fun (c124 : ¬ ((q1 - q0).toInt = zp1.toInt)) => ?_) (fun (c124 : ¬ (¬ ((q1 - q0).toInt = zp1.toInt))) => ?_)
            ·
              exfalso
              have x1 := c_isub q1 q0
              have x2 := rng32 (q1 - q0)
              omega
            ·
              replace c124 : (q1 - q0).toInt = zp1.toInt := Decidable.not_not.mp c124
              refine g_iconst (pc' := 128) (z := (1 : Int32)) C at_127 rfl rfl ?_
              refine g_goto C at_128 (by decide) (pc' := 132) rfl ?_
              refine g_retN C (by simp) at_132 (by decide) (by decide) ?_
              subst hQ
              rfl
set_option maxRecDepth 65536 in
set_option maxHeartbeats 2000000 in
theorem comes_1 {Post : Tables → Env → Array Value → State → Outcome → State → Prop} (hpost : ∀ tb e args s v u, (limb_1_1.after args s (.returned v) u = true ∧ limb_1_2.after args s (.returned v) u = true ∧ True) → FrameEnd s (.returned v) u (Jvm.fieldLocs frame_1_writes args s ++ Jvm.arrayLocs frame_1_arrays args s ++ Jvm.staticLocs frame_1_statics s) 16 640 → Post tb e args s (.returned v) u) :
    ArmFor flags0 classFile x code maxLocals ret World_1 tables_1 room_1 Calls_1 rest_1 Pre_1 Post := by
  intro l hfl _ _ p e ha hc hk s m args below hf hA hF happ hP
  obtain ⟨hcalls, hrest, hpre⟩ := hP
  obtain ⟨-, -, -, hnamed, -, -, -, hat⟩ := (Spec.applies_iff hf).mp happ
  obtain ⟨hg, hn⟩ := and_e (Cond.before_iff.mp (show (Jvm.Cond.and given_1 narrow_1).before args s = true from hpre))
  obtain ⟨g1, g2⟩ := and_e hg
  obtain ⟨g3, g4⟩ := and_e g2
  obtain ⟨w0, w1, rfl⟩ : ∃ w0 w1 : Value, args = #[w0, w1] := by
    have hs : args.size = 2 := by simpa [Cond.value, given_1] using g1
    obtain ⟨L⟩ := args
    match L, hs with
    | [w0, w1], _ => exact ⟨w0, w1, rfl⟩
  have hw := fun d (hd : d ∈ tables_1) => atoms_spec (ws := Jvm.Cond.code x code maxLocals ret :: tables_1) hat d (List.mem_cons_of_mem _ hd)
  obtain ⟨i0, ei0⟩ := isL_v g3
  obtain rfl : w0 = (.long i0) := Option.some.inj ei0
  obtain ⟨i1, ei1⟩ := isL_v g4
  obtain rfl : w1 = (.long i1) := Option.some.inj ei1
  obtain ⟨n, o, h1, h2, h3, _, L, rfl, ⟨rfl, N⟩, hq⟩ := con_0 l s _ hw i0 i1 s.heap p e ha hc hk s m _ below hf ((Spec.applies_iff_loose hf).mp happ).1 ⟨rfl, State.Warmed39.refl s, rfl⟩ trivial
  refine ⟨n, _, h1, h2, h3, hpost _ _ _ _ _ _ ⟨Cond.after_iff.mpr rfl, Cond.after_iff.mpr (eq_i res_at (Term.int_eval (1)) rfl), trivial⟩ ⟨hq.1, hq.2.1, (hq.2.2.sift fun y hy => Or.inr ((N y hy).resolve_left (fun q => nomatch q))).mono (by decide) (by decide)⟩⟩
theorem main_1_1 : Claimed_1_1 := comes_1 fun _ _ _ _ _ _ h hF => ⟨h.1, hF⟩
theorem main_1_2 : Claimed_1_2 := comes_1 fun _ _ _ _ _ _ h hF => ⟨h.2.1, hF⟩
end Jvm.Pilot.@@N@@
namespace Jvm.Pilot.@@N@@
open Jvm Jvm.ClassFile Sem Op Lib Jvm.Free Jvm.Stand Jvm.Pilot.@@N@@.Jvm.D
/-! MADE BY PROGRAM (witnessworld.py) out of the Statement's table words and the real class files: 10 classes; the members and pool entries that the words name. The judged class is class 1, her method 2. -/
namespace start1
open Jvm.ClassFile
def u (s : String) : CpInfo := .utf8 (stringToUtf16 s)
/-- a pool by its gaps: so many unusable entries, then the entry; so many at the end -/
def gap : Nat → List CpInfo → List CpInfo
  | 0, r => r
  | n + 1, r => .unusable :: gap n r
def poolList (es : List (Nat × CpInfo)) (last : Nat) : List CpInfo := es.foldr (fun e r => gap e.1 (e.2 :: r)) (gap last [])
def pool (es : List (Nat × CpInfo)) (last : Nat) : Array CpInfo := ⟨poolList es last⟩
def fileOf (pool : Array CpInfo) (this : Nat) (attrs : Array Attribute := #[]) (ms : Array MethodInfo := #[]) (fl : Nat := 33) (sup : Nat := 0) (ifs : Array Nat := #[]) (fds : Array FieldInfo := #[]) : ClassFile where
  minorVersion := 0
  majorVersion := 65
  constantPool := pool
  accessFlags := fl
  thisClass := this
  superClass := sup
  interfaces := ifs
  fields := fds
  methods := ms
  attributes := attrs
def plain (name : String) (sup : Option ClassId) : Class where
  name := name
  kind := .ordinary
  loader := none
  accessFlags := 33
  super := sup
  interfaces := #[]
  cf := none
  fields := #[]
  methods := #[]
  instanceTypes := #[]
  staticTypes := #[]
  resolved := #[]
  callSites := []
  init := .initialized
  statics := none
  mirror := none

def pool0 : Array CpInfo := pool [(5, u "<init>"), (0, u "()V"), (1, .class_ 10), (1, u "java/lang/Object")] 113

def k0c0 : Code := { maxStack := 0, maxLocals := 1, code := object_method_1_code, exceptionTable := #[], attributes := #[] }
def k0m0 : Method := { name := "<init>", desc := "()V", sig := { parameters := [], returnType := none }, accessFlags := 1, code := some k0c0 }
/-- java/lang/Object -/
def k0 : Class := { plain "java/lang/Object" none with
  accessFlags := 33
  interfaces := #[]
  cf := some (fileOf pool0 8 #[] #[{ accessFlags := 1, nameIndex := 5, descriptorIndex := 6, attributes := #[] }] 33 0 #[] #[])
  fields := #[]
  methods := #[k0m0]
  instanceTypes := #[]
  staticTypes := #[]
  resolved := Array.replicate 124 none
  statics := none }

def pool1 : Array CpInfo := pool [(2, .class_ 4), (0, .nameAndType 5 6), (0, u "java/lang/Object"), (0, u "<init>"), (0, u "()V"), (0, .long 128), (1, .long 16384), (1, .long 2097152), (1, .long 268435456), (1, .long 34359738368), (1, .long 4398046511104), (1, .long 562949953421312), (1, .long 72057594037927936), (1, .class_ 24), (0, u "com/example/strict_replicas/strictreplicas/expenses/Bytes"), (0, .methodref 23 3), (0, .methodref 23 27), (0, .nameAndType 28 29), (0, u "varint"), (0, u "(J)V"), (0, .methodref 23 31), (0, .nameAndType 32 33), (0, u "length"), (0, u "()I"), (0, .class_ 35), (0, u "com/example/strict_replicas/strictreplicas/expenses/Bytes$Reader"), (0, .methodref 23 37), (0, .nameAndType 38 39), (0, u "bytes"), (0, u "()[B"), (0, .methodref 34 41), (0, .nameAndType 5 42), (0, u "([BI)V"), (0, .methodref 34 44), (0, .nameAndType 28 45), (0, u "()J"), (0, .methodref 34 47), (0, .nameAndType 48 33), (0, u "position"), (0, .methodref 50 51), (0, .class_ 52), (0, .nameAndType 53 54), (0, u "com/example/strict_replicas/strictreplicas/expenses/ReaderVarintPinLaw"), (0, u "size"), (0, u "(J)I"), (3, u "law"), (0, u "(JJ)Z")] 4

def k1m0 : Method := { name := "<init>", desc := "()V", sig := { parameters := [], returnType := none }, accessFlags := 1, code := none }
def k1c1 : Code := { maxStack := 4, maxLocals := 2, code := method_2_code, exceptionTable := #[], attributes := #[] }
def k1m1 : Method := { name := "size", desc := "(J)I", sig := { parameters := [.long], returnType := some .int }, accessFlags := 10, code := some k1c1 }
def k1c2 : Code := { maxStack := 4, maxLocals := 14, code := code, exceptionTable := #[], attributes := #[] }
def k1m2 : Method := { name := "law", desc := "(JJ)Z", sig := { parameters := [.long, .long], returnType := some .boolean }, accessFlags := 9, code := some k1c2 }
/-- com/example/strict_replicas/strictreplicas/expenses/ReaderVarintPinLaw -/
def k1 : Class := { plain "com/example/strict_replicas/strictreplicas/expenses/ReaderVarintPinLaw" (some 0) with
  accessFlags := 49
  interfaces := #[]
  cf := some (fileOf pool1 50 #[] #[{ accessFlags := 1, nameIndex := 5, descriptorIndex := 6, attributes := #[] }, { accessFlags := 10, nameIndex := 53, descriptorIndex := 54, attributes := #[] }, { accessFlags := 9, nameIndex := 58, descriptorIndex := 59, attributes := #[] }] 49 2 #[] #[])
  fields := #[]
  methods := #[k1m0, k1m1, k1m2]
  instanceTypes := #[]
  staticTypes := #[]
  resolved := Array.replicate 64 none
  statics := none }

def pool2 : Array CpInfo := pool [(1, .methodref 2 3), (0, .class_ 4), (0, .nameAndType 5 6), (0, u "java/lang/Object"), (0, u "<init>"), (0, u "()V"), (0, .fieldref 8 9), (0, .class_ 10), (0, .nameAndType 11 12), (0, u "com/example/strict_replicas/strictreplicas/expenses/Bytes"), (0, u "bytes"), (0, u "[B"), (0, .fieldref 8 14), (0, .nameAndType 15 16), (0, u "length"), (0, u "I"), (0, .methodref 8 18), (0, .nameAndType 19 20), (0, u "room"), (0, u "(I)V"), (0, .long 18446744073709551488), (1, .long 127), (1, .long 128), (21, u "()[B"), (0, u "()I"), (1, u "varint"), (0, u "(J)V"), (7, .class_ 60), (0, u "com/example/strict_replicas/strictreplicas/expenses/Bytes$Reader")] 2

def k2c0 : Code := { maxStack := 2, maxLocals := 1, code := prog_83_method_1_code, exceptionTable := #[], attributes := #[] }
def k2m0 : Method := { name := "<init>", desc := "()V", sig := { parameters := [], returnType := none }, accessFlags := 0, code := some k2c0 }
def k2c1 : Code := { maxStack := 1, maxLocals := 1, code := prog_83_method_2_code, exceptionTable := #[], attributes := #[] }
def k2m1 : Method := { name := "bytes", desc := "()[B", sig := { parameters := [], returnType := some (.array .byte) }, accessFlags := 0, code := some k2c1 }
def k2c2 : Code := { maxStack := 1, maxLocals := 1, code := prog_83_method_3_code, exceptionTable := #[], attributes := #[] }
def k2m2 : Method := { name := "length", desc := "()I", sig := { parameters := [], returnType := some .int }, accessFlags := 0, code := some k2c2 }
def k2c3 : Code := { maxStack := 6, maxLocals := 5, code := prog_83_method_5_code, exceptionTable := #[], attributes := #[] }
def k2m3 : Method := { name := "varint", desc := "(J)V", sig := { parameters := [.long], returnType := none }, accessFlags := 0, code := some k2c3 }
def k2c4 : Code := { maxStack := 3, maxLocals := 3, code := prog_83_method_8_code, exceptionTable := #[], attributes := #[] }
def k2m4 : Method := { name := "room", desc := "(I)V", sig := { parameters := [.int], returnType := none }, accessFlags := 2, code := some k2c4 }
/-- com/example/strict_replicas/strictreplicas/expenses/Bytes -/
def k2 : Class := { plain "com/example/strict_replicas/strictreplicas/expenses/Bytes" (some 0) with
  accessFlags := 32
  interfaces := #[]
  cf := some (fileOf pool2 8 #[.nestMembers #[59]] #[{ accessFlags := 0, nameIndex := 5, descriptorIndex := 6, attributes := #[] }, { accessFlags := 0, nameIndex := 11, descriptorIndex := 47, attributes := #[] }, { accessFlags := 0, nameIndex := 15, descriptorIndex := 48, attributes := #[] }, { accessFlags := 0, nameIndex := 50, descriptorIndex := 51, attributes := #[] }, { accessFlags := 2, nameIndex := 19, descriptorIndex := 20, attributes := #[] }] 32 2 #[] #[{ accessFlags := 2, nameIndex := 11, descriptorIndex := 12, attributes := #[] }, { accessFlags := 2, nameIndex := 15, descriptorIndex := 16, attributes := #[] }])
  fields := #[{ name := "bytes", type := (.array .byte), accessFlags := 2, slot := 0, constantValue := 0 }, { name := "length", type := .int, accessFlags := 2, slot := 1, constantValue := 0 }]
  methods := #[k2m0, k2m1, k2m2, k2m3, k2m4]
  instanceTypes := #[(.array .byte), .int]
  staticTypes := #[]
  resolved := Array.replicate 63 none
  statics := none }

def pool3 : Array CpInfo := pool [(1, .methodref 2 3), (0, .class_ 4), (0, .nameAndType 5 6), (0, u "java/lang/Object"), (0, u "<init>"), (0, u "()V"), (0, .fieldref 8 9), (0, .class_ 10), (0, .nameAndType 11 12), (0, u "com/example/strict_replicas/strictreplicas/expenses/Bytes$Reader"), (0, u "bytes"), (0, u "[B"), (0, .fieldref 8 14), (0, .nameAndType 15 16), (0, u "position"), (0, u "I"), (0, u "([BI)V"), (2, u "()I"), (0, u "varint"), (0, u "()J"), (7, .class_ 31), (0, u "com/example/strict_replicas/strictreplicas/expenses/Bytes")] 2

def k3c0 : Code := { maxStack := 2, maxLocals := 3, code := prog_84_method_1_code, exceptionTable := #[], attributes := #[] }
def k3m0 : Method := { name := "<init>", desc := "([BI)V", sig := { parameters := [(.array .byte), .int], returnType := none }, accessFlags := 0, code := some k3c0 }
def k3c1 : Code := { maxStack := 1, maxLocals := 1, code := prog_84_method_2_code, exceptionTable := #[], attributes := #[] }
def k3m1 : Method := { name := "position", desc := "()I", sig := { parameters := [], returnType := some .int }, accessFlags := 0, code := some k3c1 }
def k3c2 : Code := { maxStack := 5, maxLocals := 5, code := prog_84_method_3_code, exceptionTable := #[], attributes := #[] }
def k3m2 : Method := { name := "varint", desc := "()J", sig := { parameters := [], returnType := some .long }, accessFlags := 0, code := some k3c2 }
/-- com/example/strict_replicas/strictreplicas/expenses/Bytes$Reader -/
def k3 : Class := { plain "com/example/strict_replicas/strictreplicas/expenses/Bytes$Reader" (some 0) with
  accessFlags := 32
  interfaces := #[]
  cf := some (fileOf pool3 8 #[.nestHost 30] #[{ accessFlags := 0, nameIndex := 5, descriptorIndex := 17, attributes := #[] }, { accessFlags := 0, nameIndex := 15, descriptorIndex := 20, attributes := #[] }, { accessFlags := 0, nameIndex := 21, descriptorIndex := 22, attributes := #[] }] 32 2 #[] #[{ accessFlags := 18, nameIndex := 11, descriptorIndex := 12, attributes := #[] }, { accessFlags := 2, nameIndex := 15, descriptorIndex := 16, attributes := #[] }])
  fields := #[{ name := "bytes", type := (.array .byte), accessFlags := 18, slot := 0, constantValue := 0 }, { name := "position", type := .int, accessFlags := 2, slot := 1, constantValue := 0 }]
  methods := #[k3m0, k3m1, k3m2]
  instanceTypes := #[(.array .byte), .int]
  staticTypes := #[]
  resolved := Array.replicate 34 none
  statics := none }

def pool4 : Array CpInfo := pool [(1, u "java/lang/Cloneable"), (0, .class_ 1), (0, u "java/lang/Object"), (0, .class_ 3)] 3

/-- java/lang/Cloneable -/
def k4 : Class := { plain "java/lang/Cloneable" (some 0) with
  accessFlags := 1537
  interfaces := #[]
  cf := some (fileOf pool4 2 #[] #[] 1537 4 #[] #[])
  fields := #[]
  methods := #[]
  instanceTypes := #[]
  staticTypes := #[]
  resolved := Array.replicate 8 none
  statics := none }

def pool5 : Array CpInfo := pool [(1, u "java/io/Serializable"), (0, .class_ 1), (0, u "java/lang/Object"), (0, .class_ 3)] 3

/-- java/io/Serializable -/
def k5 : Class := { plain "java/io/Serializable" (some 0) with
  accessFlags := 1537
  interfaces := #[]
  cf := some (fileOf pool5 2 #[] #[] 1537 4 #[] #[])
  fields := #[]
  methods := #[]
  instanceTypes := #[]
  staticTypes := #[]
  resolved := Array.replicate 8 none
  statics := none }

/-- the primitive byte -/
def k6 : Class := { plain "byte" none with kind := .primitive 'B', accessFlags := 0x411 }
/-- [B -/
def k7 : Class := { plain "[B" (some 0) with kind := .array 6 .byte, interfaces := #[4, 5], accessFlags := 1041 }

/-- the primitive int -/
def k8 : Class := { plain "int" none with kind := .primitive 'I', accessFlags := 0x411 }
/-- [I -/
def k9 : Class := { plain "[I" (some 0) with kind := .array 8 .int, interfaces := #[4, 5], accessFlags := 1041 }

def heap : Heap := #[]
def classes : Array Class := #[k0, k1, k2, k3, k4, k5, k6, k7, k8, k9]
def interned : List (Array UInt16 × Addr) := []
def slotsUsed : Nat := 0
def theMethod : MethodId := ⟨1, 2⟩
def args0 : Array Value := #[.long 300, .long 77]
def aboutOver (below : List Frame) : State where
  vm := { classes := classes, interned := interned.toArray }
  heap := heap
  slotsUsed := slotsUsed
  threads := #[{ frames := .invoking theMethod args0 :: below }]
def below0 : List Frame := [.native { method := ⟨0, 0⟩, args := #[] }]
def about1 : State := aboutOver below0
def p0 : Program := .bare "" "" ""
def e0 : Env := launch0.env 0 0 0
theorem w_frames : about1.frames = Frame.invoking theMethod args0 :: below0 := rfl
set_option maxRecDepth 65536 in
theorem w_args : argsFit about1.vm theMethod args0 = true := by decide +kernel
set_option maxRecDepth 65536 in
theorem w_heap : heapFits about1 = true := by decide +kernel
set_option maxRecDepth 65536 in
theorem w_runnable : about1.curStatus? = some .runnable := by decide +kernel
set_option maxRecDepth 65536 in
theorem w_alone : about1.alone = true := by decide +kernel
set_option maxRecDepth 65536 in
theorem w_named : about1.methodNamed? x = some theMethod := by decide +kernel
set_option maxRecDepth 65536 in
theorem w_hears : about1.hears theMethod below0 = true := by decide +kernel
set_option maxRecDepth 65536 in
theorem w_ripe : about1.ripe theMethod args0 below0 = true := by decide +kernel
theorem w_running : about1.status = .running := rfl
set_option maxRecDepth 65536 in
theorem w_room : about1.hasRoom e0.platform room_1 = true :=
  launch0.hasRoom_least _ room_1 (by decide +kernel) (by decide +kernel) (by decide +kernel) (by decide +kernel) (by decide +kernel) (by decide +kernel)
theorem allAtoms_all (ts : List Jvm.Cond) (a : Array Jvm.Value) (st : Jvm.State) : (allAtoms ts).before a st = ts.all (fun c => c.before a st) := by
  induction ts with
  | nil => rfl
  | cons c t ih =>
    show (Jvm.Cond.and c (allAtoms t)).before a st = _
    rw [Jvm.Cond.before_and, ih, List.all_cons]
def words1 : List Jvm.Cond := Jvm.Cond.code x code maxLocals ret :: tables_1
/-- a 'code' word, met by the world's own term for the bytes: nothing is compared byte by byte -/
theorem code_word {y : MethodName} {bytes : ByteArray} {mx : Nat} {rt : Option FieldType} {a : Array Value} {s : State} {m : MethodId} {meth : Method} {c : Code} (h1 : s.methodNamed? y = some m) (h2 : s.vm.method? m = some meth) (h3 : meth.code = some c) (h4 : c.code = bytes)
    (h5 : (c.maxLocals == mx && c.exceptionTable.isEmpty && decide (c.maxStack ≤ mostOperands) && decide (meth.sig.returnType = rt) && !meth.locks && decide (parseMethodDescriptor y.desc = some meth.sig)) = true) : (Jvm.Cond.code y bytes mx rt).before a s = true := by
  simp only [Bool.and_eq_true, beq_iff_eq, Bool.not_eq_true', decide_eq_true_eq] at h5
  obtain ⟨⟨⟨⟨⟨g1, g2⟩, g3⟩, g4⟩, g5⟩, g6⟩ := h5
  simp [Cond.before, Cond.holds, Cond.value, h1, h2, h3, h4, g1, g2, g3, g4, g5, g6]
def isCode : Jvm.Cond → Bool
  | .code _ _ _ _ => true
  | _ => false
theorem all_split {L : List Jvm.Cond} {P : Jvm.Cond → Bool} (h1 : L.all (fun c => isCode c || P c) = true) (h2 : ∀ c ∈ L.filter isCode, P c = true) : L.all P = true := by
  refine List.all_eq_true.mpr fun c hc => ?_
  have h := List.all_eq_true.mp h1 c hc
  rcases Bool.eq_false_or_eq_true (isCode c) with hi | hi
  · exact h2 c (List.mem_filter.mpr ⟨hc, hi⟩)
  · simpa [hi] using h
set_option maxRecDepth 65536 in
theorem w_c0 : (Jvm.Cond.code x code maxLocals ret).before args0 about1 = true := code_word (m := ⟨1, 2⟩) (meth := k1m2) (c := k1c2) (by decide +kernel) rfl rfl rfl (by decide +kernel)
set_option maxRecDepth 65536 in
theorem w_c1 : (Jvm.Cond.code ({ cls := "com/example/strict_replicas/strictreplicas/expenses/Bytes", name := "<init>", desc := "()V" } : Jvm.MethodName) prog_83_method_1_code (1 : Nat) (Option.none : Option Jvm.ClassFile.FieldType)).before args0 about1 = true := code_word (m := ⟨2, 0⟩) (meth := k2m0) (c := k2c0) (by decide +kernel) rfl rfl rfl (by decide +kernel)
set_option maxRecDepth 65536 in
theorem w_c2 : (Jvm.Cond.code ({ cls := "java/lang/Object", name := "<init>", desc := "()V" } : Jvm.MethodName) object_method_1_code (1 : Nat) (Option.none : Option Jvm.ClassFile.FieldType)).before args0 about1 = true := code_word (m := ⟨0, 0⟩) (meth := k0m0) (c := k0c0) (by decide +kernel) rfl rfl rfl (by decide +kernel)
set_option maxRecDepth 65536 in
theorem w_c3 : (Jvm.Cond.code ({ cls := "com/example/strict_replicas/strictreplicas/expenses/Bytes", name := "varint", desc := "(J)V" } : Jvm.MethodName) prog_83_method_5_code (5 : Nat) (Option.none : Option Jvm.ClassFile.FieldType)).before args0 about1 = true := code_word (m := ⟨2, 3⟩) (meth := k2m3) (c := k2c3) (by decide +kernel) rfl rfl rfl (by decide +kernel)
set_option maxRecDepth 65536 in
theorem w_c4 : (Jvm.Cond.code ({ cls := "com/example/strict_replicas/strictreplicas/expenses/Bytes", name := "room", desc := "(I)V" } : Jvm.MethodName) prog_83_method_8_code (3 : Nat) (Option.none : Option Jvm.ClassFile.FieldType)).before args0 about1 = true := code_word (m := ⟨2, 4⟩) (meth := k2m4) (c := k2c4) (by decide +kernel) rfl rfl rfl (by decide +kernel)
set_option maxRecDepth 65536 in
theorem w_c5 : (Jvm.Cond.code ({ cls := "com/example/strict_replicas/strictreplicas/expenses/Bytes", name := "length", desc := "()I" } : Jvm.MethodName) prog_83_method_3_code (1 : Nat) (Option.some Jvm.ClassFile.FieldType.int)).before args0 about1 = true := code_word (m := ⟨2, 2⟩) (meth := k2m2) (c := k2c2) (by decide +kernel) rfl rfl rfl (by decide +kernel)
set_option maxRecDepth 65536 in
theorem w_c6 : (Jvm.Cond.code ({ cls := "com/example/strict_replicas/strictreplicas/expenses/Bytes", name := "bytes", desc := "()[B" } : Jvm.MethodName) prog_83_method_2_code (1 : Nat) (Option.some (Jvm.ClassFile.FieldType.array Jvm.ClassFile.FieldType.byte))).before args0 about1 = true := code_word (m := ⟨2, 1⟩) (meth := k2m1) (c := k2c1) (by decide +kernel) rfl rfl rfl (by decide +kernel)
set_option maxRecDepth 65536 in
theorem w_c7 : (Jvm.Cond.code ({ cls := "com/example/strict_replicas/strictreplicas/expenses/Bytes$Reader", name := "<init>", desc := "([BI)V" } : Jvm.MethodName) prog_84_method_1_code (3 : Nat) (Option.none : Option Jvm.ClassFile.FieldType)).before args0 about1 = true := code_word (m := ⟨3, 0⟩) (meth := k3m0) (c := k3c0) (by decide +kernel) rfl rfl rfl (by decide +kernel)
set_option maxRecDepth 65536 in
theorem w_c8 : (Jvm.Cond.code ({ cls := "com/example/strict_replicas/strictreplicas/expenses/Bytes$Reader", name := "varint", desc := "()J" } : Jvm.MethodName) prog_84_method_3_code (5 : Nat) (Option.some Jvm.ClassFile.FieldType.long)).before args0 about1 = true := code_word (m := ⟨3, 2⟩) (meth := k3m2) (c := k3c2) (by decide +kernel) rfl rfl rfl (by decide +kernel)
set_option maxRecDepth 65536 in
theorem w_c9 : (Jvm.Cond.code ({ cls := "com/example/strict_replicas/strictreplicas/expenses/Bytes$Reader", name := "position", desc := "()I" } : Jvm.MethodName) prog_84_method_2_code (1 : Nat) (Option.some Jvm.ClassFile.FieldType.int)).before args0 about1 = true := code_word (m := ⟨3, 1⟩) (meth := k3m1) (c := k3c1) (by decide +kernel) rfl rfl rfl (by decide +kernel)
set_option maxRecDepth 65536 in
theorem w_c10 : (Jvm.Cond.code ({ cls := "com/example/strict_replicas/strictreplicas/expenses/ReaderVarintPinLaw", name := "size", desc := "(J)I" } : Jvm.MethodName) method_2_code (2 : Nat) (Option.some Jvm.ClassFile.FieldType.int)).before args0 about1 = true := code_word (m := ⟨1, 1⟩) (meth := k1m1) (c := k1c1) (by decide +kernel) rfl rfl rfl (by decide +kernel)
def codes1 : List Jvm.Cond := [Jvm.Cond.code x code maxLocals ret, Jvm.Cond.code ({ cls := "com/example/strict_replicas/strictreplicas/expenses/Bytes", name := "<init>", desc := "()V" } : Jvm.MethodName) prog_83_method_1_code (1 : Nat) (Option.none : Option Jvm.ClassFile.FieldType), Jvm.Cond.code ({ cls := "java/lang/Object", name := "<init>", desc := "()V" } : Jvm.MethodName) object_method_1_code (1 : Nat) (Option.none : Option Jvm.ClassFile.FieldType), Jvm.Cond.code ({ cls := "com/example/strict_replicas/strictreplicas/expenses/Bytes", name := "varint", desc := "(J)V" } : Jvm.MethodName) prog_83_method_5_code (5 : Nat) (Option.none : Option Jvm.ClassFile.FieldType), Jvm.Cond.code ({ cls := "com/example/strict_replicas/strictreplicas/expenses/Bytes", name := "room", desc := "(I)V" } : Jvm.MethodName) prog_83_method_8_code (3 : Nat) (Option.none : Option Jvm.ClassFile.FieldType), Jvm.Cond.code ({ cls := "com/example/strict_replicas/strictreplicas/expenses/Bytes", name := "length", desc := "()I" } : Jvm.MethodName) prog_83_method_3_code (1 : Nat) (Option.some Jvm.ClassFile.FieldType.int), Jvm.Cond.code ({ cls := "com/example/strict_replicas/strictreplicas/expenses/Bytes", name := "bytes", desc := "()[B" } : Jvm.MethodName) prog_83_method_2_code (1 : Nat) (Option.some (Jvm.ClassFile.FieldType.array Jvm.ClassFile.FieldType.byte)), Jvm.Cond.code ({ cls := "com/example/strict_replicas/strictreplicas/expenses/Bytes$Reader", name := "<init>", desc := "([BI)V" } : Jvm.MethodName) prog_84_method_1_code (3 : Nat) (Option.none : Option Jvm.ClassFile.FieldType), Jvm.Cond.code ({ cls := "com/example/strict_replicas/strictreplicas/expenses/Bytes$Reader", name := "varint", desc := "()J" } : Jvm.MethodName) prog_84_method_3_code (5 : Nat) (Option.some Jvm.ClassFile.FieldType.long), Jvm.Cond.code ({ cls := "com/example/strict_replicas/strictreplicas/expenses/Bytes$Reader", name := "position", desc := "()I" } : Jvm.MethodName) prog_84_method_2_code (1 : Nat) (Option.some Jvm.ClassFile.FieldType.int), Jvm.Cond.code ({ cls := "com/example/strict_replicas/strictreplicas/expenses/ReaderVarintPinLaw", name := "size", desc := "(J)I" } : Jvm.MethodName) method_2_code (2 : Nat) (Option.some Jvm.ClassFile.FieldType.int)]
set_option maxRecDepth 65536 in
theorem codes_eq : words1.filter isCode = codes1 := rfl
theorem w_codes : ∀ c ∈ words1.filter isCode, c.before args0 about1 = true := by
  rw [codes_eq]
  intro c hc
  simp only [codes1, List.mem_cons, List.not_mem_nil, or_false] at hc
  rcases hc with rfl | rfl | rfl | rfl | rfl | rfl | rfl | rfl | rfl | rfl | rfl
  · exact w_c0
  · exact w_c1
  · exact w_c2
  · exact w_c3
  · exact w_c4
  · exact w_c5
  · exact w_c6
  · exact w_c7
  · exact w_c8
  · exact w_c9
  · exact w_c10
set_option maxRecDepth 65536 in
theorem w_t1 : (words1.take 24).all (fun c => isCode c || c.before args0 about1) = true := by decide +kernel
set_option maxRecDepth 65536 in
theorem w_t2 : ((words1.drop 24).take 24).all (fun c => isCode c || c.before args0 about1) = true := by decide +kernel
set_option maxRecDepth 65536 in
theorem w_t3 : ((words1.drop 24).drop 24).all (fun c => isCode c || c.before args0 about1) = true := by decide +kernel
theorem w_tables : (allAtoms (Jvm.Cond.code x code maxLocals ret :: tables_1)).before args0 about1 = true := by
  rw [allAtoms_all]
  show words1.all (fun c => c.before args0 about1) = true
  refine all_split ?_ w_codes
  rw [← List.take_append_drop 24 words1, List.all_append, w_t1, ← List.take_append_drop 24 (words1.drop 24), List.all_append, w_t2, w_t3]
  rfl
set_option maxRecDepth 65536 in
theorem w_case : (Jvm.Cond.and given_1 narrow_1).before args0 about1 = true := by decide +kernel
theorem w_applies : (headSpec (Jvm.Cond.code x code maxLocals ret :: tables_1) room_1).applies x e0.platform about1 = true :=
  (Spec.applies_iff w_frames).mpr ⟨w_running, w_runnable, w_alone, w_named, w_hears, w_ripe, w_room, w_tables⟩
theorem atStart : AtStart classFile x code maxLocals ret World_1 tables_1 room_1 Calls_1 rest_1 Pre_1 launch0 p0 e0 about1 theMethod args0 below0 :=
  ⟨lists_1, trivial, launch0.admits_env _ _ _, launch0.least_env, fairChoices_fair.cas, fairChoices_fair.clock, w_frames, w_args, w_heap, w_applies, trivial, trivial, w_case⟩
end start1
theorem witness_1 : WitnessClaimed_1 := ⟨start1.p0, start1.e0, start1.about1, start1.theMethod, start1.args0, start1.below0, start1.atStart⟩
end Jvm.Pilot.@@N@@
