import JvmDerived
import JvmDerived.Pilot.@@N@@Statement
import JvmDerived.Pilot.@@N@@Code
set_option linter.unusedVariables false
set_option linter.unusedSimpArgs false
namespace Jvm.RoadKit
open Sem ClassFile Op Lib Jvm.Stand Jvm.Free Jvm.LawKit
section New
variable {p : Program} {l : Launch} {e : Env} {R : Room} {s : State} {m : MethodId} {args : Array Value} {below : List Frame} {meth : Method} {c : Code} {T : State} {locs : List Loc} {cells slots : Nat}
theorem retI (X : Stand p l e R s m args below meth c T locs cells slots) (hx : p.tables.exec = Jvm.exec) {pc : Nat} {Ls : Array Slot} {z : Int32} {rest : List Value} (hret : meth.sig.returnType = some .int) (hd : decode c.code pc = .ok (.ireturn, 1)) {fs : List Frame}
    (hl : ∀ (f : JFrame) (acts : List Action), f.method = m → f.locked = none → f.entered = [] → (doReturn e (T.setTop f) acts (some (.int z))).1 = T.setFrames fs) : Steps p.tables e below (T.setTop (mkF m pc Ls (.int z :: rest))) (T.setFrames fs) := by
  have hm' : T.vm.method? m = some meth := X.method'
  have hn : narrow .int (.int z) = .int z := rfl
  show Steps p.tables e below (T.setTop { method := m, pc := pc, locals := Ls, stack := _ :: rest, locked := none }) _
  jvm_step X.here [X.here.top, hx, hd, hm', hret, hn]
  first | (intro acts; rw [hl _ acts rfl rfl rfl]) | rw [hl _ _ rfl rfl rfl]
  exact Steps.refl _
theorem retJ (X : Stand p l e R s m args below meth c T locs cells slots) (hx : p.tables.exec = Jvm.exec) {pc : Nat} {Ls : Array Slot} {z : Int64} {rest : List Value} (hret : meth.sig.returnType = some .long) (hd : decode c.code pc = .ok (.lreturn, 1)) {fs : List Frame}
    (hl : ∀ (f : JFrame) (acts : List Action), f.method = m → f.locked = none → f.entered = [] → (doReturn e (T.setTop f) acts (some (.long z))).1 = T.setFrames fs) : Steps p.tables e below (T.setTop (mkF m pc Ls (.long z :: rest))) (T.setFrames fs) :=
  retOut X hx hret rfl (Or.inr (Or.inl ⟨rfl, rfl, z, rfl⟩)) hd hl
theorem retA (X : Stand p l e R s m args below meth c T locs cells slots) (hx : p.tables.exec = Jvm.exec) {pc : Nat} {Ls : Array Slot} {a : Addr} {t : FieldType} {rest : List Value} (hret : meth.sig.returnType = some t) (ht : t.isReference = true) (hd : decode c.code pc = .ok (.areturn, 1)) {fs : List Frame}
    (hl : ∀ (f : JFrame) (acts : List Action), f.method = m → f.locked = none → f.entered = [] → (doReturn e (T.setTop f) acts (some (.ref a))).1 = T.setFrames fs) : Steps p.tables e below (T.setTop (mkF m pc Ls (.ref a :: rest))) (T.setFrames fs) :=
  retOut X hx hret (by cases t <;> first | rfl | (simp [FieldType.isReference] at ht)) (Or.inr (Or.inr (Or.inr (Or.inr ⟨rfl, ht, rfl⟩)))) hd hl
end New
end Jvm.RoadKit
namespace Jvm.Pilot.@@N@@
open Jvm Jvm.ClassFile Sem Op Lib Jvm.Free Jvm.Stand Jvm.LawKit Jvm.RoadKit Bundle Jvm.Pilot.@@N@@.Jvm.D
section OwnKit
variable {p : Program} {l : Launch} {e : Env} {R : Room} {s : State} {m : MethodId} {args : Array Value} {below : List Frame} {meth : Method} {c : Code} {T : State} {locs : List Loc} {cells slots : Nat} {Z : State} {h h' : Heap}
/-- one body's contract, with the walk's goal as a closed predicate K: 'go' takes a step, 'fin' leaves the method -/
theorem own_body {y : MethodName} {bytes : ByteArray} {maxL : Nat} {ret : Option FieldType} {ws : List Jvm.Cond} {rm : Room} {h0 : Heap} {Q : Option Value → Heap → List Loc → Prop} (hp : plainFor y = true)
    (body : ∀ (p : Program) (e : Env) (s : State) (m : MethodId) (below : List Frame) (meth : Method) (c : Code) (s₁ : State) (K : State → Prop),
      (∀ U U', (∀ t, Steps p.tables e below U' t → Steps p.tables e below U t) → K U' → K U) →
      (∀ {T : State} {locs : List Loc} {cells slots : Nat} {g : JFrame} (v : Option Value), Stand p l e rm s m args below meth c T locs cells slots → cells ≤ rm.cells → slots ≤ rm.slots → (ret = none → v = none) → Q v T.heap locs →
        (∀ fs, (∀ (f : JFrame) (acts : List Action), f.method = m → f.locked = none → f.entered = [] → (doReturn e (T.setTop f) acts v).1 = T.setFrames fs) → Steps p.tables e below (T.setTop g) (T.setFrames fs)) → K (T.setTop g)) →
      Stand p l e rm s m args below meth c s₁ [] 0 0 → p.tables.exec = Jvm.exec → c.code = bytes → c.maxLocals = maxL → s.vm.findClass y.cls = some m.cls → meth.name = y.name → meth.sig.returnType = ret → Z.Warmed39 s.vm → s₁.heap = h0 → K (s₁.setTop (entryFrame m args maxL))) :
    MetFree l y (head1 (Jvm.Cond.code y bytes maxL ret :: ws) rm) (fun a U => a = args ∧ Z.Warmed39 U.vm ∧ U.heap = h0) (fun _ _ _ _ _ => True) (fun _ U o U' => ∃ v L, o = .returned v ∧ Q v U'.heap L ∧ FrameEnd U o U' L rm.cells rm.slots) := by
  refine MetFree.of_bodySF hp hisR ?_
  intro p e s m args' below meth c s₁ Bd hml hP hK
  obtain ⟨rfl, hZ, hh⟩ := hP
  refine body p e s m below meth c s₁ (fun U => ∃ s₂ o, Steps p.tables e below U s₂ ∧ s₂.status = .running ∧ Ended s₂ below o ∧ ∃ v L, o = .returned v ∧ Q v s₂.heap L ∧ FrameEnd s o s₂ L rm.cells rm.slots) ?_ ?_ (Stand.of_body Bd) Bd.exec Bd.bytes hml (findClass_of_methodNamed Bd.named) (name_of_methodNamed Bd.named Bd.method).1 Bd.returns hZ (by rw [← hh, Bd.state]; rfl)
  · rintro U U' st ⟨s₂, o, h1, h2⟩
    exact ⟨s₂, o, st _ h1, h2⟩
  · intro T locs cells slots g v X hc hs hv hQ hst
    obtain ⟨fs, hr, hrun, hended, hW, hsame⟩ := X.leave (v := v) (fun q => hv (Bd.returns ▸ q))
    exact ⟨_, _, hst fs hr, hrun, hended, v, locs, rfl, hQ, ⟨_, rfl⟩, hW, hsame.mono hc hs⟩
/-! Java's shifts and the narrowing to a byte -/
def jushr (x y : Int32) : Int32 := (x.toUInt32 >>> (y &&& 31).toUInt32).toInt32
def jshl (x y : Int32) : Int32 := x <<< (y &&& 31)
def jshr (x y : Int32) : Int32 := x >>> (y &&& 31)
def jushrL (x : Int64) (y : Int32) : Int64 := (x.toUInt64 >>> (y &&& 0x3f).toInt64.toUInt64).toInt64
def jshlL (x : Int64) (y : Int32) : Int64 := x <<< (y &&& 0x3f).toInt64
def jshrL (x : Int64) (y : Int32) : Int64 := x >>> (y &&& 0x3f).toInt64
def jb (x : Int32) : Int32 := x.toInt8.toInt32
theorem own_lrem {g : JFrame} {target : State} (X : Stand p l e R s m args below meth c T locs cells slots) (hx : p.tables.exec = Jvm.exec) (hg : g.method = m) {x y : Int64} {rest : List Value} (hd : decode c.code g.pc = .ok (.lrem, 1)) (hs : g.stack = .long y :: .long x :: rest) (hy : y ≠ 0)
    (hr : Steps p.tables e below (T.setTop { g with pc := g.pc + 1, stack := .long (x % y) :: rest }) target) : Steps p.tables e below (T.setTop g) target :=
  XS.lrem X.here hx hg hd hs hy (by rw [lrem_mod]; exact hr)
theorem own_narb (x : Int32) : nar .byte (jb x) = jb x := by simp [nar, jb]
/-! an array by its length and what its places hold -/
def own_upd (f : Nat → Value) (i : Nat) (v : Value) : Nat → Value := fun j => if j = i then v else f j
theorem own_hit (f : Nat → Value) (i : Nat) (v : Value) : own_upd f i v i = v := if_pos rfl
theorem own_miss {f : Nat → Value} {i j : Nat} {v : Value} (q : j ≠ i) : own_upd f i v j = f j := if_neg q
def AF (Z : State) (h : Heap) (a : Addr) (ty : FieldType) (n : Nat) (f : Nat → Value) : Prop := n < 2 ^ 31 ∧ ∃ c : Cell, Arr Z h a c ty ∧ c.slots.size = n ∧ ∀ j, j < n → c.slots[j]? = some (f j)
theorem AF.lt {a : Addr} {ty : FieldType} {n : Nat} {f : Nat → Value} (A : AF Z h a ty n f) : a < h.size := by obtain ⟨-, c, A, -⟩ := A; exact A.lt
theorem AF.ext {a : Addr} {ty : FieldType} {n : Nat} {f : Nat → Value} (A : AF Z h a ty n f) (E : Ext h h') : AF Z h' a ty n f := by obtain ⟨q, c, A, r⟩ := A; exact ⟨q, c, A.ext E, r⟩
theorem AF.other {a b : Addr} {sl : Nat} {v : Value} {ty : FieldType} {n : Nat} {f : Nat → Value} (A : AF Z h b ty n f) (W : Wr h h' a sl v) (q : b ≠ a) : AF Z h' b ty n f := by obtain ⟨q1, c, A, r⟩ := A; exact ⟨q1, c, A.other W q, r⟩
theorem AF.keep {a : Addr} {ws : List Addr} {ty : FieldType} {n : Nat} {f : Nat → Value} (A : AF Z h a ty n f) (K : Keep h h' ws) (q : a ∉ ws) : AF Z h' a ty n f := by obtain ⟨q1, c, A, r⟩ := A; exact ⟨q1, c, ⟨K.2.1 a c A.1 q, A.2⟩, r⟩
theorem AF.congr {a : Addr} {ty : FieldType} {n : Nat} {f f' : Nat → Value} (A : AF Z h a ty n f) (q : ∀ j, j < n → f j = f' j) : AF Z h a ty n f' := by obtain ⟨q1, c, A, S, r⟩ := A; exact ⟨q1, c, A, S, fun j hj => by rw [← q j hj]; exact r j hj⟩
theorem AF.len {a : Addr} {ty : FieldType} {n : Nat} {f : Nat → Value} (A : AF Z h a ty n f) : n < 2 ^ 31 := A.1
theorem own_idx {j : Int32} {i : Nat} (hj : j.toInt = (i : Int)) : j.toNatClampNeg = i := by simp only [Int32.toNatClampNeg, hj]; omega
theorem own_in {j : Int32} {i n : Nat} {c : Cell} (S : c.slots.size = n) (hj : j.toInt = (i : Int)) (hi : i < n) : ¬ (j < 0 ∨ c.slots.size ≤ j.toNatClampNeg) := by
  rw [own_idx hj, S, Int32.lt_iff_toInt_lt, hj]
  simp only [Int32.toInt_zero]
  omega
theorem own_set {a : Addr} {ty : FieldType} {n i : Nat} {f : Nat → Value} {cl : Cell} {v : Value} (q1 : n < 2 ^ 31) (A : Arr Z h a cl ty) (S : cl.slots.size = n) (H : ∀ j, j < n → cl.slots[j]? = some (f j)) (W : Wr h h' a i v) (hi : i < n) : AF Z h' a ty n (own_upd f i v) := by
  refine ⟨q1, _, A.same W, by rw [sz_set]; exact S, fun j hj => ?_⟩
  simp only [Cell.setSlot, own_upd]
  by_cases q : j = i
  · subst q; rw [if_pos rfl]; simp [S, hj]
  · rw [if_neg q, Array.getElem?_setIfInBounds_ne (fun z => q z.symm)]; exact H j hj
theorem own_stI (X : Stand p l e R s m args below meth c T locs cells slots) (hx : p.tables.exec = Jvm.exec) (hZ : Z.Warmed39 s.vm) (eT : T.heap = h) {a : Addr} {n i : Nat} {f : Nat → Value} (A : AF Z h a .int n f) {j x : Int32} (hj : j.toInt = (i : Int)) (hi : i < n) {g : JFrame} (hg : g.method = m) {rest : List Value} (hs : g.stack = .int x :: .int j :: .ref a :: rest) (hd : decode c.code g.pc = .ok (.iastore, 1)) :
    ∃ T' h', Stand p l e R s m args below meth c T' (locs ++ [⟨a, i⟩]) cells slots ∧ T'.heap = h' ∧ Wr h h' a i (.int x) ∧ AF Z h' a .int n (own_upd f i (.int x)) ∧ ∀ target, Steps p.tables e below (T'.setTop { g with pc := g.pc + 1, stack := rest }) target → Steps p.tables e below (T.setTop g) target := by
  obtain ⟨q1, cl, Ar, S, H⟩ := A
  obtain ⟨T', h', X', e', W, st⟩ := stI X hx hZ eT Ar (j := j) (own_in S hj hi) hg hs hd
  rw [own_idx hj] at X' W
  exact ⟨T', h', X', e', W, own_set q1 Ar S H W hi, st⟩
theorem own_stJ (X : Stand p l e R s m args below meth c T locs cells slots) (hx : p.tables.exec = Jvm.exec) (hZ : Z.Warmed39 s.vm) (eT : T.heap = h) {a : Addr} {n i : Nat} {f : Nat → Value} (A : AF Z h a .long n f) {j : Int32} {x : Int64} (hj : j.toInt = (i : Int)) (hi : i < n) {g : JFrame} (hg : g.method = m) {rest : List Value} (hs : g.stack = .long x :: .int j :: .ref a :: rest) (hd : decode c.code g.pc = .ok (.lastore, 1)) :
    ∃ T' h', Stand p l e R s m args below meth c T' (locs ++ [⟨a, i⟩]) cells slots ∧ T'.heap = h' ∧ Wr h h' a i (.long x) ∧ AF Z h' a .long n (own_upd f i (.long x)) ∧ ∀ target, Steps p.tables e below (T'.setTop { g with pc := g.pc + 1, stack := rest }) target → Steps p.tables e below (T.setTop g) target := by
  obtain ⟨q1, cl, Ar, S, H⟩ := A
  obtain ⟨T', h', X', e', W, st⟩ := stJ X hx hZ eT Ar (j := j) (own_in S hj hi) hg hs hd
  rw [own_idx hj] at X' W
  exact ⟨T', h', X', e', W, own_set q1 Ar S H W hi, st⟩
theorem own_stB (X : Stand p l e R s m args below meth c T locs cells slots) (hx : p.tables.exec = Jvm.exec) (hZ : Z.Warmed39 s.vm) (eT : T.heap = h) {a : Addr} {n i : Nat} {f : Nat → Value} (A : AF Z h a .byte n f) {j x : Int32} (hj : j.toInt = (i : Int)) (hi : i < n) (hn : nar .byte x = x) {g : JFrame} (hg : g.method = m) {rest : List Value} (hs : g.stack = .int x :: .int j :: .ref a :: rest) (hd : decode c.code g.pc = .ok (.bastore, 1)) :
    ∃ T' h', Stand p l e R s m args below meth c T' (locs ++ [⟨a, i⟩]) cells slots ∧ T'.heap = h' ∧ Wr h h' a i (.int x) ∧ AF Z h' a .byte n (own_upd f i (.int x)) ∧ ∀ target, Steps p.tables e below (T'.setTop { g with pc := g.pc + 1, stack := rest }) target → Steps p.tables e below (T.setTop g) target := by
  obtain ⟨q1, cl, Ar, S, H⟩ := A
  obtain ⟨T', h', X', e', W, st⟩ := stB X hx hZ eT Ar (j := j) (own_in S hj hi) hg hs hd
  rw [own_idx hj] at X' W
  rw [hn] at W
  exact ⟨T', h', X', e', W, own_set q1 Ar S H W hi, st⟩
theorem own_new (X : Stand p l e R s m args below meth c T locs cells slots) (hx : p.tables.exec = Jvm.exec) (hZ : Z.Warmed39 s.vm) {a0 : Array Value} {aty : ArrayType} (w : (Cond.arrayClass (newarray.typeOf aty)).before a0 Z = true) (eT : T.heap = h) {g : JFrame} (hg : g.method = m) (hd : decode c.code g.pc = .ok (.newarray aty, 2)) {n : Int32} {rest : List Value} (hs : g.stack = .int n :: rest)
    {k : Nat} (hn : n.toInt = (k : Int)) (cap : Nat) (hcap : k ≤ cap) (hb : cap * 8 ≤ 536870912) (hc : cells + 1 ≤ R.cells) (hl : slots + cap ≤ R.slots) :
    ∃ T' h' a, Stand p l e R s m args below meth c T' locs (cells + 1) (slots + cap) ∧ T'.heap = h' ∧ Ext h h' ∧ a = h.size ∧ AF Z h' a (newarray.typeOf aty) k (fun _ => defaultValue (newarray.typeOf aty)) ∧
      ∀ target, Steps p.tables e below (T'.setTop { g with pc := g.pc + 2, stack := .ref a :: rest }) target → Steps p.tables e below (T.setTop g) target := by
  have hn0 : ¬ n < 0 := by rw [Int32.lt_iff_toInt_lt, hn]; simp only [Int32.toInt_zero]; omega
  have hk : n.toNatClampNeg = k := own_idx hn
  have hk31 : k < 2 ^ 31 := by have := n.toInt_lt; omega
  obtain ⟨T', h', cA, X', e', E, A, st⟩ := newP X hx hZ w eT hg hd hs hn0 (by rw [hk]; exact hcap) hb hc hl
  refine ⟨T', h', h.size, X', e', E, rfl, ⟨hk31, _, A, by rw [sz_new, hk], fun j hj => ?_⟩, st⟩
  simp [newA, hk, hj]
theorem own_ldI (X : Stand p l e R s m args below meth c T locs cells slots) (hx : p.tables.exec = Jvm.exec) (hZ : Z.Warmed39 s.vm) (eT : T.heap = h) {a : Addr} {n i : Nat} {f : Nat → Value} (A : AF Z h a .int n f) {j : Int32} (hj : j.toInt = (i : Int)) (hi : i < n) {g : JFrame} (hg : g.method = m) {rest : List Value} (hs : g.stack = .int j :: .ref a :: rest) (hd : decode c.code g.pc = .ok (.iaload, 1)) {v : Value} (hv : f i = v) (target : State)
    (hr : Steps p.tables e below (T.setTop { g with pc := g.pc + 1, stack := v :: rest }) target) : Steps p.tables e below (T.setTop g) target := by
  obtain ⟨-, cl, Ar, S, H⟩ := A
  exact X.iaload hx (j := j) (v := v) (by rw [eT]; exact Ar.1) (State.isArrayOf_alike hZ.alike Ar.2.1) Ar.2.2 (own_in S hj hi) (by rw [own_idx hj, ← hv]; exact H i hi) hg hs hd target hr
theorem own_ldJ (X : Stand p l e R s m args below meth c T locs cells slots) (hx : p.tables.exec = Jvm.exec) (hZ : Z.Warmed39 s.vm) (eT : T.heap = h) {a : Addr} {n i : Nat} {f : Nat → Value} (A : AF Z h a .long n f) {j : Int32} (hj : j.toInt = (i : Int)) (hi : i < n) {g : JFrame} (hg : g.method = m) {rest : List Value} (hs : g.stack = .int j :: .ref a :: rest) (hd : decode c.code g.pc = .ok (.laload, 1)) {v : Value} (hv : f i = v) (target : State)
    (hr : Steps p.tables e below (T.setTop { g with pc := g.pc + 1, stack := v :: rest }) target) : Steps p.tables e below (T.setTop g) target := by
  obtain ⟨-, cl, Ar, S, H⟩ := A
  exact X.laload hx (j := j) (v := v) (by rw [eT]; exact Ar.1) (State.isArrayOf_alike hZ.alike Ar.2.1) Ar.2.2 (own_in S hj hi) (by rw [own_idx hj, ← hv]; exact H i hi) hg hs hd target hr
theorem own_ldB (X : Stand p l e R s m args below meth c T locs cells slots) (hx : p.tables.exec = Jvm.exec) (hZ : Z.Warmed39 s.vm) (eT : T.heap = h) {a : Addr} {n i : Nat} {f : Nat → Value} (A : AF Z h a .byte n f) {j : Int32} (hj : j.toInt = (i : Int)) (hi : i < n) {g : JFrame} (hg : g.method = m) {rest : List Value} (hs : g.stack = .int j :: .ref a :: rest) (hd : decode c.code g.pc = .ok (.baload, 1)) {v : Value} (hv : f i = v) (target : State)
    (hr : Steps p.tables e below (T.setTop { g with pc := g.pc + 1, stack := v :: rest }) target) : Steps p.tables e below (T.setTop g) target := by
  obtain ⟨-, cl, Ar, S, H⟩ := A
  exact X.baloadBytes hx (j := j) (v := v) (by rw [eT]; exact Ar.1) (State.isArrayOf_alike hZ.alike Ar.2.1) Ar.2.2 (own_in S hj hi) (by rw [own_idx hj, ← hv]; exact H i hi) hg hs hd target hr
theorem own_len (X : Stand p l e R s m args below meth c T locs cells slots) (hx : p.tables.exec = Jvm.exec) (hZ : Z.Warmed39 s.vm) (eT : T.heap = h) {a : Addr} {ty : FieldType} {n : Nat} {f : Nat → Value} (A : AF Z h a ty n f) {g : JFrame} (hg : g.method = m) {rest : List Value} (hs : g.stack = .ref a :: rest) (hd : decode c.code g.pc = .ok (.arraylength, 1)) (target : State)
    (hr : Steps p.tables e below (T.setTop { g with pc := g.pc + 1, stack := .int (Int32.ofNat n) :: rest }) target) : Steps p.tables e below (T.setTop g) target := by
  obtain ⟨-, cl, Ar, S, H⟩ := A
  refine X.arraylength hx (by rw [eT]; exact Ar.1) (State.isArrayOf_alike hZ.alike Ar.2.1) hg hs hd target ?_
  rw [S]; exact hr
end OwnKit
section OwnKit2
variable {p : Program} {l : Launch} {e : Env} {R : Room} {s : State} {m : MethodId} {args : Array Value} {below : List Frame} {meth : Method} {c : Code} {T : State} {locs : List Loc} {cells slots : Nat} {Z : State} {h h' : Heap}
/-- as own_body, of a method that may intern -/
theorem own_bodyW {y : MethodName} {bytes : ByteArray} {maxL : Nat} {ret : Option FieldType} {ws : List Jvm.Cond} {rm : Room} {h0 : Heap} {Q : Option Value → Heap → List Loc → Prop} (hp : plainFor y = true)
    (body : ∀ (p : Program) (e : Env) (s : State) (m : MethodId) (below : List Frame) (meth : Method) (c : Code) (s₁ : State) (K : State → Prop),
      (∀ U U', (∀ t, Steps p.tables e below U' t → Steps p.tables e below U t) → K U' → K U) →
      (∀ {T : State} {locs : List Loc} {cells slots : Nat} {g : JFrame} {vm₁ : Vm} {n : Nat} (v : Option Value), Stand p l e rm (s.setVm vm₁) m args below meth c T locs cells slots → s.Since vm₁ n → n ≤ T.heap.size → cells ≤ rm.cells → slots ≤ rm.slots → (ret = none → v = none) → Q v T.heap locs →
        (∀ fs, (∀ (f : JFrame) (acts : List Action), f.method = m → f.locked = none → f.entered = [] → (doReturn e (T.setTop f) acts v).1 = T.setFrames fs) → Steps p.tables e below (T.setTop g) (T.setFrames fs)) → K (T.setTop g)) →
      Stand p l e rm s m args below meth c s₁ [] 0 0 → p.tables.exec = Jvm.exec → c.code = bytes → c.maxLocals = maxL → s.vm.findClass y.cls = some m.cls → meth.name = y.name → meth.sig.returnType = ret → Z.Warmed39 s.vm → s₁.heap = h0 → K (s₁.setTop (entryFrame m args maxL))) :
    MetFree l y (head1 (Jvm.Cond.code y bytes maxL ret :: ws) rm) (fun a U => a = args ∧ Z.Warmed39 U.vm ∧ U.heap = h0) (fun _ _ _ _ _ => True) (fun _ U o U' => ∃ v L, o = .returned v ∧ Q v U'.heap L ∧ ReturnedEndW U o U' L rm.cells rm.slots) := by
  refine MetFree.of_bodySF hp hisR ?_
  intro p e s m args' below meth c s₁ Bd hml hP hK
  obtain ⟨rfl, hZ, hh⟩ := hP
  refine body p e s m below meth c s₁ (fun U => ∃ s₂ o, Steps p.tables e below U s₂ ∧ s₂.status = .running ∧ Ended s₂ below o ∧ ∃ v L, o = .returned v ∧ Q v s₂.heap L ∧ ReturnedEndW s o s₂ L rm.cells rm.slots) ?_ ?_ (Stand.of_body Bd) Bd.exec Bd.bytes hml (findClass_of_methodNamed Bd.named) (name_of_methodNamed Bd.named Bd.method).1 Bd.returns hZ (by rw [← hh, Bd.state]; rfl)
  · rintro U U' st ⟨s₂, o, h1, h2⟩
    exact ⟨s₂, o, st _ h1, h2⟩
  · intro T locs cells slots g vm₁ n v X hS hn hc hs hv hQ hst
    obtain ⟨fs, hr, hrun, hended, hE⟩ := X.leaveW hS hn (v := v) (fun q => hv (Bd.returns ▸ q))
    exact ⟨_, _, hst fs hr, hrun, hended, v, locs, rfl, hQ, hE.1, hE.2.1, hE.2.2.1, hE.2.2.2.mono hc hs⟩
/-- as own_body, of a method with an exception table -/
theorem own_bodyH {y : MethodName} {bytes : ByteArray} {maxL : Nat} {ret : Option FieldType} {rows : List (Nat × Nat × Nat × Nat)} {ws : List Jvm.Cond} {rm : Room} {h0 : Heap} {Q : Option Value → Heap → List Loc → Prop} (hp : plainFor y = true) (hnc : y.name ≠ "<clinit>")
    (body : ∀ (p : Program) (e : Env) (s : State) (m : MethodId) (below : List Frame) (meth : Method) (c : Code) (s₁ : State) (K : State → Prop),
      (∀ U U', (∀ t, Steps p.tables e below U' t → Steps p.tables e below U t) → K U' → K U) →
      (∀ {T : State} {locs : List Loc} {cells slots : Nat} {g : JFrame} (v : Option Value), Stand p l e rm s m args below meth c T locs cells slots → cells ≤ rm.cells → slots ≤ rm.slots → (ret = none → v = none) → Q v T.heap locs →
        (∀ fs, (∀ (f : JFrame) (acts : List Action), f.method = m → f.locked = none → f.entered = [] → (doReturn e (T.setTop f) acts v).1 = T.setFrames fs) → Steps p.tables e below (T.setTop g) (T.setFrames fs)) → K (T.setTop g)) →
      Stand p l e rm s m args below meth c s₁ [] 0 0 → p.tables.exec = Jvm.exec → c.code = bytes → c.maxLocals = maxL → s.vm.findClass y.cls = some m.cls → meth.name = y.name → meth.sig.returnType = ret → Z.Warmed39 s.vm → s₁.heap = h0 → s.heap = h0 → meth.isSynchronized = false → K (s₁.setTop (entryFrame m args maxL))) :
    MetFree l y (head1 (Jvm.Cond.codeWith y bytes maxL ret rows :: ws) rm) (fun a U => a = args ∧ Z.Warmed39 U.vm ∧ U.heap = h0) (fun _ _ _ _ _ => True) (fun _ U o U' => ∃ v L, o = .returned v ∧ Q v U'.heap L ∧ FrameEnd U o U' L rm.cells rm.slots) := by
  refine MetFree.of_bodySF hp hisWith ?_
  intro p e s m args' below meth c s₁ Bd hml hP hK
  obtain ⟨rfl, hZ, hh⟩ := hP
  have hnm := (name_of_methodNamed Bd.named Bd.method).1
  have hsy : meth.isSynchronized = false := by
    have q := Bd.notSynchronized
    unfold Method.locks at q
    rw [hnm] at q
    simpa [hnc] using q
  refine body p e s m below meth c s₁ (fun U => ∃ s₂ o, Steps p.tables e below U s₂ ∧ s₂.status = .running ∧ Ended s₂ below o ∧ ∃ v L, o = .returned v ∧ Q v s₂.heap L ∧ FrameEnd s o s₂ L rm.cells rm.slots) ?_ ?_ (Stand.of_body Bd) Bd.exec Bd.bytes hml (findClass_of_methodNamed Bd.named) hnm Bd.returns hZ (by rw [← hh, Bd.state]; rfl) hh hsy
  · rintro U U' st ⟨s₂, o, h1, h2⟩
    exact ⟨s₂, o, st _ h1, h2⟩
  · intro T locs cells slots g v X hc hs hv hQ hst
    obtain ⟨fs, hr, hrun, hended, hW, hsame⟩ := X.leave (v := v) (fun q => hv (Bd.returns ▸ q))
    exact ⟨_, _, hst fs hr, hrun, hended, v, locs, rfl, hQ, ⟨_, rfl⟩, hW, hsame.mono hc hs⟩
theorem own_stZ (X : Stand p l e R s m args below meth c T locs cells slots) (hx : p.tables.exec = Jvm.exec) (hZ : Z.Warmed39 s.vm) (eT : T.heap = h) {a : Addr} {n i : Nat} {f : Nat → Value} (A : AF Z h a .boolean n f) {j x : Int32} (hj : j.toInt = (i : Int)) (hi : i < n) (hn : nar .boolean x = x) {g : JFrame} (hg : g.method = m) {rest : List Value} (hs : g.stack = .int x :: .int j :: .ref a :: rest) (hd : decode c.code g.pc = .ok (.bastore, 1)) :
    ∃ T' h', Stand p l e R s m args below meth c T' (locs ++ [⟨a, i⟩]) cells slots ∧ T'.heap = h' ∧ Wr h h' a i (.int x) ∧ AF Z h' a .boolean n (own_upd f i (.int x)) ∧ ∀ target, Steps p.tables e below (T'.setTop { g with pc := g.pc + 1, stack := rest }) target → Steps p.tables e below (T.setTop g) target := by
  obtain ⟨q1, cl, Ar, S, H⟩ := A
  obtain ⟨T', h', X', e', W, st⟩ := stZ X hx hZ eT Ar (j := j) (own_in S hj hi) hg hs hd
  rw [own_idx hj] at X' W
  rw [hn] at W
  exact ⟨T', h', X', e', W, own_set q1 Ar S H W hi, st⟩
theorem own_ldZ (X : Stand p l e R s m args below meth c T locs cells slots) (hx : p.tables.exec = Jvm.exec) (hZ : Z.Warmed39 s.vm) (eT : T.heap = h) {a : Addr} {n i : Nat} {f : Nat → Value} (A : AF Z h a .boolean n f) {j : Int32} (hj : j.toInt = (i : Int)) (hi : i < n) {g : JFrame} (hg : g.method = m) {rest : List Value} (hs : g.stack = .int j :: .ref a :: rest) (hd : decode c.code g.pc = .ok (.baload, 1)) {v : Value} (hv : f i = v) (target : State)
    (hr : Steps p.tables e below (T.setTop { g with pc := g.pc + 1, stack := v :: rest }) target) : Steps p.tables e below (T.setTop g) target := by
  obtain ⟨-, cl, Ar, S, H⟩ := A
  exact X.baloadBooleans hx (j := j) (v := v) (by rw [eT]; exact Ar.1) (State.isArrayOf_alike hZ.alike Ar.2.1) Ar.2.2 (own_in S hj hi) (by rw [own_idx hj, ← hv]; exact H i hi) hg hs hd target hr
/-- ldc of a String constant, cold -/
theorem own_ldcS (X : Stand p l e R s m args below meth c T locs cells slots) (hx : p.tables.exec = Jvm.exec) (hZ : Z.Warmed39 s.vm) {a0 : Array Value} {own text : String} {index : Nat} (hown : s.vm.findClass own = some m.cls) (w : (Cond.stringLink own index text).before a0 Z = true) (wS : ∀ a ∈ Bundle.stringAtoms, a.before a0 Z = true)
    (eT : T.heap = h) {g : JFrame} (hg : g.method = m) (hd : decode c.code g.pc = .ok (.ldc index, 2)) {n : Nat} (hn : 4 * text.toList.length ≤ n) (hbig : n ≤ 536870912) (hc : cells + 2 ≤ R.cells) (hl : slots + (n + 4) ≤ R.slots) :
    ∃ (a : Addr) (T' : State) (h' : Heap), Stand p l e R (s.setVm T'.vm) m args below meth c T' locs (cells + 2) (slots + (n + 4)) ∧ T'.heap = h' ∧ Ext h h' ∧ s.Since T'.vm h'.size ∧ Z.Warmed39 (s.setVm T'.vm).vm ∧ (s.setVm T'.vm).vm.findClass own = some m.cls ∧
      ∀ target, Steps p.tables e below (T'.setTop { g with pc := g.pc + 2, stack := .ref a :: g.stack }) target → Steps p.tables e below (T.setTop g) target := by
  obtain ⟨a, T', X', hS', -, hb, -, st⟩ := X.ldcStringCold hx (own := own) hown (mvS hZ w) (fun d hd => by
    have q := wS d hd
    simp only [Bundle.stringAtoms, List.mem_cons, List.not_mem_nil, or_false] at hd
    rcases hd with rfl | rfl | rfl | rfl | rfl | rfl | rfl
    · exact mv hZ q
    · exact mv hZ q
    · exact mvA hZ q
    · exact mv hZ q
    · exact mv hZ q
    · exact mv hZ q
    · exact mv hZ q) hg hd hn hbig hc hl
  subst eT
  have E := ext_of hb
  exact ⟨a, T', _, X', rfl, E, hS', State.Warmed39.trans hZ hS'.1, by rw [show (s.setVm T'.vm).vm = T'.vm from rfl, hS'.1.alike.findClass]; exact hown, st⟩
/-! frames that hold a monitor, or held one -/
abbrev own_mkE (a : Addr) (m : MethodId) (pc : Nat) (ls : Array Slot) (st : List Value) : JFrame := { method := m, pc := pc, locals := ls, stack := st, locked := none, entered := [a], monitorRoom := 1 }
abbrev own_mkX (m : MethodId) (pc : Nat) (ls : Array Slot) (st : List Value) : JFrame := { method := m, pc := pc, locals := ls, stack := st, locked := none, entered := [], monitorRoom := 1 }
theorem own_retX (X : Stand p l e R s m args below meth c T locs cells slots) (hx : p.tables.exec = Jvm.exec) {pc : Nat} {Ls : Array Slot} {z : Int32} {rest : List Value} (hret : meth.sig.returnType = some .boolean) (hn : narrow .boolean (.int z) = .int z) (hd : decode c.code pc = .ok (.ireturn, 1)) {fs : List Frame}
    (hl : ∀ (f : JFrame) (acts : List Action), f.method = m → f.locked = none → f.entered = [] → (doReturn e (T.setTop f) acts (some (.int z))).1 = T.setFrames fs) : Steps p.tables e below (T.setTop (own_mkX m pc Ls (.int z :: rest))) (T.setFrames fs) := by
  have hm' : T.vm.method? m = some meth := X.method'
  show Steps p.tables e below (T.setTop { method := m, pc := pc, locals := Ls, stack := _ :: rest, locked := none, entered := [], monitorRoom := 1 }) _
  jvm_step X.here [X.here.top, hx, hd, hm', hret, hn]
  first | (intro acts; rw [hl _ acts rfl rfl rfl]) | rw [hl _ _ rfl rfl rfl]
  exact Steps.refl _
theorem own_retV (X : Stand p l e R s m args below meth c T locs cells slots) (hx : p.tables.exec = Jvm.exec) {pc : Nat} {Ls : Array Slot} {st : List Value} (hret : meth.sig.returnType = none) (hd : decode c.code pc = .ok (.return_, 1)) {fs : List Frame}
    (hl : ∀ (f : JFrame) (acts : List Action), f.method = m → f.locked = none → f.entered = [] → (doReturn e (T.setTop f) acts none).1 = T.setFrames fs) : Steps p.tables e below (T.setTop (own_mkX m pc Ls st)) (T.setFrames fs) := by
  have hm' : T.vm.method? m = some meth := X.method'
  show Steps p.tables e below (T.setTop { method := m, pc := pc, locals := Ls, stack := st, locked := none, entered := [], monitorRoom := 1 }) _
  jvm_step X.here [X.here.top, hx, hd, hm', hret]
  first | (intro acts; rw [hl _ acts rfl rfl rfl]) | rw [hl _ _ rfl rfl rfl]
  exact Steps.refl _
/-! the heap in and out of a monitor -/
theorem own_monE (a : Addr) {cell : Cell} (hc : h[a]? = some cell) (t : ThreadId) : Mon h (h.setIfInBounds a (cell.withEntry t)) := mon_set hc _
theorem own_AFset {a b : Addr} {ty : FieldType} {n : Nat} {f : Nat → Value} {cell : Cell} (A : AF Z h b ty n f) (q : b ≠ a) : AF Z (h.setIfInBounds a cell) b ty n f := by
  obtain ⟨q1, c, A, r⟩ := A
  exact ⟨q1, c, ⟨by rw [Array.getElem?_setIfInBounds_ne (fun z => q z.symm)]; exact A.1, A.2⟩, r⟩
theorem own_back1 {a : Addr} {cell : Cell} {t : ThreadId} (hc : h[a]? = some cell) (hm : cell.monitor = {}) : (h.setIfInBounds a (cell.withEntry t)).setIfInBounds a (cell.withEntry t).left = h := by
  rw [Cell.left_withEntry' (Or.inl (by rw [hm]; exact ⟨rfl, rfl⟩))]
  apply Array.ext_getElem?
  intro i
  by_cases q : a = i
  · subst q
    obtain ⟨hl, he⟩ := Array.getElem?_eq_some_iff.mp hc
    simp [hl, he]
  · rw [Array.getElem?_setIfInBounds_ne q, Array.getElem?_setIfInBounds_ne q]
theorem own_enterable {cell : Cell} (hm : cell.monitor = {}) (t : ThreadId) : cell.enterable t := Or.inl (by rw [hm]; exact ⟨rfl, rfl⟩)
theorem own_selP {y : MethodName} {k : Nat} {args a0 : Array Value} (hZ : Z.Warmed39 s.vm) (w1 : (Cond.instantiable y.cls k).before a0 Z = true) (w2 : (Cond.privateMethod y).before a0 Z = true) (w3 : (Cond.instanceMethod y).before a0 Z = true) (hy : y.cls ≠ "java/lang/invoke/MethodHandle" ∧ y.cls ≠ "java/lang/invoke/VarHandle") : (Cond.selects y.cls y y).before args s = true := by
  obtain ⟨c, k', h1, h2, -, h4, -⟩ := Cond.instantiable_spec (mv (args := args) hZ w1)
  exact Stand.selects_self_of_private h1 h2 (by simpa using (Bool.or_eq_false_iff.mp h4).1) (Cond.privateMethod_at (mvP (args := #[]) hZ w2)) (mv hZ w3) hy
theorem own_Ult {a : Addr} (U : Unt h a) : a < h.size := by obtain ⟨_, q, -⟩ := U; exact (Array.getElem?_eq_some_iff.mp q).1
/-- a write between the monitor's enter and its exit -/
theorem own_monW {a ck : Addr} {cel : Cell} {t : ThreadId} {i : Nat} {v : Value} (hc : h[a]? = some cel) (hm : cel.monitor = {}) (q : a ≠ ck) (W : Wr (h.setIfInBounds a (cel.withEntry t)) h' ck i v) : h'[a]? = some (cel.withEntry t) ∧ Wr h (h'.setIfInBounds a (cel.withEntry t).left) ck i v := by
  obtain ⟨cell, w1, w2, w3, rfl⟩ := W
  rw [Array.getElem?_setIfInBounds_ne q] at w1
  obtain ⟨hl, he⟩ := Array.getElem?_eq_some_iff.mp hc
  refine ⟨by rw [Array.getElem?_setIfInBounds_ne (Ne.symm q)]; simp [hl], cell, w1, w2, w3, ?_⟩
  rw [Cell.left_withEntry' (Or.inl (by rw [hm]; exact ⟨rfl, rfl⟩))]
  apply Array.ext_getElem?
  intro j
  by_cases q1 : a = j
  · subst q1
    rw [Array.getElem?_setIfInBounds_ne (Ne.symm q), hc]
    simp [hl]
  · rw [Array.getElem?_setIfInBounds_ne q1]
    by_cases q2 : ck = j
    · subst q2
      obtain ⟨hl2, -⟩ := Array.getElem?_eq_some_iff.mp w1
      simp [hl2]
    · rw [Array.getElem?_setIfInBounds_ne q2, Array.getElem?_setIfInBounds_ne q2, Array.getElem?_setIfInBounds_ne q1]
theorem own_str {a0 : Array Value} (hw : ∀ d ∈ tables_1, d.before a0 Z = true) : ∀ a ∈ Bundle.stringAtoms, a.before a0 Z = true := by
  intro d hd
  simp only [Bundle.stringAtoms, List.mem_cons, List.not_mem_nil, or_false] at hd
  rcases hd with rfl | rfl | rfl | rfl | rfl | rfl | rfl
  · exact hw _ (List.mem_of_getElem? (i := 54) rfl)
  · exact hw _ (List.mem_of_getElem? (i := 55) rfl)
  · exact hw _ (List.mem_of_getElem? (i := 56) rfl)
  · exact hw _ (List.mem_of_getElem? (i := 57) rfl)
  · exact hw _ (List.mem_of_getElem? (i := 58) rfl)
  · exact hw _ (List.mem_of_getElem? (i := 59) rfl)
  · exact hw _ (List.mem_of_getElem? (i := 60) rfl)
end OwnKit2
theorem pd_1 : parseMethodDescriptor "()V" = some ⟨[], none⟩ := by decide +kernel
theorem pd_2 : parseMethodDescriptor "(I)V" = some ⟨[.int], none⟩ := by decide +kernel
theorem pd_3 : parseMethodDescriptor "(ZI)V" = some ⟨[.boolean, .int], none⟩ := by decide +kernel
theorem pd_4 : parseMethodDescriptor "(I)Z" = some ⟨[.int], some .boolean⟩ := by decide +kernel
theorem pd_5 : parseMethodDescriptor "(III)I" = some ⟨[.int, .int, .int], some .int⟩ := by decide +kernel
theorem pd_6 : parseMethodDescriptor "(Ljava/lang/String;III)I" = some ⟨[(.object "java/lang/String"), .int, .int, .int], some .int⟩ := by decide +kernel
theorem d1_0 : decode method_2_code 0 = .ok (.iload_n 0, 1) := by decide +kernel
theorem d1_1 : decode method_2_code 1 = .ok (.ifCond .ne 5, 3) := by decide +kernel
theorem d1_4 : decode method_2_code 4 = .ok (.iload_n 1, 1) := by decide +kernel
theorem d1_5 : decode method_2_code 5 = .ok (.ireturn, 1) := by decide +kernel
theorem d1_6 : decode method_2_code 6 = .ok (.iload_n 0, 1) := by decide +kernel
theorem d1_7 : decode method_2_code 7 = .ok (.iconst 1, 1) := by decide +kernel
theorem d1_8 : decode method_2_code 8 = .ok (.if_icmp .ne 7, 3) := by decide +kernel
theorem d1_11 : decode method_2_code 11 = .ok (.iload_n 2, 1) := by decide +kernel
theorem d1_12 : decode method_2_code 12 = .ok (.iconst 1, 1) := by decide +kernel
theorem d1_13 : decode method_2_code 13 = .ok (.isub, 1) := by decide +kernel
theorem d1_14 : decode method_2_code 14 = .ok (.ireturn, 1) := by decide +kernel
theorem d1_15 : decode method_2_code 15 = .ok (.iload_n 0, 1) := by decide +kernel
theorem d1_16 : decode method_2_code 16 = .ok (.iconst 2, 1) := by decide +kernel
theorem d1_17 : decode method_2_code 17 = .ok (.if_icmp .ne 5, 3) := by decide +kernel
theorem d1_20 : decode method_2_code 20 = .ok (.iload_n 2, 1) := by decide +kernel
theorem d1_21 : decode method_2_code 21 = .ok (.ireturn, 1) := by decide +kernel
theorem d1_22 : decode method_2_code 22 = .ok (.iload_n 0, 1) := by decide +kernel
theorem d1_23 : decode method_2_code 23 = .ok (.iconst 3, 1) := by decide +kernel
theorem d1_24 : decode method_2_code 24 = .ok (.if_icmp .ne 5, 3) := by decide +kernel
theorem d1_27 : decode method_2_code 27 = .ok (.iconst (-1), 1) := by decide +kernel
theorem d1_28 : decode method_2_code 28 = .ok (.ireturn, 1) := by decide +kernel
theorem d1_29 : decode method_2_code 29 = .ok (.iload_n 0, 1) := by decide +kernel
theorem d1_30 : decode method_2_code 30 = .ok (.iconst 4, 1) := by decide +kernel
theorem d1_31 : decode method_2_code 31 = .ok (.if_icmp .ne 5, 3) := by decide +kernel
theorem d1_34 : decode method_2_code 34 = .ok (.iconst 0, 1) := by decide +kernel
theorem d1_35 : decode method_2_code 35 = .ok (.ireturn, 1) := by decide +kernel
theorem d1_36 : decode method_2_code 36 = .ok (.iload_n 0, 1) := by decide +kernel
theorem d1_37 : decode method_2_code 37 = .ok (.iconst 5, 1) := by decide +kernel
theorem d1_38 : decode method_2_code 38 = .ok (.if_icmp .ne 7, 3) := by decide +kernel
theorem d1_41 : decode method_2_code 41 = .ok (.sipush 255, 3) := by decide +kernel
theorem d1_44 : decode method_2_code 44 = .ok (.ireturn, 1) := by decide +kernel
theorem d1_45 : decode method_2_code 45 = .ok (.iload_n 0, 1) := by decide +kernel
theorem d1_46 : decode method_2_code 46 = .ok (.bipush 6, 2) := by decide +kernel
theorem d1_48 : decode method_2_code 48 = .ok (.if_icmp .ne 7, 3) := by decide +kernel
theorem d1_51 : decode method_2_code 51 = .ok (.sipush 256, 3) := by decide +kernel
theorem d1_54 : decode method_2_code 54 = .ok (.ireturn, 1) := by decide +kernel
theorem d1_55 : decode method_2_code 55 = .ok (.iload_n 1, 1) := by decide +kernel
theorem d1_56 : decode method_2_code 56 = .ok (.sipush 511, 3) := by decide +kernel
theorem d1_59 : decode method_2_code 59 = .ok (.iand, 1) := by decide +kernel
theorem d1_60 : decode method_2_code 60 = .ok (.ireturn, 1) := by decide +kernel
theorem pn_8 : plainName "formlet/input/ButtonsSupportsExtendedFeaturesPinLaw" = true := by first | (simp [plainName, overriddenIn]; done) | decide +kernel
theorem ef_rm1 (m : MethodId) (p1 : Int32) (p2 : Int32) (p3 : Int32) : entryFrame m #[(.int p1), (.int p2), (.int p3)] 3 = mkF m 0 #[.val (.int p1), .val (.int p2), .val (.int p3)] [] := by first | (simp [entryFrame, mkF, argsToLocals, Value.category]; done) | rfl
def f_rm1 (p1 : Int32) (p2 : Int32) (p3 : Int32) : Int32 := (if p1 = (0 : Int32) then p2 else (if p1 = (1 : Int32) then (p3 - (1 : Int32)) else (if p1 = (2 : Int32) then p3 else (if p1 = (3 : Int32) then (-1 : Int32) else (if p1 = (4 : Int32) then (0 : Int32) else (if p1 = (5 : Int32) then (255 : Int32) else (if p1 = (6 : Int32) then (256 : Int32) else (p2 &&& (511 : Int32)))))))))
def Q_rm1 (Z : State) (p1 : Int32) (p2 : Int32) (p3 : Int32) (h0 : Heap) (n0 : Nat) (v : Option Value) (h : Heap) (L : List Loc) : Prop := v = some (.int (f_rm1 p1 p2 p3)) ∧ Fr n0 L ∧ h = h0
set_option maxRecDepth 65536 in
set_option maxHeartbeats 40000000 in
theorem rm1 (l : Launch) (Z : State) (a0 : Array Value) (hw : ∀ d ∈ tables_1, d.before a0 Z = true) (ws : List Jvm.Cond) (p1 : Int32) (p2 : Int32) (p3 : Int32) (h0 : Heap) (n0 : Nat) (Z0 : n0 ≤ h0.size)  :
    MetFree l (⟨"formlet/input/ButtonsSupportsExtendedFeaturesPinLaw", "pickId", "(III)I"⟩ : MethodName) (head1 (Jvm.Cond.code (⟨"formlet/input/ButtonsSupportsExtendedFeaturesPinLaw", "pickId", "(III)I"⟩ : MethodName) method_2_code 3 (some .int) :: ws) ({ frames := 0, cells := 0, slots := 0, locals := 0 } : Room)) (fun a U => a = #[(.int p1), (.int p2), (.int p3)] ∧ Z.Warmed39 U.vm ∧ U.heap = h0) (fun _ _ _ _ _ => True) (fun _ U o U' => ∃ v L, o = .returned v ∧ Q_rm1 Z p1 p2 p3 h0 n0 v U'.heap L ∧ FrameEnd U o U' L ({ frames := 0, cells := 0, slots := 0, locals := 0 } : Room).cells ({ frames := 0, cells := 0, slots := 0, locals := 0 } : Room).slots) := by
  refine own_body (Q := Q_rm1 Z p1 p2 p3 h0 n0) (plainFor_of_name pn_8) ?_
  intro p e s m below meth c s₁ K go fin X0 hx hby hml hown hnm hret hZ e0
  have hown : s.vm.findClass "formlet/input/ButtonsSupportsExtendedFeaturesPinLaw" = some m.cls := hown
  have N0 := Fr.nil n0
  refine go _ (s₁.setTop (mkF m 0 #[.val (.int p1), .val (.int p2), .val (.int p3)] [])) (fun t k => castTop (ef_rm1 m p1 p2 p3) k) ?_
  refine go _ (s₁.setTop (mkF m 1 #[.val (.int p1), .val (.int p2), .val (.int p3)] [(.int p1)])) (fun t k => XS.iloadN X0.here hx rfl (hb hby d1_0) rfl k) ?_
  by_cases hc1 : p1 = (0 : Int32)
  · refine go _ (s₁.setTop (mkF m 4 #[.val (.int p1), .val (.int p2), .val (.int p3)] [])) (fun t k => XS.ifNo X0.here hx rfl (hb hby d1_1) rfl ((if0 _ _).trans (teq hc1).2) k) ?_
    refine go _ (s₁.setTop (mkF m 5 #[.val (.int p1), .val (.int p2), .val (.int p3)] [(.int p2)])) (fun t k => XS.iloadN X0.here hx rfl (hb hby d1_4) rfl k) ?_
    exact fin (some (.int p2)) X0 (by decide) (by decide) (fun q => by cases q) (show Q_rm1 Z p1 p2 p3 h0 n0 _ s₁.heap _ from (by rw [e0]; exact ⟨congrArg some (congrArg Value.int (show (f_rm1 p1 p2 p3) = p2 from (by unfold f_rm1; rw [if_pos hc1])).symm), N0, rfl⟩)) (fun fs hr => retI X0 hx hret (hb hby d1_5) hr)
  · refine go _ (s₁.setTop (mkF m 6 #[.val (.int p1), .val (.int p2), .val (.int p3)] [])) (fun t k => XS.ifYes X0.here hx rfl (pc0 := 1) (pc' := 6) rfl (hb hby d1_1) rfl ((if0 _ _).trans (feq hc1).2) (by decide) (by decide) k) ?_
    refine go _ (s₁.setTop (mkF m 7 #[.val (.int p1), .val (.int p2), .val (.int p3)] [(.int p1)])) (fun t k => XS.iloadN X0.here hx rfl (hb hby d1_6) rfl k) ?_
    refine go _ (s₁.setTop (mkF m 8 #[.val (.int p1), .val (.int p2), .val (.int p3)] [(.int (1 : Int32)), (.int p1)])) (fun t k => XS.iconst X0.here hx rfl (hb hby d1_7) k) ?_
    by_cases hc2 : p1 = (1 : Int32)
    · refine go _ (s₁.setTop (mkF m 11 #[.val (.int p1), .val (.int p2), .val (.int p3)] [])) (fun t k => XS.icmpNo X0.here hx rfl (hb hby d1_8) rfl (teq hc2).2 k) ?_
      refine go _ (s₁.setTop (mkF m 12 #[.val (.int p1), .val (.int p2), .val (.int p3)] [(.int p3)])) (fun t k => XS.iloadN X0.here hx rfl (hb hby d1_11) rfl k) ?_
      refine go _ (s₁.setTop (mkF m 13 #[.val (.int p1), .val (.int p2), .val (.int p3)] [(.int (1 : Int32)), (.int p3)])) (fun t k => XS.iconst X0.here hx rfl (hb hby d1_12) k) ?_
      refine go _ (s₁.setTop (mkF m 14 #[.val (.int p1), .val (.int p2), .val (.int p3)] [(.int (p3 - (1 : Int32)))])) (fun t k => XS.isub X0.here hx rfl (hb hby d1_13) rfl k) ?_
      exact fin (some (.int (p3 - (1 : Int32)))) X0 (by decide) (by decide) (fun q => by cases q) (show Q_rm1 Z p1 p2 p3 h0 n0 _ s₁.heap _ from (by rw [e0]; exact ⟨congrArg some (congrArg Value.int (show (f_rm1 p1 p2 p3) = (p3 - (1 : Int32)) from (by unfold f_rm1; rw [if_neg hc1, if_pos hc2])).symm), N0, rfl⟩)) (fun fs hr => retI X0 hx hret (hb hby d1_14) hr)
    · refine go _ (s₁.setTop (mkF m 15 #[.val (.int p1), .val (.int p2), .val (.int p3)] [])) (fun t k => XS.icmpYes X0.here hx rfl (pc0 := 8) (pc' := 15) rfl (hb hby d1_8) rfl (feq hc2).2 (by decide) (by decide) k) ?_
      refine go _ (s₁.setTop (mkF m 16 #[.val (.int p1), .val (.int p2), .val (.int p3)] [(.int p1)])) (fun t k => XS.iloadN X0.here hx rfl (hb hby d1_15) rfl k) ?_
      refine go _ (s₁.setTop (mkF m 17 #[.val (.int p1), .val (.int p2), .val (.int p3)] [(.int (2 : Int32)), (.int p1)])) (fun t k => XS.iconst X0.here hx rfl (hb hby d1_16) k) ?_
      by_cases hc3 : p1 = (2 : Int32)
      · refine go _ (s₁.setTop (mkF m 20 #[.val (.int p1), .val (.int p2), .val (.int p3)] [])) (fun t k => XS.icmpNo X0.here hx rfl (hb hby d1_17) rfl (teq hc3).2 k) ?_
        refine go _ (s₁.setTop (mkF m 21 #[.val (.int p1), .val (.int p2), .val (.int p3)] [(.int p3)])) (fun t k => XS.iloadN X0.here hx rfl (hb hby d1_20) rfl k) ?_
        exact fin (some (.int p3)) X0 (by decide) (by decide) (fun q => by cases q) (show Q_rm1 Z p1 p2 p3 h0 n0 _ s₁.heap _ from (by rw [e0]; exact ⟨congrArg some (congrArg Value.int (show (f_rm1 p1 p2 p3) = p3 from (by unfold f_rm1; rw [if_neg hc1, if_neg hc2, if_pos hc3])).symm), N0, rfl⟩)) (fun fs hr => retI X0 hx hret (hb hby d1_21) hr)
      · refine go _ (s₁.setTop (mkF m 22 #[.val (.int p1), .val (.int p2), .val (.int p3)] [])) (fun t k => XS.icmpYes X0.here hx rfl (pc0 := 17) (pc' := 22) rfl (hb hby d1_17) rfl (feq hc3).2 (by decide) (by decide) k) ?_
        refine go _ (s₁.setTop (mkF m 23 #[.val (.int p1), .val (.int p2), .val (.int p3)] [(.int p1)])) (fun t k => XS.iloadN X0.here hx rfl (hb hby d1_22) rfl k) ?_
        refine go _ (s₁.setTop (mkF m 24 #[.val (.int p1), .val (.int p2), .val (.int p3)] [(.int (3 : Int32)), (.int p1)])) (fun t k => XS.iconst X0.here hx rfl (hb hby d1_23) k) ?_
        by_cases hc4 : p1 = (3 : Int32)
        · refine go _ (s₁.setTop (mkF m 27 #[.val (.int p1), .val (.int p2), .val (.int p3)] [])) (fun t k => XS.icmpNo X0.here hx rfl (hb hby d1_24) rfl (teq hc4).2 k) ?_
          refine go _ (s₁.setTop (mkF m 28 #[.val (.int p1), .val (.int p2), .val (.int p3)] [(.int (-1 : Int32))])) (fun t k => XS.iconst X0.here hx rfl (hb hby d1_27) k) ?_
          exact fin (some (.int (-1 : Int32))) X0 (by decide) (by decide) (fun q => by cases q) (show Q_rm1 Z p1 p2 p3 h0 n0 _ s₁.heap _ from (by rw [e0]; exact ⟨congrArg some (congrArg Value.int (show (f_rm1 p1 p2 p3) = (-1 : Int32) from (by unfold f_rm1; rw [if_neg hc1, if_neg hc2, if_neg hc3, if_pos hc4])).symm), N0, rfl⟩)) (fun fs hr => retI X0 hx hret (hb hby d1_28) hr)
        · refine go _ (s₁.setTop (mkF m 29 #[.val (.int p1), .val (.int p2), .val (.int p3)] [])) (fun t k => XS.icmpYes X0.here hx rfl (pc0 := 24) (pc' := 29) rfl (hb hby d1_24) rfl (feq hc4).2 (by decide) (by decide) k) ?_
          refine go _ (s₁.setTop (mkF m 30 #[.val (.int p1), .val (.int p2), .val (.int p3)] [(.int p1)])) (fun t k => XS.iloadN X0.here hx rfl (hb hby d1_29) rfl k) ?_
          refine go _ (s₁.setTop (mkF m 31 #[.val (.int p1), .val (.int p2), .val (.int p3)] [(.int (4 : Int32)), (.int p1)])) (fun t k => XS.iconst X0.here hx rfl (hb hby d1_30) k) ?_
          by_cases hc5 : p1 = (4 : Int32)
          · refine go _ (s₁.setTop (mkF m 34 #[.val (.int p1), .val (.int p2), .val (.int p3)] [])) (fun t k => XS.icmpNo X0.here hx rfl (hb hby d1_31) rfl (teq hc5).2 k) ?_
            refine go _ (s₁.setTop (mkF m 35 #[.val (.int p1), .val (.int p2), .val (.int p3)] [(.int (0 : Int32))])) (fun t k => XS.iconst X0.here hx rfl (hb hby d1_34) k) ?_
            exact fin (some (.int (0 : Int32))) X0 (by decide) (by decide) (fun q => by cases q) (show Q_rm1 Z p1 p2 p3 h0 n0 _ s₁.heap _ from (by rw [e0]; exact ⟨congrArg some (congrArg Value.int (show (f_rm1 p1 p2 p3) = (0 : Int32) from (by unfold f_rm1; rw [if_neg hc1, if_neg hc2, if_neg hc3, if_neg hc4, if_pos hc5])).symm), N0, rfl⟩)) (fun fs hr => retI X0 hx hret (hb hby d1_35) hr)
          · refine go _ (s₁.setTop (mkF m 36 #[.val (.int p1), .val (.int p2), .val (.int p3)] [])) (fun t k => XS.icmpYes X0.here hx rfl (pc0 := 31) (pc' := 36) rfl (hb hby d1_31) rfl (feq hc5).2 (by decide) (by decide) k) ?_
            refine go _ (s₁.setTop (mkF m 37 #[.val (.int p1), .val (.int p2), .val (.int p3)] [(.int p1)])) (fun t k => XS.iloadN X0.here hx rfl (hb hby d1_36) rfl k) ?_
            refine go _ (s₁.setTop (mkF m 38 #[.val (.int p1), .val (.int p2), .val (.int p3)] [(.int (5 : Int32)), (.int p1)])) (fun t k => XS.iconst X0.here hx rfl (hb hby d1_37) k) ?_
            by_cases hc6 : p1 = (5 : Int32)
            · refine go _ (s₁.setTop (mkF m 41 #[.val (.int p1), .val (.int p2), .val (.int p3)] [])) (fun t k => XS.icmpNo X0.here hx rfl (hb hby d1_38) rfl (teq hc6).2 k) ?_
              refine go _ (s₁.setTop (mkF m 44 #[.val (.int p1), .val (.int p2), .val (.int p3)] [(.int (255 : Int32))])) (fun t k => XS.sipush X0.here hx rfl (hb hby d1_41) k) ?_
              exact fin (some (.int (255 : Int32))) X0 (by decide) (by decide) (fun q => by cases q) (show Q_rm1 Z p1 p2 p3 h0 n0 _ s₁.heap _ from (by rw [e0]; exact ⟨congrArg some (congrArg Value.int (show (f_rm1 p1 p2 p3) = (255 : Int32) from (by unfold f_rm1; rw [if_neg hc1, if_neg hc2, if_neg hc3, if_neg hc4, if_neg hc5, if_pos hc6])).symm), N0, rfl⟩)) (fun fs hr => retI X0 hx hret (hb hby d1_44) hr)
            · refine go _ (s₁.setTop (mkF m 45 #[.val (.int p1), .val (.int p2), .val (.int p3)] [])) (fun t k => XS.icmpYes X0.here hx rfl (pc0 := 38) (pc' := 45) rfl (hb hby d1_38) rfl (feq hc6).2 (by decide) (by decide) k) ?_
              refine go _ (s₁.setTop (mkF m 46 #[.val (.int p1), .val (.int p2), .val (.int p3)] [(.int p1)])) (fun t k => XS.iloadN X0.here hx rfl (hb hby d1_45) rfl k) ?_
              refine go _ (s₁.setTop (mkF m 48 #[.val (.int p1), .val (.int p2), .val (.int p3)] [(.int (6 : Int32)), (.int p1)])) (fun t k => XS.bipush X0.here hx rfl (hb hby d1_46) k) ?_
              by_cases hc7 : p1 = (6 : Int32)
              · refine go _ (s₁.setTop (mkF m 51 #[.val (.int p1), .val (.int p2), .val (.int p3)] [])) (fun t k => XS.icmpNo X0.here hx rfl (hb hby d1_48) rfl (teq hc7).2 k) ?_
                refine go _ (s₁.setTop (mkF m 54 #[.val (.int p1), .val (.int p2), .val (.int p3)] [(.int (256 : Int32))])) (fun t k => XS.sipush X0.here hx rfl (hb hby d1_51) k) ?_
                exact fin (some (.int (256 : Int32))) X0 (by decide) (by decide) (fun q => by cases q) (show Q_rm1 Z p1 p2 p3 h0 n0 _ s₁.heap _ from (by rw [e0]; exact ⟨congrArg some (congrArg Value.int (show (f_rm1 p1 p2 p3) = (256 : Int32) from (by unfold f_rm1; rw [if_neg hc1, if_neg hc2, if_neg hc3, if_neg hc4, if_neg hc5, if_neg hc6, if_pos hc7])).symm), N0, rfl⟩)) (fun fs hr => retI X0 hx hret (hb hby d1_54) hr)
              · refine go _ (s₁.setTop (mkF m 55 #[.val (.int p1), .val (.int p2), .val (.int p3)] [])) (fun t k => XS.icmpYes X0.here hx rfl (pc0 := 48) (pc' := 55) rfl (hb hby d1_48) rfl (feq hc7).2 (by decide) (by decide) k) ?_
                refine go _ (s₁.setTop (mkF m 56 #[.val (.int p1), .val (.int p2), .val (.int p3)] [(.int p2)])) (fun t k => XS.iloadN X0.here hx rfl (hb hby d1_55) rfl k) ?_
                refine go _ (s₁.setTop (mkF m 59 #[.val (.int p1), .val (.int p2), .val (.int p3)] [(.int (511 : Int32)), (.int p2)])) (fun t k => XS.sipush X0.here hx rfl (hb hby d1_56) k) ?_
                refine go _ (s₁.setTop (mkF m 60 #[.val (.int p1), .val (.int p2), .val (.int p3)] [(.int (p2 &&& (511 : Int32)))])) (fun t k => XS.iand X0.here hx rfl (hb hby d1_59) rfl k) ?_
                exact fin (some (.int (p2 &&& (511 : Int32)))) X0 (by decide) (by decide) (fun q => by cases q) (show Q_rm1 Z p1 p2 p3 h0 n0 _ s₁.heap _ from (by rw [e0]; exact ⟨congrArg some (congrArg Value.int (show (f_rm1 p1 p2 p3) = (p2 &&& (511 : Int32)) from (by unfold f_rm1; rw [if_neg hc1, if_neg hc2, if_neg hc3, if_neg hc4, if_neg hc5, if_neg hc6, if_neg hc7])).symm), N0, rfl⟩)) (fun fs hr => retI X0 hx hret (hb hby d1_60) hr)
theorem d4_0 : decode prog_7_method_1_code 0 = .ok (.aload_n 0, 1) := by decide +kernel
theorem d4_1 : decode prog_7_method_1_code 1 = .ok (.invokespecial 1, 3) := by decide +kernel
theorem d4_4 : decode prog_7_method_1_code 4 = .ok (.aload_n 0, 1) := by decide +kernel
theorem d4_5 : decode prog_7_method_1_code 5 = .ok (.iconst (-1), 1) := by decide +kernel
theorem d4_6 : decode prog_7_method_1_code 6 = .ok (.putfield 7, 3) := by decide +kernel
theorem d4_9 : decode prog_7_method_1_code 9 = .ok (.return_, 1) := by decide +kernel
theorem pn_10 : plainName "formlet/EventGenerator" = true := by first | (simp [plainName, overriddenIn]; done) | decide +kernel
theorem ef_rm4 (m : MethodId) (a1 : Addr) : entryFrame m #[(.ref a1)] 1 = mkF m 0 #[.val (.ref a1)] [] := by first | (simp [entryFrame, mkF, argsToLocals, Value.category]; done) | rfl
def Q_rm4 (Z : State) (a1 : Addr) (h0 : Heap) (n0 : Nat) (v : Option Value) (h : Heap) (L : List Loc) : Prop := v = none ∧ Fr n0 L ∧ Keep h0 h [a1] ∧ Fld Z h a1 "formlet/input/SequencedGenerator" "lock" "Ljava/lang/Object;" .null ∧ Fld Z h a1 "formlet/input/SequencedGenerator" "unsent" "Ljava/util/ArrayDeque;" .null ∧ Fld Z h a1 "formlet/input/SequencedGenerator" "events" "[I" .null ∧ Fld Z h a1 "formlet/input/Buttons" "click" "[Z" .null ∧ Fld Z h a1 "formlet/input/Buttons" "doubleClick" "[Z" .null ∧ Fld Z h a1 "formlet/input/Buttons" "delta" "[I" .null ∧ Fld Z h a1 "formlet/input/Buttons" "pressedBefore" "[Z" .null ∧ Fld Z h a1 "formlet/input/Buttons" "lastPress" "[J" .null ∧ Fld Z h a1 "formlet/input/Buttons" "sentBefore" "[Z" .null ∧ Fld Z h a1 "formlet/input/Buttons" "lastEvent" "[J" .null
set_option maxRecDepth 65536 in
set_option maxHeartbeats 40000000 in
theorem rm4 (l : Launch) (Z : State) (a0 : Array Value) (hw : ∀ d ∈ tables_1, d.before a0 Z = true) (ws : List Jvm.Cond) (a1 : Addr) (h0 : Heap) (n0 : Nat) (Z0 : n0 ≤ h0.size) (E0 : Exa Z h0 a1 "formlet/input/Buttons") (F_id : Fld Z h0 a1 "formlet/EventGenerator" "id" "I" (.int (0 : Int32))) (F_lock : Fld Z h0 a1 "formlet/input/SequencedGenerator" "lock" "Ljava/lang/Object;" .null) (F_unsent : Fld Z h0 a1 "formlet/input/SequencedGenerator" "unsent" "Ljava/util/ArrayDeque;" .null) (F_events : Fld Z h0 a1 "formlet/input/SequencedGenerator" "events" "[I" .null) (F_click : Fld Z h0 a1 "formlet/input/Buttons" "click" "[Z" .null) (F_doubleClick : Fld Z h0 a1 "formlet/input/Buttons" "doubleClick" "[Z" .null) (F_delta : Fld Z h0 a1 "formlet/input/Buttons" "delta" "[I" .null) (F_pressedBefore : Fld Z h0 a1 "formlet/input/Buttons" "pressedBefore" "[Z" .null) (F_lastPress : Fld Z h0 a1 "formlet/input/Buttons" "lastPress" "[J" .null) (F_sentBefore : Fld Z h0 a1 "formlet/input/Buttons" "sentBefore" "[Z" .null) (F_lastEvent : Fld Z h0 a1 "formlet/input/Buttons" "lastEvent" "[J" .null) (g0 : n0 ≤ a1) :
    MetFree l (⟨"formlet/EventGenerator", "<init>", "()V"⟩ : MethodName) (head1 (Jvm.Cond.code (⟨"formlet/EventGenerator", "<init>", "()V"⟩ : MethodName) prog_7_method_1_code 1 none :: ws) ({ frames := 1, cells := 0, slots := 0, locals := 12 } : Room)) (fun a U => a = #[(.ref a1)] ∧ Z.Warmed39 U.vm ∧ U.heap = h0) (fun _ _ _ _ _ => True) (fun _ U o U' => ∃ v L, o = .returned v ∧ Q_rm4 Z a1 h0 n0 v U'.heap L ∧ FrameEnd U o U' L ({ frames := 1, cells := 0, slots := 0, locals := 12 } : Room).cells ({ frames := 1, cells := 0, slots := 0, locals := 12 } : Room).slots) := by
  refine own_body (Q := Q_rm4 Z a1 h0 n0) (plainFor_of_name pn_10) ?_
  intro p e s m below meth c s₁ K go fin X0 hx hby hml hown hnm hret hZ e0
  have hown : s.vm.findClass "formlet/EventGenerator" = some m.cls := hown
  have N0 := Fr.nil n0
  have K0 : Keep h0 h0 [a1] := Keep.refl h0 _
  refine go _ (s₁.setTop (mkF m 0 #[.val (.ref a1)] [])) (fun t k => castTop (ef_rm4 m a1) k) ?_
  refine go _ (s₁.setTop (mkF m 1 #[.val (.ref a1)] [(.ref a1)])) (fun t k => XS.aloadN X0.here hx rfl (hb hby d4_0) rfl rfl k) ?_
  obtain ⟨T8, X8, e8, st8⟩ := initO X0 hx hZ hown (hw _ (List.mem_of_getElem? (i := 20) rfl)) (hw _ (List.mem_of_getElem? (i := 21) rfl)) (hw _ (List.mem_of_getElem? (i := 22) rfl)) e0 (g := (mkF m 1 #[.val (.ref a1)] [(.ref a1)])) rfl (by rw [hml]; rfl) rfl (hb hby d4_1) (by decide) (W := 0) (by show 2 * 0 + _ ≤ _; exact Nat.le_of_eq rfl) (by decide)
  refine go _ (T8.setTop (mkF m 4 #[.val (.ref a1)] [])) (st8) ?_
  refine go _ (T8.setTop (mkF m 5 #[.val (.ref a1)] [(.ref a1)])) (fun t k => XS.aloadN X8.here hx rfl (hb hby d4_4) rfl rfl k) ?_
  refine go _ (T8.setTop (mkF m 6 #[.val (.ref a1)] [(.int (-1 : Int32)), (.ref a1)])) (fun t k => XS.iconst X8.here hx rfl (hb hby d4_5) k) ?_
  obtain ⟨T9, h9, X9, e9, W9, st9⟩ := putF X8 hx hZ hown (host := "") (Or.inl (hw _ (List.mem_of_getElem? (i := 23) rfl))) Via.refl e8 F_id E0 (Or.inl (hw _ (List.mem_of_getElem? (i := 24) rfl))) (hw _ (List.mem_of_getElem? (i := 5) rfl)) (ty := .int) (by decide) rfl rfl (g := (mkF m 6 #[.val (.ref a1)] [(.int (-1 : Int32)), (.ref a1)])) rfl rfl (hb hby d4_6)
  have Fw9 := F_id.same W9
  have B10 := E0.wr W9
  have F11 := F_lock.other W9 (Or.inr (slot_ne (Or.inr (hw _ (List.mem_of_getElem? (i := 30) rfl))) (Or.inl (hw _ (List.mem_of_getElem? (i := 24) rfl))) (by decide) (t := (.object "java/lang/Object")) (t' := .int) (by decide) (by decide)))
  have F12 := F_unsent.other W9 (Or.inr (slot_ne (Or.inr (hw _ (List.mem_of_getElem? (i := 49) rfl))) (Or.inl (hw _ (List.mem_of_getElem? (i := 24) rfl))) (by decide) (t := (.object "java/util/ArrayDeque")) (t' := .int) (by decide) (by decide)))
  have F13 := F_events.other W9 (Or.inr (slot_ne (Or.inl (hw _ (List.mem_of_getElem? (i := 52) rfl))) (Or.inl (hw _ (List.mem_of_getElem? (i := 24) rfl))) (by decide) (t := (.array .int)) (t' := .int) (by decide) (by decide)))
  have F14 := F_click.other W9 (Or.inr (slot_ne (Or.inr (hw _ (List.mem_of_getElem? (i := 67) rfl))) (Or.inl (hw _ (List.mem_of_getElem? (i := 24) rfl))) (by decide) (t := (.array .boolean)) (t' := .int) (by decide) (by decide)))
  have F15 := F_doubleClick.other W9 (Or.inr (slot_ne (Or.inr (hw _ (List.mem_of_getElem? (i := 69) rfl))) (Or.inl (hw _ (List.mem_of_getElem? (i := 24) rfl))) (by decide) (t := (.array .boolean)) (t' := .int) (by decide) (by decide)))
  have F16 := F_delta.other W9 (Or.inr (slot_ne (Or.inr (hw _ (List.mem_of_getElem? (i := 71) rfl))) (Or.inl (hw _ (List.mem_of_getElem? (i := 24) rfl))) (by decide) (t := (.array .int)) (t' := .int) (by decide) (by decide)))
  have F17 := F_pressedBefore.other W9 (Or.inr (slot_ne (Or.inr (hw _ (List.mem_of_getElem? (i := 73) rfl))) (Or.inl (hw _ (List.mem_of_getElem? (i := 24) rfl))) (by decide) (t := (.array .boolean)) (t' := .int) (by decide) (by decide)))
  have F18 := F_lastPress.other W9 (Or.inr (slot_ne (Or.inr (hw _ (List.mem_of_getElem? (i := 76) rfl))) (Or.inl (hw _ (List.mem_of_getElem? (i := 24) rfl))) (by decide) (t := (.array .long)) (t' := .int) (by decide) (by decide)))
  have F19 := F_sentBefore.other W9 (Or.inr (slot_ne (Or.inr (hw _ (List.mem_of_getElem? (i := 78) rfl))) (Or.inl (hw _ (List.mem_of_getElem? (i := 24) rfl))) (by decide) (t := (.array .boolean)) (t' := .int) (by decide) (by decide)))
  have F20 := F_lastEvent.other W9 (Or.inr (slot_ne (Or.inr (hw _ (List.mem_of_getElem? (i := 80) rfl))) (Or.inl (hw _ (List.mem_of_getElem? (i := 24) rfl))) (by decide) (t := (.array .long)) (t' := .int) (by decide) (by decide)))
  have Z21 : n0 ≤ h9.size := by rw [W9.size]; exact Z0
  have N22 := Fr.snoc X9 N0 g0
  have K23 := K0.wr W9 (Or.inl (by simp))
  refine go _ (T9.setTop (mkF m 9 #[.val (.ref a1)] [])) (st9) ?_
  exact fin none X9 (by decide) (by decide) (fun _ => rfl) (show Q_rm4 Z a1 h0 n0 _ T9.heap _ from (by rw [e9]; exact ⟨rfl, N22, K23, F11, F12, F13, F14, F15, F16, F17, F18, F19, F20⟩)) (fun fs hr => X9.returnOut hx hret (hb hby d4_9) hr)
theorem d7_0 : decode jdk_22_method_1_code 0 = .ok (.aload_n 0, 1) := by decide +kernel
theorem d7_1 : decode jdk_22_method_1_code 1 = .ok (.invokespecial 1, 3) := by decide +kernel
theorem d7_4 : decode jdk_22_method_1_code 4 = .ok (.return_, 1) := by decide +kernel
theorem pn_12 : plainName "java/util/AbstractCollection" = true := by first | (simp [plainName, overriddenIn]; done) | decide +kernel
theorem ef_rm7 (m : MethodId) (a1 : Addr) : entryFrame m #[(.ref a1)] 1 = mkF m 0 #[.val (.ref a1)] [] := by first | (simp [entryFrame, mkF, argsToLocals, Value.category]; done) | rfl
def Q_rm7 (Z : State) (a1 : Addr) (h0 : Heap) (n0 : Nat) (v : Option Value) (h : Heap) (L : List Loc) : Prop := v = none ∧ Fr n0 L ∧ h = h0
set_option maxRecDepth 65536 in
set_option maxHeartbeats 40000000 in
theorem rm7 (l : Launch) (Z : State) (a0 : Array Value) (hw : ∀ d ∈ tables_1, d.before a0 Z = true) (ws : List Jvm.Cond) (a1 : Addr) (h0 : Heap) (n0 : Nat) (Z0 : n0 ≤ h0.size)  :
    MetFree l (⟨"java/util/AbstractCollection", "<init>", "()V"⟩ : MethodName) (head1 (Jvm.Cond.code (⟨"java/util/AbstractCollection", "<init>", "()V"⟩ : MethodName) jdk_22_method_1_code 1 none :: ws) ({ frames := 1, cells := 0, slots := 0, locals := 12 } : Room)) (fun a U => a = #[(.ref a1)] ∧ Z.Warmed39 U.vm ∧ U.heap = h0) (fun _ _ _ _ _ => True) (fun _ U o U' => ∃ v L, o = .returned v ∧ Q_rm7 Z a1 h0 n0 v U'.heap L ∧ FrameEnd U o U' L ({ frames := 1, cells := 0, slots := 0, locals := 12 } : Room).cells ({ frames := 1, cells := 0, slots := 0, locals := 12 } : Room).slots) := by
  refine own_body (Q := Q_rm7 Z a1 h0 n0) (plainFor_of_name pn_12) ?_
  intro p e s m below meth c s₁ K go fin X0 hx hby hml hown hnm hret hZ e0
  have hown : s.vm.findClass "java/util/AbstractCollection" = some m.cls := hown
  have N0 := Fr.nil n0
  refine go _ (s₁.setTop (mkF m 0 #[.val (.ref a1)] [])) (fun t k => castTop (ef_rm7 m a1) k) ?_
  refine go _ (s₁.setTop (mkF m 1 #[.val (.ref a1)] [(.ref a1)])) (fun t k => XS.aloadN X0.here hx rfl (hb hby d7_0) rfl rfl k) ?_
  obtain ⟨T24, X24, e24, st24⟩ := initO X0 hx hZ hown (hw _ (List.mem_of_getElem? (i := 43) rfl)) (hw _ (List.mem_of_getElem? (i := 21) rfl)) (hw _ (List.mem_of_getElem? (i := 22) rfl)) e0 (g := (mkF m 1 #[.val (.ref a1)] [(.ref a1)])) rfl (by rw [hml]; rfl) rfl (hb hby d7_1) (by decide) (W := 0) (by show 2 * 0 + _ ≤ _; exact Nat.le_of_eq rfl) (by decide)
  refine go _ (T24.setTop (mkF m 4 #[.val (.ref a1)] [])) (st24) ?_
  exact fin none X24 (by decide) (by decide) (fun _ => rfl) (show Q_rm7 Z a1 h0 n0 _ T24.heap _ from (by rw [e24]; exact ⟨rfl, N0, rfl⟩)) (fun fs hr => X24.returnOut hx hret (hb hby d7_4) hr)
theorem d6_0 : decode jdk_21_method_3_code 0 = .ok (.aload_n 0, 1) := by decide +kernel
theorem d6_1 : decode jdk_21_method_3_code 1 = .ok (.invokespecial 42, 3) := by decide +kernel
theorem d6_4 : decode jdk_21_method_3_code 4 = .ok (.aload_n 0, 1) := by decide +kernel
theorem d6_5 : decode jdk_21_method_3_code 5 = .ok (.bipush 17, 2) := by decide +kernel
theorem d6_7 : decode jdk_21_method_3_code 7 = .ok (.anewarray 47, 3) := by decide +kernel
theorem d6_10 : decode jdk_21_method_3_code 10 = .ok (.putfield 3, 3) := by decide +kernel
theorem d6_13 : decode jdk_21_method_3_code 13 = .ok (.return_, 1) := by decide +kernel
theorem pn_14 : plainName "java/util/ArrayDeque" = true := by first | (simp [plainName, overriddenIn]; done) | decide +kernel
theorem ef_rm6 (m : MethodId) (a1 : Addr) : entryFrame m #[(.ref a1)] 1 = mkF m 0 #[.val (.ref a1)] [] := by first | (simp [entryFrame, mkF, argsToLocals, Value.category]; done) | rfl
def Q_rm6 (Z : State) (a1 : Addr) (h0 : Heap) (n0 : Nat) (v : Option Value) (h : Heap) (L : List Loc) : Prop := v = none ∧ Fr n0 L ∧ Keep h0 h [a1]
set_option maxRecDepth 65536 in
set_option maxHeartbeats 40000000 in
theorem rm6 (l : Launch) (Z : State) (a0 : Array Value) (hw : ∀ d ∈ tables_1, d.before a0 Z = true) (ws : List Jvm.Cond) (a1 : Addr) (h0 : Heap) (n0 : Nat) (Z0 : n0 ≤ h0.size) (E0 : Exa Z h0 a1 "java/util/ArrayDeque") (F0 : Fld Z h0 a1 "java/util/ArrayDeque" "elements" "[Ljava/lang/Object;" .null) (g0 : n0 ≤ a1) :
    MetFree l (⟨"java/util/ArrayDeque", "<init>", "()V"⟩ : MethodName) (head1 (Jvm.Cond.code (⟨"java/util/ArrayDeque", "<init>", "()V"⟩ : MethodName) jdk_21_method_3_code 1 none :: ws) ({ frames := 2, cells := 1, slots := 17, locals := 24 } : Room)) (fun a U => a = #[(.ref a1)] ∧ Z.Warmed39 U.vm ∧ U.heap = h0) (fun _ _ _ _ _ => True) (fun _ U o U' => ∃ v L, o = .returned v ∧ Q_rm6 Z a1 h0 n0 v U'.heap L ∧ FrameEnd U o U' L ({ frames := 2, cells := 1, slots := 17, locals := 24 } : Room).cells ({ frames := 2, cells := 1, slots := 17, locals := 24 } : Room).slots) := by
  refine own_body (Q := Q_rm6 Z a1 h0 n0) (plainFor_of_name pn_14) ?_
  intro p e s m below meth c s₁ K go fin X0 hx hby hml hown hnm hret hZ e0
  have hown : s.vm.findClass "java/util/ArrayDeque" = some m.cls := hown
  have N0 := Fr.nil n0
  have K0 : Keep h0 h0 [a1] := Keep.refl h0 _
  refine go _ (s₁.setTop (mkF m 0 #[.val (.ref a1)] [])) (fun t k => castTop (ef_rm6 m a1) k) ?_
  refine go _ (s₁.setTop (mkF m 1 #[.val (.ref a1)] [(.ref a1)])) (fun t k => XS.aloadN X0.here hx rfl (hb hby d6_0) rfl rfl k) ?_
  obtain ⟨_, _, ⟨T25, L25, k25, n25⟩, -, X25, ⟨Lc25, hQ25, l25, y25, z25⟩, st25⟩ := X0.specialBack hx (y := (⟨"java/util/AbstractCollection", "<init>", "()V"⟩ : MethodName)) rfl hown (mvT hZ (hw _ (List.mem_of_getElem? (i := 37) rfl))) (mvT hZ (hw _ (List.mem_of_getElem? (i := 38) rfl))) (mvT hZ (hw _ (List.mem_of_getElem? (i := 42) rfl))) (by decide) (backOf (W := 0) (rm7 l Z a0 hw [] a1  h0 n0 Z0 ) hZ (hw _ (List.mem_of_getElem? (i := 42) rfl)) (hw _ (List.mem_of_getElem? (i := 41) rfl)) (by decide) (by decide)) (g := (mkF m 1 #[.val (.ref a1)] [(.ref a1)])) rfl (by rw [hml]; rfl) (Steps.refl _) (a := a1) (argsL := []) (rest := []) (lenOf pd_1 rfl) rfl (by show 2 * 0 + _ ≤ _; exact Nat.le_of_eq rfl) (hb hby d6_1) (fun _ _ => ⟨rfl, e0, (by decide : 0 + 0 ≤ _), (by decide : 0 + 0 ≤ _)⟩)
  dsimp only [Pt.U, Pt.locs, Pt.cells, Pt.slots] at X25 l25 y25 z25 st25 hQ25
  rw [l25, y25, z25] at X25
  obtain ⟨rfl, Nq25, hh25⟩ := hQ25
  have N26 := Fr.app N0 Nq25
  have X25 : Stand p l e ({ frames := 2, cells := 1, slots := 17, locals := 24 } : Room) s m _ below meth c T25 _ 0 0 := X25
  refine go _ (T25.setTop (mkF m 4 #[.val (.ref a1)] [])) (fun t k => st25.trans k) ?_
  refine go _ (T25.setTop (mkF m 5 #[.val (.ref a1)] [(.ref a1)])) (fun t k => XS.aloadN X25.here hx rfl (hb hby d6_4) rfl rfl k) ?_
  refine go _ (T25.setTop (mkF m 7 #[.val (.ref a1)] [(.int (17 : Int32)), (.ref a1)])) (fun t k => XS.bipush X25.here hx rfl (hb hby d6_5) k) ?_
  obtain ⟨T27, h27, cA27, X27, e27, E27, A27, -, st27⟩ := newR X25 hx hZ hown (hw _ (List.mem_of_getElem? (i := 44) rfl)) (hw _ (List.mem_of_getElem? (i := 45) rfl)) hh25 (g := (mkF m 7 #[.val (.ref a1)] [(.int (17 : Int32)), (.ref a1)])) rfl (hb hby d6_7) rfl (by decide) (cap := 17) (by decide) (by decide) (by decide) (by decide)
  obtain ⟨b27, g27⟩ : ∃ z, z = h0.size := ⟨_, rfl⟩
  rw [← g27] at A27 st27
  have ne_a1_b27 : a1 ≠ b27 := by rw [g27]; exact Nat.ne_of_lt E0.lt
  have Z28 : n0 ≤ h27.size := Nat.le_trans Z0 E27.1
  have ge_b27 : n0 ≤ b27 := by rw [g27]; exact Z0
  have sz_b27 : h0.size ≤ b27 := by rw [g27]; exact K0.1
  have K29 := K0.ext E27
  have B30 := E0.ext E27
  have F31 := F0.ext E27
  refine go _ (T27.setTop (mkF m 10 #[.val (.ref a1)] [(.ref b27), (.ref a1)])) (st27) ?_
  obtain ⟨T32, h32, X32, e32, W32, st32⟩ := putF X27 hx hZ hown (host := "") (Or.inl (hw _ (List.mem_of_getElem? (i := 46) rfl))) Via.refl e27 F31 B30 (Or.inl (hw _ (List.mem_of_getElem? (i := 47) rfl))) (hw _ (List.mem_of_getElem? (i := 32) rfl)) (ty := (.array (.object "java/lang/Object"))) (by decide) rfl rfl (g := (mkF m 10 #[.val (.ref a1)] [(.ref b27), (.ref a1)])) rfl rfl (hb hby d6_10)
  have Fw32 := F31.same W32
  have B33 := B30.wr W32
  have Z34 : n0 ≤ h32.size := by rw [W32.size]; exact Z28
  have N35 := Fr.snoc X32 N26 g0
  have K36 := K29.wr W32 (Or.inl (by simp))
  refine go _ (T32.setTop (mkF m 13 #[.val (.ref a1)] [])) (st32) ?_
  exact fin none X32 (by decide) (by decide) (fun _ => rfl) (show Q_rm6 Z a1 h0 n0 _ T32.heap _ from (by rw [e32]; exact ⟨rfl, N35, K36⟩)) (fun fs hr => X32.returnOut hx hret (hb hby d6_13) hr)
theorem d3_0 : decode prog_40_method_1_code 0 = .ok (.aload_n 0, 1) := by decide +kernel
theorem d3_1 : decode prog_40_method_1_code 1 = .ok (.invokespecial 1, 3) := by decide +kernel
theorem d3_4 : decode prog_40_method_1_code 4 = .ok (.aload_n 0, 1) := by decide +kernel
theorem d3_5 : decode prog_40_method_1_code 5 = .ok (.new 7, 3) := by decide +kernel
theorem d3_8 : decode prog_40_method_1_code 8 = .ok (.dup, 1) := by decide +kernel
theorem d3_9 : decode prog_40_method_1_code 9 = .ok (.invokespecial 9, 3) := by decide +kernel
theorem d3_12 : decode prog_40_method_1_code 12 = .ok (.putfield 10, 3) := by decide +kernel
theorem d3_15 : decode prog_40_method_1_code 15 = .ok (.aload_n 0, 1) := by decide +kernel
theorem d3_16 : decode prog_40_method_1_code 16 = .ok (.new 16, 3) := by decide +kernel
theorem d3_19 : decode prog_40_method_1_code 19 = .ok (.dup, 1) := by decide +kernel
theorem d3_20 : decode prog_40_method_1_code 20 = .ok (.invokespecial 18, 3) := by decide +kernel
theorem d3_23 : decode prog_40_method_1_code 23 = .ok (.putfield 19, 3) := by decide +kernel
theorem d3_26 : decode prog_40_method_1_code 26 = .ok (.aload_n 0, 1) := by decide +kernel
theorem d3_27 : decode prog_40_method_1_code 27 = .ok (.iconst 1, 1) := by decide +kernel
theorem d3_28 : decode prog_40_method_1_code 28 = .ok (.newarray .int, 2) := by decide +kernel
theorem d3_30 : decode prog_40_method_1_code 30 = .ok (.putfield 23, 3) := by decide +kernel
theorem d3_33 : decode prog_40_method_1_code 33 = .ok (.return_, 1) := by decide +kernel
theorem pn_16 : plainName "formlet/input/SequencedGenerator" = true := by first | (simp [plainName, overriddenIn]; done) | decide +kernel
theorem ef_rm3 (m : MethodId) (a1 : Addr) : entryFrame m #[(.ref a1)] 1 = mkF m 0 #[.val (.ref a1)] [] := by first | (simp [entryFrame, mkF, argsToLocals, Value.category]; done) | rfl
def Q_rm3 (Z : State) (a1 : Addr) (h0 : Heap) (n0 : Nat) (v : Option Value) (h : Heap) (L : List Loc) : Prop := v = none ∧ Fr n0 L ∧ Keep h0 h [a1] ∧ ∃ lk : Addr, h0.size ≤ lk ∧ Unt h lk ∧ Fld Z h a1 "formlet/input/SequencedGenerator" "lock" "Ljava/lang/Object;" (.ref lk) ∧ Fld Z h a1 "formlet/input/Buttons" "click" "[Z" .null ∧ Fld Z h a1 "formlet/input/Buttons" "doubleClick" "[Z" .null ∧ Fld Z h a1 "formlet/input/Buttons" "delta" "[I" .null ∧ Fld Z h a1 "formlet/input/Buttons" "pressedBefore" "[Z" .null ∧ Fld Z h a1 "formlet/input/Buttons" "lastPress" "[J" .null ∧ Fld Z h a1 "formlet/input/Buttons" "sentBefore" "[Z" .null ∧ Fld Z h a1 "formlet/input/Buttons" "lastEvent" "[J" .null
set_option maxRecDepth 65536 in
set_option maxHeartbeats 40000000 in
theorem rm3 (l : Launch) (Z : State) (a0 : Array Value) (hw : ∀ d ∈ tables_1, d.before a0 Z = true) (ws : List Jvm.Cond) (a1 : Addr) (h0 : Heap) (n0 : Nat) (Z0 : n0 ≤ h0.size) (E0 : Exa Z h0 a1 "formlet/input/Buttons") (F_id : Fld Z h0 a1 "formlet/EventGenerator" "id" "I" (.int (0 : Int32))) (F_lock : Fld Z h0 a1 "formlet/input/SequencedGenerator" "lock" "Ljava/lang/Object;" .null) (F_unsent : Fld Z h0 a1 "formlet/input/SequencedGenerator" "unsent" "Ljava/util/ArrayDeque;" .null) (F_events : Fld Z h0 a1 "formlet/input/SequencedGenerator" "events" "[I" .null) (F_click : Fld Z h0 a1 "formlet/input/Buttons" "click" "[Z" .null) (F_doubleClick : Fld Z h0 a1 "formlet/input/Buttons" "doubleClick" "[Z" .null) (F_delta : Fld Z h0 a1 "formlet/input/Buttons" "delta" "[I" .null) (F_pressedBefore : Fld Z h0 a1 "formlet/input/Buttons" "pressedBefore" "[Z" .null) (F_lastPress : Fld Z h0 a1 "formlet/input/Buttons" "lastPress" "[J" .null) (F_sentBefore : Fld Z h0 a1 "formlet/input/Buttons" "sentBefore" "[Z" .null) (F_lastEvent : Fld Z h0 a1 "formlet/input/Buttons" "lastEvent" "[J" .null) (g0 : n0 ≤ a1) :
    MetFree l (⟨"formlet/input/SequencedGenerator", "<init>", "()V"⟩ : MethodName) (head1 (Jvm.Cond.code (⟨"formlet/input/SequencedGenerator", "<init>", "()V"⟩ : MethodName) prog_40_method_1_code 1 none :: ws) ({ frames := 3, cells := 4, slots := 21, locals := 38 } : Room)) (fun a U => a = #[(.ref a1)] ∧ Z.Warmed39 U.vm ∧ U.heap = h0) (fun _ _ _ _ _ => True) (fun _ U o U' => ∃ v L, o = .returned v ∧ Q_rm3 Z a1 h0 n0 v U'.heap L ∧ FrameEnd U o U' L ({ frames := 3, cells := 4, slots := 21, locals := 38 } : Room).cells ({ frames := 3, cells := 4, slots := 21, locals := 38 } : Room).slots) := by
  refine own_body (Q := Q_rm3 Z a1 h0 n0) (plainFor_of_name pn_16) ?_
  intro p e s m below meth c s₁ K go fin X0 hx hby hml hown hnm hret hZ e0
  have hown : s.vm.findClass "formlet/input/SequencedGenerator" = some m.cls := hown
  have N0 := Fr.nil n0
  have K0 : Keep h0 h0 [a1] := Keep.refl h0 _
  refine go _ (s₁.setTop (mkF m 0 #[.val (.ref a1)] [])) (fun t k => castTop (ef_rm3 m a1) k) ?_
  refine go _ (s₁.setTop (mkF m 1 #[.val (.ref a1)] [(.ref a1)])) (fun t k => XS.aloadN X0.here hx rfl (hb hby d3_0) rfl rfl k) ?_
  obtain ⟨_, _, ⟨T37, L37, k37, n37⟩, -, X37, ⟨Lc37, hQ37, l37, y37, z37⟩, st37⟩ := X0.specialBack hx (y := (⟨"formlet/EventGenerator", "<init>", "()V"⟩ : MethodName)) rfl hown (mvT hZ (hw _ (List.mem_of_getElem? (i := 15) rfl))) (mvT hZ (hw _ (List.mem_of_getElem? (i := 16) rfl))) (mvT hZ (hw _ (List.mem_of_getElem? (i := 19) rfl))) (by decide) (backOf (W := 0) (rm4 l Z a0 hw [] a1  h0 n0 Z0 E0 F_id F_lock F_unsent F_events F_click F_doubleClick F_delta F_pressedBefore F_lastPress F_sentBefore F_lastEvent g0) hZ (hw _ (List.mem_of_getElem? (i := 19) rfl)) (hw _ (List.mem_of_getElem? (i := 18) rfl)) (by decide) (by decide)) (g := (mkF m 1 #[.val (.ref a1)] [(.ref a1)])) rfl (by rw [hml]; rfl) (Steps.refl _) (a := a1) (argsL := []) (rest := []) (lenOf pd_1 rfl) rfl (by show 2 * 0 + _ ≤ _; exact Nat.le_of_eq rfl) (hb hby d3_1) (fun _ _ => ⟨rfl, e0, (by decide : 0 + 0 ≤ _), (by decide : 0 + 0 ≤ _)⟩)
  dsimp only [Pt.U, Pt.locs, Pt.cells, Pt.slots] at X37 l37 y37 z37 st37 hQ37
  rw [l37, y37, z37] at X37
  obtain ⟨rfl, Nq37, Kq37, Fq37_lock, Fq37_unsent, Fq37_events, Fq37_click, Fq37_doubleClick, Fq37_delta, Fq37_pressedBefore, Fq37_lastPress, Fq37_sentBefore, Fq37_lastEvent⟩ := hQ37
  have N38 := Fr.app N0 Nq37
  have X37 : Stand p l e ({ frames := 3, cells := 4, slots := 21, locals := 38 } : Room) s m _ below meth c T37 _ 0 0 := X37
  have B39 := E0.keep Kq37
  have Z40 : n0 ≤ T37.heap.size := Nat.le_trans Z0 Kq37.1
  have K41 := K0.trans Kq37 (allS (Or.inl (by simp)) all0)
  refine go _ (T37.setTop (mkF m 4 #[.val (.ref a1)] [])) (fun t k => st37.trans k) ?_
  refine go _ (T37.setTop (mkF m 5 #[.val (.ref a1)] [(.ref a1)])) (fun t k => XS.aloadN X37.here hx rfl (hb hby d3_4) rfl rfl k) ?_
  obtain ⟨T42, h42, X42, e42, E42, A42, D42, U42, st42⟩ := newO X37 hx hZ hown (hw _ (List.mem_of_getElem? (i := 25) rfl)) (hw _ (List.mem_of_getElem? (i := 26) rfl)) (hw _ (List.mem_of_getElem? (i := 27) rfl)) rfl (g := (mkF m 5 #[.val (.ref a1)] [(.ref a1)])) rfl (hb hby d3_5) (by decide) (by decide)
  obtain ⟨b42, g42⟩ : ∃ z, z = T37.heap.size := ⟨_, rfl⟩
  rw [← g42] at A42 D42 U42 st42
  have ne_a1_b42 : a1 ≠ b42 := by rw [g42]; exact Nat.ne_of_lt B39.lt
  have Z43 : n0 ≤ h42.size := Nat.le_trans Z40 E42.1
  have ge_b42 : n0 ≤ b42 := by rw [g42]; exact Z40
  have sz_b42 : h0.size ≤ b42 := by rw [g42]; exact K41.1
  have K44 := K41.ext E42
  have B45 := B39.ext E42
  have F46 := Fq37_lock.ext E42
  have F47 := Fq37_unsent.ext E42
  have F48 := Fq37_events.ext E42
  have F49 := Fq37_click.ext E42
  have F50 := Fq37_doubleClick.ext E42
  have F51 := Fq37_delta.ext E42
  have F52 := Fq37_pressedBefore.ext E42
  have F53 := Fq37_lastPress.ext E42
  have F54 := Fq37_sentBefore.ext E42
  have F55 := Fq37_lastEvent.ext E42
  have U42 : Unt h42 b42 := U42
  refine go _ (T42.setTop (mkF m 8 #[.val (.ref a1)] [(.ref b42), (.ref a1)])) (st42) ?_
  refine go _ (T42.setTop (mkF m 9 #[.val (.ref a1)] [(.ref b42), (.ref b42), (.ref a1)])) (fun t k => XS.dup X42.here hx rfl (hb hby d3_8) rfl rfl k) ?_
  obtain ⟨T56, X56, e56, st56⟩ := initO X42 hx hZ hown (hw _ (List.mem_of_getElem? (i := 28) rfl)) (hw _ (List.mem_of_getElem? (i := 21) rfl)) (hw _ (List.mem_of_getElem? (i := 22) rfl)) e42 (g := (mkF m 9 #[.val (.ref a1)] [(.ref b42), (.ref b42), (.ref a1)])) rfl (by rw [hml]; rfl) rfl (hb hby d3_9) (by decide) (W := 2) (by show 2 * 0 + _ ≤ _; exact Nat.le_of_eq rfl) (by decide)
  refine go _ (T56.setTop (mkF m 12 #[.val (.ref a1)] [(.ref b42), (.ref a1)])) (st56) ?_
  obtain ⟨T57, h57, X57, e57, W57, st57⟩ := putF X56 hx hZ hown (host := "") (Or.inl (hw _ (List.mem_of_getElem? (i := 29) rfl))) Via.refl e56 F46 B45 (Or.inr ⟨(hw _ (List.mem_of_getElem? (i := 30) rfl)), rfl, hnm⟩) (hw _ (List.mem_of_getElem? (i := 5) rfl)) (ty := (.object "java/lang/Object")) (by decide) rfl rfl (g := (mkF m 12 #[.val (.ref a1)] [(.ref b42), (.ref a1)])) rfl rfl (hb hby d3_12)
  have Fw57 := F46.same W57
  have B58 := B45.wr W57
  have F59 := F47.other W57 (Or.inr (slot_ne (Or.inr (hw _ (List.mem_of_getElem? (i := 49) rfl))) (Or.inr (hw _ (List.mem_of_getElem? (i := 30) rfl))) (by decide) (t := (.object "java/util/ArrayDeque")) (t' := (.object "java/lang/Object")) (by decide) (by decide)))
  have F60 := F48.other W57 (Or.inr (slot_ne (Or.inl (hw _ (List.mem_of_getElem? (i := 52) rfl))) (Or.inr (hw _ (List.mem_of_getElem? (i := 30) rfl))) (by decide) (t := (.array .int)) (t' := (.object "java/lang/Object")) (by decide) (by decide)))
  have F61 := F49.other W57 (Or.inr (slot_ne (Or.inr (hw _ (List.mem_of_getElem? (i := 67) rfl))) (Or.inr (hw _ (List.mem_of_getElem? (i := 30) rfl))) (by decide) (t := (.array .boolean)) (t' := (.object "java/lang/Object")) (by decide) (by decide)))
  have F62 := F50.other W57 (Or.inr (slot_ne (Or.inr (hw _ (List.mem_of_getElem? (i := 69) rfl))) (Or.inr (hw _ (List.mem_of_getElem? (i := 30) rfl))) (by decide) (t := (.array .boolean)) (t' := (.object "java/lang/Object")) (by decide) (by decide)))
  have F63 := F51.other W57 (Or.inr (slot_ne (Or.inr (hw _ (List.mem_of_getElem? (i := 71) rfl))) (Or.inr (hw _ (List.mem_of_getElem? (i := 30) rfl))) (by decide) (t := (.array .int)) (t' := (.object "java/lang/Object")) (by decide) (by decide)))
  have F64 := F52.other W57 (Or.inr (slot_ne (Or.inr (hw _ (List.mem_of_getElem? (i := 73) rfl))) (Or.inr (hw _ (List.mem_of_getElem? (i := 30) rfl))) (by decide) (t := (.array .boolean)) (t' := (.object "java/lang/Object")) (by decide) (by decide)))
  have F65 := F53.other W57 (Or.inr (slot_ne (Or.inr (hw _ (List.mem_of_getElem? (i := 76) rfl))) (Or.inr (hw _ (List.mem_of_getElem? (i := 30) rfl))) (by decide) (t := (.array .long)) (t' := (.object "java/lang/Object")) (by decide) (by decide)))
  have F66 := F54.other W57 (Or.inr (slot_ne (Or.inr (hw _ (List.mem_of_getElem? (i := 78) rfl))) (Or.inr (hw _ (List.mem_of_getElem? (i := 30) rfl))) (by decide) (t := (.array .boolean)) (t' := (.object "java/lang/Object")) (by decide) (by decide)))
  have F67 := F55.other W57 (Or.inr (slot_ne (Or.inr (hw _ (List.mem_of_getElem? (i := 80) rfl))) (Or.inr (hw _ (List.mem_of_getElem? (i := 30) rfl))) (by decide) (t := (.array .long)) (t' := (.object "java/lang/Object")) (by decide) (by decide)))
  have B68 := A42.wr W57
  have U69 := U42.wr W57
  have Z70 : n0 ≤ h57.size := by rw [W57.size]; exact Z43
  have N71 := Fr.snoc X57 N38 g0
  have K72 := K44.wr W57 (Or.inl (by simp))
  refine go _ (T57.setTop (mkF m 15 #[.val (.ref a1)] [])) (st57) ?_
  refine go _ (T57.setTop (mkF m 16 #[.val (.ref a1)] [(.ref a1)])) (fun t k => XS.aloadN X57.here hx rfl (hb hby d3_15) rfl rfl k) ?_
  obtain ⟨T73, h73, X73, e73, E73, A73, D73, U73, st73⟩ := newO X57 hx hZ hown (hw _ (List.mem_of_getElem? (i := 31) rfl)) (hw _ (List.mem_of_getElem? (i := 32) rfl)) (hw _ (List.mem_of_getElem? (i := 33) rfl)) e57 (g := (mkF m 16 #[.val (.ref a1)] [(.ref a1)])) rfl (hb hby d3_16) (by decide) (by decide)
  obtain ⟨b73, g73⟩ : ∃ z, z = h57.size := ⟨_, rfl⟩
  rw [← g73] at A73 D73 U73 st73
  have ne_b42_b73 : b42 ≠ b73 := by rw [g73]; exact Nat.ne_of_lt (own_Ult U69)
  have ne_a1_b73 : a1 ≠ b73 := by rw [g73]; exact Nat.ne_of_lt B58.lt
  have Z74 : n0 ≤ h73.size := Nat.le_trans Z70 E73.1
  have ge_b73 : n0 ≤ b73 := by rw [g73]; exact Z70
  have sz_b73 : h0.size ≤ b73 := by rw [g73]; exact K72.1
  have K75 := K72.ext E73
  have B76 := B58.ext E73
  have F77 := F59.ext E73
  have F78 := F60.ext E73
  have F79 := F61.ext E73
  have F80 := F62.ext E73
  have F81 := F63.ext E73
  have F82 := F64.ext E73
  have F83 := F65.ext E73
  have F84 := F66.ext E73
  have F85 := F67.ext E73
  have U86 := U69.ext E73
  have F87 := Fw57.ext E73
  have U73 : Unt h73 b73 := U73
  have F_elements_b73 : Fld Z h73 b73 "java/util/ArrayDeque" "elements" "[Ljava/lang/Object;" .null := D73 (Or.inl (hw _ (List.mem_of_getElem? (i := 47) rfl))) (ty := (.array (.object "java/lang/Object"))) (by decide)
  refine go _ (T73.setTop (mkF m 19 #[.val (.ref a1)] [(.ref b73), (.ref a1)])) (st73) ?_
  refine go _ (T73.setTop (mkF m 20 #[.val (.ref a1)] [(.ref b73), (.ref b73), (.ref a1)])) (fun t k => XS.dup X73.here hx rfl (hb hby d3_19) rfl rfl k) ?_
  obtain ⟨_, _, ⟨T88, L88, k88, n88⟩, -, X88, ⟨Lc88, hQ88, l88, y88, z88⟩, st88⟩ := X73.specialBack hx (y := (⟨"java/util/ArrayDeque", "<init>", "()V"⟩ : MethodName)) rfl hown (mvT hZ (hw _ (List.mem_of_getElem? (i := 34) rfl))) (mvT hZ (hw _ (List.mem_of_getElem? (i := 35) rfl))) (mvT hZ (hw _ (List.mem_of_getElem? (i := 36) rfl))) (by decide) (backOf (W := 2) (rm6 l Z a0 hw [] b73  h73 n0 Z74 A73 F_elements_b73 ge_b73) hZ (hw _ (List.mem_of_getElem? (i := 36) rfl)) (hw _ (List.mem_of_getElem? (i := 33) rfl)) (by decide) (by decide)) (g := (mkF m 20 #[.val (.ref a1)] [(.ref b73), (.ref b73), (.ref a1)])) rfl (by rw [hml]; rfl) (Steps.refl _) (a := b73) (argsL := []) (rest := [(.ref b73), (.ref a1)]) (lenOf pd_1 rfl) rfl (by show 2 * 0 + _ ≤ _; exact Nat.le_of_eq rfl) (hb hby d3_20) (fun _ _ => ⟨rfl, e73, (by decide : 0 + 1 + 1 + 1 ≤ _), (by decide : 0 + 0 + 3 + 17 ≤ _)⟩)
  dsimp only [Pt.U, Pt.locs, Pt.cells, Pt.slots] at X88 l88 y88 z88 st88 hQ88
  rw [l88, y88, z88] at X88
  obtain ⟨rfl, Nq88, Kq88⟩ := hQ88
  have N89 := Fr.app N71 Nq88
  have X88 : Stand p l e ({ frames := 3, cells := 4, slots := 21, locals := 38 } : Room) s m _ below meth c T88 _ 3 20 := X88
  have Z90 : n0 ≤ T88.heap.size := Nat.le_trans Z74 Kq88.1
  have B91 := B76.keep Kq88
  have F92 := F77.keep Kq88 (ninS ne_a1_b73 nin0)
  have F93 := F78.keep Kq88 (ninS ne_a1_b73 nin0)
  have F94 := F79.keep Kq88 (ninS ne_a1_b73 nin0)
  have F95 := F80.keep Kq88 (ninS ne_a1_b73 nin0)
  have F96 := F81.keep Kq88 (ninS ne_a1_b73 nin0)
  have F97 := F82.keep Kq88 (ninS ne_a1_b73 nin0)
  have F98 := F83.keep Kq88 (ninS ne_a1_b73 nin0)
  have F99 := F84.keep Kq88 (ninS ne_a1_b73 nin0)
  have F100 := F85.keep Kq88 (ninS ne_a1_b73 nin0)
  have U101 := U86.keep Kq88 (ninS ne_b42_b73 nin0)
  have F102 := F87.keep Kq88 (ninS ne_a1_b73 nin0)
  have K103 := K75.trans Kq88 (allS (Or.inr sz_b73) all0)
  refine go _ (T88.setTop (mkF m 23 #[.val (.ref a1)] [(.ref b73), (.ref a1)])) (fun t k => st88.trans k) ?_
  obtain ⟨T104, h104, X104, e104, W104, st104⟩ := putF X88 hx hZ hown (host := "") (Or.inl (hw _ (List.mem_of_getElem? (i := 48) rfl))) Via.refl rfl F92 B91 (Or.inr ⟨(hw _ (List.mem_of_getElem? (i := 49) rfl)), rfl, hnm⟩) (hw _ (List.mem_of_getElem? (i := 5) rfl)) (ty := (.object "java/util/ArrayDeque")) (by decide) rfl rfl (g := (mkF m 23 #[.val (.ref a1)] [(.ref b73), (.ref a1)])) rfl rfl (hb hby d3_23)
  have Fw104 := F92.same W104
  have B105 := B91.wr W104
  have F106 := F93.other W104 (Or.inr (slot_ne (Or.inl (hw _ (List.mem_of_getElem? (i := 52) rfl))) (Or.inr (hw _ (List.mem_of_getElem? (i := 49) rfl))) (by decide) (t := (.array .int)) (t' := (.object "java/util/ArrayDeque")) (by decide) (by decide)))
  have F107 := F94.other W104 (Or.inr (slot_ne (Or.inr (hw _ (List.mem_of_getElem? (i := 67) rfl))) (Or.inr (hw _ (List.mem_of_getElem? (i := 49) rfl))) (by decide) (t := (.array .boolean)) (t' := (.object "java/util/ArrayDeque")) (by decide) (by decide)))
  have F108 := F95.other W104 (Or.inr (slot_ne (Or.inr (hw _ (List.mem_of_getElem? (i := 69) rfl))) (Or.inr (hw _ (List.mem_of_getElem? (i := 49) rfl))) (by decide) (t := (.array .boolean)) (t' := (.object "java/util/ArrayDeque")) (by decide) (by decide)))
  have F109 := F96.other W104 (Or.inr (slot_ne (Or.inr (hw _ (List.mem_of_getElem? (i := 71) rfl))) (Or.inr (hw _ (List.mem_of_getElem? (i := 49) rfl))) (by decide) (t := (.array .int)) (t' := (.object "java/util/ArrayDeque")) (by decide) (by decide)))
  have F110 := F97.other W104 (Or.inr (slot_ne (Or.inr (hw _ (List.mem_of_getElem? (i := 73) rfl))) (Or.inr (hw _ (List.mem_of_getElem? (i := 49) rfl))) (by decide) (t := (.array .boolean)) (t' := (.object "java/util/ArrayDeque")) (by decide) (by decide)))
  have F111 := F98.other W104 (Or.inr (slot_ne (Or.inr (hw _ (List.mem_of_getElem? (i := 76) rfl))) (Or.inr (hw _ (List.mem_of_getElem? (i := 49) rfl))) (by decide) (t := (.array .long)) (t' := (.object "java/util/ArrayDeque")) (by decide) (by decide)))
  have F112 := F99.other W104 (Or.inr (slot_ne (Or.inr (hw _ (List.mem_of_getElem? (i := 78) rfl))) (Or.inr (hw _ (List.mem_of_getElem? (i := 49) rfl))) (by decide) (t := (.array .boolean)) (t' := (.object "java/util/ArrayDeque")) (by decide) (by decide)))
  have F113 := F100.other W104 (Or.inr (slot_ne (Or.inr (hw _ (List.mem_of_getElem? (i := 80) rfl))) (Or.inr (hw _ (List.mem_of_getElem? (i := 49) rfl))) (by decide) (t := (.array .long)) (t' := (.object "java/util/ArrayDeque")) (by decide) (by decide)))
  have U114 := U101.wr W104
  have F115 := F102.other W104 (Or.inr (slot_ne (Or.inr (hw _ (List.mem_of_getElem? (i := 30) rfl))) (Or.inr (hw _ (List.mem_of_getElem? (i := 49) rfl))) (by decide) (t := (.object "java/lang/Object")) (t' := (.object "java/util/ArrayDeque")) (by decide) (by decide)))
  have Z116 : n0 ≤ h104.size := by rw [W104.size]; exact Z90
  have N117 := Fr.snoc X104 N89 g0
  have K118 := K103.wr W104 (Or.inl (by simp))
  refine go _ (T104.setTop (mkF m 26 #[.val (.ref a1)] [])) (st104) ?_
  refine go _ (T104.setTop (mkF m 27 #[.val (.ref a1)] [(.ref a1)])) (fun t k => XS.aloadN X104.here hx rfl (hb hby d3_26) rfl rfl k) ?_
  refine go _ (T104.setTop (mkF m 28 #[.val (.ref a1)] [(.int (1 : Int32)), (.ref a1)])) (fun t k => XS.iconst X104.here hx rfl (hb hby d3_27) k) ?_
  obtain ⟨T119, h119, b119, X119, e119, E119, g119, A119, st119⟩ := own_new X104 hx hZ (hw _ (List.mem_of_getElem? (i := 50) rfl)) e104 (g := (mkF m 28 #[.val (.ref a1)] [(.int (1 : Int32)), (.ref a1)])) rfl (hb hby d3_28) rfl (k := 1) (by decide) 1 (by decide) (by decide) (by decide) (by decide)
  have ne_b42_b119 : b42 ≠ b119 := by rw [g119]; exact Nat.ne_of_lt (own_Ult U114)
  have ne_a1_b119 : a1 ≠ b119 := by rw [g119]; exact Nat.ne_of_lt B105.lt
  have Z120 : n0 ≤ h119.size := Nat.le_trans Z116 E119.1
  have ge_b119 : n0 ≤ b119 := by rw [g119]; exact Z116
  have sz_b119 : h0.size ≤ b119 := by rw [g119]; exact K118.1
  have K121 := K118.ext E119
  have B122 := B105.ext E119
  have F123 := F106.ext E119
  have F124 := F107.ext E119
  have F125 := F108.ext E119
  have F126 := F109.ext E119
  have F127 := F110.ext E119
  have F128 := F111.ext E119
  have F129 := F112.ext E119
  have F130 := F113.ext E119
  have U131 := U114.ext E119
  have F132 := F115.ext E119
  have F133 := Fw104.ext E119
  have A119' : AF Z h119 b119 .int 1 (fun _ => .int 0) := A119
  refine go _ (T119.setTop (mkF m 30 #[.val (.ref a1)] [(.ref b119), (.ref a1)])) (st119) ?_
  obtain ⟨T134, h134, X134, e134, W134, st134⟩ := putF X119 hx hZ hown (host := "") (Or.inl (hw _ (List.mem_of_getElem? (i := 51) rfl))) Via.refl e119 F123 B122 (Or.inl (hw _ (List.mem_of_getElem? (i := 52) rfl))) (hw _ (List.mem_of_getElem? (i := 5) rfl)) (ty := (.array .int)) (by decide) rfl rfl (g := (mkF m 30 #[.val (.ref a1)] [(.ref b119), (.ref a1)])) rfl rfl (hb hby d3_30)
  have Fw134 := F123.same W134
  have B135 := B122.wr W134
  have F136 := F124.other W134 (Or.inr (slot_ne (Or.inr (hw _ (List.mem_of_getElem? (i := 67) rfl))) (Or.inl (hw _ (List.mem_of_getElem? (i := 52) rfl))) (by decide) (t := (.array .boolean)) (t' := (.array .int)) (by decide) (by decide)))
  have F137 := F125.other W134 (Or.inr (slot_ne (Or.inr (hw _ (List.mem_of_getElem? (i := 69) rfl))) (Or.inl (hw _ (List.mem_of_getElem? (i := 52) rfl))) (by decide) (t := (.array .boolean)) (t' := (.array .int)) (by decide) (by decide)))
  have F138 := F126.other W134 (Or.inr (slot_ne (Or.inr (hw _ (List.mem_of_getElem? (i := 71) rfl))) (Or.inl (hw _ (List.mem_of_getElem? (i := 52) rfl))) (by decide) (t := (.array .int)) (t' := (.array .int)) (by decide) (by decide)))
  have F139 := F127.other W134 (Or.inr (slot_ne (Or.inr (hw _ (List.mem_of_getElem? (i := 73) rfl))) (Or.inl (hw _ (List.mem_of_getElem? (i := 52) rfl))) (by decide) (t := (.array .boolean)) (t' := (.array .int)) (by decide) (by decide)))
  have F140 := F128.other W134 (Or.inr (slot_ne (Or.inr (hw _ (List.mem_of_getElem? (i := 76) rfl))) (Or.inl (hw _ (List.mem_of_getElem? (i := 52) rfl))) (by decide) (t := (.array .long)) (t' := (.array .int)) (by decide) (by decide)))
  have F141 := F129.other W134 (Or.inr (slot_ne (Or.inr (hw _ (List.mem_of_getElem? (i := 78) rfl))) (Or.inl (hw _ (List.mem_of_getElem? (i := 52) rfl))) (by decide) (t := (.array .boolean)) (t' := (.array .int)) (by decide) (by decide)))
  have F142 := F130.other W134 (Or.inr (slot_ne (Or.inr (hw _ (List.mem_of_getElem? (i := 80) rfl))) (Or.inl (hw _ (List.mem_of_getElem? (i := 52) rfl))) (by decide) (t := (.array .long)) (t' := (.array .int)) (by decide) (by decide)))
  have U143 := U131.wr W134
  have F144 := F132.other W134 (Or.inr (slot_ne (Or.inr (hw _ (List.mem_of_getElem? (i := 30) rfl))) (Or.inl (hw _ (List.mem_of_getElem? (i := 52) rfl))) (by decide) (t := (.object "java/lang/Object")) (t' := (.array .int)) (by decide) (by decide)))
  have F145 := F133.other W134 (Or.inr (slot_ne (Or.inr (hw _ (List.mem_of_getElem? (i := 49) rfl))) (Or.inl (hw _ (List.mem_of_getElem? (i := 52) rfl))) (by decide) (t := (.object "java/util/ArrayDeque")) (t' := (.array .int)) (by decide) (by decide)))
  have A146 := A119'.other W134 (Ne.symm ne_a1_b119)
  have Z147 : n0 ≤ h134.size := by rw [W134.size]; exact Z120
  have N148 := Fr.snoc X134 N117 g0
  have K149 := K121.wr W134 (Or.inl (by simp))
  refine go _ (T134.setTop (mkF m 33 #[.val (.ref a1)] [])) (st134) ?_
  exact fin none X134 (by decide) (by decide) (fun _ => rfl) (show Q_rm3 Z a1 h0 n0 _ T134.heap _ from (by rw [e134]; exact ⟨rfl, N148, K149, b42, sz_b42, U143, F144, F136, F137, F138, F139, F140, F141, F142⟩)) (fun fs hr => X134.returnOut hx hret (hb hby d3_33) hr)
theorem d8_0 : decode prog_7_method_8_code 0 = .ok (.iload_n 1, 1) := by decide +kernel
theorem d8_1 : decode prog_7_method_8_code 1 = .ok (.iload_n 2, 1) := by decide +kernel
theorem d8_2 : decode prog_7_method_8_code 2 = .ok (.if_icmp .lt 8, 3) := by decide +kernel
theorem d8_5 : decode prog_7_method_8_code 5 = .ok (.iload_n 1, 1) := by decide +kernel
theorem d8_6 : decode prog_7_method_8_code 6 = .ok (.iload_n 3, 1) := by decide +kernel
theorem d8_7 : decode prog_7_method_8_code 7 = .ok (.if_icmp .le 20, 3) := by decide +kernel
theorem d8_10 : decode prog_7_method_8_code 10 = .ok (.new 51, 3) := by decide +kernel
theorem d8_13 : decode prog_7_method_8_code 13 = .ok (.dup, 1) := by decide +kernel
theorem d8_14 : decode prog_7_method_8_code 14 = .ok (.aload_n 0, 1) := by decide +kernel
theorem d8_15 : decode prog_7_method_8_code 15 = .ok (.iload_n 1, 1) := by decide +kernel
theorem d8_16 : decode prog_7_method_8_code 16 = .ok (.iload_n 2, 1) := by decide +kernel
theorem d8_17 : decode prog_7_method_8_code 17 = .ok (.iload_n 3, 1) := by decide +kernel
theorem d8_23 : decode prog_7_method_8_code 23 = .ok (.invokespecial 57, 3) := by decide +kernel
theorem d8_26 : decode prog_7_method_8_code 26 = .ok (.athrow, 1) := by decide +kernel
theorem d8_27 : decode prog_7_method_8_code 27 = .ok (.iload_n 1, 1) := by decide +kernel
theorem d8_28 : decode prog_7_method_8_code 28 = .ok (.ireturn, 1) := by decide +kernel
theorem ef_rm8 (m : MethodId) (a1 : Addr) (p1 : Int32) (p2 : Int32) (p3 : Int32) : entryFrame m #[(.ref a1), (.int p1), (.int p2), (.int p3)] 4 = mkF m 0 #[.val (.ref a1), .val (.int p1), .val (.int p2), .val (.int p3)] [] := by first | (simp [entryFrame, mkF, argsToLocals, Value.category]; done) | rfl
def Q_rm8 (Z : State) (a1 : Addr) (p1 : Int32) (p2 : Int32) (p3 : Int32) (h0 : Heap) (n0 : Nat) (v : Option Value) (h : Heap) (L : List Loc) : Prop := v = some (.int p1) ∧ Fr n0 L ∧ h = h0
set_option maxRecDepth 65536 in
set_option maxHeartbeats 40000000 in
theorem rm8 (l : Launch) (Z : State) (a0 : Array Value) (hw : ∀ d ∈ tables_1, d.before a0 Z = true) (ws : List Jvm.Cond) (a1 : Addr) (p1 : Int32) (p2 : Int32) (p3 : Int32) (h0 : Heap) (n0 : Nat) (Z0 : n0 ≤ h0.size) (H1 : ¬ (p1 < p2)) (H2 : ¬ (p3 < p1)) :
    MetFree l (⟨"formlet/EventGenerator", "check", "(Ljava/lang/String;III)I"⟩ : MethodName) (head1 (Jvm.Cond.code (⟨"formlet/EventGenerator", "check", "(Ljava/lang/String;III)I"⟩ : MethodName) prog_7_method_8_code 4 (some .int) :: ws) ({ frames := 0, cells := 0, slots := 0, locals := 0 } : Room)) (fun a U => a = #[(.ref a1), (.int p1), (.int p2), (.int p3)] ∧ Z.Warmed39 U.vm ∧ U.heap = h0) (fun _ _ _ _ _ => True) (fun _ U o U' => ∃ v L, o = .returned v ∧ Q_rm8 Z a1 p1 p2 p3 h0 n0 v U'.heap L ∧ FrameEnd U o U' L ({ frames := 0, cells := 0, slots := 0, locals := 0 } : Room).cells ({ frames := 0, cells := 0, slots := 0, locals := 0 } : Room).slots) := by
  refine own_body (Q := Q_rm8 Z a1 p1 p2 p3 h0 n0) (plainFor_of_name pn_10) ?_
  intro p e s m below meth c s₁ K go fin X0 hx hby hml hown hnm hret hZ e0
  have hown : s.vm.findClass "formlet/EventGenerator" = some m.cls := hown
  have N0 := Fr.nil n0
  refine go _ (s₁.setTop (mkF m 0 #[.val (.ref a1), .val (.int p1), .val (.int p2), .val (.int p3)] [])) (fun t k => castTop (ef_rm8 m a1 p1 p2 p3) k) ?_
  refine go _ (s₁.setTop (mkF m 1 #[.val (.ref a1), .val (.int p1), .val (.int p2), .val (.int p3)] [(.int p1)])) (fun t k => XS.iloadN X0.here hx rfl (hb hby d8_0) rfl k) ?_
  refine go _ (s₁.setTop (mkF m 2 #[.val (.ref a1), .val (.int p1), .val (.int p2), .val (.int p3)] [(.int p2), (.int p1)])) (fun t k => XS.iloadN X0.here hx rfl (hb hby d8_1) rfl k) ?_
  have hc150 : ¬ (p1 < p2) := H1
  refine go _ (s₁.setTop (mkF m 5 #[.val (.ref a1), .val (.int p1), .val (.int p2), .val (.int p3)] [])) (fun t k => XS.icmpNo X0.here hx rfl (hb hby d8_2) rfl (flt hc150).1 k) ?_
  refine go _ (s₁.setTop (mkF m 6 #[.val (.ref a1), .val (.int p1), .val (.int p2), .val (.int p3)] [(.int p1)])) (fun t k => XS.iloadN X0.here hx rfl (hb hby d8_5) rfl k) ?_
  refine go _ (s₁.setTop (mkF m 7 #[.val (.ref a1), .val (.int p1), .val (.int p2), .val (.int p3)] [(.int p3), (.int p1)])) (fun t k => XS.iloadN X0.here hx rfl (hb hby d8_6) rfl k) ?_
  have hc151 : ¬ (p3 < p1) := H2
  refine go _ (s₁.setTop (mkF m 27 #[.val (.ref a1), .val (.int p1), .val (.int p2), .val (.int p3)] [])) (fun t k => XS.icmpYes X0.here hx rfl (pc0 := 7) (pc' := 27) rfl (hb hby d8_7) rfl (flt hc151).2.2.2 (by decide) (by decide) k) ?_
  refine go _ (s₁.setTop (mkF m 28 #[.val (.ref a1), .val (.int p1), .val (.int p2), .val (.int p3)] [(.int p1)])) (fun t k => XS.iloadN X0.here hx rfl (hb hby d8_27) rfl k) ?_
  exact fin (some (.int p1)) X0 (by decide) (by decide) (fun q => by cases q) (show Q_rm8 Z a1 p1 p2 p3 h0 n0 _ s₁.heap _ from (by rw [e0]; exact ⟨rfl, N0, rfl⟩)) (fun fs hr => retI X0 hx hret (hb hby d8_28) hr)
theorem own_c1 {x : Int32} {k : Nat} (h : x.toInt = (k : Int)) : ¬ (x < (0 : Int32)) := by rw [Int32.lt_iff_toInt_lt, h]; simp only [Int32.toInt_zero]; omega
theorem own_c2 {x : Int32} {k : Nat} (h : x.toInt = (k : Int)) (q : k ≤ 256) : ¬ ((256 : Int32) < x) := by rw [Int32.lt_iff_toInt_lt, h]; have : (256 : Int32).toInt = 256 := rfl; omega
theorem d2_0 : decode prog_33_method_2_code 0 = .ok (.aload_n 0, 1) := by decide +kernel
theorem d2_1 : decode prog_33_method_2_code 1 = .ok (.invokespecial 7, 3) := by decide +kernel
theorem d2_4 : decode prog_33_method_2_code 4 = .ok (.ldc 12, 2) := by decide +kernel
theorem d2_6 : decode prog_33_method_2_code 6 = .ok (.iload_n 1, 1) := by decide +kernel
theorem d2_7 : decode prog_33_method_2_code 7 = .ok (.iconst 0, 1) := by decide +kernel
theorem d2_8 : decode prog_33_method_2_code 8 = .ok (.sipush 256, 3) := by decide +kernel
theorem d2_11 : decode prog_33_method_2_code 11 = .ok (.invokestatic 14, 3) := by decide +kernel
theorem d2_14 : decode prog_33_method_2_code 14 = .ok (.pop, 1) := by decide +kernel
theorem d2_15 : decode prog_33_method_2_code 15 = .ok (.aload_n 0, 1) := by decide +kernel
theorem d2_16 : decode prog_33_method_2_code 16 = .ok (.iload_n 1, 1) := by decide +kernel
theorem d2_17 : decode prog_33_method_2_code 17 = .ok (.newarray .boolean, 2) := by decide +kernel
theorem d2_19 : decode prog_33_method_2_code 19 = .ok (.putfield 18, 3) := by decide +kernel
theorem d2_22 : decode prog_33_method_2_code 22 = .ok (.aload_n 0, 1) := by decide +kernel
theorem d2_23 : decode prog_33_method_2_code 23 = .ok (.iload_n 1, 1) := by decide +kernel
theorem d2_24 : decode prog_33_method_2_code 24 = .ok (.newarray .boolean, 2) := by decide +kernel
theorem d2_26 : decode prog_33_method_2_code 26 = .ok (.putfield 22, 3) := by decide +kernel
theorem d2_29 : decode prog_33_method_2_code 29 = .ok (.aload_n 0, 1) := by decide +kernel
theorem d2_30 : decode prog_33_method_2_code 30 = .ok (.iload_n 1, 1) := by decide +kernel
theorem d2_31 : decode prog_33_method_2_code 31 = .ok (.newarray .int, 2) := by decide +kernel
theorem d2_33 : decode prog_33_method_2_code 33 = .ok (.putfield 25, 3) := by decide +kernel
theorem d2_36 : decode prog_33_method_2_code 36 = .ok (.aload_n 0, 1) := by decide +kernel
theorem d2_37 : decode prog_33_method_2_code 37 = .ok (.iload_n 1, 1) := by decide +kernel
theorem d2_38 : decode prog_33_method_2_code 38 = .ok (.newarray .boolean, 2) := by decide +kernel
theorem d2_40 : decode prog_33_method_2_code 40 = .ok (.putfield 29, 3) := by decide +kernel
theorem d2_43 : decode prog_33_method_2_code 43 = .ok (.aload_n 0, 1) := by decide +kernel
theorem d2_44 : decode prog_33_method_2_code 44 = .ok (.iload_n 1, 1) := by decide +kernel
theorem d2_45 : decode prog_33_method_2_code 45 = .ok (.newarray .long, 2) := by decide +kernel
theorem d2_47 : decode prog_33_method_2_code 47 = .ok (.putfield 32, 3) := by decide +kernel
theorem d2_50 : decode prog_33_method_2_code 50 = .ok (.aload_n 0, 1) := by decide +kernel
theorem d2_51 : decode prog_33_method_2_code 51 = .ok (.iload_n 1, 1) := by decide +kernel
theorem d2_52 : decode prog_33_method_2_code 52 = .ok (.newarray .boolean, 2) := by decide +kernel
theorem d2_54 : decode prog_33_method_2_code 54 = .ok (.putfield 36, 3) := by decide +kernel
theorem d2_57 : decode prog_33_method_2_code 57 = .ok (.aload_n 0, 1) := by decide +kernel
theorem d2_58 : decode prog_33_method_2_code 58 = .ok (.iload_n 1, 1) := by decide +kernel
theorem d2_59 : decode prog_33_method_2_code 59 = .ok (.newarray .long, 2) := by decide +kernel
theorem d2_61 : decode prog_33_method_2_code 61 = .ok (.putfield 39, 3) := by decide +kernel
theorem d2_64 : decode prog_33_method_2_code 64 = .ok (.return_, 1) := by decide +kernel
theorem pn_19 : plainName "formlet/input/Buttons" = true := by first | (simp [plainName, overriddenIn]; done) | decide +kernel
theorem ef_rm2 (m : MethodId) (a1 : Addr) (p1 : Int32) : entryFrame m #[(.ref a1), (.int p1)] 2 = mkF m 0 #[.val (.ref a1), .val (.int p1)] [] := by first | (simp [entryFrame, mkF, argsToLocals, Value.category]; done) | rfl
def Q_rm2 (Z : State) (a1 : Addr) (p1 : Int32) (k : Nat) (h0 : Heap) (n0 : Nat) (v : Option Value) (h : Heap) (L : List Loc) : Prop := v = none ∧ Fr n0 L ∧ Keep h0 h [a1] ∧ ∃ lk ck : Addr, h0.size ≤ lk ∧ h0.size ≤ ck ∧ lk ≠ ck ∧ Unt h lk ∧ Fld Z h a1 "formlet/input/SequencedGenerator" "lock" "Ljava/lang/Object;" (.ref lk) ∧ Fld Z h a1 "formlet/input/Buttons" "click" "[Z" (.ref ck) ∧ AF Z h ck .boolean k (fun _ => .int 0)
set_option maxRecDepth 65536 in
set_option maxHeartbeats 40000000 in
theorem rm2 (l : Launch) (Z : State) (a0 : Array Value) (hw : ∀ d ∈ tables_1, d.before a0 Z = true) (ws : List Jvm.Cond) (a1 : Addr) (p1 : Int32) (k : Nat) (h0 : Heap) (n0 : Nat) (Z0 : n0 ≤ h0.size) (E0 : Exa Z h0 a1 "formlet/input/Buttons") (F_id : Fld Z h0 a1 "formlet/EventGenerator" "id" "I" (.int (0 : Int32))) (F_lock : Fld Z h0 a1 "formlet/input/SequencedGenerator" "lock" "Ljava/lang/Object;" .null) (F_unsent : Fld Z h0 a1 "formlet/input/SequencedGenerator" "unsent" "Ljava/util/ArrayDeque;" .null) (F_events : Fld Z h0 a1 "formlet/input/SequencedGenerator" "events" "[I" .null) (F_click : Fld Z h0 a1 "formlet/input/Buttons" "click" "[Z" .null) (F_doubleClick : Fld Z h0 a1 "formlet/input/Buttons" "doubleClick" "[Z" .null) (F_delta : Fld Z h0 a1 "formlet/input/Buttons" "delta" "[I" .null) (F_pressedBefore : Fld Z h0 a1 "formlet/input/Buttons" "pressedBefore" "[Z" .null) (F_lastPress : Fld Z h0 a1 "formlet/input/Buttons" "lastPress" "[J" .null) (F_sentBefore : Fld Z h0 a1 "formlet/input/Buttons" "sentBefore" "[Z" .null) (F_lastEvent : Fld Z h0 a1 "formlet/input/Buttons" "lastEvent" "[J" .null) (g0 : n0 ≤ a1) (hk : p1.toInt = (k : Int)) (hk2 : k ≤ 256) :
    MetFree l (⟨"formlet/input/Buttons", "<init>", "(I)V"⟩ : MethodName) (head1 (Jvm.Cond.code (⟨"formlet/input/Buttons", "<init>", "(I)V"⟩ : MethodName) prog_33_method_2_code 2 none :: ws) ({ frames := 4, cells := 13, slots := 1977, locals := 50 } : Room)) (fun a U => a = #[(.ref a1), (.int p1)] ∧ Z.Warmed39 U.vm ∧ U.heap = h0) (fun _ _ _ _ _ => True) (fun _ U o U' => ∃ v L, o = .returned v ∧ Q_rm2 Z a1 p1 k h0 n0 v U'.heap L ∧ ReturnedEndW U o U' L ({ frames := 4, cells := 13, slots := 1977, locals := 50 } : Room).cells ({ frames := 4, cells := 13, slots := 1977, locals := 50 } : Room).slots) := by
  refine own_bodyW (Q := Q_rm2 Z a1 p1 k h0 n0) (plainFor_of_name pn_19) ?_
  intro p e s m below meth c s₁ K go fin X0 hx hby hml hown hnm hret hZ e0
  have hown : s.vm.findClass "formlet/input/Buttons" = some m.cls := hown
  have N0 := Fr.nil n0
  have K0 : Keep h0 h0 [a1] := Keep.refl h0 _
  refine go _ (s₁.setTop (mkF m 0 #[.val (.ref a1), .val (.int p1)] [])) (fun t k => castTop (ef_rm2 m a1 p1) k) ?_
  refine go _ (s₁.setTop (mkF m 1 #[.val (.ref a1), .val (.int p1)] [(.ref a1)])) (fun t k => XS.aloadN X0.here hx rfl (hb hby d2_0) rfl rfl k) ?_
  obtain ⟨_, _, ⟨T152, L152, k152, n152⟩, -, X152, ⟨Lc152, hQ152, l152, y152, z152⟩, st152⟩ := X0.specialBack hx (y := (⟨"formlet/input/SequencedGenerator", "<init>", "()V"⟩ : MethodName)) rfl hown (mvT hZ (hw _ (List.mem_of_getElem? (i := 10) rfl))) (mvT hZ (hw _ (List.mem_of_getElem? (i := 11) rfl))) (mvT hZ (hw _ (List.mem_of_getElem? (i := 14) rfl))) (by decide) (backOf (W := 0) (rm3 l Z a0 hw [] a1  h0 n0 Z0 E0 F_id F_lock F_unsent F_events F_click F_doubleClick F_delta F_pressedBefore F_lastPress F_sentBefore F_lastEvent g0) hZ (hw _ (List.mem_of_getElem? (i := 14) rfl)) (hw _ (List.mem_of_getElem? (i := 13) rfl)) (by decide) (by decide)) (g := (mkF m 1 #[.val (.ref a1), .val (.int p1)] [(.ref a1)])) rfl (by rw [hml]; rfl) (Steps.refl _) (a := a1) (argsL := []) (rest := []) (lenOf pd_1 rfl) rfl (by show 2 * 0 + _ ≤ _; exact Nat.le_of_eq rfl) (hb hby d2_1) (fun _ _ => ⟨rfl, e0, (by decide : 0 + 4 ≤ _), (by decide : 0 + 21 ≤ _)⟩)
  dsimp only [Pt.U, Pt.locs, Pt.cells, Pt.slots] at X152 l152 y152 z152 st152 hQ152
  rw [l152, y152, z152] at X152
  obtain ⟨rfl, Nq152, Kq152, lk152, sk152, Uq152, Fq152_lock, Fq152_click, Fq152_doubleClick, Fq152_delta, Fq152_pressedBefore, Fq152_lastPress, Fq152_sentBefore, Fq152_lastEvent⟩ := hQ152
  have N153 := Fr.app N0 Nq152
  have X152 : Stand p l e ({ frames := 4, cells := 13, slots := 1977, locals := 50 } : Room) s m _ below meth c T152 _ 4 21 := X152
  have B154 := E0.keep Kq152
  have Z155 : n0 ≤ T152.heap.size := Nat.le_trans Z0 Kq152.1
  have K156 := K0.trans Kq152 (allS (Or.inl (by simp)) all0)
  have ne_a1_lk152 : a1 ≠ lk152 := Nat.ne_of_lt (Nat.lt_of_lt_of_le E0.lt sk152)
  refine go _ (T152.setTop (mkF m 4 #[.val (.ref a1), .val (.int p1)] [])) (fun t k => st152.trans k) ?_
  obtain ⟨a157, T157, h157, X157, e157, E157, hS, hZ, hown, st157⟩ := own_ldcS X152 hx hZ hown (hw _ (List.mem_of_getElem? (i := 53) rfl)) (own_str hw) rfl (g := (mkF m 4 #[.val (.ref a1), .val (.int p1)] [])) rfl (hb hby d2_4) (n := 160) (by decide) (by decide) (by decide) (by decide)
  obtain ⟨nS, hnS⟩ : ∃ z, z = h157.size := ⟨_, rfl⟩
  rw [← hnS] at hS
  have Z158 : n0 ≤ h157.size := Nat.le_trans Z155 E157.1
  have M159 : nS ≤ h157.size := Nat.le_of_eq hnS
  have K160 := K156.ext E157
  have B161 := B154.ext E157
  have U162 := Uq152.ext E157
  have F163 := Fq152_lock.ext E157
  have F164 := Fq152_click.ext E157
  have F165 := Fq152_doubleClick.ext E157
  have F166 := Fq152_delta.ext E157
  have F167 := Fq152_pressedBefore.ext E157
  have F168 := Fq152_lastPress.ext E157
  have F169 := Fq152_sentBefore.ext E157
  have F170 := Fq152_lastEvent.ext E157
  refine go _ (T157.setTop (mkF m 6 #[.val (.ref a1), .val (.int p1)] [(.ref a157)])) (st157) ?_
  refine go _ (T157.setTop (mkF m 7 #[.val (.ref a1), .val (.int p1)] [(.int p1), (.ref a157)])) (fun t k => XS.iloadN X157.here hx rfl (hb hby d2_6) rfl k) ?_
  refine go _ (T157.setTop (mkF m 8 #[.val (.ref a1), .val (.int p1)] [(.int (0 : Int32)), (.int p1), (.ref a157)])) (fun t k => XS.iconst X157.here hx rfl (hb hby d2_7) k) ?_
  refine go _ (T157.setTop (mkF m 11 #[.val (.ref a1), .val (.int p1)] [(.int (256 : Int32)), (.int (0 : Int32)), (.int p1), (.ref a157)])) (fun t k => XS.sipush X157.here hx rfl (hb hby d2_8) k) ?_
  have cq171 : (Jvm.Cond.code (⟨"formlet/EventGenerator", "check", "(Ljava/lang/String;III)I"⟩ : MethodName) prog_7_method_8_code 4 (some .int)).before #[] (s.setVm T157.vm) = true := mvT hZ (hw _ (List.mem_of_getElem? (i := 64) rfl))
  obtain ⟨mk171, hn171⟩ := Cond.code_named cq171
  obtain ⟨me171, cM171, hme171, -, -, -, -, -, -, hsg171⟩ := Cond.code_spec hn171 cq171
  obtain ⟨_, _, ⟨T171, L171, k171, n171⟩, -, X171, ⟨Lc171, hQ171, l171, y171, z171⟩, st171⟩ := X157.staticBackUp hx (owner := "formlet/EventGenerator") (x := (⟨"formlet/input/Buttons", "check", "(Ljava/lang/String;III)I"⟩ : MethodName)) hown (mvT hZ (hw _ (List.mem_of_getElem? (i := 61) rfl))) (mvT hZ (hw _ (List.mem_of_getElem? (i := 62) rfl))) (mvT hZ (hw _ (List.mem_of_getElem? (i := 63) rfl))) (mvT hZ (hw _ (List.mem_of_getElem? (i := 18) rfl))) hn171 hme171 hsg171 (by decide) (backOf (W := 0) (rm8 l Z a0 hw [] a157 p1 (0 : Int32) (256 : Int32)  h157 n0 Z158 (own_c1 hk) (own_c2 hk hk2)) hZ (hw _ (List.mem_of_getElem? (i := 64) rfl)) (hw _ (List.mem_of_getElem? (i := 18) rfl)) (by decide) (by decide)) (g := (mkF m 11 #[.val (.ref a1), .val (.int p1)] [(.int (256 : Int32)), (.int (0 : Int32)), (.int p1), (.ref a157)])) rfl (by rw [hml]; rfl) (Steps.refl _) (argsL := [(.ref a157), (.int p1), (.int (0 : Int32)), (.int (256 : Int32))]) (rest := []) (lenOf pd_6 rfl) rfl (by show 2 * 0 + _ ≤ _; exact Nat.le_of_eq rfl) (hb hby d2_11) (fun _ _ => ⟨rfl, e157, (by decide : 6 + 0 ≤ _), (by decide : 185 + 0 ≤ _)⟩)
  dsimp only [Pt.U, Pt.locs, Pt.cells, Pt.slots] at X171 l171 y171 z171 st171 hQ171
  rw [l171, y171, z171] at X171
  obtain ⟨rfl, Nq171, hh171⟩ := hQ171
  have N172 := Fr.app N153 Nq171
  have X171 : Stand p l e ({ frames := 4, cells := 13, slots := 1977, locals := 50 } : Room) (s.setVm T157.vm) m _ below meth c T171 _ 6 185 := X171
  refine go _ (T171.setTop (mkF m 14 #[.val (.ref a1), .val (.int p1)] [(.int p1)])) (fun t k => st171.trans k) ?_
  refine go _ (T171.setTop (mkF m 15 #[.val (.ref a1), .val (.int p1)] [])) (fun t k => XS.pop X171.here hx rfl (hb hby d2_14) rfl rfl k) ?_
  refine go _ (T171.setTop (mkF m 16 #[.val (.ref a1), .val (.int p1)] [(.ref a1)])) (fun t k => XS.aloadN X171.here hx rfl (hb hby d2_15) rfl rfl k) ?_
  refine go _ (T171.setTop (mkF m 17 #[.val (.ref a1), .val (.int p1)] [(.int p1), (.ref a1)])) (fun t k => XS.iloadN X171.here hx rfl (hb hby d2_16) rfl k) ?_
  obtain ⟨T173, h173, b173, X173, e173, E173, g173, A173, st173⟩ := own_new X171 hx hZ (hw _ (List.mem_of_getElem? (i := 65) rfl)) hh171 (g := (mkF m 17 #[.val (.ref a1), .val (.int p1)] [(.int p1), (.ref a1)])) rfl (hb hby d2_17) rfl (k := k) hk 256 hk2 (by decide) (by decide) (by decide)
  have ne_a1_b173 : a1 ≠ b173 := by rw [g173]; exact Nat.ne_of_lt B161.lt
  have ne_lk152_b173 : lk152 ≠ b173 := by rw [g173]; exact Nat.ne_of_lt (own_Ult U162)
  have Z174 : n0 ≤ h173.size := Nat.le_trans Z158 E173.1
  have ge_b173 : n0 ≤ b173 := by rw [g173]; exact Z158
  have M175 : nS ≤ h173.size := Nat.le_trans M159 E173.1
  have sz_b173 : h0.size ≤ b173 := by rw [g173]; exact K160.1
  have K176 := K160.ext E173
  have B177 := B161.ext E173
  have U178 := U162.ext E173
  have F179 := F163.ext E173
  have F180 := F164.ext E173
  have F181 := F165.ext E173
  have F182 := F166.ext E173
  have F183 := F167.ext E173
  have F184 := F168.ext E173
  have F185 := F169.ext E173
  have F186 := F170.ext E173
  have A173' : AF Z h173 b173 .boolean k (fun _ => .int 0) := A173
  refine go _ (T173.setTop (mkF m 19 #[.val (.ref a1), .val (.int p1)] [(.ref b173), (.ref a1)])) (st173) ?_
  obtain ⟨T187, h187, X187, e187, W187, st187⟩ := putF X173 hx hZ hown (host := "") (Or.inl (hw _ (List.mem_of_getElem? (i := 66) rfl))) Via.refl e173 F180 B177 (Or.inr ⟨(hw _ (List.mem_of_getElem? (i := 67) rfl)), rfl, hnm⟩) (hw _ (List.mem_of_getElem? (i := 5) rfl)) (ty := (.array .boolean)) (by decide) rfl rfl (g := (mkF m 19 #[.val (.ref a1), .val (.int p1)] [(.ref b173), (.ref a1)])) rfl rfl (hb hby d2_19)
  have Fw187 := F180.same W187
  have B188 := B177.wr W187
  have U189 := U178.wr W187
  have F190 := F179.other W187 (Or.inr (slot_ne (Or.inr (hw _ (List.mem_of_getElem? (i := 30) rfl))) (Or.inr (hw _ (List.mem_of_getElem? (i := 67) rfl))) (by decide) (t := (.object "java/lang/Object")) (t' := (.array .boolean)) (by decide) (by decide)))
  have F191 := F181.other W187 (Or.inr (slot_ne (Or.inr (hw _ (List.mem_of_getElem? (i := 69) rfl))) (Or.inr (hw _ (List.mem_of_getElem? (i := 67) rfl))) (by decide) (t := (.array .boolean)) (t' := (.array .boolean)) (by decide) (by decide)))
  have F192 := F182.other W187 (Or.inr (slot_ne (Or.inr (hw _ (List.mem_of_getElem? (i := 71) rfl))) (Or.inr (hw _ (List.mem_of_getElem? (i := 67) rfl))) (by decide) (t := (.array .int)) (t' := (.array .boolean)) (by decide) (by decide)))
  have F193 := F183.other W187 (Or.inr (slot_ne (Or.inr (hw _ (List.mem_of_getElem? (i := 73) rfl))) (Or.inr (hw _ (List.mem_of_getElem? (i := 67) rfl))) (by decide) (t := (.array .boolean)) (t' := (.array .boolean)) (by decide) (by decide)))
  have F194 := F184.other W187 (Or.inr (slot_ne (Or.inr (hw _ (List.mem_of_getElem? (i := 76) rfl))) (Or.inr (hw _ (List.mem_of_getElem? (i := 67) rfl))) (by decide) (t := (.array .long)) (t' := (.array .boolean)) (by decide) (by decide)))
  have F195 := F185.other W187 (Or.inr (slot_ne (Or.inr (hw _ (List.mem_of_getElem? (i := 78) rfl))) (Or.inr (hw _ (List.mem_of_getElem? (i := 67) rfl))) (by decide) (t := (.array .boolean)) (t' := (.array .boolean)) (by decide) (by decide)))
  have F196 := F186.other W187 (Or.inr (slot_ne (Or.inr (hw _ (List.mem_of_getElem? (i := 80) rfl))) (Or.inr (hw _ (List.mem_of_getElem? (i := 67) rfl))) (by decide) (t := (.array .long)) (t' := (.array .boolean)) (by decide) (by decide)))
  have A197 := A173'.other W187 (Ne.symm ne_a1_b173)
  have Z198 : n0 ≤ h187.size := by rw [W187.size]; exact Z174
  have M199 : nS ≤ h187.size := by rw [W187.size]; exact M175
  have N200 := Fr.snoc X187 N172 g0
  have K201 := K176.wr W187 (Or.inl (by simp))
  refine go _ (T187.setTop (mkF m 22 #[.val (.ref a1), .val (.int p1)] [])) (st187) ?_
  refine go _ (T187.setTop (mkF m 23 #[.val (.ref a1), .val (.int p1)] [(.ref a1)])) (fun t k => XS.aloadN X187.here hx rfl (hb hby d2_22) rfl rfl k) ?_
  refine go _ (T187.setTop (mkF m 24 #[.val (.ref a1), .val (.int p1)] [(.int p1), (.ref a1)])) (fun t k => XS.iloadN X187.here hx rfl (hb hby d2_23) rfl k) ?_
  obtain ⟨T202, h202, b202, X202, e202, E202, g202, A202, st202⟩ := own_new X187 hx hZ (hw _ (List.mem_of_getElem? (i := 65) rfl)) e187 (g := (mkF m 24 #[.val (.ref a1), .val (.int p1)] [(.int p1), (.ref a1)])) rfl (hb hby d2_24) rfl (k := k) hk 256 hk2 (by decide) (by decide) (by decide)
  have ne_a1_b202 : a1 ≠ b202 := by rw [g202]; exact Nat.ne_of_lt B188.lt
  have ne_lk152_b202 : lk152 ≠ b202 := by rw [g202]; exact Nat.ne_of_lt (own_Ult U189)
  have ne_b173_b202 : b173 ≠ b202 := by rw [g202]; exact Nat.ne_of_lt A197.lt
  have Z203 : n0 ≤ h202.size := Nat.le_trans Z198 E202.1
  have ge_b202 : n0 ≤ b202 := by rw [g202]; exact Z198
  have M204 : nS ≤ h202.size := Nat.le_trans M199 E202.1
  have sz_b202 : h0.size ≤ b202 := by rw [g202]; exact K201.1
  have K205 := K201.ext E202
  have B206 := B188.ext E202
  have U207 := U189.ext E202
  have F208 := F190.ext E202
  have F209 := F191.ext E202
  have F210 := F192.ext E202
  have F211 := F193.ext E202
  have F212 := F194.ext E202
  have F213 := F195.ext E202
  have F214 := F196.ext E202
  have A215 := A197.ext E202
  have F216 := Fw187.ext E202
  have A202' : AF Z h202 b202 .boolean k (fun _ => .int 0) := A202
  refine go _ (T202.setTop (mkF m 26 #[.val (.ref a1), .val (.int p1)] [(.ref b202), (.ref a1)])) (st202) ?_
  obtain ⟨T217, h217, X217, e217, W217, st217⟩ := putF X202 hx hZ hown (host := "") (Or.inl (hw _ (List.mem_of_getElem? (i := 68) rfl))) Via.refl e202 F209 B206 (Or.inr ⟨(hw _ (List.mem_of_getElem? (i := 69) rfl)), rfl, hnm⟩) (hw _ (List.mem_of_getElem? (i := 5) rfl)) (ty := (.array .boolean)) (by decide) rfl rfl (g := (mkF m 26 #[.val (.ref a1), .val (.int p1)] [(.ref b202), (.ref a1)])) rfl rfl (hb hby d2_26)
  have Fw217 := F209.same W217
  have B218 := B206.wr W217
  have U219 := U207.wr W217
  have F220 := F208.other W217 (Or.inr (slot_ne (Or.inr (hw _ (List.mem_of_getElem? (i := 30) rfl))) (Or.inr (hw _ (List.mem_of_getElem? (i := 69) rfl))) (by decide) (t := (.object "java/lang/Object")) (t' := (.array .boolean)) (by decide) (by decide)))
  have F221 := F210.other W217 (Or.inr (slot_ne (Or.inr (hw _ (List.mem_of_getElem? (i := 71) rfl))) (Or.inr (hw _ (List.mem_of_getElem? (i := 69) rfl))) (by decide) (t := (.array .int)) (t' := (.array .boolean)) (by decide) (by decide)))
  have F222 := F211.other W217 (Or.inr (slot_ne (Or.inr (hw _ (List.mem_of_getElem? (i := 73) rfl))) (Or.inr (hw _ (List.mem_of_getElem? (i := 69) rfl))) (by decide) (t := (.array .boolean)) (t' := (.array .boolean)) (by decide) (by decide)))
  have F223 := F212.other W217 (Or.inr (slot_ne (Or.inr (hw _ (List.mem_of_getElem? (i := 76) rfl))) (Or.inr (hw _ (List.mem_of_getElem? (i := 69) rfl))) (by decide) (t := (.array .long)) (t' := (.array .boolean)) (by decide) (by decide)))
  have F224 := F213.other W217 (Or.inr (slot_ne (Or.inr (hw _ (List.mem_of_getElem? (i := 78) rfl))) (Or.inr (hw _ (List.mem_of_getElem? (i := 69) rfl))) (by decide) (t := (.array .boolean)) (t' := (.array .boolean)) (by decide) (by decide)))
  have F225 := F214.other W217 (Or.inr (slot_ne (Or.inr (hw _ (List.mem_of_getElem? (i := 80) rfl))) (Or.inr (hw _ (List.mem_of_getElem? (i := 69) rfl))) (by decide) (t := (.array .long)) (t' := (.array .boolean)) (by decide) (by decide)))
  have A226 := A215.other W217 (Ne.symm ne_a1_b173)
  have F227 := F216.other W217 (Or.inr (slot_ne (Or.inr (hw _ (List.mem_of_getElem? (i := 67) rfl))) (Or.inr (hw _ (List.mem_of_getElem? (i := 69) rfl))) (by decide) (t := (.array .boolean)) (t' := (.array .boolean)) (by decide) (by decide)))
  have A228 := A202'.other W217 (Ne.symm ne_a1_b202)
  have Z229 : n0 ≤ h217.size := by rw [W217.size]; exact Z203
  have M230 : nS ≤ h217.size := by rw [W217.size]; exact M204
  have N231 := Fr.snoc X217 N200 g0
  have K232 := K205.wr W217 (Or.inl (by simp))
  refine go _ (T217.setTop (mkF m 29 #[.val (.ref a1), .val (.int p1)] [])) (st217) ?_
  refine go _ (T217.setTop (mkF m 30 #[.val (.ref a1), .val (.int p1)] [(.ref a1)])) (fun t k => XS.aloadN X217.here hx rfl (hb hby d2_29) rfl rfl k) ?_
  refine go _ (T217.setTop (mkF m 31 #[.val (.ref a1), .val (.int p1)] [(.int p1), (.ref a1)])) (fun t k => XS.iloadN X217.here hx rfl (hb hby d2_30) rfl k) ?_
  obtain ⟨T233, h233, b233, X233, e233, E233, g233, A233, st233⟩ := own_new X217 hx hZ (hw _ (List.mem_of_getElem? (i := 50) rfl)) e217 (g := (mkF m 31 #[.val (.ref a1), .val (.int p1)] [(.int p1), (.ref a1)])) rfl (hb hby d2_31) rfl (k := k) hk 256 hk2 (by decide) (by decide) (by decide)
  have ne_a1_b233 : a1 ≠ b233 := by rw [g233]; exact Nat.ne_of_lt B218.lt
  have ne_lk152_b233 : lk152 ≠ b233 := by rw [g233]; exact Nat.ne_of_lt (own_Ult U219)
  have ne_b173_b233 : b173 ≠ b233 := by rw [g233]; exact Nat.ne_of_lt A226.lt
  have Z234 : n0 ≤ h233.size := Nat.le_trans Z229 E233.1
  have ge_b233 : n0 ≤ b233 := by rw [g233]; exact Z229
  have M235 : nS ≤ h233.size := Nat.le_trans M230 E233.1
  have sz_b233 : h0.size ≤ b233 := by rw [g233]; exact K232.1
  have K236 := K232.ext E233
  have B237 := B218.ext E233
  have U238 := U219.ext E233
  have F239 := F220.ext E233
  have F240 := F221.ext E233
  have F241 := F222.ext E233
  have F242 := F223.ext E233
  have F243 := F224.ext E233
  have F244 := F225.ext E233
  have A245 := A226.ext E233
  have F246 := F227.ext E233
  have A233' : AF Z h233 b233 .int k (fun _ => .int 0) := A233
  refine go _ (T233.setTop (mkF m 33 #[.val (.ref a1), .val (.int p1)] [(.ref b233), (.ref a1)])) (st233) ?_
  obtain ⟨T247, h247, X247, e247, W247, st247⟩ := putF X233 hx hZ hown (host := "") (Or.inl (hw _ (List.mem_of_getElem? (i := 70) rfl))) Via.refl e233 F240 B237 (Or.inr ⟨(hw _ (List.mem_of_getElem? (i := 71) rfl)), rfl, hnm⟩) (hw _ (List.mem_of_getElem? (i := 5) rfl)) (ty := (.array .int)) (by decide) rfl rfl (g := (mkF m 33 #[.val (.ref a1), .val (.int p1)] [(.ref b233), (.ref a1)])) rfl rfl (hb hby d2_33)
  have Fw247 := F240.same W247
  have B248 := B237.wr W247
  have U249 := U238.wr W247
  have F250 := F239.other W247 (Or.inr (slot_ne (Or.inr (hw _ (List.mem_of_getElem? (i := 30) rfl))) (Or.inr (hw _ (List.mem_of_getElem? (i := 71) rfl))) (by decide) (t := (.object "java/lang/Object")) (t' := (.array .int)) (by decide) (by decide)))
  have F251 := F241.other W247 (Or.inr (slot_ne (Or.inr (hw _ (List.mem_of_getElem? (i := 73) rfl))) (Or.inr (hw _ (List.mem_of_getElem? (i := 71) rfl))) (by decide) (t := (.array .boolean)) (t' := (.array .int)) (by decide) (by decide)))
  have F252 := F242.other W247 (Or.inr (slot_ne (Or.inr (hw _ (List.mem_of_getElem? (i := 76) rfl))) (Or.inr (hw _ (List.mem_of_getElem? (i := 71) rfl))) (by decide) (t := (.array .long)) (t' := (.array .int)) (by decide) (by decide)))
  have F253 := F243.other W247 (Or.inr (slot_ne (Or.inr (hw _ (List.mem_of_getElem? (i := 78) rfl))) (Or.inr (hw _ (List.mem_of_getElem? (i := 71) rfl))) (by decide) (t := (.array .boolean)) (t' := (.array .int)) (by decide) (by decide)))
  have F254 := F244.other W247 (Or.inr (slot_ne (Or.inr (hw _ (List.mem_of_getElem? (i := 80) rfl))) (Or.inr (hw _ (List.mem_of_getElem? (i := 71) rfl))) (by decide) (t := (.array .long)) (t' := (.array .int)) (by decide) (by decide)))
  have A255 := A245.other W247 (Ne.symm ne_a1_b173)
  have F256 := F246.other W247 (Or.inr (slot_ne (Or.inr (hw _ (List.mem_of_getElem? (i := 67) rfl))) (Or.inr (hw _ (List.mem_of_getElem? (i := 71) rfl))) (by decide) (t := (.array .boolean)) (t' := (.array .int)) (by decide) (by decide)))
  have A257 := A233'.other W247 (Ne.symm ne_a1_b233)
  have Z258 : n0 ≤ h247.size := by rw [W247.size]; exact Z234
  have M259 : nS ≤ h247.size := by rw [W247.size]; exact M235
  have N260 := Fr.snoc X247 N231 g0
  have K261 := K236.wr W247 (Or.inl (by simp))
  refine go _ (T247.setTop (mkF m 36 #[.val (.ref a1), .val (.int p1)] [])) (st247) ?_
  refine go _ (T247.setTop (mkF m 37 #[.val (.ref a1), .val (.int p1)] [(.ref a1)])) (fun t k => XS.aloadN X247.here hx rfl (hb hby d2_36) rfl rfl k) ?_
  refine go _ (T247.setTop (mkF m 38 #[.val (.ref a1), .val (.int p1)] [(.int p1), (.ref a1)])) (fun t k => XS.iloadN X247.here hx rfl (hb hby d2_37) rfl k) ?_
  obtain ⟨T262, h262, b262, X262, e262, E262, g262, A262, st262⟩ := own_new X247 hx hZ (hw _ (List.mem_of_getElem? (i := 65) rfl)) e247 (g := (mkF m 38 #[.val (.ref a1), .val (.int p1)] [(.int p1), (.ref a1)])) rfl (hb hby d2_38) rfl (k := k) hk 256 hk2 (by decide) (by decide) (by decide)
  have ne_a1_b262 : a1 ≠ b262 := by rw [g262]; exact Nat.ne_of_lt B248.lt
  have ne_lk152_b262 : lk152 ≠ b262 := by rw [g262]; exact Nat.ne_of_lt (own_Ult U249)
  have ne_b173_b262 : b173 ≠ b262 := by rw [g262]; exact Nat.ne_of_lt A255.lt
  have Z263 : n0 ≤ h262.size := Nat.le_trans Z258 E262.1
  have ge_b262 : n0 ≤ b262 := by rw [g262]; exact Z258
  have M264 : nS ≤ h262.size := Nat.le_trans M259 E262.1
  have sz_b262 : h0.size ≤ b262 := by rw [g262]; exact K261.1
  have K265 := K261.ext E262
  have B266 := B248.ext E262
  have U267 := U249.ext E262
  have F268 := F250.ext E262
  have F269 := F251.ext E262
  have F270 := F252.ext E262
  have F271 := F253.ext E262
  have F272 := F254.ext E262
  have A273 := A255.ext E262
  have F274 := F256.ext E262
  have A262' : AF Z h262 b262 .boolean k (fun _ => .int 0) := A262
  refine go _ (T262.setTop (mkF m 40 #[.val (.ref a1), .val (.int p1)] [(.ref b262), (.ref a1)])) (st262) ?_
  obtain ⟨T275, h275, X275, e275, W275, st275⟩ := putF X262 hx hZ hown (host := "") (Or.inl (hw _ (List.mem_of_getElem? (i := 72) rfl))) Via.refl e262 F269 B266 (Or.inr ⟨(hw _ (List.mem_of_getElem? (i := 73) rfl)), rfl, hnm⟩) (hw _ (List.mem_of_getElem? (i := 5) rfl)) (ty := (.array .boolean)) (by decide) rfl rfl (g := (mkF m 40 #[.val (.ref a1), .val (.int p1)] [(.ref b262), (.ref a1)])) rfl rfl (hb hby d2_40)
  have Fw275 := F269.same W275
  have B276 := B266.wr W275
  have U277 := U267.wr W275
  have F278 := F268.other W275 (Or.inr (slot_ne (Or.inr (hw _ (List.mem_of_getElem? (i := 30) rfl))) (Or.inr (hw _ (List.mem_of_getElem? (i := 73) rfl))) (by decide) (t := (.object "java/lang/Object")) (t' := (.array .boolean)) (by decide) (by decide)))
  have F279 := F270.other W275 (Or.inr (slot_ne (Or.inr (hw _ (List.mem_of_getElem? (i := 76) rfl))) (Or.inr (hw _ (List.mem_of_getElem? (i := 73) rfl))) (by decide) (t := (.array .long)) (t' := (.array .boolean)) (by decide) (by decide)))
  have F280 := F271.other W275 (Or.inr (slot_ne (Or.inr (hw _ (List.mem_of_getElem? (i := 78) rfl))) (Or.inr (hw _ (List.mem_of_getElem? (i := 73) rfl))) (by decide) (t := (.array .boolean)) (t' := (.array .boolean)) (by decide) (by decide)))
  have F281 := F272.other W275 (Or.inr (slot_ne (Or.inr (hw _ (List.mem_of_getElem? (i := 80) rfl))) (Or.inr (hw _ (List.mem_of_getElem? (i := 73) rfl))) (by decide) (t := (.array .long)) (t' := (.array .boolean)) (by decide) (by decide)))
  have A282 := A273.other W275 (Ne.symm ne_a1_b173)
  have F283 := F274.other W275 (Or.inr (slot_ne (Or.inr (hw _ (List.mem_of_getElem? (i := 67) rfl))) (Or.inr (hw _ (List.mem_of_getElem? (i := 73) rfl))) (by decide) (t := (.array .boolean)) (t' := (.array .boolean)) (by decide) (by decide)))
  have A284 := A262'.other W275 (Ne.symm ne_a1_b262)
  have Z285 : n0 ≤ h275.size := by rw [W275.size]; exact Z263
  have M286 : nS ≤ h275.size := by rw [W275.size]; exact M264
  have N287 := Fr.snoc X275 N260 g0
  have K288 := K265.wr W275 (Or.inl (by simp))
  refine go _ (T275.setTop (mkF m 43 #[.val (.ref a1), .val (.int p1)] [])) (st275) ?_
  refine go _ (T275.setTop (mkF m 44 #[.val (.ref a1), .val (.int p1)] [(.ref a1)])) (fun t k => XS.aloadN X275.here hx rfl (hb hby d2_43) rfl rfl k) ?_
  refine go _ (T275.setTop (mkF m 45 #[.val (.ref a1), .val (.int p1)] [(.int p1), (.ref a1)])) (fun t k => XS.iloadN X275.here hx rfl (hb hby d2_44) rfl k) ?_
  obtain ⟨T289, h289, b289, X289, e289, E289, g289, A289, st289⟩ := own_new X275 hx hZ (hw _ (List.mem_of_getElem? (i := 74) rfl)) e275 (g := (mkF m 45 #[.val (.ref a1), .val (.int p1)] [(.int p1), (.ref a1)])) rfl (hb hby d2_45) rfl (k := k) hk 256 hk2 (by decide) (by decide) (by decide)
  have ne_a1_b289 : a1 ≠ b289 := by rw [g289]; exact Nat.ne_of_lt B276.lt
  have ne_lk152_b289 : lk152 ≠ b289 := by rw [g289]; exact Nat.ne_of_lt (own_Ult U277)
  have ne_b173_b289 : b173 ≠ b289 := by rw [g289]; exact Nat.ne_of_lt A282.lt
  have Z290 : n0 ≤ h289.size := Nat.le_trans Z285 E289.1
  have ge_b289 : n0 ≤ b289 := by rw [g289]; exact Z285
  have M291 : nS ≤ h289.size := Nat.le_trans M286 E289.1
  have sz_b289 : h0.size ≤ b289 := by rw [g289]; exact K288.1
  have K292 := K288.ext E289
  have B293 := B276.ext E289
  have U294 := U277.ext E289
  have F295 := F278.ext E289
  have F296 := F279.ext E289
  have F297 := F280.ext E289
  have F298 := F281.ext E289
  have A299 := A282.ext E289
  have F300 := F283.ext E289
  have A289' : AF Z h289 b289 .long k (fun _ => .long 0) := A289
  refine go _ (T289.setTop (mkF m 47 #[.val (.ref a1), .val (.int p1)] [(.ref b289), (.ref a1)])) (st289) ?_
  obtain ⟨T301, h301, X301, e301, W301, st301⟩ := putF X289 hx hZ hown (host := "") (Or.inl (hw _ (List.mem_of_getElem? (i := 75) rfl))) Via.refl e289 F296 B293 (Or.inr ⟨(hw _ (List.mem_of_getElem? (i := 76) rfl)), rfl, hnm⟩) (hw _ (List.mem_of_getElem? (i := 5) rfl)) (ty := (.array .long)) (by decide) rfl rfl (g := (mkF m 47 #[.val (.ref a1), .val (.int p1)] [(.ref b289), (.ref a1)])) rfl rfl (hb hby d2_47)
  have Fw301 := F296.same W301
  have B302 := B293.wr W301
  have U303 := U294.wr W301
  have F304 := F295.other W301 (Or.inr (slot_ne (Or.inr (hw _ (List.mem_of_getElem? (i := 30) rfl))) (Or.inr (hw _ (List.mem_of_getElem? (i := 76) rfl))) (by decide) (t := (.object "java/lang/Object")) (t' := (.array .long)) (by decide) (by decide)))
  have F305 := F297.other W301 (Or.inr (slot_ne (Or.inr (hw _ (List.mem_of_getElem? (i := 78) rfl))) (Or.inr (hw _ (List.mem_of_getElem? (i := 76) rfl))) (by decide) (t := (.array .boolean)) (t' := (.array .long)) (by decide) (by decide)))
  have F306 := F298.other W301 (Or.inr (slot_ne (Or.inr (hw _ (List.mem_of_getElem? (i := 80) rfl))) (Or.inr (hw _ (List.mem_of_getElem? (i := 76) rfl))) (by decide) (t := (.array .long)) (t' := (.array .long)) (by decide) (by decide)))
  have A307 := A299.other W301 (Ne.symm ne_a1_b173)
  have F308 := F300.other W301 (Or.inr (slot_ne (Or.inr (hw _ (List.mem_of_getElem? (i := 67) rfl))) (Or.inr (hw _ (List.mem_of_getElem? (i := 76) rfl))) (by decide) (t := (.array .boolean)) (t' := (.array .long)) (by decide) (by decide)))
  have A309 := A289'.other W301 (Ne.symm ne_a1_b289)
  have Z310 : n0 ≤ h301.size := by rw [W301.size]; exact Z290
  have M311 : nS ≤ h301.size := by rw [W301.size]; exact M291
  have N312 := Fr.snoc X301 N287 g0
  have K313 := K292.wr W301 (Or.inl (by simp))
  refine go _ (T301.setTop (mkF m 50 #[.val (.ref a1), .val (.int p1)] [])) (st301) ?_
  refine go _ (T301.setTop (mkF m 51 #[.val (.ref a1), .val (.int p1)] [(.ref a1)])) (fun t k => XS.aloadN X301.here hx rfl (hb hby d2_50) rfl rfl k) ?_
  refine go _ (T301.setTop (mkF m 52 #[.val (.ref a1), .val (.int p1)] [(.int p1), (.ref a1)])) (fun t k => XS.iloadN X301.here hx rfl (hb hby d2_51) rfl k) ?_
  obtain ⟨T314, h314, b314, X314, e314, E314, g314, A314, st314⟩ := own_new X301 hx hZ (hw _ (List.mem_of_getElem? (i := 65) rfl)) e301 (g := (mkF m 52 #[.val (.ref a1), .val (.int p1)] [(.int p1), (.ref a1)])) rfl (hb hby d2_52) rfl (k := k) hk 256 hk2 (by decide) (by decide) (by decide)
  have ne_a1_b314 : a1 ≠ b314 := by rw [g314]; exact Nat.ne_of_lt B302.lt
  have ne_lk152_b314 : lk152 ≠ b314 := by rw [g314]; exact Nat.ne_of_lt (own_Ult U303)
  have ne_b173_b314 : b173 ≠ b314 := by rw [g314]; exact Nat.ne_of_lt A307.lt
  have Z315 : n0 ≤ h314.size := Nat.le_trans Z310 E314.1
  have ge_b314 : n0 ≤ b314 := by rw [g314]; exact Z310
  have M316 : nS ≤ h314.size := Nat.le_trans M311 E314.1
  have sz_b314 : h0.size ≤ b314 := by rw [g314]; exact K313.1
  have K317 := K313.ext E314
  have B318 := B302.ext E314
  have U319 := U303.ext E314
  have F320 := F304.ext E314
  have F321 := F305.ext E314
  have F322 := F306.ext E314
  have A323 := A307.ext E314
  have F324 := F308.ext E314
  have A314' : AF Z h314 b314 .boolean k (fun _ => .int 0) := A314
  refine go _ (T314.setTop (mkF m 54 #[.val (.ref a1), .val (.int p1)] [(.ref b314), (.ref a1)])) (st314) ?_
  obtain ⟨T325, h325, X325, e325, W325, st325⟩ := putF X314 hx hZ hown (host := "") (Or.inl (hw _ (List.mem_of_getElem? (i := 77) rfl))) Via.refl e314 F321 B318 (Or.inr ⟨(hw _ (List.mem_of_getElem? (i := 78) rfl)), rfl, hnm⟩) (hw _ (List.mem_of_getElem? (i := 5) rfl)) (ty := (.array .boolean)) (by decide) rfl rfl (g := (mkF m 54 #[.val (.ref a1), .val (.int p1)] [(.ref b314), (.ref a1)])) rfl rfl (hb hby d2_54)
  have Fw325 := F321.same W325
  have B326 := B318.wr W325
  have U327 := U319.wr W325
  have F328 := F320.other W325 (Or.inr (slot_ne (Or.inr (hw _ (List.mem_of_getElem? (i := 30) rfl))) (Or.inr (hw _ (List.mem_of_getElem? (i := 78) rfl))) (by decide) (t := (.object "java/lang/Object")) (t' := (.array .boolean)) (by decide) (by decide)))
  have F329 := F322.other W325 (Or.inr (slot_ne (Or.inr (hw _ (List.mem_of_getElem? (i := 80) rfl))) (Or.inr (hw _ (List.mem_of_getElem? (i := 78) rfl))) (by decide) (t := (.array .long)) (t' := (.array .boolean)) (by decide) (by decide)))
  have A330 := A323.other W325 (Ne.symm ne_a1_b173)
  have F331 := F324.other W325 (Or.inr (slot_ne (Or.inr (hw _ (List.mem_of_getElem? (i := 67) rfl))) (Or.inr (hw _ (List.mem_of_getElem? (i := 78) rfl))) (by decide) (t := (.array .boolean)) (t' := (.array .boolean)) (by decide) (by decide)))
  have A332 := A314'.other W325 (Ne.symm ne_a1_b314)
  have Z333 : n0 ≤ h325.size := by rw [W325.size]; exact Z315
  have M334 : nS ≤ h325.size := by rw [W325.size]; exact M316
  have N335 := Fr.snoc X325 N312 g0
  have K336 := K317.wr W325 (Or.inl (by simp))
  refine go _ (T325.setTop (mkF m 57 #[.val (.ref a1), .val (.int p1)] [])) (st325) ?_
  refine go _ (T325.setTop (mkF m 58 #[.val (.ref a1), .val (.int p1)] [(.ref a1)])) (fun t k => XS.aloadN X325.here hx rfl (hb hby d2_57) rfl rfl k) ?_
  refine go _ (T325.setTop (mkF m 59 #[.val (.ref a1), .val (.int p1)] [(.int p1), (.ref a1)])) (fun t k => XS.iloadN X325.here hx rfl (hb hby d2_58) rfl k) ?_
  obtain ⟨T337, h337, b337, X337, e337, E337, g337, A337, st337⟩ := own_new X325 hx hZ (hw _ (List.mem_of_getElem? (i := 74) rfl)) e325 (g := (mkF m 59 #[.val (.ref a1), .val (.int p1)] [(.int p1), (.ref a1)])) rfl (hb hby d2_59) rfl (k := k) hk 256 hk2 (by decide) (by decide) (by decide)
  have ne_a1_b337 : a1 ≠ b337 := by rw [g337]; exact Nat.ne_of_lt B326.lt
  have ne_lk152_b337 : lk152 ≠ b337 := by rw [g337]; exact Nat.ne_of_lt (own_Ult U327)
  have ne_b173_b337 : b173 ≠ b337 := by rw [g337]; exact Nat.ne_of_lt A330.lt
  have Z338 : n0 ≤ h337.size := Nat.le_trans Z333 E337.1
  have ge_b337 : n0 ≤ b337 := by rw [g337]; exact Z333
  have M339 : nS ≤ h337.size := Nat.le_trans M334 E337.1
  have sz_b337 : h0.size ≤ b337 := by rw [g337]; exact K336.1
  have K340 := K336.ext E337
  have B341 := B326.ext E337
  have U342 := U327.ext E337
  have F343 := F328.ext E337
  have F344 := F329.ext E337
  have A345 := A330.ext E337
  have F346 := F331.ext E337
  have A337' : AF Z h337 b337 .long k (fun _ => .long 0) := A337
  refine go _ (T337.setTop (mkF m 61 #[.val (.ref a1), .val (.int p1)] [(.ref b337), (.ref a1)])) (st337) ?_
  obtain ⟨T347, h347, X347, e347, W347, st347⟩ := putF X337 hx hZ hown (host := "") (Or.inl (hw _ (List.mem_of_getElem? (i := 79) rfl))) Via.refl e337 F344 B341 (Or.inr ⟨(hw _ (List.mem_of_getElem? (i := 80) rfl)), rfl, hnm⟩) (hw _ (List.mem_of_getElem? (i := 5) rfl)) (ty := (.array .long)) (by decide) rfl rfl (g := (mkF m 61 #[.val (.ref a1), .val (.int p1)] [(.ref b337), (.ref a1)])) rfl rfl (hb hby d2_61)
  have Fw347 := F344.same W347
  have B348 := B341.wr W347
  have U349 := U342.wr W347
  have F350 := F343.other W347 (Or.inr (slot_ne (Or.inr (hw _ (List.mem_of_getElem? (i := 30) rfl))) (Or.inr (hw _ (List.mem_of_getElem? (i := 80) rfl))) (by decide) (t := (.object "java/lang/Object")) (t' := (.array .long)) (by decide) (by decide)))
  have A351 := A345.other W347 (Ne.symm ne_a1_b173)
  have F352 := F346.other W347 (Or.inr (slot_ne (Or.inr (hw _ (List.mem_of_getElem? (i := 67) rfl))) (Or.inr (hw _ (List.mem_of_getElem? (i := 80) rfl))) (by decide) (t := (.array .boolean)) (t' := (.array .long)) (by decide) (by decide)))
  have A353 := A337'.other W347 (Ne.symm ne_a1_b337)
  have Z354 : n0 ≤ h347.size := by rw [W347.size]; exact Z338
  have M355 : nS ≤ h347.size := by rw [W347.size]; exact M339
  have N356 := Fr.snoc X347 N335 g0
  have K357 := K340.wr W347 (Or.inl (by simp))
  refine go _ (T347.setTop (mkF m 64 #[.val (.ref a1), .val (.int p1)] [])) (st347) ?_
  exact fin none X347 hS (by rw [e347]; exact M355) (by decide) (by decide) (fun _ => rfl) (show Q_rm2 Z a1 p1 k h0 n0 _ T347.heap _ from (by rw [e347]; exact ⟨rfl, N356, K357, lk152, b173, sk152, sz_b173, ne_lk152_b173, U349, F350, F352, A351⟩)) (fun fs hr => X347.returnOut hx hret (hb hby d2_64) hr)
theorem d11_0 : decode prog_33_method_1_code 0 = .ok (.aload_n 0, 1) := by decide +kernel
theorem d11_1 : decode prog_33_method_1_code 1 = .ok (.iconst 0, 1) := by decide +kernel
theorem d11_2 : decode prog_33_method_1_code 2 = .ok (.invokespecial 1, 3) := by decide +kernel
theorem d11_5 : decode prog_33_method_1_code 5 = .ok (.return_, 1) := by decide +kernel
theorem ef_rm11 (m : MethodId) (a1 : Addr) : entryFrame m #[(.ref a1)] 1 = mkF m 0 #[.val (.ref a1)] [] := by first | (simp [entryFrame, mkF, argsToLocals, Value.category]; done) | rfl
def Q_rm11 (Z : State) (a1 : Addr) (h0 : Heap) (n0 : Nat) (v : Option Value) (h : Heap) (L : List Loc) : Prop := v = none ∧ Fr n0 L ∧ Keep h0 h [a1] ∧ ∃ lk ck : Addr, h0.size ≤ lk ∧ h0.size ≤ ck ∧ lk ≠ ck ∧ Unt h lk ∧ Fld Z h a1 "formlet/input/SequencedGenerator" "lock" "Ljava/lang/Object;" (.ref lk) ∧ Fld Z h a1 "formlet/input/Buttons" "click" "[Z" (.ref ck) ∧ AF Z h ck .boolean 0 (fun _ => .int 0)
set_option maxRecDepth 65536 in
set_option maxHeartbeats 40000000 in
theorem rm11 (l : Launch) (Z : State) (a0 : Array Value) (hw : ∀ d ∈ tables_1, d.before a0 Z = true) (ws : List Jvm.Cond) (a1 : Addr) (h0 : Heap) (n0 : Nat) (Z0 : n0 ≤ h0.size) (E0 : Exa Z h0 a1 "formlet/input/Buttons") (F_id : Fld Z h0 a1 "formlet/EventGenerator" "id" "I" (.int (0 : Int32))) (F_lock : Fld Z h0 a1 "formlet/input/SequencedGenerator" "lock" "Ljava/lang/Object;" .null) (F_unsent : Fld Z h0 a1 "formlet/input/SequencedGenerator" "unsent" "Ljava/util/ArrayDeque;" .null) (F_events : Fld Z h0 a1 "formlet/input/SequencedGenerator" "events" "[I" .null) (F_click : Fld Z h0 a1 "formlet/input/Buttons" "click" "[Z" .null) (F_doubleClick : Fld Z h0 a1 "formlet/input/Buttons" "doubleClick" "[Z" .null) (F_delta : Fld Z h0 a1 "formlet/input/Buttons" "delta" "[I" .null) (F_pressedBefore : Fld Z h0 a1 "formlet/input/Buttons" "pressedBefore" "[Z" .null) (F_lastPress : Fld Z h0 a1 "formlet/input/Buttons" "lastPress" "[J" .null) (F_sentBefore : Fld Z h0 a1 "formlet/input/Buttons" "sentBefore" "[Z" .null) (F_lastEvent : Fld Z h0 a1 "formlet/input/Buttons" "lastEvent" "[J" .null) (g0 : n0 ≤ a1) :
    MetFree l (⟨"formlet/input/Buttons", "<init>", "()V"⟩ : MethodName) (head1 (Jvm.Cond.code (⟨"formlet/input/Buttons", "<init>", "()V"⟩ : MethodName) prog_33_method_1_code 1 none :: ws) ({ frames := 5, cells := 13, slots := 1977, locals := 63 } : Room)) (fun a U => a = #[(.ref a1)] ∧ Z.Warmed39 U.vm ∧ U.heap = h0) (fun _ _ _ _ _ => True) (fun _ U o U' => ∃ v L, o = .returned v ∧ Q_rm11 Z a1 h0 n0 v U'.heap L ∧ ReturnedEndW U o U' L ({ frames := 5, cells := 13, slots := 1977, locals := 63 } : Room).cells ({ frames := 5, cells := 13, slots := 1977, locals := 63 } : Room).slots) := by
  refine own_bodyW (Q := Q_rm11 Z a1 h0 n0) (plainFor_of_name pn_19) ?_
  intro p e s m below meth c s₁ K go fin X0 hx hby hml hown hnm hret hZ e0
  have hown : s.vm.findClass "formlet/input/Buttons" = some m.cls := hown
  have N0 := Fr.nil n0
  have K0 : Keep h0 h0 [a1] := Keep.refl h0 _
  refine go _ (s₁.setTop (mkF m 0 #[.val (.ref a1)] [])) (fun t k => castTop (ef_rm11 m a1) k) ?_
  refine go _ (s₁.setTop (mkF m 1 #[.val (.ref a1)] [(.ref a1)])) (fun t k => XS.aloadN X0.here hx rfl (hb hby d11_0) rfl rfl k) ?_
  refine go _ (s₁.setTop (mkF m 2 #[.val (.ref a1)] [(.int (0 : Int32)), (.ref a1)])) (fun t k => XS.iconst X0.here hx rfl (hb hby d11_1) k) ?_
  obtain ⟨_, _, ⟨T358, L358, k358, n358⟩, -, X358, hS, hgr358, ⟨Lc358, hQ358, l358, y358, z358⟩, st358⟩ := X0.specialBackS hx (y := (⟨"formlet/input/Buttons", "<init>", "(I)V"⟩ : MethodName)) rfl hown (mvT hZ (hw _ (List.mem_of_getElem? (i := 95) rfl))) (mvT hZ (hw _ (List.mem_of_getElem? (i := 8) rfl))) (mvT hZ (hw _ (List.mem_of_getElem? (i := 9) rfl))) (by decide) (backOfS (W := 0) (rm2 l Z a0 hw [] a1 (0 : Int32) 0 h0 n0 Z0 E0 F_id F_lock F_unsent F_events F_click F_doubleClick F_delta F_pressedBefore F_lastPress F_sentBefore F_lastEvent g0 (by decide) (by decide)) hZ (hw _ (List.mem_of_getElem? (i := 9) rfl)) (hw _ (List.mem_of_getElem? (i := 6) rfl)) (by decide) (by decide)) (g := (mkF m 2 #[.val (.ref a1)] [(.int (0 : Int32)), (.ref a1)])) rfl (by rw [hml]; rfl) (Steps.refl _) (a := a1) (argsL := [(.int (0 : Int32))]) (rest := []) (lenOf pd_2 rfl) rfl (by show 2 * 0 + _ ≤ _; exact Nat.le_of_eq rfl) (hb hby d11_2) (fun _ _ => ⟨rfl, e0, (by decide : 0 + 13 ≤ _), (by decide : 0 + 1977 ≤ _)⟩)
  dsimp only [Pt.U, Pt.locs, Pt.cells, Pt.slots] at hS hgr358 X358
  have hZ : Z.Warmed39 (s.setVm T358.vm).vm := State.Warmed39.trans hZ hS.1
  have hown : (s.setVm T358.vm).vm.findClass "formlet/input/Buttons" = some m.cls := by rw [show (s.setVm T358.vm).vm = T358.vm from rfl, hS.1.alike.findClass]; exact hown
  dsimp only [Pt.U, Pt.locs, Pt.cells, Pt.slots] at X358 l358 y358 z358 st358 hQ358
  rw [l358, y358, z358] at X358
  obtain ⟨rfl, Nq358, Kq358, lk358, ck358, sl358, sc358, nk358, Uq358, Fl358, Fc358, Aq358⟩ := hQ358
  have N359 := Fr.app N0 Nq358
  have X358 : Stand p l e ({ frames := 5, cells := 13, slots := 1977, locals := 63 } : Room) (s.setVm T358.vm) m _ below meth c T358 _ 13 1977 := X358
  have B360 := E0.keep Kq358
  have Z361 : n0 ≤ T358.heap.size := Nat.le_trans Z0 Kq358.1
  have K362 := K0.trans Kq358 (allS (Or.inl (by simp)) all0)
  have ne_a1_lk358 : a1 ≠ lk358 := Nat.ne_of_lt (Nat.lt_of_lt_of_le E0.lt sl358)
  have ne_a1_ck358 : a1 ≠ ck358 := Nat.ne_of_lt (Nat.lt_of_lt_of_le E0.lt sc358)
  have ge_ck358 : n0 ≤ ck358 := Nat.le_trans Z0 sc358
  obtain ⟨nS, hnS⟩ : ∃ z, z = T358.heap.size := ⟨_, rfl⟩
  rw [← hnS] at hS
  have MS0 : nS ≤ T358.heap.size := Nat.le_of_eq hnS
  refine go _ (T358.setTop (mkF m 5 #[.val (.ref a1)] [])) (fun t k => st358.trans k) ?_
  exact fin none X358 hS MS0 (by decide) (by decide) (fun _ => rfl) (show Q_rm11 Z a1 h0 n0 _ T358.heap _ from ⟨rfl, N359, K362, lk358, ck358, sl358, sc358, nk358, Uq358, Fl358, Fc358, Aq358⟩) (fun fs hr => X358.returnOut hx hret (hb hby d11_5) hr)
theorem d9_0 : decode prog_33_method_8_code 0 = .ok (.iload_n 1, 1) := by decide +kernel
theorem d9_1 : decode prog_33_method_8_code 1 = .ok (.ifCond .lt 16, 3) := by decide +kernel
theorem d9_4 : decode prog_33_method_8_code 4 = .ok (.iload_n 1, 1) := by decide +kernel
theorem d9_5 : decode prog_33_method_8_code 5 = .ok (.aload_n 0, 1) := by decide +kernel
theorem d9_6 : decode prog_33_method_8_code 6 = .ok (.getfield 18, 3) := by decide +kernel
theorem d9_9 : decode prog_33_method_8_code 9 = .ok (.arraylength, 1) := by decide +kernel
theorem d9_10 : decode prog_33_method_8_code 10 = .ok (.if_icmp .ge 7, 3) := by decide +kernel
theorem d9_13 : decode prog_33_method_8_code 13 = .ok (.iconst 1, 1) := by decide +kernel
theorem d9_14 : decode prog_33_method_8_code 14 = .ok (.goto 4, 3) := by decide +kernel
theorem d9_17 : decode prog_33_method_8_code 17 = .ok (.iconst 0, 1) := by decide +kernel
theorem d9_18 : decode prog_33_method_8_code 18 = .ok (.ireturn, 1) := by decide +kernel
theorem ef_rm9 (m : MethodId) (a1 : Addr) (p1 : Int32) : entryFrame m #[(.ref a1), (.int p1)] 2 = mkF m 0 #[.val (.ref a1), .val (.int p1)] [] := by first | (simp [entryFrame, mkF, argsToLocals, Value.category]; done) | rfl
def own_sup (p1 n : Int32) : Int32 := (if p1 < (0 : Int32) then (0 : Int32) else (if p1 < n then (1 : Int32) else (0 : Int32)))
def Q_rm9 (Z : State) (a1 : Addr) (p1 : Int32) (ck : Addr) (k : Nat) (f : Nat → Value) (h0 : Heap) (n0 : Nat) (v : Option Value) (h : Heap) (L : List Loc) : Prop := v = some (.int (own_sup p1 (Int32.ofNat k))) ∧ Fr n0 L ∧ h = h0
set_option maxRecDepth 65536 in
set_option maxHeartbeats 40000000 in
theorem rm9 (l : Launch) (Z : State) (a0 : Array Value) (hw : ∀ d ∈ tables_1, d.before a0 Z = true) (ws : List Jvm.Cond) (a1 : Addr) (p1 : Int32) (ck : Addr) (k : Nat) (f : Nat → Value) (h0 : Heap) (n0 : Nat) (Z0 : n0 ≤ h0.size) (F0 : Fld Z h0 a1 "formlet/input/Buttons" "click" "[Z" (.ref ck)) (A0 : AF Z h0 ck .boolean k f) :
    MetFree l (⟨"formlet/input/Buttons", "supportsExtendedFeatures", "(I)Z"⟩ : MethodName) (head1 (Jvm.Cond.code (⟨"formlet/input/Buttons", "supportsExtendedFeatures", "(I)Z"⟩ : MethodName) prog_33_method_8_code 2 (some .boolean) :: ws) ({ frames := 0, cells := 0, slots := 0, locals := 0 } : Room)) (fun a U => a = #[(.ref a1), (.int p1)] ∧ Z.Warmed39 U.vm ∧ U.heap = h0) (fun _ _ _ _ _ => True) (fun _ U o U' => ∃ v L, o = .returned v ∧ Q_rm9 Z a1 p1 ck k f h0 n0 v U'.heap L ∧ FrameEnd U o U' L ({ frames := 0, cells := 0, slots := 0, locals := 0 } : Room).cells ({ frames := 0, cells := 0, slots := 0, locals := 0 } : Room).slots) := by
  refine own_body (Q := Q_rm9 Z a1 p1 ck k f h0 n0) (plainFor_of_name pn_19) ?_
  intro p e s m below meth c s₁ K go fin X0 hx hby hml hown hnm hret hZ e0
  have hown : s.vm.findClass "formlet/input/Buttons" = some m.cls := hown
  have N0 := Fr.nil n0
  refine go _ (s₁.setTop (mkF m 0 #[.val (.ref a1), .val (.int p1)] [])) (fun t k => castTop (ef_rm9 m a1 p1) k) ?_
  refine go _ (s₁.setTop (mkF m 1 #[.val (.ref a1), .val (.int p1)] [(.int p1)])) (fun t k => XS.iloadN X0.here hx rfl (hb hby d9_0) rfl k) ?_
  by_cases hc363 : p1 < (0 : Int32)
  · refine go _ (s₁.setTop (mkF m 17 #[.val (.ref a1), .val (.int p1)] [])) (fun t k => XS.ifYes X0.here hx rfl (pc0 := 1) (pc' := 17) rfl (hb hby d9_1) rfl ((if0 _ _).trans (tlt hc363).1) (by decide) (by decide) k) ?_
    refine go _ (s₁.setTop (mkF m 18 #[.val (.ref a1), .val (.int p1)] [(.int (0 : Int32))])) (fun t k => XS.iconst X0.here hx rfl (hb hby d9_17) k) ?_
    exact fin (some (.int (0 : Int32))) X0 (by decide) (by decide) (fun q => by cases q) (show Q_rm9 Z a1 p1 ck k f h0 n0 _ s₁.heap _ from (by rw [e0]; exact ⟨congrArg some (congrArg Value.int (show (0 : Int32) = (own_sup p1 (Int32.ofNat k)) from (show (own_sup p1 (Int32.ofNat k)) = (0 : Int32) from (by unfold own_sup; rw [if_pos hc363])).symm)), N0, rfl⟩)) (fun fs hr => retN X0 hx (t := .boolean) hret (by simp) (hb hby d9_18) hr)
  · refine go _ (s₁.setTop (mkF m 4 #[.val (.ref a1), .val (.int p1)] [])) (fun t k => XS.ifNo X0.here hx rfl (hb hby d9_1) rfl ((if0 _ _).trans (flt hc363).1) k) ?_
    refine go _ (s₁.setTop (mkF m 5 #[.val (.ref a1), .val (.int p1)] [(.int p1)])) (fun t k => XS.iloadN X0.here hx rfl (hb hby d9_4) rfl k) ?_
    refine go _ (s₁.setTop (mkF m 6 #[.val (.ref a1), .val (.int p1)] [(.ref a1), (.int p1)])) (fun t k => XS.aloadN X0.here hx rfl (hb hby d9_5) rfl rfl k) ?_
    obtain ⟨T364, X364, e364, st364⟩ := getF X0 hx hZ hown (host := "") (Or.inl (hw _ (List.mem_of_getElem? (i := 66) rfl))) Via.refl e0 F0 (g := (mkF m 6 #[.val (.ref a1), .val (.int p1)] [(.ref a1), (.int p1)])) rfl rfl (hb hby d9_6)
    refine go _ (T364.setTop (mkF m 9 #[.val (.ref a1), .val (.int p1)] [(.ref ck), (.int p1)])) (st364) ?_
    refine go _ (T364.setTop (mkF m 10 #[.val (.ref a1), .val (.int p1)] [(.int (Int32.ofNat k)), (.int p1)])) (own_len X364 hx hZ e364 A0 (g := (mkF m 9 #[.val (.ref a1), .val (.int p1)] [(.ref ck), (.int p1)])) rfl rfl (hb hby d9_9)) ?_
    by_cases hc365 : p1 < (Int32.ofNat k)
    · refine go _ (T364.setTop (mkF m 13 #[.val (.ref a1), .val (.int p1)] [])) (fun t k => XS.icmpNo X364.here hx rfl (hb hby d9_10) rfl (tlt hc365).2.1 k) ?_
      refine go _ (T364.setTop (mkF m 14 #[.val (.ref a1), .val (.int p1)] [(.int (1 : Int32))])) (fun t k => XS.iconst X364.here hx rfl (hb hby d9_13) k) ?_
      refine go _ (T364.setTop (mkF m 18 #[.val (.ref a1), .val (.int p1)] [(.int (1 : Int32))])) (fun t k => XS.goto X364.here hx rfl (pc0 := 14) (pc' := 18) rfl (hb hby d9_14) (by decide) (by decide) k) ?_
      exact fin (some (.int (1 : Int32))) X364 (by decide) (by decide) (fun q => by cases q) (show Q_rm9 Z a1 p1 ck k f h0 n0 _ T364.heap _ from (by rw [e364]; exact ⟨congrArg some (congrArg Value.int (show (1 : Int32) = (own_sup p1 (Int32.ofNat k)) from (show (own_sup p1 (Int32.ofNat k)) = (1 : Int32) from (by unfold own_sup; rw [if_neg hc363, if_pos hc365])).symm)), N0, rfl⟩)) (fun fs hr => retN X364 hx (t := .boolean) hret (by simp) (hb hby d9_18) hr)
    · refine go _ (T364.setTop (mkF m 17 #[.val (.ref a1), .val (.int p1)] [])) (fun t k => XS.icmpYes X364.here hx rfl (pc0 := 10) (pc' := 17) rfl (hb hby d9_10) rfl (flt hc365).2.1 (by decide) (by decide) k) ?_
      refine go _ (T364.setTop (mkF m 18 #[.val (.ref a1), .val (.int p1)] [(.int (0 : Int32))])) (fun t k => XS.iconst X364.here hx rfl (hb hby d9_17) k) ?_
      exact fin (some (.int (0 : Int32))) X364 (by decide) (by decide) (fun q => by cases q) (show Q_rm9 Z a1 p1 ck k f h0 n0 _ T364.heap _ from (by rw [e364]; exact ⟨congrArg some (congrArg Value.int (show (0 : Int32) = (own_sup p1 (Int32.ofNat k)) from (show (own_sup p1 (Int32.ofNat k)) = (0 : Int32) from (by unfold own_sup; rw [if_neg hc363, if_neg hc365])).symm)), N0, rfl⟩)) (fun fs hr => retN X364 hx (t := .boolean) hret (by simp) (hb hby d9_18) hr)
theorem d13_0 : decode prog_33_method_14_code 0 = .ok (.aload_n 0, 1) := by decide +kernel
theorem d13_1 : decode prog_33_method_14_code 1 = .ok (.iload_n 1, 1) := by decide +kernel
theorem d13_2 : decode prog_33_method_14_code 2 = .ok (.invokevirtual 67, 3) := by decide +kernel
theorem d13_5 : decode prog_33_method_14_code 5 = .ok (.ifCond .ne 11, 3) := by decide +kernel
theorem d13_8 : decode prog_33_method_14_code 8 = .ok (.new 96, 3) := by decide +kernel
theorem d13_11 : decode prog_33_method_14_code 11 = .ok (.dup, 1) := by decide +kernel
theorem d13_12 : decode prog_33_method_14_code 12 = .ok (.invokespecial 98, 3) := by decide +kernel
theorem d13_15 : decode prog_33_method_14_code 15 = .ok (.athrow, 1) := by decide +kernel
theorem d13_16 : decode prog_33_method_14_code 16 = .ok (.return_, 1) := by decide +kernel
theorem ef_rm13 (m : MethodId) (a1 : Addr) (p1 : Int32) : entryFrame m #[(.ref a1), (.int p1)] 2 = mkF m 0 #[.val (.ref a1), .val (.int p1)] [] := by first | (simp [entryFrame, mkF, argsToLocals, Value.category]; done) | rfl
def Q_rm13 (Z : State) (a1 : Addr) (p1 : Int32) (ck : Addr) (k : Nat) (f : Nat → Value) (h0 : Heap) (n0 : Nat) (v : Option Value) (h : Heap) (L : List Loc) : Prop := v = none ∧ Fr n0 L ∧ h = h0
set_option maxRecDepth 65536 in
set_option maxHeartbeats 40000000 in
theorem rm13 (l : Launch) (Z : State) (a0 : Array Value) (hw : ∀ d ∈ tables_1, d.before a0 Z = true) (ws : List Jvm.Cond) (a1 : Addr) (p1 : Int32) (ck : Addr) (k : Nat) (f : Nat → Value) (h0 : Heap) (n0 : Nat) (Z0 : n0 ≤ h0.size) (E0 : Exa Z h0 a1 "formlet/input/Buttons") (F0 : Fld Z h0 a1 "formlet/input/Buttons" "click" "[Z" (.ref ck)) (A0 : AF Z h0 ck .boolean k f) (hs : ¬ (own_sup p1 (Int32.ofNat k) = (0 : Int32))) :
    MetFree l (⟨"formlet/input/Buttons", "checkExtended", "(I)V"⟩ : MethodName) (head1 (Jvm.Cond.code (⟨"formlet/input/Buttons", "checkExtended", "(I)V"⟩ : MethodName) prog_33_method_14_code 2 none :: ws) ({ frames := 1, cells := 0, slots := 0, locals := 13 } : Room)) (fun a U => a = #[(.ref a1), (.int p1)] ∧ Z.Warmed39 U.vm ∧ U.heap = h0) (fun _ _ _ _ _ => True) (fun _ U o U' => ∃ v L, o = .returned v ∧ Q_rm13 Z a1 p1 ck k f h0 n0 v U'.heap L ∧ FrameEnd U o U' L ({ frames := 1, cells := 0, slots := 0, locals := 13 } : Room).cells ({ frames := 1, cells := 0, slots := 0, locals := 13 } : Room).slots) := by
  refine own_body (Q := Q_rm13 Z a1 p1 ck k f h0 n0) (plainFor_of_name pn_19) ?_
  intro p e s m below meth c s₁ K go fin X0 hx hby hml hown hnm hret hZ e0
  have hown : s.vm.findClass "formlet/input/Buttons" = some m.cls := hown
  have N0 := Fr.nil n0
  refine go _ (s₁.setTop (mkF m 0 #[.val (.ref a1), .val (.int p1)] [])) (fun t k => castTop (ef_rm13 m a1 p1) k) ?_
  refine go _ (s₁.setTop (mkF m 1 #[.val (.ref a1), .val (.int p1)] [(.ref a1)])) (fun t k => XS.aloadN X0.here hx rfl (hb hby d13_0) rfl rfl k) ?_
  refine go _ (s₁.setTop (mkF m 2 #[.val (.ref a1), .val (.int p1)] [(.int p1), (.ref a1)])) (fun t k => XS.iloadN X0.here hx rfl (hb hby d13_1) rfl k) ?_
  obtain ⟨cq366, kq366, q366a, q366b, q366c⟩ := isOf hZ e0 E0
  obtain ⟨_, _, ⟨T366, L366, k366, n366⟩, -, X366, ⟨Lc366, hQ366, l366, y366, z366⟩, st366⟩ := X0.virtualBack hx (y := (⟨"formlet/input/Buttons", "supportsExtendedFeatures", "(I)Z"⟩ : MethodName)) (z := (⟨"formlet/input/Buttons", "supportsExtendedFeatures", "(I)Z"⟩ : MethodName)) hown (mvT hZ (hw _ (List.mem_of_getElem? (i := 91) rfl))) (mvT hZ (hw _ (List.mem_of_getElem? (i := 82) rfl))) (notFace_of_selects (args := #[]) (mvT hZ (hw _ (List.mem_of_getElem? (i := 84) rfl)))) (mvT hZ (hw _ (List.mem_of_getElem? (i := 84) rfl))) (mvT hZ (hw _ (List.mem_of_getElem? (i := 83) rfl))) (by decide) (backOf (W := 0) (rm9 l Z a0 hw [] a1 p1 ck k _ h0 n0 Z0 F0 A0) hZ (hw _ (List.mem_of_getElem? (i := 85) rfl)) (hw _ (List.mem_of_getElem? (i := 6) rfl)) (by decide) (by decide)) q366a q366c (g := (mkF m 2 #[.val (.ref a1), .val (.int p1)] [(.int p1), (.ref a1)])) rfl (by rw [hml]; rfl) (Steps.refl _) (argsL := [(.int p1)]) (rest := []) (lenOf pd_4 rfl) rfl (by show 2 * 0 + _ ≤ _; exact Nat.le_of_eq rfl) (hb hby d13_2) (fun _ _ => ⟨rfl, e0, (by decide : 0 + 0 ≤ _), (by decide : 0 + 0 ≤ _)⟩)
  dsimp only [Pt.U, Pt.locs, Pt.cells, Pt.slots] at X366 l366 y366 z366 st366 hQ366
  rw [l366, y366, z366] at X366
  obtain ⟨rfl, Nq366, hh366⟩ := hQ366
  have N367 := Fr.app N0 Nq366
  have X366 : Stand p l e ({ frames := 1, cells := 0, slots := 0, locals := 13 } : Room) s m _ below meth c T366 _ 0 0 := X366
  refine go _ (T366.setTop (mkF m 5 #[.val (.ref a1), .val (.int p1)] [(.int (own_sup p1 (Int32.ofNat k)))])) (fun t k => st366.trans k) ?_
  have hc368 : ¬ ((own_sup p1 (Int32.ofNat k)) = (0 : Int32)) := hs
  refine go _ (T366.setTop (mkF m 16 #[.val (.ref a1), .val (.int p1)] [])) (fun t k => XS.ifYes X366.here hx rfl (pc0 := 5) (pc' := 16) rfl (hb hby d13_5) rfl ((if0 _ _).trans (feq hc368).2) (by decide) (by decide) k) ?_
  exact fin none X366 (by decide) (by decide) (fun _ => rfl) (show Q_rm13 Z a1 p1 ck k f h0 n0 _ T366.heap _ from (by rw [hh366]; exact ⟨rfl, N367, rfl⟩)) (fun fs hr => X366.returnOut hx hret (hb hby d13_16) hr)
theorem d10_0 : decode prog_33_method_11_code 0 = .ok (.aload_n 0, 1) := by decide +kernel
theorem d10_1 : decode prog_33_method_11_code 1 = .ok (.iload_n 1, 1) := by decide +kernel
theorem d10_2 : decode prog_33_method_11_code 2 = .ok (.invokevirtual 67, 3) := by decide +kernel
theorem d10_5 : decode prog_33_method_11_code 5 = .ok (.ifCond .ne 5, 3) := by decide +kernel
theorem d10_8 : decode prog_33_method_11_code 8 = .ok (.iconst 0, 1) := by decide +kernel
theorem d10_9 : decode prog_33_method_11_code 9 = .ok (.ireturn, 1) := by decide +kernel
theorem d10_10 : decode prog_33_method_11_code 10 = .ok (.aload_n 0, 1) := by decide +kernel
theorem d10_11 : decode prog_33_method_11_code 11 = .ok (.getfield 81, 3) := by decide +kernel
theorem d10_14 : decode prog_33_method_11_code 14 = .ok (.dup, 1) := by decide +kernel
theorem d10_15 : decode prog_33_method_11_code 15 = .ok (.astore_n 2, 1) := by decide +kernel
theorem d10_16 : decode prog_33_method_11_code 16 = .ok (.monitorenter, 1) := by decide +kernel
theorem d10_17 : decode prog_33_method_11_code 17 = .ok (.aload_n 0, 1) := by decide +kernel
theorem d10_18 : decode prog_33_method_11_code 18 = .ok (.getfield 18, 3) := by decide +kernel
theorem d10_21 : decode prog_33_method_11_code 21 = .ok (.iload_n 1, 1) := by decide +kernel
theorem d10_22 : decode prog_33_method_11_code 22 = .ok (.baload, 1) := by decide +kernel
theorem d10_23 : decode prog_33_method_11_code 23 = .ok (.aload_n 2, 1) := by decide +kernel
theorem d10_24 : decode prog_33_method_11_code 24 = .ok (.monitorexit, 1) := by decide +kernel
theorem d10_25 : decode prog_33_method_11_code 25 = .ok (.ireturn, 1) := by decide +kernel
theorem d10_26 : decode prog_33_method_11_code 26 = .ok (.astore_n 3, 1) := by decide +kernel
theorem d10_27 : decode prog_33_method_11_code 27 = .ok (.aload_n 2, 1) := by decide +kernel
theorem d10_28 : decode prog_33_method_11_code 28 = .ok (.monitorexit, 1) := by decide +kernel
theorem d10_29 : decode prog_33_method_11_code 29 = .ok (.aload_n 3, 1) := by decide +kernel
theorem d10_30 : decode prog_33_method_11_code 30 = .ok (.athrow, 1) := by decide +kernel
theorem ef_rm10n (m : MethodId) (a1 : Addr) (p1 : Int32) : entryFrame m #[(.ref a1), (.int p1)] 4 = mkF m 0 #[.val (.ref a1), .val (.int p1), .unset, .unset] [] := by first | (simp [entryFrame, mkF, argsToLocals, Value.category]; done) | rfl
def Q_rm10n (Z : State) (a1 : Addr) (p1 : Int32) (ck : Addr) (k : Nat) (f : Nat → Value) (h0 : Heap) (n0 : Nat) (v : Option Value) (h : Heap) (L : List Loc) : Prop := v = some (.int (0 : Int32)) ∧ Fr n0 L ∧ h = h0
set_option maxRecDepth 65536 in
set_option maxHeartbeats 40000000 in
theorem rm10n (l : Launch) (Z : State) (a0 : Array Value) (hw : ∀ d ∈ tables_1, d.before a0 Z = true) (ws : List Jvm.Cond) (a1 : Addr) (p1 : Int32) (ck : Addr) (k : Nat) (f : Nat → Value) (h0 : Heap) (n0 : Nat) (Z0 : n0 ≤ h0.size) (E0 : Exa Z h0 a1 "formlet/input/Buttons") (F0 : Fld Z h0 a1 "formlet/input/Buttons" "click" "[Z" (.ref ck)) (A0 : AF Z h0 ck .boolean k f) (hs : own_sup p1 (Int32.ofNat k) = (0 : Int32)) :
    MetFree l (⟨"formlet/input/Buttons", "clickEnabled", "(I)Z"⟩ : MethodName) (head1 (Jvm.Cond.codeWith (⟨"formlet/input/Buttons", "clickEnabled", "(I)Z"⟩ : MethodName) prog_33_method_11_code 4 (some .boolean) [((17 : Nat), (25 : Nat), (26 : Nat), (0 : Nat)), ((26 : Nat), (29 : Nat), (26 : Nat), (0 : Nat))] :: ws) ({ frames := 1, cells := 0, slots := 0, locals := 13 } : Room)) (fun a U => a = #[(.ref a1), (.int p1)] ∧ Z.Warmed39 U.vm ∧ U.heap = h0) (fun _ _ _ _ _ => True) (fun _ U o U' => ∃ v L, o = .returned v ∧ Q_rm10n Z a1 p1 ck k f h0 n0 v U'.heap L ∧ FrameEnd U o U' L ({ frames := 1, cells := 0, slots := 0, locals := 13 } : Room).cells ({ frames := 1, cells := 0, slots := 0, locals := 13 } : Room).slots) := by
  refine own_bodyH (Q := Q_rm10n Z a1 p1 ck k f h0 n0) (plainFor_of_name pn_19) (by decide) ?_
  intro p e s m below meth c s₁ K go fin X0 hx hby hml hown hnm hret hZ e0 es0 hsy
  have hown : s.vm.findClass "formlet/input/Buttons" = some m.cls := hown
  have N0 := Fr.nil n0
  refine go _ (s₁.setTop (mkF m 0 #[.val (.ref a1), .val (.int p1), .unset, .unset] [])) (fun t k => castTop (ef_rm10n m a1 p1) k) ?_
  refine go _ (s₁.setTop (mkF m 1 #[.val (.ref a1), .val (.int p1), .unset, .unset] [(.ref a1)])) (fun t k => XS.aloadN X0.here hx rfl (hb hby d10_0) rfl rfl k) ?_
  refine go _ (s₁.setTop (mkF m 2 #[.val (.ref a1), .val (.int p1), .unset, .unset] [(.int p1), (.ref a1)])) (fun t k => XS.iloadN X0.here hx rfl (hb hby d10_1) rfl k) ?_
  obtain ⟨cq369, kq369, q369a, q369b, q369c⟩ := isOf hZ e0 E0
  obtain ⟨_, _, ⟨T369, L369, k369, n369⟩, -, X369, ⟨Lc369, hQ369, l369, y369, z369⟩, st369⟩ := X0.virtualBack hx (y := (⟨"formlet/input/Buttons", "supportsExtendedFeatures", "(I)Z"⟩ : MethodName)) (z := (⟨"formlet/input/Buttons", "supportsExtendedFeatures", "(I)Z"⟩ : MethodName)) hown (mvT hZ (hw _ (List.mem_of_getElem? (i := 91) rfl))) (mvT hZ (hw _ (List.mem_of_getElem? (i := 82) rfl))) (notFace_of_selects (args := #[]) (mvT hZ (hw _ (List.mem_of_getElem? (i := 84) rfl)))) (mvT hZ (hw _ (List.mem_of_getElem? (i := 84) rfl))) (mvT hZ (hw _ (List.mem_of_getElem? (i := 83) rfl))) (by decide) (backOf (W := 0) (rm9 l Z a0 hw [] a1 p1 ck k _ h0 n0 Z0 F0 A0) hZ (hw _ (List.mem_of_getElem? (i := 85) rfl)) (hw _ (List.mem_of_getElem? (i := 6) rfl)) (by decide) (by decide)) q369a q369c (g := (mkF m 2 #[.val (.ref a1), .val (.int p1), .unset, .unset] [(.int p1), (.ref a1)])) rfl (by rw [hml]; rfl) (Steps.refl _) (argsL := [(.int p1)]) (rest := []) (lenOf pd_4 rfl) rfl (by show 2 * 0 + _ ≤ _; exact Nat.le_of_eq rfl) (hb hby d10_2) (fun _ _ => ⟨rfl, e0, (by decide : 0 + 0 ≤ _), (by decide : 0 + 0 ≤ _)⟩)
  dsimp only [Pt.U, Pt.locs, Pt.cells, Pt.slots] at X369 l369 y369 z369 st369 hQ369
  rw [l369, y369, z369] at X369
  obtain ⟨rfl, Nq369, hh369⟩ := hQ369
  have N370 := Fr.app N0 Nq369
  have X369 : Stand p l e ({ frames := 1, cells := 0, slots := 0, locals := 13 } : Room) s m _ below meth c T369 _ 0 0 := X369
  refine go _ (T369.setTop (mkF m 5 #[.val (.ref a1), .val (.int p1), .unset, .unset] [(.int (own_sup p1 (Int32.ofNat k)))])) (fun t k => st369.trans k) ?_
  have hc371 : ((own_sup p1 (Int32.ofNat k)) = (0 : Int32)) := hs
  refine go _ (T369.setTop (mkF m 8 #[.val (.ref a1), .val (.int p1), .unset, .unset] [])) (fun t k => XS.ifNo X369.here hx rfl (hb hby d10_5) rfl ((if0 _ _).trans (teq hc371).2) k) ?_
  refine go _ (T369.setTop (mkF m 9 #[.val (.ref a1), .val (.int p1), .unset, .unset] [(.int (0 : Int32))])) (fun t k => XS.iconst X369.here hx rfl (hb hby d10_8) k) ?_
  exact fin (some (.int (0 : Int32))) X369 (by decide) (by decide) (fun q => by cases q) (show Q_rm10n Z a1 p1 ck k f h0 n0 _ T369.heap _ from (by rw [hh369]; exact ⟨rfl, N370, rfl⟩)) (fun fs hr => retN X369 hx (t := .boolean) hret (by simp) (hb hby d10_9) hr)
theorem ef_rm10y (m : MethodId) (a1 : Addr) (p1 : Int32) : entryFrame m #[(.ref a1), (.int p1)] 4 = mkF m 0 #[.val (.ref a1), .val (.int p1), .unset, .unset] [] := by first | (simp [entryFrame, mkF, argsToLocals, Value.category]; done) | rfl
def Q_rm10y (Z : State) (a1 : Addr) (p1 : Int32) (ck : Addr) (k : Nat) (f : Nat → Value) (lk : Addr) (i : Nat) (y : Int32) (h0 : Heap) (n0 : Nat) (v : Option Value) (h : Heap) (L : List Loc) : Prop := v = some (.int y) ∧ Fr n0 L ∧ h = h0
set_option maxRecDepth 65536 in
set_option maxHeartbeats 40000000 in
theorem rm10y (l : Launch) (Z : State) (a0 : Array Value) (hw : ∀ d ∈ tables_1, d.before a0 Z = true) (ws : List Jvm.Cond) (a1 : Addr) (p1 : Int32) (ck : Addr) (k : Nat) (f : Nat → Value) (lk : Addr) (i : Nat) (y : Int32) (h0 : Heap) (n0 : Nat) (Z0 : n0 ≤ h0.size) (E0 : Exa Z h0 a1 "formlet/input/Buttons") (F0 : Fld Z h0 a1 "formlet/input/Buttons" "click" "[Z" (.ref ck)) (A0 : AF Z h0 ck .boolean k f) (F1 : Fld Z h0 a1 "formlet/input/SequencedGenerator" "lock" "Ljava/lang/Object;" (.ref lk)) (U0 : Unt h0 lk) (nk : lk ≠ ck) (na : a1 ≠ ck) (hs : ¬ (own_sup p1 (Int32.ofNat k) = (0 : Int32))) (hj : p1.toInt = (i : Int)) (hi : i < k) (hv : f i = .int y) (hn : narrow .boolean (.int y) = .int y) :
    MetFree l (⟨"formlet/input/Buttons", "clickEnabled", "(I)Z"⟩ : MethodName) (head1 (Jvm.Cond.codeWith (⟨"formlet/input/Buttons", "clickEnabled", "(I)Z"⟩ : MethodName) prog_33_method_11_code 4 (some .boolean) [((17 : Nat), (25 : Nat), (26 : Nat), (0 : Nat)), ((26 : Nat), (29 : Nat), (26 : Nat), (0 : Nat))] :: ws) ({ frames := 1, cells := 0, slots := 0, locals := 13 } : Room)) (fun a U => a = #[(.ref a1), (.int p1)] ∧ Z.Warmed39 U.vm ∧ U.heap = h0) (fun _ _ _ _ _ => True) (fun _ U o U' => ∃ v L, o = .returned v ∧ Q_rm10y Z a1 p1 ck k f lk i y h0 n0 v U'.heap L ∧ FrameEnd U o U' L ({ frames := 1, cells := 0, slots := 0, locals := 13 } : Room).cells ({ frames := 1, cells := 0, slots := 0, locals := 13 } : Room).slots) := by
  refine own_bodyH (Q := Q_rm10y Z a1 p1 ck k f lk i y h0 n0) (plainFor_of_name pn_19) (by decide) ?_
  intro p e s m below meth c s₁ K go fin X0 hx hby hml hown hnm hret hZ e0 es0 hsy
  have hown : s.vm.findClass "formlet/input/Buttons" = some m.cls := hown
  have N0 := Fr.nil n0
  refine go _ (s₁.setTop (mkF m 0 #[.val (.ref a1), .val (.int p1), .unset, .unset] [])) (fun t k => castTop (ef_rm10y m a1 p1) k) ?_
  refine go _ (s₁.setTop (mkF m 1 #[.val (.ref a1), .val (.int p1), .unset, .unset] [(.ref a1)])) (fun t k => XS.aloadN X0.here hx rfl (hb hby d10_0) rfl rfl k) ?_
  refine go _ (s₁.setTop (mkF m 2 #[.val (.ref a1), .val (.int p1), .unset, .unset] [(.int p1), (.ref a1)])) (fun t k => XS.iloadN X0.here hx rfl (hb hby d10_1) rfl k) ?_
  obtain ⟨cq372, kq372, q372a, q372b, q372c⟩ := isOf hZ e0 E0
  obtain ⟨_, _, ⟨T372, L372, k372, n372⟩, -, X372, ⟨Lc372, hQ372, l372, y372, z372⟩, st372⟩ := X0.virtualBack hx (y := (⟨"formlet/input/Buttons", "supportsExtendedFeatures", "(I)Z"⟩ : MethodName)) (z := (⟨"formlet/input/Buttons", "supportsExtendedFeatures", "(I)Z"⟩ : MethodName)) hown (mvT hZ (hw _ (List.mem_of_getElem? (i := 91) rfl))) (mvT hZ (hw _ (List.mem_of_getElem? (i := 82) rfl))) (notFace_of_selects (args := #[]) (mvT hZ (hw _ (List.mem_of_getElem? (i := 84) rfl)))) (mvT hZ (hw _ (List.mem_of_getElem? (i := 84) rfl))) (mvT hZ (hw _ (List.mem_of_getElem? (i := 83) rfl))) (by decide) (backOf (W := 0) (rm9 l Z a0 hw [] a1 p1 ck k _ h0 n0 Z0 F0 A0) hZ (hw _ (List.mem_of_getElem? (i := 85) rfl)) (hw _ (List.mem_of_getElem? (i := 6) rfl)) (by decide) (by decide)) q372a q372c (g := (mkF m 2 #[.val (.ref a1), .val (.int p1), .unset, .unset] [(.int p1), (.ref a1)])) rfl (by rw [hml]; rfl) (Steps.refl _) (argsL := [(.int p1)]) (rest := []) (lenOf pd_4 rfl) rfl (by show 2 * 0 + _ ≤ _; exact Nat.le_of_eq rfl) (hb hby d10_2) (fun _ _ => ⟨rfl, e0, (by decide : 0 + 0 ≤ _), (by decide : 0 + 0 ≤ _)⟩)
  dsimp only [Pt.U, Pt.locs, Pt.cells, Pt.slots] at X372 l372 y372 z372 st372 hQ372
  rw [l372, y372, z372] at X372
  obtain ⟨rfl, Nq372, hh372⟩ := hQ372
  have N373 := Fr.app N0 Nq372
  have X372 : Stand p l e ({ frames := 1, cells := 0, slots := 0, locals := 13 } : Room) s m _ below meth c T372 _ 0 0 := X372
  refine go _ (T372.setTop (mkF m 5 #[.val (.ref a1), .val (.int p1), .unset, .unset] [(.int (own_sup p1 (Int32.ofNat k)))])) (fun t k => st372.trans k) ?_
  have hc374 : ¬ ((own_sup p1 (Int32.ofNat k)) = (0 : Int32)) := hs
  refine go _ (T372.setTop (mkF m 10 #[.val (.ref a1), .val (.int p1), .unset, .unset] [])) (fun t k => XS.ifYes X372.here hx rfl (pc0 := 5) (pc' := 10) rfl (hb hby d10_5) rfl ((if0 _ _).trans (feq hc374).2) (by decide) (by decide) k) ?_
  refine go _ (T372.setTop (mkF m 11 #[.val (.ref a1), .val (.int p1), .unset, .unset] [(.ref a1)])) (fun t k => XS.aloadN X372.here hx rfl (hb hby d10_10) rfl rfl k) ?_
  obtain ⟨T375, X375, e375, st375⟩ := getF X372 hx hZ hown (host := "") (Or.inl (hw _ (List.mem_of_getElem? (i := 105) rfl))) (Via.of (hw _ (List.mem_of_getElem? (i := 106) rfl))) hh372 F1 (g := (mkF m 11 #[.val (.ref a1), .val (.int p1), .unset, .unset] [(.ref a1)])) rfl rfl (hb hby d10_11)
  refine go _ (T375.setTop (mkF m 14 #[.val (.ref a1), .val (.int p1), .unset, .unset] [(.ref lk)])) (st375) ?_
  refine go _ (T375.setTop (mkF m 15 #[.val (.ref a1), .val (.int p1), .unset, .unset] [(.ref lk), (.ref lk)])) (fun t k => XS.dup X375.here hx rfl (hb hby d10_14) rfl rfl k) ?_
  refine go _ (T375.setTop (mkF m 16 #[.val (.ref a1), .val (.int p1), .val (.ref lk), .unset] [(.ref lk)])) (fun t k => XS.astoreN X375.here hx rfl (hb hby d10_15) rfl rfl (l' := #[.val (.ref a1), .val (.int p1), .val (.ref lk), .unset]) rfl k) ?_
  obtain ⟨cel, c1, c2, c3⟩ := U0
  have hT376 : T375.heap[lk]? = some cel := by rw [e375]; exact c1
  have hs0 : s.heap[lk]? = some cel := by rw [es0]; exact c1
  have hcur := X375.cur_eq
  obtain ⟨X376, st376⟩ := X375.monitorenterAt hx (g := (mkF m 16 #[.val (.ref a1), .val (.int p1), .val (.ref lk), .unset] [(.ref lk)])) rfl (by rw [hml]; rfl) rfl (hb hby d10_16) hs0 hT376 (Or.inl (by rw [c3])) hsy (by first | (show 2 * 1 + 0 ≤ _; decide) | (simp [enteredFrame, mkF]; done) | exact Nat.le_of_ble_eq_true rfl)
  rw [hcur] at X376 st376
  obtain ⟨T376, eT376⟩ : ∃ z, z = T375.setCell lk (cel.withEntry s.cur) := ⟨_, rfl⟩
  rw [← eT376] at X376 st376
  obtain ⟨h376, eH376⟩ : ∃ z, z = h0.setIfInBounds lk (cel.withEntry s.cur) := ⟨_, rfl⟩
  have e376 : T376.heap = h376 := by rw [eT376, eH376, ← e375]; rfl
  have mo376 : Mon h0 h376 := by rw [eH376]; exact own_monE lk c1 _
  have Q377 := F0.mon mo376
  have Q378 := own_AFset (cell := cel.withEntry s.cur) A0 (Ne.symm nk)
  rw [← eH376] at Q378
  have Q379 := E0.mon mo376
  have Q380 := F1.mon mo376
  have hZ : Z.Warmed39 (s.setCell lk (cel.withEntry s.cur)).vm := hZ
  have hown : (s.setCell lk (cel.withEntry s.cur)).vm.findClass "formlet/input/Buttons" = some m.cls := hown
  have Z381 : n0 ≤ h376.size := by rw [mo376.size]; exact Z0
  refine go _ (T376.setTop (own_mkE lk m 17 #[.val (.ref a1), .val (.int p1), .val (.ref lk), .unset] [])) (st376) ?_
  refine go _ (T376.setTop (own_mkE lk m 18 #[.val (.ref a1), .val (.int p1), .val (.ref lk), .unset] [(.ref a1)])) (fun t k => XS.aloadN X376.here hx rfl (hb hby d10_17) rfl rfl k) ?_
  obtain ⟨T382, X382, e382, st382⟩ := getF X376 hx hZ hown (host := "") (Or.inl (hw _ (List.mem_of_getElem? (i := 66) rfl))) Via.refl e376 Q377 (g := (own_mkE lk m 18 #[.val (.ref a1), .val (.int p1), .val (.ref lk), .unset] [(.ref a1)])) rfl rfl (hb hby d10_18)
  refine go _ (T382.setTop (own_mkE lk m 21 #[.val (.ref a1), .val (.int p1), .val (.ref lk), .unset] [(.ref ck)])) (st382) ?_
  refine go _ (T382.setTop (own_mkE lk m 22 #[.val (.ref a1), .val (.int p1), .val (.ref lk), .unset] [(.int p1), (.ref ck)])) (fun t k => XS.iloadN X382.here hx rfl (hb hby d10_21) rfl k) ?_
  refine go _ (T382.setTop (own_mkE lk m 23 #[.val (.ref a1), .val (.int p1), .val (.ref lk), .unset] [(.int y)])) (own_ldZ X382 hx hZ e382 Q378 (i := i) hj hi (g := (own_mkE lk m 22 #[.val (.ref a1), .val (.int p1), .val (.ref lk), .unset] [(.int p1), (.ref ck)])) rfl rfl (hb hby d10_22) (v := (.int y)) hv) ?_
  refine go _ (T382.setTop (own_mkE lk m 24 #[.val (.ref a1), .val (.int p1), .val (.ref lk), .unset] [(.ref lk), (.int y)])) (fun t k => XS.aloadN X382.here hx rfl (hb hby d10_23) rfl rfl k) ?_
  have hm383 : T382.heap[lk]? = some (cel.withEntry s.cur) := by rw [e382, eH376]; simp [(Array.getElem?_eq_some_iff.mp c1).1]
  have hcu383 : T382.cur = s.cur := X382.cur_eq
  obtain ⟨X383, st383⟩ := X382.monitorexitAt hx (g := (own_mkE lk m 24 #[.val (.ref a1), .val (.int p1), .val (.ref lk), .unset] [(.ref lk), (.int y)])) rfl rfl (hb hby d10_24) hs0 (own_enterable c3 _) hm383 (by rw [hcu383]; rfl) (more := []) rfl
  obtain ⟨T383, eT383⟩ : ∃ z, z = T382.setCell lk (cel.withEntry s.cur).left := ⟨_, rfl⟩
  rw [← eT383] at X383 st383
  have e383 : T383.heap = h0 := by rw [eT383]; show T382.heap.setIfInBounds _ _ = _; rw [e382, eH376]; exact own_back1 c1 c3
  refine go _ (T383.setTop (own_mkX m 25 #[.val (.ref a1), .val (.int p1), .val (.ref lk), .unset] [(.int y)])) (st383) ?_
  exact fin (some (.int y)) X383 (by decide) (by decide) (fun q => by cases q) (show Q_rm10y Z a1 p1 ck k f lk i y h0 n0 _ T383.heap _ from (by rw [e383]; exact ⟨rfl, N373, rfl⟩)) (fun fs hr => own_retX X383 hx hret hn (hb hby d10_25) hr)
theorem d12_0 : decode prog_33_method_9_code 0 = .ok (.iload_n 1, 1) := by decide +kernel
theorem d12_1 : decode prog_33_method_9_code 1 = .ok (.ifCond .ne 11, 3) := by decide +kernel
theorem d12_4 : decode prog_33_method_9_code 4 = .ok (.aload_n 0, 1) := by decide +kernel
theorem d12_5 : decode prog_33_method_9_code 5 = .ok (.iload_n 2, 1) := by decide +kernel
theorem d12_6 : decode prog_33_method_9_code 6 = .ok (.invokevirtual 67, 3) := by decide +kernel
theorem d12_9 : decode prog_33_method_9_code 9 = .ok (.ifCond .eq 34, 3) := by decide +kernel
theorem d12_12 : decode prog_33_method_9_code 12 = .ok (.aload_n 0, 1) := by decide +kernel
theorem d12_13 : decode prog_33_method_9_code 13 = .ok (.iload_n 2, 1) := by decide +kernel
theorem d12_14 : decode prog_33_method_9_code 14 = .ok (.invokevirtual 78, 3) := by decide +kernel
theorem d12_17 : decode prog_33_method_9_code 17 = .ok (.aload_n 0, 1) := by decide +kernel
theorem d12_18 : decode prog_33_method_9_code 18 = .ok (.getfield 81, 3) := by decide +kernel
theorem d12_21 : decode prog_33_method_9_code 21 = .ok (.dup, 1) := by decide +kernel
theorem d12_22 : decode prog_33_method_9_code 22 = .ok (.astore_n 3, 1) := by decide +kernel
theorem d12_23 : decode prog_33_method_9_code 23 = .ok (.monitorenter, 1) := by decide +kernel
theorem d12_24 : decode prog_33_method_9_code 24 = .ok (.aload_n 0, 1) := by decide +kernel
theorem d12_25 : decode prog_33_method_9_code 25 = .ok (.getfield 18, 3) := by decide +kernel
theorem d12_28 : decode prog_33_method_9_code 28 = .ok (.iload_n 2, 1) := by decide +kernel
theorem d12_29 : decode prog_33_method_9_code 29 = .ok (.iload_n 1, 1) := by decide +kernel
theorem d12_30 : decode prog_33_method_9_code 30 = .ok (.bastore, 1) := by decide +kernel
theorem d12_31 : decode prog_33_method_9_code 31 = .ok (.aload_n 3, 1) := by decide +kernel
theorem d12_32 : decode prog_33_method_9_code 32 = .ok (.monitorexit, 1) := by decide +kernel
theorem d12_33 : decode prog_33_method_9_code 33 = .ok (.goto 10, 3) := by decide +kernel
theorem d12_36 : decode prog_33_method_9_code 36 = .ok (.astore 4, 2) := by decide +kernel
theorem d12_38 : decode prog_33_method_9_code 38 = .ok (.aload_n 3, 1) := by decide +kernel
theorem d12_39 : decode prog_33_method_9_code 39 = .ok (.monitorexit, 1) := by decide +kernel
theorem d12_40 : decode prog_33_method_9_code 40 = .ok (.aload 4, 2) := by decide +kernel
theorem d12_42 : decode prog_33_method_9_code 42 = .ok (.athrow, 1) := by decide +kernel
theorem d12_43 : decode prog_33_method_9_code 43 = .ok (.return_, 1) := by decide +kernel
theorem ef_rm12 (m : MethodId) (a1 : Addr) (p1 : Int32) (p2 : Int32) : entryFrame m #[(.ref a1), (.int p1), (.int p2)] 5 = mkF m 0 #[.val (.ref a1), .val (.int p1), .val (.int p2), .unset, .unset] [] := by first | (simp [entryFrame, mkF, argsToLocals, Value.category]; done) | rfl
def Q_rm12 (Z : State) (a1 : Addr) (p1 : Int32) (p2 : Int32) (ck : Addr) (k : Nat) (f : Nat → Value) (lk : Addr) (i : Nat) (h0 : Heap) (n0 : Nat) (v : Option Value) (h : Heap) (L : List Loc) : Prop := v = none ∧ Fr n0 L ∧ Keep h0 h [ck] ∧ AF Z h ck .boolean k (own_upd f i (.int p1))
set_option maxRecDepth 65536 in
set_option maxHeartbeats 40000000 in
theorem rm12 (l : Launch) (Z : State) (a0 : Array Value) (hw : ∀ d ∈ tables_1, d.before a0 Z = true) (ws : List Jvm.Cond) (a1 : Addr) (p1 : Int32) (p2 : Int32) (ck : Addr) (k : Nat) (f : Nat → Value) (lk : Addr) (i : Nat) (h0 : Heap) (n0 : Nat) (Z0 : n0 ≤ h0.size) (E0 : Exa Z h0 a1 "formlet/input/Buttons") (F0 : Fld Z h0 a1 "formlet/input/Buttons" "click" "[Z" (.ref ck)) (A0 : AF Z h0 ck .boolean k f) (F1 : Fld Z h0 a1 "formlet/input/SequencedGenerator" "lock" "Ljava/lang/Object;" (.ref lk)) (U0 : Unt h0 lk) (nk : lk ≠ ck) (na : a1 ≠ ck) (gk : n0 ≤ ck) (hp : ¬ (p1 = (0 : Int32))) (hn : nar .boolean p1 = p1) (hs : ¬ (own_sup p2 (Int32.ofNat k) = (0 : Int32))) (hj : p2.toInt = (i : Int)) (hi : i < k) :
    MetFree l (⟨"formlet/input/Buttons", "enableClick", "(ZI)V"⟩ : MethodName) (head1 (Jvm.Cond.codeWith (⟨"formlet/input/Buttons", "enableClick", "(ZI)V"⟩ : MethodName) prog_33_method_9_code 5 none [((24 : Nat), (33 : Nat), (36 : Nat), (0 : Nat)), ((36 : Nat), (40 : Nat), (36 : Nat), (0 : Nat))] :: ws) ({ frames := 2, cells := 0, slots := 0, locals := 26 } : Room)) (fun a U => a = #[(.ref a1), (.int p1), (.int p2)] ∧ Z.Warmed39 U.vm ∧ U.heap = h0) (fun _ _ _ _ _ => True) (fun _ U o U' => ∃ v L, o = .returned v ∧ Q_rm12 Z a1 p1 p2 ck k f lk i h0 n0 v U'.heap L ∧ FrameEnd U o U' L ({ frames := 2, cells := 0, slots := 0, locals := 26 } : Room).cells ({ frames := 2, cells := 0, slots := 0, locals := 26 } : Room).slots) := by
  refine own_bodyH (Q := Q_rm12 Z a1 p1 p2 ck k f lk i h0 n0) (plainFor_of_name pn_19) (by decide) ?_
  intro p e s m below meth c s₁ K go fin X0 hx hby hml hown hnm hret hZ e0 es0 hsy
  have hown : s.vm.findClass "formlet/input/Buttons" = some m.cls := hown
  have N0 := Fr.nil n0
  have K0 : Keep h0 h0 [ck] := Keep.refl h0 _
  refine go _ (s₁.setTop (mkF m 0 #[.val (.ref a1), .val (.int p1), .val (.int p2), .unset, .unset] [])) (fun t k => castTop (ef_rm12 m a1 p1 p2) k) ?_
  refine go _ (s₁.setTop (mkF m 1 #[.val (.ref a1), .val (.int p1), .val (.int p2), .unset, .unset] [(.int p1)])) (fun t k => XS.iloadN X0.here hx rfl (hb hby d12_0) rfl k) ?_
  have hc384 : ¬ (p1 = (0 : Int32)) := hp
  refine go _ (s₁.setTop (mkF m 12 #[.val (.ref a1), .val (.int p1), .val (.int p2), .unset, .unset] [])) (fun t k => XS.ifYes X0.here hx rfl (pc0 := 1) (pc' := 12) rfl (hb hby d12_1) rfl ((if0 _ _).trans (feq hc384).2) (by decide) (by decide) k) ?_
  refine go _ (s₁.setTop (mkF m 13 #[.val (.ref a1), .val (.int p1), .val (.int p2), .unset, .unset] [(.ref a1)])) (fun t k => XS.aloadN X0.here hx rfl (hb hby d12_12) rfl rfl k) ?_
  refine go _ (s₁.setTop (mkF m 14 #[.val (.ref a1), .val (.int p1), .val (.int p2), .unset, .unset] [(.int p2), (.ref a1)])) (fun t k => XS.iloadN X0.here hx rfl (hb hby d12_13) rfl k) ?_
  obtain ⟨ce385, ce385a, ce385b⟩ := E0.cell
  obtain ⟨_, _, ⟨T385, L385, k385, n385⟩, -, X385, ⟨Lc385, hQ385, l385, y385, z385⟩, st385⟩ := X0.privateBack hx (y := (⟨"formlet/input/Buttons", "checkExtended", "(I)V"⟩ : MethodName)) hown (mvT hZ (hw _ (List.mem_of_getElem? (i := 101) rfl))) (mvT hZ (hw _ (List.mem_of_getElem? (i := 102) rfl))) (own_selP (y := (⟨"formlet/input/Buttons", "checkExtended", "(I)V"⟩ : MethodName)) hZ (hw _ (List.mem_of_getElem? (i := 5) rfl)) (hw _ (List.mem_of_getElem? (i := 103) rfl)) (hw _ (List.mem_of_getElem? (i := 102) rfl)) (by decide)) (Cond.privateMethod_at (mvP (args := #[]) hZ (hw _ (List.mem_of_getElem? (i := 103) rfl)))) (mvT hZ (hw _ (List.mem_of_getElem? (i := 104) rfl))) (by decide) (backOf (W := 0) (rm13 l Z a0 hw [] a1 p2 ck k _ h0 n0 Z0 E0 F0 A0 hs) hZ (hw _ (List.mem_of_getElem? (i := 104) rfl)) (hw _ (List.mem_of_getElem? (i := 6) rfl)) (by decide) (by decide)) (g := (mkF m 14 #[.val (.ref a1), .val (.int p1), .val (.int p2), .unset, .unset] [(.int p2), (.ref a1)])) rfl (by rw [hml]; rfl) (Steps.refl _) (by rw [e0]; exact ce385a) ce385b (argsL := [(.int p2)]) (rest := []) (lenOf pd_2 rfl) rfl (by show 2 * 0 + _ ≤ _; exact Nat.le_of_eq rfl) (hb hby d12_14) (fun _ _ => ⟨rfl, e0, (by decide : 0 + 0 ≤ _), (by decide : 0 + 0 ≤ _)⟩)
  dsimp only [Pt.U, Pt.locs, Pt.cells, Pt.slots] at X385 l385 y385 z385 st385 hQ385
  rw [l385, y385, z385] at X385
  obtain ⟨rfl, Nq385, hh385⟩ := hQ385
  have N386 := Fr.app N0 Nq385
  have X385 : Stand p l e ({ frames := 2, cells := 0, slots := 0, locals := 26 } : Room) s m _ below meth c T385 _ 0 0 := X385
  refine go _ (T385.setTop (mkF m 17 #[.val (.ref a1), .val (.int p1), .val (.int p2), .unset, .unset] [])) (fun t k => st385.trans k) ?_
  refine go _ (T385.setTop (mkF m 18 #[.val (.ref a1), .val (.int p1), .val (.int p2), .unset, .unset] [(.ref a1)])) (fun t k => XS.aloadN X385.here hx rfl (hb hby d12_17) rfl rfl k) ?_
  obtain ⟨T387, X387, e387, st387⟩ := getF X385 hx hZ hown (host := "") (Or.inl (hw _ (List.mem_of_getElem? (i := 105) rfl))) (Via.of (hw _ (List.mem_of_getElem? (i := 106) rfl))) hh385 F1 (g := (mkF m 18 #[.val (.ref a1), .val (.int p1), .val (.int p2), .unset, .unset] [(.ref a1)])) rfl rfl (hb hby d12_18)
  refine go _ (T387.setTop (mkF m 21 #[.val (.ref a1), .val (.int p1), .val (.int p2), .unset, .unset] [(.ref lk)])) (st387) ?_
  refine go _ (T387.setTop (mkF m 22 #[.val (.ref a1), .val (.int p1), .val (.int p2), .unset, .unset] [(.ref lk), (.ref lk)])) (fun t k => XS.dup X387.here hx rfl (hb hby d12_21) rfl rfl k) ?_
  refine go _ (T387.setTop (mkF m 23 #[.val (.ref a1), .val (.int p1), .val (.int p2), .val (.ref lk), .unset] [(.ref lk)])) (fun t k => XS.astoreN X387.here hx rfl (hb hby d12_22) rfl rfl (l' := #[.val (.ref a1), .val (.int p1), .val (.int p2), .val (.ref lk), .unset]) rfl k) ?_
  obtain ⟨cel, c1, c2, c3⟩ := U0
  have hT388 : T387.heap[lk]? = some cel := by rw [e387]; exact c1
  have hs0 : s.heap[lk]? = some cel := by rw [es0]; exact c1
  have hcur := X387.cur_eq
  obtain ⟨X388, st388⟩ := X387.monitorenterAt hx (g := (mkF m 23 #[.val (.ref a1), .val (.int p1), .val (.int p2), .val (.ref lk), .unset] [(.ref lk)])) rfl (by rw [hml]; rfl) rfl (hb hby d12_23) hs0 hT388 (Or.inl (by rw [c3])) hsy (by first | (show 2 * 1 + 0 ≤ _; decide) | (simp [enteredFrame, mkF]; done) | exact Nat.le_of_ble_eq_true rfl)
  rw [hcur] at X388 st388
  obtain ⟨T388, eT388⟩ : ∃ z, z = T387.setCell lk (cel.withEntry s.cur) := ⟨_, rfl⟩
  rw [← eT388] at X388 st388
  obtain ⟨h388, eH388⟩ : ∃ z, z = h0.setIfInBounds lk (cel.withEntry s.cur) := ⟨_, rfl⟩
  have e388 : T388.heap = h388 := by rw [eT388, eH388, ← e387]; rfl
  have mo388 : Mon h0 h388 := by rw [eH388]; exact own_monE lk c1 _
  have Q389 := F0.mon mo388
  have Q390 := own_AFset (cell := cel.withEntry s.cur) A0 (Ne.symm nk)
  rw [← eH388] at Q390
  have Q391 := E0.mon mo388
  have Q392 := F1.mon mo388
  have hZ : Z.Warmed39 (s.setCell lk (cel.withEntry s.cur)).vm := hZ
  have hown : (s.setCell lk (cel.withEntry s.cur)).vm.findClass "formlet/input/Buttons" = some m.cls := hown
  have Z393 : n0 ≤ h388.size := by rw [mo388.size]; exact Z0
  refine go _ (T388.setTop (own_mkE lk m 24 #[.val (.ref a1), .val (.int p1), .val (.int p2), .val (.ref lk), .unset] [])) (st388) ?_
  refine go _ (T388.setTop (own_mkE lk m 25 #[.val (.ref a1), .val (.int p1), .val (.int p2), .val (.ref lk), .unset] [(.ref a1)])) (fun t k => XS.aloadN X388.here hx rfl (hb hby d12_24) rfl rfl k) ?_
  obtain ⟨T394, X394, e394, st394⟩ := getF X388 hx hZ hown (host := "") (Or.inl (hw _ (List.mem_of_getElem? (i := 66) rfl))) Via.refl e388 Q389 (g := (own_mkE lk m 25 #[.val (.ref a1), .val (.int p1), .val (.int p2), .val (.ref lk), .unset] [(.ref a1)])) rfl rfl (hb hby d12_25)
  refine go _ (T394.setTop (own_mkE lk m 28 #[.val (.ref a1), .val (.int p1), .val (.int p2), .val (.ref lk), .unset] [(.ref ck)])) (st394) ?_
  refine go _ (T394.setTop (own_mkE lk m 29 #[.val (.ref a1), .val (.int p1), .val (.int p2), .val (.ref lk), .unset] [(.int p2), (.ref ck)])) (fun t k => XS.iloadN X394.here hx rfl (hb hby d12_28) rfl k) ?_
  refine go _ (T394.setTop (own_mkE lk m 30 #[.val (.ref a1), .val (.int p1), .val (.int p2), .val (.ref lk), .unset] [(.int p1), (.int p2), (.ref ck)])) (fun t k => XS.iloadN X394.here hx rfl (hb hby d12_29) rfl k) ?_
  obtain ⟨T395, h395, X395, e395, W395, A395, st395⟩ := own_stZ X394 hx hZ e394 Q390 (i := i) hj hi hn (g := (own_mkE lk m 30 #[.val (.ref a1), .val (.int p1), .val (.int p2), .val (.ref lk), .unset] [(.int p1), (.int p2), (.ref ck)])) rfl rfl (hb hby d12_30)
  have F396 := Q389.other W395 (Or.inl na)
  have B397 := Q391.wr W395
  have F398 := Q392.other W395 (Or.inl na)
  have Z399 : n0 ≤ h395.size := by rw [W395.size]; exact Z393
  have N400 := Fr.snoc X395 N386 gk
  refine go _ (T395.setTop (own_mkE lk m 31 #[.val (.ref a1), .val (.int p1), .val (.int p2), .val (.ref lk), .unset] [])) (st395) ?_
  refine go _ (T395.setTop (own_mkE lk m 32 #[.val (.ref a1), .val (.int p1), .val (.int p2), .val (.ref lk), .unset] [(.ref lk)])) (fun t k => XS.aloadN X395.here hx rfl (hb hby d12_31) rfl rfl k) ?_
  have ww401 := own_monW c1 c3 nk (eH388 ▸ W395)
  have hm401 : T395.heap[lk]? = some (cel.withEntry s.cur) := by rw [e395]; exact ww401.1
  have hcu401 : T395.cur = s.cur := X395.cur_eq
  obtain ⟨X401, st401⟩ := X395.monitorexitAt hx (g := (own_mkE lk m 32 #[.val (.ref a1), .val (.int p1), .val (.int p2), .val (.ref lk), .unset] [(.ref lk)])) rfl rfl (hb hby d12_32) hs0 (own_enterable c3 _) hm401 (by rw [hcu401]; rfl) (more := []) rfl
  obtain ⟨T401, eT401⟩ : ∃ z, z = T395.setCell lk (cel.withEntry s.cur).left := ⟨_, rfl⟩
  rw [← eT401] at X401 st401
  obtain ⟨h401, eH401⟩ : ∃ z, z = h395.setIfInBounds lk (cel.withEntry s.cur).left := ⟨_, rfl⟩
  rw [← eH401] at ww401
  have e401 : T401.heap = h401 := by rw [eT401, eH401, ← e395]; rfl
  have A401 := own_AFset (cell := (cel.withEntry s.cur).left) A395 (Ne.symm nk)
  rw [← eH401] at A401
  have Kw401 := (Keep.refl h0 [ck]).wr ww401.2 (Or.inl (by simp))
  refine go _ (T401.setTop (own_mkX m 33 #[.val (.ref a1), .val (.int p1), .val (.int p2), .val (.ref lk), .unset] [])) (st401) ?_
  refine go _ (T401.setTop (own_mkX m 43 #[.val (.ref a1), .val (.int p1), .val (.int p2), .val (.ref lk), .unset] [])) (fun t k => XS.goto X401.here hx rfl (pc0 := 33) (pc' := 43) rfl (hb hby d12_33) (by decide) (by decide) k) ?_
  exact fin none X401 (by decide) (by decide) (fun _ => rfl) (show Q_rm12 Z a1 p1 p2 ck k f lk i h0 n0 _ T401.heap _ from (by rw [e401]; exact ⟨rfl, N400, Kw401, A401⟩)) (fun fs hr => own_retV X401 hx hret (hb hby d12_43) hr)
theorem own_mask (x : Int32) : 0 ≤ (x &&& (511 : Int32)).toInt ∧ (x &&& (511 : Int32)).toInt ≤ 511 := by
  have t : (x &&& (511 : Int32)).toBitVec.toNat ≤ 511 := by
    have e : (x &&& (511 : Int32)).toBitVec = x.toBitVec &&& 511#32 := rfl
    rw [e, BitVec.toNat_and]; exact Nat.and_le_right
  have a1 : (x &&& (511 : Int32)).toInt = if 2 * (x &&& (511 : Int32)).toBitVec.toNat < 2 ^ 32 then ((x &&& (511 : Int32)).toBitVec.toNat : Int) else ((x &&& (511 : Int32)).toBitVec.toNat : Int) - ((2 ^ 32 : Nat) : Int) := BitVec.toInt_eq_toNat_cond _
  generalize (x &&& (511 : Int32)).toBitVec.toNat = d at *
  split at a1 <;> omega
theorem own_rng (p1 : Int32) : 0 ≤ ((p1 &&& (511 : Int32)) % (257 : Int32)).toInt ∧ ((p1 &&& (511 : Int32)) % (257 : Int32)).toInt ≤ 256 := by
  have q := own_mask p1
  have e : ((p1 &&& (511 : Int32)) % (257 : Int32)).toInt = (p1 &&& (511 : Int32)).toInt % 257 := by
    rw [Int32.toInt_mod]; exact Int.tmod_eq_emod_of_nonneg q.1
  omega
def own_k (p1 : Int32) : Nat := ((p1 &&& (511 : Int32)) % (257 : Int32)).toInt.toNat
theorem own_hk (p1 : Int32) : ((p1 &&& (511 : Int32)) % (257 : Int32)).toInt = (own_k p1 : Int) := by
  have := own_rng p1; unfold own_k; omega
theorem own_hk2 (p1 : Int32) : own_k p1 ≤ 256 := by
  have := own_rng p1; unfold own_k; omega
theorem own_of {n : Int32} {k : Nat} (h : n.toInt = (k : Int)) : Int32.ofNat k = n := by
  apply Int32.toInt_inj.mp
  have b := n.toInt_lt
  rw [h, Int32.toInt_ofNat_of_lt (by omega)]
theorem own_l0 (x : Int32) : x.toInt64 < (0 : Int64) ↔ x < (0 : Int32) := by
  rw [Int64.lt_iff_toInt_lt, Int32.lt_iff_toInt_lt, Int32.toInt_toInt64]; rfl
theorem own_ll (x y : Int32) : x.toInt64 < y.toInt64 ↔ x < y := by
  rw [Int64.lt_iff_toInt_lt, Int32.lt_iff_toInt_lt, Int32.toInt_toInt64, Int32.toInt_toInt64]
theorem own_s1 {x n : Int32} {k : Nat} (h : n.toInt = (k : Int)) (h1 : ¬ (x.toInt64 < (0 : Int64))) (h2 : x.toInt64 < n.toInt64) : own_sup x (Int32.ofNat k) = (1 : Int32) := by
  rw [own_l0] at h1; rw [own_ll] at h2; rw [own_of h]; unfold own_sup; simp [h1, h2]
theorem own_s0a {x : Int32} {k : Nat} (h1 : x.toInt64 < (0 : Int64)) : own_sup x (Int32.ofNat k) = (0 : Int32) := by
  rw [own_l0] at h1; unfold own_sup; simp [h1]
theorem own_s0b {x n : Int32} {k : Nat} (h : n.toInt = (k : Int)) (h2 : ¬ (x.toInt64 < n.toInt64)) : own_sup x (Int32.ofNat k) = (0 : Int32) := by
  rw [own_ll] at h2; rw [own_of h]; unfold own_sup; simp [h2]
theorem own_i {x n : Int32} {k : Nat} (h : n.toInt = (k : Int)) (h1 : ¬ (x.toInt64 < (0 : Int64))) (h2 : x.toInt64 < n.toInt64) : ∃ i : Nat, x.toInt = (i : Int) ∧ i < k := by
  rw [own_l0, Int32.lt_iff_toInt_lt] at h1; rw [own_ll, Int32.lt_iff_toInt_lt, h] at h2
  have z : (0 : Int32).toInt = 0 := rfl
  exact ⟨x.toInt.toNat, by omega, by omega⟩
theorem ef_rm0 (m : MethodId) (p1 : Int32) (p2 : Int32) (p3 : Int32) : entryFrame m #[(.int p1), (.int p2), (.int p3)] maxLocals = mkF m 0 #[.val (.int p1), .val (.int p2), .val (.int p3), .unset, .unset, .unset, .unset, .unset, .unset] [] := by first | (simp [entryFrame, mkF, argsToLocals, Value.category, maxLocals]; done) | rfl
def Q_rm0 (Z : State) (p1 : Int32) (p2 : Int32) (p3 : Int32) (h0 : Heap) (n0 : Nat) (v : Option Value) (h : Heap) (L : List Loc) : Prop := v = some (.int (1 : Int32)) ∧ Fr n0 L
set_option maxRecDepth 65536 in
set_option maxHeartbeats 40000000 in
theorem rm0 (l : Launch) (Z : State) (a0 : Array Value) (hw : ∀ d ∈ tables_1, d.before a0 Z = true) (ws : List Jvm.Cond) (p1 : Int32) (p2 : Int32) (p3 : Int32) (h0 : Heap) (n0 : Nat) (Z0 : n0 ≤ h0.size)  :
    MetFree l x (head1 (Jvm.Cond.code x code maxLocals ret :: ws) room_1) (fun a U => a = #[(.int p1), (.int p2), (.int p3)] ∧ Z.Warmed39 U.vm ∧ U.heap = h0) (fun _ _ _ _ _ => True) (fun _ U o U' => ∃ v L, o = .returned v ∧ Q_rm0 Z p1 p2 p3 h0 n0 v U'.heap L ∧ ReturnedEndW U o U' L room_1.cells room_1.slots) := by
  refine own_bodyW (Q := Q_rm0 Z p1 p2 p3 h0 n0) (plainFor_of_name pn_8) ?_
  intro p e s m below meth c s₁ K go fin X0 hx hby hml hown hnm hret hZ e0
  have hown : s.vm.findClass "formlet/input/ButtonsSupportsExtendedFeaturesPinLaw" = some m.cls := hown
  have N0 := Fr.nil n0
  refine go _ (s₁.setTop (mkF m 0 #[.val (.int p1), .val (.int p2), .val (.int p3), .unset, .unset, .unset, .unset, .unset, .unset] [])) (fun t k => castTop (ef_rm0 m p1 p2 p3) k) ?_
  refine go _ (s₁.setTop (mkF m 1 #[.val (.int p1), .val (.int p2), .val (.int p3), .unset, .unset, .unset, .unset, .unset, .unset] [(.int p3)])) (fun t k => XS.iloadN X0.here hx rfl (hb hby at_0) rfl k) ?_
  refine go _ (s₁.setTop (mkF m 3 #[.val (.int p1), .val (.int p2), .val (.int p3), .unset, .unset, .unset, .unset, .unset, .unset] [(.int (8 : Int32)), (.int p3)])) (fun t k => XS.bipush X0.here hx rfl (hb hby at_1) k) ?_
  refine go _ (s₁.setTop (mkF m 4 #[.val (.int p1), .val (.int p2), .val (.int p3), .unset, .unset, .unset, .unset, .unset, .unset] [(.int (p3 &&& (8 : Int32)))])) (fun t k => XS.iand X0.here hx rfl (hb hby at_3) rfl k) ?_
  by_cases hc402 : (p3 &&& (8 : Int32)) = (0 : Int32)
  · refine go _ (s₁.setTop (mkF m 11 #[.val (.int p1), .val (.int p2), .val (.int p3), .unset, .unset, .unset, .unset, .unset, .unset] [])) (fun t k => XS.ifYes X0.here hx rfl (pc0 := 4) (pc' := 11) rfl (hb hby at_4) rfl ((if0 _ _).trans (teq hc402).1) (by decide) (by decide) k) ?_
    refine go _ (s₁.setTop (mkF m 12 #[.val (.int p1), .val (.int p2), .val (.int p3), .unset, .unset, .unset, .unset, .unset, .unset] [(.int (0 : Int32))])) (fun t k => XS.iconst X0.here hx rfl (hb hby at_11) k) ?_
    refine go _ (s₁.setTop (mkF m 13 #[.val (.int p1), .val (.int p2), .val (.int p3), .val (.int (0 : Int32)), .unset, .unset, .unset, .unset, .unset] [])) (fun t k => XS.istoreN X0.here hx rfl (hb hby at_12) rfl (l' := #[.val (.int p1), .val (.int p2), .val (.int p3), .val (.int (0 : Int32)), .unset, .unset, .unset, .unset, .unset]) rfl k) ?_
    refine go _ (s₁.setTop (mkF m 14 #[.val (.int p1), .val (.int p2), .val (.int p3), .val (.int (0 : Int32)), .unset, .unset, .unset, .unset, .unset] [(.int (0 : Int32))])) (fun t k => XS.iloadN X0.here hx rfl (hb hby at_13) rfl k) ?_
    have hc403 : ((0 : Int32) = (0 : Int32)) := by decide
    refine go _ (s₁.setTop (mkF m 21 #[.val (.int p1), .val (.int p2), .val (.int p3), .val (.int (0 : Int32)), .unset, .unset, .unset, .unset, .unset] [])) (fun t k => XS.ifYes X0.here hx rfl (pc0 := 14) (pc' := 21) rfl (hb hby at_14) rfl ((if0 _ _).trans (teq hc403).1) (by decide) (by decide) k) ?_
    refine go _ (s₁.setTop (mkF m 22 #[.val (.int p1), .val (.int p2), .val (.int p3), .val (.int (0 : Int32)), .unset, .unset, .unset, .unset, .unset] [(.int p1)])) (fun t k => XS.iloadN X0.here hx rfl (hb hby at_21) rfl k) ?_
    refine go _ (s₁.setTop (mkF m 25 #[.val (.int p1), .val (.int p2), .val (.int p3), .val (.int (0 : Int32)), .unset, .unset, .unset, .unset, .unset] [(.int (511 : Int32)), (.int p1)])) (fun t k => XS.sipush X0.here hx rfl (hb hby at_22) k) ?_
    refine go _ (s₁.setTop (mkF m 26 #[.val (.int p1), .val (.int p2), .val (.int p3), .val (.int (0 : Int32)), .unset, .unset, .unset, .unset, .unset] [(.int (p1 &&& (511 : Int32)))])) (fun t k => XS.iand X0.here hx rfl (hb hby at_25) rfl k) ?_
    refine go _ (s₁.setTop (mkF m 29 #[.val (.int p1), .val (.int p2), .val (.int p3), .val (.int (0 : Int32)), .unset, .unset, .unset, .unset, .unset] [(.int (257 : Int32)), (.int (p1 &&& (511 : Int32)))])) (fun t k => XS.sipush X0.here hx rfl (hb hby at_26) k) ?_
    refine go _ (s₁.setTop (mkF m 30 #[.val (.int p1), .val (.int p2), .val (.int p3), .val (.int (0 : Int32)), .unset, .unset, .unset, .unset, .unset] [(.int ((p1 &&& (511 : Int32)) % (257 : Int32)))])) (fun t k => iremM X0 hx rfl (hb hby at_29) rfl (by decide) k) ?_
    refine go _ (s₁.setTop (mkF m 32 #[.val (.int p1), .val (.int p2), .val (.int p3), .val (.int (0 : Int32)), .val (.int ((p1 &&& (511 : Int32)) % (257 : Int32))), .unset, .unset, .unset, .unset] [])) (fun t k => XS.istore X0.here hx rfl (hb hby at_30) rfl (l' := #[.val (.int p1), .val (.int p2), .val (.int p3), .val (.int (0 : Int32)), .val (.int ((p1 &&& (511 : Int32)) % (257 : Int32))), .unset, .unset, .unset, .unset]) rfl k) ?_
    refine go _ (s₁.setTop (mkF m 33 #[.val (.int p1), .val (.int p2), .val (.int p3), .val (.int (0 : Int32)), .val (.int ((p1 &&& (511 : Int32)) % (257 : Int32))), .unset, .unset, .unset, .unset] [(.int p3)])) (fun t k => XS.iloadN X0.here hx rfl (hb hby at_32) rfl k) ?_
    refine go _ (s₁.setTop (mkF m 35 #[.val (.int p1), .val (.int p2), .val (.int p3), .val (.int (0 : Int32)), .val (.int ((p1 &&& (511 : Int32)) % (257 : Int32))), .unset, .unset, .unset, .unset] [(.int (7 : Int32)), (.int p3)])) (fun t k => XS.bipush X0.here hx rfl (hb hby at_33) k) ?_
    refine go _ (s₁.setTop (mkF m 36 #[.val (.int p1), .val (.int p2), .val (.int p3), .val (.int (0 : Int32)), .val (.int ((p1 &&& (511 : Int32)) % (257 : Int32))), .unset, .unset, .unset, .unset] [(.int (p3 &&& (7 : Int32)))])) (fun t k => XS.iand X0.here hx rfl (hb hby at_35) rfl k) ?_
    refine go _ (s₁.setTop (mkF m 37 #[.val (.int p1), .val (.int p2), .val (.int p3), .val (.int (0 : Int32)), .val (.int ((p1 &&& (511 : Int32)) % (257 : Int32))), .unset, .unset, .unset, .unset] [(.int p2), (.int (p3 &&& (7 : Int32)))])) (fun t k => XS.iloadN X0.here hx rfl (hb hby at_36) rfl k) ?_
    refine go _ (s₁.setTop (mkF m 39 #[.val (.int p1), .val (.int p2), .val (.int p3), .val (.int (0 : Int32)), .val (.int ((p1 &&& (511 : Int32)) % (257 : Int32))), .unset, .unset, .unset, .unset] [(.int ((p1 &&& (511 : Int32)) % (257 : Int32))), (.int p2), (.int (p3 &&& (7 : Int32)))])) (fun t k => XS.iload X0.here hx rfl (hb hby at_37) rfl k) ?_
    obtain ⟨_, _, ⟨T404, L404, k404, n404⟩, -, X404, ⟨Lc404, hQ404, l404, y404, z404⟩, st404⟩ := Jvm.LawKit.callS X0 hx (y := (⟨"formlet/input/ButtonsSupportsExtendedFeaturesPinLaw", "pickId", "(III)I"⟩ : MethodName)) hown (mvT hZ (hw _ (List.mem_of_getElem? (i := 0) rfl))) (mvT hZ (hw _ (List.mem_of_getElem? (i := 1) rfl))) (mvT hZ (hw _ (List.mem_of_getElem? (i := 2) rfl))) (mvT hZ (hw _ (List.mem_of_getElem? (i := 3) rfl))) (by decide) (backOf (W := 0) (rm1 l Z a0 hw [] (p3 &&& (7 : Int32)) p2 ((p1 &&& (511 : Int32)) % (257 : Int32))  h0 n0 Z0 ) hZ (hw _ (List.mem_of_getElem? (i := 3) rfl)) (hw _ (List.mem_of_getElem? (i := 2) rfl)) (by decide) (by decide)) (g := (mkF m 39 #[.val (.int p1), .val (.int p2), .val (.int p3), .val (.int (0 : Int32)), .val (.int ((p1 &&& (511 : Int32)) % (257 : Int32))), .unset, .unset, .unset, .unset] [(.int ((p1 &&& (511 : Int32)) % (257 : Int32))), (.int p2), (.int (p3 &&& (7 : Int32)))])) rfl (by rw [hml]; rfl) (argsL := [(.int (p3 &&& (7 : Int32))), (.int p2), (.int ((p1 &&& (511 : Int32)) % (257 : Int32)))]) (rest := []) (lenOf pd_5 rfl) rfl (by show 2 * 0 + _ ≤ _; exact Nat.le_of_eq rfl) (hb hby at_39) (fun _ _ => ⟨rfl, e0, (by decide : 0 + 0 ≤ _), (by decide : 0 + 0 ≤ _)⟩)
    dsimp only [Pt.U, Pt.locs, Pt.cells, Pt.slots] at X404 l404 y404 z404 st404 hQ404
    rw [l404, y404, z404] at X404
    obtain ⟨rfl, Nq404, hh404⟩ := hQ404
    have N405 := Fr.app N0 Nq404
    have X404 : Stand p l e room_1 s m _ below meth c T404 _ 0 0 := X404
    refine go _ (T404.setTop (mkF m 42 #[.val (.int p1), .val (.int p2), .val (.int p3), .val (.int (0 : Int32)), .val (.int ((p1 &&& (511 : Int32)) % (257 : Int32))), .unset, .unset, .unset, .unset] [(.int (f_rm1 (p3 &&& (7 : Int32)) p2 ((p1 &&& (511 : Int32)) % (257 : Int32))))])) (st404) ?_
    refine go _ (T404.setTop (mkF m 44 #[.val (.int p1), .val (.int p2), .val (.int p3), .val (.int (0 : Int32)), .val (.int ((p1 &&& (511 : Int32)) % (257 : Int32))), .val (.int (f_rm1 (p3 &&& (7 : Int32)) p2 ((p1 &&& (511 : Int32)) % (257 : Int32)))), .unset, .unset, .unset] [])) (fun t k => XS.istore X404.here hx rfl (hb hby at_42) rfl (l' := #[.val (.int p1), .val (.int p2), .val (.int p3), .val (.int (0 : Int32)), .val (.int ((p1 &&& (511 : Int32)) % (257 : Int32))), .val (.int (f_rm1 (p3 &&& (7 : Int32)) p2 ((p1 &&& (511 : Int32)) % (257 : Int32)))), .unset, .unset, .unset]) rfl k) ?_
    refine go _ (T404.setTop (mkF m 45 #[.val (.int p1), .val (.int p2), .val (.int p3), .val (.int (0 : Int32)), .val (.int ((p1 &&& (511 : Int32)) % (257 : Int32))), .val (.int (f_rm1 (p3 &&& (7 : Int32)) p2 ((p1 &&& (511 : Int32)) % (257 : Int32)))), .unset, .unset, .unset] [(.int (0 : Int32))])) (fun t k => XS.iloadN X404.here hx rfl (hb hby at_44) rfl k) ?_
    have hc406 : ((0 : Int32) = (0 : Int32)) := by decide
    refine go _ (T404.setTop (mkF m 58 #[.val (.int p1), .val (.int p2), .val (.int p3), .val (.int (0 : Int32)), .val (.int ((p1 &&& (511 : Int32)) % (257 : Int32))), .val (.int (f_rm1 (p3 &&& (7 : Int32)) p2 ((p1 &&& (511 : Int32)) % (257 : Int32)))), .unset, .unset, .unset] [])) (fun t k => XS.ifYes X404.here hx rfl (pc0 := 45) (pc' := 58) rfl (hb hby at_45) rfl ((if0 _ _).trans (teq hc406).1) (by decide) (by decide) k) ?_
    obtain ⟨T407, h407, X407, e407, E407, A407, D407, U407, st407⟩ := newO X404 hx hZ hown (hw _ (List.mem_of_getElem? (i := 4) rfl)) (hw _ (List.mem_of_getElem? (i := 5) rfl)) (hw _ (List.mem_of_getElem? (i := 6) rfl)) hh404 (g := (mkF m 58 #[.val (.int p1), .val (.int p2), .val (.int p3), .val (.int (0 : Int32)), .val (.int ((p1 &&& (511 : Int32)) % (257 : Int32))), .val (.int (f_rm1 (p3 &&& (7 : Int32)) p2 ((p1 &&& (511 : Int32)) % (257 : Int32)))), .unset, .unset, .unset] [])) rfl (hb hby at_58) (by decide) (by decide)
    obtain ⟨b407, g407⟩ : ∃ z, z = h0.size := ⟨_, rfl⟩
    rw [← g407] at A407 D407 U407 st407
    have Z408 : n0 ≤ h407.size := Nat.le_trans Z0 E407.1
    have ge_b407 : n0 ≤ b407 := by rw [g407]; exact Z0
    have U407 : Unt h407 b407 := U407
    have F_id_b407 : Fld Z h407 b407 "formlet/EventGenerator" "id" "I" (.int (0 : Int32)) := D407 (Or.inl (hw _ (List.mem_of_getElem? (i := 24) rfl))) (ty := .int) (by decide)
    have F_lock_b407 : Fld Z h407 b407 "formlet/input/SequencedGenerator" "lock" "Ljava/lang/Object;" .null := D407 (Or.inr (hw _ (List.mem_of_getElem? (i := 30) rfl))) (ty := (.object "java/lang/Object")) (by decide)
    have F_unsent_b407 : Fld Z h407 b407 "formlet/input/SequencedGenerator" "unsent" "Ljava/util/ArrayDeque;" .null := D407 (Or.inr (hw _ (List.mem_of_getElem? (i := 49) rfl))) (ty := (.object "java/util/ArrayDeque")) (by decide)
    have F_events_b407 : Fld Z h407 b407 "formlet/input/SequencedGenerator" "events" "[I" .null := D407 (Or.inl (hw _ (List.mem_of_getElem? (i := 52) rfl))) (ty := (.array .int)) (by decide)
    have F_click_b407 : Fld Z h407 b407 "formlet/input/Buttons" "click" "[Z" .null := D407 (Or.inr (hw _ (List.mem_of_getElem? (i := 67) rfl))) (ty := (.array .boolean)) (by decide)
    have F_doubleClick_b407 : Fld Z h407 b407 "formlet/input/Buttons" "doubleClick" "[Z" .null := D407 (Or.inr (hw _ (List.mem_of_getElem? (i := 69) rfl))) (ty := (.array .boolean)) (by decide)
    have F_delta_b407 : Fld Z h407 b407 "formlet/input/Buttons" "delta" "[I" .null := D407 (Or.inr (hw _ (List.mem_of_getElem? (i := 71) rfl))) (ty := (.array .int)) (by decide)
    have F_pressedBefore_b407 : Fld Z h407 b407 "formlet/input/Buttons" "pressedBefore" "[Z" .null := D407 (Or.inr (hw _ (List.mem_of_getElem? (i := 73) rfl))) (ty := (.array .boolean)) (by decide)
    have F_lastPress_b407 : Fld Z h407 b407 "formlet/input/Buttons" "lastPress" "[J" .null := D407 (Or.inr (hw _ (List.mem_of_getElem? (i := 76) rfl))) (ty := (.array .long)) (by decide)
    have F_sentBefore_b407 : Fld Z h407 b407 "formlet/input/Buttons" "sentBefore" "[Z" .null := D407 (Or.inr (hw _ (List.mem_of_getElem? (i := 78) rfl))) (ty := (.array .boolean)) (by decide)
    have F_lastEvent_b407 : Fld Z h407 b407 "formlet/input/Buttons" "lastEvent" "[J" .null := D407 (Or.inr (hw _ (List.mem_of_getElem? (i := 80) rfl))) (ty := (.array .long)) (by decide)
    refine go _ (T407.setTop (mkF m 61 #[.val (.int p1), .val (.int p2), .val (.int p3), .val (.int (0 : Int32)), .val (.int ((p1 &&& (511 : Int32)) % (257 : Int32))), .val (.int (f_rm1 (p3 &&& (7 : Int32)) p2 ((p1 &&& (511 : Int32)) % (257 : Int32)))), .unset, .unset, .unset] [(.ref b407)])) (st407) ?_
    refine go _ (T407.setTop (mkF m 62 #[.val (.int p1), .val (.int p2), .val (.int p3), .val (.int (0 : Int32)), .val (.int ((p1 &&& (511 : Int32)) % (257 : Int32))), .val (.int (f_rm1 (p3 &&& (7 : Int32)) p2 ((p1 &&& (511 : Int32)) % (257 : Int32)))), .unset, .unset, .unset] [(.ref b407), (.ref b407)])) (fun t k => XS.dup X407.here hx rfl (hb hby at_61) rfl rfl k) ?_
    refine go _ (T407.setTop (mkF m 64 #[.val (.int p1), .val (.int p2), .val (.int p3), .val (.int (0 : Int32)), .val (.int ((p1 &&& (511 : Int32)) % (257 : Int32))), .val (.int (f_rm1 (p3 &&& (7 : Int32)) p2 ((p1 &&& (511 : Int32)) % (257 : Int32)))), .unset, .unset, .unset] [(.int ((p1 &&& (511 : Int32)) % (257 : Int32))), (.ref b407), (.ref b407)])) (fun t k => XS.iload X407.here hx rfl (hb hby at_62) rfl k) ?_
    obtain ⟨_, _, ⟨T409, L409, k409, n409⟩, -, X409, hS, hgr409, ⟨Lc409, hQ409, l409, y409, z409⟩, st409⟩ := X407.specialBackS hx (y := (⟨"formlet/input/Buttons", "<init>", "(I)V"⟩ : MethodName)) rfl hown (mvT hZ (hw _ (List.mem_of_getElem? (i := 7) rfl))) (mvT hZ (hw _ (List.mem_of_getElem? (i := 8) rfl))) (mvT hZ (hw _ (List.mem_of_getElem? (i := 9) rfl))) (by decide) (backOfS (W := 1) (rm2 l Z a0 hw [] b407 ((p1 &&& (511 : Int32)) % (257 : Int32)) (own_k p1) h407 n0 Z408 A407 F_id_b407 F_lock_b407 F_unsent_b407 F_events_b407 F_click_b407 F_doubleClick_b407 F_delta_b407 F_pressedBefore_b407 F_lastPress_b407 F_sentBefore_b407 F_lastEvent_b407 ge_b407 (own_hk p1) (own_hk2 p1)) hZ (hw _ (List.mem_of_getElem? (i := 9) rfl)) (hw _ (List.mem_of_getElem? (i := 6) rfl)) (by decide) (by decide)) (g := (mkF m 64 #[.val (.int p1), .val (.int p2), .val (.int p3), .val (.int (0 : Int32)), .val (.int ((p1 &&& (511 : Int32)) % (257 : Int32))), .val (.int (f_rm1 (p3 &&& (7 : Int32)) p2 ((p1 &&& (511 : Int32)) % (257 : Int32)))), .unset, .unset, .unset] [(.int ((p1 &&& (511 : Int32)) % (257 : Int32))), (.ref b407), (.ref b407)])) rfl (by rw [hml]; rfl) (Steps.refl _) (a := b407) (argsL := [(.int ((p1 &&& (511 : Int32)) % (257 : Int32)))]) (rest := [(.ref b407)]) (lenOf pd_2 rfl) rfl (by show 2 * 0 + _ ≤ _; exact Nat.le_of_eq rfl) (hb hby at_64) (fun _ _ => ⟨rfl, e407, (by decide : 0 + 1 + 13 ≤ _), (by decide : 0 + 15 + 1977 ≤ _)⟩)
    dsimp only [Pt.U, Pt.locs, Pt.cells, Pt.slots] at hS hgr409 X409
    have hZ : Z.Warmed39 (s.setVm T409.vm).vm := State.Warmed39.trans hZ hS.1
    have hown : (s.setVm T409.vm).vm.findClass "formlet/input/ButtonsSupportsExtendedFeaturesPinLaw" = some m.cls := by rw [show (s.setVm T409.vm).vm = T409.vm from rfl, hS.1.alike.findClass]; exact hown
    dsimp only [Pt.U, Pt.locs, Pt.cells, Pt.slots] at X409 l409 y409 z409 st409 hQ409
    rw [l409, y409, z409] at X409
    obtain ⟨rfl, Nq409, Kq409, lk409, ck409, sl409, sc409, nk409, Uq409, Fl409, Fc409, Aq409⟩ := hQ409
    have N410 := Fr.app N405 Nq409
    have X409 : Stand p l e room_1 (s.setVm T409.vm) m _ below meth c T409 _ 14 1992 := X409
    have B411 := A407.keep Kq409
    have Z412 : n0 ≤ T409.heap.size := Nat.le_trans Z408 Kq409.1
    have ne_b407_lk409 : b407 ≠ lk409 := Nat.ne_of_lt (Nat.lt_of_lt_of_le A407.lt sl409)
    have ne_b407_ck409 : b407 ≠ ck409 := Nat.ne_of_lt (Nat.lt_of_lt_of_le A407.lt sc409)
    have ge_ck409 : n0 ≤ ck409 := Nat.le_trans Z408 sc409
    obtain ⟨nS, hnS⟩ : ∃ z, z = T409.heap.size := ⟨_, rfl⟩
    rw [← hnS] at hS
    have MS0 : nS ≤ T409.heap.size := Nat.le_of_eq hnS
    refine go _ (T409.setTop (mkF m 67 #[.val (.int p1), .val (.int p2), .val (.int p3), .val (.int (0 : Int32)), .val (.int ((p1 &&& (511 : Int32)) % (257 : Int32))), .val (.int (f_rm1 (p3 &&& (7 : Int32)) p2 ((p1 &&& (511 : Int32)) % (257 : Int32)))), .unset, .unset, .unset] [(.ref b407)])) (fun t k => st409.trans k) ?_
    refine go _ (T409.setTop (mkF m 69 #[.val (.int p1), .val (.int p2), .val (.int p3), .val (.int (0 : Int32)), .val (.int ((p1 &&& (511 : Int32)) % (257 : Int32))), .val (.int (f_rm1 (p3 &&& (7 : Int32)) p2 ((p1 &&& (511 : Int32)) % (257 : Int32)))), .val (.ref b407), .unset, .unset] [])) (fun t k => XS.astore X409.here hx rfl (hb hby at_67) rfl rfl (l' := #[.val (.int p1), .val (.int p2), .val (.int p3), .val (.int (0 : Int32)), .val (.int ((p1 &&& (511 : Int32)) % (257 : Int32))), .val (.int (f_rm1 (p3 &&& (7 : Int32)) p2 ((p1 &&& (511 : Int32)) % (257 : Int32)))), .val (.ref b407), .unset, .unset]) rfl k) ?_
    refine go _ (T409.setTop (mkF m 71 #[.val (.int p1), .val (.int p2), .val (.int p3), .val (.int (0 : Int32)), .val (.int ((p1 &&& (511 : Int32)) % (257 : Int32))), .val (.int (f_rm1 (p3 &&& (7 : Int32)) p2 ((p1 &&& (511 : Int32)) % (257 : Int32)))), .val (.ref b407), .unset, .unset] [(.int (f_rm1 (p3 &&& (7 : Int32)) p2 ((p1 &&& (511 : Int32)) % (257 : Int32))))])) (fun t k => XS.iload X409.here hx rfl (hb hby at_69) rfl k) ?_
    refine go _ (T409.setTop (mkF m 72 #[.val (.int p1), .val (.int p2), .val (.int p3), .val (.int (0 : Int32)), .val (.int ((p1 &&& (511 : Int32)) % (257 : Int32))), .val (.int (f_rm1 (p3 &&& (7 : Int32)) p2 ((p1 &&& (511 : Int32)) % (257 : Int32)))), .val (.ref b407), .unset, .unset] [(.long ((f_rm1 (p3 &&& (7 : Int32)) p2 ((p1 &&& (511 : Int32)) % (257 : Int32))).toInt64))])) (fun t k => XS.i2l X409.here hx rfl (hb hby at_71) rfl k) ?_
    refine go _ (T409.setTop (mkF m 73 #[.val (.int p1), .val (.int p2), .val (.int p3), .val (.int (0 : Int32)), .val (.int ((p1 &&& (511 : Int32)) % (257 : Int32))), .val (.int (f_rm1 (p3 &&& (7 : Int32)) p2 ((p1 &&& (511 : Int32)) % (257 : Int32)))), .val (.ref b407), .unset, .unset] [(.long (0 : Int64)), (.long ((f_rm1 (p3 &&& (7 : Int32)) p2 ((p1 &&& (511 : Int32)) % (257 : Int32))).toInt64))])) (fun t k => XS.lconst X409.here hx rfl (hb hby at_72) k) ?_
    refine go _ (T409.setTop (mkF m 74 #[.val (.int p1), .val (.int p2), .val (.int p3), .val (.int (0 : Int32)), .val (.int ((p1 &&& (511 : Int32)) % (257 : Int32))), .val (.int (f_rm1 (p3 &&& (7 : Int32)) p2 ((p1 &&& (511 : Int32)) % (257 : Int32)))), .val (.ref b407), .unset, .unset] [(.int (lcmpW ((f_rm1 (p3 &&& (7 : Int32)) p2 ((p1 &&& (511 : Int32)) % (257 : Int32))).toInt64) (0 : Int64)))])) (fun t k => XS.lcmp X409.here hx rfl (hb hby at_73) rfl k) ?_
    by_cases hc413 : ((f_rm1 (p3 &&& (7 : Int32)) p2 ((p1 &&& (511 : Int32)) % (257 : Int32))).toInt64) < (0 : Int64)
    · refine go _ (T409.setTop (mkF m 91 #[.val (.int p1), .val (.int p2), .val (.int p3), .val (.int (0 : Int32)), .val (.int ((p1 &&& (511 : Int32)) % (257 : Int32))), .val (.int (f_rm1 (p3 &&& (7 : Int32)) p2 ((p1 &&& (511 : Int32)) % (257 : Int32)))), .val (.ref b407), .unset, .unset] [])) (fun t k => XS.ifYes X409.here hx rfl (pc0 := 74) (pc' := 91) rfl (hb hby at_74) rfl ((if0 _ _).trans (tlt ((lw_lt ((f_rm1 (p3 &&& (7 : Int32)) p2 ((p1 &&& (511 : Int32)) % (257 : Int32))).toInt64) (0 : Int64)).mpr hc413)).1) (by decide) (by decide) k) ?_
      refine go _ (T409.setTop (mkF m 92 #[.val (.int p1), .val (.int p2), .val (.int p3), .val (.int (0 : Int32)), .val (.int ((p1 &&& (511 : Int32)) % (257 : Int32))), .val (.int (f_rm1 (p3 &&& (7 : Int32)) p2 ((p1 &&& (511 : Int32)) % (257 : Int32)))), .val (.ref b407), .unset, .unset] [(.int (0 : Int32))])) (fun t k => XS.iconst X409.here hx rfl (hb hby at_91) k) ?_
      refine go _ (T409.setTop (mkF m 94 #[.val (.int p1), .val (.int p2), .val (.int p3), .val (.int (0 : Int32)), .val (.int ((p1 &&& (511 : Int32)) % (257 : Int32))), .val (.int (f_rm1 (p3 &&& (7 : Int32)) p2 ((p1 &&& (511 : Int32)) % (257 : Int32)))), .val (.ref b407), .val (.int (0 : Int32)), .unset] [])) (fun t k => XS.istore X409.here hx rfl (hb hby at_92) rfl (l' := #[.val (.int p1), .val (.int p2), .val (.int p3), .val (.int (0 : Int32)), .val (.int ((p1 &&& (511 : Int32)) % (257 : Int32))), .val (.int (f_rm1 (p3 &&& (7 : Int32)) p2 ((p1 &&& (511 : Int32)) % (257 : Int32)))), .val (.ref b407), .val (.int (0 : Int32)), .unset]) rfl k) ?_
      refine go _ (T409.setTop (mkF m 96 #[.val (.int p1), .val (.int p2), .val (.int p3), .val (.int (0 : Int32)), .val (.int ((p1 &&& (511 : Int32)) % (257 : Int32))), .val (.int (f_rm1 (p3 &&& (7 : Int32)) p2 ((p1 &&& (511 : Int32)) % (257 : Int32)))), .val (.ref b407), .val (.int (0 : Int32)), .unset] [(.ref b407)])) (fun t k => XS.aload X409.here hx rfl (hb hby at_94) rfl rfl k) ?_
      refine go _ (T409.setTop (mkF m 98 #[.val (.int p1), .val (.int p2), .val (.int p3), .val (.int (0 : Int32)), .val (.int ((p1 &&& (511 : Int32)) % (257 : Int32))), .val (.int (f_rm1 (p3 &&& (7 : Int32)) p2 ((p1 &&& (511 : Int32)) % (257 : Int32)))), .val (.ref b407), .val (.int (0 : Int32)), .unset] [(.int (f_rm1 (p3 &&& (7 : Int32)) p2 ((p1 &&& (511 : Int32)) % (257 : Int32)))), (.ref b407)])) (fun t k => XS.iload X409.here hx rfl (hb hby at_96) rfl k) ?_
      obtain ⟨cq414, kq414, q414a, q414b, q414c⟩ := isOf hZ rfl B411
      obtain ⟨_, _, ⟨T414, L414, k414, n414⟩, -, X414, ⟨Lc414, hQ414, l414, y414, z414⟩, st414⟩ := X409.virtualBack hx (y := (⟨"formlet/input/Buttons", "supportsExtendedFeatures", "(I)Z"⟩ : MethodName)) (z := (⟨"formlet/input/Buttons", "supportsExtendedFeatures", "(I)Z"⟩ : MethodName)) hown (mvT hZ (hw _ (List.mem_of_getElem? (i := 81) rfl))) (mvT hZ (hw _ (List.mem_of_getElem? (i := 82) rfl))) (notFace_of_selects (args := #[]) (mvT hZ (hw _ (List.mem_of_getElem? (i := 84) rfl)))) (mvT hZ (hw _ (List.mem_of_getElem? (i := 84) rfl))) (mvT hZ (hw _ (List.mem_of_getElem? (i := 83) rfl))) (by decide) (backOf (W := 0) (rm9 l Z a0 hw [] b407 (f_rm1 (p3 &&& (7 : Int32)) p2 ((p1 &&& (511 : Int32)) % (257 : Int32))) ck409 (own_k p1) _ T409.heap n0 Z412 Fc409 Aq409) hZ (hw _ (List.mem_of_getElem? (i := 85) rfl)) (hw _ (List.mem_of_getElem? (i := 6) rfl)) (by decide) (by decide)) q414a q414c (g := (mkF m 98 #[.val (.int p1), .val (.int p2), .val (.int p3), .val (.int (0 : Int32)), .val (.int ((p1 &&& (511 : Int32)) % (257 : Int32))), .val (.int (f_rm1 (p3 &&& (7 : Int32)) p2 ((p1 &&& (511 : Int32)) % (257 : Int32)))), .val (.ref b407), .val (.int (0 : Int32)), .unset] [(.int (f_rm1 (p3 &&& (7 : Int32)) p2 ((p1 &&& (511 : Int32)) % (257 : Int32)))), (.ref b407)])) rfl (by rw [hml]; rfl) (Steps.refl _) (argsL := [(.int (f_rm1 (p3 &&& (7 : Int32)) p2 ((p1 &&& (511 : Int32)) % (257 : Int32))))]) (rest := []) (lenOf pd_4 rfl) rfl (by show 2 * 0 + _ ≤ _; exact Nat.le_of_eq rfl) (hb hby at_98) (fun _ _ => ⟨rfl, rfl, (by decide : 14 + 0 ≤ _), (by decide : 1992 + 0 ≤ _)⟩)
      dsimp only [Pt.U, Pt.locs, Pt.cells, Pt.slots] at X414 l414 y414 z414 st414 hQ414
      rw [l414, y414, z414] at X414
      obtain ⟨rfl, Nq414, hh414⟩ := hQ414
      have N415 := Fr.app N410 Nq414
      have X414 : Stand p l e room_1 (s.setVm T409.vm) m _ below meth c T414 _ 14 1992 := X414
      refine go _ (T414.setTop (mkF m 101 #[.val (.int p1), .val (.int p2), .val (.int p3), .val (.int (0 : Int32)), .val (.int ((p1 &&& (511 : Int32)) % (257 : Int32))), .val (.int (f_rm1 (p3 &&& (7 : Int32)) p2 ((p1 &&& (511 : Int32)) % (257 : Int32)))), .val (.ref b407), .val (.int (0 : Int32)), .unset] [(.int (own_sup (f_rm1 (p3 &&& (7 : Int32)) p2 ((p1 &&& (511 : Int32)) % (257 : Int32))) (Int32.ofNat (own_k p1))))])) (fun t k => st414.trans k) ?_
      refine go _ (T414.setTop (mkF m 103 #[.val (.int p1), .val (.int p2), .val (.int p3), .val (.int (0 : Int32)), .val (.int ((p1 &&& (511 : Int32)) % (257 : Int32))), .val (.int (f_rm1 (p3 &&& (7 : Int32)) p2 ((p1 &&& (511 : Int32)) % (257 : Int32)))), .val (.ref b407), .val (.int (0 : Int32)), .val (.int (own_sup (f_rm1 (p3 &&& (7 : Int32)) p2 ((p1 &&& (511 : Int32)) % (257 : Int32))) (Int32.ofNat (own_k p1))))] [])) (fun t k => XS.istore X414.here hx rfl (hb hby at_101) rfl (l' := #[.val (.int p1), .val (.int p2), .val (.int p3), .val (.int (0 : Int32)), .val (.int ((p1 &&& (511 : Int32)) % (257 : Int32))), .val (.int (f_rm1 (p3 &&& (7 : Int32)) p2 ((p1 &&& (511 : Int32)) % (257 : Int32)))), .val (.ref b407), .val (.int (0 : Int32)), .val (.int (own_sup (f_rm1 (p3 &&& (7 : Int32)) p2 ((p1 &&& (511 : Int32)) % (257 : Int32))) (Int32.ofNat (own_k p1))))]) rfl k) ?_
      refine go _ (T414.setTop (mkF m 105 #[.val (.int p1), .val (.int p2), .val (.int p3), .val (.int (0 : Int32)), .val (.int ((p1 &&& (511 : Int32)) % (257 : Int32))), .val (.int (f_rm1 (p3 &&& (7 : Int32)) p2 ((p1 &&& (511 : Int32)) % (257 : Int32)))), .val (.ref b407), .val (.int (0 : Int32)), .val (.int (own_sup (f_rm1 (p3 &&& (7 : Int32)) p2 ((p1 &&& (511 : Int32)) % (257 : Int32))) (Int32.ofNat (own_k p1))))] [(.int (own_sup (f_rm1 (p3 &&& (7 : Int32)) p2 ((p1 &&& (511 : Int32)) % (257 : Int32))) (Int32.ofNat (own_k p1))))])) (fun t k => XS.iload X414.here hx rfl (hb hby at_103) rfl k) ?_
      refine go _ (T414.setTop (mkF m 107 #[.val (.int p1), .val (.int p2), .val (.int p3), .val (.int (0 : Int32)), .val (.int ((p1 &&& (511 : Int32)) % (257 : Int32))), .val (.int (f_rm1 (p3 &&& (7 : Int32)) p2 ((p1 &&& (511 : Int32)) % (257 : Int32)))), .val (.ref b407), .val (.int (0 : Int32)), .val (.int (own_sup (f_rm1 (p3 &&& (7 : Int32)) p2 ((p1 &&& (511 : Int32)) % (257 : Int32))) (Int32.ofNat (own_k p1))))] [(.int (0 : Int32)), (.int (own_sup (f_rm1 (p3 &&& (7 : Int32)) p2 ((p1 &&& (511 : Int32)) % (257 : Int32))) (Int32.ofNat (own_k p1))))])) (fun t k => XS.iload X414.here hx rfl (hb hby at_105) rfl k) ?_
      have hsup : (own_sup (f_rm1 (p3 &&& (7 : Int32)) p2 ((p1 &&& (511 : Int32)) % (257 : Int32))) (Int32.ofNat (own_k p1))) = (0 : Int32) := own_s0a hc413
      have hc416 : ((own_sup (f_rm1 (p3 &&& (7 : Int32)) p2 ((p1 &&& (511 : Int32)) % (257 : Int32))) (Int32.ofNat (own_k p1))) = (0 : Int32)) := hsup
      refine go _ (T414.setTop (mkF m 112 #[.val (.int p1), .val (.int p2), .val (.int p3), .val (.int (0 : Int32)), .val (.int ((p1 &&& (511 : Int32)) % (257 : Int32))), .val (.int (f_rm1 (p3 &&& (7 : Int32)) p2 ((p1 &&& (511 : Int32)) % (257 : Int32)))), .val (.ref b407), .val (.int (0 : Int32)), .val (.int (own_sup (f_rm1 (p3 &&& (7 : Int32)) p2 ((p1 &&& (511 : Int32)) % (257 : Int32))) (Int32.ofNat (own_k p1))))] [])) (fun t k => XS.icmpYes X414.here hx rfl (pc0 := 107) (pc' := 112) rfl (hb hby at_107) rfl (teq hc416).1 (by decide) (by decide) k) ?_
      refine go _ (T414.setTop (mkF m 114 #[.val (.int p1), .val (.int p2), .val (.int p3), .val (.int (0 : Int32)), .val (.int ((p1 &&& (511 : Int32)) % (257 : Int32))), .val (.int (f_rm1 (p3 &&& (7 : Int32)) p2 ((p1 &&& (511 : Int32)) % (257 : Int32)))), .val (.ref b407), .val (.int (0 : Int32)), .val (.int (own_sup (f_rm1 (p3 &&& (7 : Int32)) p2 ((p1 &&& (511 : Int32)) % (257 : Int32))) (Int32.ofNat (own_k p1))))] [(.int (0 : Int32))])) (fun t k => XS.iload X414.here hx rfl (hb hby at_112) rfl k) ?_
      have hc417 : ((0 : Int32) = (0 : Int32)) := by decide
      refine go _ (T414.setTop (mkF m 133 #[.val (.int p1), .val (.int p2), .val (.int p3), .val (.int (0 : Int32)), .val (.int ((p1 &&& (511 : Int32)) % (257 : Int32))), .val (.int (f_rm1 (p3 &&& (7 : Int32)) p2 ((p1 &&& (511 : Int32)) % (257 : Int32)))), .val (.ref b407), .val (.int (0 : Int32)), .val (.int (own_sup (f_rm1 (p3 &&& (7 : Int32)) p2 ((p1 &&& (511 : Int32)) % (257 : Int32))) (Int32.ofNat (own_k p1))))] [])) (fun t k => XS.ifYes X414.here hx rfl (pc0 := 114) (pc' := 133) rfl (hb hby at_114) rfl ((if0 _ _).trans (teq hc417).1) (by decide) (by decide) k) ?_
      refine go _ (T414.setTop (mkF m 135 #[.val (.int p1), .val (.int p2), .val (.int p3), .val (.int (0 : Int32)), .val (.int ((p1 &&& (511 : Int32)) % (257 : Int32))), .val (.int (f_rm1 (p3 &&& (7 : Int32)) p2 ((p1 &&& (511 : Int32)) % (257 : Int32)))), .val (.ref b407), .val (.int (0 : Int32)), .val (.int (own_sup (f_rm1 (p3 &&& (7 : Int32)) p2 ((p1 &&& (511 : Int32)) % (257 : Int32))) (Int32.ofNat (own_k p1))))] [(.ref b407)])) (fun t k => XS.aload X414.here hx rfl (hb hby at_133) rfl rfl k) ?_
      refine go _ (T414.setTop (mkF m 137 #[.val (.int p1), .val (.int p2), .val (.int p3), .val (.int (0 : Int32)), .val (.int ((p1 &&& (511 : Int32)) % (257 : Int32))), .val (.int (f_rm1 (p3 &&& (7 : Int32)) p2 ((p1 &&& (511 : Int32)) % (257 : Int32)))), .val (.ref b407), .val (.int (0 : Int32)), .val (.int (own_sup (f_rm1 (p3 &&& (7 : Int32)) p2 ((p1 &&& (511 : Int32)) % (257 : Int32))) (Int32.ofNat (own_k p1))))] [(.int (f_rm1 (p3 &&& (7 : Int32)) p2 ((p1 &&& (511 : Int32)) % (257 : Int32)))), (.ref b407)])) (fun t k => XS.iload X414.here hx rfl (hb hby at_135) rfl k) ?_
      obtain ⟨cq418, kq418, q418a, q418b, q418c⟩ := isOf hZ hh414 B411
      obtain ⟨_, _, ⟨T418, L418, k418, n418⟩, -, X418, ⟨Lc418, hQ418, l418, y418, z418⟩, st418⟩ := X414.virtualBack hx (y := (⟨"formlet/input/Buttons", "clickEnabled", "(I)Z"⟩ : MethodName)) (z := (⟨"formlet/input/Buttons", "clickEnabled", "(I)Z"⟩ : MethodName)) hown (mvT hZ (hw _ (List.mem_of_getElem? (i := 86) rfl))) (mvT hZ (hw _ (List.mem_of_getElem? (i := 87) rfl))) (notFace_of_selects (args := #[]) (mvT hZ (hw _ (List.mem_of_getElem? (i := 89) rfl)))) (mvT hZ (hw _ (List.mem_of_getElem? (i := 89) rfl))) (mvT hZ (hw _ (List.mem_of_getElem? (i := 88) rfl))) (by decide) (backOfWith (W := 0) (rm10n l Z a0 hw [] b407 (f_rm1 (p3 &&& (7 : Int32)) p2 ((p1 &&& (511 : Int32)) % (257 : Int32))) ck409 (own_k p1) _ T409.heap n0 Z412 B411 Fc409 Aq409 hsup) hZ (hw _ (List.mem_of_getElem? (i := 90) rfl)) (hw _ (List.mem_of_getElem? (i := 6) rfl)) (by decide) (by decide)) q418a q418c (g := (mkF m 137 #[.val (.int p1), .val (.int p2), .val (.int p3), .val (.int (0 : Int32)), .val (.int ((p1 &&& (511 : Int32)) % (257 : Int32))), .val (.int (f_rm1 (p3 &&& (7 : Int32)) p2 ((p1 &&& (511 : Int32)) % (257 : Int32)))), .val (.ref b407), .val (.int (0 : Int32)), .val (.int (own_sup (f_rm1 (p3 &&& (7 : Int32)) p2 ((p1 &&& (511 : Int32)) % (257 : Int32))) (Int32.ofNat (own_k p1))))] [(.int (f_rm1 (p3 &&& (7 : Int32)) p2 ((p1 &&& (511 : Int32)) % (257 : Int32)))), (.ref b407)])) rfl (by rw [hml]; rfl) (Steps.refl _) (argsL := [(.int (f_rm1 (p3 &&& (7 : Int32)) p2 ((p1 &&& (511 : Int32)) % (257 : Int32))))]) (rest := []) (lenOf pd_4 rfl) rfl (by show 2 * 0 + _ ≤ _; exact Nat.le_of_eq rfl) (hb hby at_137) (fun _ _ => ⟨rfl, hh414, (by decide : 14 + 0 ≤ _), (by decide : 1992 + 0 ≤ _)⟩)
      dsimp only [Pt.U, Pt.locs, Pt.cells, Pt.slots] at X418 l418 y418 z418 st418 hQ418
      rw [l418, y418, z418] at X418
      obtain ⟨rfl, Nq418, hh418⟩ := hQ418
      have N419 := Fr.app N415 Nq418
      have X418 : Stand p l e room_1 (s.setVm T409.vm) m _ below meth c T418 _ 14 1992 := X418
      refine go _ (T418.setTop (mkF m 140 #[.val (.int p1), .val (.int p2), .val (.int p3), .val (.int (0 : Int32)), .val (.int ((p1 &&& (511 : Int32)) % (257 : Int32))), .val (.int (f_rm1 (p3 &&& (7 : Int32)) p2 ((p1 &&& (511 : Int32)) % (257 : Int32)))), .val (.ref b407), .val (.int (0 : Int32)), .val (.int (own_sup (f_rm1 (p3 &&& (7 : Int32)) p2 ((p1 &&& (511 : Int32)) % (257 : Int32))) (Int32.ofNat (own_k p1))))] [(.int (0 : Int32))])) (fun t k => st418.trans k) ?_
      have hc420 : ((0 : Int32) = (0 : Int32)) := by decide
      refine go _ (T418.setTop (mkF m 143 #[.val (.int p1), .val (.int p2), .val (.int p3), .val (.int (0 : Int32)), .val (.int ((p1 &&& (511 : Int32)) % (257 : Int32))), .val (.int (f_rm1 (p3 &&& (7 : Int32)) p2 ((p1 &&& (511 : Int32)) % (257 : Int32)))), .val (.ref b407), .val (.int (0 : Int32)), .val (.int (own_sup (f_rm1 (p3 &&& (7 : Int32)) p2 ((p1 &&& (511 : Int32)) % (257 : Int32))) (Int32.ofNat (own_k p1))))] [])) (fun t k => XS.ifNo X418.here hx rfl (hb hby at_140) rfl ((if0 _ _).trans (teq hc420).2) k) ?_
      refine go _ (T418.setTop (mkF m 144 #[.val (.int p1), .val (.int p2), .val (.int p3), .val (.int (0 : Int32)), .val (.int ((p1 &&& (511 : Int32)) % (257 : Int32))), .val (.int (f_rm1 (p3 &&& (7 : Int32)) p2 ((p1 &&& (511 : Int32)) % (257 : Int32)))), .val (.ref b407), .val (.int (0 : Int32)), .val (.int (own_sup (f_rm1 (p3 &&& (7 : Int32)) p2 ((p1 &&& (511 : Int32)) % (257 : Int32))) (Int32.ofNat (own_k p1))))] [(.int (1 : Int32))])) (fun t k => XS.iconst X418.here hx rfl (hb hby at_143) k) ?_
      refine go _ (T418.setTop (mkF m 148 #[.val (.int p1), .val (.int p2), .val (.int p3), .val (.int (0 : Int32)), .val (.int ((p1 &&& (511 : Int32)) % (257 : Int32))), .val (.int (f_rm1 (p3 &&& (7 : Int32)) p2 ((p1 &&& (511 : Int32)) % (257 : Int32)))), .val (.ref b407), .val (.int (0 : Int32)), .val (.int (own_sup (f_rm1 (p3 &&& (7 : Int32)) p2 ((p1 &&& (511 : Int32)) % (257 : Int32))) (Int32.ofNat (own_k p1))))] [(.int (1 : Int32))])) (fun t k => XS.goto X418.here hx rfl (pc0 := 144) (pc' := 148) rfl (hb hby at_144) (by decide) (by decide) k) ?_
      exact fin (some (.int (1 : Int32))) X418 hS (by rw [hh418]; exact MS0) (by decide) (by decide) (fun q => by cases q) (show Q_rm0 Z p1 p2 p3 h0 n0 _ T418.heap _ from (by rw [hh418]; exact ⟨rfl, N419⟩)) (fun fs hr => retN X418 hx (t := .boolean) hret (by simp) (hb hby at_148) hr)
    · refine go _ (T409.setTop (mkF m 77 #[.val (.int p1), .val (.int p2), .val (.int p3), .val (.int (0 : Int32)), .val (.int ((p1 &&& (511 : Int32)) % (257 : Int32))), .val (.int (f_rm1 (p3 &&& (7 : Int32)) p2 ((p1 &&& (511 : Int32)) % (257 : Int32)))), .val (.ref b407), .unset, .unset] [])) (fun t k => XS.ifNo X409.here hx rfl (hb hby at_74) rfl ((if0 _ _).trans (flt (fun q => hc413 ((lw_lt ((f_rm1 (p3 &&& (7 : Int32)) p2 ((p1 &&& (511 : Int32)) % (257 : Int32))).toInt64) (0 : Int64)).mp q))).1) k) ?_
      refine go _ (T409.setTop (mkF m 79 #[.val (.int p1), .val (.int p2), .val (.int p3), .val (.int (0 : Int32)), .val (.int ((p1 &&& (511 : Int32)) % (257 : Int32))), .val (.int (f_rm1 (p3 &&& (7 : Int32)) p2 ((p1 &&& (511 : Int32)) % (257 : Int32)))), .val (.ref b407), .unset, .unset] [(.int (f_rm1 (p3 &&& (7 : Int32)) p2 ((p1 &&& (511 : Int32)) % (257 : Int32))))])) (fun t k => XS.iload X409.here hx rfl (hb hby at_77) rfl k) ?_
      refine go _ (T409.setTop (mkF m 80 #[.val (.int p1), .val (.int p2), .val (.int p3), .val (.int (0 : Int32)), .val (.int ((p1 &&& (511 : Int32)) % (257 : Int32))), .val (.int (f_rm1 (p3 &&& (7 : Int32)) p2 ((p1 &&& (511 : Int32)) % (257 : Int32)))), .val (.ref b407), .unset, .unset] [(.long ((f_rm1 (p3 &&& (7 : Int32)) p2 ((p1 &&& (511 : Int32)) % (257 : Int32))).toInt64))])) (fun t k => XS.i2l X409.here hx rfl (hb hby at_79) rfl k) ?_
      refine go _ (T409.setTop (mkF m 82 #[.val (.int p1), .val (.int p2), .val (.int p3), .val (.int (0 : Int32)), .val (.int ((p1 &&& (511 : Int32)) % (257 : Int32))), .val (.int (f_rm1 (p3 &&& (7 : Int32)) p2 ((p1 &&& (511 : Int32)) % (257 : Int32)))), .val (.ref b407), .unset, .unset] [(.int ((p1 &&& (511 : Int32)) % (257 : Int32))), (.long ((f_rm1 (p3 &&& (7 : Int32)) p2 ((p1 &&& (511 : Int32)) % (257 : Int32))).toInt64))])) (fun t k => XS.iload X409.here hx rfl (hb hby at_80) rfl k) ?_
      refine go _ (T409.setTop (mkF m 83 #[.val (.int p1), .val (.int p2), .val (.int p3), .val (.int (0 : Int32)), .val (.int ((p1 &&& (511 : Int32)) % (257 : Int32))), .val (.int (f_rm1 (p3 &&& (7 : Int32)) p2 ((p1 &&& (511 : Int32)) % (257 : Int32)))), .val (.ref b407), .unset, .unset] [(.long (((p1 &&& (511 : Int32)) % (257 : Int32)).toInt64)), (.long ((f_rm1 (p3 &&& (7 : Int32)) p2 ((p1 &&& (511 : Int32)) % (257 : Int32))).toInt64))])) (fun t k => XS.i2l X409.here hx rfl (hb hby at_82) rfl k) ?_
      refine go _ (T409.setTop (mkF m 84 #[.val (.int p1), .val (.int p2), .val (.int p3), .val (.int (0 : Int32)), .val (.int ((p1 &&& (511 : Int32)) % (257 : Int32))), .val (.int (f_rm1 (p3 &&& (7 : Int32)) p2 ((p1 &&& (511 : Int32)) % (257 : Int32)))), .val (.ref b407), .unset, .unset] [(.int (lcmpW ((f_rm1 (p3 &&& (7 : Int32)) p2 ((p1 &&& (511 : Int32)) % (257 : Int32))).toInt64) (((p1 &&& (511 : Int32)) % (257 : Int32)).toInt64)))])) (fun t k => XS.lcmp X409.here hx rfl (hb hby at_83) rfl k) ?_
      by_cases hc421 : ((f_rm1 (p3 &&& (7 : Int32)) p2 ((p1 &&& (511 : Int32)) % (257 : Int32))).toInt64) < (((p1 &&& (511 : Int32)) % (257 : Int32)).toInt64)
      · refine go _ (T409.setTop (mkF m 87 #[.val (.int p1), .val (.int p2), .val (.int p3), .val (.int (0 : Int32)), .val (.int ((p1 &&& (511 : Int32)) % (257 : Int32))), .val (.int (f_rm1 (p3 &&& (7 : Int32)) p2 ((p1 &&& (511 : Int32)) % (257 : Int32)))), .val (.ref b407), .unset, .unset] [])) (fun t k => XS.ifNo X409.here hx rfl (hb hby at_84) rfl ((if0 _ _).trans (tlt ((lw_lt ((f_rm1 (p3 &&& (7 : Int32)) p2 ((p1 &&& (511 : Int32)) % (257 : Int32))).toInt64) (((p1 &&& (511 : Int32)) % (257 : Int32)).toInt64)).mpr hc421)).2.1) k) ?_
        refine go _ (T409.setTop (mkF m 88 #[.val (.int p1), .val (.int p2), .val (.int p3), .val (.int (0 : Int32)), .val (.int ((p1 &&& (511 : Int32)) % (257 : Int32))), .val (.int (f_rm1 (p3 &&& (7 : Int32)) p2 ((p1 &&& (511 : Int32)) % (257 : Int32)))), .val (.ref b407), .unset, .unset] [(.int (1 : Int32))])) (fun t k => XS.iconst X409.here hx rfl (hb hby at_87) k) ?_
        refine go _ (T409.setTop (mkF m 92 #[.val (.int p1), .val (.int p2), .val (.int p3), .val (.int (0 : Int32)), .val (.int ((p1 &&& (511 : Int32)) % (257 : Int32))), .val (.int (f_rm1 (p3 &&& (7 : Int32)) p2 ((p1 &&& (511 : Int32)) % (257 : Int32)))), .val (.ref b407), .unset, .unset] [(.int (1 : Int32))])) (fun t k => XS.goto X409.here hx rfl (pc0 := 88) (pc' := 92) rfl (hb hby at_88) (by decide) (by decide) k) ?_
        refine go _ (T409.setTop (mkF m 94 #[.val (.int p1), .val (.int p2), .val (.int p3), .val (.int (0 : Int32)), .val (.int ((p1 &&& (511 : Int32)) % (257 : Int32))), .val (.int (f_rm1 (p3 &&& (7 : Int32)) p2 ((p1 &&& (511 : Int32)) % (257 : Int32)))), .val (.ref b407), .val (.int (1 : Int32)), .unset] [])) (fun t k => XS.istore X409.here hx rfl (hb hby at_92) rfl (l' := #[.val (.int p1), .val (.int p2), .val (.int p3), .val (.int (0 : Int32)), .val (.int ((p1 &&& (511 : Int32)) % (257 : Int32))), .val (.int (f_rm1 (p3 &&& (7 : Int32)) p2 ((p1 &&& (511 : Int32)) % (257 : Int32)))), .val (.ref b407), .val (.int (1 : Int32)), .unset]) rfl k) ?_
        refine go _ (T409.setTop (mkF m 96 #[.val (.int p1), .val (.int p2), .val (.int p3), .val (.int (0 : Int32)), .val (.int ((p1 &&& (511 : Int32)) % (257 : Int32))), .val (.int (f_rm1 (p3 &&& (7 : Int32)) p2 ((p1 &&& (511 : Int32)) % (257 : Int32)))), .val (.ref b407), .val (.int (1 : Int32)), .unset] [(.ref b407)])) (fun t k => XS.aload X409.here hx rfl (hb hby at_94) rfl rfl k) ?_
        refine go _ (T409.setTop (mkF m 98 #[.val (.int p1), .val (.int p2), .val (.int p3), .val (.int (0 : Int32)), .val (.int ((p1 &&& (511 : Int32)) % (257 : Int32))), .val (.int (f_rm1 (p3 &&& (7 : Int32)) p2 ((p1 &&& (511 : Int32)) % (257 : Int32)))), .val (.ref b407), .val (.int (1 : Int32)), .unset] [(.int (f_rm1 (p3 &&& (7 : Int32)) p2 ((p1 &&& (511 : Int32)) % (257 : Int32)))), (.ref b407)])) (fun t k => XS.iload X409.here hx rfl (hb hby at_96) rfl k) ?_
        obtain ⟨cq422, kq422, q422a, q422b, q422c⟩ := isOf hZ rfl B411
        obtain ⟨_, _, ⟨T422, L422, k422, n422⟩, -, X422, ⟨Lc422, hQ422, l422, y422, z422⟩, st422⟩ := X409.virtualBack hx (y := (⟨"formlet/input/Buttons", "supportsExtendedFeatures", "(I)Z"⟩ : MethodName)) (z := (⟨"formlet/input/Buttons", "supportsExtendedFeatures", "(I)Z"⟩ : MethodName)) hown (mvT hZ (hw _ (List.mem_of_getElem? (i := 81) rfl))) (mvT hZ (hw _ (List.mem_of_getElem? (i := 82) rfl))) (notFace_of_selects (args := #[]) (mvT hZ (hw _ (List.mem_of_getElem? (i := 84) rfl)))) (mvT hZ (hw _ (List.mem_of_getElem? (i := 84) rfl))) (mvT hZ (hw _ (List.mem_of_getElem? (i := 83) rfl))) (by decide) (backOf (W := 0) (rm9 l Z a0 hw [] b407 (f_rm1 (p3 &&& (7 : Int32)) p2 ((p1 &&& (511 : Int32)) % (257 : Int32))) ck409 (own_k p1) _ T409.heap n0 Z412 Fc409 Aq409) hZ (hw _ (List.mem_of_getElem? (i := 85) rfl)) (hw _ (List.mem_of_getElem? (i := 6) rfl)) (by decide) (by decide)) q422a q422c (g := (mkF m 98 #[.val (.int p1), .val (.int p2), .val (.int p3), .val (.int (0 : Int32)), .val (.int ((p1 &&& (511 : Int32)) % (257 : Int32))), .val (.int (f_rm1 (p3 &&& (7 : Int32)) p2 ((p1 &&& (511 : Int32)) % (257 : Int32)))), .val (.ref b407), .val (.int (1 : Int32)), .unset] [(.int (f_rm1 (p3 &&& (7 : Int32)) p2 ((p1 &&& (511 : Int32)) % (257 : Int32)))), (.ref b407)])) rfl (by rw [hml]; rfl) (Steps.refl _) (argsL := [(.int (f_rm1 (p3 &&& (7 : Int32)) p2 ((p1 &&& (511 : Int32)) % (257 : Int32))))]) (rest := []) (lenOf pd_4 rfl) rfl (by show 2 * 0 + _ ≤ _; exact Nat.le_of_eq rfl) (hb hby at_98) (fun _ _ => ⟨rfl, rfl, (by decide : 14 + 0 ≤ _), (by decide : 1992 + 0 ≤ _)⟩)
        dsimp only [Pt.U, Pt.locs, Pt.cells, Pt.slots] at X422 l422 y422 z422 st422 hQ422
        rw [l422, y422, z422] at X422
        obtain ⟨rfl, Nq422, hh422⟩ := hQ422
        have N423 := Fr.app N410 Nq422
        have X422 : Stand p l e room_1 (s.setVm T409.vm) m _ below meth c T422 _ 14 1992 := X422
        refine go _ (T422.setTop (mkF m 101 #[.val (.int p1), .val (.int p2), .val (.int p3), .val (.int (0 : Int32)), .val (.int ((p1 &&& (511 : Int32)) % (257 : Int32))), .val (.int (f_rm1 (p3 &&& (7 : Int32)) p2 ((p1 &&& (511 : Int32)) % (257 : Int32)))), .val (.ref b407), .val (.int (1 : Int32)), .unset] [(.int (own_sup (f_rm1 (p3 &&& (7 : Int32)) p2 ((p1 &&& (511 : Int32)) % (257 : Int32))) (Int32.ofNat (own_k p1))))])) (fun t k => st422.trans k) ?_
        refine go _ (T422.setTop (mkF m 103 #[.val (.int p1), .val (.int p2), .val (.int p3), .val (.int (0 : Int32)), .val (.int ((p1 &&& (511 : Int32)) % (257 : Int32))), .val (.int (f_rm1 (p3 &&& (7 : Int32)) p2 ((p1 &&& (511 : Int32)) % (257 : Int32)))), .val (.ref b407), .val (.int (1 : Int32)), .val (.int (own_sup (f_rm1 (p3 &&& (7 : Int32)) p2 ((p1 &&& (511 : Int32)) % (257 : Int32))) (Int32.ofNat (own_k p1))))] [])) (fun t k => XS.istore X422.here hx rfl (hb hby at_101) rfl (l' := #[.val (.int p1), .val (.int p2), .val (.int p3), .val (.int (0 : Int32)), .val (.int ((p1 &&& (511 : Int32)) % (257 : Int32))), .val (.int (f_rm1 (p3 &&& (7 : Int32)) p2 ((p1 &&& (511 : Int32)) % (257 : Int32)))), .val (.ref b407), .val (.int (1 : Int32)), .val (.int (own_sup (f_rm1 (p3 &&& (7 : Int32)) p2 ((p1 &&& (511 : Int32)) % (257 : Int32))) (Int32.ofNat (own_k p1))))]) rfl k) ?_
        refine go _ (T422.setTop (mkF m 105 #[.val (.int p1), .val (.int p2), .val (.int p3), .val (.int (0 : Int32)), .val (.int ((p1 &&& (511 : Int32)) % (257 : Int32))), .val (.int (f_rm1 (p3 &&& (7 : Int32)) p2 ((p1 &&& (511 : Int32)) % (257 : Int32)))), .val (.ref b407), .val (.int (1 : Int32)), .val (.int (own_sup (f_rm1 (p3 &&& (7 : Int32)) p2 ((p1 &&& (511 : Int32)) % (257 : Int32))) (Int32.ofNat (own_k p1))))] [(.int (own_sup (f_rm1 (p3 &&& (7 : Int32)) p2 ((p1 &&& (511 : Int32)) % (257 : Int32))) (Int32.ofNat (own_k p1))))])) (fun t k => XS.iload X422.here hx rfl (hb hby at_103) rfl k) ?_
        refine go _ (T422.setTop (mkF m 107 #[.val (.int p1), .val (.int p2), .val (.int p3), .val (.int (0 : Int32)), .val (.int ((p1 &&& (511 : Int32)) % (257 : Int32))), .val (.int (f_rm1 (p3 &&& (7 : Int32)) p2 ((p1 &&& (511 : Int32)) % (257 : Int32)))), .val (.ref b407), .val (.int (1 : Int32)), .val (.int (own_sup (f_rm1 (p3 &&& (7 : Int32)) p2 ((p1 &&& (511 : Int32)) % (257 : Int32))) (Int32.ofNat (own_k p1))))] [(.int (1 : Int32)), (.int (own_sup (f_rm1 (p3 &&& (7 : Int32)) p2 ((p1 &&& (511 : Int32)) % (257 : Int32))) (Int32.ofNat (own_k p1))))])) (fun t k => XS.iload X422.here hx rfl (hb hby at_105) rfl k) ?_
        have hsup : (own_sup (f_rm1 (p3 &&& (7 : Int32)) p2 ((p1 &&& (511 : Int32)) % (257 : Int32))) (Int32.ofNat (own_k p1))) = (1 : Int32) := own_s1 (own_hk p1) hc413 hc421
        have hc424 : ((own_sup (f_rm1 (p3 &&& (7 : Int32)) p2 ((p1 &&& (511 : Int32)) % (257 : Int32))) (Int32.ofNat (own_k p1))) = (1 : Int32)) := hsup
        refine go _ (T422.setTop (mkF m 112 #[.val (.int p1), .val (.int p2), .val (.int p3), .val (.int (0 : Int32)), .val (.int ((p1 &&& (511 : Int32)) % (257 : Int32))), .val (.int (f_rm1 (p3 &&& (7 : Int32)) p2 ((p1 &&& (511 : Int32)) % (257 : Int32)))), .val (.ref b407), .val (.int (1 : Int32)), .val (.int (own_sup (f_rm1 (p3 &&& (7 : Int32)) p2 ((p1 &&& (511 : Int32)) % (257 : Int32))) (Int32.ofNat (own_k p1))))] [])) (fun t k => XS.icmpYes X422.here hx rfl (pc0 := 107) (pc' := 112) rfl (hb hby at_107) rfl (teq hc424).1 (by decide) (by decide) k) ?_
        refine go _ (T422.setTop (mkF m 114 #[.val (.int p1), .val (.int p2), .val (.int p3), .val (.int (0 : Int32)), .val (.int ((p1 &&& (511 : Int32)) % (257 : Int32))), .val (.int (f_rm1 (p3 &&& (7 : Int32)) p2 ((p1 &&& (511 : Int32)) % (257 : Int32)))), .val (.ref b407), .val (.int (1 : Int32)), .val (.int (own_sup (f_rm1 (p3 &&& (7 : Int32)) p2 ((p1 &&& (511 : Int32)) % (257 : Int32))) (Int32.ofNat (own_k p1))))] [(.int (1 : Int32))])) (fun t k => XS.iload X422.here hx rfl (hb hby at_112) rfl k) ?_
        have hc425 : ¬ ((1 : Int32) = (0 : Int32)) := by decide
        refine go _ (T422.setTop (mkF m 117 #[.val (.int p1), .val (.int p2), .val (.int p3), .val (.int (0 : Int32)), .val (.int ((p1 &&& (511 : Int32)) % (257 : Int32))), .val (.int (f_rm1 (p3 &&& (7 : Int32)) p2 ((p1 &&& (511 : Int32)) % (257 : Int32)))), .val (.ref b407), .val (.int (1 : Int32)), .val (.int (own_sup (f_rm1 (p3 &&& (7 : Int32)) p2 ((p1 &&& (511 : Int32)) % (257 : Int32))) (Int32.ofNat (own_k p1))))] [])) (fun t k => XS.ifNo X422.here hx rfl (hb hby at_114) rfl ((if0 _ _).trans (feq hc425).1) k) ?_
        refine go _ (T422.setTop (mkF m 119 #[.val (.int p1), .val (.int p2), .val (.int p3), .val (.int (0 : Int32)), .val (.int ((p1 &&& (511 : Int32)) % (257 : Int32))), .val (.int (f_rm1 (p3 &&& (7 : Int32)) p2 ((p1 &&& (511 : Int32)) % (257 : Int32)))), .val (.ref b407), .val (.int (1 : Int32)), .val (.int (own_sup (f_rm1 (p3 &&& (7 : Int32)) p2 ((p1 &&& (511 : Int32)) % (257 : Int32))) (Int32.ofNat (own_k p1))))] [(.ref b407)])) (fun t k => XS.aload X422.here hx rfl (hb hby at_117) rfl rfl k) ?_
        refine go _ (T422.setTop (mkF m 120 #[.val (.int p1), .val (.int p2), .val (.int p3), .val (.int (0 : Int32)), .val (.int ((p1 &&& (511 : Int32)) % (257 : Int32))), .val (.int (f_rm1 (p3 &&& (7 : Int32)) p2 ((p1 &&& (511 : Int32)) % (257 : Int32)))), .val (.ref b407), .val (.int (1 : Int32)), .val (.int (own_sup (f_rm1 (p3 &&& (7 : Int32)) p2 ((p1 &&& (511 : Int32)) % (257 : Int32))) (Int32.ofNat (own_k p1))))] [(.int (1 : Int32)), (.ref b407)])) (fun t k => XS.iconst X422.here hx rfl (hb hby at_119) k) ?_
        refine go _ (T422.setTop (mkF m 122 #[.val (.int p1), .val (.int p2), .val (.int p3), .val (.int (0 : Int32)), .val (.int ((p1 &&& (511 : Int32)) % (257 : Int32))), .val (.int (f_rm1 (p3 &&& (7 : Int32)) p2 ((p1 &&& (511 : Int32)) % (257 : Int32)))), .val (.ref b407), .val (.int (1 : Int32)), .val (.int (own_sup (f_rm1 (p3 &&& (7 : Int32)) p2 ((p1 &&& (511 : Int32)) % (257 : Int32))) (Int32.ofNat (own_k p1))))] [(.int (f_rm1 (p3 &&& (7 : Int32)) p2 ((p1 &&& (511 : Int32)) % (257 : Int32)))), (.int (1 : Int32)), (.ref b407)])) (fun t k => XS.iload X422.here hx rfl (hb hby at_120) rfl k) ?_
        obtain ⟨i, hj, hi⟩ := own_i (own_hk p1) hc413 hc421
        have hs1 : ¬ (own_sup (f_rm1 (p3 &&& (7 : Int32)) p2 ((p1 &&& (511 : Int32)) % (257 : Int32))) (Int32.ofNat (own_k p1)) = (0 : Int32)) := by rw [hsup]; decide
        obtain ⟨cq426, kq426, q426a, q426b, q426c⟩ := isOf hZ hh422 B411
        obtain ⟨_, _, ⟨T426, L426, k426, n426⟩, -, X426, ⟨Lc426, hQ426, l426, y426, z426⟩, st426⟩ := X422.virtualBack hx (y := (⟨"formlet/input/Buttons", "enableClick", "(ZI)V"⟩ : MethodName)) (z := (⟨"formlet/input/Buttons", "enableClick", "(ZI)V"⟩ : MethodName)) hown (mvT hZ (hw _ (List.mem_of_getElem? (i := 96) rfl))) (mvT hZ (hw _ (List.mem_of_getElem? (i := 97) rfl))) (notFace_of_selects (args := #[]) (mvT hZ (hw _ (List.mem_of_getElem? (i := 99) rfl)))) (mvT hZ (hw _ (List.mem_of_getElem? (i := 99) rfl))) (mvT hZ (hw _ (List.mem_of_getElem? (i := 98) rfl))) (by decide) (backOfWith (W := 0) (rm12 l Z a0 hw [] b407 (1 : Int32) (f_rm1 (p3 &&& (7 : Int32)) p2 ((p1 &&& (511 : Int32)) % (257 : Int32))) ck409 (own_k p1) _ lk409 i T409.heap n0 Z412 B411 Fc409 Aq409 Fl409 Uq409 nk409 ne_b407_ck409 ge_ck409 (by decide) (by decide) hs1 hj hi) hZ (hw _ (List.mem_of_getElem? (i := 100) rfl)) (hw _ (List.mem_of_getElem? (i := 6) rfl)) (by decide) (by decide)) q426a q426c (g := (mkF m 122 #[.val (.int p1), .val (.int p2), .val (.int p3), .val (.int (0 : Int32)), .val (.int ((p1 &&& (511 : Int32)) % (257 : Int32))), .val (.int (f_rm1 (p3 &&& (7 : Int32)) p2 ((p1 &&& (511 : Int32)) % (257 : Int32)))), .val (.ref b407), .val (.int (1 : Int32)), .val (.int (own_sup (f_rm1 (p3 &&& (7 : Int32)) p2 ((p1 &&& (511 : Int32)) % (257 : Int32))) (Int32.ofNat (own_k p1))))] [(.int (f_rm1 (p3 &&& (7 : Int32)) p2 ((p1 &&& (511 : Int32)) % (257 : Int32)))), (.int (1 : Int32)), (.ref b407)])) rfl (by rw [hml]; rfl) (Steps.refl _) (argsL := [(.int (1 : Int32)), (.int (f_rm1 (p3 &&& (7 : Int32)) p2 ((p1 &&& (511 : Int32)) % (257 : Int32))))]) (rest := []) (lenOf pd_3 rfl) rfl (by show 2 * 0 + _ ≤ _; exact Nat.le_of_eq rfl) (hb hby at_122) (fun _ _ => ⟨rfl, hh422, (by decide : 14 + 0 ≤ _), (by decide : 1992 + 0 ≤ _)⟩)
        dsimp only [Pt.U, Pt.locs, Pt.cells, Pt.slots] at X426 l426 y426 z426 st426 hQ426
        rw [l426, y426, z426] at X426
        obtain ⟨rfl, Nq426, Kq426, Aq426⟩ := hQ426
        have N427 := Fr.app N423 Nq426
        have X426 : Stand p l e room_1 (s.setVm T409.vm) m _ below meth c T426 _ 14 1992 := X426
        have Z428 : n0 ≤ T426.heap.size := Nat.le_trans Z412 Kq426.1
        have M429 : nS ≤ T426.heap.size := Nat.le_trans MS0 Kq426.1
        have B430 := B411.keep Kq426
        have U431 := Uq409.keep Kq426 (ninS nk409 nin0)
        have F432 := Fl409.keep Kq426 (ninS ne_b407_ck409 nin0)
        have F433 := Fc409.keep Kq426 (ninS ne_b407_ck409 nin0)
        refine go _ (T426.setTop (mkF m 125 #[.val (.int p1), .val (.int p2), .val (.int p3), .val (.int (0 : Int32)), .val (.int ((p1 &&& (511 : Int32)) % (257 : Int32))), .val (.int (f_rm1 (p3 &&& (7 : Int32)) p2 ((p1 &&& (511 : Int32)) % (257 : Int32)))), .val (.ref b407), .val (.int (1 : Int32)), .val (.int (own_sup (f_rm1 (p3 &&& (7 : Int32)) p2 ((p1 &&& (511 : Int32)) % (257 : Int32))) (Int32.ofNat (own_k p1))))] [])) (fun t k => st426.trans k) ?_
        refine go _ (T426.setTop (mkF m 127 #[.val (.int p1), .val (.int p2), .val (.int p3), .val (.int (0 : Int32)), .val (.int ((p1 &&& (511 : Int32)) % (257 : Int32))), .val (.int (f_rm1 (p3 &&& (7 : Int32)) p2 ((p1 &&& (511 : Int32)) % (257 : Int32)))), .val (.ref b407), .val (.int (1 : Int32)), .val (.int (own_sup (f_rm1 (p3 &&& (7 : Int32)) p2 ((p1 &&& (511 : Int32)) % (257 : Int32))) (Int32.ofNat (own_k p1))))] [(.ref b407)])) (fun t k => XS.aload X426.here hx rfl (hb hby at_125) rfl rfl k) ?_
        refine go _ (T426.setTop (mkF m 129 #[.val (.int p1), .val (.int p2), .val (.int p3), .val (.int (0 : Int32)), .val (.int ((p1 &&& (511 : Int32)) % (257 : Int32))), .val (.int (f_rm1 (p3 &&& (7 : Int32)) p2 ((p1 &&& (511 : Int32)) % (257 : Int32)))), .val (.ref b407), .val (.int (1 : Int32)), .val (.int (own_sup (f_rm1 (p3 &&& (7 : Int32)) p2 ((p1 &&& (511 : Int32)) % (257 : Int32))) (Int32.ofNat (own_k p1))))] [(.int (f_rm1 (p3 &&& (7 : Int32)) p2 ((p1 &&& (511 : Int32)) % (257 : Int32)))), (.ref b407)])) (fun t k => XS.iload X426.here hx rfl (hb hby at_127) rfl k) ?_
        obtain ⟨cq434, kq434, q434a, q434b, q434c⟩ := isOf hZ rfl B430
        obtain ⟨_, _, ⟨T434, L434, k434, n434⟩, -, X434, ⟨Lc434, hQ434, l434, y434, z434⟩, st434⟩ := X426.virtualBack hx (y := (⟨"formlet/input/Buttons", "clickEnabled", "(I)Z"⟩ : MethodName)) (z := (⟨"formlet/input/Buttons", "clickEnabled", "(I)Z"⟩ : MethodName)) hown (mvT hZ (hw _ (List.mem_of_getElem? (i := 86) rfl))) (mvT hZ (hw _ (List.mem_of_getElem? (i := 87) rfl))) (notFace_of_selects (args := #[]) (mvT hZ (hw _ (List.mem_of_getElem? (i := 89) rfl)))) (mvT hZ (hw _ (List.mem_of_getElem? (i := 89) rfl))) (mvT hZ (hw _ (List.mem_of_getElem? (i := 88) rfl))) (by decide) (backOfWith (W := 0) (rm10y l Z a0 hw [] b407 (f_rm1 (p3 &&& (7 : Int32)) p2 ((p1 &&& (511 : Int32)) % (257 : Int32))) ck409 (own_k p1) _ lk409 i (1 : Int32) T426.heap n0 Z428 B430 F433 Aq426 F432 U431 nk409 ne_b407_ck409 hs1 hj hi (own_hit _ _ _) (by decide)) hZ (hw _ (List.mem_of_getElem? (i := 90) rfl)) (hw _ (List.mem_of_getElem? (i := 6) rfl)) (by decide) (by decide)) q434a q434c (g := (mkF m 129 #[.val (.int p1), .val (.int p2), .val (.int p3), .val (.int (0 : Int32)), .val (.int ((p1 &&& (511 : Int32)) % (257 : Int32))), .val (.int (f_rm1 (p3 &&& (7 : Int32)) p2 ((p1 &&& (511 : Int32)) % (257 : Int32)))), .val (.ref b407), .val (.int (1 : Int32)), .val (.int (own_sup (f_rm1 (p3 &&& (7 : Int32)) p2 ((p1 &&& (511 : Int32)) % (257 : Int32))) (Int32.ofNat (own_k p1))))] [(.int (f_rm1 (p3 &&& (7 : Int32)) p2 ((p1 &&& (511 : Int32)) % (257 : Int32)))), (.ref b407)])) rfl (by rw [hml]; rfl) (Steps.refl _) (argsL := [(.int (f_rm1 (p3 &&& (7 : Int32)) p2 ((p1 &&& (511 : Int32)) % (257 : Int32))))]) (rest := []) (lenOf pd_4 rfl) rfl (by show 2 * 0 + _ ≤ _; exact Nat.le_of_eq rfl) (hb hby at_129) (fun _ _ => ⟨rfl, rfl, (by decide : 14 + 0 ≤ _), (by decide : 1992 + 0 ≤ _)⟩)
        dsimp only [Pt.U, Pt.locs, Pt.cells, Pt.slots] at X434 l434 y434 z434 st434 hQ434
        rw [l434, y434, z434] at X434
        obtain ⟨rfl, Nq434, hh434⟩ := hQ434
        have N435 := Fr.app N427 Nq434
        have X434 : Stand p l e room_1 (s.setVm T409.vm) m _ below meth c T434 _ 14 1992 := X434
        refine go _ (T434.setTop (mkF m 132 #[.val (.int p1), .val (.int p2), .val (.int p3), .val (.int (0 : Int32)), .val (.int ((p1 &&& (511 : Int32)) % (257 : Int32))), .val (.int (f_rm1 (p3 &&& (7 : Int32)) p2 ((p1 &&& (511 : Int32)) % (257 : Int32)))), .val (.ref b407), .val (.int (1 : Int32)), .val (.int (own_sup (f_rm1 (p3 &&& (7 : Int32)) p2 ((p1 &&& (511 : Int32)) % (257 : Int32))) (Int32.ofNat (own_k p1))))] [(.int (1 : Int32))])) (fun t k => st434.trans k) ?_
        exact fin (some (.int (1 : Int32))) X434 hS (by rw [hh434]; exact M429) (by decide) (by decide) (fun q => by cases q) (show Q_rm0 Z p1 p2 p3 h0 n0 _ T434.heap _ from (by rw [hh434]; exact ⟨rfl, N435⟩)) (fun fs hr => retN X434 hx (t := .boolean) hret (by simp) (hb hby at_132) hr)
      · refine go _ (T409.setTop (mkF m 91 #[.val (.int p1), .val (.int p2), .val (.int p3), .val (.int (0 : Int32)), .val (.int ((p1 &&& (511 : Int32)) % (257 : Int32))), .val (.int (f_rm1 (p3 &&& (7 : Int32)) p2 ((p1 &&& (511 : Int32)) % (257 : Int32)))), .val (.ref b407), .unset, .unset] [])) (fun t k => XS.ifYes X409.here hx rfl (pc0 := 84) (pc' := 91) rfl (hb hby at_84) rfl ((if0 _ _).trans (flt (fun q => hc421 ((lw_lt ((f_rm1 (p3 &&& (7 : Int32)) p2 ((p1 &&& (511 : Int32)) % (257 : Int32))).toInt64) (((p1 &&& (511 : Int32)) % (257 : Int32)).toInt64)).mp q))).2.1) (by decide) (by decide) k) ?_
        refine go _ (T409.setTop (mkF m 92 #[.val (.int p1), .val (.int p2), .val (.int p3), .val (.int (0 : Int32)), .val (.int ((p1 &&& (511 : Int32)) % (257 : Int32))), .val (.int (f_rm1 (p3 &&& (7 : Int32)) p2 ((p1 &&& (511 : Int32)) % (257 : Int32)))), .val (.ref b407), .unset, .unset] [(.int (0 : Int32))])) (fun t k => XS.iconst X409.here hx rfl (hb hby at_91) k) ?_
        refine go _ (T409.setTop (mkF m 94 #[.val (.int p1), .val (.int p2), .val (.int p3), .val (.int (0 : Int32)), .val (.int ((p1 &&& (511 : Int32)) % (257 : Int32))), .val (.int (f_rm1 (p3 &&& (7 : Int32)) p2 ((p1 &&& (511 : Int32)) % (257 : Int32)))), .val (.ref b407), .val (.int (0 : Int32)), .unset] [])) (fun t k => XS.istore X409.here hx rfl (hb hby at_92) rfl (l' := #[.val (.int p1), .val (.int p2), .val (.int p3), .val (.int (0 : Int32)), .val (.int ((p1 &&& (511 : Int32)) % (257 : Int32))), .val (.int (f_rm1 (p3 &&& (7 : Int32)) p2 ((p1 &&& (511 : Int32)) % (257 : Int32)))), .val (.ref b407), .val (.int (0 : Int32)), .unset]) rfl k) ?_
        refine go _ (T409.setTop (mkF m 96 #[.val (.int p1), .val (.int p2), .val (.int p3), .val (.int (0 : Int32)), .val (.int ((p1 &&& (511 : Int32)) % (257 : Int32))), .val (.int (f_rm1 (p3 &&& (7 : Int32)) p2 ((p1 &&& (511 : Int32)) % (257 : Int32)))), .val (.ref b407), .val (.int (0 : Int32)), .unset] [(.ref b407)])) (fun t k => XS.aload X409.here hx rfl (hb hby at_94) rfl rfl k) ?_
        refine go _ (T409.setTop (mkF m 98 #[.val (.int p1), .val (.int p2), .val (.int p3), .val (.int (0 : Int32)), .val (.int ((p1 &&& (511 : Int32)) % (257 : Int32))), .val (.int (f_rm1 (p3 &&& (7 : Int32)) p2 ((p1 &&& (511 : Int32)) % (257 : Int32)))), .val (.ref b407), .val (.int (0 : Int32)), .unset] [(.int (f_rm1 (p3 &&& (7 : Int32)) p2 ((p1 &&& (511 : Int32)) % (257 : Int32)))), (.ref b407)])) (fun t k => XS.iload X409.here hx rfl (hb hby at_96) rfl k) ?_
        obtain ⟨cq436, kq436, q436a, q436b, q436c⟩ := isOf hZ rfl B411
        obtain ⟨_, _, ⟨T436, L436, k436, n436⟩, -, X436, ⟨Lc436, hQ436, l436, y436, z436⟩, st436⟩ := X409.virtualBack hx (y := (⟨"formlet/input/Buttons", "supportsExtendedFeatures", "(I)Z"⟩ : MethodName)) (z := (⟨"formlet/input/Buttons", "supportsExtendedFeatures", "(I)Z"⟩ : MethodName)) hown (mvT hZ (hw _ (List.mem_of_getElem? (i := 81) rfl))) (mvT hZ (hw _ (List.mem_of_getElem? (i := 82) rfl))) (notFace_of_selects (args := #[]) (mvT hZ (hw _ (List.mem_of_getElem? (i := 84) rfl)))) (mvT hZ (hw _ (List.mem_of_getElem? (i := 84) rfl))) (mvT hZ (hw _ (List.mem_of_getElem? (i := 83) rfl))) (by decide) (backOf (W := 0) (rm9 l Z a0 hw [] b407 (f_rm1 (p3 &&& (7 : Int32)) p2 ((p1 &&& (511 : Int32)) % (257 : Int32))) ck409 (own_k p1) _ T409.heap n0 Z412 Fc409 Aq409) hZ (hw _ (List.mem_of_getElem? (i := 85) rfl)) (hw _ (List.mem_of_getElem? (i := 6) rfl)) (by decide) (by decide)) q436a q436c (g := (mkF m 98 #[.val (.int p1), .val (.int p2), .val (.int p3), .val (.int (0 : Int32)), .val (.int ((p1 &&& (511 : Int32)) % (257 : Int32))), .val (.int (f_rm1 (p3 &&& (7 : Int32)) p2 ((p1 &&& (511 : Int32)) % (257 : Int32)))), .val (.ref b407), .val (.int (0 : Int32)), .unset] [(.int (f_rm1 (p3 &&& (7 : Int32)) p2 ((p1 &&& (511 : Int32)) % (257 : Int32)))), (.ref b407)])) rfl (by rw [hml]; rfl) (Steps.refl _) (argsL := [(.int (f_rm1 (p3 &&& (7 : Int32)) p2 ((p1 &&& (511 : Int32)) % (257 : Int32))))]) (rest := []) (lenOf pd_4 rfl) rfl (by show 2 * 0 + _ ≤ _; exact Nat.le_of_eq rfl) (hb hby at_98) (fun _ _ => ⟨rfl, rfl, (by decide : 14 + 0 ≤ _), (by decide : 1992 + 0 ≤ _)⟩)
        dsimp only [Pt.U, Pt.locs, Pt.cells, Pt.slots] at X436 l436 y436 z436 st436 hQ436
        rw [l436, y436, z436] at X436
        obtain ⟨rfl, Nq436, hh436⟩ := hQ436
        have N437 := Fr.app N410 Nq436
        have X436 : Stand p l e room_1 (s.setVm T409.vm) m _ below meth c T436 _ 14 1992 := X436
        refine go _ (T436.setTop (mkF m 101 #[.val (.int p1), .val (.int p2), .val (.int p3), .val (.int (0 : Int32)), .val (.int ((p1 &&& (511 : Int32)) % (257 : Int32))), .val (.int (f_rm1 (p3 &&& (7 : Int32)) p2 ((p1 &&& (511 : Int32)) % (257 : Int32)))), .val (.ref b407), .val (.int (0 : Int32)), .unset] [(.int (own_sup (f_rm1 (p3 &&& (7 : Int32)) p2 ((p1 &&& (511 : Int32)) % (257 : Int32))) (Int32.ofNat (own_k p1))))])) (fun t k => st436.trans k) ?_
        refine go _ (T436.setTop (mkF m 103 #[.val (.int p1), .val (.int p2), .val (.int p3), .val (.int (0 : Int32)), .val (.int ((p1 &&& (511 : Int32)) % (257 : Int32))), .val (.int (f_rm1 (p3 &&& (7 : Int32)) p2 ((p1 &&& (511 : Int32)) % (257 : Int32)))), .val (.ref b407), .val (.int (0 : Int32)), .val (.int (own_sup (f_rm1 (p3 &&& (7 : Int32)) p2 ((p1 &&& (511 : Int32)) % (257 : Int32))) (Int32.ofNat (own_k p1))))] [])) (fun t k => XS.istore X436.here hx rfl (hb hby at_101) rfl (l' := #[.val (.int p1), .val (.int p2), .val (.int p3), .val (.int (0 : Int32)), .val (.int ((p1 &&& (511 : Int32)) % (257 : Int32))), .val (.int (f_rm1 (p3 &&& (7 : Int32)) p2 ((p1 &&& (511 : Int32)) % (257 : Int32)))), .val (.ref b407), .val (.int (0 : Int32)), .val (.int (own_sup (f_rm1 (p3 &&& (7 : Int32)) p2 ((p1 &&& (511 : Int32)) % (257 : Int32))) (Int32.ofNat (own_k p1))))]) rfl k) ?_
        refine go _ (T436.setTop (mkF m 105 #[.val (.int p1), .val (.int p2), .val (.int p3), .val (.int (0 : Int32)), .val (.int ((p1 &&& (511 : Int32)) % (257 : Int32))), .val (.int (f_rm1 (p3 &&& (7 : Int32)) p2 ((p1 &&& (511 : Int32)) % (257 : Int32)))), .val (.ref b407), .val (.int (0 : Int32)), .val (.int (own_sup (f_rm1 (p3 &&& (7 : Int32)) p2 ((p1 &&& (511 : Int32)) % (257 : Int32))) (Int32.ofNat (own_k p1))))] [(.int (own_sup (f_rm1 (p3 &&& (7 : Int32)) p2 ((p1 &&& (511 : Int32)) % (257 : Int32))) (Int32.ofNat (own_k p1))))])) (fun t k => XS.iload X436.here hx rfl (hb hby at_103) rfl k) ?_
        refine go _ (T436.setTop (mkF m 107 #[.val (.int p1), .val (.int p2), .val (.int p3), .val (.int (0 : Int32)), .val (.int ((p1 &&& (511 : Int32)) % (257 : Int32))), .val (.int (f_rm1 (p3 &&& (7 : Int32)) p2 ((p1 &&& (511 : Int32)) % (257 : Int32)))), .val (.ref b407), .val (.int (0 : Int32)), .val (.int (own_sup (f_rm1 (p3 &&& (7 : Int32)) p2 ((p1 &&& (511 : Int32)) % (257 : Int32))) (Int32.ofNat (own_k p1))))] [(.int (0 : Int32)), (.int (own_sup (f_rm1 (p3 &&& (7 : Int32)) p2 ((p1 &&& (511 : Int32)) % (257 : Int32))) (Int32.ofNat (own_k p1))))])) (fun t k => XS.iload X436.here hx rfl (hb hby at_105) rfl k) ?_
        have hsup : (own_sup (f_rm1 (p3 &&& (7 : Int32)) p2 ((p1 &&& (511 : Int32)) % (257 : Int32))) (Int32.ofNat (own_k p1))) = (0 : Int32) := own_s0b (own_hk p1) hc421
        have hc438 : ((own_sup (f_rm1 (p3 &&& (7 : Int32)) p2 ((p1 &&& (511 : Int32)) % (257 : Int32))) (Int32.ofNat (own_k p1))) = (0 : Int32)) := hsup
        refine go _ (T436.setTop (mkF m 112 #[.val (.int p1), .val (.int p2), .val (.int p3), .val (.int (0 : Int32)), .val (.int ((p1 &&& (511 : Int32)) % (257 : Int32))), .val (.int (f_rm1 (p3 &&& (7 : Int32)) p2 ((p1 &&& (511 : Int32)) % (257 : Int32)))), .val (.ref b407), .val (.int (0 : Int32)), .val (.int (own_sup (f_rm1 (p3 &&& (7 : Int32)) p2 ((p1 &&& (511 : Int32)) % (257 : Int32))) (Int32.ofNat (own_k p1))))] [])) (fun t k => XS.icmpYes X436.here hx rfl (pc0 := 107) (pc' := 112) rfl (hb hby at_107) rfl (teq hc438).1 (by decide) (by decide) k) ?_
        refine go _ (T436.setTop (mkF m 114 #[.val (.int p1), .val (.int p2), .val (.int p3), .val (.int (0 : Int32)), .val (.int ((p1 &&& (511 : Int32)) % (257 : Int32))), .val (.int (f_rm1 (p3 &&& (7 : Int32)) p2 ((p1 &&& (511 : Int32)) % (257 : Int32)))), .val (.ref b407), .val (.int (0 : Int32)), .val (.int (own_sup (f_rm1 (p3 &&& (7 : Int32)) p2 ((p1 &&& (511 : Int32)) % (257 : Int32))) (Int32.ofNat (own_k p1))))] [(.int (0 : Int32))])) (fun t k => XS.iload X436.here hx rfl (hb hby at_112) rfl k) ?_
        have hc439 : ((0 : Int32) = (0 : Int32)) := by decide
        refine go _ (T436.setTop (mkF m 133 #[.val (.int p1), .val (.int p2), .val (.int p3), .val (.int (0 : Int32)), .val (.int ((p1 &&& (511 : Int32)) % (257 : Int32))), .val (.int (f_rm1 (p3 &&& (7 : Int32)) p2 ((p1 &&& (511 : Int32)) % (257 : Int32)))), .val (.ref b407), .val (.int (0 : Int32)), .val (.int (own_sup (f_rm1 (p3 &&& (7 : Int32)) p2 ((p1 &&& (511 : Int32)) % (257 : Int32))) (Int32.ofNat (own_k p1))))] [])) (fun t k => XS.ifYes X436.here hx rfl (pc0 := 114) (pc' := 133) rfl (hb hby at_114) rfl ((if0 _ _).trans (teq hc439).1) (by decide) (by decide) k) ?_
        refine go _ (T436.setTop (mkF m 135 #[.val (.int p1), .val (.int p2), .val (.int p3), .val (.int (0 : Int32)), .val (.int ((p1 &&& (511 : Int32)) % (257 : Int32))), .val (.int (f_rm1 (p3 &&& (7 : Int32)) p2 ((p1 &&& (511 : Int32)) % (257 : Int32)))), .val (.ref b407), .val (.int (0 : Int32)), .val (.int (own_sup (f_rm1 (p3 &&& (7 : Int32)) p2 ((p1 &&& (511 : Int32)) % (257 : Int32))) (Int32.ofNat (own_k p1))))] [(.ref b407)])) (fun t k => XS.aload X436.here hx rfl (hb hby at_133) rfl rfl k) ?_
        refine go _ (T436.setTop (mkF m 137 #[.val (.int p1), .val (.int p2), .val (.int p3), .val (.int (0 : Int32)), .val (.int ((p1 &&& (511 : Int32)) % (257 : Int32))), .val (.int (f_rm1 (p3 &&& (7 : Int32)) p2 ((p1 &&& (511 : Int32)) % (257 : Int32)))), .val (.ref b407), .val (.int (0 : Int32)), .val (.int (own_sup (f_rm1 (p3 &&& (7 : Int32)) p2 ((p1 &&& (511 : Int32)) % (257 : Int32))) (Int32.ofNat (own_k p1))))] [(.int (f_rm1 (p3 &&& (7 : Int32)) p2 ((p1 &&& (511 : Int32)) % (257 : Int32)))), (.ref b407)])) (fun t k => XS.iload X436.here hx rfl (hb hby at_135) rfl k) ?_
        obtain ⟨cq440, kq440, q440a, q440b, q440c⟩ := isOf hZ hh436 B411
        obtain ⟨_, _, ⟨T440, L440, k440, n440⟩, -, X440, ⟨Lc440, hQ440, l440, y440, z440⟩, st440⟩ := X436.virtualBack hx (y := (⟨"formlet/input/Buttons", "clickEnabled", "(I)Z"⟩ : MethodName)) (z := (⟨"formlet/input/Buttons", "clickEnabled", "(I)Z"⟩ : MethodName)) hown (mvT hZ (hw _ (List.mem_of_getElem? (i := 86) rfl))) (mvT hZ (hw _ (List.mem_of_getElem? (i := 87) rfl))) (notFace_of_selects (args := #[]) (mvT hZ (hw _ (List.mem_of_getElem? (i := 89) rfl)))) (mvT hZ (hw _ (List.mem_of_getElem? (i := 89) rfl))) (mvT hZ (hw _ (List.mem_of_getElem? (i := 88) rfl))) (by decide) (backOfWith (W := 0) (rm10n l Z a0 hw [] b407 (f_rm1 (p3 &&& (7 : Int32)) p2 ((p1 &&& (511 : Int32)) % (257 : Int32))) ck409 (own_k p1) _ T409.heap n0 Z412 B411 Fc409 Aq409 hsup) hZ (hw _ (List.mem_of_getElem? (i := 90) rfl)) (hw _ (List.mem_of_getElem? (i := 6) rfl)) (by decide) (by decide)) q440a q440c (g := (mkF m 137 #[.val (.int p1), .val (.int p2), .val (.int p3), .val (.int (0 : Int32)), .val (.int ((p1 &&& (511 : Int32)) % (257 : Int32))), .val (.int (f_rm1 (p3 &&& (7 : Int32)) p2 ((p1 &&& (511 : Int32)) % (257 : Int32)))), .val (.ref b407), .val (.int (0 : Int32)), .val (.int (own_sup (f_rm1 (p3 &&& (7 : Int32)) p2 ((p1 &&& (511 : Int32)) % (257 : Int32))) (Int32.ofNat (own_k p1))))] [(.int (f_rm1 (p3 &&& (7 : Int32)) p2 ((p1 &&& (511 : Int32)) % (257 : Int32)))), (.ref b407)])) rfl (by rw [hml]; rfl) (Steps.refl _) (argsL := [(.int (f_rm1 (p3 &&& (7 : Int32)) p2 ((p1 &&& (511 : Int32)) % (257 : Int32))))]) (rest := []) (lenOf pd_4 rfl) rfl (by show 2 * 0 + _ ≤ _; exact Nat.le_of_eq rfl) (hb hby at_137) (fun _ _ => ⟨rfl, hh436, (by decide : 14 + 0 ≤ _), (by decide : 1992 + 0 ≤ _)⟩)
        dsimp only [Pt.U, Pt.locs, Pt.cells, Pt.slots] at X440 l440 y440 z440 st440 hQ440
        rw [l440, y440, z440] at X440
        obtain ⟨rfl, Nq440, hh440⟩ := hQ440
        have N441 := Fr.app N437 Nq440
        have X440 : Stand p l e room_1 (s.setVm T409.vm) m _ below meth c T440 _ 14 1992 := X440
        refine go _ (T440.setTop (mkF m 140 #[.val (.int p1), .val (.int p2), .val (.int p3), .val (.int (0 : Int32)), .val (.int ((p1 &&& (511 : Int32)) % (257 : Int32))), .val (.int (f_rm1 (p3 &&& (7 : Int32)) p2 ((p1 &&& (511 : Int32)) % (257 : Int32)))), .val (.ref b407), .val (.int (0 : Int32)), .val (.int (own_sup (f_rm1 (p3 &&& (7 : Int32)) p2 ((p1 &&& (511 : Int32)) % (257 : Int32))) (Int32.ofNat (own_k p1))))] [(.int (0 : Int32))])) (fun t k => st440.trans k) ?_
        have hc442 : ((0 : Int32) = (0 : Int32)) := by decide
        refine go _ (T440.setTop (mkF m 143 #[.val (.int p1), .val (.int p2), .val (.int p3), .val (.int (0 : Int32)), .val (.int ((p1 &&& (511 : Int32)) % (257 : Int32))), .val (.int (f_rm1 (p3 &&& (7 : Int32)) p2 ((p1 &&& (511 : Int32)) % (257 : Int32)))), .val (.ref b407), .val (.int (0 : Int32)), .val (.int (own_sup (f_rm1 (p3 &&& (7 : Int32)) p2 ((p1 &&& (511 : Int32)) % (257 : Int32))) (Int32.ofNat (own_k p1))))] [])) (fun t k => XS.ifNo X440.here hx rfl (hb hby at_140) rfl ((if0 _ _).trans (teq hc442).2) k) ?_
        refine go _ (T440.setTop (mkF m 144 #[.val (.int p1), .val (.int p2), .val (.int p3), .val (.int (0 : Int32)), .val (.int ((p1 &&& (511 : Int32)) % (257 : Int32))), .val (.int (f_rm1 (p3 &&& (7 : Int32)) p2 ((p1 &&& (511 : Int32)) % (257 : Int32)))), .val (.ref b407), .val (.int (0 : Int32)), .val (.int (own_sup (f_rm1 (p3 &&& (7 : Int32)) p2 ((p1 &&& (511 : Int32)) % (257 : Int32))) (Int32.ofNat (own_k p1))))] [(.int (1 : Int32))])) (fun t k => XS.iconst X440.here hx rfl (hb hby at_143) k) ?_
        refine go _ (T440.setTop (mkF m 148 #[.val (.int p1), .val (.int p2), .val (.int p3), .val (.int (0 : Int32)), .val (.int ((p1 &&& (511 : Int32)) % (257 : Int32))), .val (.int (f_rm1 (p3 &&& (7 : Int32)) p2 ((p1 &&& (511 : Int32)) % (257 : Int32)))), .val (.ref b407), .val (.int (0 : Int32)), .val (.int (own_sup (f_rm1 (p3 &&& (7 : Int32)) p2 ((p1 &&& (511 : Int32)) % (257 : Int32))) (Int32.ofNat (own_k p1))))] [(.int (1 : Int32))])) (fun t k => XS.goto X440.here hx rfl (pc0 := 144) (pc' := 148) rfl (hb hby at_144) (by decide) (by decide) k) ?_
        exact fin (some (.int (1 : Int32))) X440 hS (by rw [hh440]; exact MS0) (by decide) (by decide) (fun q => by cases q) (show Q_rm0 Z p1 p2 p3 h0 n0 _ T440.heap _ from (by rw [hh440]; exact ⟨rfl, N441⟩)) (fun fs hr => retN X440 hx (t := .boolean) hret (by simp) (hb hby at_148) hr)
  · refine go _ (s₁.setTop (mkF m 7 #[.val (.int p1), .val (.int p2), .val (.int p3), .unset, .unset, .unset, .unset, .unset, .unset] [])) (fun t k => XS.ifNo X0.here hx rfl (hb hby at_4) rfl ((if0 _ _).trans (feq hc402).1) k) ?_
    refine go _ (s₁.setTop (mkF m 8 #[.val (.int p1), .val (.int p2), .val (.int p3), .unset, .unset, .unset, .unset, .unset, .unset] [(.int (1 : Int32))])) (fun t k => XS.iconst X0.here hx rfl (hb hby at_7) k) ?_
    refine go _ (s₁.setTop (mkF m 12 #[.val (.int p1), .val (.int p2), .val (.int p3), .unset, .unset, .unset, .unset, .unset, .unset] [(.int (1 : Int32))])) (fun t k => XS.goto X0.here hx rfl (pc0 := 8) (pc' := 12) rfl (hb hby at_8) (by decide) (by decide) k) ?_
    refine go _ (s₁.setTop (mkF m 13 #[.val (.int p1), .val (.int p2), .val (.int p3), .val (.int (1 : Int32)), .unset, .unset, .unset, .unset, .unset] [])) (fun t k => XS.istoreN X0.here hx rfl (hb hby at_12) rfl (l' := #[.val (.int p1), .val (.int p2), .val (.int p3), .val (.int (1 : Int32)), .unset, .unset, .unset, .unset, .unset]) rfl k) ?_
    refine go _ (s₁.setTop (mkF m 14 #[.val (.int p1), .val (.int p2), .val (.int p3), .val (.int (1 : Int32)), .unset, .unset, .unset, .unset, .unset] [(.int (1 : Int32))])) (fun t k => XS.iloadN X0.here hx rfl (hb hby at_13) rfl k) ?_
    have hc443 : ¬ ((1 : Int32) = (0 : Int32)) := by decide
    refine go _ (s₁.setTop (mkF m 17 #[.val (.int p1), .val (.int p2), .val (.int p3), .val (.int (1 : Int32)), .unset, .unset, .unset, .unset, .unset] [])) (fun t k => XS.ifNo X0.here hx rfl (hb hby at_14) rfl ((if0 _ _).trans (feq hc443).1) k) ?_
    refine go _ (s₁.setTop (mkF m 18 #[.val (.int p1), .val (.int p2), .val (.int p3), .val (.int (1 : Int32)), .unset, .unset, .unset, .unset, .unset] [(.int (0 : Int32))])) (fun t k => XS.iconst X0.here hx rfl (hb hby at_17) k) ?_
    refine go _ (s₁.setTop (mkF m 30 #[.val (.int p1), .val (.int p2), .val (.int p3), .val (.int (1 : Int32)), .unset, .unset, .unset, .unset, .unset] [(.int (0 : Int32))])) (fun t k => XS.goto X0.here hx rfl (pc0 := 18) (pc' := 30) rfl (hb hby at_18) (by decide) (by decide) k) ?_
    refine go _ (s₁.setTop (mkF m 32 #[.val (.int p1), .val (.int p2), .val (.int p3), .val (.int (1 : Int32)), .val (.int (0 : Int32)), .unset, .unset, .unset, .unset] [])) (fun t k => XS.istore X0.here hx rfl (hb hby at_30) rfl (l' := #[.val (.int p1), .val (.int p2), .val (.int p3), .val (.int (1 : Int32)), .val (.int (0 : Int32)), .unset, .unset, .unset, .unset]) rfl k) ?_
    refine go _ (s₁.setTop (mkF m 33 #[.val (.int p1), .val (.int p2), .val (.int p3), .val (.int (1 : Int32)), .val (.int (0 : Int32)), .unset, .unset, .unset, .unset] [(.int p3)])) (fun t k => XS.iloadN X0.here hx rfl (hb hby at_32) rfl k) ?_
    refine go _ (s₁.setTop (mkF m 35 #[.val (.int p1), .val (.int p2), .val (.int p3), .val (.int (1 : Int32)), .val (.int (0 : Int32)), .unset, .unset, .unset, .unset] [(.int (7 : Int32)), (.int p3)])) (fun t k => XS.bipush X0.here hx rfl (hb hby at_33) k) ?_
    refine go _ (s₁.setTop (mkF m 36 #[.val (.int p1), .val (.int p2), .val (.int p3), .val (.int (1 : Int32)), .val (.int (0 : Int32)), .unset, .unset, .unset, .unset] [(.int (p3 &&& (7 : Int32)))])) (fun t k => XS.iand X0.here hx rfl (hb hby at_35) rfl k) ?_
    refine go _ (s₁.setTop (mkF m 37 #[.val (.int p1), .val (.int p2), .val (.int p3), .val (.int (1 : Int32)), .val (.int (0 : Int32)), .unset, .unset, .unset, .unset] [(.int p2), (.int (p3 &&& (7 : Int32)))])) (fun t k => XS.iloadN X0.here hx rfl (hb hby at_36) rfl k) ?_
    refine go _ (s₁.setTop (mkF m 39 #[.val (.int p1), .val (.int p2), .val (.int p3), .val (.int (1 : Int32)), .val (.int (0 : Int32)), .unset, .unset, .unset, .unset] [(.int (0 : Int32)), (.int p2), (.int (p3 &&& (7 : Int32)))])) (fun t k => XS.iload X0.here hx rfl (hb hby at_37) rfl k) ?_
    obtain ⟨_, _, ⟨T444, L444, k444, n444⟩, -, X444, ⟨Lc444, hQ444, l444, y444, z444⟩, st444⟩ := Jvm.LawKit.callS X0 hx (y := (⟨"formlet/input/ButtonsSupportsExtendedFeaturesPinLaw", "pickId", "(III)I"⟩ : MethodName)) hown (mvT hZ (hw _ (List.mem_of_getElem? (i := 0) rfl))) (mvT hZ (hw _ (List.mem_of_getElem? (i := 1) rfl))) (mvT hZ (hw _ (List.mem_of_getElem? (i := 2) rfl))) (mvT hZ (hw _ (List.mem_of_getElem? (i := 3) rfl))) (by decide) (backOf (W := 0) (rm1 l Z a0 hw [] (p3 &&& (7 : Int32)) p2 (0 : Int32)  h0 n0 Z0 ) hZ (hw _ (List.mem_of_getElem? (i := 3) rfl)) (hw _ (List.mem_of_getElem? (i := 2) rfl)) (by decide) (by decide)) (g := (mkF m 39 #[.val (.int p1), .val (.int p2), .val (.int p3), .val (.int (1 : Int32)), .val (.int (0 : Int32)), .unset, .unset, .unset, .unset] [(.int (0 : Int32)), (.int p2), (.int (p3 &&& (7 : Int32)))])) rfl (by rw [hml]; rfl) (argsL := [(.int (p3 &&& (7 : Int32))), (.int p2), (.int (0 : Int32))]) (rest := []) (lenOf pd_5 rfl) rfl (by show 2 * 0 + _ ≤ _; exact Nat.le_of_eq rfl) (hb hby at_39) (fun _ _ => ⟨rfl, e0, (by decide : 0 + 0 ≤ _), (by decide : 0 + 0 ≤ _)⟩)
    dsimp only [Pt.U, Pt.locs, Pt.cells, Pt.slots] at X444 l444 y444 z444 st444 hQ444
    rw [l444, y444, z444] at X444
    obtain ⟨rfl, Nq444, hh444⟩ := hQ444
    have N445 := Fr.app N0 Nq444
    have X444 : Stand p l e room_1 s m _ below meth c T444 _ 0 0 := X444
    refine go _ (T444.setTop (mkF m 42 #[.val (.int p1), .val (.int p2), .val (.int p3), .val (.int (1 : Int32)), .val (.int (0 : Int32)), .unset, .unset, .unset, .unset] [(.int (f_rm1 (p3 &&& (7 : Int32)) p2 (0 : Int32)))])) (st444) ?_
    refine go _ (T444.setTop (mkF m 44 #[.val (.int p1), .val (.int p2), .val (.int p3), .val (.int (1 : Int32)), .val (.int (0 : Int32)), .val (.int (f_rm1 (p3 &&& (7 : Int32)) p2 (0 : Int32))), .unset, .unset, .unset] [])) (fun t k => XS.istore X444.here hx rfl (hb hby at_42) rfl (l' := #[.val (.int p1), .val (.int p2), .val (.int p3), .val (.int (1 : Int32)), .val (.int (0 : Int32)), .val (.int (f_rm1 (p3 &&& (7 : Int32)) p2 (0 : Int32))), .unset, .unset, .unset]) rfl k) ?_
    refine go _ (T444.setTop (mkF m 45 #[.val (.int p1), .val (.int p2), .val (.int p3), .val (.int (1 : Int32)), .val (.int (0 : Int32)), .val (.int (f_rm1 (p3 &&& (7 : Int32)) p2 (0 : Int32))), .unset, .unset, .unset] [(.int (1 : Int32))])) (fun t k => XS.iloadN X444.here hx rfl (hb hby at_44) rfl k) ?_
    have hc446 : ¬ ((1 : Int32) = (0 : Int32)) := by decide
    refine go _ (T444.setTop (mkF m 48 #[.val (.int p1), .val (.int p2), .val (.int p3), .val (.int (1 : Int32)), .val (.int (0 : Int32)), .val (.int (f_rm1 (p3 &&& (7 : Int32)) p2 (0 : Int32))), .unset, .unset, .unset] [])) (fun t k => XS.ifNo X444.here hx rfl (hb hby at_45) rfl ((if0 _ _).trans (feq hc446).1) k) ?_
    obtain ⟨T447, h447, X447, e447, E447, A447, D447, U447, st447⟩ := newO X444 hx hZ hown (hw _ (List.mem_of_getElem? (i := 4) rfl)) (hw _ (List.mem_of_getElem? (i := 5) rfl)) (hw _ (List.mem_of_getElem? (i := 6) rfl)) hh444 (g := (mkF m 48 #[.val (.int p1), .val (.int p2), .val (.int p3), .val (.int (1 : Int32)), .val (.int (0 : Int32)), .val (.int (f_rm1 (p3 &&& (7 : Int32)) p2 (0 : Int32))), .unset, .unset, .unset] [])) rfl (hb hby at_48) (by decide) (by decide)
    obtain ⟨b447, g447⟩ : ∃ z, z = h0.size := ⟨_, rfl⟩
    rw [← g447] at A447 D447 U447 st447
    have Z448 : n0 ≤ h447.size := Nat.le_trans Z0 E447.1
    have ge_b447 : n0 ≤ b447 := by rw [g447]; exact Z0
    have U447 : Unt h447 b447 := U447
    have F_id_b447 : Fld Z h447 b447 "formlet/EventGenerator" "id" "I" (.int (0 : Int32)) := D447 (Or.inl (hw _ (List.mem_of_getElem? (i := 24) rfl))) (ty := .int) (by decide)
    have F_lock_b447 : Fld Z h447 b447 "formlet/input/SequencedGenerator" "lock" "Ljava/lang/Object;" .null := D447 (Or.inr (hw _ (List.mem_of_getElem? (i := 30) rfl))) (ty := (.object "java/lang/Object")) (by decide)
    have F_unsent_b447 : Fld Z h447 b447 "formlet/input/SequencedGenerator" "unsent" "Ljava/util/ArrayDeque;" .null := D447 (Or.inr (hw _ (List.mem_of_getElem? (i := 49) rfl))) (ty := (.object "java/util/ArrayDeque")) (by decide)
    have F_events_b447 : Fld Z h447 b447 "formlet/input/SequencedGenerator" "events" "[I" .null := D447 (Or.inl (hw _ (List.mem_of_getElem? (i := 52) rfl))) (ty := (.array .int)) (by decide)
    have F_click_b447 : Fld Z h447 b447 "formlet/input/Buttons" "click" "[Z" .null := D447 (Or.inr (hw _ (List.mem_of_getElem? (i := 67) rfl))) (ty := (.array .boolean)) (by decide)
    have F_doubleClick_b447 : Fld Z h447 b447 "formlet/input/Buttons" "doubleClick" "[Z" .null := D447 (Or.inr (hw _ (List.mem_of_getElem? (i := 69) rfl))) (ty := (.array .boolean)) (by decide)
    have F_delta_b447 : Fld Z h447 b447 "formlet/input/Buttons" "delta" "[I" .null := D447 (Or.inr (hw _ (List.mem_of_getElem? (i := 71) rfl))) (ty := (.array .int)) (by decide)
    have F_pressedBefore_b447 : Fld Z h447 b447 "formlet/input/Buttons" "pressedBefore" "[Z" .null := D447 (Or.inr (hw _ (List.mem_of_getElem? (i := 73) rfl))) (ty := (.array .boolean)) (by decide)
    have F_lastPress_b447 : Fld Z h447 b447 "formlet/input/Buttons" "lastPress" "[J" .null := D447 (Or.inr (hw _ (List.mem_of_getElem? (i := 76) rfl))) (ty := (.array .long)) (by decide)
    have F_sentBefore_b447 : Fld Z h447 b447 "formlet/input/Buttons" "sentBefore" "[Z" .null := D447 (Or.inr (hw _ (List.mem_of_getElem? (i := 78) rfl))) (ty := (.array .boolean)) (by decide)
    have F_lastEvent_b447 : Fld Z h447 b447 "formlet/input/Buttons" "lastEvent" "[J" .null := D447 (Or.inr (hw _ (List.mem_of_getElem? (i := 80) rfl))) (ty := (.array .long)) (by decide)
    refine go _ (T447.setTop (mkF m 51 #[.val (.int p1), .val (.int p2), .val (.int p3), .val (.int (1 : Int32)), .val (.int (0 : Int32)), .val (.int (f_rm1 (p3 &&& (7 : Int32)) p2 (0 : Int32))), .unset, .unset, .unset] [(.ref b447)])) (st447) ?_
    refine go _ (T447.setTop (mkF m 52 #[.val (.int p1), .val (.int p2), .val (.int p3), .val (.int (1 : Int32)), .val (.int (0 : Int32)), .val (.int (f_rm1 (p3 &&& (7 : Int32)) p2 (0 : Int32))), .unset, .unset, .unset] [(.ref b447), (.ref b447)])) (fun t k => XS.dup X447.here hx rfl (hb hby at_51) rfl rfl k) ?_
    obtain ⟨_, _, ⟨T449, L449, k449, n449⟩, -, X449, hS, hgr449, ⟨Lc449, hQ449, l449, y449, z449⟩, st449⟩ := X447.specialBackS hx (y := (⟨"formlet/input/Buttons", "<init>", "()V"⟩ : MethodName)) rfl hown (mvT hZ (hw _ (List.mem_of_getElem? (i := 92) rfl))) (mvT hZ (hw _ (List.mem_of_getElem? (i := 93) rfl))) (mvT hZ (hw _ (List.mem_of_getElem? (i := 94) rfl))) (by decide) (backOfS (W := 1) (rm11 l Z a0 hw [] b447  h447 n0 Z448 A447 F_id_b447 F_lock_b447 F_unsent_b447 F_events_b447 F_click_b447 F_doubleClick_b447 F_delta_b447 F_pressedBefore_b447 F_lastPress_b447 F_sentBefore_b447 F_lastEvent_b447 ge_b447) hZ (hw _ (List.mem_of_getElem? (i := 94) rfl)) (hw _ (List.mem_of_getElem? (i := 6) rfl)) (by decide) (by decide)) (g := (mkF m 52 #[.val (.int p1), .val (.int p2), .val (.int p3), .val (.int (1 : Int32)), .val (.int (0 : Int32)), .val (.int (f_rm1 (p3 &&& (7 : Int32)) p2 (0 : Int32))), .unset, .unset, .unset] [(.ref b447), (.ref b447)])) rfl (by rw [hml]; rfl) (Steps.refl _) (a := b447) (argsL := []) (rest := [(.ref b447)]) (lenOf pd_1 rfl) rfl (by show 2 * 0 + _ ≤ _; exact Nat.le_of_eq rfl) (hb hby at_52) (fun _ _ => ⟨rfl, e447, (by decide : 0 + 1 + 13 ≤ _), (by decide : 0 + 15 + 1977 ≤ _)⟩)
    dsimp only [Pt.U, Pt.locs, Pt.cells, Pt.slots] at hS hgr449 X449
    have hZ : Z.Warmed39 (s.setVm T449.vm).vm := State.Warmed39.trans hZ hS.1
    have hown : (s.setVm T449.vm).vm.findClass "formlet/input/ButtonsSupportsExtendedFeaturesPinLaw" = some m.cls := by rw [show (s.setVm T449.vm).vm = T449.vm from rfl, hS.1.alike.findClass]; exact hown
    dsimp only [Pt.U, Pt.locs, Pt.cells, Pt.slots] at X449 l449 y449 z449 st449 hQ449
    rw [l449, y449, z449] at X449
    obtain ⟨rfl, Nq449, Kq449, lk449, ck449, sl449, sc449, nk449, Uq449, Fl449, Fc449, Aq449⟩ := hQ449
    have N450 := Fr.app N445 Nq449
    have X449 : Stand p l e room_1 (s.setVm T449.vm) m _ below meth c T449 _ 14 1992 := X449
    have B451 := A447.keep Kq449
    have Z452 : n0 ≤ T449.heap.size := Nat.le_trans Z448 Kq449.1
    have ne_b447_lk449 : b447 ≠ lk449 := Nat.ne_of_lt (Nat.lt_of_lt_of_le A447.lt sl449)
    have ne_b447_ck449 : b447 ≠ ck449 := Nat.ne_of_lt (Nat.lt_of_lt_of_le A447.lt sc449)
    have ge_ck449 : n0 ≤ ck449 := Nat.le_trans Z448 sc449
    obtain ⟨nS, hnS⟩ : ∃ z, z = T449.heap.size := ⟨_, rfl⟩
    rw [← hnS] at hS
    have MS0 : nS ≤ T449.heap.size := Nat.le_of_eq hnS
    refine go _ (T449.setTop (mkF m 55 #[.val (.int p1), .val (.int p2), .val (.int p3), .val (.int (1 : Int32)), .val (.int (0 : Int32)), .val (.int (f_rm1 (p3 &&& (7 : Int32)) p2 (0 : Int32))), .unset, .unset, .unset] [(.ref b447)])) (fun t k => st449.trans k) ?_
    refine go _ (T449.setTop (mkF m 67 #[.val (.int p1), .val (.int p2), .val (.int p3), .val (.int (1 : Int32)), .val (.int (0 : Int32)), .val (.int (f_rm1 (p3 &&& (7 : Int32)) p2 (0 : Int32))), .unset, .unset, .unset] [(.ref b447)])) (fun t k => XS.goto X449.here hx rfl (pc0 := 55) (pc' := 67) rfl (hb hby at_55) (by decide) (by decide) k) ?_
    refine go _ (T449.setTop (mkF m 69 #[.val (.int p1), .val (.int p2), .val (.int p3), .val (.int (1 : Int32)), .val (.int (0 : Int32)), .val (.int (f_rm1 (p3 &&& (7 : Int32)) p2 (0 : Int32))), .val (.ref b447), .unset, .unset] [])) (fun t k => XS.astore X449.here hx rfl (hb hby at_67) rfl rfl (l' := #[.val (.int p1), .val (.int p2), .val (.int p3), .val (.int (1 : Int32)), .val (.int (0 : Int32)), .val (.int (f_rm1 (p3 &&& (7 : Int32)) p2 (0 : Int32))), .val (.ref b447), .unset, .unset]) rfl k) ?_
    refine go _ (T449.setTop (mkF m 71 #[.val (.int p1), .val (.int p2), .val (.int p3), .val (.int (1 : Int32)), .val (.int (0 : Int32)), .val (.int (f_rm1 (p3 &&& (7 : Int32)) p2 (0 : Int32))), .val (.ref b447), .unset, .unset] [(.int (f_rm1 (p3 &&& (7 : Int32)) p2 (0 : Int32)))])) (fun t k => XS.iload X449.here hx rfl (hb hby at_69) rfl k) ?_
    refine go _ (T449.setTop (mkF m 72 #[.val (.int p1), .val (.int p2), .val (.int p3), .val (.int (1 : Int32)), .val (.int (0 : Int32)), .val (.int (f_rm1 (p3 &&& (7 : Int32)) p2 (0 : Int32))), .val (.ref b447), .unset, .unset] [(.long ((f_rm1 (p3 &&& (7 : Int32)) p2 (0 : Int32)).toInt64))])) (fun t k => XS.i2l X449.here hx rfl (hb hby at_71) rfl k) ?_
    refine go _ (T449.setTop (mkF m 73 #[.val (.int p1), .val (.int p2), .val (.int p3), .val (.int (1 : Int32)), .val (.int (0 : Int32)), .val (.int (f_rm1 (p3 &&& (7 : Int32)) p2 (0 : Int32))), .val (.ref b447), .unset, .unset] [(.long (0 : Int64)), (.long ((f_rm1 (p3 &&& (7 : Int32)) p2 (0 : Int32)).toInt64))])) (fun t k => XS.lconst X449.here hx rfl (hb hby at_72) k) ?_
    refine go _ (T449.setTop (mkF m 74 #[.val (.int p1), .val (.int p2), .val (.int p3), .val (.int (1 : Int32)), .val (.int (0 : Int32)), .val (.int (f_rm1 (p3 &&& (7 : Int32)) p2 (0 : Int32))), .val (.ref b447), .unset, .unset] [(.int (lcmpW ((f_rm1 (p3 &&& (7 : Int32)) p2 (0 : Int32)).toInt64) (0 : Int64)))])) (fun t k => XS.lcmp X449.here hx rfl (hb hby at_73) rfl k) ?_
    by_cases hc453 : ((f_rm1 (p3 &&& (7 : Int32)) p2 (0 : Int32)).toInt64) < (0 : Int64)
    · refine go _ (T449.setTop (mkF m 91 #[.val (.int p1), .val (.int p2), .val (.int p3), .val (.int (1 : Int32)), .val (.int (0 : Int32)), .val (.int (f_rm1 (p3 &&& (7 : Int32)) p2 (0 : Int32))), .val (.ref b447), .unset, .unset] [])) (fun t k => XS.ifYes X449.here hx rfl (pc0 := 74) (pc' := 91) rfl (hb hby at_74) rfl ((if0 _ _).trans (tlt ((lw_lt ((f_rm1 (p3 &&& (7 : Int32)) p2 (0 : Int32)).toInt64) (0 : Int64)).mpr hc453)).1) (by decide) (by decide) k) ?_
      refine go _ (T449.setTop (mkF m 92 #[.val (.int p1), .val (.int p2), .val (.int p3), .val (.int (1 : Int32)), .val (.int (0 : Int32)), .val (.int (f_rm1 (p3 &&& (7 : Int32)) p2 (0 : Int32))), .val (.ref b447), .unset, .unset] [(.int (0 : Int32))])) (fun t k => XS.iconst X449.here hx rfl (hb hby at_91) k) ?_
      refine go _ (T449.setTop (mkF m 94 #[.val (.int p1), .val (.int p2), .val (.int p3), .val (.int (1 : Int32)), .val (.int (0 : Int32)), .val (.int (f_rm1 (p3 &&& (7 : Int32)) p2 (0 : Int32))), .val (.ref b447), .val (.int (0 : Int32)), .unset] [])) (fun t k => XS.istore X449.here hx rfl (hb hby at_92) rfl (l' := #[.val (.int p1), .val (.int p2), .val (.int p3), .val (.int (1 : Int32)), .val (.int (0 : Int32)), .val (.int (f_rm1 (p3 &&& (7 : Int32)) p2 (0 : Int32))), .val (.ref b447), .val (.int (0 : Int32)), .unset]) rfl k) ?_
      refine go _ (T449.setTop (mkF m 96 #[.val (.int p1), .val (.int p2), .val (.int p3), .val (.int (1 : Int32)), .val (.int (0 : Int32)), .val (.int (f_rm1 (p3 &&& (7 : Int32)) p2 (0 : Int32))), .val (.ref b447), .val (.int (0 : Int32)), .unset] [(.ref b447)])) (fun t k => XS.aload X449.here hx rfl (hb hby at_94) rfl rfl k) ?_
      refine go _ (T449.setTop (mkF m 98 #[.val (.int p1), .val (.int p2), .val (.int p3), .val (.int (1 : Int32)), .val (.int (0 : Int32)), .val (.int (f_rm1 (p3 &&& (7 : Int32)) p2 (0 : Int32))), .val (.ref b447), .val (.int (0 : Int32)), .unset] [(.int (f_rm1 (p3 &&& (7 : Int32)) p2 (0 : Int32))), (.ref b447)])) (fun t k => XS.iload X449.here hx rfl (hb hby at_96) rfl k) ?_
      obtain ⟨cq454, kq454, q454a, q454b, q454c⟩ := isOf hZ rfl B451
      obtain ⟨_, _, ⟨T454, L454, k454, n454⟩, -, X454, ⟨Lc454, hQ454, l454, y454, z454⟩, st454⟩ := X449.virtualBack hx (y := (⟨"formlet/input/Buttons", "supportsExtendedFeatures", "(I)Z"⟩ : MethodName)) (z := (⟨"formlet/input/Buttons", "supportsExtendedFeatures", "(I)Z"⟩ : MethodName)) hown (mvT hZ (hw _ (List.mem_of_getElem? (i := 81) rfl))) (mvT hZ (hw _ (List.mem_of_getElem? (i := 82) rfl))) (notFace_of_selects (args := #[]) (mvT hZ (hw _ (List.mem_of_getElem? (i := 84) rfl)))) (mvT hZ (hw _ (List.mem_of_getElem? (i := 84) rfl))) (mvT hZ (hw _ (List.mem_of_getElem? (i := 83) rfl))) (by decide) (backOf (W := 0) (rm9 l Z a0 hw [] b447 (f_rm1 (p3 &&& (7 : Int32)) p2 (0 : Int32)) ck449 0 _ T449.heap n0 Z452 Fc449 Aq449) hZ (hw _ (List.mem_of_getElem? (i := 85) rfl)) (hw _ (List.mem_of_getElem? (i := 6) rfl)) (by decide) (by decide)) q454a q454c (g := (mkF m 98 #[.val (.int p1), .val (.int p2), .val (.int p3), .val (.int (1 : Int32)), .val (.int (0 : Int32)), .val (.int (f_rm1 (p3 &&& (7 : Int32)) p2 (0 : Int32))), .val (.ref b447), .val (.int (0 : Int32)), .unset] [(.int (f_rm1 (p3 &&& (7 : Int32)) p2 (0 : Int32))), (.ref b447)])) rfl (by rw [hml]; rfl) (Steps.refl _) (argsL := [(.int (f_rm1 (p3 &&& (7 : Int32)) p2 (0 : Int32)))]) (rest := []) (lenOf pd_4 rfl) rfl (by show 2 * 0 + _ ≤ _; exact Nat.le_of_eq rfl) (hb hby at_98) (fun _ _ => ⟨rfl, rfl, (by decide : 14 + 0 ≤ _), (by decide : 1992 + 0 ≤ _)⟩)
      dsimp only [Pt.U, Pt.locs, Pt.cells, Pt.slots] at X454 l454 y454 z454 st454 hQ454
      rw [l454, y454, z454] at X454
      obtain ⟨rfl, Nq454, hh454⟩ := hQ454
      have N455 := Fr.app N450 Nq454
      have X454 : Stand p l e room_1 (s.setVm T449.vm) m _ below meth c T454 _ 14 1992 := X454
      refine go _ (T454.setTop (mkF m 101 #[.val (.int p1), .val (.int p2), .val (.int p3), .val (.int (1 : Int32)), .val (.int (0 : Int32)), .val (.int (f_rm1 (p3 &&& (7 : Int32)) p2 (0 : Int32))), .val (.ref b447), .val (.int (0 : Int32)), .unset] [(.int (own_sup (f_rm1 (p3 &&& (7 : Int32)) p2 (0 : Int32)) (Int32.ofNat 0)))])) (fun t k => st454.trans k) ?_
      refine go _ (T454.setTop (mkF m 103 #[.val (.int p1), .val (.int p2), .val (.int p3), .val (.int (1 : Int32)), .val (.int (0 : Int32)), .val (.int (f_rm1 (p3 &&& (7 : Int32)) p2 (0 : Int32))), .val (.ref b447), .val (.int (0 : Int32)), .val (.int (own_sup (f_rm1 (p3 &&& (7 : Int32)) p2 (0 : Int32)) (Int32.ofNat 0)))] [])) (fun t k => XS.istore X454.here hx rfl (hb hby at_101) rfl (l' := #[.val (.int p1), .val (.int p2), .val (.int p3), .val (.int (1 : Int32)), .val (.int (0 : Int32)), .val (.int (f_rm1 (p3 &&& (7 : Int32)) p2 (0 : Int32))), .val (.ref b447), .val (.int (0 : Int32)), .val (.int (own_sup (f_rm1 (p3 &&& (7 : Int32)) p2 (0 : Int32)) (Int32.ofNat 0)))]) rfl k) ?_
      refine go _ (T454.setTop (mkF m 105 #[.val (.int p1), .val (.int p2), .val (.int p3), .val (.int (1 : Int32)), .val (.int (0 : Int32)), .val (.int (f_rm1 (p3 &&& (7 : Int32)) p2 (0 : Int32))), .val (.ref b447), .val (.int (0 : Int32)), .val (.int (own_sup (f_rm1 (p3 &&& (7 : Int32)) p2 (0 : Int32)) (Int32.ofNat 0)))] [(.int (own_sup (f_rm1 (p3 &&& (7 : Int32)) p2 (0 : Int32)) (Int32.ofNat 0)))])) (fun t k => XS.iload X454.here hx rfl (hb hby at_103) rfl k) ?_
      refine go _ (T454.setTop (mkF m 107 #[.val (.int p1), .val (.int p2), .val (.int p3), .val (.int (1 : Int32)), .val (.int (0 : Int32)), .val (.int (f_rm1 (p3 &&& (7 : Int32)) p2 (0 : Int32))), .val (.ref b447), .val (.int (0 : Int32)), .val (.int (own_sup (f_rm1 (p3 &&& (7 : Int32)) p2 (0 : Int32)) (Int32.ofNat 0)))] [(.int (0 : Int32)), (.int (own_sup (f_rm1 (p3 &&& (7 : Int32)) p2 (0 : Int32)) (Int32.ofNat 0)))])) (fun t k => XS.iload X454.here hx rfl (hb hby at_105) rfl k) ?_
      have hsup : (own_sup (f_rm1 (p3 &&& (7 : Int32)) p2 (0 : Int32)) (Int32.ofNat 0)) = (0 : Int32) := own_s0a hc453
      have hc456 : ((own_sup (f_rm1 (p3 &&& (7 : Int32)) p2 (0 : Int32)) (Int32.ofNat 0)) = (0 : Int32)) := hsup
      refine go _ (T454.setTop (mkF m 112 #[.val (.int p1), .val (.int p2), .val (.int p3), .val (.int (1 : Int32)), .val (.int (0 : Int32)), .val (.int (f_rm1 (p3 &&& (7 : Int32)) p2 (0 : Int32))), .val (.ref b447), .val (.int (0 : Int32)), .val (.int (own_sup (f_rm1 (p3 &&& (7 : Int32)) p2 (0 : Int32)) (Int32.ofNat 0)))] [])) (fun t k => XS.icmpYes X454.here hx rfl (pc0 := 107) (pc' := 112) rfl (hb hby at_107) rfl (teq hc456).1 (by decide) (by decide) k) ?_
      refine go _ (T454.setTop (mkF m 114 #[.val (.int p1), .val (.int p2), .val (.int p3), .val (.int (1 : Int32)), .val (.int (0 : Int32)), .val (.int (f_rm1 (p3 &&& (7 : Int32)) p2 (0 : Int32))), .val (.ref b447), .val (.int (0 : Int32)), .val (.int (own_sup (f_rm1 (p3 &&& (7 : Int32)) p2 (0 : Int32)) (Int32.ofNat 0)))] [(.int (0 : Int32))])) (fun t k => XS.iload X454.here hx rfl (hb hby at_112) rfl k) ?_
      have hc457 : ((0 : Int32) = (0 : Int32)) := by decide
      refine go _ (T454.setTop (mkF m 133 #[.val (.int p1), .val (.int p2), .val (.int p3), .val (.int (1 : Int32)), .val (.int (0 : Int32)), .val (.int (f_rm1 (p3 &&& (7 : Int32)) p2 (0 : Int32))), .val (.ref b447), .val (.int (0 : Int32)), .val (.int (own_sup (f_rm1 (p3 &&& (7 : Int32)) p2 (0 : Int32)) (Int32.ofNat 0)))] [])) (fun t k => XS.ifYes X454.here hx rfl (pc0 := 114) (pc' := 133) rfl (hb hby at_114) rfl ((if0 _ _).trans (teq hc457).1) (by decide) (by decide) k) ?_
      refine go _ (T454.setTop (mkF m 135 #[.val (.int p1), .val (.int p2), .val (.int p3), .val (.int (1 : Int32)), .val (.int (0 : Int32)), .val (.int (f_rm1 (p3 &&& (7 : Int32)) p2 (0 : Int32))), .val (.ref b447), .val (.int (0 : Int32)), .val (.int (own_sup (f_rm1 (p3 &&& (7 : Int32)) p2 (0 : Int32)) (Int32.ofNat 0)))] [(.ref b447)])) (fun t k => XS.aload X454.here hx rfl (hb hby at_133) rfl rfl k) ?_
      refine go _ (T454.setTop (mkF m 137 #[.val (.int p1), .val (.int p2), .val (.int p3), .val (.int (1 : Int32)), .val (.int (0 : Int32)), .val (.int (f_rm1 (p3 &&& (7 : Int32)) p2 (0 : Int32))), .val (.ref b447), .val (.int (0 : Int32)), .val (.int (own_sup (f_rm1 (p3 &&& (7 : Int32)) p2 (0 : Int32)) (Int32.ofNat 0)))] [(.int (f_rm1 (p3 &&& (7 : Int32)) p2 (0 : Int32))), (.ref b447)])) (fun t k => XS.iload X454.here hx rfl (hb hby at_135) rfl k) ?_
      obtain ⟨cq458, kq458, q458a, q458b, q458c⟩ := isOf hZ hh454 B451
      obtain ⟨_, _, ⟨T458, L458, k458, n458⟩, -, X458, ⟨Lc458, hQ458, l458, y458, z458⟩, st458⟩ := X454.virtualBack hx (y := (⟨"formlet/input/Buttons", "clickEnabled", "(I)Z"⟩ : MethodName)) (z := (⟨"formlet/input/Buttons", "clickEnabled", "(I)Z"⟩ : MethodName)) hown (mvT hZ (hw _ (List.mem_of_getElem? (i := 86) rfl))) (mvT hZ (hw _ (List.mem_of_getElem? (i := 87) rfl))) (notFace_of_selects (args := #[]) (mvT hZ (hw _ (List.mem_of_getElem? (i := 89) rfl)))) (mvT hZ (hw _ (List.mem_of_getElem? (i := 89) rfl))) (mvT hZ (hw _ (List.mem_of_getElem? (i := 88) rfl))) (by decide) (backOfWith (W := 0) (rm10n l Z a0 hw [] b447 (f_rm1 (p3 &&& (7 : Int32)) p2 (0 : Int32)) ck449 0 _ T449.heap n0 Z452 B451 Fc449 Aq449 hsup) hZ (hw _ (List.mem_of_getElem? (i := 90) rfl)) (hw _ (List.mem_of_getElem? (i := 6) rfl)) (by decide) (by decide)) q458a q458c (g := (mkF m 137 #[.val (.int p1), .val (.int p2), .val (.int p3), .val (.int (1 : Int32)), .val (.int (0 : Int32)), .val (.int (f_rm1 (p3 &&& (7 : Int32)) p2 (0 : Int32))), .val (.ref b447), .val (.int (0 : Int32)), .val (.int (own_sup (f_rm1 (p3 &&& (7 : Int32)) p2 (0 : Int32)) (Int32.ofNat 0)))] [(.int (f_rm1 (p3 &&& (7 : Int32)) p2 (0 : Int32))), (.ref b447)])) rfl (by rw [hml]; rfl) (Steps.refl _) (argsL := [(.int (f_rm1 (p3 &&& (7 : Int32)) p2 (0 : Int32)))]) (rest := []) (lenOf pd_4 rfl) rfl (by show 2 * 0 + _ ≤ _; exact Nat.le_of_eq rfl) (hb hby at_137) (fun _ _ => ⟨rfl, hh454, (by decide : 14 + 0 ≤ _), (by decide : 1992 + 0 ≤ _)⟩)
      dsimp only [Pt.U, Pt.locs, Pt.cells, Pt.slots] at X458 l458 y458 z458 st458 hQ458
      rw [l458, y458, z458] at X458
      obtain ⟨rfl, Nq458, hh458⟩ := hQ458
      have N459 := Fr.app N455 Nq458
      have X458 : Stand p l e room_1 (s.setVm T449.vm) m _ below meth c T458 _ 14 1992 := X458
      refine go _ (T458.setTop (mkF m 140 #[.val (.int p1), .val (.int p2), .val (.int p3), .val (.int (1 : Int32)), .val (.int (0 : Int32)), .val (.int (f_rm1 (p3 &&& (7 : Int32)) p2 (0 : Int32))), .val (.ref b447), .val (.int (0 : Int32)), .val (.int (own_sup (f_rm1 (p3 &&& (7 : Int32)) p2 (0 : Int32)) (Int32.ofNat 0)))] [(.int (0 : Int32))])) (fun t k => st458.trans k) ?_
      have hc460 : ((0 : Int32) = (0 : Int32)) := by decide
      refine go _ (T458.setTop (mkF m 143 #[.val (.int p1), .val (.int p2), .val (.int p3), .val (.int (1 : Int32)), .val (.int (0 : Int32)), .val (.int (f_rm1 (p3 &&& (7 : Int32)) p2 (0 : Int32))), .val (.ref b447), .val (.int (0 : Int32)), .val (.int (own_sup (f_rm1 (p3 &&& (7 : Int32)) p2 (0 : Int32)) (Int32.ofNat 0)))] [])) (fun t k => XS.ifNo X458.here hx rfl (hb hby at_140) rfl ((if0 _ _).trans (teq hc460).2) k) ?_
      refine go _ (T458.setTop (mkF m 144 #[.val (.int p1), .val (.int p2), .val (.int p3), .val (.int (1 : Int32)), .val (.int (0 : Int32)), .val (.int (f_rm1 (p3 &&& (7 : Int32)) p2 (0 : Int32))), .val (.ref b447), .val (.int (0 : Int32)), .val (.int (own_sup (f_rm1 (p3 &&& (7 : Int32)) p2 (0 : Int32)) (Int32.ofNat 0)))] [(.int (1 : Int32))])) (fun t k => XS.iconst X458.here hx rfl (hb hby at_143) k) ?_
      refine go _ (T458.setTop (mkF m 148 #[.val (.int p1), .val (.int p2), .val (.int p3), .val (.int (1 : Int32)), .val (.int (0 : Int32)), .val (.int (f_rm1 (p3 &&& (7 : Int32)) p2 (0 : Int32))), .val (.ref b447), .val (.int (0 : Int32)), .val (.int (own_sup (f_rm1 (p3 &&& (7 : Int32)) p2 (0 : Int32)) (Int32.ofNat 0)))] [(.int (1 : Int32))])) (fun t k => XS.goto X458.here hx rfl (pc0 := 144) (pc' := 148) rfl (hb hby at_144) (by decide) (by decide) k) ?_
      exact fin (some (.int (1 : Int32))) X458 hS (by rw [hh458]; exact MS0) (by decide) (by decide) (fun q => by cases q) (show Q_rm0 Z p1 p2 p3 h0 n0 _ T458.heap _ from (by rw [hh458]; exact ⟨rfl, N459⟩)) (fun fs hr => retN X458 hx (t := .boolean) hret (by simp) (hb hby at_148) hr)
    · refine go _ (T449.setTop (mkF m 77 #[.val (.int p1), .val (.int p2), .val (.int p3), .val (.int (1 : Int32)), .val (.int (0 : Int32)), .val (.int (f_rm1 (p3 &&& (7 : Int32)) p2 (0 : Int32))), .val (.ref b447), .unset, .unset] [])) (fun t k => XS.ifNo X449.here hx rfl (hb hby at_74) rfl ((if0 _ _).trans (flt (fun q => hc453 ((lw_lt ((f_rm1 (p3 &&& (7 : Int32)) p2 (0 : Int32)).toInt64) (0 : Int64)).mp q))).1) k) ?_
      refine go _ (T449.setTop (mkF m 79 #[.val (.int p1), .val (.int p2), .val (.int p3), .val (.int (1 : Int32)), .val (.int (0 : Int32)), .val (.int (f_rm1 (p3 &&& (7 : Int32)) p2 (0 : Int32))), .val (.ref b447), .unset, .unset] [(.int (f_rm1 (p3 &&& (7 : Int32)) p2 (0 : Int32)))])) (fun t k => XS.iload X449.here hx rfl (hb hby at_77) rfl k) ?_
      refine go _ (T449.setTop (mkF m 80 #[.val (.int p1), .val (.int p2), .val (.int p3), .val (.int (1 : Int32)), .val (.int (0 : Int32)), .val (.int (f_rm1 (p3 &&& (7 : Int32)) p2 (0 : Int32))), .val (.ref b447), .unset, .unset] [(.long ((f_rm1 (p3 &&& (7 : Int32)) p2 (0 : Int32)).toInt64))])) (fun t k => XS.i2l X449.here hx rfl (hb hby at_79) rfl k) ?_
      refine go _ (T449.setTop (mkF m 82 #[.val (.int p1), .val (.int p2), .val (.int p3), .val (.int (1 : Int32)), .val (.int (0 : Int32)), .val (.int (f_rm1 (p3 &&& (7 : Int32)) p2 (0 : Int32))), .val (.ref b447), .unset, .unset] [(.int (0 : Int32)), (.long ((f_rm1 (p3 &&& (7 : Int32)) p2 (0 : Int32)).toInt64))])) (fun t k => XS.iload X449.here hx rfl (hb hby at_80) rfl k) ?_
      refine go _ (T449.setTop (mkF m 83 #[.val (.int p1), .val (.int p2), .val (.int p3), .val (.int (1 : Int32)), .val (.int (0 : Int32)), .val (.int (f_rm1 (p3 &&& (7 : Int32)) p2 (0 : Int32))), .val (.ref b447), .unset, .unset] [(.long ((0 : Int32).toInt64)), (.long ((f_rm1 (p3 &&& (7 : Int32)) p2 (0 : Int32)).toInt64))])) (fun t k => XS.i2l X449.here hx rfl (hb hby at_82) rfl k) ?_
      refine go _ (T449.setTop (mkF m 84 #[.val (.int p1), .val (.int p2), .val (.int p3), .val (.int (1 : Int32)), .val (.int (0 : Int32)), .val (.int (f_rm1 (p3 &&& (7 : Int32)) p2 (0 : Int32))), .val (.ref b447), .unset, .unset] [(.int (lcmpW ((f_rm1 (p3 &&& (7 : Int32)) p2 (0 : Int32)).toInt64) ((0 : Int32).toInt64)))])) (fun t k => XS.lcmp X449.here hx rfl (hb hby at_83) rfl k) ?_
      by_cases hc461 : ((f_rm1 (p3 &&& (7 : Int32)) p2 (0 : Int32)).toInt64) < ((0 : Int32).toInt64)
      · refine go _ (T449.setTop (mkF m 87 #[.val (.int p1), .val (.int p2), .val (.int p3), .val (.int (1 : Int32)), .val (.int (0 : Int32)), .val (.int (f_rm1 (p3 &&& (7 : Int32)) p2 (0 : Int32))), .val (.ref b447), .unset, .unset] [])) (fun t k => XS.ifNo X449.here hx rfl (hb hby at_84) rfl ((if0 _ _).trans (tlt ((lw_lt ((f_rm1 (p3 &&& (7 : Int32)) p2 (0 : Int32)).toInt64) ((0 : Int32).toInt64)).mpr hc461)).2.1) k) ?_
        refine go _ (T449.setTop (mkF m 88 #[.val (.int p1), .val (.int p2), .val (.int p3), .val (.int (1 : Int32)), .val (.int (0 : Int32)), .val (.int (f_rm1 (p3 &&& (7 : Int32)) p2 (0 : Int32))), .val (.ref b447), .unset, .unset] [(.int (1 : Int32))])) (fun t k => XS.iconst X449.here hx rfl (hb hby at_87) k) ?_
        refine go _ (T449.setTop (mkF m 92 #[.val (.int p1), .val (.int p2), .val (.int p3), .val (.int (1 : Int32)), .val (.int (0 : Int32)), .val (.int (f_rm1 (p3 &&& (7 : Int32)) p2 (0 : Int32))), .val (.ref b447), .unset, .unset] [(.int (1 : Int32))])) (fun t k => XS.goto X449.here hx rfl (pc0 := 88) (pc' := 92) rfl (hb hby at_88) (by decide) (by decide) k) ?_
        refine go _ (T449.setTop (mkF m 94 #[.val (.int p1), .val (.int p2), .val (.int p3), .val (.int (1 : Int32)), .val (.int (0 : Int32)), .val (.int (f_rm1 (p3 &&& (7 : Int32)) p2 (0 : Int32))), .val (.ref b447), .val (.int (1 : Int32)), .unset] [])) (fun t k => XS.istore X449.here hx rfl (hb hby at_92) rfl (l' := #[.val (.int p1), .val (.int p2), .val (.int p3), .val (.int (1 : Int32)), .val (.int (0 : Int32)), .val (.int (f_rm1 (p3 &&& (7 : Int32)) p2 (0 : Int32))), .val (.ref b447), .val (.int (1 : Int32)), .unset]) rfl k) ?_
        refine go _ (T449.setTop (mkF m 96 #[.val (.int p1), .val (.int p2), .val (.int p3), .val (.int (1 : Int32)), .val (.int (0 : Int32)), .val (.int (f_rm1 (p3 &&& (7 : Int32)) p2 (0 : Int32))), .val (.ref b447), .val (.int (1 : Int32)), .unset] [(.ref b447)])) (fun t k => XS.aload X449.here hx rfl (hb hby at_94) rfl rfl k) ?_
        refine go _ (T449.setTop (mkF m 98 #[.val (.int p1), .val (.int p2), .val (.int p3), .val (.int (1 : Int32)), .val (.int (0 : Int32)), .val (.int (f_rm1 (p3 &&& (7 : Int32)) p2 (0 : Int32))), .val (.ref b447), .val (.int (1 : Int32)), .unset] [(.int (f_rm1 (p3 &&& (7 : Int32)) p2 (0 : Int32))), (.ref b447)])) (fun t k => XS.iload X449.here hx rfl (hb hby at_96) rfl k) ?_
        obtain ⟨cq462, kq462, q462a, q462b, q462c⟩ := isOf hZ rfl B451
        obtain ⟨_, _, ⟨T462, L462, k462, n462⟩, -, X462, ⟨Lc462, hQ462, l462, y462, z462⟩, st462⟩ := X449.virtualBack hx (y := (⟨"formlet/input/Buttons", "supportsExtendedFeatures", "(I)Z"⟩ : MethodName)) (z := (⟨"formlet/input/Buttons", "supportsExtendedFeatures", "(I)Z"⟩ : MethodName)) hown (mvT hZ (hw _ (List.mem_of_getElem? (i := 81) rfl))) (mvT hZ (hw _ (List.mem_of_getElem? (i := 82) rfl))) (notFace_of_selects (args := #[]) (mvT hZ (hw _ (List.mem_of_getElem? (i := 84) rfl)))) (mvT hZ (hw _ (List.mem_of_getElem? (i := 84) rfl))) (mvT hZ (hw _ (List.mem_of_getElem? (i := 83) rfl))) (by decide) (backOf (W := 0) (rm9 l Z a0 hw [] b447 (f_rm1 (p3 &&& (7 : Int32)) p2 (0 : Int32)) ck449 0 _ T449.heap n0 Z452 Fc449 Aq449) hZ (hw _ (List.mem_of_getElem? (i := 85) rfl)) (hw _ (List.mem_of_getElem? (i := 6) rfl)) (by decide) (by decide)) q462a q462c (g := (mkF m 98 #[.val (.int p1), .val (.int p2), .val (.int p3), .val (.int (1 : Int32)), .val (.int (0 : Int32)), .val (.int (f_rm1 (p3 &&& (7 : Int32)) p2 (0 : Int32))), .val (.ref b447), .val (.int (1 : Int32)), .unset] [(.int (f_rm1 (p3 &&& (7 : Int32)) p2 (0 : Int32))), (.ref b447)])) rfl (by rw [hml]; rfl) (Steps.refl _) (argsL := [(.int (f_rm1 (p3 &&& (7 : Int32)) p2 (0 : Int32)))]) (rest := []) (lenOf pd_4 rfl) rfl (by show 2 * 0 + _ ≤ _; exact Nat.le_of_eq rfl) (hb hby at_98) (fun _ _ => ⟨rfl, rfl, (by decide : 14 + 0 ≤ _), (by decide : 1992 + 0 ≤ _)⟩)
        dsimp only [Pt.U, Pt.locs, Pt.cells, Pt.slots] at X462 l462 y462 z462 st462 hQ462
        rw [l462, y462, z462] at X462
        obtain ⟨rfl, Nq462, hh462⟩ := hQ462
        have N463 := Fr.app N450 Nq462
        have X462 : Stand p l e room_1 (s.setVm T449.vm) m _ below meth c T462 _ 14 1992 := X462
        refine go _ (T462.setTop (mkF m 101 #[.val (.int p1), .val (.int p2), .val (.int p3), .val (.int (1 : Int32)), .val (.int (0 : Int32)), .val (.int (f_rm1 (p3 &&& (7 : Int32)) p2 (0 : Int32))), .val (.ref b447), .val (.int (1 : Int32)), .unset] [(.int (own_sup (f_rm1 (p3 &&& (7 : Int32)) p2 (0 : Int32)) (Int32.ofNat 0)))])) (fun t k => st462.trans k) ?_
        refine go _ (T462.setTop (mkF m 103 #[.val (.int p1), .val (.int p2), .val (.int p3), .val (.int (1 : Int32)), .val (.int (0 : Int32)), .val (.int (f_rm1 (p3 &&& (7 : Int32)) p2 (0 : Int32))), .val (.ref b447), .val (.int (1 : Int32)), .val (.int (own_sup (f_rm1 (p3 &&& (7 : Int32)) p2 (0 : Int32)) (Int32.ofNat 0)))] [])) (fun t k => XS.istore X462.here hx rfl (hb hby at_101) rfl (l' := #[.val (.int p1), .val (.int p2), .val (.int p3), .val (.int (1 : Int32)), .val (.int (0 : Int32)), .val (.int (f_rm1 (p3 &&& (7 : Int32)) p2 (0 : Int32))), .val (.ref b447), .val (.int (1 : Int32)), .val (.int (own_sup (f_rm1 (p3 &&& (7 : Int32)) p2 (0 : Int32)) (Int32.ofNat 0)))]) rfl k) ?_
        refine go _ (T462.setTop (mkF m 105 #[.val (.int p1), .val (.int p2), .val (.int p3), .val (.int (1 : Int32)), .val (.int (0 : Int32)), .val (.int (f_rm1 (p3 &&& (7 : Int32)) p2 (0 : Int32))), .val (.ref b447), .val (.int (1 : Int32)), .val (.int (own_sup (f_rm1 (p3 &&& (7 : Int32)) p2 (0 : Int32)) (Int32.ofNat 0)))] [(.int (own_sup (f_rm1 (p3 &&& (7 : Int32)) p2 (0 : Int32)) (Int32.ofNat 0)))])) (fun t k => XS.iload X462.here hx rfl (hb hby at_103) rfl k) ?_
        refine go _ (T462.setTop (mkF m 107 #[.val (.int p1), .val (.int p2), .val (.int p3), .val (.int (1 : Int32)), .val (.int (0 : Int32)), .val (.int (f_rm1 (p3 &&& (7 : Int32)) p2 (0 : Int32))), .val (.ref b447), .val (.int (1 : Int32)), .val (.int (own_sup (f_rm1 (p3 &&& (7 : Int32)) p2 (0 : Int32)) (Int32.ofNat 0)))] [(.int (1 : Int32)), (.int (own_sup (f_rm1 (p3 &&& (7 : Int32)) p2 (0 : Int32)) (Int32.ofNat 0)))])) (fun t k => XS.iload X462.here hx rfl (hb hby at_105) rfl k) ?_
        have hsup : (own_sup (f_rm1 (p3 &&& (7 : Int32)) p2 (0 : Int32)) (Int32.ofNat 0)) = (1 : Int32) := own_s1 (show (0 : Int32).toInt = ((0 : Nat) : Int) from rfl) hc453 hc461
        have hc464 : ((own_sup (f_rm1 (p3 &&& (7 : Int32)) p2 (0 : Int32)) (Int32.ofNat 0)) = (1 : Int32)) := hsup
        refine go _ (T462.setTop (mkF m 112 #[.val (.int p1), .val (.int p2), .val (.int p3), .val (.int (1 : Int32)), .val (.int (0 : Int32)), .val (.int (f_rm1 (p3 &&& (7 : Int32)) p2 (0 : Int32))), .val (.ref b447), .val (.int (1 : Int32)), .val (.int (own_sup (f_rm1 (p3 &&& (7 : Int32)) p2 (0 : Int32)) (Int32.ofNat 0)))] [])) (fun t k => XS.icmpYes X462.here hx rfl (pc0 := 107) (pc' := 112) rfl (hb hby at_107) rfl (teq hc464).1 (by decide) (by decide) k) ?_
        refine go _ (T462.setTop (mkF m 114 #[.val (.int p1), .val (.int p2), .val (.int p3), .val (.int (1 : Int32)), .val (.int (0 : Int32)), .val (.int (f_rm1 (p3 &&& (7 : Int32)) p2 (0 : Int32))), .val (.ref b447), .val (.int (1 : Int32)), .val (.int (own_sup (f_rm1 (p3 &&& (7 : Int32)) p2 (0 : Int32)) (Int32.ofNat 0)))] [(.int (1 : Int32))])) (fun t k => XS.iload X462.here hx rfl (hb hby at_112) rfl k) ?_
        have hc465 : ¬ ((1 : Int32) = (0 : Int32)) := by decide
        refine go _ (T462.setTop (mkF m 117 #[.val (.int p1), .val (.int p2), .val (.int p3), .val (.int (1 : Int32)), .val (.int (0 : Int32)), .val (.int (f_rm1 (p3 &&& (7 : Int32)) p2 (0 : Int32))), .val (.ref b447), .val (.int (1 : Int32)), .val (.int (own_sup (f_rm1 (p3 &&& (7 : Int32)) p2 (0 : Int32)) (Int32.ofNat 0)))] [])) (fun t k => XS.ifNo X462.here hx rfl (hb hby at_114) rfl ((if0 _ _).trans (feq hc465).1) k) ?_
        refine go _ (T462.setTop (mkF m 119 #[.val (.int p1), .val (.int p2), .val (.int p3), .val (.int (1 : Int32)), .val (.int (0 : Int32)), .val (.int (f_rm1 (p3 &&& (7 : Int32)) p2 (0 : Int32))), .val (.ref b447), .val (.int (1 : Int32)), .val (.int (own_sup (f_rm1 (p3 &&& (7 : Int32)) p2 (0 : Int32)) (Int32.ofNat 0)))] [(.ref b447)])) (fun t k => XS.aload X462.here hx rfl (hb hby at_117) rfl rfl k) ?_
        refine go _ (T462.setTop (mkF m 120 #[.val (.int p1), .val (.int p2), .val (.int p3), .val (.int (1 : Int32)), .val (.int (0 : Int32)), .val (.int (f_rm1 (p3 &&& (7 : Int32)) p2 (0 : Int32))), .val (.ref b447), .val (.int (1 : Int32)), .val (.int (own_sup (f_rm1 (p3 &&& (7 : Int32)) p2 (0 : Int32)) (Int32.ofNat 0)))] [(.int (1 : Int32)), (.ref b447)])) (fun t k => XS.iconst X462.here hx rfl (hb hby at_119) k) ?_
        refine go _ (T462.setTop (mkF m 122 #[.val (.int p1), .val (.int p2), .val (.int p3), .val (.int (1 : Int32)), .val (.int (0 : Int32)), .val (.int (f_rm1 (p3 &&& (7 : Int32)) p2 (0 : Int32))), .val (.ref b447), .val (.int (1 : Int32)), .val (.int (own_sup (f_rm1 (p3 &&& (7 : Int32)) p2 (0 : Int32)) (Int32.ofNat 0)))] [(.int (f_rm1 (p3 &&& (7 : Int32)) p2 (0 : Int32))), (.int (1 : Int32)), (.ref b447)])) (fun t k => XS.iload X462.here hx rfl (hb hby at_120) rfl k) ?_
        obtain ⟨i, hj, hi⟩ := own_i (show (0 : Int32).toInt = ((0 : Nat) : Int) from rfl) hc453 hc461
        have hs1 : ¬ (own_sup (f_rm1 (p3 &&& (7 : Int32)) p2 (0 : Int32)) (Int32.ofNat 0) = (0 : Int32)) := by rw [hsup]; decide
        obtain ⟨cq466, kq466, q466a, q466b, q466c⟩ := isOf hZ hh462 B451
        obtain ⟨_, _, ⟨T466, L466, k466, n466⟩, -, X466, ⟨Lc466, hQ466, l466, y466, z466⟩, st466⟩ := X462.virtualBack hx (y := (⟨"formlet/input/Buttons", "enableClick", "(ZI)V"⟩ : MethodName)) (z := (⟨"formlet/input/Buttons", "enableClick", "(ZI)V"⟩ : MethodName)) hown (mvT hZ (hw _ (List.mem_of_getElem? (i := 96) rfl))) (mvT hZ (hw _ (List.mem_of_getElem? (i := 97) rfl))) (notFace_of_selects (args := #[]) (mvT hZ (hw _ (List.mem_of_getElem? (i := 99) rfl)))) (mvT hZ (hw _ (List.mem_of_getElem? (i := 99) rfl))) (mvT hZ (hw _ (List.mem_of_getElem? (i := 98) rfl))) (by decide) (backOfWith (W := 0) (rm12 l Z a0 hw [] b447 (1 : Int32) (f_rm1 (p3 &&& (7 : Int32)) p2 (0 : Int32)) ck449 0 _ lk449 i T449.heap n0 Z452 B451 Fc449 Aq449 Fl449 Uq449 nk449 ne_b447_ck449 ge_ck449 (by decide) (by decide) hs1 hj hi) hZ (hw _ (List.mem_of_getElem? (i := 100) rfl)) (hw _ (List.mem_of_getElem? (i := 6) rfl)) (by decide) (by decide)) q466a q466c (g := (mkF m 122 #[.val (.int p1), .val (.int p2), .val (.int p3), .val (.int (1 : Int32)), .val (.int (0 : Int32)), .val (.int (f_rm1 (p3 &&& (7 : Int32)) p2 (0 : Int32))), .val (.ref b447), .val (.int (1 : Int32)), .val (.int (own_sup (f_rm1 (p3 &&& (7 : Int32)) p2 (0 : Int32)) (Int32.ofNat 0)))] [(.int (f_rm1 (p3 &&& (7 : Int32)) p2 (0 : Int32))), (.int (1 : Int32)), (.ref b447)])) rfl (by rw [hml]; rfl) (Steps.refl _) (argsL := [(.int (1 : Int32)), (.int (f_rm1 (p3 &&& (7 : Int32)) p2 (0 : Int32)))]) (rest := []) (lenOf pd_3 rfl) rfl (by show 2 * 0 + _ ≤ _; exact Nat.le_of_eq rfl) (hb hby at_122) (fun _ _ => ⟨rfl, hh462, (by decide : 14 + 0 ≤ _), (by decide : 1992 + 0 ≤ _)⟩)
        dsimp only [Pt.U, Pt.locs, Pt.cells, Pt.slots] at X466 l466 y466 z466 st466 hQ466
        rw [l466, y466, z466] at X466
        obtain ⟨rfl, Nq466, Kq466, Aq466⟩ := hQ466
        have N467 := Fr.app N463 Nq466
        have X466 : Stand p l e room_1 (s.setVm T449.vm) m _ below meth c T466 _ 14 1992 := X466
        have Z468 : n0 ≤ T466.heap.size := Nat.le_trans Z452 Kq466.1
        have M469 : nS ≤ T466.heap.size := Nat.le_trans MS0 Kq466.1
        have B470 := B451.keep Kq466
        have U471 := Uq449.keep Kq466 (ninS nk449 nin0)
        have F472 := Fl449.keep Kq466 (ninS ne_b447_ck449 nin0)
        have F473 := Fc449.keep Kq466 (ninS ne_b447_ck449 nin0)
        refine go _ (T466.setTop (mkF m 125 #[.val (.int p1), .val (.int p2), .val (.int p3), .val (.int (1 : Int32)), .val (.int (0 : Int32)), .val (.int (f_rm1 (p3 &&& (7 : Int32)) p2 (0 : Int32))), .val (.ref b447), .val (.int (1 : Int32)), .val (.int (own_sup (f_rm1 (p3 &&& (7 : Int32)) p2 (0 : Int32)) (Int32.ofNat 0)))] [])) (fun t k => st466.trans k) ?_
        refine go _ (T466.setTop (mkF m 127 #[.val (.int p1), .val (.int p2), .val (.int p3), .val (.int (1 : Int32)), .val (.int (0 : Int32)), .val (.int (f_rm1 (p3 &&& (7 : Int32)) p2 (0 : Int32))), .val (.ref b447), .val (.int (1 : Int32)), .val (.int (own_sup (f_rm1 (p3 &&& (7 : Int32)) p2 (0 : Int32)) (Int32.ofNat 0)))] [(.ref b447)])) (fun t k => XS.aload X466.here hx rfl (hb hby at_125) rfl rfl k) ?_
        refine go _ (T466.setTop (mkF m 129 #[.val (.int p1), .val (.int p2), .val (.int p3), .val (.int (1 : Int32)), .val (.int (0 : Int32)), .val (.int (f_rm1 (p3 &&& (7 : Int32)) p2 (0 : Int32))), .val (.ref b447), .val (.int (1 : Int32)), .val (.int (own_sup (f_rm1 (p3 &&& (7 : Int32)) p2 (0 : Int32)) (Int32.ofNat 0)))] [(.int (f_rm1 (p3 &&& (7 : Int32)) p2 (0 : Int32))), (.ref b447)])) (fun t k => XS.iload X466.here hx rfl (hb hby at_127) rfl k) ?_
        obtain ⟨cq474, kq474, q474a, q474b, q474c⟩ := isOf hZ rfl B470
        obtain ⟨_, _, ⟨T474, L474, k474, n474⟩, -, X474, ⟨Lc474, hQ474, l474, y474, z474⟩, st474⟩ := X466.virtualBack hx (y := (⟨"formlet/input/Buttons", "clickEnabled", "(I)Z"⟩ : MethodName)) (z := (⟨"formlet/input/Buttons", "clickEnabled", "(I)Z"⟩ : MethodName)) hown (mvT hZ (hw _ (List.mem_of_getElem? (i := 86) rfl))) (mvT hZ (hw _ (List.mem_of_getElem? (i := 87) rfl))) (notFace_of_selects (args := #[]) (mvT hZ (hw _ (List.mem_of_getElem? (i := 89) rfl)))) (mvT hZ (hw _ (List.mem_of_getElem? (i := 89) rfl))) (mvT hZ (hw _ (List.mem_of_getElem? (i := 88) rfl))) (by decide) (backOfWith (W := 0) (rm10y l Z a0 hw [] b447 (f_rm1 (p3 &&& (7 : Int32)) p2 (0 : Int32)) ck449 0 _ lk449 i (1 : Int32) T466.heap n0 Z468 B470 F473 Aq466 F472 U471 nk449 ne_b447_ck449 hs1 hj hi (own_hit _ _ _) (by decide)) hZ (hw _ (List.mem_of_getElem? (i := 90) rfl)) (hw _ (List.mem_of_getElem? (i := 6) rfl)) (by decide) (by decide)) q474a q474c (g := (mkF m 129 #[.val (.int p1), .val (.int p2), .val (.int p3), .val (.int (1 : Int32)), .val (.int (0 : Int32)), .val (.int (f_rm1 (p3 &&& (7 : Int32)) p2 (0 : Int32))), .val (.ref b447), .val (.int (1 : Int32)), .val (.int (own_sup (f_rm1 (p3 &&& (7 : Int32)) p2 (0 : Int32)) (Int32.ofNat 0)))] [(.int (f_rm1 (p3 &&& (7 : Int32)) p2 (0 : Int32))), (.ref b447)])) rfl (by rw [hml]; rfl) (Steps.refl _) (argsL := [(.int (f_rm1 (p3 &&& (7 : Int32)) p2 (0 : Int32)))]) (rest := []) (lenOf pd_4 rfl) rfl (by show 2 * 0 + _ ≤ _; exact Nat.le_of_eq rfl) (hb hby at_129) (fun _ _ => ⟨rfl, rfl, (by decide : 14 + 0 ≤ _), (by decide : 1992 + 0 ≤ _)⟩)
        dsimp only [Pt.U, Pt.locs, Pt.cells, Pt.slots] at X474 l474 y474 z474 st474 hQ474
        rw [l474, y474, z474] at X474
        obtain ⟨rfl, Nq474, hh474⟩ := hQ474
        have N475 := Fr.app N467 Nq474
        have X474 : Stand p l e room_1 (s.setVm T449.vm) m _ below meth c T474 _ 14 1992 := X474
        refine go _ (T474.setTop (mkF m 132 #[.val (.int p1), .val (.int p2), .val (.int p3), .val (.int (1 : Int32)), .val (.int (0 : Int32)), .val (.int (f_rm1 (p3 &&& (7 : Int32)) p2 (0 : Int32))), .val (.ref b447), .val (.int (1 : Int32)), .val (.int (own_sup (f_rm1 (p3 &&& (7 : Int32)) p2 (0 : Int32)) (Int32.ofNat 0)))] [(.int (1 : Int32))])) (fun t k => st474.trans k) ?_
        exact fin (some (.int (1 : Int32))) X474 hS (by rw [hh474]; exact M469) (by decide) (by decide) (fun q => by cases q) (show Q_rm0 Z p1 p2 p3 h0 n0 _ T474.heap _ from (by rw [hh474]; exact ⟨rfl, N475⟩)) (fun fs hr => retN X474 hx (t := .boolean) hret (by simp) (hb hby at_132) hr)
      · refine go _ (T449.setTop (mkF m 91 #[.val (.int p1), .val (.int p2), .val (.int p3), .val (.int (1 : Int32)), .val (.int (0 : Int32)), .val (.int (f_rm1 (p3 &&& (7 : Int32)) p2 (0 : Int32))), .val (.ref b447), .unset, .unset] [])) (fun t k => XS.ifYes X449.here hx rfl (pc0 := 84) (pc' := 91) rfl (hb hby at_84) rfl ((if0 _ _).trans (flt (fun q => hc461 ((lw_lt ((f_rm1 (p3 &&& (7 : Int32)) p2 (0 : Int32)).toInt64) ((0 : Int32).toInt64)).mp q))).2.1) (by decide) (by decide) k) ?_
        refine go _ (T449.setTop (mkF m 92 #[.val (.int p1), .val (.int p2), .val (.int p3), .val (.int (1 : Int32)), .val (.int (0 : Int32)), .val (.int (f_rm1 (p3 &&& (7 : Int32)) p2 (0 : Int32))), .val (.ref b447), .unset, .unset] [(.int (0 : Int32))])) (fun t k => XS.iconst X449.here hx rfl (hb hby at_91) k) ?_
        refine go _ (T449.setTop (mkF m 94 #[.val (.int p1), .val (.int p2), .val (.int p3), .val (.int (1 : Int32)), .val (.int (0 : Int32)), .val (.int (f_rm1 (p3 &&& (7 : Int32)) p2 (0 : Int32))), .val (.ref b447), .val (.int (0 : Int32)), .unset] [])) (fun t k => XS.istore X449.here hx rfl (hb hby at_92) rfl (l' := #[.val (.int p1), .val (.int p2), .val (.int p3), .val (.int (1 : Int32)), .val (.int (0 : Int32)), .val (.int (f_rm1 (p3 &&& (7 : Int32)) p2 (0 : Int32))), .val (.ref b447), .val (.int (0 : Int32)), .unset]) rfl k) ?_
        refine go _ (T449.setTop (mkF m 96 #[.val (.int p1), .val (.int p2), .val (.int p3), .val (.int (1 : Int32)), .val (.int (0 : Int32)), .val (.int (f_rm1 (p3 &&& (7 : Int32)) p2 (0 : Int32))), .val (.ref b447), .val (.int (0 : Int32)), .unset] [(.ref b447)])) (fun t k => XS.aload X449.here hx rfl (hb hby at_94) rfl rfl k) ?_
        refine go _ (T449.setTop (mkF m 98 #[.val (.int p1), .val (.int p2), .val (.int p3), .val (.int (1 : Int32)), .val (.int (0 : Int32)), .val (.int (f_rm1 (p3 &&& (7 : Int32)) p2 (0 : Int32))), .val (.ref b447), .val (.int (0 : Int32)), .unset] [(.int (f_rm1 (p3 &&& (7 : Int32)) p2 (0 : Int32))), (.ref b447)])) (fun t k => XS.iload X449.here hx rfl (hb hby at_96) rfl k) ?_
        obtain ⟨cq476, kq476, q476a, q476b, q476c⟩ := isOf hZ rfl B451
        obtain ⟨_, _, ⟨T476, L476, k476, n476⟩, -, X476, ⟨Lc476, hQ476, l476, y476, z476⟩, st476⟩ := X449.virtualBack hx (y := (⟨"formlet/input/Buttons", "supportsExtendedFeatures", "(I)Z"⟩ : MethodName)) (z := (⟨"formlet/input/Buttons", "supportsExtendedFeatures", "(I)Z"⟩ : MethodName)) hown (mvT hZ (hw _ (List.mem_of_getElem? (i := 81) rfl))) (mvT hZ (hw _ (List.mem_of_getElem? (i := 82) rfl))) (notFace_of_selects (args := #[]) (mvT hZ (hw _ (List.mem_of_getElem? (i := 84) rfl)))) (mvT hZ (hw _ (List.mem_of_getElem? (i := 84) rfl))) (mvT hZ (hw _ (List.mem_of_getElem? (i := 83) rfl))) (by decide) (backOf (W := 0) (rm9 l Z a0 hw [] b447 (f_rm1 (p3 &&& (7 : Int32)) p2 (0 : Int32)) ck449 0 _ T449.heap n0 Z452 Fc449 Aq449) hZ (hw _ (List.mem_of_getElem? (i := 85) rfl)) (hw _ (List.mem_of_getElem? (i := 6) rfl)) (by decide) (by decide)) q476a q476c (g := (mkF m 98 #[.val (.int p1), .val (.int p2), .val (.int p3), .val (.int (1 : Int32)), .val (.int (0 : Int32)), .val (.int (f_rm1 (p3 &&& (7 : Int32)) p2 (0 : Int32))), .val (.ref b447), .val (.int (0 : Int32)), .unset] [(.int (f_rm1 (p3 &&& (7 : Int32)) p2 (0 : Int32))), (.ref b447)])) rfl (by rw [hml]; rfl) (Steps.refl _) (argsL := [(.int (f_rm1 (p3 &&& (7 : Int32)) p2 (0 : Int32)))]) (rest := []) (lenOf pd_4 rfl) rfl (by show 2 * 0 + _ ≤ _; exact Nat.le_of_eq rfl) (hb hby at_98) (fun _ _ => ⟨rfl, rfl, (by decide : 14 + 0 ≤ _), (by decide : 1992 + 0 ≤ _)⟩)
        dsimp only [Pt.U, Pt.locs, Pt.cells, Pt.slots] at X476 l476 y476 z476 st476 hQ476
        rw [l476, y476, z476] at X476
        obtain ⟨rfl, Nq476, hh476⟩ := hQ476
        have N477 := Fr.app N450 Nq476
        have X476 : Stand p l e room_1 (s.setVm T449.vm) m _ below meth c T476 _ 14 1992 := X476
        refine go _ (T476.setTop (mkF m 101 #[.val (.int p1), .val (.int p2), .val (.int p3), .val (.int (1 : Int32)), .val (.int (0 : Int32)), .val (.int (f_rm1 (p3 &&& (7 : Int32)) p2 (0 : Int32))), .val (.ref b447), .val (.int (0 : Int32)), .unset] [(.int (own_sup (f_rm1 (p3 &&& (7 : Int32)) p2 (0 : Int32)) (Int32.ofNat 0)))])) (fun t k => st476.trans k) ?_
        refine go _ (T476.setTop (mkF m 103 #[.val (.int p1), .val (.int p2), .val (.int p3), .val (.int (1 : Int32)), .val (.int (0 : Int32)), .val (.int (f_rm1 (p3 &&& (7 : Int32)) p2 (0 : Int32))), .val (.ref b447), .val (.int (0 : Int32)), .val (.int (own_sup (f_rm1 (p3 &&& (7 : Int32)) p2 (0 : Int32)) (Int32.ofNat 0)))] [])) (fun t k => XS.istore X476.here hx rfl (hb hby at_101) rfl (l' := #[.val (.int p1), .val (.int p2), .val (.int p3), .val (.int (1 : Int32)), .val (.int (0 : Int32)), .val (.int (f_rm1 (p3 &&& (7 : Int32)) p2 (0 : Int32))), .val (.ref b447), .val (.int (0 : Int32)), .val (.int (own_sup (f_rm1 (p3 &&& (7 : Int32)) p2 (0 : Int32)) (Int32.ofNat 0)))]) rfl k) ?_
        refine go _ (T476.setTop (mkF m 105 #[.val (.int p1), .val (.int p2), .val (.int p3), .val (.int (1 : Int32)), .val (.int (0 : Int32)), .val (.int (f_rm1 (p3 &&& (7 : Int32)) p2 (0 : Int32))), .val (.ref b447), .val (.int (0 : Int32)), .val (.int (own_sup (f_rm1 (p3 &&& (7 : Int32)) p2 (0 : Int32)) (Int32.ofNat 0)))] [(.int (own_sup (f_rm1 (p3 &&& (7 : Int32)) p2 (0 : Int32)) (Int32.ofNat 0)))])) (fun t k => XS.iload X476.here hx rfl (hb hby at_103) rfl k) ?_
        refine go _ (T476.setTop (mkF m 107 #[.val (.int p1), .val (.int p2), .val (.int p3), .val (.int (1 : Int32)), .val (.int (0 : Int32)), .val (.int (f_rm1 (p3 &&& (7 : Int32)) p2 (0 : Int32))), .val (.ref b447), .val (.int (0 : Int32)), .val (.int (own_sup (f_rm1 (p3 &&& (7 : Int32)) p2 (0 : Int32)) (Int32.ofNat 0)))] [(.int (0 : Int32)), (.int (own_sup (f_rm1 (p3 &&& (7 : Int32)) p2 (0 : Int32)) (Int32.ofNat 0)))])) (fun t k => XS.iload X476.here hx rfl (hb hby at_105) rfl k) ?_
        have hsup : (own_sup (f_rm1 (p3 &&& (7 : Int32)) p2 (0 : Int32)) (Int32.ofNat 0)) = (0 : Int32) := own_s0b (show (0 : Int32).toInt = ((0 : Nat) : Int) from rfl) hc461
        have hc478 : ((own_sup (f_rm1 (p3 &&& (7 : Int32)) p2 (0 : Int32)) (Int32.ofNat 0)) = (0 : Int32)) := hsup
        refine go _ (T476.setTop (mkF m 112 #[.val (.int p1), .val (.int p2), .val (.int p3), .val (.int (1 : Int32)), .val (.int (0 : Int32)), .val (.int (f_rm1 (p3 &&& (7 : Int32)) p2 (0 : Int32))), .val (.ref b447), .val (.int (0 : Int32)), .val (.int (own_sup (f_rm1 (p3 &&& (7 : Int32)) p2 (0 : Int32)) (Int32.ofNat 0)))] [])) (fun t k => XS.icmpYes X476.here hx rfl (pc0 := 107) (pc' := 112) rfl (hb hby at_107) rfl (teq hc478).1 (by decide) (by decide) k) ?_
        refine go _ (T476.setTop (mkF m 114 #[.val (.int p1), .val (.int p2), .val (.int p3), .val (.int (1 : Int32)), .val (.int (0 : Int32)), .val (.int (f_rm1 (p3 &&& (7 : Int32)) p2 (0 : Int32))), .val (.ref b447), .val (.int (0 : Int32)), .val (.int (own_sup (f_rm1 (p3 &&& (7 : Int32)) p2 (0 : Int32)) (Int32.ofNat 0)))] [(.int (0 : Int32))])) (fun t k => XS.iload X476.here hx rfl (hb hby at_112) rfl k) ?_
        have hc479 : ((0 : Int32) = (0 : Int32)) := by decide
        refine go _ (T476.setTop (mkF m 133 #[.val (.int p1), .val (.int p2), .val (.int p3), .val (.int (1 : Int32)), .val (.int (0 : Int32)), .val (.int (f_rm1 (p3 &&& (7 : Int32)) p2 (0 : Int32))), .val (.ref b447), .val (.int (0 : Int32)), .val (.int (own_sup (f_rm1 (p3 &&& (7 : Int32)) p2 (0 : Int32)) (Int32.ofNat 0)))] [])) (fun t k => XS.ifYes X476.here hx rfl (pc0 := 114) (pc' := 133) rfl (hb hby at_114) rfl ((if0 _ _).trans (teq hc479).1) (by decide) (by decide) k) ?_
        refine go _ (T476.setTop (mkF m 135 #[.val (.int p1), .val (.int p2), .val (.int p3), .val (.int (1 : Int32)), .val (.int (0 : Int32)), .val (.int (f_rm1 (p3 &&& (7 : Int32)) p2 (0 : Int32))), .val (.ref b447), .val (.int (0 : Int32)), .val (.int (own_sup (f_rm1 (p3 &&& (7 : Int32)) p2 (0 : Int32)) (Int32.ofNat 0)))] [(.ref b447)])) (fun t k => XS.aload X476.here hx rfl (hb hby at_133) rfl rfl k) ?_
        refine go _ (T476.setTop (mkF m 137 #[.val (.int p1), .val (.int p2), .val (.int p3), .val (.int (1 : Int32)), .val (.int (0 : Int32)), .val (.int (f_rm1 (p3 &&& (7 : Int32)) p2 (0 : Int32))), .val (.ref b447), .val (.int (0 : Int32)), .val (.int (own_sup (f_rm1 (p3 &&& (7 : Int32)) p2 (0 : Int32)) (Int32.ofNat 0)))] [(.int (f_rm1 (p3 &&& (7 : Int32)) p2 (0 : Int32))), (.ref b447)])) (fun t k => XS.iload X476.here hx rfl (hb hby at_135) rfl k) ?_
        obtain ⟨cq480, kq480, q480a, q480b, q480c⟩ := isOf hZ hh476 B451
        obtain ⟨_, _, ⟨T480, L480, k480, n480⟩, -, X480, ⟨Lc480, hQ480, l480, y480, z480⟩, st480⟩ := X476.virtualBack hx (y := (⟨"formlet/input/Buttons", "clickEnabled", "(I)Z"⟩ : MethodName)) (z := (⟨"formlet/input/Buttons", "clickEnabled", "(I)Z"⟩ : MethodName)) hown (mvT hZ (hw _ (List.mem_of_getElem? (i := 86) rfl))) (mvT hZ (hw _ (List.mem_of_getElem? (i := 87) rfl))) (notFace_of_selects (args := #[]) (mvT hZ (hw _ (List.mem_of_getElem? (i := 89) rfl)))) (mvT hZ (hw _ (List.mem_of_getElem? (i := 89) rfl))) (mvT hZ (hw _ (List.mem_of_getElem? (i := 88) rfl))) (by decide) (backOfWith (W := 0) (rm10n l Z a0 hw [] b447 (f_rm1 (p3 &&& (7 : Int32)) p2 (0 : Int32)) ck449 0 _ T449.heap n0 Z452 B451 Fc449 Aq449 hsup) hZ (hw _ (List.mem_of_getElem? (i := 90) rfl)) (hw _ (List.mem_of_getElem? (i := 6) rfl)) (by decide) (by decide)) q480a q480c (g := (mkF m 137 #[.val (.int p1), .val (.int p2), .val (.int p3), .val (.int (1 : Int32)), .val (.int (0 : Int32)), .val (.int (f_rm1 (p3 &&& (7 : Int32)) p2 (0 : Int32))), .val (.ref b447), .val (.int (0 : Int32)), .val (.int (own_sup (f_rm1 (p3 &&& (7 : Int32)) p2 (0 : Int32)) (Int32.ofNat 0)))] [(.int (f_rm1 (p3 &&& (7 : Int32)) p2 (0 : Int32))), (.ref b447)])) rfl (by rw [hml]; rfl) (Steps.refl _) (argsL := [(.int (f_rm1 (p3 &&& (7 : Int32)) p2 (0 : Int32)))]) (rest := []) (lenOf pd_4 rfl) rfl (by show 2 * 0 + _ ≤ _; exact Nat.le_of_eq rfl) (hb hby at_137) (fun _ _ => ⟨rfl, hh476, (by decide : 14 + 0 ≤ _), (by decide : 1992 + 0 ≤ _)⟩)
        dsimp only [Pt.U, Pt.locs, Pt.cells, Pt.slots] at X480 l480 y480 z480 st480 hQ480
        rw [l480, y480, z480] at X480
        obtain ⟨rfl, Nq480, hh480⟩ := hQ480
        have N481 := Fr.app N477 Nq480
        have X480 : Stand p l e room_1 (s.setVm T449.vm) m _ below meth c T480 _ 14 1992 := X480
        refine go _ (T480.setTop (mkF m 140 #[.val (.int p1), .val (.int p2), .val (.int p3), .val (.int (1 : Int32)), .val (.int (0 : Int32)), .val (.int (f_rm1 (p3 &&& (7 : Int32)) p2 (0 : Int32))), .val (.ref b447), .val (.int (0 : Int32)), .val (.int (own_sup (f_rm1 (p3 &&& (7 : Int32)) p2 (0 : Int32)) (Int32.ofNat 0)))] [(.int (0 : Int32))])) (fun t k => st480.trans k) ?_
        have hc482 : ((0 : Int32) = (0 : Int32)) := by decide
        refine go _ (T480.setTop (mkF m 143 #[.val (.int p1), .val (.int p2), .val (.int p3), .val (.int (1 : Int32)), .val (.int (0 : Int32)), .val (.int (f_rm1 (p3 &&& (7 : Int32)) p2 (0 : Int32))), .val (.ref b447), .val (.int (0 : Int32)), .val (.int (own_sup (f_rm1 (p3 &&& (7 : Int32)) p2 (0 : Int32)) (Int32.ofNat 0)))] [])) (fun t k => XS.ifNo X480.here hx rfl (hb hby at_140) rfl ((if0 _ _).trans (teq hc482).2) k) ?_
        refine go _ (T480.setTop (mkF m 144 #[.val (.int p1), .val (.int p2), .val (.int p3), .val (.int (1 : Int32)), .val (.int (0 : Int32)), .val (.int (f_rm1 (p3 &&& (7 : Int32)) p2 (0 : Int32))), .val (.ref b447), .val (.int (0 : Int32)), .val (.int (own_sup (f_rm1 (p3 &&& (7 : Int32)) p2 (0 : Int32)) (Int32.ofNat 0)))] [(.int (1 : Int32))])) (fun t k => XS.iconst X480.here hx rfl (hb hby at_143) k) ?_
        refine go _ (T480.setTop (mkF m 148 #[.val (.int p1), .val (.int p2), .val (.int p3), .val (.int (1 : Int32)), .val (.int (0 : Int32)), .val (.int (f_rm1 (p3 &&& (7 : Int32)) p2 (0 : Int32))), .val (.ref b447), .val (.int (0 : Int32)), .val (.int (own_sup (f_rm1 (p3 &&& (7 : Int32)) p2 (0 : Int32)) (Int32.ofNat 0)))] [(.int (1 : Int32))])) (fun t k => XS.goto X480.here hx rfl (pc0 := 144) (pc' := 148) rfl (hb hby at_144) (by decide) (by decide) k) ?_
        exact fin (some (.int (1 : Int32))) X480 hS (by rw [hh480]; exact MS0) (by decide) (by decide) (fun q => by cases q) (show Q_rm0 Z p1 p2 p3 h0 n0 _ T480.heap _ from (by rw [hh480]; exact ⟨rfl, N481⟩)) (fun fs hr => retN X480 hx (t := .boolean) hret (by simp) (hb hby at_148) hr)
set_option maxRecDepth 65536 in
set_option maxHeartbeats 40000000 in
theorem comes_1 {Post : Tables → Env → Array Value → State → Outcome → State → Prop} (hpost : ∀ tb e args s v u, (limb_1_1.after args s (.returned v) u = true ∧ limb_1_2.after args s (.returned v) u = true ∧ True) → FramedW s (.returned v) u (Jvm.fieldLocs frame_1_writes args s ++ Jvm.arrayLocs frame_1_arrays args s ++ Jvm.staticLocs frame_1_statics s) 40 4800 → Post tb e args s (.returned v) u) :
    ArmFor flags0 classFile x code maxLocals ret World_1 tables_1 room_1 Calls_1 rest_1 Pre_1 Post := by
  intro l hfl _ _ p e ha hc hk s m args below hf hA hF happ hP
  obtain ⟨hcalls, hrest, hpre⟩ := hP
  obtain ⟨-, -, -, hnamed, -, -, -, hat⟩ := (Spec.applies_iff hf).mp happ
  obtain ⟨hg, hn⟩ := and_e (Cond.before_iff.mp (show (Jvm.Cond.and given_1 narrow_1).before args s = true from hpre))
  obtain ⟨gc, g1⟩ := and_e hg
  obtain ⟨ga0, g2⟩ := and_e g1
  obtain ⟨ga1, g3⟩ := and_e g2
  have ga2 := g3
  obtain ⟨w0, w1, w2, rfl⟩ : ∃ w0 w1 w2 : Value, args = #[w0, w1, w2] := by
    have hs : args.size = 3 := by simpa [Cond.value, given_1] using gc
    obtain ⟨L⟩ := args
    match L, hs with
    | [w0, w1, w2], _ => exact ⟨w0, w1, w2, rfl⟩
  have hw := fun d (hd : d ∈ tables_1) => atoms_spec (ws := Jvm.Cond.code x code maxLocals ret :: tables_1) hat d (List.mem_cons_of_mem _ hd)
  obtain ⟨i0, ei0⟩ := is_v ga0
  obtain rfl : w0 = (.int i0) := Option.some.inj ei0
  obtain ⟨i1, ei1⟩ := is_v ga1
  obtain rfl : w1 = (.int i1) := Option.some.inj ei1
  obtain ⟨i2, ei2⟩ := is_v ga2
  obtain rfl : w2 = (.int i2) := Option.some.inj ei2
  obtain ⟨n, o, h1, h2, h3, _, L, rfl, ⟨rfl, N⟩, hq⟩ := rm0 l s _ hw tables_1 i0 i1 i2 s.heap s.heap.size (Nat.le_refl _) p e ha hc hk s m _ below hf ((Spec.applies_iff_loose hf).mp happ).1 ⟨rfl, State.Warmed39.refl s, rfl⟩ trivial
  refine ⟨n, _, h1, h2, h3, hpost _ _ _ _ _ _ ⟨Cond.after_iff.mpr rfl, Cond.after_iff.mpr (eq_i res_at (Term.int_eval (1)) rfl), trivial⟩ ⟨hq.1, hq.2.1, hq.2.2.1, (hq.2.2.2.sift fun y hy => Or.inr (N y hy)).mono (by decide) (by decide)⟩⟩
theorem main_1_1 : Claimed_1_1 := comes_1 fun _ _ _ _ _ _ h hF => ⟨h.1, hF⟩
theorem main_1_2 : Claimed_1_2 := comes_1 fun _ _ _ _ _ _ h hF => ⟨h.2.1, hF⟩
end Jvm.Pilot.@@N@@
namespace Jvm.Pilot.@@N@@
open Jvm Jvm.ClassFile Sem Op Lib Jvm.Free Jvm.Stand Jvm.Pilot.@@N@@.Jvm.D
/-! MADE BY PROGRAM (witnessworld.py) out of the Statement's table words and the real class files: 28 classes; the members and pool entries that the words name. The judged class is class 1, her method 2. -/
namespace start1
open Jvm.ClassFile
def u (s : String) : CpInfo := .utf8 (stringToUtf16 s)
/-- a pool by its gaps: so many unusable entries, then the entry; so many at the end -/
def gap : Nat → List CpInfo → List CpInfo
  | 0, r => r
  | n + 1, r => .unusable :: gap n r
def poolList (es : List (Nat × CpInfo)) (last : Nat) : List CpInfo := es.foldr (fun e r => gap e.1 (e.2 :: r)) (gap last [])
def pool (es : List (Nat × CpInfo)) (last : Nat) : Array CpInfo := ⟨poolList es last⟩
def fileOf (pool : Array CpInfo) (this : Nat) (attrs : Array Attribute := #[]) (ms : Array MethodInfo := #[]) (fl : Nat := 33) (sup : Nat := 0) (ifs : Array Nat := #[]) (fds : Array FieldInfo := #[]) : ClassFile where
  minorVersion := 0
  majorVersion := 65
  constantPool := pool
  accessFlags := fl
  thisClass := this
  superClass := sup
  interfaces := ifs
  fields := fds
  methods := ms
  attributes := attrs
def plain (name : String) (sup : Option ClassId) : Class where
  name := name
  kind := .ordinary
  loader := none
  accessFlags := 33
  super := sup
  interfaces := #[]
  cf := none
  fields := #[]
  methods := #[]
  instanceTypes := #[]
  staticTypes := #[]
  resolved := #[]
  callSites := []
  init := .initialized
  statics := none
  mirror := none

def pool0 : Array CpInfo := pool [(5, u "<init>"), (0, u "()V"), (1, .class_ 10), (1, u "java/lang/Object")] 113

def k0c0 : Code := { maxStack := 0, maxLocals := 1, code := object_method_1_code, exceptionTable := #[], attributes := #[] }
def k0m0 : Method := { name := "<init>", desc := "()V", sig := { parameters := [], returnType := none }, accessFlags := 1, code := some k0c0 }
/-- java/lang/Object -/
def k0 : Class := { plain "java/lang/Object" none with
  accessFlags := 33
  interfaces := #[]
  cf := some (fileOf pool0 8 #[] #[{ accessFlags := 1, nameIndex := 5, descriptorIndex := 6, attributes := #[] }] 33 0 #[] #[])
  fields := #[]
  methods := #[k0m0]
  instanceTypes := #[]
  staticTypes := #[]
  resolved := Array.replicate 124 none
  statics := none }

def pool1 : Array CpInfo := pool [(2, .class_ 4), (0, .nameAndType 5 6), (0, u "java/lang/Object"), (0, u "<init>"), (0, u "()V"), (0, .methodref 8 9), (0, .class_ 10), (0, .nameAndType 11 12), (0, u "formlet/input/ButtonsSupportsExtendedFeaturesPinLaw"), (0, u "pickId"), (0, u "(III)I"), (0, .class_ 14), (0, u "formlet/input/Buttons"), (0, .methodref 13 3), (0, .methodref 13 17), (0, .nameAndType 5 18), (0, u "(I)V"), (0, .methodref 13 20), (0, .nameAndType 21 22), (0, u "supportsExtendedFeatures"), (0, u "(I)Z"), (0, .methodref 13 24), (0, .nameAndType 25 26), (0, u "enableClick"), (0, u "(ZI)V"), (0, .methodref 13 28), (0, .nameAndType 29 22), (0, u "clickEnabled"), (3, u "law"), (0, u "(III)Z")] 2

def k1m0 : Method := { name := "<init>", desc := "()V", sig := { parameters := [], returnType := none }, accessFlags := 1, code := none }
def k1c1 : Code := { maxStack := 2, maxLocals := 3, code := method_2_code, exceptionTable := #[], attributes := #[] }
def k1m1 : Method := { name := "pickId", desc := "(III)I", sig := { parameters := [.int, .int, .int], returnType := some .int }, accessFlags := 10, code := some k1c1 }
def k1c2 : Code := { maxStack := 4, maxLocals := 9, code := code, exceptionTable := #[], attributes := #[] }
def k1m2 : Method := { name := "law", desc := "(III)Z", sig := { parameters := [.int, .int, .int], returnType := some .boolean }, accessFlags := 9, code := some k1c2 }
/-- formlet/input/ButtonsSupportsExtendedFeaturesPinLaw -/
def k1 : Class := { plain "formlet/input/ButtonsSupportsExtendedFeaturesPinLaw" (some 0) with
  accessFlags := 49
  interfaces := #[]
  cf := some (fileOf pool1 8 #[] #[{ accessFlags := 1, nameIndex := 5, descriptorIndex := 6, attributes := #[] }, { accessFlags := 10, nameIndex := 11, descriptorIndex := 12, attributes := #[] }, { accessFlags := 9, nameIndex := 33, descriptorIndex := 34, attributes := #[] }] 49 2 #[] #[])
  fields := #[]
  methods := #[k1m0, k1m1, k1m2]
  instanceTypes := #[]
  staticTypes := #[]
  resolved := Array.replicate 37 none
  statics := none }

def pool2 : Array CpInfo := pool [(1, .methodref 2 3), (0, .class_ 4), (0, .nameAndType 5 6), (0, u "java/lang/Object"), (0, u "<init>"), (0, u "()V"), (0, .fieldref 8 9), (0, .class_ 10), (0, .nameAndType 11 12), (0, u "formlet/EventGenerator"), (0, u "id"), (0, u "I"), (2, u "listener"), (0, u "Lformlet/Listener;"), (49, u "POOL"), (0, u "[Lformlet/EventGenerator;"), (3, u "POOL_SIZE"), (14, u "check"), (0, u "(Ljava/lang/String;III)I")] 24

def k2c0 : Code := { maxStack := 2, maxLocals := 1, code := prog_7_method_1_code, exceptionTable := #[], attributes := #[] }
def k2m0 : Method := { name := "<init>", desc := "()V", sig := { parameters := [], returnType := none }, accessFlags := 4, code := some k2c0 }
def k2c1 : Code := { maxStack := 6, maxLocals := 4, code := prog_7_method_8_code, exceptionTable := #[], attributes := #[] }
def k2m1 : Method := { name := "check", desc := "(Ljava/lang/String;III)I", sig := { parameters := [(.object "java/lang/String"), .int, .int, .int], returnType := some .int }, accessFlags := 12, code := some k2c1 }
/-- formlet/EventGenerator -/
def k2 : Class := { plain "formlet/EventGenerator" (some 0) with
  accessFlags := 1057
  interfaces := #[]
  cf := some (fileOf pool2 8 #[] #[{ accessFlags := 4, nameIndex := 5, descriptorIndex := 6, attributes := #[] }, { accessFlags := 12, nameIndex := 86, descriptorIndex := 87, attributes := #[] }] 1057 2 #[] #[{ accessFlags := 25, nameIndex := 71, descriptorIndex := 12, attributes := #[] }, { accessFlags := 26, nameIndex := 66, descriptorIndex := 67, attributes := #[] }, { accessFlags := 66, nameIndex := 15, descriptorIndex := 16, attributes := #[] }, { accessFlags := 66, nameIndex := 11, descriptorIndex := 12, attributes := #[] }])
  fields := #[{ name := "POOL_SIZE", type := .int, accessFlags := 25, slot := 0, constantValue := 0 }, { name := "POOL", type := (.array (.object "formlet/EventGenerator")), accessFlags := 26, slot := 1, constantValue := 0 }, { name := "listener", type := (.object "formlet/Listener"), accessFlags := 66, slot := 0, constantValue := 0 }, { name := "id", type := .int, accessFlags := 66, slot := 1, constantValue := 0 }]
  methods := #[k2m0, k2m1]
  instanceTypes := #[(.object "formlet/Listener"), .int]
  staticTypes := #[.int, (.array (.object "formlet/EventGenerator"))]
  resolved := Array.replicate 112 none
  statics := none }

def pool3 : Array CpInfo := pool [(1, .methodref 2 3), (0, .class_ 4), (0, .nameAndType 5 6), (0, u "formlet/EventGenerator"), (0, u "<init>"), (0, u "()V"), (0, .class_ 8), (0, u "java/lang/Object"), (0, .methodref 7 3), (0, .fieldref 11 12), (0, .class_ 13), (0, .nameAndType 14 15), (0, u "formlet/input/SequencedGenerator"), (0, u "lock"), (0, u "Ljava/lang/Object;"), (0, .class_ 17), (0, u "java/util/ArrayDeque"), (0, .methodref 16 3), (0, .fieldref 11 20), (0, .nameAndType 21 22), (0, u "unsent"), (0, u "Ljava/util/ArrayDeque;"), (0, .fieldref 11 24), (0, .nameAndType 25 26), (0, u "events"), (0, u "[I"), (2, u "decided"), (0, u "I"), (6, .class_ 38), (0, u "formlet/input/SequencedGenerator$Call"), (5, u "clock"), (0, u "Ljava/util/function/LongSupplier;"), (33, u "sender"), (0, u "Ljava/lang/Thread;")] 76

def k3c0 : Code := { maxStack := 3, maxLocals := 1, code := prog_40_method_1_code, exceptionTable := #[], attributes := #[] }
def k3m0 : Method := { name := "<init>", desc := "()V", sig := { parameters := [], returnType := none }, accessFlags := 0, code := some k3c0 }
/-- formlet/input/SequencedGenerator -/
def k3 : Class := { plain "formlet/input/SequencedGenerator" (some 2) with
  accessFlags := 1056
  interfaces := #[]
  cf := some (fileOf pool3 11 #[.nestMembers #[37]] #[{ accessFlags := 0, nameIndex := 5, descriptorIndex := 6, attributes := #[] }] 1056 2 #[] #[{ accessFlags := 16, nameIndex := 14, descriptorIndex := 15, attributes := #[] }, { accessFlags := 18, nameIndex := 21, descriptorIndex := 22, attributes := #[] }, { accessFlags := 2, nameIndex := 79, descriptorIndex := 80, attributes := #[] }, { accessFlags := 2, nameIndex := 25, descriptorIndex := 26, attributes := #[] }, { accessFlags := 2, nameIndex := 29, descriptorIndex := 30, attributes := #[] }, { accessFlags := 64, nameIndex := 44, descriptorIndex := 45, attributes := #[] }])
  fields := #[{ name := "lock", type := (.object "java/lang/Object"), accessFlags := 16, slot := 2, constantValue := 0 }, { name := "unsent", type := (.object "java/util/ArrayDeque"), accessFlags := 18, slot := 3, constantValue := 0 }, { name := "sender", type := (.object "java/lang/Thread"), accessFlags := 2, slot := 4, constantValue := 0 }, { name := "events", type := (.array .int), accessFlags := 2, slot := 5, constantValue := 0 }, { name := "decided", type := .int, accessFlags := 2, slot := 6, constantValue := 0 }, { name := "clock", type := (.object "java/util/function/LongSupplier"), accessFlags := 64, slot := 7, constantValue := 0 }]
  methods := #[k3m0]
  instanceTypes := #[(.object "formlet/Listener"), .int, (.object "java/lang/Object"), (.object "java/util/ArrayDeque"), (.object "java/lang/Thread"), (.array .int), .int, (.object "java/util/function/LongSupplier")]
  staticTypes := #[]
  resolved := Array.replicate 157 none
  statics := none }

def pool4 : Array CpInfo := pool [(1, .methodref 2 3), (0, .class_ 4), (0, .nameAndType 5 6), (0, u "formlet/input/Buttons"), (0, u "<init>"), (0, u "(I)V"), (0, .methodref 8 9), (0, .class_ 10), (0, .nameAndType 5 11), (0, u "formlet/input/SequencedGenerator"), (0, u "()V"), (0, .string 13), (0, u "number of buttons with extended features"), (0, .methodref 2 15), (0, .nameAndType 16 17), (0, u "check"), (0, u "(Ljava/lang/String;III)I"), (0, .fieldref 2 19), (0, .nameAndType 20 21), (0, u "click"), (0, u "[Z"), (0, .fieldref 2 23), (0, .nameAndType 24 21), (0, u "doubleClick"), (0, .fieldref 2 26), (0, .nameAndType 27 28), (0, u "delta"), (0, u "[I"), (0, .fieldref 2 30), (0, .nameAndType 31 21), (0, u "pressedBefore"), (0, .fieldref 2 33), (0, .nameAndType 34 35), (0, u "lastPress"), (0, u "[J"), (0, .fieldref 2 37), (0, .nameAndType 38 21), (0, u "sentBefore"), (0, .fieldref 2 40), (0, .nameAndType 41 35), (0, u "lastEvent"), (25, .methodref 2 68), (0, .nameAndType 69 70), (0, u "supportsExtendedFeatures"), (0, u "(I)Z"), (7, .methodref 2 79), (0, .nameAndType 80 6), (0, u "checkExtended"), (0, .fieldref 2 82), (0, .nameAndType 83 84), (0, u "lock"), (0, u "Ljava/lang/Object;"), (20, u "PRESSED"), (0, u "I"), (2, u "RELEASED"), (1, u "LONG"), (1, u "REPEATED"), (1, u "CLICKED"), (1, u "DOUBLE_CLICKED"), (10, u "enableClick"), (0, u "(ZI)V"), (6, u "clickEnabled")] 12

def k4c0 : Code := { maxStack := 2, maxLocals := 1, code := prog_33_method_1_code, exceptionTable := #[], attributes := #[] }
def k4m0 : Method := { name := "<init>", desc := "()V", sig := { parameters := [], returnType := none }, accessFlags := 1, code := some k4c0 }
def k4c1 : Code := { maxStack := 4, maxLocals := 2, code := prog_33_method_2_code, exceptionTable := #[], attributes := #[] }
def k4m1 : Method := { name := "<init>", desc := "(I)V", sig := { parameters := [.int], returnType := none }, accessFlags := 1, code := some k4c1 }
def k4c2 : Code := { maxStack := 2, maxLocals := 2, code := prog_33_method_8_code, exceptionTable := #[], attributes := #[] }
def k4m2 : Method := { name := "supportsExtendedFeatures", desc := "(I)Z", sig := { parameters := [.int], returnType := some .boolean }, accessFlags := 1, code := some k4c2 }
def k4c3 : Code := { maxStack := 3, maxLocals := 5, code := prog_33_method_9_code, exceptionTable := #[{ startPc := 24, endPc := 33, handlerPc := 36, catchType := 0 }, { startPc := 36, endPc := 40, handlerPc := 36, catchType := 0 }], attributes := #[] }
def k4m3 : Method := { name := "enableClick", desc := "(ZI)V", sig := { parameters := [.boolean, .int], returnType := none }, accessFlags := 1, code := some k4c3 }
def k4c4 : Code := { maxStack := 2, maxLocals := 4, code := prog_33_method_11_code, exceptionTable := #[{ startPc := 17, endPc := 25, handlerPc := 26, catchType := 0 }, { startPc := 26, endPc := 29, handlerPc := 26, catchType := 0 }], attributes := #[] }
def k4m4 : Method := { name := "clickEnabled", desc := "(I)Z", sig := { parameters := [.int], returnType := some .boolean }, accessFlags := 1, code := some k4c4 }
def k4c5 : Code := { maxStack := 2, maxLocals := 2, code := prog_33_method_14_code, exceptionTable := #[], attributes := #[] }
def k4m5 : Method := { name := "checkExtended", desc := "(I)V", sig := { parameters := [.int], returnType := none }, accessFlags := 2, code := some k4c5 }
/-- formlet/input/Buttons -/
def k4 : Class := { plain "formlet/input/Buttons" (some 3) with
  accessFlags := 33
  interfaces := #[]
  cf := some (fileOf pool4 2 #[] #[{ accessFlags := 1, nameIndex := 5, descriptorIndex := 11, attributes := #[] }, { accessFlags := 1, nameIndex := 5, descriptorIndex := 6, attributes := #[] }, { accessFlags := 1, nameIndex := 69, descriptorIndex := 70, attributes := #[] }, { accessFlags := 1, nameIndex := 128, descriptorIndex := 129, attributes := #[] }, { accessFlags := 1, nameIndex := 136, descriptorIndex := 70, attributes := #[] }, { accessFlags := 2, nameIndex := 80, descriptorIndex := 6, attributes := #[] }] 33 8 #[] #[{ accessFlags := 25, nameIndex := 105, descriptorIndex := 106, attributes := #[] }, { accessFlags := 25, nameIndex := 109, descriptorIndex := 106, attributes := #[] }, { accessFlags := 25, nameIndex := 111, descriptorIndex := 106, attributes := #[] }, { accessFlags := 25, nameIndex := 113, descriptorIndex := 106, attributes := #[] }, { accessFlags := 25, nameIndex := 115, descriptorIndex := 106, attributes := #[] }, { accessFlags := 25, nameIndex := 117, descriptorIndex := 106, attributes := #[] }, { accessFlags := 18, nameIndex := 20, descriptorIndex := 21, attributes := #[] }, { accessFlags := 18, nameIndex := 24, descriptorIndex := 21, attributes := #[] }, { accessFlags := 18, nameIndex := 27, descriptorIndex := 28, attributes := #[] }, { accessFlags := 18, nameIndex := 31, descriptorIndex := 21, attributes := #[] }, { accessFlags := 18, nameIndex := 34, descriptorIndex := 35, attributes := #[] }, { accessFlags := 18, nameIndex := 38, descriptorIndex := 21, attributes := #[] }, { accessFlags := 18, nameIndex := 41, descriptorIndex := 35, attributes := #[] }])
  fields := #[{ name := "PRESSED", type := .int, accessFlags := 25, slot := 0, constantValue := 0 }, { name := "RELEASED", type := .int, accessFlags := 25, slot := 1, constantValue := 0 }, { name := "LONG", type := .int, accessFlags := 25, slot := 2, constantValue := 0 }, { name := "REPEATED", type := .int, accessFlags := 25, slot := 3, constantValue := 0 }, { name := "CLICKED", type := .int, accessFlags := 25, slot := 4, constantValue := 0 }, { name := "DOUBLE_CLICKED", type := .int, accessFlags := 25, slot := 5, constantValue := 0 }, { name := "click", type := (.array .boolean), accessFlags := 18, slot := 8, constantValue := 0 }, { name := "doubleClick", type := (.array .boolean), accessFlags := 18, slot := 9, constantValue := 0 }, { name := "delta", type := (.array .int), accessFlags := 18, slot := 10, constantValue := 0 }, { name := "pressedBefore", type := (.array .boolean), accessFlags := 18, slot := 11, constantValue := 0 }, { name := "lastPress", type := (.array .long), accessFlags := 18, slot := 12, constantValue := 0 }, { name := "sentBefore", type := (.array .boolean), accessFlags := 18, slot := 13, constantValue := 0 }, { name := "lastEvent", type := (.array .long), accessFlags := 18, slot := 14, constantValue := 0 }]
  methods := #[k4m0, k4m1, k4m2, k4m3, k4m4, k4m5]
  instanceTypes := #[(.object "formlet/Listener"), .int, (.object "java/lang/Object"), (.object "java/util/ArrayDeque"), (.object "java/lang/Thread"), (.array .int), .int, (.object "java/util/function/LongSupplier"), (.array .boolean), (.array .boolean), (.array .int), (.array .boolean), (.array .long), (.array .boolean), (.array .long)]
  staticTypes := #[.int, .int, .int, .int, .int, .int]
  resolved := Array.replicate 149 none
  statics := none }

def pool5 : Array CpInfo := pool [(8, .class_ 10), (1, u "java/lang/Iterable"), (24, .class_ 36), (0, u "java/lang/Object")] 25

/-- java/lang/Iterable -/
def k5 : Class := { plain "java/lang/Iterable" (some 0) with
  accessFlags := 1537
  interfaces := #[]
  cf := some (fileOf pool5 8 #[] #[] 1537 35 #[] #[])
  fields := #[]
  methods := #[]
  instanceTypes := #[]
  staticTypes := #[]
  resolved := Array.replicate 62 none
  statics := none }

def pool6 : Array CpInfo := pool [(10, .class_ 12), (1, u "java/util/Collection"), (47, .class_ 61), (0, u "java/lang/Object"), (0, .class_ 63), (0, u "java/lang/Iterable")] 51

/-- java/util/Collection -/
def k6 : Class := { plain "java/util/Collection" (some 0) with
  accessFlags := 1537
  interfaces := #[5]
  cf := some (fileOf pool6 10 #[] #[] 1537 60 #[62] #[])
  fields := #[]
  methods := #[]
  instanceTypes := #[]
  staticTypes := #[]
  resolved := Array.replicate 115 none
  statics := none }

def pool7 : Array CpInfo := pool [(1, .methodref 2 3), (0, .class_ 4), (0, .nameAndType 5 6), (0, u "java/lang/Object"), (0, u "<init>"), (0, u "()V"), (1, .class_ 10), (1, u "java/util/AbstractCollection"), (66, .class_ 78), (0, u "java/util/Collection")] 81

def k7c0 : Code := { maxStack := 1, maxLocals := 1, code := jdk_22_method_1_code, exceptionTable := #[], attributes := #[] }
def k7m0 : Method := { name := "<init>", desc := "()V", sig := { parameters := [], returnType := none }, accessFlags := 4, code := some k7c0 }
/-- java/util/AbstractCollection -/
def k7 : Class := { plain "java/util/AbstractCollection" (some 0) with
  accessFlags := 1057
  interfaces := #[6]
  cf := some (fileOf pool7 8 #[] #[{ accessFlags := 4, nameIndex := 5, descriptorIndex := 6, attributes := #[] }] 1057 2 #[77] #[])
  fields := #[]
  methods := #[k7m0]
  instanceTypes := #[]
  staticTypes := #[]
  resolved := Array.replicate 160 none
  statics := none }

def pool8 : Array CpInfo := pool [(1, .class_ 2), (0, u "java/util/Queue"), (0, .class_ 4), (0, u "java/lang/Object"), (0, .class_ 6), (0, u "java/util/Collection")] 14

/-- java/util/Queue -/
def k8 : Class := { plain "java/util/Queue" (some 0) with
  accessFlags := 1537
  interfaces := #[6]
  cf := some (fileOf pool8 1 #[] #[] 1537 3 #[5] #[])
  fields := #[]
  methods := #[]
  instanceTypes := #[]
  staticTypes := #[]
  resolved := Array.replicate 21 none
  statics := none }

def pool9 : Array CpInfo := pool [(8, .class_ 10), (1, u "java/util/SequencedCollection"), (15, .class_ 27), (0, u "java/lang/Object"), (0, .class_ 29), (0, u "java/util/Collection")] 27

/-- java/util/SequencedCollection -/
def k9 : Class := { plain "java/util/SequencedCollection" (some 0) with
  accessFlags := 1537
  interfaces := #[6]
  cf := some (fileOf pool9 8 #[] #[] 1537 26 #[28] #[])
  fields := #[]
  methods := #[]
  instanceTypes := #[]
  staticTypes := #[]
  resolved := Array.replicate 57 none
  statics := none }

def pool10 : Array CpInfo := pool [(8, .class_ 10), (1, u "java/util/Deque"), (2, .class_ 14), (0, u "java/lang/Object"), (0, .class_ 16), (0, u "java/util/Queue"), (0, .class_ 18), (0, u "java/util/SequencedCollection")] 51

/-- java/util/Deque -/
def k10 : Class := { plain "java/util/Deque" (some 0) with
  accessFlags := 1537
  interfaces := #[8, 9]
  cf := some (fileOf pool10 8 #[] #[] 1537 13 #[15, 17] #[])
  fields := #[]
  methods := #[]
  instanceTypes := #[]
  staticTypes := #[]
  resolved := Array.replicate 70 none
  statics := none }

def pool11 : Array CpInfo := pool [(1, .class_ 2), (0, u "java/lang/Cloneable"), (0, .class_ 4), (0, u "java/lang/Object")] 2

/-- java/lang/Cloneable -/
def k11 : Class := { plain "java/lang/Cloneable" (some 0) with
  accessFlags := 1537
  interfaces := #[]
  cf := some (fileOf pool11 1 #[] #[] 1537 3 #[] #[])
  fields := #[]
  methods := #[]
  instanceTypes := #[]
  staticTypes := #[]
  resolved := Array.replicate 7 none
  statics := none }

def pool12 : Array CpInfo := pool [(1, .class_ 2), (0, u "java/io/Serializable"), (0, .class_ 4), (0, u "java/lang/Object")] 2

/-- java/io/Serializable -/
def k12 : Class := { plain "java/io/Serializable" (some 0) with
  accessFlags := 1537
  interfaces := #[]
  cf := some (fileOf pool12 1 #[] #[] 1537 3 #[] #[])
  fields := #[]
  methods := #[]
  instanceTypes := #[]
  staticTypes := #[]
  resolved := Array.replicate 7 none
  statics := none }

def pool13 : Array CpInfo := pool [(3, .fieldref 4 5), (0, .class_ 6), (0, .nameAndType 7 8), (0, u "java/util/ArrayDeque"), (0, u "elements"), (0, u "[Ljava/lang/Object;"), (13, u "tail"), (0, u "I"), (2, u "head"), (12, u "<init>"), (2, .methodref 43 44), (0, .class_ 45), (0, .nameAndType 39 46), (0, u "java/util/AbstractCollection"), (0, u "()V"), (0, .class_ 48), (0, u "java/lang/Object"), (82, .class_ 132), (0, u "java/util/ArrayDeque$DeqIterator"), (3, .class_ 137), (0, u "java/util/ArrayDeque$DescendingIterator"), (1, .class_ 140), (0, u "java/util/ArrayDeque$DeqSpliterator"), (137, .class_ 279), (0, u "java/util/Deque"), (0, .class_ 281), (0, u "java/lang/Cloneable"), (0, .class_ 283), (0, u "java/io/Serializable"), (0, u "MAX_ARRAY_SIZE"), (1, u "serialVersionUID"), (0, u "J")] 150

def k13c0 : Code := { maxStack := 2, maxLocals := 1, code := jdk_21_method_3_code, exceptionTable := #[], attributes := #[] }
def k13m0 : Method := { name := "<init>", desc := "()V", sig := { parameters := [], returnType := none }, accessFlags := 1, code := some k13c0 }
/-- java/util/ArrayDeque -/
def k13 : Class := { plain "java/util/ArrayDeque" (some 7) with
  accessFlags := 33
  interfaces := #[10, 11, 12]
  cf := some (fileOf pool13 4 #[.nestMembers #[139, 136, 131]] #[{ accessFlags := 1, nameIndex := 39, descriptorIndex := 46, attributes := #[] }] 33 43 #[278, 280, 282] #[{ accessFlags := 128, nameIndex := 7, descriptorIndex := 8, attributes := #[] }, { accessFlags := 128, nameIndex := 26, descriptorIndex := 23, attributes := #[] }, { accessFlags := 128, nameIndex := 22, descriptorIndex := 23, attributes := #[] }, { accessFlags := 26, nameIndex := 284, descriptorIndex := 23, attributes := #[] }, { accessFlags := 26, nameIndex := 286, descriptorIndex := 287, attributes := #[] }])
  fields := #[{ name := "elements", type := (.array (.object "java/lang/Object")), accessFlags := 128, slot := 0, constantValue := 0 }, { name := "head", type := .int, accessFlags := 128, slot := 1, constantValue := 0 }, { name := "tail", type := .int, accessFlags := 128, slot := 2, constantValue := 0 }, { name := "MAX_ARRAY_SIZE", type := .int, accessFlags := 26, slot := 0, constantValue := 0 }, { name := "serialVersionUID", type := .long, accessFlags := 26, slot := 1, constantValue := 0 }]
  methods := #[k13m0]
  instanceTypes := #[(.array (.object "java/lang/Object")), .int, .int]
  staticTypes := #[.int, .long]
  resolved := Array.replicate 438 none
  statics := none }

def pool14 : Array CpInfo := pool [(1, .class_ 2), (0, u "java/lang/Comparable"), (0, .class_ 4), (0, u "java/lang/Object")] 7

/-- java/lang/Comparable -/
def k14 : Class := { plain "java/lang/Comparable" (some 0) with
  accessFlags := 1537
  interfaces := #[]
  cf := some (fileOf pool14 1 #[] #[] 1537 3 #[] #[])
  fields := #[]
  methods := #[]
  instanceTypes := #[]
  staticTypes := #[]
  resolved := Array.replicate 12 none
  statics := none }

def pool15 : Array CpInfo := pool [(2, .class_ 4), (1, u "java/lang/CharSequence"), (42, .class_ 48), (0, u "java/lang/CharSequence$1CodePointIterator"), (10, .class_ 60), (0, u "java/lang/CharSequence$1CharIterator"), (5, .class_ 67), (0, u "java/lang/Object")] 63

/-- java/lang/CharSequence -/
def k15 : Class := { plain "java/lang/CharSequence" (some 0) with
  accessFlags := 1537
  interfaces := #[]
  cf := some (fileOf pool15 2 #[.nestMembers #[47, 59]] #[] 1537 66 #[] #[])
  fields := #[]
  methods := #[]
  instanceTypes := #[]
  staticTypes := #[]
  resolved := Array.replicate 131 none
  statics := none }

def pool16 : Array CpInfo := pool [(1, .class_ 2), (0, u "java/lang/constant/Constable"), (0, .class_ 4), (0, u "java/lang/Object")] 6

/-- java/lang/constant/Constable -/
def k16 : Class := { plain "java/lang/constant/Constable" (some 0) with
  accessFlags := 1537
  interfaces := #[]
  cf := some (fileOf pool16 1 #[] #[] 1537 3 #[] #[])
  fields := #[]
  methods := #[]
  instanceTypes := #[]
  staticTypes := #[]
  resolved := Array.replicate 11 none
  statics := none }

def pool17 : Array CpInfo := pool [(1, .class_ 2), (0, u "java/lang/constant/ConstantDesc"), (0, .class_ 4), (0, u "java/lang/Object")] 32

/-- java/lang/constant/ConstantDesc -/
def k17 : Class := { plain "java/lang/constant/ConstantDesc" (some 0) with
  accessFlags := 1537
  interfaces := #[]
  cf := some (fileOf pool17 1 #[] #[] 1537 3 #[] #[])
  fields := #[]
  methods := #[]
  instanceTypes := #[]
  staticTypes := #[]
  resolved := Array.replicate 37 none
  statics := none }

def pool18 : Array CpInfo := pool [(2, .class_ 4), (1, u "java/lang/Object"), (0, u "<init>"), (0, u "()V"), (3, .class_ 12), (1, u "java/lang/String"), (0, u "value"), (0, u "[B"), (2, u "coder"), (0, u "B"), (2, u "hash"), (0, u "I"), (2, u "hashIsZero"), (0, u "Z"), (13, u "COMPACT_STRINGS"), (534, .class_ 576), (0, u "java/lang/CharSequence"), (22, u "CASE_INSENSITIVE_ORDER"), (0, u "Ljava/util/Comparator;"), (500, u "serialPersistentFields"), (0, u "[Ljava/io/ObjectStreamField;"), (0, .class_ 1104), (0, u "java/lang/String$CaseInsensitiveComparator"), (1, .class_ 1107), (0, u "java/io/Serializable"), (0, .class_ 1109), (0, u "java/lang/Comparable"), (0, .class_ 1111), (0, u "java/lang/constant/Constable"), (0, .class_ 1113), (0, u "java/lang/constant/ConstantDesc"), (2, u "serialVersionUID"), (0, u "J"), (3, u "REPL"), (0, u "C"), (2, u "LATIN1"), (1, u "UTF16")] 323

def k18m0 : Method := { name := "<init>", desc := "()V", sig := { parameters := [], returnType := none }, accessFlags := 1, code := none }
/-- java/lang/String -/
def k18 : Class := { plain "java/lang/String" (some 0) with
  accessFlags := 49
  interfaces := #[12, 14, 15, 16, 17]
  cf := some (fileOf pool18 10 #[.nestMembers #[1103]] #[{ accessFlags := 1, nameIndex := 5, descriptorIndex := 6, attributes := #[] }] 49 2 #[1106, 1108, 575, 1110, 1112] #[{ accessFlags := 18, nameIndex := 13, descriptorIndex := 14, attributes := #[] }, { accessFlags := 18, nameIndex := 17, descriptorIndex := 18, attributes := #[] }, { accessFlags := 2, nameIndex := 21, descriptorIndex := 22, attributes := #[] }, { accessFlags := 2, nameIndex := 25, descriptorIndex := 26, attributes := #[] }, { accessFlags := 26, nameIndex := 1116, descriptorIndex := 1117, attributes := #[] }, { accessFlags := 24, nameIndex := 40, descriptorIndex := 26, attributes := #[] }, { accessFlags := 26, nameIndex := 1101, descriptorIndex := 1102, attributes := #[] }, { accessFlags := 26, nameIndex := 1121, descriptorIndex := 1122, attributes := #[] }, { accessFlags := 25, nameIndex := 599, descriptorIndex := 600, attributes := #[] }, { accessFlags := 24, nameIndex := 1125, descriptorIndex := 18, attributes := #[] }, { accessFlags := 24, nameIndex := 1127, descriptorIndex := 18, attributes := #[] }])
  fields := #[{ name := "value", type := (.array .byte), accessFlags := 18, slot := 0, constantValue := 0 }, { name := "coder", type := .byte, accessFlags := 18, slot := 1, constantValue := 0 }, { name := "hash", type := .int, accessFlags := 2, slot := 2, constantValue := 0 }, { name := "hashIsZero", type := .boolean, accessFlags := 2, slot := 3, constantValue := 0 }, { name := "serialVersionUID", type := .long, accessFlags := 26, slot := 0, constantValue := 0 }, { name := "COMPACT_STRINGS", type := .boolean, accessFlags := 24, slot := 1, constantValue := 0 }, { name := "serialPersistentFields", type := (.array (.object "java/io/ObjectStreamField")), accessFlags := 26, slot := 2, constantValue := 0 }, { name := "REPL", type := .char, accessFlags := 26, slot := 3, constantValue := 0 }, { name := "CASE_INSENSITIVE_ORDER", type := (.object "java/util/Comparator"), accessFlags := 25, slot := 4, constantValue := 0 }, { name := "LATIN1", type := .byte, accessFlags := 24, slot := 5, constantValue := 0 }, { name := "UTF16", type := .byte, accessFlags := 24, slot := 6, constantValue := 0 }]
  methods := #[k18m0]
  instanceTypes := #[(.array .byte), .byte, .int, .boolean]
  staticTypes := #[.long, .boolean, (.array (.object "java/io/ObjectStreamField")), .char, (.object "java/util/Comparator"), .byte, .byte]
  resolved := Array.replicate 1451 none
  statics := none }

/-- the primitive boolean -/
def k19 : Class := { plain "boolean" none with kind := .primitive 'Z', accessFlags := 0x411 }
/-- [Z -/
def k20 : Class := { plain "[Z" (some 0) with kind := .array 19 .boolean, interfaces := #[11, 12], accessFlags := 1041 }

/-- the primitive byte -/
def k21 : Class := { plain "byte" none with kind := .primitive 'B', accessFlags := 0x411 }
/-- [B -/
def k22 : Class := { plain "[B" (some 0) with kind := .array 21 .byte, interfaces := #[11, 12], accessFlags := 1041 }

/-- the primitive int -/
def k23 : Class := { plain "int" none with kind := .primitive 'I', accessFlags := 0x411 }
/-- [I -/
def k24 : Class := { plain "[I" (some 0) with kind := .array 23 .int, interfaces := #[11, 12], accessFlags := 1041 }

/-- the primitive long -/
def k25 : Class := { plain "long" none with kind := .primitive 'J', accessFlags := 0x411 }
/-- [J -/
def k26 : Class := { plain "[J" (some 0) with kind := .array 25 .long, interfaces := #[11, 12], accessFlags := 1041 }

/-- [Ljava/lang/Object; -/
def k27 : Class := { plain "[Ljava/lang/Object;" (some 0) with kind := .array 0 (.object "java/lang/Object"), interfaces := #[11, 12], accessFlags := 1041 }

def heap : Heap := #[]
def classes : Array Class := #[k0, k1, k2, k3, k4, k5, k6, k7, k8, k9, k10, k11, k12, k13, k14, k15, k16, k17, k18, k19, k20, k21, k22, k23, k24, k25, k26, k27]
def interned : List (Array UInt16 × Addr) := []
def slotsUsed : Nat := 0
def theMethod : MethodId := ⟨1, 2⟩
def args0 : Array Value := #[.int 5, .int 3, .int 0]
def aboutOver (below : List Frame) : State where
  vm := { classes := classes, interned := interned.toArray }
  heap := heap
  slotsUsed := slotsUsed
  threads := #[{ frames := .invoking theMethod args0 :: below }]
def below0 : List Frame := [.native { method := ⟨0, 0⟩, args := #[] }]
def about1 : State := aboutOver below0
def p0 : Program := .bare "" "" ""
def e0 : Env := launch0.env 0 0 0
theorem w_frames : about1.frames = Frame.invoking theMethod args0 :: below0 := rfl
set_option maxRecDepth 65536 in
theorem w_args : argsFit about1.vm theMethod args0 = true := by decide +kernel
set_option maxRecDepth 65536 in
theorem w_heap : heapFits about1 = true := by decide +kernel
set_option maxRecDepth 65536 in
theorem w_runnable : about1.curStatus? = some .runnable := by decide +kernel
set_option maxRecDepth 65536 in
theorem w_alone : about1.alone = true := by decide +kernel
set_option maxRecDepth 65536 in
theorem w_named : about1.methodNamed? x = some theMethod := by decide +kernel
set_option maxRecDepth 65536 in
theorem w_hears : about1.hears theMethod below0 = true := by decide +kernel
set_option maxRecDepth 65536 in
theorem w_ripe : about1.ripe theMethod args0 below0 = true := by decide +kernel
theorem w_running : about1.status = .running := rfl
set_option maxRecDepth 65536 in
theorem w_room : about1.hasRoom e0.platform room_1 = true :=
  launch0.hasRoom_least _ room_1 (by decide +kernel) (by decide +kernel) (by decide +kernel) (by decide +kernel) (by decide +kernel) (by decide +kernel)
theorem allAtoms_all (ts : List Jvm.Cond) (a : Array Jvm.Value) (st : Jvm.State) : (allAtoms ts).before a st = ts.all (fun c => c.before a st) := by
  induction ts with
  | nil => rfl
  | cons c t ih =>
    show (Jvm.Cond.and c (allAtoms t)).before a st = _
    rw [Jvm.Cond.before_and, ih, List.all_cons]
def words1 : List Jvm.Cond := Jvm.Cond.code x code maxLocals ret :: tables_1
/-- a 'code' word, met by the world's own term for the bytes: nothing is compared byte by byte -/
theorem code_word {y : MethodName} {bytes : ByteArray} {mx : Nat} {rt : Option FieldType} {a : Array Value} {s : State} {m : MethodId} {meth : Method} {c : Code} (h1 : s.methodNamed? y = some m) (h2 : s.vm.method? m = some meth) (h3 : meth.code = some c) (h4 : c.code = bytes)
    (h5 : (c.maxLocals == mx && c.exceptionTable.isEmpty && decide (c.maxStack ≤ mostOperands) && decide (meth.sig.returnType = rt) && !meth.locks && decide (parseMethodDescriptor y.desc = some meth.sig)) = true) : (Jvm.Cond.code y bytes mx rt).before a s = true := by
  simp only [Bool.and_eq_true, beq_iff_eq, Bool.not_eq_true', decide_eq_true_eq] at h5
  obtain ⟨⟨⟨⟨⟨g1, g2⟩, g3⟩, g4⟩, g5⟩, g6⟩ := h5
  simp [Cond.before, Cond.holds, Cond.value, h1, h2, h3, h4, g1, g2, g3, g4, g5, g6]
def isCode : Jvm.Cond → Bool
  | .code _ _ _ _ => true
  | _ => false
theorem all_split {L : List Jvm.Cond} {P : Jvm.Cond → Bool} (h1 : L.all (fun c => isCode c || P c) = true) (h2 : ∀ c ∈ L.filter isCode, P c = true) : L.all P = true := by
  refine List.all_eq_true.mpr fun c hc => ?_
  have h := List.all_eq_true.mp h1 c hc
  rcases Bool.eq_false_or_eq_true (isCode c) with hi | hi
  · exact h2 c (List.mem_filter.mpr ⟨hc, hi⟩)
  · simpa [hi] using h
set_option maxRecDepth 65536 in
theorem w_c0 : (Jvm.Cond.code x code maxLocals ret).before args0 about1 = true := code_word (m := ⟨1, 2⟩) (meth := k1m2) (c := k1c2) (by decide +kernel) rfl rfl rfl (by decide +kernel)
set_option maxRecDepth 65536 in
theorem w_c1 : (Jvm.Cond.code ({ cls := "formlet/input/ButtonsSupportsExtendedFeaturesPinLaw", name := "pickId", desc := "(III)I" } : Jvm.MethodName) method_2_code (3 : Nat) (Option.some Jvm.ClassFile.FieldType.int)).before args0 about1 = true := code_word (m := ⟨1, 1⟩) (meth := k1m1) (c := k1c1) (by decide +kernel) rfl rfl rfl (by decide +kernel)
set_option maxRecDepth 65536 in
theorem w_c2 : (Jvm.Cond.code ({ cls := "formlet/input/Buttons", name := "<init>", desc := "(I)V" } : Jvm.MethodName) prog_33_method_2_code (2 : Nat) (Option.none : Option Jvm.ClassFile.FieldType)).before args0 about1 = true := code_word (m := ⟨4, 1⟩) (meth := k4m1) (c := k4c1) (by decide +kernel) rfl rfl rfl (by decide +kernel)
set_option maxRecDepth 65536 in
theorem w_c3 : (Jvm.Cond.code ({ cls := "formlet/input/SequencedGenerator", name := "<init>", desc := "()V" } : Jvm.MethodName) prog_40_method_1_code (1 : Nat) (Option.none : Option Jvm.ClassFile.FieldType)).before args0 about1 = true := code_word (m := ⟨3, 0⟩) (meth := k3m0) (c := k3c0) (by decide +kernel) rfl rfl rfl (by decide +kernel)
set_option maxRecDepth 65536 in
theorem w_c4 : (Jvm.Cond.code ({ cls := "formlet/EventGenerator", name := "<init>", desc := "()V" } : Jvm.MethodName) prog_7_method_1_code (1 : Nat) (Option.none : Option Jvm.ClassFile.FieldType)).before args0 about1 = true := code_word (m := ⟨2, 0⟩) (meth := k2m0) (c := k2c0) (by decide +kernel) rfl rfl rfl (by decide +kernel)
set_option maxRecDepth 65536 in
theorem w_c5 : (Jvm.Cond.code ({ cls := "java/lang/Object", name := "<init>", desc := "()V" } : Jvm.MethodName) object_method_1_code (1 : Nat) (Option.none : Option Jvm.ClassFile.FieldType)).before args0 about1 = true := code_word (m := ⟨0, 0⟩) (meth := k0m0) (c := k0c0) (by decide +kernel) rfl rfl rfl (by decide +kernel)
set_option maxRecDepth 65536 in
theorem w_c6 : (Jvm.Cond.code ({ cls := "java/util/ArrayDeque", name := "<init>", desc := "()V" } : Jvm.MethodName) jdk_21_method_3_code (1 : Nat) (Option.none : Option Jvm.ClassFile.FieldType)).before args0 about1 = true := code_word (m := ⟨13, 0⟩) (meth := k13m0) (c := k13c0) (by decide +kernel) rfl rfl rfl (by decide +kernel)
set_option maxRecDepth 65536 in
theorem w_c7 : (Jvm.Cond.code ({ cls := "java/util/AbstractCollection", name := "<init>", desc := "()V" } : Jvm.MethodName) jdk_22_method_1_code (1 : Nat) (Option.none : Option Jvm.ClassFile.FieldType)).before args0 about1 = true := code_word (m := ⟨7, 0⟩) (meth := k7m0) (c := k7c0) (by decide +kernel) rfl rfl rfl (by decide +kernel)
set_option maxRecDepth 65536 in
theorem w_c8 : (Jvm.Cond.code ({ cls := "formlet/EventGenerator", name := "check", desc := "(Ljava/lang/String;III)I" } : Jvm.MethodName) prog_7_method_8_code (4 : Nat) (Option.some Jvm.ClassFile.FieldType.int)).before args0 about1 = true := code_word (m := ⟨2, 1⟩) (meth := k2m1) (c := k2c1) (by decide +kernel) rfl rfl rfl (by decide +kernel)
set_option maxRecDepth 65536 in
theorem w_c9 : (Jvm.Cond.code ({ cls := "formlet/input/Buttons", name := "supportsExtendedFeatures", desc := "(I)Z" } : Jvm.MethodName) prog_33_method_8_code (2 : Nat) (Option.some Jvm.ClassFile.FieldType.boolean)).before args0 about1 = true := code_word (m := ⟨4, 2⟩) (meth := k4m2) (c := k4c2) (by decide +kernel) rfl rfl rfl (by decide +kernel)
set_option maxRecDepth 65536 in
theorem w_c10 : (Jvm.Cond.code ({ cls := "formlet/input/Buttons", name := "<init>", desc := "()V" } : Jvm.MethodName) prog_33_method_1_code (1 : Nat) (Option.none : Option Jvm.ClassFile.FieldType)).before args0 about1 = true := code_word (m := ⟨4, 0⟩) (meth := k4m0) (c := k4c0) (by decide +kernel) rfl rfl rfl (by decide +kernel)
set_option maxRecDepth 65536 in
theorem w_c11 : (Jvm.Cond.code ({ cls := "formlet/input/Buttons", name := "checkExtended", desc := "(I)V" } : Jvm.MethodName) prog_33_method_14_code (2 : Nat) (Option.none : Option Jvm.ClassFile.FieldType)).before args0 about1 = true := code_word (m := ⟨4, 5⟩) (meth := k4m5) (c := k4c5) (by decide +kernel) rfl rfl rfl (by decide +kernel)
def codes1 : List Jvm.Cond := [Jvm.Cond.code x code maxLocals ret, Jvm.Cond.code ({ cls := "formlet/input/ButtonsSupportsExtendedFeaturesPinLaw", name := "pickId", desc := "(III)I" } : Jvm.MethodName) method_2_code (3 : Nat) (Option.some Jvm.ClassFile.FieldType.int), Jvm.Cond.code ({ cls := "formlet/input/Buttons", name := "<init>", desc := "(I)V" } : Jvm.MethodName) prog_33_method_2_code (2 : Nat) (Option.none : Option Jvm.ClassFile.FieldType), Jvm.Cond.code ({ cls := "formlet/input/SequencedGenerator", name := "<init>", desc := "()V" } : Jvm.MethodName) prog_40_method_1_code (1 : Nat) (Option.none : Option Jvm.ClassFile.FieldType), Jvm.Cond.code ({ cls := "formlet/EventGenerator", name := "<init>", desc := "()V" } : Jvm.MethodName) prog_7_method_1_code (1 : Nat) (Option.none : Option Jvm.ClassFile.FieldType), Jvm.Cond.code ({ cls := "java/lang/Object", name := "<init>", desc := "()V" } : Jvm.MethodName) object_method_1_code (1 : Nat) (Option.none : Option Jvm.ClassFile.FieldType), Jvm.Cond.code ({ cls := "java/util/ArrayDeque", name := "<init>", desc := "()V" } : Jvm.MethodName) jdk_21_method_3_code (1 : Nat) (Option.none : Option Jvm.ClassFile.FieldType), Jvm.Cond.code ({ cls := "java/util/AbstractCollection", name := "<init>", desc := "()V" } : Jvm.MethodName) jdk_22_method_1_code (1 : Nat) (Option.none : Option Jvm.ClassFile.FieldType), Jvm.Cond.code ({ cls := "formlet/EventGenerator", name := "check", desc := "(Ljava/lang/String;III)I" } : Jvm.MethodName) prog_7_method_8_code (4 : Nat) (Option.some Jvm.ClassFile.FieldType.int), Jvm.Cond.code ({ cls := "formlet/input/Buttons", name := "supportsExtendedFeatures", desc := "(I)Z" } : Jvm.MethodName) prog_33_method_8_code (2 : Nat) (Option.some Jvm.ClassFile.FieldType.boolean), Jvm.Cond.code ({ cls := "formlet/input/Buttons", name := "<init>", desc := "()V" } : Jvm.MethodName) prog_33_method_1_code (1 : Nat) (Option.none : Option Jvm.ClassFile.FieldType), Jvm.Cond.code ({ cls := "formlet/input/Buttons", name := "checkExtended", desc := "(I)V" } : Jvm.MethodName) prog_33_method_14_code (2 : Nat) (Option.none : Option Jvm.ClassFile.FieldType)]
set_option maxRecDepth 65536 in
theorem codes_eq : words1.filter isCode = codes1 := rfl
theorem w_codes : ∀ c ∈ words1.filter isCode, c.before args0 about1 = true := by
  rw [codes_eq]
  intro c hc
  simp only [codes1, List.mem_cons, List.not_mem_nil, or_false] at hc
  rcases hc with rfl | rfl | rfl | rfl | rfl | rfl | rfl | rfl | rfl | rfl | rfl | rfl
  · exact w_c0
  · exact w_c1
  · exact w_c2
  · exact w_c3
  · exact w_c4
  · exact w_c5
  · exact w_c6
  · exact w_c7
  · exact w_c8
  · exact w_c9
  · exact w_c10
  · exact w_c11
set_option maxRecDepth 65536 in
theorem w_t1 : (words1.take 24).all (fun c => isCode c || c.before args0 about1) = true := by decide +kernel
set_option maxRecDepth 65536 in
theorem w_t2 : ((words1.drop 24).take 24).all (fun c => isCode c || c.before args0 about1) = true := by decide +kernel
set_option maxRecDepth 65536 in
theorem w_t3 : (((words1.drop 24).drop 24).take 24).all (fun c => isCode c || c.before args0 about1) = true := by decide +kernel
set_option maxRecDepth 65536 in
theorem w_t4 : ((((words1.drop 24).drop 24).drop 24).take 24).all (fun c => isCode c || c.before args0 about1) = true := by decide +kernel
set_option maxRecDepth 65536 in
theorem w_t5 : ((((words1.drop 24).drop 24).drop 24).drop 24).all (fun c => isCode c || c.before args0 about1) = true := by decide +kernel
theorem w_tables : (allAtoms (Jvm.Cond.code x code maxLocals ret :: tables_1)).before args0 about1 = true := by
  rw [allAtoms_all]
  show words1.all (fun c => c.before args0 about1) = true
  refine all_split ?_ w_codes
  rw [← List.take_append_drop 24 words1, List.all_append, w_t1, ← List.take_append_drop 24 (words1.drop 24), List.all_append, w_t2, ← List.take_append_drop 24 ((words1.drop 24).drop 24), List.all_append, w_t3, ← List.take_append_drop 24 (((words1.drop 24).drop 24).drop 24), List.all_append, w_t4, w_t5]
  rfl
set_option maxRecDepth 65536 in
theorem w_case : (Jvm.Cond.and given_1 narrow_1).before args0 about1 = true := by decide +kernel
theorem w_applies : (headSpec (Jvm.Cond.code x code maxLocals ret :: tables_1) room_1).applies x e0.platform about1 = true :=
  (Spec.applies_iff w_frames).mpr ⟨w_running, w_runnable, w_alone, w_named, w_hears, w_ripe, w_room, w_tables⟩
theorem atStart : AtStart classFile x code maxLocals ret World_1 tables_1 room_1 Calls_1 rest_1 Pre_1 launch0 p0 e0 about1 theMethod args0 below0 :=
  ⟨lists_1, trivial, launch0.admits_env _ _ _, launch0.least_env, fairChoices_fair.cas, fairChoices_fair.clock, w_frames, w_args, w_heap, w_applies, trivial, trivial, w_case⟩
end start1
theorem witness_1 : WitnessClaimed_1 := ⟨start1.p0, start1.e0, start1.about1, start1.theMethod, start1.args0, start1.below0, start1.atStart⟩
end Jvm.Pilot.@@N@@
