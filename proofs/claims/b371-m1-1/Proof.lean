import JvmDerived
import JvmDerived.Pilot.@@N@@Statement
import JvmDerived.Pilot.@@N@@Code
set_option linter.unusedVariables false
set_option linter.unusedSimpArgs false
namespace Jvm.RoadKit
open Sem ClassFile Op Lib Jvm.Stand Jvm.Free Jvm.LawKit
section New
variable {p : Program} {l : Launch} {e : Env} {R : Room} {s : State} {m : MethodId} {args : Array Value} {below : List Frame} {meth : Method} {c : Code} {T : State} {locs : List Loc} {cells slots : Nat}
theorem retI (X : Stand p l e R s m args below meth c T locs cells slots) (hx : p.tables.exec = Jvm.exec) {pc : Nat} {Ls : Array Slot} {z : Int32} {rest : List Value} (hret : meth.sig.returnType = some .int) (hd : decode c.code pc = .ok (.ireturn, 1)) {fs : List Frame}
    (hl : ∀ (f : JFrame) (acts : List Action), f.method = m → f.locked = none → f.entered = [] → (doReturn e (T.setTop f) acts (some (.int z))).1 = T.setFrames fs) : Steps p.tables e below (T.setTop (mkF m pc Ls (.int z :: rest))) (T.setFrames fs) := by
  have hm' : T.vm.method? m = some meth := X.method'
  have hn : narrow .int (.int z) = .int z := rfl
  show Steps p.tables e below (T.setTop { method := m, pc := pc, locals := Ls, stack := _ :: rest, locked := none }) _
  jvm_step X.here [X.here.top, hx, hd, hm', hret, hn]
  first | (intro acts; rw [hl _ acts rfl rfl rfl]) | rw [hl _ _ rfl rfl rfl]
  exact Steps.refl _
theorem retJ (X : Stand p l e R s m args below meth c T locs cells slots) (hx : p.tables.exec = Jvm.exec) {pc : Nat} {Ls : Array Slot} {z : Int64} {rest : List Value} (hret : meth.sig.returnType = some .long) (hd : decode c.code pc = .ok (.lreturn, 1)) {fs : List Frame}
    (hl : ∀ (f : JFrame) (acts : List Action), f.method = m → f.locked = none → f.entered = [] → (doReturn e (T.setTop f) acts (some (.long z))).1 = T.setFrames fs) : Steps p.tables e below (T.setTop (mkF m pc Ls (.long z :: rest))) (T.setFrames fs) :=
  retOut X hx hret rfl (Or.inr (Or.inl ⟨rfl, rfl, z, rfl⟩)) hd hl
theorem retA (X : Stand p l e R s m args below meth c T locs cells slots) (hx : p.tables.exec = Jvm.exec) {pc : Nat} {Ls : Array Slot} {a : Addr} {t : FieldType} {rest : List Value} (hret : meth.sig.returnType = some t) (ht : t.isReference = true) (hd : decode c.code pc = .ok (.areturn, 1)) {fs : List Frame}
    (hl : ∀ (f : JFrame) (acts : List Action), f.method = m → f.locked = none → f.entered = [] → (doReturn e (T.setTop f) acts (some (.ref a))).1 = T.setFrames fs) : Steps p.tables e below (T.setTop (mkF m pc Ls (.ref a :: rest))) (T.setFrames fs) :=
  retOut X hx hret (by cases t <;> first | rfl | (simp [FieldType.isReference] at ht)) (Or.inr (Or.inr (Or.inr (Or.inr ⟨rfl, ht, rfl⟩)))) hd hl
end New
end Jvm.RoadKit
namespace Jvm.Pilot.@@N@@
open Jvm Jvm.ClassFile Sem Op Lib Jvm.Free Jvm.Stand Jvm.LawKit Jvm.RoadKit Bundle Jvm.Pilot.@@N@@.Jvm.D
section OwnKit
variable {p : Program} {l : Launch} {e : Env} {R : Room} {s : State} {m : MethodId} {args : Array Value} {below : List Frame} {meth : Method} {c : Code} {T : State} {locs : List Loc} {cells slots : Nat} {Z : State} {h h' : Heap}
/-- one body's contract, with the walk's goal as a closed predicate K: 'go' takes a step, 'fin' leaves the method -/
theorem own_body {y : MethodName} {bytes : ByteArray} {maxL : Nat} {ret : Option FieldType} {ws : List Jvm.Cond} {rm : Room} {h0 : Heap} {Q : Option Value → Heap → List Loc → Prop} (hp : plainFor y = true)
    (body : ∀ (p : Program) (e : Env) (s : State) (m : MethodId) (below : List Frame) (meth : Method) (c : Code) (s₁ : State) (K : State → Prop),
      (∀ U U', (∀ t, Steps p.tables e below U' t → Steps p.tables e below U t) → K U' → K U) →
      (∀ {T : State} {locs : List Loc} {cells slots : Nat} {g : JFrame} (v : Option Value), Stand p l e rm s m args below meth c T locs cells slots → cells ≤ rm.cells → slots ≤ rm.slots → (ret = none → v = none) → Q v T.heap locs →
        (∀ fs, (∀ (f : JFrame) (acts : List Action), f.method = m → f.locked = none → f.entered = [] → (doReturn e (T.setTop f) acts v).1 = T.setFrames fs) → Steps p.tables e below (T.setTop g) (T.setFrames fs)) → K (T.setTop g)) →
      Stand p l e rm s m args below meth c s₁ [] 0 0 → p.tables.exec = Jvm.exec → c.code = bytes → c.maxLocals = maxL → s.vm.findClass y.cls = some m.cls → meth.name = y.name → meth.sig.returnType = ret → Z.Warmed39 s.vm → s₁.heap = h0 → K (s₁.setTop (entryFrame m args maxL))) :
    MetFree l y (head1 (Jvm.Cond.code y bytes maxL ret :: ws) rm) (fun a U => a = args ∧ Z.Warmed39 U.vm ∧ U.heap = h0) (fun _ _ _ _ _ => True) (fun _ U o U' => ∃ v L, o = .returned v ∧ Q v U'.heap L ∧ FrameEnd U o U' L rm.cells rm.slots) := by
  refine MetFree.of_bodySF hp hisR ?_
  intro p e s m args' below meth c s₁ Bd hml hP hK
  obtain ⟨rfl, hZ, hh⟩ := hP
  refine body p e s m below meth c s₁ (fun U => ∃ s₂ o, Steps p.tables e below U s₂ ∧ s₂.status = .running ∧ Ended s₂ below o ∧ ∃ v L, o = .returned v ∧ Q v s₂.heap L ∧ FrameEnd s o s₂ L rm.cells rm.slots) ?_ ?_ (Stand.of_body Bd) Bd.exec Bd.bytes hml (findClass_of_methodNamed Bd.named) (name_of_methodNamed Bd.named Bd.method).1 Bd.returns hZ (by rw [← hh, Bd.state]; rfl)
  · rintro U U' st ⟨s₂, o, h1, h2⟩
    exact ⟨s₂, o, st _ h1, h2⟩
  · intro T locs cells slots g v X hc hs hv hQ hst
    obtain ⟨fs, hr, hrun, hended, hW, hsame⟩ := X.leave (v := v) (fun q => hv (Bd.returns ▸ q))
    exact ⟨_, _, hst fs hr, hrun, hended, v, locs, rfl, hQ, ⟨_, rfl⟩, hW, hsame.mono hc hs⟩
/-! Java's shifts and the narrowing to a byte -/
def jushr (x y : Int32) : Int32 := (x.toUInt32 >>> (y &&& 31).toUInt32).toInt32
def jshl (x y : Int32) : Int32 := x <<< (y &&& 31)
def jshr (x y : Int32) : Int32 := x >>> (y &&& 31)
def jushrL (x : Int64) (y : Int32) : Int64 := (x.toUInt64 >>> (y &&& 0x3f).toInt64.toUInt64).toInt64
def jshlL (x : Int64) (y : Int32) : Int64 := x <<< (y &&& 0x3f).toInt64
def jshrL (x : Int64) (y : Int32) : Int64 := x >>> (y &&& 0x3f).toInt64
def jb (x : Int32) : Int32 := x.toInt8.toInt32
theorem own_lrem {g : JFrame} {target : State} (X : Stand p l e R s m args below meth c T locs cells slots) (hx : p.tables.exec = Jvm.exec) (hg : g.method = m) {x y : Int64} {rest : List Value} (hd : decode c.code g.pc = .ok (.lrem, 1)) (hs : g.stack = .long y :: .long x :: rest) (hy : y ≠ 0)
    (hr : Steps p.tables e below (T.setTop { g with pc := g.pc + 1, stack := .long (x % y) :: rest }) target) : Steps p.tables e below (T.setTop g) target :=
  XS.lrem X.here hx hg hd hs hy (by rw [lrem_mod]; exact hr)
theorem own_narb (x : Int32) : nar .byte (jb x) = jb x := by simp [nar, jb]
/-! an array by its length and what its places hold -/
def own_upd (f : Nat → Value) (i : Nat) (v : Value) : Nat → Value := fun j => if j = i then v else f j
theorem own_hit (f : Nat → Value) (i : Nat) (v : Value) : own_upd f i v i = v := if_pos rfl
theorem own_miss {f : Nat → Value} {i j : Nat} {v : Value} (q : j ≠ i) : own_upd f i v j = f j := if_neg q
def AF (Z : State) (h : Heap) (a : Addr) (ty : FieldType) (n : Nat) (f : Nat → Value) : Prop := n < 2 ^ 31 ∧ ∃ c : Cell, Arr Z h a c ty ∧ c.slots.size = n ∧ ∀ j, j < n → c.slots[j]? = some (f j)
theorem AF.lt {a : Addr} {ty : FieldType} {n : Nat} {f : Nat → Value} (A : AF Z h a ty n f) : a < h.size := by obtain ⟨-, c, A, -⟩ := A; exact A.lt
theorem AF.ext {a : Addr} {ty : FieldType} {n : Nat} {f : Nat → Value} (A : AF Z h a ty n f) (E : Ext h h') : AF Z h' a ty n f := by obtain ⟨q, c, A, r⟩ := A; exact ⟨q, c, A.ext E, r⟩
theorem AF.other {a b : Addr} {sl : Nat} {v : Value} {ty : FieldType} {n : Nat} {f : Nat → Value} (A : AF Z h b ty n f) (W : Wr h h' a sl v) (q : b ≠ a) : AF Z h' b ty n f := by obtain ⟨q1, c, A, r⟩ := A; exact ⟨q1, c, A.other W q, r⟩
theorem AF.keep {a : Addr} {ws : List Addr} {ty : FieldType} {n : Nat} {f : Nat → Value} (A : AF Z h a ty n f) (K : Keep h h' ws) (q : a ∉ ws) : AF Z h' a ty n f := by obtain ⟨q1, c, A, r⟩ := A; exact ⟨q1, c, ⟨K.2.1 a c A.1 q, A.2⟩, r⟩
theorem AF.congr {a : Addr} {ty : FieldType} {n : Nat} {f f' : Nat → Value} (A : AF Z h a ty n f) (q : ∀ j, j < n → f j = f' j) : AF Z h a ty n f' := by obtain ⟨q1, c, A, S, r⟩ := A; exact ⟨q1, c, A, S, fun j hj => by rw [← q j hj]; exact r j hj⟩
theorem AF.len {a : Addr} {ty : FieldType} {n : Nat} {f : Nat → Value} (A : AF Z h a ty n f) : n < 2 ^ 31 := A.1
theorem own_idx {j : Int32} {i : Nat} (hj : j.toInt = (i : Int)) : j.toNatClampNeg = i := by simp only [Int32.toNatClampNeg, hj]; omega
theorem own_in {j : Int32} {i n : Nat} {c : Cell} (S : c.slots.size = n) (hj : j.toInt = (i : Int)) (hi : i < n) : ¬ (j < 0 ∨ c.slots.size ≤ j.toNatClampNeg) := by
  rw [own_idx hj, S, Int32.lt_iff_toInt_lt, hj]
  simp only [Int32.toInt_zero]
  omega
theorem own_set {a : Addr} {ty : FieldType} {n i : Nat} {f : Nat → Value} {cl : Cell} {v : Value} (q1 : n < 2 ^ 31) (A : Arr Z h a cl ty) (S : cl.slots.size = n) (H : ∀ j, j < n → cl.slots[j]? = some (f j)) (W : Wr h h' a i v) (hi : i < n) : AF Z h' a ty n (own_upd f i v) := by
  refine ⟨q1, _, A.same W, by rw [sz_set]; exact S, fun j hj => ?_⟩
  simp only [Cell.setSlot, own_upd]
  by_cases q : j = i
  · subst q; rw [if_pos rfl]; simp [S, hj]
  · rw [if_neg q, Array.getElem?_setIfInBounds_ne (fun z => q z.symm)]; exact H j hj
theorem own_stI (X : Stand p l e R s m args below meth c T locs cells slots) (hx : p.tables.exec = Jvm.exec) (hZ : Z.Warmed39 s.vm) (eT : T.heap = h) {a : Addr} {n i : Nat} {f : Nat → Value} (A : AF Z h a .int n f) {j x : Int32} (hj : j.toInt = (i : Int)) (hi : i < n) {g : JFrame} (hg : g.method = m) {rest : List Value} (hs : g.stack = .int x :: .int j :: .ref a :: rest) (hd : decode c.code g.pc = .ok (.iastore, 1)) :
    ∃ T' h', Stand p l e R s m args below meth c T' (locs ++ [⟨a, i⟩]) cells slots ∧ T'.heap = h' ∧ Wr h h' a i (.int x) ∧ AF Z h' a .int n (own_upd f i (.int x)) ∧ ∀ target, Steps p.tables e below (T'.setTop { g with pc := g.pc + 1, stack := rest }) target → Steps p.tables e below (T.setTop g) target := by
  obtain ⟨q1, cl, Ar, S, H⟩ := A
  obtain ⟨T', h', X', e', W, st⟩ := stI X hx hZ eT Ar (j := j) (own_in S hj hi) hg hs hd
  rw [own_idx hj] at X' W
  exact ⟨T', h', X', e', W, own_set q1 Ar S H W hi, st⟩
theorem own_stJ (X : Stand p l e R s m args below meth c T locs cells slots) (hx : p.tables.exec = Jvm.exec) (hZ : Z.Warmed39 s.vm) (eT : T.heap = h) {a : Addr} {n i : Nat} {f : Nat → Value} (A : AF Z h a .long n f) {j : Int32} {x : Int64} (hj : j.toInt = (i : Int)) (hi : i < n) {g : JFrame} (hg : g.method = m) {rest : List Value} (hs : g.stack = .long x :: .int j :: .ref a :: rest) (hd : decode c.code g.pc = .ok (.lastore, 1)) :
    ∃ T' h', Stand p l e R s m args below meth c T' (locs ++ [⟨a, i⟩]) cells slots ∧ T'.heap = h' ∧ Wr h h' a i (.long x) ∧ AF Z h' a .long n (own_upd f i (.long x)) ∧ ∀ target, Steps p.tables e below (T'.setTop { g with pc := g.pc + 1, stack := rest }) target → Steps p.tables e below (T.setTop g) target := by
  obtain ⟨q1, cl, Ar, S, H⟩ := A
  obtain ⟨T', h', X', e', W, st⟩ := stJ X hx hZ eT Ar (j := j) (own_in S hj hi) hg hs hd
  rw [own_idx hj] at X' W
  exact ⟨T', h', X', e', W, own_set q1 Ar S H W hi, st⟩
theorem own_stB (X : Stand p l e R s m args below meth c T locs cells slots) (hx : p.tables.exec = Jvm.exec) (hZ : Z.Warmed39 s.vm) (eT : T.heap = h) {a : Addr} {n i : Nat} {f : Nat → Value} (A : AF Z h a .byte n f) {j x : Int32} (hj : j.toInt = (i : Int)) (hi : i < n) (hn : nar .byte x = x) {g : JFrame} (hg : g.method = m) {rest : List Value} (hs : g.stack = .int x :: .int j :: .ref a :: rest) (hd : decode c.code g.pc = .ok (.bastore, 1)) :
    ∃ T' h', Stand p l e R s m args below meth c T' (locs ++ [⟨a, i⟩]) cells slots ∧ T'.heap = h' ∧ Wr h h' a i (.int x) ∧ AF Z h' a .byte n (own_upd f i (.int x)) ∧ ∀ target, Steps p.tables e below (T'.setTop { g with pc := g.pc + 1, stack := rest }) target → Steps p.tables e below (T.setTop g) target := by
  obtain ⟨q1, cl, Ar, S, H⟩ := A
  obtain ⟨T', h', X', e', W, st⟩ := stB X hx hZ eT Ar (j := j) (own_in S hj hi) hg hs hd
  rw [own_idx hj] at X' W
  rw [hn] at W
  exact ⟨T', h', X', e', W, own_set q1 Ar S H W hi, st⟩
theorem own_new (X : Stand p l e R s m args below meth c T locs cells slots) (hx : p.tables.exec = Jvm.exec) (hZ : Z.Warmed39 s.vm) {a0 : Array Value} {aty : ArrayType} (w : (Cond.arrayClass (newarray.typeOf aty)).before a0 Z = true) (eT : T.heap = h) {g : JFrame} (hg : g.method = m) (hd : decode c.code g.pc = .ok (.newarray aty, 2)) {n : Int32} {rest : List Value} (hs : g.stack = .int n :: rest)
    {k : Nat} (hn : n.toInt = (k : Int)) (cap : Nat) (hcap : k ≤ cap) (hb : cap * 8 ≤ 536870912) (hc : cells + 1 ≤ R.cells) (hl : slots + cap ≤ R.slots) :
    ∃ T' h' a, Stand p l e R s m args below meth c T' locs (cells + 1) (slots + cap) ∧ T'.heap = h' ∧ Ext h h' ∧ a = h.size ∧ AF Z h' a (newarray.typeOf aty) k (fun _ => defaultValue (newarray.typeOf aty)) ∧
      ∀ target, Steps p.tables e below (T'.setTop { g with pc := g.pc + 2, stack := .ref a :: rest }) target → Steps p.tables e below (T.setTop g) target := by
  have hn0 : ¬ n < 0 := by rw [Int32.lt_iff_toInt_lt, hn]; simp only [Int32.toInt_zero]; omega
  have hk : n.toNatClampNeg = k := own_idx hn
  have hk31 : k < 2 ^ 31 := by have := n.toInt_lt; omega
  obtain ⟨T', h', cA, X', e', E, A, st⟩ := newP X hx hZ w eT hg hd hs hn0 (by rw [hk]; exact hcap) hb hc hl
  refine ⟨T', h', h.size, X', e', E, rfl, ⟨hk31, _, A, by rw [sz_new, hk], fun j hj => ?_⟩, st⟩
  simp [newA, hk, hj]
theorem own_ldI (X : Stand p l e R s m args below meth c T locs cells slots) (hx : p.tables.exec = Jvm.exec) (hZ : Z.Warmed39 s.vm) (eT : T.heap = h) {a : Addr} {n i : Nat} {f : Nat → Value} (A : AF Z h a .int n f) {j : Int32} (hj : j.toInt = (i : Int)) (hi : i < n) {g : JFrame} (hg : g.method = m) {rest : List Value} (hs : g.stack = .int j :: .ref a :: rest) (hd : decode c.code g.pc = .ok (.iaload, 1)) {v : Value} (hv : f i = v) (target : State)
    (hr : Steps p.tables e below (T.setTop { g with pc := g.pc + 1, stack := v :: rest }) target) : Steps p.tables e below (T.setTop g) target := by
  obtain ⟨-, cl, Ar, S, H⟩ := A
  exact X.iaload hx (j := j) (v := v) (by rw [eT]; exact Ar.1) (State.isArrayOf_alike hZ.alike Ar.2.1) Ar.2.2 (own_in S hj hi) (by rw [own_idx hj, ← hv]; exact H i hi) hg hs hd target hr
theorem own_ldJ (X : Stand p l e R s m args below meth c T locs cells slots) (hx : p.tables.exec = Jvm.exec) (hZ : Z.Warmed39 s.vm) (eT : T.heap = h) {a : Addr} {n i : Nat} {f : Nat → Value} (A : AF Z h a .long n f) {j : Int32} (hj : j.toInt = (i : Int)) (hi : i < n) {g : JFrame} (hg : g.method = m) {rest : List Value} (hs : g.stack = .int j :: .ref a :: rest) (hd : decode c.code g.pc = .ok (.laload, 1)) {v : Value} (hv : f i = v) (target : State)
    (hr : Steps p.tables e below (T.setTop { g with pc := g.pc + 1, stack := v :: rest }) target) : Steps p.tables e below (T.setTop g) target := by
  obtain ⟨-, cl, Ar, S, H⟩ := A
  exact X.laload hx (j := j) (v := v) (by rw [eT]; exact Ar.1) (State.isArrayOf_alike hZ.alike Ar.2.1) Ar.2.2 (own_in S hj hi) (by rw [own_idx hj, ← hv]; exact H i hi) hg hs hd target hr
theorem own_ldB (X : Stand p l e R s m args below meth c T locs cells slots) (hx : p.tables.exec = Jvm.exec) (hZ : Z.Warmed39 s.vm) (eT : T.heap = h) {a : Addr} {n i : Nat} {f : Nat → Value} (A : AF Z h a .byte n f) {j : Int32} (hj : j.toInt = (i : Int)) (hi : i < n) {g : JFrame} (hg : g.method = m) {rest : List Value} (hs : g.stack = .int j :: .ref a :: rest) (hd : decode c.code g.pc = .ok (.baload, 1)) {v : Value} (hv : f i = v) (target : State)
    (hr : Steps p.tables e below (T.setTop { g with pc := g.pc + 1, stack := v :: rest }) target) : Steps p.tables e below (T.setTop g) target := by
  obtain ⟨-, cl, Ar, S, H⟩ := A
  exact X.baloadBytes hx (j := j) (v := v) (by rw [eT]; exact Ar.1) (State.isArrayOf_alike hZ.alike Ar.2.1) Ar.2.2 (own_in S hj hi) (by rw [own_idx hj, ← hv]; exact H i hi) hg hs hd target hr
theorem own_len (X : Stand p l e R s m args below meth c T locs cells slots) (hx : p.tables.exec = Jvm.exec) (hZ : Z.Warmed39 s.vm) (eT : T.heap = h) {a : Addr} {ty : FieldType} {n : Nat} {f : Nat → Value} (A : AF Z h a ty n f) {g : JFrame} (hg : g.method = m) {rest : List Value} (hs : g.stack = .ref a :: rest) (hd : decode c.code g.pc = .ok (.arraylength, 1)) (target : State)
    (hr : Steps p.tables e below (T.setTop { g with pc := g.pc + 1, stack := .int (Int32.ofNat n) :: rest }) target) : Steps p.tables e below (T.setTop g) target := by
  obtain ⟨-, cl, Ar, S, H⟩ := A
  refine X.arraylength hx (by rw [eT]; exact Ar.1) (State.isArrayOf_alike hZ.alike Ar.2.1) hg hs hd target ?_
  rw [S]; exact hr
end OwnKit
theorem pd_1 : parseMethodDescriptor "(I)I" = some ⟨[.int], some .int⟩ := by decide +kernel
theorem d1_0 : decode prog_17_method_8_code 0 = .ok (.sipush 299, 3) := by decide +kernel
theorem d1_3 : decode prog_17_method_8_code 3 = .ok (.iload_n 0, 1) := by decide +kernel
theorem d1_4 : decode prog_17_method_8_code 4 = .ok (.bipush 16, 2) := by decide +kernel
theorem d1_6 : decode prog_17_method_8_code 6 = .ok (.ishr, 1) := by decide +kernel
theorem d1_7 : decode prog_17_method_8_code 7 = .ok (.sipush 255, 3) := by decide +kernel
theorem d1_10 : decode prog_17_method_8_code 10 = .ok (.iand, 1) := by decide +kernel
theorem d1_11 : decode prog_17_method_8_code 11 = .ok (.imul, 1) := by decide +kernel
theorem d1_12 : decode prog_17_method_8_code 12 = .ok (.sipush 587, 3) := by decide +kernel
theorem d1_15 : decode prog_17_method_8_code 15 = .ok (.iload_n 0, 1) := by decide +kernel
theorem d1_16 : decode prog_17_method_8_code 16 = .ok (.bipush 8, 2) := by decide +kernel
theorem d1_18 : decode prog_17_method_8_code 18 = .ok (.ishr, 1) := by decide +kernel
theorem d1_19 : decode prog_17_method_8_code 19 = .ok (.sipush 255, 3) := by decide +kernel
theorem d1_22 : decode prog_17_method_8_code 22 = .ok (.iand, 1) := by decide +kernel
theorem d1_23 : decode prog_17_method_8_code 23 = .ok (.imul, 1) := by decide +kernel
theorem d1_24 : decode prog_17_method_8_code 24 = .ok (.iadd, 1) := by decide +kernel
theorem d1_25 : decode prog_17_method_8_code 25 = .ok (.bipush 114, 2) := by decide +kernel
theorem d1_27 : decode prog_17_method_8_code 27 = .ok (.iload_n 0, 1) := by decide +kernel
theorem d1_28 : decode prog_17_method_8_code 28 = .ok (.sipush 255, 3) := by decide +kernel
theorem d1_31 : decode prog_17_method_8_code 31 = .ok (.iand, 1) := by decide +kernel
theorem d1_32 : decode prog_17_method_8_code 32 = .ok (.imul, 1) := by decide +kernel
theorem d1_33 : decode prog_17_method_8_code 33 = .ok (.iadd, 1) := by decide +kernel
theorem d1_34 : decode prog_17_method_8_code 34 = .ok (.sipush 1000, 3) := by decide +kernel
theorem d1_37 : decode prog_17_method_8_code 37 = .ok (.idiv, 1) := by decide +kernel
theorem d1_38 : decode prog_17_method_8_code 38 = .ok (.ireturn, 1) := by decide +kernel
theorem pn_3 : plainName "formlet/PixelFormat" = true := by first | (simp [plainName, overriddenIn]; done) | decide +kernel
theorem ef_rm1 (m : MethodId) (p1 : Int32) : entryFrame m #[(.int p1)] 1 = mkF m 0 #[.val (.int p1)] [] := by first | (simp [entryFrame, mkF, argsToLocals, Value.category]; done) | rfl
def f_rm1 (p1 : Int32) : Int32 := (((((299 : Int32) * ((jshr p1 (16 : Int32)) &&& (255 : Int32))) + ((587 : Int32) * ((jshr p1 (8 : Int32)) &&& (255 : Int32)))) + ((114 : Int32) * (p1 &&& (255 : Int32)))) / (1000 : Int32))
def Q_rm1 (Z : State) (p1 : Int32) (h0 : Heap) (n0 : Nat) (v : Option Value) (h : Heap) (L : List Loc) : Prop := v = some (.int (f_rm1 p1)) ∧ Fr n0 L ∧ h = h0
set_option maxRecDepth 65536 in
set_option maxHeartbeats 40000000 in
theorem rm1 (l : Launch) (Z : State) (a0 : Array Value) (hw : ∀ d ∈ tables_1, d.before a0 Z = true) (ws : List Jvm.Cond) (p1 : Int32) (h0 : Heap) (n0 : Nat) (Z0 : n0 ≤ h0.size)  :
    MetFree l (⟨"formlet/PixelFormat", "luminance", "(I)I"⟩ : MethodName) (head1 (Jvm.Cond.code (⟨"formlet/PixelFormat", "luminance", "(I)I"⟩ : MethodName) prog_17_method_8_code 1 (some .int) :: ws) ({ frames := 0, cells := 0, slots := 0, locals := 0 } : Room)) (fun a U => a = #[(.int p1)] ∧ Z.Warmed39 U.vm ∧ U.heap = h0) (fun _ _ _ _ _ => True) (fun _ U o U' => ∃ v L, o = .returned v ∧ Q_rm1 Z p1 h0 n0 v U'.heap L ∧ FrameEnd U o U' L ({ frames := 0, cells := 0, slots := 0, locals := 0 } : Room).cells ({ frames := 0, cells := 0, slots := 0, locals := 0 } : Room).slots) := by
  refine own_body (Q := Q_rm1 Z p1 h0 n0) (plainFor_of_name pn_3) ?_
  intro p e s m below meth c s₁ K go fin X0 hx hby hml hown hnm hret hZ e0
  have hown : s.vm.findClass "formlet/PixelFormat" = some m.cls := hown
  have N0 := Fr.nil n0
  refine go _ (s₁.setTop (mkF m 0 #[.val (.int p1)] [])) (fun t k => castTop (ef_rm1 m p1) k) ?_
  refine go _ (s₁.setTop (mkF m 3 #[.val (.int p1)] [(.int (299 : Int32))])) (fun t k => XS.sipush X0.here hx rfl (hb hby d1_0) k) ?_
  refine go _ (s₁.setTop (mkF m 4 #[.val (.int p1)] [(.int p1), (.int (299 : Int32))])) (fun t k => XS.iloadN X0.here hx rfl (hb hby d1_3) rfl k) ?_
  refine go _ (s₁.setTop (mkF m 6 #[.val (.int p1)] [(.int (16 : Int32)), (.int p1), (.int (299 : Int32))])) (fun t k => XS.bipush X0.here hx rfl (hb hby d1_4) k) ?_
  refine go _ (s₁.setTop (mkF m 7 #[.val (.int p1)] [(.int (jshr p1 (16 : Int32))), (.int (299 : Int32))])) (fun t k => XS.ishr X0.here hx rfl (hb hby d1_6) rfl k) ?_
  refine go _ (s₁.setTop (mkF m 10 #[.val (.int p1)] [(.int (255 : Int32)), (.int (jshr p1 (16 : Int32))), (.int (299 : Int32))])) (fun t k => XS.sipush X0.here hx rfl (hb hby d1_7) k) ?_
  refine go _ (s₁.setTop (mkF m 11 #[.val (.int p1)] [(.int ((jshr p1 (16 : Int32)) &&& (255 : Int32))), (.int (299 : Int32))])) (fun t k => XS.iand X0.here hx rfl (hb hby d1_10) rfl k) ?_
  refine go _ (s₁.setTop (mkF m 12 #[.val (.int p1)] [(.int ((299 : Int32) * ((jshr p1 (16 : Int32)) &&& (255 : Int32))))])) (fun t k => XS.imul X0.here hx rfl (hb hby d1_11) rfl k) ?_
  refine go _ (s₁.setTop (mkF m 15 #[.val (.int p1)] [(.int (587 : Int32)), (.int ((299 : Int32) * ((jshr p1 (16 : Int32)) &&& (255 : Int32))))])) (fun t k => XS.sipush X0.here hx rfl (hb hby d1_12) k) ?_
  refine go _ (s₁.setTop (mkF m 16 #[.val (.int p1)] [(.int p1), (.int (587 : Int32)), (.int ((299 : Int32) * ((jshr p1 (16 : Int32)) &&& (255 : Int32))))])) (fun t k => XS.iloadN X0.here hx rfl (hb hby d1_15) rfl k) ?_
  refine go _ (s₁.setTop (mkF m 18 #[.val (.int p1)] [(.int (8 : Int32)), (.int p1), (.int (587 : Int32)), (.int ((299 : Int32) * ((jshr p1 (16 : Int32)) &&& (255 : Int32))))])) (fun t k => XS.bipush X0.here hx rfl (hb hby d1_16) k) ?_
  refine go _ (s₁.setTop (mkF m 19 #[.val (.int p1)] [(.int (jshr p1 (8 : Int32))), (.int (587 : Int32)), (.int ((299 : Int32) * ((jshr p1 (16 : Int32)) &&& (255 : Int32))))])) (fun t k => XS.ishr X0.here hx rfl (hb hby d1_18) rfl k) ?_
  refine go _ (s₁.setTop (mkF m 22 #[.val (.int p1)] [(.int (255 : Int32)), (.int (jshr p1 (8 : Int32))), (.int (587 : Int32)), (.int ((299 : Int32) * ((jshr p1 (16 : Int32)) &&& (255 : Int32))))])) (fun t k => XS.sipush X0.here hx rfl (hb hby d1_19) k) ?_
  refine go _ (s₁.setTop (mkF m 23 #[.val (.int p1)] [(.int ((jshr p1 (8 : Int32)) &&& (255 : Int32))), (.int (587 : Int32)), (.int ((299 : Int32) * ((jshr p1 (16 : Int32)) &&& (255 : Int32))))])) (fun t k => XS.iand X0.here hx rfl (hb hby d1_22) rfl k) ?_
  refine go _ (s₁.setTop (mkF m 24 #[.val (.int p1)] [(.int ((587 : Int32) * ((jshr p1 (8 : Int32)) &&& (255 : Int32)))), (.int ((299 : Int32) * ((jshr p1 (16 : Int32)) &&& (255 : Int32))))])) (fun t k => XS.imul X0.here hx rfl (hb hby d1_23) rfl k) ?_
  refine go _ (s₁.setTop (mkF m 25 #[.val (.int p1)] [(.int (((299 : Int32) * ((jshr p1 (16 : Int32)) &&& (255 : Int32))) + ((587 : Int32) * ((jshr p1 (8 : Int32)) &&& (255 : Int32)))))])) (fun t k => XS.iadd X0.here hx rfl (hb hby d1_24) rfl k) ?_
  refine go _ (s₁.setTop (mkF m 27 #[.val (.int p1)] [(.int (114 : Int32)), (.int (((299 : Int32) * ((jshr p1 (16 : Int32)) &&& (255 : Int32))) + ((587 : Int32) * ((jshr p1 (8 : Int32)) &&& (255 : Int32)))))])) (fun t k => XS.bipush X0.here hx rfl (hb hby d1_25) k) ?_
  refine go _ (s₁.setTop (mkF m 28 #[.val (.int p1)] [(.int p1), (.int (114 : Int32)), (.int (((299 : Int32) * ((jshr p1 (16 : Int32)) &&& (255 : Int32))) + ((587 : Int32) * ((jshr p1 (8 : Int32)) &&& (255 : Int32)))))])) (fun t k => XS.iloadN X0.here hx rfl (hb hby d1_27) rfl k) ?_
  refine go _ (s₁.setTop (mkF m 31 #[.val (.int p1)] [(.int (255 : Int32)), (.int p1), (.int (114 : Int32)), (.int (((299 : Int32) * ((jshr p1 (16 : Int32)) &&& (255 : Int32))) + ((587 : Int32) * ((jshr p1 (8 : Int32)) &&& (255 : Int32)))))])) (fun t k => XS.sipush X0.here hx rfl (hb hby d1_28) k) ?_
  refine go _ (s₁.setTop (mkF m 32 #[.val (.int p1)] [(.int (p1 &&& (255 : Int32))), (.int (114 : Int32)), (.int (((299 : Int32) * ((jshr p1 (16 : Int32)) &&& (255 : Int32))) + ((587 : Int32) * ((jshr p1 (8 : Int32)) &&& (255 : Int32)))))])) (fun t k => XS.iand X0.here hx rfl (hb hby d1_31) rfl k) ?_
  refine go _ (s₁.setTop (mkF m 33 #[.val (.int p1)] [(.int ((114 : Int32) * (p1 &&& (255 : Int32)))), (.int (((299 : Int32) * ((jshr p1 (16 : Int32)) &&& (255 : Int32))) + ((587 : Int32) * ((jshr p1 (8 : Int32)) &&& (255 : Int32)))))])) (fun t k => XS.imul X0.here hx rfl (hb hby d1_32) rfl k) ?_
  refine go _ (s₁.setTop (mkF m 34 #[.val (.int p1)] [(.int ((((299 : Int32) * ((jshr p1 (16 : Int32)) &&& (255 : Int32))) + ((587 : Int32) * ((jshr p1 (8 : Int32)) &&& (255 : Int32)))) + ((114 : Int32) * (p1 &&& (255 : Int32)))))])) (fun t k => XS.iadd X0.here hx rfl (hb hby d1_33) rfl k) ?_
  refine go _ (s₁.setTop (mkF m 37 #[.val (.int p1)] [(.int (1000 : Int32)), (.int ((((299 : Int32) * ((jshr p1 (16 : Int32)) &&& (255 : Int32))) + ((587 : Int32) * ((jshr p1 (8 : Int32)) &&& (255 : Int32)))) + ((114 : Int32) * (p1 &&& (255 : Int32)))))])) (fun t k => XS.sipush X0.here hx rfl (hb hby d1_34) k) ?_
  refine go _ (s₁.setTop (mkF m 38 #[.val (.int p1)] [(.int (((((299 : Int32) * ((jshr p1 (16 : Int32)) &&& (255 : Int32))) + ((587 : Int32) * ((jshr p1 (8 : Int32)) &&& (255 : Int32)))) + ((114 : Int32) * (p1 &&& (255 : Int32)))) / (1000 : Int32)))])) (fun t k => XS.idiv X0.here hx rfl (hb hby d1_37) rfl (by decide) k) ?_
  exact fin (some (.int (((((299 : Int32) * ((jshr p1 (16 : Int32)) &&& (255 : Int32))) + ((587 : Int32) * ((jshr p1 (8 : Int32)) &&& (255 : Int32)))) + ((114 : Int32) * (p1 &&& (255 : Int32)))) / (1000 : Int32)))) X0 (by decide) (by decide) (fun q => by cases q) (show Q_rm1 Z p1 h0 n0 _ s₁.heap _ from (by rw [e0]; exact ⟨congrArg some (congrArg Value.int (show (f_rm1 p1) = (((((299 : Int32) * ((jshr p1 (16 : Int32)) &&& (255 : Int32))) + ((587 : Int32) * ((jshr p1 (8 : Int32)) &&& (255 : Int32)))) + ((114 : Int32) * (p1 &&& (255 : Int32)))) / (1000 : Int32)) from rfl).symm), N0, rfl⟩)) (fun fs hr => retI X0 hx hret (hb hby d1_38) hr)
theorem pn_5 : plainName "formlet/PixelFormatLuminancePinLaw" = true := by first | (simp [plainName, overriddenIn]; done) | decide +kernel
theorem ef_rm0 (m : MethodId) (p1 : Int32) (p2 : Int32) (p3 : Int32) (p4 : Int32) : entryFrame m #[(.int p1), (.int p2), (.int p3), (.int p4)] maxLocals = mkF m 0 #[.val (.int p1), .val (.int p2), .val (.int p3), .val (.int p4), .unset, .unset, .unset, .unset, .unset, .unset, .unset, .unset, .unset] [] := by first | (simp [entryFrame, mkF, argsToLocals, Value.category, maxLocals]; done) | rfl
def v_rm0_0 (p4 : Int32) (p1 : Int32) (p2 : Int32) (p3 : Int32) : Int32 := ((((jshl p4 (24 : Int32)) ||| (jshl (p1 &&& (255 : Int32)) (16 : Int32))) ||| (jshl (p2 &&& (255 : Int32)) (8 : Int32))) ||| (p3 &&& (255 : Int32)))
def v_rm0_1 (p1 : Int32) (p2 : Int32) (p3 : Int32) : Int32 := ((((299 : Int32) * (p1 &&& (255 : Int32))) + ((587 : Int32) * (p2 &&& (255 : Int32)))) + ((114 : Int32) * (p3 &&& (255 : Int32))))
theorem own_pack (p1 p2 p3 p4 : Int32) : ∃ H : Int, (v_rm0_0 p4 p1 p2 p3).toInt = H * 16777216 + (p1 &&& (255 : Int32)).toInt * 65536 + (p2 &&& (255 : Int32)).toInt * 256 + (p3 &&& (255 : Int32)).toInt := by
  have m1 := c_mask p1 255 8 (by decide) (by decide +kernel)
  have m2 := c_mask p2 255 8 (by decide) (by decide +kernel)
  have m3 := c_mask p3 255 8 (by decide) (by decide +kernel)
  unfold v_rm0_0
  generalize (p1 &&& (255 : Int32)) = r at *
  generalize (p2 &&& (255 : Int32)) = g at *
  generalize (p3 &&& (255 : Int32)) = b at *
  have s4 : ((jshl p4 (24 : Int32)).toInt - p4.toInt * ((2 ^ 24 : Nat) : Int)) % 4294967296 = 0 := c_ishl p4 24 24 (by decide +kernel)
  have s1 : ((jshl r (16 : Int32)).toInt - r.toInt * ((2 ^ 16 : Nat) : Int)) % 4294967296 = 0 := c_ishl r 16 16 (by decide +kernel)
  have s2 : ((jshl g (8 : Int32)).toInt - g.toInt * ((2 ^ 8 : Nat) : Int)) % 4294967296 = 0 := c_ishl g 8 8 (by decide +kernel)
  generalize jshl p4 (24 : Int32) = A at *
  generalize jshl r (16 : Int32) = B at *
  generalize jshl g (8 : Int32) = D at *
  have rA := rng32 A
  have rB := rng32 B
  have rD := rng32 D
  have o1 := c_or A B 24 (by decide) 16777216 rfl (by omega) (by omega) (by omega)
  have r1 := rng32 (A ||| B)
  generalize A ||| B = O1 at *
  have o2 := c_or O1 D 16 (by decide) 65536 rfl (by omega) (by omega) (by omega)
  have r2 := rng32 (O1 ||| D)
  generalize O1 ||| D = O2 at *
  have o3 := c_or O2 b 8 (by decide) 256 rfl (by omega) (by omega) (by omega)
  have r3 := rng32 (O2 ||| b)
  exact ⟨A.toInt / 16777216, by omega⟩
theorem own_lum (p1 p2 p3 p4 : Int32) : (v_rm0_1 p1 p2 p3).toInt = 299 * (p1 &&& (255 : Int32)).toInt + 587 * (p2 &&& (255 : Int32)).toInt + 114 * (p3 &&& (255 : Int32)).toInt ∧ (f_rm1 (v_rm0_0 p4 p1 p2 p3)).toInt = (v_rm0_1 p1 p2 p3).toInt / 1000 ∧ 0 ≤ (v_rm0_1 p1 p2 p3).toInt ∧ (v_rm0_1 p1 p2 p3).toInt ≤ 255000 := by
  have m1 := c_mask p1 255 8 (by decide) (by decide +kernel)
  have m2 := c_mask p2 255 8 (by decide) (by decide +kernel)
  have m3 := c_mask p3 255 8 (by decide) (by decide +kernel)
  obtain ⟨H, hH⟩ := own_pack p1 p2 p3 p4
  unfold v_rm0_1 f_rm1
  generalize v_rm0_0 p4 p1 p2 p3 = X at *
  have a1 : (jshr X (16 : Int32)).toInt = X.toInt / ((2 ^ 16 : Nat) : Int) := c_ishr X 16 16 (by decide +kernel)
  have a2 : (jshr X (8 : Int32)).toInt = X.toInt / ((2 ^ 8 : Nat) : Int) := c_ishr X 8 8 (by decide +kernel)
  have n1 := c_mask (jshr X (16 : Int32)) 255 8 (by decide) (by decide +kernel)
  have n2 := c_mask (jshr X (8 : Int32)) 255 8 (by decide) (by decide +kernel)
  have n3 := c_mask X 255 8 (by decide) (by decide +kernel)
  have q1 : (jshr X (16 : Int32)) &&& (255 : Int32) = p1 &&& (255 : Int32) := by rw [← Int32.toInt_inj]; omega
  have q2 : (jshr X (8 : Int32)) &&& (255 : Int32) = p2 &&& (255 : Int32) := by rw [← Int32.toInt_inj]; omega
  have q3 : X &&& (255 : Int32) = p3 &&& (255 : Int32) := by rw [← Int32.toInt_inj]; omega
  rw [q1, q2, q3]
  generalize (p1 &&& (255 : Int32)) = r at *
  generalize (p2 &&& (255 : Int32)) = g at *
  generalize (p3 &&& (255 : Int32)) = b at *
  have k1 := c_imul 299 r
  have k2 := c_imul 587 g
  have k3 := c_imul 114 b
  have t1 := rng32 (299 * r)
  have t2 := rng32 (587 * g)
  have t3 := rng32 (114 * b)
  have e1 : (299 : Int32).toInt = 299 := by decide
  have e2 : (587 : Int32).toInt = 587 := by decide
  have e3 : (114 : Int32).toInt = 114 := by decide
  rw [e1] at k1
  rw [e2] at k2
  rw [e3] at k3
  have s1 := c_iadd (299 * r) (587 * g)
  have s2 := c_iadd (299 * r + 587 * g) (114 * b)
  have u1 := rng32 (299 * r + 587 * g)
  have u2 := rng32 (299 * r + 587 * g + 114 * b)
  have S : (299 * r + 587 * g + 114 * b).toInt = 299 * r.toInt + 587 * g.toInt + 114 * b.toInt := by omega
  have d := (c_idiv (299 * r + 587 * g + 114 * b) 1000 1000 (by decide) (by decide)).1 (by omega)
  exact ⟨S, d, by omega, by omega⟩
theorem own_o1 (p1 p2 p3 p4 : Int32) : ¬ (f_rm1 (v_rm0_0 p4 p1 p2 p3) < (0 : Int32)) := by
  have h := own_lum p1 p2 p3 p4
  rw [Int32.lt_iff_toInt_lt, show (0 : Int32).toInt = 0 from by decide]
  omega
theorem own_o2 (p1 p2 p3 p4 : Int32) : ¬ ((255 : Int32) < f_rm1 (v_rm0_0 p4 p1 p2 p3)) := by
  have h := own_lum p1 p2 p3 p4
  rw [Int32.lt_iff_toInt_lt, show (255 : Int32).toInt = 255 from by decide]
  omega
theorem own_th (p1 p2 p3 p4 : Int32) : ((1000 : Int32) * f_rm1 (v_rm0_0 p4 p1 p2 p3)).toInt = 1000 * (f_rm1 (v_rm0_0 p4 p1 p2 p3)).toInt := by
  have h := own_lum p1 p2 p3 p4
  have k := c_imul 1000 (f_rm1 (v_rm0_0 p4 p1 p2 p3))
  have t := rng32 ((1000 : Int32) * f_rm1 (v_rm0_0 p4 p1 p2 p3))
  rw [show (1000 : Int32).toInt = 1000 from by decide] at k
  omega
theorem own_o3 (p1 p2 p3 p4 : Int32) : ¬ (v_rm0_1 p1 p2 p3 < (1000 : Int32) * f_rm1 (v_rm0_0 p4 p1 p2 p3)) := by
  have h := own_lum p1 p2 p3 p4
  rw [Int32.lt_iff_toInt_lt, own_th]
  omega
theorem own_o4 (p1 p2 p3 p4 : Int32) : v_rm0_1 p1 p2 p3 < (1000 : Int32) * f_rm1 (v_rm0_0 p4 p1 p2 p3) + (1000 : Int32) := by
  obtain ⟨-, h2, h3, h4⟩ := own_lum p1 p2 p3 p4
  have k := c_iadd ((1000 : Int32) * f_rm1 (v_rm0_0 p4 p1 p2 p3)) 1000
  have t := rng32 ((1000 : Int32) * f_rm1 (v_rm0_0 p4 p1 p2 p3) + 1000)
  have e := own_th p1 p2 p3 p4
  have e2 : (1000 : Int32).toInt = 1000 := by decide
  rw [Int32.lt_iff_toInt_lt]
  generalize ((1000 : Int32) * f_rm1 (v_rm0_0 p4 p1 p2 p3) + 1000).toInt = Y at *
  generalize ((1000 : Int32) * f_rm1 (v_rm0_0 p4 p1 p2 p3)).toInt = X at *
  generalize (f_rm1 (v_rm0_0 p4 p1 p2 p3)).toInt = F at *
  generalize (v_rm0_1 p1 p2 p3).toInt = S at *
  omega
def Q_rm0 (Z : State) (p1 : Int32) (p2 : Int32) (p3 : Int32) (p4 : Int32) (h0 : Heap) (n0 : Nat) (v : Option Value) (h : Heap) (L : List Loc) : Prop := v = some (.int (1 : Int32)) ∧ Fr n0 L
set_option maxRecDepth 65536 in
set_option maxHeartbeats 40000000 in
theorem rm0 (l : Launch) (Z : State) (a0 : Array Value) (hw : ∀ d ∈ tables_1, d.before a0 Z = true) (ws : List Jvm.Cond) (p1 : Int32) (p2 : Int32) (p3 : Int32) (p4 : Int32) (h0 : Heap) (n0 : Nat) (Z0 : n0 ≤ h0.size)  :
    MetFree l x (head1 (Jvm.Cond.code x code maxLocals ret :: ws) room_1) (fun a U => a = #[(.int p1), (.int p2), (.int p3), (.int p4)] ∧ Z.Warmed39 U.vm ∧ U.heap = h0) (fun _ _ _ _ _ => True) (fun _ U o U' => ∃ v L, o = .returned v ∧ Q_rm0 Z p1 p2 p3 p4 h0 n0 v U'.heap L ∧ FrameEnd U o U' L room_1.cells room_1.slots) := by
  refine own_body (Q := Q_rm0 Z p1 p2 p3 p4 h0 n0) (plainFor_of_name pn_5) ?_
  intro p e s m below meth c s₁ K go fin X0 hx hby hml hown hnm hret hZ e0
  have hown : s.vm.findClass "formlet/PixelFormatLuminancePinLaw" = some m.cls := hown
  have N0 := Fr.nil n0
  refine go _ (s₁.setTop (mkF m 0 #[.val (.int p1), .val (.int p2), .val (.int p3), .val (.int p4), .unset, .unset, .unset, .unset, .unset, .unset, .unset, .unset, .unset] [])) (fun t k => castTop (ef_rm0 m p1 p2 p3 p4) k) ?_
  refine go _ (s₁.setTop (mkF m 1 #[.val (.int p1), .val (.int p2), .val (.int p3), .val (.int p4), .unset, .unset, .unset, .unset, .unset, .unset, .unset, .unset, .unset] [(.int p1)])) (fun t k => XS.iloadN X0.here hx rfl (hb hby at_0) rfl k) ?_
  refine go _ (s₁.setTop (mkF m 4 #[.val (.int p1), .val (.int p2), .val (.int p3), .val (.int p4), .unset, .unset, .unset, .unset, .unset, .unset, .unset, .unset, .unset] [(.int (255 : Int32)), (.int p1)])) (fun t k => XS.sipush X0.here hx rfl (hb hby at_1) k) ?_
  refine go _ (s₁.setTop (mkF m 5 #[.val (.int p1), .val (.int p2), .val (.int p3), .val (.int p4), .unset, .unset, .unset, .unset, .unset, .unset, .unset, .unset, .unset] [(.int (p1 &&& (255 : Int32)))])) (fun t k => XS.iand X0.here hx rfl (hb hby at_4) rfl k) ?_
  refine go _ (s₁.setTop (mkF m 7 #[.val (.int p1), .val (.int p2), .val (.int p3), .val (.int p4), .val (.int (p1 &&& (255 : Int32))), .unset, .unset, .unset, .unset, .unset, .unset, .unset, .unset] [])) (fun t k => XS.istore X0.here hx rfl (hb hby at_5) rfl (l' := #[.val (.int p1), .val (.int p2), .val (.int p3), .val (.int p4), .val (.int (p1 &&& (255 : Int32))), .unset, .unset, .unset, .unset, .unset, .unset, .unset, .unset]) rfl k) ?_
  refine go _ (s₁.setTop (mkF m 8 #[.val (.int p1), .val (.int p2), .val (.int p3), .val (.int p4), .val (.int (p1 &&& (255 : Int32))), .unset, .unset, .unset, .unset, .unset, .unset, .unset, .unset] [(.int p2)])) (fun t k => XS.iloadN X0.here hx rfl (hb hby at_7) rfl k) ?_
  refine go _ (s₁.setTop (mkF m 11 #[.val (.int p1), .val (.int p2), .val (.int p3), .val (.int p4), .val (.int (p1 &&& (255 : Int32))), .unset, .unset, .unset, .unset, .unset, .unset, .unset, .unset] [(.int (255 : Int32)), (.int p2)])) (fun t k => XS.sipush X0.here hx rfl (hb hby at_8) k) ?_
  refine go _ (s₁.setTop (mkF m 12 #[.val (.int p1), .val (.int p2), .val (.int p3), .val (.int p4), .val (.int (p1 &&& (255 : Int32))), .unset, .unset, .unset, .unset, .unset, .unset, .unset, .unset] [(.int (p2 &&& (255 : Int32)))])) (fun t k => XS.iand X0.here hx rfl (hb hby at_11) rfl k) ?_
  refine go _ (s₁.setTop (mkF m 14 #[.val (.int p1), .val (.int p2), .val (.int p3), .val (.int p4), .val (.int (p1 &&& (255 : Int32))), .val (.int (p2 &&& (255 : Int32))), .unset, .unset, .unset, .unset, .unset, .unset, .unset] [])) (fun t k => XS.istore X0.here hx rfl (hb hby at_12) rfl (l' := #[.val (.int p1), .val (.int p2), .val (.int p3), .val (.int p4), .val (.int (p1 &&& (255 : Int32))), .val (.int (p2 &&& (255 : Int32))), .unset, .unset, .unset, .unset, .unset, .unset, .unset]) rfl k) ?_
  refine go _ (s₁.setTop (mkF m 15 #[.val (.int p1), .val (.int p2), .val (.int p3), .val (.int p4), .val (.int (p1 &&& (255 : Int32))), .val (.int (p2 &&& (255 : Int32))), .unset, .unset, .unset, .unset, .unset, .unset, .unset] [(.int p3)])) (fun t k => XS.iloadN X0.here hx rfl (hb hby at_14) rfl k) ?_
  refine go _ (s₁.setTop (mkF m 18 #[.val (.int p1), .val (.int p2), .val (.int p3), .val (.int p4), .val (.int (p1 &&& (255 : Int32))), .val (.int (p2 &&& (255 : Int32))), .unset, .unset, .unset, .unset, .unset, .unset, .unset] [(.int (255 : Int32)), (.int p3)])) (fun t k => XS.sipush X0.here hx rfl (hb hby at_15) k) ?_
  refine go _ (s₁.setTop (mkF m 19 #[.val (.int p1), .val (.int p2), .val (.int p3), .val (.int p4), .val (.int (p1 &&& (255 : Int32))), .val (.int (p2 &&& (255 : Int32))), .unset, .unset, .unset, .unset, .unset, .unset, .unset] [(.int (p3 &&& (255 : Int32)))])) (fun t k => XS.iand X0.here hx rfl (hb hby at_18) rfl k) ?_
  refine go _ (s₁.setTop (mkF m 21 #[.val (.int p1), .val (.int p2), .val (.int p3), .val (.int p4), .val (.int (p1 &&& (255 : Int32))), .val (.int (p2 &&& (255 : Int32))), .val (.int (p3 &&& (255 : Int32))), .unset, .unset, .unset, .unset, .unset, .unset] [])) (fun t k => XS.istore X0.here hx rfl (hb hby at_19) rfl (l' := #[.val (.int p1), .val (.int p2), .val (.int p3), .val (.int p4), .val (.int (p1 &&& (255 : Int32))), .val (.int (p2 &&& (255 : Int32))), .val (.int (p3 &&& (255 : Int32))), .unset, .unset, .unset, .unset, .unset, .unset]) rfl k) ?_
  refine go _ (s₁.setTop (mkF m 22 #[.val (.int p1), .val (.int p2), .val (.int p3), .val (.int p4), .val (.int (p1 &&& (255 : Int32))), .val (.int (p2 &&& (255 : Int32))), .val (.int (p3 &&& (255 : Int32))), .unset, .unset, .unset, .unset, .unset, .unset] [(.int p4)])) (fun t k => XS.iloadN X0.here hx rfl (hb hby at_21) rfl k) ?_
  refine go _ (s₁.setTop (mkF m 24 #[.val (.int p1), .val (.int p2), .val (.int p3), .val (.int p4), .val (.int (p1 &&& (255 : Int32))), .val (.int (p2 &&& (255 : Int32))), .val (.int (p3 &&& (255 : Int32))), .unset, .unset, .unset, .unset, .unset, .unset] [(.int (24 : Int32)), (.int p4)])) (fun t k => XS.bipush X0.here hx rfl (hb hby at_22) k) ?_
  refine go _ (s₁.setTop (mkF m 25 #[.val (.int p1), .val (.int p2), .val (.int p3), .val (.int p4), .val (.int (p1 &&& (255 : Int32))), .val (.int (p2 &&& (255 : Int32))), .val (.int (p3 &&& (255 : Int32))), .unset, .unset, .unset, .unset, .unset, .unset] [(.int (jshl p4 (24 : Int32)))])) (fun t k => XS.ishl X0.here hx rfl (hb hby at_24) rfl k) ?_
  refine go _ (s₁.setTop (mkF m 27 #[.val (.int p1), .val (.int p2), .val (.int p3), .val (.int p4), .val (.int (p1 &&& (255 : Int32))), .val (.int (p2 &&& (255 : Int32))), .val (.int (p3 &&& (255 : Int32))), .unset, .unset, .unset, .unset, .unset, .unset] [(.int (p1 &&& (255 : Int32))), (.int (jshl p4 (24 : Int32)))])) (fun t k => XS.iload X0.here hx rfl (hb hby at_25) rfl k) ?_
  refine go _ (s₁.setTop (mkF m 29 #[.val (.int p1), .val (.int p2), .val (.int p3), .val (.int p4), .val (.int (p1 &&& (255 : Int32))), .val (.int (p2 &&& (255 : Int32))), .val (.int (p3 &&& (255 : Int32))), .unset, .unset, .unset, .unset, .unset, .unset] [(.int (16 : Int32)), (.int (p1 &&& (255 : Int32))), (.int (jshl p4 (24 : Int32)))])) (fun t k => XS.bipush X0.here hx rfl (hb hby at_27) k) ?_
  refine go _ (s₁.setTop (mkF m 30 #[.val (.int p1), .val (.int p2), .val (.int p3), .val (.int p4), .val (.int (p1 &&& (255 : Int32))), .val (.int (p2 &&& (255 : Int32))), .val (.int (p3 &&& (255 : Int32))), .unset, .unset, .unset, .unset, .unset, .unset] [(.int (jshl (p1 &&& (255 : Int32)) (16 : Int32))), (.int (jshl p4 (24 : Int32)))])) (fun t k => XS.ishl X0.here hx rfl (hb hby at_29) rfl k) ?_
  refine go _ (s₁.setTop (mkF m 31 #[.val (.int p1), .val (.int p2), .val (.int p3), .val (.int p4), .val (.int (p1 &&& (255 : Int32))), .val (.int (p2 &&& (255 : Int32))), .val (.int (p3 &&& (255 : Int32))), .unset, .unset, .unset, .unset, .unset, .unset] [(.int ((jshl p4 (24 : Int32)) ||| (jshl (p1 &&& (255 : Int32)) (16 : Int32))))])) (fun t k => XS.ior X0.here hx rfl (hb hby at_30) rfl k) ?_
  refine go _ (s₁.setTop (mkF m 33 #[.val (.int p1), .val (.int p2), .val (.int p3), .val (.int p4), .val (.int (p1 &&& (255 : Int32))), .val (.int (p2 &&& (255 : Int32))), .val (.int (p3 &&& (255 : Int32))), .unset, .unset, .unset, .unset, .unset, .unset] [(.int (p2 &&& (255 : Int32))), (.int ((jshl p4 (24 : Int32)) ||| (jshl (p1 &&& (255 : Int32)) (16 : Int32))))])) (fun t k => XS.iload X0.here hx rfl (hb hby at_31) rfl k) ?_
  refine go _ (s₁.setTop (mkF m 35 #[.val (.int p1), .val (.int p2), .val (.int p3), .val (.int p4), .val (.int (p1 &&& (255 : Int32))), .val (.int (p2 &&& (255 : Int32))), .val (.int (p3 &&& (255 : Int32))), .unset, .unset, .unset, .unset, .unset, .unset] [(.int (8 : Int32)), (.int (p2 &&& (255 : Int32))), (.int ((jshl p4 (24 : Int32)) ||| (jshl (p1 &&& (255 : Int32)) (16 : Int32))))])) (fun t k => XS.bipush X0.here hx rfl (hb hby at_33) k) ?_
  refine go _ (s₁.setTop (mkF m 36 #[.val (.int p1), .val (.int p2), .val (.int p3), .val (.int p4), .val (.int (p1 &&& (255 : Int32))), .val (.int (p2 &&& (255 : Int32))), .val (.int (p3 &&& (255 : Int32))), .unset, .unset, .unset, .unset, .unset, .unset] [(.int (jshl (p2 &&& (255 : Int32)) (8 : Int32))), (.int ((jshl p4 (24 : Int32)) ||| (jshl (p1 &&& (255 : Int32)) (16 : Int32))))])) (fun t k => XS.ishl X0.here hx rfl (hb hby at_35) rfl k) ?_
  refine go _ (s₁.setTop (mkF m 37 #[.val (.int p1), .val (.int p2), .val (.int p3), .val (.int p4), .val (.int (p1 &&& (255 : Int32))), .val (.int (p2 &&& (255 : Int32))), .val (.int (p3 &&& (255 : Int32))), .unset, .unset, .unset, .unset, .unset, .unset] [(.int (((jshl p4 (24 : Int32)) ||| (jshl (p1 &&& (255 : Int32)) (16 : Int32))) ||| (jshl (p2 &&& (255 : Int32)) (8 : Int32))))])) (fun t k => XS.ior X0.here hx rfl (hb hby at_36) rfl k) ?_
  refine go _ (s₁.setTop (mkF m 39 #[.val (.int p1), .val (.int p2), .val (.int p3), .val (.int p4), .val (.int (p1 &&& (255 : Int32))), .val (.int (p2 &&& (255 : Int32))), .val (.int (p3 &&& (255 : Int32))), .unset, .unset, .unset, .unset, .unset, .unset] [(.int (p3 &&& (255 : Int32))), (.int (((jshl p4 (24 : Int32)) ||| (jshl (p1 &&& (255 : Int32)) (16 : Int32))) ||| (jshl (p2 &&& (255 : Int32)) (8 : Int32))))])) (fun t k => XS.iload X0.here hx rfl (hb hby at_37) rfl k) ?_
  refine go _ (s₁.setTop (mkF m 40 #[.val (.int p1), .val (.int p2), .val (.int p3), .val (.int p4), .val (.int (p1 &&& (255 : Int32))), .val (.int (p2 &&& (255 : Int32))), .val (.int (p3 &&& (255 : Int32))), .unset, .unset, .unset, .unset, .unset, .unset] [(.int ((((jshl p4 (24 : Int32)) ||| (jshl (p1 &&& (255 : Int32)) (16 : Int32))) ||| (jshl (p2 &&& (255 : Int32)) (8 : Int32))) ||| (p3 &&& (255 : Int32))))])) (fun t k => XS.ior X0.here hx rfl (hb hby at_39) rfl k) ?_
  refine go _ (s₁.setTop (mkF m 42 #[.val (.int p1), .val (.int p2), .val (.int p3), .val (.int p4), .val (.int (p1 &&& (255 : Int32))), .val (.int (p2 &&& (255 : Int32))), .val (.int (p3 &&& (255 : Int32))), .val (.int (v_rm0_0 p4 p1 p2 p3)), .unset, .unset, .unset, .unset, .unset] [])) (fun t k => XS.istore X0.here hx rfl (hb hby at_40) rfl (l' := #[.val (.int p1), .val (.int p2), .val (.int p3), .val (.int p4), .val (.int (p1 &&& (255 : Int32))), .val (.int (p2 &&& (255 : Int32))), .val (.int (p3 &&& (255 : Int32))), .val (.int (v_rm0_0 p4 p1 p2 p3)), .unset, .unset, .unset, .unset, .unset]) rfl k) ?_
  refine go _ (s₁.setTop (mkF m 44 #[.val (.int p1), .val (.int p2), .val (.int p3), .val (.int p4), .val (.int (p1 &&& (255 : Int32))), .val (.int (p2 &&& (255 : Int32))), .val (.int (p3 &&& (255 : Int32))), .val (.int (v_rm0_0 p4 p1 p2 p3)), .unset, .unset, .unset, .unset, .unset] [(.int (v_rm0_0 p4 p1 p2 p3))])) (fun t k => XS.iload X0.here hx rfl (hb hby at_42) rfl k) ?_
  obtain ⟨_, _, ⟨T1, L1, k1, n1⟩, -, X1, ⟨Lc1, hQ1, l1, y1, z1⟩, st1⟩ := Jvm.LawKit.callS X0 hx (y := (⟨"formlet/PixelFormat", "luminance", "(I)I"⟩ : MethodName)) hown (mvT hZ (hw _ (List.mem_of_getElem? (i := 0) rfl))) (mvT hZ (hw _ (List.mem_of_getElem? (i := 1) rfl))) (mvT hZ (hw _ (List.mem_of_getElem? (i := 2) rfl))) (mvT hZ (hw _ (List.mem_of_getElem? (i := 3) rfl))) (by decide) (backOf (W := 0) (rm1 l Z a0 hw [] (v_rm0_0 p4 p1 p2 p3)  h0 n0 Z0 ) hZ (hw _ (List.mem_of_getElem? (i := 3) rfl)) (hw _ (List.mem_of_getElem? (i := 2) rfl)) (by decide) (by decide)) (g := (mkF m 44 #[.val (.int p1), .val (.int p2), .val (.int p3), .val (.int p4), .val (.int (p1 &&& (255 : Int32))), .val (.int (p2 &&& (255 : Int32))), .val (.int (p3 &&& (255 : Int32))), .val (.int (v_rm0_0 p4 p1 p2 p3)), .unset, .unset, .unset, .unset, .unset] [(.int (v_rm0_0 p4 p1 p2 p3))])) rfl (by rw [hml]; rfl) (argsL := [(.int (v_rm0_0 p4 p1 p2 p3))]) (rest := []) (lenOf pd_1 rfl) rfl (by show 2 * 0 + _ ≤ _; exact Nat.le_of_eq rfl) (hb hby at_44) (fun _ _ => ⟨rfl, e0, (by decide : 0 + 0 ≤ _), (by decide : 0 + 0 ≤ _)⟩)
  dsimp only [Pt.U, Pt.locs, Pt.cells, Pt.slots] at X1 l1 y1 z1 st1 hQ1
  subst l1 y1 z1
  obtain ⟨rfl, Nq1, hh1⟩ := hQ1
  have N2 := Fr.app N0 Nq1
  refine go _ (T1.setTop (mkF m 47 #[.val (.int p1), .val (.int p2), .val (.int p3), .val (.int p4), .val (.int (p1 &&& (255 : Int32))), .val (.int (p2 &&& (255 : Int32))), .val (.int (p3 &&& (255 : Int32))), .val (.int (v_rm0_0 p4 p1 p2 p3)), .unset, .unset, .unset, .unset, .unset] [(.int (f_rm1 (v_rm0_0 p4 p1 p2 p3)))])) (st1) ?_
  refine go _ (T1.setTop (mkF m 49 #[.val (.int p1), .val (.int p2), .val (.int p3), .val (.int p4), .val (.int (p1 &&& (255 : Int32))), .val (.int (p2 &&& (255 : Int32))), .val (.int (p3 &&& (255 : Int32))), .val (.int (v_rm0_0 p4 p1 p2 p3)), .val (.int (f_rm1 (v_rm0_0 p4 p1 p2 p3))), .unset, .unset, .unset, .unset] [])) (fun t k => XS.istore X1.here hx rfl (hb hby at_47) rfl (l' := #[.val (.int p1), .val (.int p2), .val (.int p3), .val (.int p4), .val (.int (p1 &&& (255 : Int32))), .val (.int (p2 &&& (255 : Int32))), .val (.int (p3 &&& (255 : Int32))), .val (.int (v_rm0_0 p4 p1 p2 p3)), .val (.int (f_rm1 (v_rm0_0 p4 p1 p2 p3))), .unset, .unset, .unset, .unset]) rfl k) ?_
  refine go _ (T1.setTop (mkF m 52 #[.val (.int p1), .val (.int p2), .val (.int p3), .val (.int p4), .val (.int (p1 &&& (255 : Int32))), .val (.int (p2 &&& (255 : Int32))), .val (.int (p3 &&& (255 : Int32))), .val (.int (v_rm0_0 p4 p1 p2 p3)), .val (.int (f_rm1 (v_rm0_0 p4 p1 p2 p3))), .unset, .unset, .unset, .unset] [(.int (299 : Int32))])) (fun t k => XS.sipush X1.here hx rfl (hb hby at_49) k) ?_
  refine go _ (T1.setTop (mkF m 54 #[.val (.int p1), .val (.int p2), .val (.int p3), .val (.int p4), .val (.int (p1 &&& (255 : Int32))), .val (.int (p2 &&& (255 : Int32))), .val (.int (p3 &&& (255 : Int32))), .val (.int (v_rm0_0 p4 p1 p2 p3)), .val (.int (f_rm1 (v_rm0_0 p4 p1 p2 p3))), .unset, .unset, .unset, .unset] [(.int (p1 &&& (255 : Int32))), (.int (299 : Int32))])) (fun t k => XS.iload X1.here hx rfl (hb hby at_52) rfl k) ?_
  refine go _ (T1.setTop (mkF m 55 #[.val (.int p1), .val (.int p2), .val (.int p3), .val (.int p4), .val (.int (p1 &&& (255 : Int32))), .val (.int (p2 &&& (255 : Int32))), .val (.int (p3 &&& (255 : Int32))), .val (.int (v_rm0_0 p4 p1 p2 p3)), .val (.int (f_rm1 (v_rm0_0 p4 p1 p2 p3))), .unset, .unset, .unset, .unset] [(.int ((299 : Int32) * (p1 &&& (255 : Int32))))])) (fun t k => XS.imul X1.here hx rfl (hb hby at_54) rfl k) ?_
  refine go _ (T1.setTop (mkF m 58 #[.val (.int p1), .val (.int p2), .val (.int p3), .val (.int p4), .val (.int (p1 &&& (255 : Int32))), .val (.int (p2 &&& (255 : Int32))), .val (.int (p3 &&& (255 : Int32))), .val (.int (v_rm0_0 p4 p1 p2 p3)), .val (.int (f_rm1 (v_rm0_0 p4 p1 p2 p3))), .unset, .unset, .unset, .unset] [(.int (587 : Int32)), (.int ((299 : Int32) * (p1 &&& (255 : Int32))))])) (fun t k => XS.sipush X1.here hx rfl (hb hby at_55) k) ?_
  refine go _ (T1.setTop (mkF m 60 #[.val (.int p1), .val (.int p2), .val (.int p3), .val (.int p4), .val (.int (p1 &&& (255 : Int32))), .val (.int (p2 &&& (255 : Int32))), .val (.int (p3 &&& (255 : Int32))), .val (.int (v_rm0_0 p4 p1 p2 p3)), .val (.int (f_rm1 (v_rm0_0 p4 p1 p2 p3))), .unset, .unset, .unset, .unset] [(.int (p2 &&& (255 : Int32))), (.int (587 : Int32)), (.int ((299 : Int32) * (p1 &&& (255 : Int32))))])) (fun t k => XS.iload X1.here hx rfl (hb hby at_58) rfl k) ?_
  refine go _ (T1.setTop (mkF m 61 #[.val (.int p1), .val (.int p2), .val (.int p3), .val (.int p4), .val (.int (p1 &&& (255 : Int32))), .val (.int (p2 &&& (255 : Int32))), .val (.int (p3 &&& (255 : Int32))), .val (.int (v_rm0_0 p4 p1 p2 p3)), .val (.int (f_rm1 (v_rm0_0 p4 p1 p2 p3))), .unset, .unset, .unset, .unset] [(.int ((587 : Int32) * (p2 &&& (255 : Int32)))), (.int ((299 : Int32) * (p1 &&& (255 : Int32))))])) (fun t k => XS.imul X1.here hx rfl (hb hby at_60) rfl k) ?_
  refine go _ (T1.setTop (mkF m 62 #[.val (.int p1), .val (.int p2), .val (.int p3), .val (.int p4), .val (.int (p1 &&& (255 : Int32))), .val (.int (p2 &&& (255 : Int32))), .val (.int (p3 &&& (255 : Int32))), .val (.int (v_rm0_0 p4 p1 p2 p3)), .val (.int (f_rm1 (v_rm0_0 p4 p1 p2 p3))), .unset, .unset, .unset, .unset] [(.int (((299 : Int32) * (p1 &&& (255 : Int32))) + ((587 : Int32) * (p2 &&& (255 : Int32)))))])) (fun t k => XS.iadd X1.here hx rfl (hb hby at_61) rfl k) ?_
  refine go _ (T1.setTop (mkF m 64 #[.val (.int p1), .val (.int p2), .val (.int p3), .val (.int p4), .val (.int (p1 &&& (255 : Int32))), .val (.int (p2 &&& (255 : Int32))), .val (.int (p3 &&& (255 : Int32))), .val (.int (v_rm0_0 p4 p1 p2 p3)), .val (.int (f_rm1 (v_rm0_0 p4 p1 p2 p3))), .unset, .unset, .unset, .unset] [(.int (114 : Int32)), (.int (((299 : Int32) * (p1 &&& (255 : Int32))) + ((587 : Int32) * (p2 &&& (255 : Int32)))))])) (fun t k => XS.bipush X1.here hx rfl (hb hby at_62) k) ?_
  refine go _ (T1.setTop (mkF m 66 #[.val (.int p1), .val (.int p2), .val (.int p3), .val (.int p4), .val (.int (p1 &&& (255 : Int32))), .val (.int (p2 &&& (255 : Int32))), .val (.int (p3 &&& (255 : Int32))), .val (.int (v_rm0_0 p4 p1 p2 p3)), .val (.int (f_rm1 (v_rm0_0 p4 p1 p2 p3))), .unset, .unset, .unset, .unset] [(.int (p3 &&& (255 : Int32))), (.int (114 : Int32)), (.int (((299 : Int32) * (p1 &&& (255 : Int32))) + ((587 : Int32) * (p2 &&& (255 : Int32)))))])) (fun t k => XS.iload X1.here hx rfl (hb hby at_64) rfl k) ?_
  refine go _ (T1.setTop (mkF m 67 #[.val (.int p1), .val (.int p2), .val (.int p3), .val (.int p4), .val (.int (p1 &&& (255 : Int32))), .val (.int (p2 &&& (255 : Int32))), .val (.int (p3 &&& (255 : Int32))), .val (.int (v_rm0_0 p4 p1 p2 p3)), .val (.int (f_rm1 (v_rm0_0 p4 p1 p2 p3))), .unset, .unset, .unset, .unset] [(.int ((114 : Int32) * (p3 &&& (255 : Int32)))), (.int (((299 : Int32) * (p1 &&& (255 : Int32))) + ((587 : Int32) * (p2 &&& (255 : Int32)))))])) (fun t k => XS.imul X1.here hx rfl (hb hby at_66) rfl k) ?_
  refine go _ (T1.setTop (mkF m 68 #[.val (.int p1), .val (.int p2), .val (.int p3), .val (.int p4), .val (.int (p1 &&& (255 : Int32))), .val (.int (p2 &&& (255 : Int32))), .val (.int (p3 &&& (255 : Int32))), .val (.int (v_rm0_0 p4 p1 p2 p3)), .val (.int (f_rm1 (v_rm0_0 p4 p1 p2 p3))), .unset, .unset, .unset, .unset] [(.int ((((299 : Int32) * (p1 &&& (255 : Int32))) + ((587 : Int32) * (p2 &&& (255 : Int32)))) + ((114 : Int32) * (p3 &&& (255 : Int32)))))])) (fun t k => XS.iadd X1.here hx rfl (hb hby at_67) rfl k) ?_
  refine go _ (T1.setTop (mkF m 70 #[.val (.int p1), .val (.int p2), .val (.int p3), .val (.int p4), .val (.int (p1 &&& (255 : Int32))), .val (.int (p2 &&& (255 : Int32))), .val (.int (p3 &&& (255 : Int32))), .val (.int (v_rm0_0 p4 p1 p2 p3)), .val (.int (f_rm1 (v_rm0_0 p4 p1 p2 p3))), .val (.int (v_rm0_1 p1 p2 p3)), .unset, .unset, .unset] [])) (fun t k => XS.istore X1.here hx rfl (hb hby at_68) rfl (l' := #[.val (.int p1), .val (.int p2), .val (.int p3), .val (.int p4), .val (.int (p1 &&& (255 : Int32))), .val (.int (p2 &&& (255 : Int32))), .val (.int (p3 &&& (255 : Int32))), .val (.int (v_rm0_0 p4 p1 p2 p3)), .val (.int (f_rm1 (v_rm0_0 p4 p1 p2 p3))), .val (.int (v_rm0_1 p1 p2 p3)), .unset, .unset, .unset]) rfl k) ?_
  refine go _ (T1.setTop (mkF m 72 #[.val (.int p1), .val (.int p2), .val (.int p3), .val (.int p4), .val (.int (p1 &&& (255 : Int32))), .val (.int (p2 &&& (255 : Int32))), .val (.int (p3 &&& (255 : Int32))), .val (.int (v_rm0_0 p4 p1 p2 p3)), .val (.int (f_rm1 (v_rm0_0 p4 p1 p2 p3))), .val (.int (v_rm0_1 p1 p2 p3)), .unset, .unset, .unset] [(.int (f_rm1 (v_rm0_0 p4 p1 p2 p3)))])) (fun t k => XS.iload X1.here hx rfl (hb hby at_70) rfl k) ?_
  have hc3 : ¬ ((f_rm1 (v_rm0_0 p4 p1 p2 p3)) < (0 : Int32)) := own_o1 p1 p2 p3 p4
  refine go _ (T1.setTop (mkF m 75 #[.val (.int p1), .val (.int p2), .val (.int p3), .val (.int p4), .val (.int (p1 &&& (255 : Int32))), .val (.int (p2 &&& (255 : Int32))), .val (.int (p3 &&& (255 : Int32))), .val (.int (v_rm0_0 p4 p1 p2 p3)), .val (.int (f_rm1 (v_rm0_0 p4 p1 p2 p3))), .val (.int (v_rm0_1 p1 p2 p3)), .unset, .unset, .unset] [])) (fun t k => XS.ifNo X1.here hx rfl (hb hby at_72) rfl ((if0 _ _).trans (flt hc3).1) k) ?_
  refine go _ (T1.setTop (mkF m 77 #[.val (.int p1), .val (.int p2), .val (.int p3), .val (.int p4), .val (.int (p1 &&& (255 : Int32))), .val (.int (p2 &&& (255 : Int32))), .val (.int (p3 &&& (255 : Int32))), .val (.int (v_rm0_0 p4 p1 p2 p3)), .val (.int (f_rm1 (v_rm0_0 p4 p1 p2 p3))), .val (.int (v_rm0_1 p1 p2 p3)), .unset, .unset, .unset] [(.int (f_rm1 (v_rm0_0 p4 p1 p2 p3)))])) (fun t k => XS.iload X1.here hx rfl (hb hby at_75) rfl k) ?_
  refine go _ (T1.setTop (mkF m 80 #[.val (.int p1), .val (.int p2), .val (.int p3), .val (.int p4), .val (.int (p1 &&& (255 : Int32))), .val (.int (p2 &&& (255 : Int32))), .val (.int (p3 &&& (255 : Int32))), .val (.int (v_rm0_0 p4 p1 p2 p3)), .val (.int (f_rm1 (v_rm0_0 p4 p1 p2 p3))), .val (.int (v_rm0_1 p1 p2 p3)), .unset, .unset, .unset] [(.int (255 : Int32)), (.int (f_rm1 (v_rm0_0 p4 p1 p2 p3)))])) (fun t k => XS.sipush X1.here hx rfl (hb hby at_77) k) ?_
  have hc4 : ¬ ((255 : Int32) < (f_rm1 (v_rm0_0 p4 p1 p2 p3))) := own_o2 p1 p2 p3 p4
  refine go _ (T1.setTop (mkF m 83 #[.val (.int p1), .val (.int p2), .val (.int p3), .val (.int p4), .val (.int (p1 &&& (255 : Int32))), .val (.int (p2 &&& (255 : Int32))), .val (.int (p3 &&& (255 : Int32))), .val (.int (v_rm0_0 p4 p1 p2 p3)), .val (.int (f_rm1 (v_rm0_0 p4 p1 p2 p3))), .val (.int (v_rm0_1 p1 p2 p3)), .unset, .unset, .unset] [])) (fun t k => XS.icmpNo X1.here hx rfl (hb hby at_80) rfl (flt hc4).2.2.1 k) ?_
  refine go _ (T1.setTop (mkF m 84 #[.val (.int p1), .val (.int p2), .val (.int p3), .val (.int p4), .val (.int (p1 &&& (255 : Int32))), .val (.int (p2 &&& (255 : Int32))), .val (.int (p3 &&& (255 : Int32))), .val (.int (v_rm0_0 p4 p1 p2 p3)), .val (.int (f_rm1 (v_rm0_0 p4 p1 p2 p3))), .val (.int (v_rm0_1 p1 p2 p3)), .unset, .unset, .unset] [(.int (1 : Int32))])) (fun t k => XS.iconst X1.here hx rfl (hb hby at_83) k) ?_
  refine go _ (T1.setTop (mkF m 88 #[.val (.int p1), .val (.int p2), .val (.int p3), .val (.int p4), .val (.int (p1 &&& (255 : Int32))), .val (.int (p2 &&& (255 : Int32))), .val (.int (p3 &&& (255 : Int32))), .val (.int (v_rm0_0 p4 p1 p2 p3)), .val (.int (f_rm1 (v_rm0_0 p4 p1 p2 p3))), .val (.int (v_rm0_1 p1 p2 p3)), .unset, .unset, .unset] [(.int (1 : Int32))])) (fun t k => XS.goto X1.here hx rfl (pc0 := 84) (pc' := 88) rfl (hb hby at_84) (by decide) (by decide) k) ?_
  refine go _ (T1.setTop (mkF m 90 #[.val (.int p1), .val (.int p2), .val (.int p3), .val (.int p4), .val (.int (p1 &&& (255 : Int32))), .val (.int (p2 &&& (255 : Int32))), .val (.int (p3 &&& (255 : Int32))), .val (.int (v_rm0_0 p4 p1 p2 p3)), .val (.int (f_rm1 (v_rm0_0 p4 p1 p2 p3))), .val (.int (v_rm0_1 p1 p2 p3)), .val (.int (1 : Int32)), .unset, .unset] [])) (fun t k => XS.istore X1.here hx rfl (hb hby at_88) rfl (l' := #[.val (.int p1), .val (.int p2), .val (.int p3), .val (.int p4), .val (.int (p1 &&& (255 : Int32))), .val (.int (p2 &&& (255 : Int32))), .val (.int (p3 &&& (255 : Int32))), .val (.int (v_rm0_0 p4 p1 p2 p3)), .val (.int (f_rm1 (v_rm0_0 p4 p1 p2 p3))), .val (.int (v_rm0_1 p1 p2 p3)), .val (.int (1 : Int32)), .unset, .unset]) rfl k) ?_
  refine go _ (T1.setTop (mkF m 93 #[.val (.int p1), .val (.int p2), .val (.int p3), .val (.int p4), .val (.int (p1 &&& (255 : Int32))), .val (.int (p2 &&& (255 : Int32))), .val (.int (p3 &&& (255 : Int32))), .val (.int (v_rm0_0 p4 p1 p2 p3)), .val (.int (f_rm1 (v_rm0_0 p4 p1 p2 p3))), .val (.int (v_rm0_1 p1 p2 p3)), .val (.int (1 : Int32)), .unset, .unset] [(.int (1000 : Int32))])) (fun t k => XS.sipush X1.here hx rfl (hb hby at_90) k) ?_
  refine go _ (T1.setTop (mkF m 95 #[.val (.int p1), .val (.int p2), .val (.int p3), .val (.int p4), .val (.int (p1 &&& (255 : Int32))), .val (.int (p2 &&& (255 : Int32))), .val (.int (p3 &&& (255 : Int32))), .val (.int (v_rm0_0 p4 p1 p2 p3)), .val (.int (f_rm1 (v_rm0_0 p4 p1 p2 p3))), .val (.int (v_rm0_1 p1 p2 p3)), .val (.int (1 : Int32)), .unset, .unset] [(.int (f_rm1 (v_rm0_0 p4 p1 p2 p3))), (.int (1000 : Int32))])) (fun t k => XS.iload X1.here hx rfl (hb hby at_93) rfl k) ?_
  refine go _ (T1.setTop (mkF m 96 #[.val (.int p1), .val (.int p2), .val (.int p3), .val (.int p4), .val (.int (p1 &&& (255 : Int32))), .val (.int (p2 &&& (255 : Int32))), .val (.int (p3 &&& (255 : Int32))), .val (.int (v_rm0_0 p4 p1 p2 p3)), .val (.int (f_rm1 (v_rm0_0 p4 p1 p2 p3))), .val (.int (v_rm0_1 p1 p2 p3)), .val (.int (1 : Int32)), .unset, .unset] [(.int ((1000 : Int32) * (f_rm1 (v_rm0_0 p4 p1 p2 p3))))])) (fun t k => XS.imul X1.here hx rfl (hb hby at_95) rfl k) ?_
  refine go _ (T1.setTop (mkF m 98 #[.val (.int p1), .val (.int p2), .val (.int p3), .val (.int p4), .val (.int (p1 &&& (255 : Int32))), .val (.int (p2 &&& (255 : Int32))), .val (.int (p3 &&& (255 : Int32))), .val (.int (v_rm0_0 p4 p1 p2 p3)), .val (.int (f_rm1 (v_rm0_0 p4 p1 p2 p3))), .val (.int (v_rm0_1 p1 p2 p3)), .val (.int (1 : Int32)), .unset, .unset] [(.int (v_rm0_1 p1 p2 p3)), (.int ((1000 : Int32) * (f_rm1 (v_rm0_0 p4 p1 p2 p3))))])) (fun t k => XS.iload X1.here hx rfl (hb hby at_96) rfl k) ?_
  have hc5 : ¬ ((v_rm0_1 p1 p2 p3) < ((1000 : Int32) * (f_rm1 (v_rm0_0 p4 p1 p2 p3)))) := own_o3 p1 p2 p3 p4
  refine go _ (T1.setTop (mkF m 101 #[.val (.int p1), .val (.int p2), .val (.int p3), .val (.int p4), .val (.int (p1 &&& (255 : Int32))), .val (.int (p2 &&& (255 : Int32))), .val (.int (p3 &&& (255 : Int32))), .val (.int (v_rm0_0 p4 p1 p2 p3)), .val (.int (f_rm1 (v_rm0_0 p4 p1 p2 p3))), .val (.int (v_rm0_1 p1 p2 p3)), .val (.int (1 : Int32)), .unset, .unset] [])) (fun t k => XS.icmpNo X1.here hx rfl (hb hby at_98) rfl (flt hc5).2.2.1 k) ?_
  refine go _ (T1.setTop (mkF m 102 #[.val (.int p1), .val (.int p2), .val (.int p3), .val (.int p4), .val (.int (p1 &&& (255 : Int32))), .val (.int (p2 &&& (255 : Int32))), .val (.int (p3 &&& (255 : Int32))), .val (.int (v_rm0_0 p4 p1 p2 p3)), .val (.int (f_rm1 (v_rm0_0 p4 p1 p2 p3))), .val (.int (v_rm0_1 p1 p2 p3)), .val (.int (1 : Int32)), .unset, .unset] [(.int (1 : Int32))])) (fun t k => XS.iconst X1.here hx rfl (hb hby at_101) k) ?_
  refine go _ (T1.setTop (mkF m 106 #[.val (.int p1), .val (.int p2), .val (.int p3), .val (.int p4), .val (.int (p1 &&& (255 : Int32))), .val (.int (p2 &&& (255 : Int32))), .val (.int (p3 &&& (255 : Int32))), .val (.int (v_rm0_0 p4 p1 p2 p3)), .val (.int (f_rm1 (v_rm0_0 p4 p1 p2 p3))), .val (.int (v_rm0_1 p1 p2 p3)), .val (.int (1 : Int32)), .unset, .unset] [(.int (1 : Int32))])) (fun t k => XS.goto X1.here hx rfl (pc0 := 102) (pc' := 106) rfl (hb hby at_102) (by decide) (by decide) k) ?_
  refine go _ (T1.setTop (mkF m 108 #[.val (.int p1), .val (.int p2), .val (.int p3), .val (.int p4), .val (.int (p1 &&& (255 : Int32))), .val (.int (p2 &&& (255 : Int32))), .val (.int (p3 &&& (255 : Int32))), .val (.int (v_rm0_0 p4 p1 p2 p3)), .val (.int (f_rm1 (v_rm0_0 p4 p1 p2 p3))), .val (.int (v_rm0_1 p1 p2 p3)), .val (.int (1 : Int32)), .val (.int (1 : Int32)), .unset] [])) (fun t k => XS.istore X1.here hx rfl (hb hby at_106) rfl (l' := #[.val (.int p1), .val (.int p2), .val (.int p3), .val (.int p4), .val (.int (p1 &&& (255 : Int32))), .val (.int (p2 &&& (255 : Int32))), .val (.int (p3 &&& (255 : Int32))), .val (.int (v_rm0_0 p4 p1 p2 p3)), .val (.int (f_rm1 (v_rm0_0 p4 p1 p2 p3))), .val (.int (v_rm0_1 p1 p2 p3)), .val (.int (1 : Int32)), .val (.int (1 : Int32)), .unset]) rfl k) ?_
  refine go _ (T1.setTop (mkF m 110 #[.val (.int p1), .val (.int p2), .val (.int p3), .val (.int p4), .val (.int (p1 &&& (255 : Int32))), .val (.int (p2 &&& (255 : Int32))), .val (.int (p3 &&& (255 : Int32))), .val (.int (v_rm0_0 p4 p1 p2 p3)), .val (.int (f_rm1 (v_rm0_0 p4 p1 p2 p3))), .val (.int (v_rm0_1 p1 p2 p3)), .val (.int (1 : Int32)), .val (.int (1 : Int32)), .unset] [(.int (v_rm0_1 p1 p2 p3))])) (fun t k => XS.iload X1.here hx rfl (hb hby at_108) rfl k) ?_
  refine go _ (T1.setTop (mkF m 113 #[.val (.int p1), .val (.int p2), .val (.int p3), .val (.int p4), .val (.int (p1 &&& (255 : Int32))), .val (.int (p2 &&& (255 : Int32))), .val (.int (p3 &&& (255 : Int32))), .val (.int (v_rm0_0 p4 p1 p2 p3)), .val (.int (f_rm1 (v_rm0_0 p4 p1 p2 p3))), .val (.int (v_rm0_1 p1 p2 p3)), .val (.int (1 : Int32)), .val (.int (1 : Int32)), .unset] [(.int (1000 : Int32)), (.int (v_rm0_1 p1 p2 p3))])) (fun t k => XS.sipush X1.here hx rfl (hb hby at_110) k) ?_
  refine go _ (T1.setTop (mkF m 115 #[.val (.int p1), .val (.int p2), .val (.int p3), .val (.int p4), .val (.int (p1 &&& (255 : Int32))), .val (.int (p2 &&& (255 : Int32))), .val (.int (p3 &&& (255 : Int32))), .val (.int (v_rm0_0 p4 p1 p2 p3)), .val (.int (f_rm1 (v_rm0_0 p4 p1 p2 p3))), .val (.int (v_rm0_1 p1 p2 p3)), .val (.int (1 : Int32)), .val (.int (1 : Int32)), .unset] [(.int (f_rm1 (v_rm0_0 p4 p1 p2 p3))), (.int (1000 : Int32)), (.int (v_rm0_1 p1 p2 p3))])) (fun t k => XS.iload X1.here hx rfl (hb hby at_113) rfl k) ?_
  refine go _ (T1.setTop (mkF m 116 #[.val (.int p1), .val (.int p2), .val (.int p3), .val (.int p4), .val (.int (p1 &&& (255 : Int32))), .val (.int (p2 &&& (255 : Int32))), .val (.int (p3 &&& (255 : Int32))), .val (.int (v_rm0_0 p4 p1 p2 p3)), .val (.int (f_rm1 (v_rm0_0 p4 p1 p2 p3))), .val (.int (v_rm0_1 p1 p2 p3)), .val (.int (1 : Int32)), .val (.int (1 : Int32)), .unset] [(.int ((1000 : Int32) * (f_rm1 (v_rm0_0 p4 p1 p2 p3)))), (.int (v_rm0_1 p1 p2 p3))])) (fun t k => XS.imul X1.here hx rfl (hb hby at_115) rfl k) ?_
  refine go _ (T1.setTop (mkF m 119 #[.val (.int p1), .val (.int p2), .val (.int p3), .val (.int p4), .val (.int (p1 &&& (255 : Int32))), .val (.int (p2 &&& (255 : Int32))), .val (.int (p3 &&& (255 : Int32))), .val (.int (v_rm0_0 p4 p1 p2 p3)), .val (.int (f_rm1 (v_rm0_0 p4 p1 p2 p3))), .val (.int (v_rm0_1 p1 p2 p3)), .val (.int (1 : Int32)), .val (.int (1 : Int32)), .unset] [(.int (1000 : Int32)), (.int ((1000 : Int32) * (f_rm1 (v_rm0_0 p4 p1 p2 p3)))), (.int (v_rm0_1 p1 p2 p3))])) (fun t k => XS.sipush X1.here hx rfl (hb hby at_116) k) ?_
  refine go _ (T1.setTop (mkF m 120 #[.val (.int p1), .val (.int p2), .val (.int p3), .val (.int p4), .val (.int (p1 &&& (255 : Int32))), .val (.int (p2 &&& (255 : Int32))), .val (.int (p3 &&& (255 : Int32))), .val (.int (v_rm0_0 p4 p1 p2 p3)), .val (.int (f_rm1 (v_rm0_0 p4 p1 p2 p3))), .val (.int (v_rm0_1 p1 p2 p3)), .val (.int (1 : Int32)), .val (.int (1 : Int32)), .unset] [(.int (((1000 : Int32) * (f_rm1 (v_rm0_0 p4 p1 p2 p3))) + (1000 : Int32))), (.int (v_rm0_1 p1 p2 p3))])) (fun t k => XS.iadd X1.here hx rfl (hb hby at_119) rfl k) ?_
  have hc6 : ((v_rm0_1 p1 p2 p3) < (((1000 : Int32) * (f_rm1 (v_rm0_0 p4 p1 p2 p3))) + (1000 : Int32))) := own_o4 p1 p2 p3 p4
  refine go _ (T1.setTop (mkF m 123 #[.val (.int p1), .val (.int p2), .val (.int p3), .val (.int p4), .val (.int (p1 &&& (255 : Int32))), .val (.int (p2 &&& (255 : Int32))), .val (.int (p3 &&& (255 : Int32))), .val (.int (v_rm0_0 p4 p1 p2 p3)), .val (.int (f_rm1 (v_rm0_0 p4 p1 p2 p3))), .val (.int (v_rm0_1 p1 p2 p3)), .val (.int (1 : Int32)), .val (.int (1 : Int32)), .unset] [])) (fun t k => XS.icmpNo X1.here hx rfl (hb hby at_120) rfl (tlt hc6).2.1 k) ?_
  refine go _ (T1.setTop (mkF m 124 #[.val (.int p1), .val (.int p2), .val (.int p3), .val (.int p4), .val (.int (p1 &&& (255 : Int32))), .val (.int (p2 &&& (255 : Int32))), .val (.int (p3 &&& (255 : Int32))), .val (.int (v_rm0_0 p4 p1 p2 p3)), .val (.int (f_rm1 (v_rm0_0 p4 p1 p2 p3))), .val (.int (v_rm0_1 p1 p2 p3)), .val (.int (1 : Int32)), .val (.int (1 : Int32)), .unset] [(.int (1 : Int32))])) (fun t k => XS.iconst X1.here hx rfl (hb hby at_123) k) ?_
  refine go _ (T1.setTop (mkF m 128 #[.val (.int p1), .val (.int p2), .val (.int p3), .val (.int p4), .val (.int (p1 &&& (255 : Int32))), .val (.int (p2 &&& (255 : Int32))), .val (.int (p3 &&& (255 : Int32))), .val (.int (v_rm0_0 p4 p1 p2 p3)), .val (.int (f_rm1 (v_rm0_0 p4 p1 p2 p3))), .val (.int (v_rm0_1 p1 p2 p3)), .val (.int (1 : Int32)), .val (.int (1 : Int32)), .unset] [(.int (1 : Int32))])) (fun t k => XS.goto X1.here hx rfl (pc0 := 124) (pc' := 128) rfl (hb hby at_124) (by decide) (by decide) k) ?_
  refine go _ (T1.setTop (mkF m 130 #[.val (.int p1), .val (.int p2), .val (.int p3), .val (.int p4), .val (.int (p1 &&& (255 : Int32))), .val (.int (p2 &&& (255 : Int32))), .val (.int (p3 &&& (255 : Int32))), .val (.int (v_rm0_0 p4 p1 p2 p3)), .val (.int (f_rm1 (v_rm0_0 p4 p1 p2 p3))), .val (.int (v_rm0_1 p1 p2 p3)), .val (.int (1 : Int32)), .val (.int (1 : Int32)), .val (.int (1 : Int32))] [])) (fun t k => XS.istore X1.here hx rfl (hb hby at_128) rfl (l' := #[.val (.int p1), .val (.int p2), .val (.int p3), .val (.int p4), .val (.int (p1 &&& (255 : Int32))), .val (.int (p2 &&& (255 : Int32))), .val (.int (p3 &&& (255 : Int32))), .val (.int (v_rm0_0 p4 p1 p2 p3)), .val (.int (f_rm1 (v_rm0_0 p4 p1 p2 p3))), .val (.int (v_rm0_1 p1 p2 p3)), .val (.int (1 : Int32)), .val (.int (1 : Int32)), .val (.int (1 : Int32))]) rfl k) ?_
  refine go _ (T1.setTop (mkF m 132 #[.val (.int p1), .val (.int p2), .val (.int p3), .val (.int p4), .val (.int (p1 &&& (255 : Int32))), .val (.int (p2 &&& (255 : Int32))), .val (.int (p3 &&& (255 : Int32))), .val (.int (v_rm0_0 p4 p1 p2 p3)), .val (.int (f_rm1 (v_rm0_0 p4 p1 p2 p3))), .val (.int (v_rm0_1 p1 p2 p3)), .val (.int (1 : Int32)), .val (.int (1 : Int32)), .val (.int (1 : Int32))] [(.int (1 : Int32))])) (fun t k => XS.iload X1.here hx rfl (hb hby at_130) rfl k) ?_
  have hc7 : ¬ ((1 : Int32) = (0 : Int32)) := by decide
  refine go _ (T1.setTop (mkF m 135 #[.val (.int p1), .val (.int p2), .val (.int p3), .val (.int p4), .val (.int (p1 &&& (255 : Int32))), .val (.int (p2 &&& (255 : Int32))), .val (.int (p3 &&& (255 : Int32))), .val (.int (v_rm0_0 p4 p1 p2 p3)), .val (.int (f_rm1 (v_rm0_0 p4 p1 p2 p3))), .val (.int (v_rm0_1 p1 p2 p3)), .val (.int (1 : Int32)), .val (.int (1 : Int32)), .val (.int (1 : Int32))] [])) (fun t k => XS.ifNo X1.here hx rfl (hb hby at_132) rfl ((if0 _ _).trans (feq hc7).1) k) ?_
  refine go _ (T1.setTop (mkF m 137 #[.val (.int p1), .val (.int p2), .val (.int p3), .val (.int p4), .val (.int (p1 &&& (255 : Int32))), .val (.int (p2 &&& (255 : Int32))), .val (.int (p3 &&& (255 : Int32))), .val (.int (v_rm0_0 p4 p1 p2 p3)), .val (.int (f_rm1 (v_rm0_0 p4 p1 p2 p3))), .val (.int (v_rm0_1 p1 p2 p3)), .val (.int (1 : Int32)), .val (.int (1 : Int32)), .val (.int (1 : Int32))] [(.int (1 : Int32))])) (fun t k => XS.iload X1.here hx rfl (hb hby at_135) rfl k) ?_
  have hc8 : ¬ ((1 : Int32) = (0 : Int32)) := by decide
  refine go _ (T1.setTop (mkF m 140 #[.val (.int p1), .val (.int p2), .val (.int p3), .val (.int p4), .val (.int (p1 &&& (255 : Int32))), .val (.int (p2 &&& (255 : Int32))), .val (.int (p3 &&& (255 : Int32))), .val (.int (v_rm0_0 p4 p1 p2 p3)), .val (.int (f_rm1 (v_rm0_0 p4 p1 p2 p3))), .val (.int (v_rm0_1 p1 p2 p3)), .val (.int (1 : Int32)), .val (.int (1 : Int32)), .val (.int (1 : Int32))] [])) (fun t k => XS.ifNo X1.here hx rfl (hb hby at_137) rfl ((if0 _ _).trans (feq hc8).1) k) ?_
  refine go _ (T1.setTop (mkF m 142 #[.val (.int p1), .val (.int p2), .val (.int p3), .val (.int p4), .val (.int (p1 &&& (255 : Int32))), .val (.int (p2 &&& (255 : Int32))), .val (.int (p3 &&& (255 : Int32))), .val (.int (v_rm0_0 p4 p1 p2 p3)), .val (.int (f_rm1 (v_rm0_0 p4 p1 p2 p3))), .val (.int (v_rm0_1 p1 p2 p3)), .val (.int (1 : Int32)), .val (.int (1 : Int32)), .val (.int (1 : Int32))] [(.int (1 : Int32))])) (fun t k => XS.iload X1.here hx rfl (hb hby at_140) rfl k) ?_
  have hc9 : ¬ ((1 : Int32) = (0 : Int32)) := by decide
  refine go _ (T1.setTop (mkF m 145 #[.val (.int p1), .val (.int p2), .val (.int p3), .val (.int p4), .val (.int (p1 &&& (255 : Int32))), .val (.int (p2 &&& (255 : Int32))), .val (.int (p3 &&& (255 : Int32))), .val (.int (v_rm0_0 p4 p1 p2 p3)), .val (.int (f_rm1 (v_rm0_0 p4 p1 p2 p3))), .val (.int (v_rm0_1 p1 p2 p3)), .val (.int (1 : Int32)), .val (.int (1 : Int32)), .val (.int (1 : Int32))] [])) (fun t k => XS.ifNo X1.here hx rfl (hb hby at_142) rfl ((if0 _ _).trans (feq hc9).1) k) ?_
  refine go _ (T1.setTop (mkF m 146 #[.val (.int p1), .val (.int p2), .val (.int p3), .val (.int p4), .val (.int (p1 &&& (255 : Int32))), .val (.int (p2 &&& (255 : Int32))), .val (.int (p3 &&& (255 : Int32))), .val (.int (v_rm0_0 p4 p1 p2 p3)), .val (.int (f_rm1 (v_rm0_0 p4 p1 p2 p3))), .val (.int (v_rm0_1 p1 p2 p3)), .val (.int (1 : Int32)), .val (.int (1 : Int32)), .val (.int (1 : Int32))] [(.int (1 : Int32))])) (fun t k => XS.iconst X1.here hx rfl (hb hby at_145) k) ?_
  refine go _ (T1.setTop (mkF m 150 #[.val (.int p1), .val (.int p2), .val (.int p3), .val (.int p4), .val (.int (p1 &&& (255 : Int32))), .val (.int (p2 &&& (255 : Int32))), .val (.int (p3 &&& (255 : Int32))), .val (.int (v_rm0_0 p4 p1 p2 p3)), .val (.int (f_rm1 (v_rm0_0 p4 p1 p2 p3))), .val (.int (v_rm0_1 p1 p2 p3)), .val (.int (1 : Int32)), .val (.int (1 : Int32)), .val (.int (1 : Int32))] [(.int (1 : Int32))])) (fun t k => XS.goto X1.here hx rfl (pc0 := 146) (pc' := 150) rfl (hb hby at_146) (by decide) (by decide) k) ?_
  exact fin (some (.int (1 : Int32))) X1 (by decide) (by decide) (fun q => by cases q) (show Q_rm0 Z p1 p2 p3 p4 h0 n0 _ T1.heap _ from (by rw [hh1]; exact ⟨rfl, N2⟩)) (fun fs hr => retN X1 hx (t := .boolean) hret (by simp) (hb hby at_150) hr)
set_option maxRecDepth 65536 in
set_option maxHeartbeats 40000000 in
theorem comes_1 {Post : Tables → Env → Array Value → State → Outcome → State → Prop} (hpost : ∀ tb e args s v u, (limb_1_1.after args s (.returned v) u = true ∧ limb_1_2.after args s (.returned v) u = true ∧ True) → FrameEnd s (.returned v) u (Jvm.fieldLocs frame_1_writes args s ++ Jvm.arrayLocs frame_1_arrays args s ++ Jvm.staticLocs frame_1_statics s) 0 0 → Post tb e args s (.returned v) u) :
    ArmFor flags0 classFile x code maxLocals ret World_1 tables_1 room_1 Calls_1 rest_1 Pre_1 Post := by
  intro l hfl _ _ p e ha hc hk s m args below hf hA hF happ hP
  obtain ⟨hcalls, hrest, hpre⟩ := hP
  obtain ⟨-, -, -, hnamed, -, -, -, hat⟩ := (Spec.applies_iff hf).mp happ
  obtain ⟨hg, hn⟩ := and_e (Cond.before_iff.mp (show (Jvm.Cond.and given_1 narrow_1).before args s = true from hpre))
  obtain ⟨gc, g1⟩ := and_e hg
  obtain ⟨ga0, g2⟩ := and_e g1
  obtain ⟨ga1, g3⟩ := and_e g2
  obtain ⟨ga2, g4⟩ := and_e g3
  have ga3 := g4
  obtain ⟨w0, w1, w2, w3, rfl⟩ : ∃ w0 w1 w2 w3 : Value, args = #[w0, w1, w2, w3] := by
    have hs : args.size = 4 := by simpa [Cond.value, given_1] using gc
    obtain ⟨L⟩ := args
    match L, hs with
    | [w0, w1, w2, w3], _ => exact ⟨w0, w1, w2, w3, rfl⟩
  have hw := fun d (hd : d ∈ tables_1) => atoms_spec (ws := Jvm.Cond.code x code maxLocals ret :: tables_1) hat d (List.mem_cons_of_mem _ hd)
  obtain ⟨i0, ei0⟩ := is_v ga0
  obtain rfl : w0 = (.int i0) := Option.some.inj ei0
  obtain ⟨i1, ei1⟩ := is_v ga1
  obtain rfl : w1 = (.int i1) := Option.some.inj ei1
  obtain ⟨i2, ei2⟩ := is_v ga2
  obtain rfl : w2 = (.int i2) := Option.some.inj ei2
  obtain ⟨i3, ei3⟩ := is_v ga3
  obtain rfl : w3 = (.int i3) := Option.some.inj ei3
  obtain ⟨n, o, h1, h2, h3, _, L, rfl, ⟨rfl, N⟩, hq⟩ := rm0 l s _ hw tables_1 i0 i1 i2 i3 s.heap s.heap.size (Nat.le_refl _) p e ha hc hk s m _ below hf ((Spec.applies_iff_loose hf).mp happ).1 ⟨rfl, State.Warmed39.refl s, rfl⟩ trivial
  refine ⟨n, _, h1, h2, h3, hpost _ _ _ _ _ _ ⟨Cond.after_iff.mpr rfl, Cond.after_iff.mpr (eq_i res_at (Term.int_eval (1)) rfl), trivial⟩ ⟨hq.1, hq.2.1, (hq.2.2.sift fun y hy => Or.inr (N y hy)).mono (by decide) (by decide)⟩⟩
theorem main_1_1 : Claimed_1_1 := comes_1 fun _ _ _ _ _ _ h hF => ⟨h.1, hF⟩
theorem main_1_2 : Claimed_1_2 := comes_1 fun _ _ _ _ _ _ h hF => ⟨h.2.1, hF⟩
end Jvm.Pilot.@@N@@
namespace Jvm.Pilot.@@N@@
open Jvm Jvm.ClassFile Sem Op Lib Jvm.Free Jvm.Stand Jvm.Pilot.@@N@@.Jvm.D
/-! MADE BY PROGRAM (witnessworld.py) out of the Statement's table words and the real class files: 12 classes; the members and pool entries that the words name. The judged class is class 1, her method 1. -/
namespace start1
open Jvm.ClassFile
def u (s : String) : CpInfo := .utf8 (stringToUtf16 s)
/-- a pool by its gaps: so many unusable entries, then the entry; so many at the end -/
def gap : Nat → List CpInfo → List CpInfo
  | 0, r => r
  | n + 1, r => .unusable :: gap n r
def poolList (es : List (Nat × CpInfo)) (last : Nat) : List CpInfo := es.foldr (fun e r => gap e.1 (e.2 :: r)) (gap last [])
def pool (es : List (Nat × CpInfo)) (last : Nat) : Array CpInfo := ⟨poolList es last⟩
def fileOf (pool : Array CpInfo) (this : Nat) (attrs : Array Attribute := #[]) (ms : Array MethodInfo := #[]) (fl : Nat := 33) (sup : Nat := 0) (ifs : Array Nat := #[]) (fds : Array FieldInfo := #[]) : ClassFile where
  minorVersion := 0
  majorVersion := 65
  constantPool := pool
  accessFlags := fl
  thisClass := this
  superClass := sup
  interfaces := ifs
  fields := fds
  methods := ms
  attributes := attrs
def plain (name : String) (sup : Option ClassId) : Class where
  name := name
  kind := .ordinary
  loader := none
  accessFlags := 33
  super := sup
  interfaces := #[]
  cf := none
  fields := #[]
  methods := #[]
  instanceTypes := #[]
  staticTypes := #[]
  resolved := #[]
  callSites := []
  init := .initialized
  statics := none
  mirror := none

def pool0 : Array CpInfo := pool [(5, u "<init>"), (0, u "()V"), (1, .class_ 10), (1, u "java/lang/Object")] 113

def k0m0 : Method := { name := "<init>", desc := "()V", sig := { parameters := [], returnType := none }, accessFlags := 1, code := none }
/-- java/lang/Object -/
def k0 : Class := { plain "java/lang/Object" none with
  accessFlags := 33
  interfaces := #[]
  cf := some (fileOf pool0 8 #[] #[{ accessFlags := 1, nameIndex := 5, descriptorIndex := 6, attributes := #[] }] 33 0 #[] #[])
  fields := #[]
  methods := #[k0m0]
  instanceTypes := #[]
  staticTypes := #[]
  resolved := Array.replicate 124 none
  statics := none }

def pool1 : Array CpInfo := pool [(2, .class_ 4), (1, u "java/lang/Object"), (0, u "<init>"), (0, u "()V"), (0, .methodref 8 9), (0, .class_ 10), (0, .nameAndType 11 12), (0, u "formlet/PixelFormat"), (0, u "luminance"), (0, u "(I)I"), (0, .class_ 14), (0, u "formlet/PixelFormatLuminancePinLaw"), (2, u "law"), (0, u "(IIII)Z")] 3

def k1m0 : Method := { name := "<init>", desc := "()V", sig := { parameters := [], returnType := none }, accessFlags := 1, code := none }
def k1c1 : Code := { maxStack := 3, maxLocals := 13, code := code, exceptionTable := #[], attributes := #[] }
def k1m1 : Method := { name := "law", desc := "(IIII)Z", sig := { parameters := [.int, .int, .int, .int], returnType := some .boolean }, accessFlags := 9, code := some k1c1 }
/-- formlet/PixelFormatLuminancePinLaw -/
def k1 : Class := { plain "formlet/PixelFormatLuminancePinLaw" (some 0) with
  accessFlags := 49
  interfaces := #[]
  cf := some (fileOf pool1 13 #[] #[{ accessFlags := 1, nameIndex := 5, descriptorIndex := 6, attributes := #[] }, { accessFlags := 9, nameIndex := 17, descriptorIndex := 18, attributes := #[] }] 49 2 #[] #[])
  fields := #[]
  methods := #[k1m0, k1m1]
  instanceTypes := #[]
  staticTypes := #[]
  resolved := Array.replicate 22 none
  statics := none }

def pool2 : Array CpInfo := pool [(1, .class_ 2), (0, u "java/lang/constant/Constable"), (0, .class_ 4), (0, u "java/lang/Object")] 6

/-- java/lang/constant/Constable -/
def k2 : Class := { plain "java/lang/constant/Constable" (some 0) with
  accessFlags := 1537
  interfaces := #[]
  cf := some (fileOf pool2 1 #[] #[] 1537 3 #[] #[])
  fields := #[]
  methods := #[]
  instanceTypes := #[]
  staticTypes := #[]
  resolved := Array.replicate 11 none
  statics := none }

def pool3 : Array CpInfo := pool [(1, .class_ 2), (0, u "java/lang/Comparable"), (0, .class_ 4), (0, u "java/lang/Object")] 7

/-- java/lang/Comparable -/
def k3 : Class := { plain "java/lang/Comparable" (some 0) with
  accessFlags := 1537
  interfaces := #[]
  cf := some (fileOf pool3 1 #[] #[] 1537 3 #[] #[])
  fields := #[]
  methods := #[]
  instanceTypes := #[]
  staticTypes := #[]
  resolved := Array.replicate 12 none
  statics := none }

def pool4 : Array CpInfo := pool [(1, .class_ 2), (0, u "java/io/Serializable"), (0, .class_ 4), (0, u "java/lang/Object")] 2

/-- java/io/Serializable -/
def k4 : Class := { plain "java/io/Serializable" (some 0) with
  accessFlags := 1537
  interfaces := #[]
  cf := some (fileOf pool4 1 #[] #[] 1537 3 #[] #[])
  fields := #[]
  methods := #[]
  instanceTypes := #[]
  staticTypes := #[]
  resolved := Array.replicate 7 none
  statics := none }

def pool5 : Array CpInfo := pool [(2, .class_ 4), (1, u "java/lang/Enum"), (0, u "name"), (0, u "Ljava/lang/String;"), (2, u "ordinal"), (0, u "I"), (1, .class_ 14), (1, u "java/lang/Object"), (4, u "hash"), (86, .class_ 108), (1, u "java/lang/Enum$EnumDesc"), (2, .class_ 112), (0, u "java/lang/constant/Constable"), (0, .class_ 114), (0, u "java/lang/Comparable"), (0, .class_ 116), (0, u "java/io/Serializable")] 87

/-- java/lang/Enum -/
def k5 : Class := { plain "java/lang/Enum" (some 0) with
  accessFlags := 1057
  interfaces := #[2, 3, 4]
  cf := some (fileOf pool5 2 #[.nestMembers #[106]] #[] 1057 12 #[111, 113, 115] #[{ accessFlags := 18, nameIndex := 5, descriptorIndex := 6, attributes := #[] }, { accessFlags := 18, nameIndex := 9, descriptorIndex := 10, attributes := #[] }, { accessFlags := 2, nameIndex := 19, descriptorIndex := 10, attributes := #[] }])
  fields := #[{ name := "name", type := (.object "java/lang/String"), accessFlags := 18, slot := 0, constantValue := 0 }, { name := "ordinal", type := .int, accessFlags := 18, slot := 1, constantValue := 0 }, { name := "hash", type := .int, accessFlags := 2, slot := 2, constantValue := 0 }]
  methods := #[]
  instanceTypes := #[(.object "java/lang/String"), .int, .int]
  staticTypes := #[]
  resolved := Array.replicate 204 none
  statics := none }

def pool6 : Array CpInfo := pool [(1, .class_ 2), (0, u "formlet/PixelFormat"), (2, u "MONO1"), (0, u "Lformlet/PixelFormat;"), (2, u "RGB565"), (2, u "RGB888"), (2, u "$VALUES"), (0, u "[Lformlet/PixelFormat;"), (6, .class_ 25), (1, u "java/lang/Enum"), (8, u "bitsPerPixel"), (0, u "I"), (2, u "luminance"), (0, u "(I)I")] 31

def k6c0 : Code := { maxStack := 4, maxLocals := 1, code := prog_17_method_8_code, exceptionTable := #[], attributes := #[] }
def k6m0 : Method := { name := "luminance", desc := "(I)I", sig := { parameters := [.int], returnType := some .int }, accessFlags := 8, code := some k6c0 }
/-- formlet/PixelFormat -/
def k6 : Class := { plain "formlet/PixelFormat" (some 5) with
  accessFlags := 16433
  interfaces := #[]
  cf := some (fileOf pool6 1 #[] #[{ accessFlags := 8, nameIndex := 38, descriptorIndex := 39, attributes := #[] }] 16433 23 #[] #[{ accessFlags := 16409, nameIndex := 5, descriptorIndex := 6, attributes := #[] }, { accessFlags := 16409, nameIndex := 9, descriptorIndex := 6, attributes := #[] }, { accessFlags := 16409, nameIndex := 12, descriptorIndex := 6, attributes := #[] }, { accessFlags := 18, nameIndex := 34, descriptorIndex := 35, attributes := #[] }, { accessFlags := 4122, nameIndex := 15, descriptorIndex := 16, attributes := #[] }])
  fields := #[{ name := "MONO1", type := (.object "formlet/PixelFormat"), accessFlags := 16409, slot := 0, constantValue := 0 }, { name := "RGB565", type := (.object "formlet/PixelFormat"), accessFlags := 16409, slot := 1, constantValue := 0 }, { name := "RGB888", type := (.object "formlet/PixelFormat"), accessFlags := 16409, slot := 2, constantValue := 0 }, { name := "bitsPerPixel", type := .int, accessFlags := 18, slot := 3, constantValue := 0 }, { name := "$VALUES", type := (.array (.object "formlet/PixelFormat")), accessFlags := 4122, slot := 3, constantValue := 0 }]
  methods := #[k6m0]
  instanceTypes := #[(.object "java/lang/String"), .int, .int, .int]
  staticTypes := #[(.object "formlet/PixelFormat"), (.object "formlet/PixelFormat"), (.object "formlet/PixelFormat"), (.array (.object "formlet/PixelFormat"))]
  resolved := Array.replicate 71 none
  statics := none }

def pool7 : Array CpInfo := pool [(1, u "java/lang/Cloneable"), (0, .class_ 1), (0, u "java/lang/Object"), (0, .class_ 3)] 3

/-- java/lang/Cloneable -/
def k7 : Class := { plain "java/lang/Cloneable" (some 0) with
  accessFlags := 1537
  interfaces := #[]
  cf := some (fileOf pool7 2 #[] #[] 1537 4 #[] #[])
  fields := #[]
  methods := #[]
  instanceTypes := #[]
  staticTypes := #[]
  resolved := Array.replicate 8 none
  statics := none }

/-- the primitive byte -/
def k8 : Class := { plain "byte" none with kind := .primitive 'B', accessFlags := 0x411 }
/-- [B -/
def k9 : Class := { plain "[B" (some 0) with kind := .array 8 .byte, interfaces := #[7, 4], accessFlags := 1041 }

/-- the primitive int -/
def k10 : Class := { plain "int" none with kind := .primitive 'I', accessFlags := 0x411 }
/-- [I -/
def k11 : Class := { plain "[I" (some 0) with kind := .array 10 .int, interfaces := #[7, 4], accessFlags := 1041 }

def heap : Heap := #[]
def classes : Array Class := #[k0, k1, k2, k3, k4, k5, k6, k7, k8, k9, k10, k11]
def interned : List (Array UInt16 × Addr) := []
def slotsUsed : Nat := 0
def theMethod : MethodId := ⟨1, 1⟩
def args0 : Array Value := #[.int 5, .int 6, .int 7, .int 8]
def aboutOver (below : List Frame) : State where
  vm := { classes := classes, interned := interned.toArray }
  heap := heap
  slotsUsed := slotsUsed
  threads := #[{ frames := .invoking theMethod args0 :: below }]
def below0 : List Frame := [.native { method := ⟨0, 0⟩, args := #[] }]
def about1 : State := aboutOver below0
def p0 : Program := .bare "" "" ""
def e0 : Env := launch0.env 0 0 0
theorem w_frames : about1.frames = Frame.invoking theMethod args0 :: below0 := rfl
set_option maxRecDepth 65536 in
theorem w_args : argsFit about1.vm theMethod args0 = true := by decide +kernel
set_option maxRecDepth 65536 in
theorem w_heap : heapFits about1 = true := by decide +kernel
set_option maxRecDepth 65536 in
theorem w_runnable : about1.curStatus? = some .runnable := by decide +kernel
set_option maxRecDepth 65536 in
theorem w_alone : about1.alone = true := by decide +kernel
set_option maxRecDepth 65536 in
theorem w_named : about1.methodNamed? x = some theMethod := by decide +kernel
set_option maxRecDepth 65536 in
theorem w_hears : about1.hears theMethod below0 = true := by decide +kernel
set_option maxRecDepth 65536 in
theorem w_ripe : about1.ripe theMethod args0 below0 = true := by decide +kernel
theorem w_running : about1.status = .running := rfl
set_option maxRecDepth 65536 in
theorem w_room : about1.hasRoom e0.platform room_1 = true :=
  launch0.hasRoom_least _ room_1 (by decide +kernel) (by decide +kernel) (by decide +kernel) (by decide +kernel) (by decide +kernel) (by decide +kernel)
theorem allAtoms_all (ts : List Jvm.Cond) (a : Array Jvm.Value) (st : Jvm.State) : (allAtoms ts).before a st = ts.all (fun c => c.before a st) := by
  induction ts with
  | nil => rfl
  | cons c t ih =>
    show (Jvm.Cond.and c (allAtoms t)).before a st = _
    rw [Jvm.Cond.before_and, ih, List.all_cons]
def words1 : List Jvm.Cond := Jvm.Cond.code x code maxLocals ret :: tables_1
/-- a 'code' word, met by the world's own term for the bytes: nothing is compared byte by byte -/
theorem code_word {y : MethodName} {bytes : ByteArray} {mx : Nat} {rt : Option FieldType} {a : Array Value} {s : State} {m : MethodId} {meth : Method} {c : Code} (h1 : s.methodNamed? y = some m) (h2 : s.vm.method? m = some meth) (h3 : meth.code = some c) (h4 : c.code = bytes)
    (h5 : (c.maxLocals == mx && c.exceptionTable.isEmpty && decide (c.maxStack ≤ mostOperands) && decide (meth.sig.returnType = rt) && !meth.locks && decide (parseMethodDescriptor y.desc = some meth.sig)) = true) : (Jvm.Cond.code y bytes mx rt).before a s = true := by
  simp only [Bool.and_eq_true, beq_iff_eq, Bool.not_eq_true', decide_eq_true_eq] at h5
  obtain ⟨⟨⟨⟨⟨g1, g2⟩, g3⟩, g4⟩, g5⟩, g6⟩ := h5
  simp [Cond.before, Cond.holds, Cond.value, h1, h2, h3, h4, g1, g2, g3, g4, g5, g6]
def isCode : Jvm.Cond → Bool
  | .code _ _ _ _ => true
  | _ => false
theorem all_split {L : List Jvm.Cond} {P : Jvm.Cond → Bool} (h1 : L.all (fun c => isCode c || P c) = true) (h2 : ∀ c ∈ L.filter isCode, P c = true) : L.all P = true := by
  refine List.all_eq_true.mpr fun c hc => ?_
  have h := List.all_eq_true.mp h1 c hc
  rcases Bool.eq_false_or_eq_true (isCode c) with hi | hi
  · exact h2 c (List.mem_filter.mpr ⟨hc, hi⟩)
  · simpa [hi] using h
set_option maxRecDepth 65536 in
theorem w_c0 : (Jvm.Cond.code x code maxLocals ret).before args0 about1 = true := code_word (m := ⟨1, 1⟩) (meth := k1m1) (c := k1c1) (by decide +kernel) rfl rfl rfl (by decide +kernel)
set_option maxRecDepth 65536 in
theorem w_c1 : (Jvm.Cond.code ({ cls := "formlet/PixelFormat", name := "luminance", desc := "(I)I" } : Jvm.MethodName) prog_17_method_8_code (1 : Nat) (Option.some Jvm.ClassFile.FieldType.int)).before args0 about1 = true := code_word (m := ⟨6, 0⟩) (meth := k6m0) (c := k6c0) (by decide +kernel) rfl rfl rfl (by decide +kernel)
def codes1 : List Jvm.Cond := [Jvm.Cond.code x code maxLocals ret, Jvm.Cond.code ({ cls := "formlet/PixelFormat", name := "luminance", desc := "(I)I" } : Jvm.MethodName) prog_17_method_8_code (1 : Nat) (Option.some Jvm.ClassFile.FieldType.int)]
set_option maxRecDepth 65536 in
theorem codes_eq : words1.filter isCode = codes1 := rfl
theorem w_codes : ∀ c ∈ words1.filter isCode, c.before args0 about1 = true := by
  rw [codes_eq]
  intro c hc
  simp only [codes1, List.mem_cons, List.not_mem_nil, or_false] at hc
  rcases hc with rfl | rfl
  · exact w_c0
  · exact w_c1
set_option maxRecDepth 65536 in
theorem w_t1 : words1.all (fun c => isCode c || c.before args0 about1) = true := by decide +kernel
theorem w_tables : (allAtoms (Jvm.Cond.code x code maxLocals ret :: tables_1)).before args0 about1 = true := by
  rw [allAtoms_all]
  show words1.all (fun c => c.before args0 about1) = true
  refine all_split ?_ w_codes
  rw [w_t1]
set_option maxRecDepth 65536 in
theorem w_case : (Jvm.Cond.and given_1 narrow_1).before args0 about1 = true := by decide +kernel
theorem w_applies : (headSpec (Jvm.Cond.code x code maxLocals ret :: tables_1) room_1).applies x e0.platform about1 = true :=
  (Spec.applies_iff w_frames).mpr ⟨w_running, w_runnable, w_alone, w_named, w_hears, w_ripe, w_room, w_tables⟩
theorem atStart : AtStart classFile x code maxLocals ret World_1 tables_1 room_1 Calls_1 rest_1 Pre_1 launch0 p0 e0 about1 theMethod args0 below0 :=
  ⟨lists_1, trivial, launch0.admits_env _ _ _, launch0.least_env, fairChoices_fair.cas, fairChoices_fair.clock, w_frames, w_args, w_heap, w_applies, trivial, trivial, w_case⟩
end start1
theorem witness_1 : WitnessClaimed_1 := ⟨start1.p0, start1.e0, start1.about1, start1.theMethod, start1.args0, start1.below0, start1.atStart⟩
end Jvm.Pilot.@@N@@
