import JvmDerived
import JvmDerived.Pilot.@@N@@Statement
import JvmDerived.Pilot.@@N@@Code
set_option linter.unusedVariables false
set_option linter.unusedSimpArgs false
namespace Jvm.RoadKit
open Sem ClassFile Op Lib Jvm.Stand Jvm.Free Jvm.LawKit
section New
variable {p : Program} {l : Launch} {e : Env} {R : Room} {s : State} {m : MethodId} {args : Array Value} {below : List Frame} {meth : Method} {c : Code} {T : State} {locs : List Loc} {cells slots : Nat}
theorem retI (X : Stand p l e R s m args below meth c T locs cells slots) (hx : p.tables.exec = Jvm.exec) {pc : Nat} {Ls : Array Slot} {z : Int32} {rest : List Value} (hret : meth.sig.returnType = some .int) (hd : decode c.code pc = .ok (.ireturn, 1)) {fs : List Frame}
    (hl : ∀ (f : JFrame) (acts : List Action), f.method = m → f.locked = none → f.entered = [] → (doReturn e (T.setTop f) acts (some (.int z))).1 = T.setFrames fs) : Steps p.tables e below (T.setTop (mkF m pc Ls (.int z :: rest))) (T.setFrames fs) := by
  have hm' : T.vm.method? m = some meth := X.method'
  have hn : narrow .int (.int z) = .int z := rfl
  show Steps p.tables e below (T.setTop { method := m, pc := pc, locals := Ls, stack := _ :: rest, locked := none }) _
  jvm_step X.here [X.here.top, hx, hd, hm', hret, hn]
  first | (intro acts; rw [hl _ acts rfl rfl rfl]) | rw [hl _ _ rfl rfl rfl]
  exact Steps.refl _
theorem retJ (X : Stand p l e R s m args below meth c T locs cells slots) (hx : p.tables.exec = Jvm.exec) {pc : Nat} {Ls : Array Slot} {z : Int64} {rest : List Value} (hret : meth.sig.returnType = some .long) (hd : decode c.code pc = .ok (.lreturn, 1)) {fs : List Frame}
    (hl : ∀ (f : JFrame) (acts : List Action), f.method = m → f.locked = none → f.entered = [] → (doReturn e (T.setTop f) acts (some (.long z))).1 = T.setFrames fs) : Steps p.tables e below (T.setTop (mkF m pc Ls (.long z :: rest))) (T.setFrames fs) :=
  retOut X hx hret rfl (Or.inr (Or.inl ⟨rfl, rfl, z, rfl⟩)) hd hl
theorem retA (X : Stand p l e R s m args below meth c T locs cells slots) (hx : p.tables.exec = Jvm.exec) {pc : Nat} {Ls : Array Slot} {a : Addr} {t : FieldType} {rest : List Value} (hret : meth.sig.returnType = some t) (ht : t.isReference = true) (hd : decode c.code pc = .ok (.areturn, 1)) {fs : List Frame}
    (hl : ∀ (f : JFrame) (acts : List Action), f.method = m → f.locked = none → f.entered = [] → (doReturn e (T.setTop f) acts (some (.ref a))).1 = T.setFrames fs) : Steps p.tables e below (T.setTop (mkF m pc Ls (.ref a :: rest))) (T.setFrames fs) :=
  retOut X hx hret (by cases t <;> first | rfl | (simp [FieldType.isReference] at ht)) (Or.inr (Or.inr (Or.inr (Or.inr ⟨rfl, ht, rfl⟩)))) hd hl
end New
end Jvm.RoadKit
namespace Jvm.Pilot.@@N@@
open Jvm Jvm.ClassFile Sem Op Lib Jvm.Free Jvm.Stand Jvm.LawKit Jvm.RoadKit Bundle Jvm.Pilot.@@N@@.Jvm.D
section OwnKit
variable {p : Program} {l : Launch} {e : Env} {R : Room} {s : State} {m : MethodId} {args : Array Value} {below : List Frame} {meth : Method} {c : Code} {T : State} {locs : List Loc} {cells slots : Nat} {Z : State} {h h' : Heap}
/-- one body's contract, with the walk's goal as a closed predicate K: 'go' takes a step, 'fin' leaves the method -/
theorem own_body {y : MethodName} {bytes : ByteArray} {maxL : Nat} {ret : Option FieldType} {ws : List Jvm.Cond} {rm : Room} {h0 : Heap} {Q : Option Value → Heap → List Loc → Prop} (hp : plainFor y = true)
    (body : ∀ (p : Program) (e : Env) (s : State) (m : MethodId) (below : List Frame) (meth : Method) (c : Code) (s₁ : State) (K : State → Prop),
      (∀ U U', (∀ t, Steps p.tables e below U' t → Steps p.tables e below U t) → K U' → K U) →
      (∀ {T : State} {locs : List Loc} {cells slots : Nat} {g : JFrame} (v : Option Value), Stand p l e rm s m args below meth c T locs cells slots → cells ≤ rm.cells → slots ≤ rm.slots → (ret = none → v = none) → Q v T.heap locs →
        (∀ fs, (∀ (f : JFrame) (acts : List Action), f.method = m → f.locked = none → f.entered = [] → (doReturn e (T.setTop f) acts v).1 = T.setFrames fs) → Steps p.tables e below (T.setTop g) (T.setFrames fs)) → K (T.setTop g)) →
      Stand p l e rm s m args below meth c s₁ [] 0 0 → p.tables.exec = Jvm.exec → c.code = bytes → c.maxLocals = maxL → s.vm.findClass y.cls = some m.cls → meth.name = y.name → meth.sig.returnType = ret → Z.Warmed39 s.vm → s₁.heap = h0 → K (s₁.setTop (entryFrame m args maxL))) :
    MetFree l y (head1 (Jvm.Cond.code y bytes maxL ret :: ws) rm) (fun a U => a = args ∧ Z.Warmed39 U.vm ∧ U.heap = h0) (fun _ _ _ _ _ => True) (fun _ U o U' => ∃ v L, o = .returned v ∧ Q v U'.heap L ∧ FrameEnd U o U' L rm.cells rm.slots) := by
  refine MetFree.of_bodySF hp hisR ?_
  intro p e s m args' below meth c s₁ Bd hml hP hK
  obtain ⟨rfl, hZ, hh⟩ := hP
  refine body p e s m below meth c s₁ (fun U => ∃ s₂ o, Steps p.tables e below U s₂ ∧ s₂.status = .running ∧ Ended s₂ below o ∧ ∃ v L, o = .returned v ∧ Q v s₂.heap L ∧ FrameEnd s o s₂ L rm.cells rm.slots) ?_ ?_ (Stand.of_body Bd) Bd.exec Bd.bytes hml (findClass_of_methodNamed Bd.named) (name_of_methodNamed Bd.named Bd.method).1 Bd.returns hZ (by rw [← hh, Bd.state]; rfl)
  · rintro U U' st ⟨s₂, o, h1, h2⟩
    exact ⟨s₂, o, st _ h1, h2⟩
  · intro T locs cells slots g v X hc hs hv hQ hst
    obtain ⟨fs, hr, hrun, hended, hW, hsame⟩ := X.leave (v := v) (fun q => hv (Bd.returns ▸ q))
    exact ⟨_, _, hst fs hr, hrun, hended, v, locs, rfl, hQ, ⟨_, rfl⟩, hW, hsame.mono hc hs⟩
/-! Java's shifts and the narrowing to a byte -/
def jushr (x y : Int32) : Int32 := (x.toUInt32 >>> (y &&& 31).toUInt32).toInt32
def jshl (x y : Int32) : Int32 := x <<< (y &&& 31)
def jshr (x y : Int32) : Int32 := x >>> (y &&& 31)
def jushrL (x : Int64) (y : Int32) : Int64 := (x.toUInt64 >>> (y &&& 0x3f).toInt64.toUInt64).toInt64
def jshlL (x : Int64) (y : Int32) : Int64 := x <<< (y &&& 0x3f).toInt64
def jshrL (x : Int64) (y : Int32) : Int64 := x >>> (y &&& 0x3f).toInt64
def jb (x : Int32) : Int32 := x.toInt8.toInt32
theorem own_lrem {g : JFrame} {target : State} (X : Stand p l e R s m args below meth c T locs cells slots) (hx : p.tables.exec = Jvm.exec) (hg : g.method = m) {x y : Int64} {rest : List Value} (hd : decode c.code g.pc = .ok (.lrem, 1)) (hs : g.stack = .long y :: .long x :: rest) (hy : y ≠ 0)
    (hr : Steps p.tables e below (T.setTop { g with pc := g.pc + 1, stack := .long (x % y) :: rest }) target) : Steps p.tables e below (T.setTop g) target :=
  XS.lrem X.here hx hg hd hs hy (by rw [lrem_mod]; exact hr)
theorem own_narb (x : Int32) : nar .byte (jb x) = jb x := by simp [nar, jb]
/-! an array by its length and what its places hold -/
def own_upd (f : Nat → Value) (i : Nat) (v : Value) : Nat → Value := fun j => if j = i then v else f j
theorem own_hit (f : Nat → Value) (i : Nat) (v : Value) : own_upd f i v i = v := if_pos rfl
theorem own_miss {f : Nat → Value} {i j : Nat} {v : Value} (q : j ≠ i) : own_upd f i v j = f j := if_neg q
def AF (Z : State) (h : Heap) (a : Addr) (ty : FieldType) (n : Nat) (f : Nat → Value) : Prop := n < 2 ^ 31 ∧ ∃ c : Cell, Arr Z h a c ty ∧ c.slots.size = n ∧ ∀ j, j < n → c.slots[j]? = some (f j)
theorem AF.lt {a : Addr} {ty : FieldType} {n : Nat} {f : Nat → Value} (A : AF Z h a ty n f) : a < h.size := by obtain ⟨-, c, A, -⟩ := A; exact A.lt
theorem AF.ext {a : Addr} {ty : FieldType} {n : Nat} {f : Nat → Value} (A : AF Z h a ty n f) (E : Ext h h') : AF Z h' a ty n f := by obtain ⟨q, c, A, r⟩ := A; exact ⟨q, c, A.ext E, r⟩
theorem AF.other {a b : Addr} {sl : Nat} {v : Value} {ty : FieldType} {n : Nat} {f : Nat → Value} (A : AF Z h b ty n f) (W : Wr h h' a sl v) (q : b ≠ a) : AF Z h' b ty n f := by obtain ⟨q1, c, A, r⟩ := A; exact ⟨q1, c, A.other W q, r⟩
theorem AF.keep {a : Addr} {ws : List Addr} {ty : FieldType} {n : Nat} {f : Nat → Value} (A : AF Z h a ty n f) (K : Keep h h' ws) (q : a ∉ ws) : AF Z h' a ty n f := by obtain ⟨q1, c, A, r⟩ := A; exact ⟨q1, c, ⟨K.2.1 a c A.1 q, A.2⟩, r⟩
theorem AF.congr {a : Addr} {ty : FieldType} {n : Nat} {f f' : Nat → Value} (A : AF Z h a ty n f) (q : ∀ j, j < n → f j = f' j) : AF Z h a ty n f' := by obtain ⟨q1, c, A, S, r⟩ := A; exact ⟨q1, c, A, S, fun j hj => by rw [← q j hj]; exact r j hj⟩
theorem AF.len {a : Addr} {ty : FieldType} {n : Nat} {f : Nat → Value} (A : AF Z h a ty n f) : n < 2 ^ 31 := A.1
theorem own_idx {j : Int32} {i : Nat} (hj : j.toInt = (i : Int)) : j.toNatClampNeg = i := by simp only [Int32.toNatClampNeg, hj]; omega
theorem own_in {j : Int32} {i n : Nat} {c : Cell} (S : c.slots.size = n) (hj : j.toInt = (i : Int)) (hi : i < n) : ¬ (j < 0 ∨ c.slots.size ≤ j.toNatClampNeg) := by
  rw [own_idx hj, S, Int32.lt_iff_toInt_lt, hj]
  simp only [Int32.toInt_zero]
  omega
theorem own_set {a : Addr} {ty : FieldType} {n i : Nat} {f : Nat → Value} {cl : Cell} {v : Value} (q1 : n < 2 ^ 31) (A : Arr Z h a cl ty) (S : cl.slots.size = n) (H : ∀ j, j < n → cl.slots[j]? = some (f j)) (W : Wr h h' a i v) (hi : i < n) : AF Z h' a ty n (own_upd f i v) := by
  refine ⟨q1, _, A.same W, by rw [sz_set]; exact S, fun j hj => ?_⟩
  simp only [Cell.setSlot, own_upd]
  by_cases q : j = i
  · subst q; rw [if_pos rfl]; simp [S, hj]
  · rw [if_neg q, Array.getElem?_setIfInBounds_ne (fun z => q z.symm)]; exact H j hj
theorem own_stI (X : Stand p l e R s m args below meth c T locs cells slots) (hx : p.tables.exec = Jvm.exec) (hZ : Z.Warmed39 s.vm) (eT : T.heap = h) {a : Addr} {n i : Nat} {f : Nat → Value} (A : AF Z h a .int n f) {j x : Int32} (hj : j.toInt = (i : Int)) (hi : i < n) {g : JFrame} (hg : g.method = m) {rest : List Value} (hs : g.stack = .int x :: .int j :: .ref a :: rest) (hd : decode c.code g.pc = .ok (.iastore, 1)) :
    ∃ T' h', Stand p l e R s m args below meth c T' (locs ++ [⟨a, i⟩]) cells slots ∧ T'.heap = h' ∧ Wr h h' a i (.int x) ∧ AF Z h' a .int n (own_upd f i (.int x)) ∧ ∀ target, Steps p.tables e below (T'.setTop { g with pc := g.pc + 1, stack := rest }) target → Steps p.tables e below (T.setTop g) target := by
  obtain ⟨q1, cl, Ar, S, H⟩ := A
  obtain ⟨T', h', X', e', W, st⟩ := stI X hx hZ eT Ar (j := j) (own_in S hj hi) hg hs hd
  rw [own_idx hj] at X' W
  exact ⟨T', h', X', e', W, own_set q1 Ar S H W hi, st⟩
theorem own_stJ (X : Stand p l e R s m args below meth c T locs cells slots) (hx : p.tables.exec = Jvm.exec) (hZ : Z.Warmed39 s.vm) (eT : T.heap = h) {a : Addr} {n i : Nat} {f : Nat → Value} (A : AF Z h a .long n f) {j : Int32} {x : Int64} (hj : j.toInt = (i : Int)) (hi : i < n) {g : JFrame} (hg : g.method = m) {rest : List Value} (hs : g.stack = .long x :: .int j :: .ref a :: rest) (hd : decode c.code g.pc = .ok (.lastore, 1)) :
    ∃ T' h', Stand p l e R s m args below meth c T' (locs ++ [⟨a, i⟩]) cells slots ∧ T'.heap = h' ∧ Wr h h' a i (.long x) ∧ AF Z h' a .long n (own_upd f i (.long x)) ∧ ∀ target, Steps p.tables e below (T'.setTop { g with pc := g.pc + 1, stack := rest }) target → Steps p.tables e below (T.setTop g) target := by
  obtain ⟨q1, cl, Ar, S, H⟩ := A
  obtain ⟨T', h', X', e', W, st⟩ := stJ X hx hZ eT Ar (j := j) (own_in S hj hi) hg hs hd
  rw [own_idx hj] at X' W
  exact ⟨T', h', X', e', W, own_set q1 Ar S H W hi, st⟩
theorem own_stB (X : Stand p l e R s m args below meth c T locs cells slots) (hx : p.tables.exec = Jvm.exec) (hZ : Z.Warmed39 s.vm) (eT : T.heap = h) {a : Addr} {n i : Nat} {f : Nat → Value} (A : AF Z h a .byte n f) {j x : Int32} (hj : j.toInt = (i : Int)) (hi : i < n) (hn : nar .byte x = x) {g : JFrame} (hg : g.method = m) {rest : List Value} (hs : g.stack = .int x :: .int j :: .ref a :: rest) (hd : decode c.code g.pc = .ok (.bastore, 1)) :
    ∃ T' h', Stand p l e R s m args below meth c T' (locs ++ [⟨a, i⟩]) cells slots ∧ T'.heap = h' ∧ Wr h h' a i (.int x) ∧ AF Z h' a .byte n (own_upd f i (.int x)) ∧ ∀ target, Steps p.tables e below (T'.setTop { g with pc := g.pc + 1, stack := rest }) target → Steps p.tables e below (T.setTop g) target := by
  obtain ⟨q1, cl, Ar, S, H⟩ := A
  obtain ⟨T', h', X', e', W, st⟩ := stB X hx hZ eT Ar (j := j) (own_in S hj hi) hg hs hd
  rw [own_idx hj] at X' W
  rw [hn] at W
  exact ⟨T', h', X', e', W, own_set q1 Ar S H W hi, st⟩
theorem own_new (X : Stand p l e R s m args below meth c T locs cells slots) (hx : p.tables.exec = Jvm.exec) (hZ : Z.Warmed39 s.vm) {a0 : Array Value} {aty : ArrayType} (w : (Cond.arrayClass (newarray.typeOf aty)).before a0 Z = true) (eT : T.heap = h) {g : JFrame} (hg : g.method = m) (hd : decode c.code g.pc = .ok (.newarray aty, 2)) {n : Int32} {rest : List Value} (hs : g.stack = .int n :: rest)
    {k : Nat} (hn : n.toInt = (k : Int)) (cap : Nat) (hcap : k ≤ cap) (hb : cap * 8 ≤ 536870912) (hc : cells + 1 ≤ R.cells) (hl : slots + cap ≤ R.slots) :
    ∃ T' h' a, Stand p l e R s m args below meth c T' locs (cells + 1) (slots + cap) ∧ T'.heap = h' ∧ Ext h h' ∧ a = h.size ∧ AF Z h' a (newarray.typeOf aty) k (fun _ => defaultValue (newarray.typeOf aty)) ∧
      ∀ target, Steps p.tables e below (T'.setTop { g with pc := g.pc + 2, stack := .ref a :: rest }) target → Steps p.tables e below (T.setTop g) target := by
  have hn0 : ¬ n < 0 := by rw [Int32.lt_iff_toInt_lt, hn]; simp only [Int32.toInt_zero]; omega
  have hk : n.toNatClampNeg = k := own_idx hn
  have hk31 : k < 2 ^ 31 := by have := n.toInt_lt; omega
  obtain ⟨T', h', cA, X', e', E, A, st⟩ := newP X hx hZ w eT hg hd hs hn0 (by rw [hk]; exact hcap) hb hc hl
  refine ⟨T', h', h.size, X', e', E, rfl, ⟨hk31, _, A, by rw [sz_new, hk], fun j hj => ?_⟩, st⟩
  simp [newA, hk, hj]
theorem own_ldI (X : Stand p l e R s m args below meth c T locs cells slots) (hx : p.tables.exec = Jvm.exec) (hZ : Z.Warmed39 s.vm) (eT : T.heap = h) {a : Addr} {n i : Nat} {f : Nat → Value} (A : AF Z h a .int n f) {j : Int32} (hj : j.toInt = (i : Int)) (hi : i < n) {g : JFrame} (hg : g.method = m) {rest : List Value} (hs : g.stack = .int j :: .ref a :: rest) (hd : decode c.code g.pc = .ok (.iaload, 1)) {v : Value} (hv : f i = v) (target : State)
    (hr : Steps p.tables e below (T.setTop { g with pc := g.pc + 1, stack := v :: rest }) target) : Steps p.tables e below (T.setTop g) target := by
  obtain ⟨-, cl, Ar, S, H⟩ := A
  exact X.iaload hx (j := j) (v := v) (by rw [eT]; exact Ar.1) (State.isArrayOf_alike hZ.alike Ar.2.1) Ar.2.2 (own_in S hj hi) (by rw [own_idx hj, ← hv]; exact H i hi) hg hs hd target hr
theorem own_ldJ (X : Stand p l e R s m args below meth c T locs cells slots) (hx : p.tables.exec = Jvm.exec) (hZ : Z.Warmed39 s.vm) (eT : T.heap = h) {a : Addr} {n i : Nat} {f : Nat → Value} (A : AF Z h a .long n f) {j : Int32} (hj : j.toInt = (i : Int)) (hi : i < n) {g : JFrame} (hg : g.method = m) {rest : List Value} (hs : g.stack = .int j :: .ref a :: rest) (hd : decode c.code g.pc = .ok (.laload, 1)) {v : Value} (hv : f i = v) (target : State)
    (hr : Steps p.tables e below (T.setTop { g with pc := g.pc + 1, stack := v :: rest }) target) : Steps p.tables e below (T.setTop g) target := by
  obtain ⟨-, cl, Ar, S, H⟩ := A
  exact X.laload hx (j := j) (v := v) (by rw [eT]; exact Ar.1) (State.isArrayOf_alike hZ.alike Ar.2.1) Ar.2.2 (own_in S hj hi) (by rw [own_idx hj, ← hv]; exact H i hi) hg hs hd target hr
theorem own_ldB (X : Stand p l e R s m args below meth c T locs cells slots) (hx : p.tables.exec = Jvm.exec) (hZ : Z.Warmed39 s.vm) (eT : T.heap = h) {a : Addr} {n i : Nat} {f : Nat → Value} (A : AF Z h a .byte n f) {j : Int32} (hj : j.toInt = (i : Int)) (hi : i < n) {g : JFrame} (hg : g.method = m) {rest : List Value} (hs : g.stack = .int j :: .ref a :: rest) (hd : decode c.code g.pc = .ok (.baload, 1)) {v : Value} (hv : f i = v) (target : State)
    (hr : Steps p.tables e below (T.setTop { g with pc := g.pc + 1, stack := v :: rest }) target) : Steps p.tables e below (T.setTop g) target := by
  obtain ⟨-, cl, Ar, S, H⟩ := A
  exact X.baloadBytes hx (j := j) (v := v) (by rw [eT]; exact Ar.1) (State.isArrayOf_alike hZ.alike Ar.2.1) Ar.2.2 (own_in S hj hi) (by rw [own_idx hj, ← hv]; exact H i hi) hg hs hd target hr
theorem own_len (X : Stand p l e R s m args below meth c T locs cells slots) (hx : p.tables.exec = Jvm.exec) (hZ : Z.Warmed39 s.vm) (eT : T.heap = h) {a : Addr} {ty : FieldType} {n : Nat} {f : Nat → Value} (A : AF Z h a ty n f) {g : JFrame} (hg : g.method = m) {rest : List Value} (hs : g.stack = .ref a :: rest) (hd : decode c.code g.pc = .ok (.arraylength, 1)) (target : State)
    (hr : Steps p.tables e below (T.setTop { g with pc := g.pc + 1, stack := .int (Int32.ofNat n) :: rest }) target) : Steps p.tables e below (T.setTop g) target := by
  obtain ⟨-, cl, Ar, S, H⟩ := A
  refine X.arraylength hx (by rw [eT]; exact Ar.1) (State.isArrayOf_alike hZ.alike Ar.2.1) hg hs hd target ?_
  rw [S]; exact hr
end OwnKit
theorem pd_1 : parseMethodDescriptor "(JJJJ)V" = some ⟨[.long, .long, .long, .long], none⟩ := by decide +kernel
theorem pd_2 : parseMethodDescriptor "()V" = some ⟨[], none⟩ := by decide +kernel
theorem pd_3 : parseMethodDescriptor "(J)J" = some ⟨[.long], some .long⟩ := by decide +kernel
theorem pd_4 : parseMethodDescriptor "(JJ)J" = some ⟨[.long, .long], some .long⟩ := by decide +kernel
theorem d2_0 : decode jdk_30_method_1_code 0 = .ok (.aload_n 0, 1) := by decide +kernel
theorem d2_1 : decode jdk_30_method_1_code 1 = .ok (.invokespecial 1, 3) := by decide +kernel
theorem d2_4 : decode jdk_30_method_1_code 4 = .ok (.return_, 1) := by decide +kernel
theorem pn_6 : plainName "java/lang/Record" = true := by first | (simp [plainName, overriddenIn]; done) | decide +kernel
theorem ef_rm2 (m : MethodId) (a1 : Addr) : entryFrame m #[(.ref a1)] 1 = mkF m 0 #[.val (.ref a1)] [] := by first | (simp [entryFrame, mkF, argsToLocals, Value.category]; done) | rfl
def Q_rm2 (Z : State) (a1 : Addr) (h0 : Heap) (n0 : Nat) (v : Option Value) (h : Heap) (L : List Loc) : Prop := v = none ∧ Fr n0 L ∧ h = h0
set_option maxRecDepth 65536 in
set_option maxHeartbeats 40000000 in
theorem rm2 (l : Launch) (Z : State) (a0 : Array Value) (hw : ∀ d ∈ tables_1, d.before a0 Z = true) (ws : List Jvm.Cond) (a1 : Addr) (h0 : Heap) (n0 : Nat) (Z0 : n0 ≤ h0.size)  :
    MetFree l (⟨"java/lang/Record", "<init>", "()V"⟩ : MethodName) (head1 (Jvm.Cond.code (⟨"java/lang/Record", "<init>", "()V"⟩ : MethodName) jdk_30_method_1_code 1 none :: ws) ({ frames := 1, cells := 0, slots := 0, locals := 12 } : Room)) (fun a U => a = #[(.ref a1)] ∧ Z.Warmed39 U.vm ∧ U.heap = h0) (fun _ _ _ _ _ => True) (fun _ U o U' => ∃ v L, o = .returned v ∧ Q_rm2 Z a1 h0 n0 v U'.heap L ∧ FrameEnd U o U' L ({ frames := 1, cells := 0, slots := 0, locals := 12 } : Room).cells ({ frames := 1, cells := 0, slots := 0, locals := 12 } : Room).slots) := by
  refine own_body (Q := Q_rm2 Z a1 h0 n0) (plainFor_of_name pn_6) ?_
  intro p e s m below meth c s₁ K go fin X0 hx hby hml hown hnm hret hZ e0
  have hown : s.vm.findClass "java/lang/Record" = some m.cls := hown
  have N0 := Fr.nil n0
  refine go _ (s₁.setTop (mkF m 0 #[.val (.ref a1)] [])) (fun t k => castTop (ef_rm2 m a1) k) ?_
  refine go _ (s₁.setTop (mkF m 1 #[.val (.ref a1)] [(.ref a1)])) (fun t k => XS.aloadN X0.here hx rfl (hb hby d2_0) rfl rfl k) ?_
  obtain ⟨T1, X1, e1, st1⟩ := initO X0 hx hZ hown (hw _ (List.mem_of_getElem? (i := 13) rfl)) (hw _ (List.mem_of_getElem? (i := 14) rfl)) (hw _ (List.mem_of_getElem? (i := 15) rfl)) e0 (g := (mkF m 1 #[.val (.ref a1)] [(.ref a1)])) rfl (by rw [hml]; rfl) rfl (hb hby d2_1) (by decide) (W := 0) (by show 2 * 0 + _ ≤ _; exact Nat.le_of_eq rfl) (by decide)
  refine go _ (T1.setTop (mkF m 4 #[.val (.ref a1)] [])) (st1) ?_
  exact fin none X1 (by decide) (by decide) (fun _ => rfl) (show Q_rm2 Z a1 h0 n0 _ T1.heap _ from (by rw [e1]; exact ⟨rfl, N0, rfl⟩)) (fun fs hr => X1.returnOut hx hret (hb hby d2_4) hr)
theorem d1_0 : decode prog_98_method_1_code 0 = .ok (.aload_n 0, 1) := by decide +kernel
theorem d1_1 : decode prog_98_method_1_code 1 = .ok (.invokespecial 1, 3) := by decide +kernel
theorem d1_4 : decode prog_98_method_1_code 4 = .ok (.aload_n 0, 1) := by decide +kernel
theorem d1_5 : decode prog_98_method_1_code 5 = .ok (.lload_n 1, 1) := by decide +kernel
theorem d1_6 : decode prog_98_method_1_code 6 = .ok (.putfield 7, 3) := by decide +kernel
theorem d1_9 : decode prog_98_method_1_code 9 = .ok (.aload_n 0, 1) := by decide +kernel
theorem d1_10 : decode prog_98_method_1_code 10 = .ok (.lload_n 3, 1) := by decide +kernel
theorem d1_11 : decode prog_98_method_1_code 11 = .ok (.putfield 13, 3) := by decide +kernel
theorem d1_14 : decode prog_98_method_1_code 14 = .ok (.aload_n 0, 1) := by decide +kernel
theorem d1_15 : decode prog_98_method_1_code 15 = .ok (.lload 5, 2) := by decide +kernel
theorem d1_17 : decode prog_98_method_1_code 17 = .ok (.putfield 16, 3) := by decide +kernel
theorem d1_20 : decode prog_98_method_1_code 20 = .ok (.aload_n 0, 1) := by decide +kernel
theorem d1_21 : decode prog_98_method_1_code 21 = .ok (.lload 7, 2) := by decide +kernel
theorem d1_23 : decode prog_98_method_1_code 23 = .ok (.putfield 19, 3) := by decide +kernel
theorem d1_26 : decode prog_98_method_1_code 26 = .ok (.return_, 1) := by decide +kernel
theorem pn_8 : plainName "com/example/bogus_tally/bogustally/generate/IdSpread$Laying" = true := by first | (simp [plainName, overriddenIn]; done) | decide +kernel
theorem ef_rm1 (m : MethodId) (a1 : Addr) (q1 : Int64) (q2 : Int64) (q3 : Int64) (q4 : Int64) : entryFrame m #[(.ref a1), (.long q1), (.long q2), (.long q3), (.long q4)] 9 = mkF m 0 #[.val (.ref a1), .val (.long q1), .second, .val (.long q2), .second, .val (.long q3), .second, .val (.long q4), .second] [] := by first | (simp [entryFrame, mkF, argsToLocals, Value.category]; done) | rfl
def Q_rm1 (Z : State) (a1 : Addr) (q1 : Int64) (q2 : Int64) (q3 : Int64) (q4 : Int64) (h0 : Heap) (n0 : Nat) (v : Option Value) (h : Heap) (L : List Loc) : Prop := v = none ∧ Fr n0 L ∧ Keep h0 h [a1] ∧ Exa Z h a1 "com/example/bogus_tally/bogustally/generate/IdSpread$Laying" ∧ Fld Z h a1 "com/example/bogus_tally/bogustally/generate/IdSpread$Laying" "ids" "J" (.long q1) ∧ Fld Z h a1 "com/example/bogus_tally/bogustally/generate/IdSpread$Laying" "values" "J" (.long q2) ∧ Fld Z h a1 "com/example/bogus_tally/bogustally/generate/IdSpread$Laying" "multiplier" "J" (.long q3) ∧ Fld Z h a1 "com/example/bogus_tally/bogustally/generate/IdSpread$Laying" "shift" "J" (.long q4)
set_option maxRecDepth 65536 in
set_option maxHeartbeats 40000000 in
theorem rm1 (l : Launch) (Z : State) (a0 : Array Value) (hw : ∀ d ∈ tables_1, d.before a0 Z = true) (ws : List Jvm.Cond) (a1 : Addr) (q1 : Int64) (q2 : Int64) (q3 : Int64) (q4 : Int64) (h0 : Heap) (n0 : Nat) (Z0 : n0 ≤ h0.size) (E0 : Exa Z h0 a1 "com/example/bogus_tally/bogustally/generate/IdSpread$Laying") (g0 : n0 ≤ a1) (F0 : Fld Z h0 a1 "com/example/bogus_tally/bogustally/generate/IdSpread$Laying" "ids" "J" (.long 0)) (F1 : Fld Z h0 a1 "com/example/bogus_tally/bogustally/generate/IdSpread$Laying" "values" "J" (.long 0)) (F2 : Fld Z h0 a1 "com/example/bogus_tally/bogustally/generate/IdSpread$Laying" "multiplier" "J" (.long 0)) (F3 : Fld Z h0 a1 "com/example/bogus_tally/bogustally/generate/IdSpread$Laying" "shift" "J" (.long 0)) :
    MetFree l (⟨"com/example/bogus_tally/bogustally/generate/IdSpread$Laying", "<init>", "(JJJJ)V"⟩ : MethodName) (head1 (Jvm.Cond.code (⟨"com/example/bogus_tally/bogustally/generate/IdSpread$Laying", "<init>", "(JJJJ)V"⟩ : MethodName) prog_98_method_1_code 9 none :: ws) ({ frames := 2, cells := 0, slots := 0, locals := 24 } : Room)) (fun a U => a = #[(.ref a1), (.long q1), (.long q2), (.long q3), (.long q4)] ∧ Z.Warmed39 U.vm ∧ U.heap = h0) (fun _ _ _ _ _ => True) (fun _ U o U' => ∃ v L, o = .returned v ∧ Q_rm1 Z a1 q1 q2 q3 q4 h0 n0 v U'.heap L ∧ FrameEnd U o U' L ({ frames := 2, cells := 0, slots := 0, locals := 24 } : Room).cells ({ frames := 2, cells := 0, slots := 0, locals := 24 } : Room).slots) := by
  refine own_body (Q := Q_rm1 Z a1 q1 q2 q3 q4 h0 n0) (plainFor_of_name pn_8) ?_
  intro p e s m below meth c s₁ K go fin X0 hx hby hml hown hnm hret hZ e0
  have hown : s.vm.findClass "com/example/bogus_tally/bogustally/generate/IdSpread$Laying" = some m.cls := hown
  have N0 := Fr.nil n0
  have K0 : Keep h0 h0 [a1] := Keep.refl h0 _
  refine go _ (s₁.setTop (mkF m 0 #[.val (.ref a1), .val (.long q1), .second, .val (.long q2), .second, .val (.long q3), .second, .val (.long q4), .second] [])) (fun t k => castTop (ef_rm1 m a1 q1 q2 q3 q4) k) ?_
  refine go _ (s₁.setTop (mkF m 1 #[.val (.ref a1), .val (.long q1), .second, .val (.long q2), .second, .val (.long q3), .second, .val (.long q4), .second] [(.ref a1)])) (fun t k => XS.aloadN X0.here hx rfl (hb hby d1_0) rfl rfl k) ?_
  obtain ⟨_, _, ⟨T2, L2, k2, n2⟩, -, X2, ⟨Lc2, hQ2, l2, y2, z2⟩, st2⟩ := X0.specialBack hx (y := (⟨"java/lang/Record", "<init>", "()V"⟩ : MethodName)) rfl hown (mvT hZ (hw _ (List.mem_of_getElem? (i := 8) rfl))) (mvT hZ (hw _ (List.mem_of_getElem? (i := 9) rfl))) (mvT hZ (hw _ (List.mem_of_getElem? (i := 12) rfl))) (by decide) (backOf (W := 0) (rm2 l Z a0 hw [] a1  h0 n0 Z0 ) hZ (hw _ (List.mem_of_getElem? (i := 12) rfl)) (hw _ (List.mem_of_getElem? (i := 11) rfl)) (by decide) (by decide)) (g := (mkF m 1 #[.val (.ref a1), .val (.long q1), .second, .val (.long q2), .second, .val (.long q3), .second, .val (.long q4), .second] [(.ref a1)])) rfl (by rw [hml]; rfl) (Steps.refl _) (a := a1) (argsL := []) (rest := []) (lenOf pd_2 rfl) rfl (by show 2 * 0 + _ ≤ _; exact Nat.le_of_eq rfl) (hb hby d1_1) (fun _ _ => ⟨rfl, e0, (by decide : 0 + 0 ≤ _), (by decide : 0 + 0 ≤ _)⟩)
  dsimp only [Pt.U, Pt.locs, Pt.cells, Pt.slots] at X2 l2 y2 z2 st2 hQ2
  subst l2 y2 z2
  obtain ⟨rfl, Nq2, hh2⟩ := hQ2
  have N3 := Fr.app N0 Nq2
  refine go _ (T2.setTop (mkF m 4 #[.val (.ref a1), .val (.long q1), .second, .val (.long q2), .second, .val (.long q3), .second, .val (.long q4), .second] [])) (fun t k => st2.trans k) ?_
  refine go _ (T2.setTop (mkF m 5 #[.val (.ref a1), .val (.long q1), .second, .val (.long q2), .second, .val (.long q3), .second, .val (.long q4), .second] [(.ref a1)])) (fun t k => XS.aloadN X2.here hx rfl (hb hby d1_4) rfl rfl k) ?_
  refine go _ (T2.setTop (mkF m 6 #[.val (.ref a1), .val (.long q1), .second, .val (.long q2), .second, .val (.long q3), .second, .val (.long q4), .second] [(.long q1), (.ref a1)])) (fun t k => XS.lloadN X2.here hx rfl (hb hby d1_5) rfl k) ?_
  obtain ⟨T4, h4, X4, e4, W4, st4⟩ := putF X2 hx hZ hown (host := "") (Or.inl (hw _ (List.mem_of_getElem? (i := 16) rfl))) Via.refl hh2 F0 E0 (Or.inr ⟨(hw _ (List.mem_of_getElem? (i := 17) rfl)), rfl, hnm⟩) (hw _ (List.mem_of_getElem? (i := 3) rfl)) (ty := .long) (by decide) rfl rfl (g := (mkF m 6 #[.val (.ref a1), .val (.long q1), .second, .val (.long q2), .second, .val (.long q3), .second, .val (.long q4), .second] [(.long q1), (.ref a1)])) rfl rfl (hb hby d1_6)
  have Fw4 := F0.same W4
  have B5 := E0.wr W4
  have F6 := F1.other W4 (Or.inr (slot_ne (Or.inr (hw _ (List.mem_of_getElem? (i := 19) rfl))) (Or.inr (hw _ (List.mem_of_getElem? (i := 17) rfl))) (by decide) (t := .long) (t' := .long) (by decide) (by decide)))
  have F7 := F2.other W4 (Or.inr (slot_ne (Or.inr (hw _ (List.mem_of_getElem? (i := 21) rfl))) (Or.inr (hw _ (List.mem_of_getElem? (i := 17) rfl))) (by decide) (t := .long) (t' := .long) (by decide) (by decide)))
  have F8 := F3.other W4 (Or.inr (slot_ne (Or.inr (hw _ (List.mem_of_getElem? (i := 23) rfl))) (Or.inr (hw _ (List.mem_of_getElem? (i := 17) rfl))) (by decide) (t := .long) (t' := .long) (by decide) (by decide)))
  have Z9 : n0 ≤ h4.size := by rw [W4.size]; exact Z0
  have N10 := Fr.snoc X4 N3 g0
  have K11 := K0.wr W4 (Or.inl (by simp))
  refine go _ (T4.setTop (mkF m 9 #[.val (.ref a1), .val (.long q1), .second, .val (.long q2), .second, .val (.long q3), .second, .val (.long q4), .second] [])) (st4) ?_
  refine go _ (T4.setTop (mkF m 10 #[.val (.ref a1), .val (.long q1), .second, .val (.long q2), .second, .val (.long q3), .second, .val (.long q4), .second] [(.ref a1)])) (fun t k => XS.aloadN X4.here hx rfl (hb hby d1_9) rfl rfl k) ?_
  refine go _ (T4.setTop (mkF m 11 #[.val (.ref a1), .val (.long q1), .second, .val (.long q2), .second, .val (.long q3), .second, .val (.long q4), .second] [(.long q2), (.ref a1)])) (fun t k => XS.lloadN X4.here hx rfl (hb hby d1_10) rfl k) ?_
  obtain ⟨T12, h12, X12, e12, W12, st12⟩ := putF X4 hx hZ hown (host := "") (Or.inl (hw _ (List.mem_of_getElem? (i := 18) rfl))) Via.refl e4 F6 B5 (Or.inr ⟨(hw _ (List.mem_of_getElem? (i := 19) rfl)), rfl, hnm⟩) (hw _ (List.mem_of_getElem? (i := 3) rfl)) (ty := .long) (by decide) rfl rfl (g := (mkF m 11 #[.val (.ref a1), .val (.long q1), .second, .val (.long q2), .second, .val (.long q3), .second, .val (.long q4), .second] [(.long q2), (.ref a1)])) rfl rfl (hb hby d1_11)
  have Fw12 := F6.same W12
  have B13 := B5.wr W12
  have F14 := F7.other W12 (Or.inr (slot_ne (Or.inr (hw _ (List.mem_of_getElem? (i := 21) rfl))) (Or.inr (hw _ (List.mem_of_getElem? (i := 19) rfl))) (by decide) (t := .long) (t' := .long) (by decide) (by decide)))
  have F15 := F8.other W12 (Or.inr (slot_ne (Or.inr (hw _ (List.mem_of_getElem? (i := 23) rfl))) (Or.inr (hw _ (List.mem_of_getElem? (i := 19) rfl))) (by decide) (t := .long) (t' := .long) (by decide) (by decide)))
  have F16 := Fw4.other W12 (Or.inr (slot_ne (Or.inr (hw _ (List.mem_of_getElem? (i := 17) rfl))) (Or.inr (hw _ (List.mem_of_getElem? (i := 19) rfl))) (by decide) (t := .long) (t' := .long) (by decide) (by decide)))
  have Z17 : n0 ≤ h12.size := by rw [W12.size]; exact Z9
  have N18 := Fr.snoc X12 N10 g0
  have K19 := K11.wr W12 (Or.inl (by simp))
  refine go _ (T12.setTop (mkF m 14 #[.val (.ref a1), .val (.long q1), .second, .val (.long q2), .second, .val (.long q3), .second, .val (.long q4), .second] [])) (st12) ?_
  refine go _ (T12.setTop (mkF m 15 #[.val (.ref a1), .val (.long q1), .second, .val (.long q2), .second, .val (.long q3), .second, .val (.long q4), .second] [(.ref a1)])) (fun t k => XS.aloadN X12.here hx rfl (hb hby d1_14) rfl rfl k) ?_
  refine go _ (T12.setTop (mkF m 17 #[.val (.ref a1), .val (.long q1), .second, .val (.long q2), .second, .val (.long q3), .second, .val (.long q4), .second] [(.long q3), (.ref a1)])) (fun t k => XS.lload X12.here hx rfl (hb hby d1_15) rfl k) ?_
  obtain ⟨T20, h20, X20, e20, W20, st20⟩ := putF X12 hx hZ hown (host := "") (Or.inl (hw _ (List.mem_of_getElem? (i := 20) rfl))) Via.refl e12 F14 B13 (Or.inr ⟨(hw _ (List.mem_of_getElem? (i := 21) rfl)), rfl, hnm⟩) (hw _ (List.mem_of_getElem? (i := 3) rfl)) (ty := .long) (by decide) rfl rfl (g := (mkF m 17 #[.val (.ref a1), .val (.long q1), .second, .val (.long q2), .second, .val (.long q3), .second, .val (.long q4), .second] [(.long q3), (.ref a1)])) rfl rfl (hb hby d1_17)
  have Fw20 := F14.same W20
  have B21 := B13.wr W20
  have F22 := F15.other W20 (Or.inr (slot_ne (Or.inr (hw _ (List.mem_of_getElem? (i := 23) rfl))) (Or.inr (hw _ (List.mem_of_getElem? (i := 21) rfl))) (by decide) (t := .long) (t' := .long) (by decide) (by decide)))
  have F23 := F16.other W20 (Or.inr (slot_ne (Or.inr (hw _ (List.mem_of_getElem? (i := 17) rfl))) (Or.inr (hw _ (List.mem_of_getElem? (i := 21) rfl))) (by decide) (t := .long) (t' := .long) (by decide) (by decide)))
  have F24 := Fw12.other W20 (Or.inr (slot_ne (Or.inr (hw _ (List.mem_of_getElem? (i := 19) rfl))) (Or.inr (hw _ (List.mem_of_getElem? (i := 21) rfl))) (by decide) (t := .long) (t' := .long) (by decide) (by decide)))
  have Z25 : n0 ≤ h20.size := by rw [W20.size]; exact Z17
  have N26 := Fr.snoc X20 N18 g0
  have K27 := K19.wr W20 (Or.inl (by simp))
  refine go _ (T20.setTop (mkF m 20 #[.val (.ref a1), .val (.long q1), .second, .val (.long q2), .second, .val (.long q3), .second, .val (.long q4), .second] [])) (st20) ?_
  refine go _ (T20.setTop (mkF m 21 #[.val (.ref a1), .val (.long q1), .second, .val (.long q2), .second, .val (.long q3), .second, .val (.long q4), .second] [(.ref a1)])) (fun t k => XS.aloadN X20.here hx rfl (hb hby d1_20) rfl rfl k) ?_
  refine go _ (T20.setTop (mkF m 23 #[.val (.ref a1), .val (.long q1), .second, .val (.long q2), .second, .val (.long q3), .second, .val (.long q4), .second] [(.long q4), (.ref a1)])) (fun t k => XS.lload X20.here hx rfl (hb hby d1_21) rfl k) ?_
  obtain ⟨T28, h28, X28, e28, W28, st28⟩ := putF X20 hx hZ hown (host := "") (Or.inl (hw _ (List.mem_of_getElem? (i := 22) rfl))) Via.refl e20 F22 B21 (Or.inr ⟨(hw _ (List.mem_of_getElem? (i := 23) rfl)), rfl, hnm⟩) (hw _ (List.mem_of_getElem? (i := 3) rfl)) (ty := .long) (by decide) rfl rfl (g := (mkF m 23 #[.val (.ref a1), .val (.long q1), .second, .val (.long q2), .second, .val (.long q3), .second, .val (.long q4), .second] [(.long q4), (.ref a1)])) rfl rfl (hb hby d1_23)
  have Fw28 := F22.same W28
  have B29 := B21.wr W28
  have F30 := F23.other W28 (Or.inr (slot_ne (Or.inr (hw _ (List.mem_of_getElem? (i := 17) rfl))) (Or.inr (hw _ (List.mem_of_getElem? (i := 23) rfl))) (by decide) (t := .long) (t' := .long) (by decide) (by decide)))
  have F31 := F24.other W28 (Or.inr (slot_ne (Or.inr (hw _ (List.mem_of_getElem? (i := 19) rfl))) (Or.inr (hw _ (List.mem_of_getElem? (i := 23) rfl))) (by decide) (t := .long) (t' := .long) (by decide) (by decide)))
  have F32 := Fw20.other W28 (Or.inr (slot_ne (Or.inr (hw _ (List.mem_of_getElem? (i := 21) rfl))) (Or.inr (hw _ (List.mem_of_getElem? (i := 23) rfl))) (by decide) (t := .long) (t' := .long) (by decide) (by decide)))
  have Z33 : n0 ≤ h28.size := by rw [W28.size]; exact Z25
  have N34 := Fr.snoc X28 N26 g0
  have K35 := K27.wr W28 (Or.inl (by simp))
  refine go _ (T28.setTop (mkF m 26 #[.val (.ref a1), .val (.long q1), .second, .val (.long q2), .second, .val (.long q3), .second, .val (.long q4), .second] [])) (st28) ?_
  exact fin none X28 (by decide) (by decide) (fun _ => rfl) (show Q_rm1 Z a1 q1 q2 q3 q4 h0 n0 _ T28.heap _ from (by rw [e28]; exact ⟨rfl, N34, K35, B29, F30, F31, F32, Fw28⟩)) (fun fs hr => X28.returnOut hx hret (hb hby d1_26) hr)
theorem d4_0 : decode prog_98_method_3_code 0 = .ok (.aload_n 0, 1) := by decide +kernel
theorem d4_1 : decode prog_98_method_3_code 1 = .ok (.getfield 16, 3) := by decide +kernel
theorem d4_4 : decode prog_98_method_3_code 4 = .ok (.lload_n 1, 1) := by decide +kernel
theorem d4_5 : decode prog_98_method_3_code 5 = .ok (.lmul, 1) := by decide +kernel
theorem d4_6 : decode prog_98_method_3_code 6 = .ok (.aload_n 0, 1) := by decide +kernel
theorem d4_7 : decode prog_98_method_3_code 7 = .ok (.getfield 7, 3) := by decide +kernel
theorem d4_10 : decode prog_98_method_3_code 10 = .ok (.lrem, 1) := by decide +kernel
theorem d4_11 : decode prog_98_method_3_code 11 = .ok (.lstore_n 3, 1) := by decide +kernel
theorem d4_12 : decode prog_98_method_3_code 12 = .ok (.lload_n 3, 1) := by decide +kernel
theorem d4_13 : decode prog_98_method_3_code 13 = .ok (.aload_n 0, 1) := by decide +kernel
theorem d4_14 : decode prog_98_method_3_code 14 = .ok (.getfield 7, 3) := by decide +kernel
theorem d4_17 : decode prog_98_method_3_code 17 = .ok (.aload_n 0, 1) := by decide +kernel
theorem d4_18 : decode prog_98_method_3_code 18 = .ok (.getfield 19, 3) := by decide +kernel
theorem d4_21 : decode prog_98_method_3_code 21 = .ok (.lsub, 1) := by decide +kernel
theorem d4_22 : decode prog_98_method_3_code 22 = .ok (.lcmp, 1) := by decide +kernel
theorem d4_23 : decode prog_98_method_3_code 23 = .ok (.ifCond .ge 12, 3) := by decide +kernel
theorem d4_26 : decode prog_98_method_3_code 26 = .ok (.lload_n 3, 1) := by decide +kernel
theorem d4_27 : decode prog_98_method_3_code 27 = .ok (.aload_n 0, 1) := by decide +kernel
theorem d4_28 : decode prog_98_method_3_code 28 = .ok (.getfield 19, 3) := by decide +kernel
theorem d4_31 : decode prog_98_method_3_code 31 = .ok (.ladd, 1) := by decide +kernel
theorem d4_32 : decode prog_98_method_3_code 32 = .ok (.goto 14, 3) := by decide +kernel
theorem d4_35 : decode prog_98_method_3_code 35 = .ok (.lload_n 3, 1) := by decide +kernel
theorem d4_36 : decode prog_98_method_3_code 36 = .ok (.aload_n 0, 1) := by decide +kernel
theorem d4_37 : decode prog_98_method_3_code 37 = .ok (.getfield 7, 3) := by decide +kernel
theorem d4_40 : decode prog_98_method_3_code 40 = .ok (.aload_n 0, 1) := by decide +kernel
theorem d4_41 : decode prog_98_method_3_code 41 = .ok (.getfield 19, 3) := by decide +kernel
theorem d4_44 : decode prog_98_method_3_code 44 = .ok (.lsub, 1) := by decide +kernel
theorem d4_45 : decode prog_98_method_3_code 45 = .ok (.lsub, 1) := by decide +kernel
theorem d4_46 : decode prog_98_method_3_code 46 = .ok (.lreturn, 1) := by decide +kernel
theorem ef_rm4 (m : MethodId) (a1 : Addr) (q5 : Int64) : entryFrame m #[(.ref a1), (.long q5)] 5 = mkF m 0 #[.val (.ref a1), .val (.long q5), .second, .unset, .unset] [] := by first | (simp [entryFrame, mkF, argsToLocals, Value.category]; done) | rfl
def own_of (qi qm qs q5 : Int64) : Int64 := (if ((qm * q5) % qi) < (qi - qs) then (((qm * q5) % qi) + qs) else (((qm * q5) % qi) - (qi - qs)))
def Q_rm4 (Z : State) (a1 : Addr) (q5 : Int64) (qi : Int64) (qm : Int64) (qs : Int64) (h0 : Heap) (n0 : Nat) (v : Option Value) (h : Heap) (L : List Loc) : Prop := v = some (.long (own_of qi qm qs q5)) ∧ Fr n0 L ∧ h = h0
set_option maxRecDepth 65536 in
set_option maxHeartbeats 40000000 in
theorem rm4 (l : Launch) (Z : State) (a0 : Array Value) (hw : ∀ d ∈ tables_1, d.before a0 Z = true) (ws : List Jvm.Cond) (a1 : Addr) (q5 : Int64) (qi : Int64) (qm : Int64) (qs : Int64) (h0 : Heap) (n0 : Nat) (Z0 : n0 ≤ h0.size) (F_ids : Fld Z h0 a1 "com/example/bogus_tally/bogustally/generate/IdSpread$Laying" "ids" "J" (.long qi)) (F_multiplier : Fld Z h0 a1 "com/example/bogus_tally/bogustally/generate/IdSpread$Laying" "multiplier" "J" (.long qm)) (F_shift : Fld Z h0 a1 "com/example/bogus_tally/bogustally/generate/IdSpread$Laying" "shift" "J" (.long qs)) (hz : qi ≠ 0) :
    MetFree l (⟨"com/example/bogus_tally/bogustally/generate/IdSpread$Laying", "of", "(J)J"⟩ : MethodName) (head1 (Jvm.Cond.code (⟨"com/example/bogus_tally/bogustally/generate/IdSpread$Laying", "of", "(J)J"⟩ : MethodName) prog_98_method_3_code 5 (some .long) :: ws) ({ frames := 0, cells := 0, slots := 0, locals := 0 } : Room)) (fun a U => a = #[(.ref a1), (.long q5)] ∧ Z.Warmed39 U.vm ∧ U.heap = h0) (fun _ _ _ _ _ => True) (fun _ U o U' => ∃ v L, o = .returned v ∧ Q_rm4 Z a1 q5 qi qm qs h0 n0 v U'.heap L ∧ FrameEnd U o U' L ({ frames := 0, cells := 0, slots := 0, locals := 0 } : Room).cells ({ frames := 0, cells := 0, slots := 0, locals := 0 } : Room).slots) := by
  refine own_body (Q := Q_rm4 Z a1 q5 qi qm qs h0 n0) (plainFor_of_name pn_8) ?_
  intro p e s m below meth c s₁ K go fin X0 hx hby hml hown hnm hret hZ e0
  have hown : s.vm.findClass "com/example/bogus_tally/bogustally/generate/IdSpread$Laying" = some m.cls := hown
  have N0 := Fr.nil n0
  refine go _ (s₁.setTop (mkF m 0 #[.val (.ref a1), .val (.long q5), .second, .unset, .unset] [])) (fun t k => castTop (ef_rm4 m a1 q5) k) ?_
  refine go _ (s₁.setTop (mkF m 1 #[.val (.ref a1), .val (.long q5), .second, .unset, .unset] [(.ref a1)])) (fun t k => XS.aloadN X0.here hx rfl (hb hby d4_0) rfl rfl k) ?_
  obtain ⟨T36, X36, e36, st36⟩ := getF X0 hx hZ hown (host := "") (Or.inl (hw _ (List.mem_of_getElem? (i := 20) rfl))) Via.refl e0 F_multiplier (g := (mkF m 1 #[.val (.ref a1), .val (.long q5), .second, .unset, .unset] [(.ref a1)])) rfl rfl (hb hby d4_1)
  refine go _ (T36.setTop (mkF m 4 #[.val (.ref a1), .val (.long q5), .second, .unset, .unset] [(.long qm)])) (st36) ?_
  refine go _ (T36.setTop (mkF m 5 #[.val (.ref a1), .val (.long q5), .second, .unset, .unset] [(.long q5), (.long qm)])) (fun t k => XS.lloadN X36.here hx rfl (hb hby d4_4) rfl k) ?_
  refine go _ (T36.setTop (mkF m 6 #[.val (.ref a1), .val (.long q5), .second, .unset, .unset] [(.long (qm * q5))])) (fun t k => XS.lmul X36.here hx rfl (hb hby d4_5) rfl k) ?_
  refine go _ (T36.setTop (mkF m 7 #[.val (.ref a1), .val (.long q5), .second, .unset, .unset] [(.ref a1), (.long (qm * q5))])) (fun t k => XS.aloadN X36.here hx rfl (hb hby d4_6) rfl rfl k) ?_
  obtain ⟨T37, X37, e37, st37⟩ := getF X36 hx hZ hown (host := "") (Or.inl (hw _ (List.mem_of_getElem? (i := 16) rfl))) Via.refl e36 F_ids (g := (mkF m 7 #[.val (.ref a1), .val (.long q5), .second, .unset, .unset] [(.ref a1), (.long (qm * q5))])) rfl rfl (hb hby d4_7)
  refine go _ (T37.setTop (mkF m 10 #[.val (.ref a1), .val (.long q5), .second, .unset, .unset] [(.long qi), (.long (qm * q5))])) (st37) ?_
  refine go _ (T37.setTop (mkF m 11 #[.val (.ref a1), .val (.long q5), .second, .unset, .unset] [(.long ((qm * q5) % qi))])) (fun t k => own_lrem X37 hx rfl (hb hby d4_10) rfl hz k) ?_
  refine go _ (T37.setTop (mkF m 12 #[.val (.ref a1), .val (.long q5), .second, .val (.long ((qm * q5) % qi)), .second] [])) (fun t k => XS.lstoreN X37.here hx rfl (hb hby d4_11) rfl (l' := #[.val (.ref a1), .val (.long q5), .second, .val (.long ((qm * q5) % qi)), .second]) rfl k) ?_
  refine go _ (T37.setTop (mkF m 13 #[.val (.ref a1), .val (.long q5), .second, .val (.long ((qm * q5) % qi)), .second] [(.long ((qm * q5) % qi))])) (fun t k => XS.lloadN X37.here hx rfl (hb hby d4_12) rfl k) ?_
  refine go _ (T37.setTop (mkF m 14 #[.val (.ref a1), .val (.long q5), .second, .val (.long ((qm * q5) % qi)), .second] [(.ref a1), (.long ((qm * q5) % qi))])) (fun t k => XS.aloadN X37.here hx rfl (hb hby d4_13) rfl rfl k) ?_
  obtain ⟨T38, X38, e38, st38⟩ := getF X37 hx hZ hown (host := "") (Or.inl (hw _ (List.mem_of_getElem? (i := 16) rfl))) Via.refl e37 F_ids (g := (mkF m 14 #[.val (.ref a1), .val (.long q5), .second, .val (.long ((qm * q5) % qi)), .second] [(.ref a1), (.long ((qm * q5) % qi))])) rfl rfl (hb hby d4_14)
  refine go _ (T38.setTop (mkF m 17 #[.val (.ref a1), .val (.long q5), .second, .val (.long ((qm * q5) % qi)), .second] [(.long qi), (.long ((qm * q5) % qi))])) (st38) ?_
  refine go _ (T38.setTop (mkF m 18 #[.val (.ref a1), .val (.long q5), .second, .val (.long ((qm * q5) % qi)), .second] [(.ref a1), (.long qi), (.long ((qm * q5) % qi))])) (fun t k => XS.aloadN X38.here hx rfl (hb hby d4_17) rfl rfl k) ?_
  obtain ⟨T39, X39, e39, st39⟩ := getF X38 hx hZ hown (host := "") (Or.inl (hw _ (List.mem_of_getElem? (i := 22) rfl))) Via.refl e38 F_shift (g := (mkF m 18 #[.val (.ref a1), .val (.long q5), .second, .val (.long ((qm * q5) % qi)), .second] [(.ref a1), (.long qi), (.long ((qm * q5) % qi))])) rfl rfl (hb hby d4_18)
  refine go _ (T39.setTop (mkF m 21 #[.val (.ref a1), .val (.long q5), .second, .val (.long ((qm * q5) % qi)), .second] [(.long qs), (.long qi), (.long ((qm * q5) % qi))])) (st39) ?_
  refine go _ (T39.setTop (mkF m 22 #[.val (.ref a1), .val (.long q5), .second, .val (.long ((qm * q5) % qi)), .second] [(.long (qi - qs)), (.long ((qm * q5) % qi))])) (fun t k => XS.lsub X39.here hx rfl (hb hby d4_21) rfl k) ?_
  refine go _ (T39.setTop (mkF m 23 #[.val (.ref a1), .val (.long q5), .second, .val (.long ((qm * q5) % qi)), .second] [(.int (lcmpW ((qm * q5) % qi) (qi - qs)))])) (fun t k => XS.lcmp X39.here hx rfl (hb hby d4_22) rfl k) ?_
  by_cases hc40 : ((qm * q5) % qi) < (qi - qs)
  · refine go _ (T39.setTop (mkF m 26 #[.val (.ref a1), .val (.long q5), .second, .val (.long ((qm * q5) % qi)), .second] [])) (fun t k => XS.ifNo X39.here hx rfl (hb hby d4_23) rfl ((if0 _ _).trans (tlt ((lw_lt ((qm * q5) % qi) (qi - qs)).mpr hc40)).2.1) k) ?_
    refine go _ (T39.setTop (mkF m 27 #[.val (.ref a1), .val (.long q5), .second, .val (.long ((qm * q5) % qi)), .second] [(.long ((qm * q5) % qi))])) (fun t k => XS.lloadN X39.here hx rfl (hb hby d4_26) rfl k) ?_
    refine go _ (T39.setTop (mkF m 28 #[.val (.ref a1), .val (.long q5), .second, .val (.long ((qm * q5) % qi)), .second] [(.ref a1), (.long ((qm * q5) % qi))])) (fun t k => XS.aloadN X39.here hx rfl (hb hby d4_27) rfl rfl k) ?_
    obtain ⟨T41, X41, e41, st41⟩ := getF X39 hx hZ hown (host := "") (Or.inl (hw _ (List.mem_of_getElem? (i := 22) rfl))) Via.refl e39 F_shift (g := (mkF m 28 #[.val (.ref a1), .val (.long q5), .second, .val (.long ((qm * q5) % qi)), .second] [(.ref a1), (.long ((qm * q5) % qi))])) rfl rfl (hb hby d4_28)
    refine go _ (T41.setTop (mkF m 31 #[.val (.ref a1), .val (.long q5), .second, .val (.long ((qm * q5) % qi)), .second] [(.long qs), (.long ((qm * q5) % qi))])) (st41) ?_
    refine go _ (T41.setTop (mkF m 32 #[.val (.ref a1), .val (.long q5), .second, .val (.long ((qm * q5) % qi)), .second] [(.long (((qm * q5) % qi) + qs))])) (fun t k => XS.ladd X41.here hx rfl (hb hby d4_31) rfl k) ?_
    refine go _ (T41.setTop (mkF m 46 #[.val (.ref a1), .val (.long q5), .second, .val (.long ((qm * q5) % qi)), .second] [(.long (((qm * q5) % qi) + qs))])) (fun t k => XS.goto X41.here hx rfl (pc0 := 32) (pc' := 46) rfl (hb hby d4_32) (by decide) (by decide) k) ?_
    exact fin (some (.long (((qm * q5) % qi) + qs))) X41 (by decide) (by decide) (fun q => by cases q) (show Q_rm4 Z a1 q5 qi qm qs h0 n0 _ T41.heap _ from (by rw [e41]; exact ⟨congrArg some (congrArg Value.long (show (((qm * q5) % qi) + qs) = (own_of qi qm qs q5) from (show (own_of qi qm qs q5) = (((qm * q5) % qi) + qs) from (by unfold own_of; rw [if_pos hc40])).symm)), N0, rfl⟩)) (fun fs hr => retJ X41 hx hret (hb hby d4_46) hr)
  · refine go _ (T39.setTop (mkF m 35 #[.val (.ref a1), .val (.long q5), .second, .val (.long ((qm * q5) % qi)), .second] [])) (fun t k => XS.ifYes X39.here hx rfl (pc0 := 23) (pc' := 35) rfl (hb hby d4_23) rfl ((if0 _ _).trans (flt (fun q => hc40 ((lw_lt ((qm * q5) % qi) (qi - qs)).mp q))).2.1) (by decide) (by decide) k) ?_
    refine go _ (T39.setTop (mkF m 36 #[.val (.ref a1), .val (.long q5), .second, .val (.long ((qm * q5) % qi)), .second] [(.long ((qm * q5) % qi))])) (fun t k => XS.lloadN X39.here hx rfl (hb hby d4_35) rfl k) ?_
    refine go _ (T39.setTop (mkF m 37 #[.val (.ref a1), .val (.long q5), .second, .val (.long ((qm * q5) % qi)), .second] [(.ref a1), (.long ((qm * q5) % qi))])) (fun t k => XS.aloadN X39.here hx rfl (hb hby d4_36) rfl rfl k) ?_
    obtain ⟨T42, X42, e42, st42⟩ := getF X39 hx hZ hown (host := "") (Or.inl (hw _ (List.mem_of_getElem? (i := 16) rfl))) Via.refl e39 F_ids (g := (mkF m 37 #[.val (.ref a1), .val (.long q5), .second, .val (.long ((qm * q5) % qi)), .second] [(.ref a1), (.long ((qm * q5) % qi))])) rfl rfl (hb hby d4_37)
    refine go _ (T42.setTop (mkF m 40 #[.val (.ref a1), .val (.long q5), .second, .val (.long ((qm * q5) % qi)), .second] [(.long qi), (.long ((qm * q5) % qi))])) (st42) ?_
    refine go _ (T42.setTop (mkF m 41 #[.val (.ref a1), .val (.long q5), .second, .val (.long ((qm * q5) % qi)), .second] [(.ref a1), (.long qi), (.long ((qm * q5) % qi))])) (fun t k => XS.aloadN X42.here hx rfl (hb hby d4_40) rfl rfl k) ?_
    obtain ⟨T43, X43, e43, st43⟩ := getF X42 hx hZ hown (host := "") (Or.inl (hw _ (List.mem_of_getElem? (i := 22) rfl))) Via.refl e42 F_shift (g := (mkF m 41 #[.val (.ref a1), .val (.long q5), .second, .val (.long ((qm * q5) % qi)), .second] [(.ref a1), (.long qi), (.long ((qm * q5) % qi))])) rfl rfl (hb hby d4_41)
    refine go _ (T43.setTop (mkF m 44 #[.val (.ref a1), .val (.long q5), .second, .val (.long ((qm * q5) % qi)), .second] [(.long qs), (.long qi), (.long ((qm * q5) % qi))])) (st43) ?_
    refine go _ (T43.setTop (mkF m 45 #[.val (.ref a1), .val (.long q5), .second, .val (.long ((qm * q5) % qi)), .second] [(.long (qi - qs)), (.long ((qm * q5) % qi))])) (fun t k => XS.lsub X43.here hx rfl (hb hby d4_44) rfl k) ?_
    refine go _ (T43.setTop (mkF m 46 #[.val (.ref a1), .val (.long q5), .second, .val (.long ((qm * q5) % qi)), .second] [(.long (((qm * q5) % qi) - (qi - qs)))])) (fun t k => XS.lsub X43.here hx rfl (hb hby d4_45) rfl k) ?_
    exact fin (some (.long (((qm * q5) % qi) - (qi - qs)))) X43 (by decide) (by decide) (fun q => by cases q) (show Q_rm4 Z a1 q5 qi qm qs h0 n0 _ T43.heap _ from (by rw [e43]; exact ⟨congrArg some (congrArg Value.long (show (((qm * q5) % qi) - (qi - qs)) = (own_of qi qm qs q5) from (show (own_of qi qm qs q5) = (((qm * q5) % qi) - (qi - qs)) from (by unfold own_of; rw [if_neg hc40])).symm)), N0, rfl⟩)) (fun fs hr => retJ X43 hx hret (hb hby d4_46) hr)
theorem d5_0 : decode jdk_29_method_66_code 0 = .ok (.lload_n 0, 1) := by decide +kernel
theorem d5_1 : decode jdk_29_method_66_code 1 = .ok (.lload_n 2, 1) := by decide +kernel
theorem d5_2 : decode jdk_29_method_66_code 2 = .ok (.lcmp, 1) := by decide +kernel
theorem d5_3 : decode jdk_29_method_66_code 3 = .ok (.ifCond .lt 7, 3) := by decide +kernel
theorem d5_6 : decode jdk_29_method_66_code 6 = .ok (.lload_n 0, 1) := by decide +kernel
theorem d5_7 : decode jdk_29_method_66_code 7 = .ok (.goto 4, 3) := by decide +kernel
theorem d5_10 : decode jdk_29_method_66_code 10 = .ok (.lload_n 2, 1) := by decide +kernel
theorem d5_11 : decode jdk_29_method_66_code 11 = .ok (.lreturn, 1) := by decide +kernel
theorem ef_rm5 (m : MethodId) (q1 : Int64) (q2 : Int64) : entryFrame m #[(.long q1), (.long q2)] 4 = mkF m 0 #[.val (.long q1), .second, .val (.long q2), .second] [] := by first | (simp [entryFrame, mkF, argsToLocals, Value.category]; done) | rfl
def f_rm5 (q1 : Int64) (q2 : Int64) : Int64 := (if q1 < q2 then q2 else q1)
def Q_rm5 (Z : State) (q1 : Int64) (q2 : Int64) (h0 : Heap) (n0 : Nat) (v : Option Value) (h : Heap) (L : List Loc) : Prop := v = some (.long (f_rm5 q1 q2)) ∧ Fr n0 L ∧ h = h0
set_option maxRecDepth 65536 in
set_option maxHeartbeats 40000000 in
theorem rm5 (l : Launch) (Z : State) (a0 : Array Value) (hw : ∀ d ∈ tables_1, d.before a0 Z = true) (ws : List Jvm.Cond) (q1 : Int64) (q2 : Int64) (h0 : Heap) (n0 : Nat) (Z0 : n0 ≤ h0.size)  :
    MetFree l (⟨"java/lang/Math", "max", "(JJ)J"⟩ : MethodName) (head1 (Jvm.Cond.code (⟨"java/lang/Math", "max", "(JJ)J"⟩ : MethodName) jdk_29_method_66_code 4 (some .long) :: ws) ({ frames := 0, cells := 0, slots := 0, locals := 0 } : Room)) (fun a U => a = #[(.long q1), (.long q2)] ∧ Z.Warmed39 U.vm ∧ U.heap = h0) (fun _ _ _ _ _ => True) (fun _ U o U' => ∃ v L, o = .returned v ∧ Q_rm5 Z q1 q2 h0 n0 v U'.heap L ∧ FrameEnd U o U' L ({ frames := 0, cells := 0, slots := 0, locals := 0 } : Room).cells ({ frames := 0, cells := 0, slots := 0, locals := 0 } : Room).slots) := by
  refine own_body (Q := Q_rm5 Z q1 q2 h0 n0) (Jvm.Free.JP.mathPlain rfl (by decide +kernel)) ?_
  intro p e s m below meth c s₁ K go fin X0 hx hby hml hown hnm hret hZ e0
  have hown : s.vm.findClass "java/lang/Math" = some m.cls := hown
  have N0 := Fr.nil n0
  refine go _ (s₁.setTop (mkF m 0 #[.val (.long q1), .second, .val (.long q2), .second] [])) (fun t k => castTop (ef_rm5 m q1 q2) k) ?_
  refine go _ (s₁.setTop (mkF m 1 #[.val (.long q1), .second, .val (.long q2), .second] [(.long q1)])) (fun t k => XS.lloadN X0.here hx rfl (hb hby d5_0) rfl k) ?_
  refine go _ (s₁.setTop (mkF m 2 #[.val (.long q1), .second, .val (.long q2), .second] [(.long q2), (.long q1)])) (fun t k => XS.lloadN X0.here hx rfl (hb hby d5_1) rfl k) ?_
  refine go _ (s₁.setTop (mkF m 3 #[.val (.long q1), .second, .val (.long q2), .second] [(.int (lcmpW q1 q2))])) (fun t k => XS.lcmp X0.here hx rfl (hb hby d5_2) rfl k) ?_
  by_cases hc44 : q1 < q2
  · refine go _ (s₁.setTop (mkF m 10 #[.val (.long q1), .second, .val (.long q2), .second] [])) (fun t k => XS.ifYes X0.here hx rfl (pc0 := 3) (pc' := 10) rfl (hb hby d5_3) rfl ((if0 _ _).trans (tlt ((lw_lt q1 q2).mpr hc44)).1) (by decide) (by decide) k) ?_
    refine go _ (s₁.setTop (mkF m 11 #[.val (.long q1), .second, .val (.long q2), .second] [(.long q2)])) (fun t k => XS.lloadN X0.here hx rfl (hb hby d5_10) rfl k) ?_
    exact fin (some (.long q2)) X0 (by decide) (by decide) (fun q => by cases q) (show Q_rm5 Z q1 q2 h0 n0 _ s₁.heap _ from (by rw [e0]; exact ⟨congrArg some (congrArg Value.long (show (f_rm5 q1 q2) = q2 from (by unfold f_rm5; rw [if_pos hc44])).symm), N0, rfl⟩)) (fun fs hr => retJ X0 hx hret (hb hby d5_11) hr)
  · refine go _ (s₁.setTop (mkF m 6 #[.val (.long q1), .second, .val (.long q2), .second] [])) (fun t k => XS.ifNo X0.here hx rfl (hb hby d5_3) rfl ((if0 _ _).trans (flt (fun q => hc44 ((lw_lt q1 q2).mp q))).1) k) ?_
    refine go _ (s₁.setTop (mkF m 7 #[.val (.long q1), .second, .val (.long q2), .second] [(.long q1)])) (fun t k => XS.lloadN X0.here hx rfl (hb hby d5_6) rfl k) ?_
    refine go _ (s₁.setTop (mkF m 11 #[.val (.long q1), .second, .val (.long q2), .second] [(.long q1)])) (fun t k => XS.goto X0.here hx rfl (pc0 := 7) (pc' := 11) rfl (hb hby d5_7) (by decide) (by decide) k) ?_
    exact fin (some (.long q1)) X0 (by decide) (by decide) (fun q => by cases q) (show Q_rm5 Z q1 q2 h0 n0 _ s₁.heap _ from (by rw [e0]; exact ⟨congrArg some (congrArg Value.long (show (f_rm5 q1 q2) = q1 from (by unfold f_rm5; rw [if_neg hc44])).symm), N0, rfl⟩)) (fun fs hr => retJ X0 hx hret (hb hby d5_11) hr)
def own_sh (q2 ids : Int64) : Int64 := ((q2 &&& (9223372036854775807 : Int64)) % ids)
def own_val (q3 ids : Int64) : Int64 := ((q3 &&& (9223372036854775807 : Int64)) % ids)
theorem own_lmod (x y : Int64) (hx : 0 ≤ x.toInt) : (x % y).toInt = x.toInt % y.toInt := by
  rw [Int64.toInt_mod]; exact Int.tmod_eq_emod_of_nonneg hx
theorem own_mx (q : Int64) : 0 ≤ (q &&& (9223372036854775807 : Int64)).toInt := by
  have m := c_maskL q 9223372036854775807 63 (by decide) (by decide +kernel)
  omega
theorem own_idz {ids : Int64} (h : 0 < ids.toInt) : ids ≠ 0 := fun q => by
  rw [q] at h; exact absurd h (by decide)
theorem own_rem (q ids : Int64) (h : 0 < ids.toInt) : 0 ≤ ((q &&& (9223372036854775807 : Int64)) % ids).toInt ∧ ((q &&& (9223372036854775807 : Int64)) % ids).toInt < ids.toInt := by
  rw [own_lmod _ _ (own_mx q)]
  exact ⟨Int.emod_nonneg _ (by omega), Int.emod_lt_of_pos _ h⟩
theorem own_shr (q2 : Int64) {ids : Int64} (h : 0 < ids.toInt) : 0 ≤ (own_sh q2 ids).toInt ∧ (own_sh q2 ids).toInt < ids.toInt := own_rem q2 ids h
theorem own_valr (q3 : Int64) {ids : Int64} (h : 0 < ids.toInt) : 0 ≤ (own_val q3 ids).toInt ∧ (own_val q3 ids).toInt < ids.toInt := own_rem q3 ids h
theorem own_idsA (q1 : Int64) : 0 < ((q1 &&& (15 : Int64)) + (1 : Int64)).toInt := by
  have m := c_maskL q1 15 4 (by decide) (by decide +kernel)
  have a := c_ladd (q1 &&& 15) 1
  have r := rng64 ((q1 &&& 15) + 1)
  have e1 : (1 : Int64).toInt = 1 := by decide
  omega
theorem own_idsB (q1 : Int64) : 0 < (f_rm5 (1 : Int64) (q1 &&& (9223372036854775807 : Int64))).toInt := by
  have e1 : (1 : Int64).toInt = 1 := by decide
  unfold f_rm5
  split
  · rename_i h
    rw [Int64.lt_iff_toInt_lt] at h
    omega
  · omega
theorem own_cap (q3 : Int64) {ids : Int64} (hv : 0 ≤ (own_val q3 ids).toInt ∧ (own_val q3 ids).toInt < ids.toInt) (h : ¬ (own_val q3 ids = (0 : Int64))) : 0 < (own_val q3 ids).toInt ∧ ((9223372036854775807 : Int64) / own_val q3 ids).toInt = 9223372036854775807 / (own_val q3 ids).toInt := by
  have e0 : (0 : Int64).toInt = 0 := by decide
  rw [← Int64.toInt_inj, e0] at h
  refine ⟨by omega, ?_⟩
  have e : (9223372036854775807 : Int64).toInt = 9223372036854775807 := by decide
  have q := (c_ldiv 9223372036854775807 (own_val q3 ids) _ rfl (fun z => by rw [z] at hv; exact absurd hv.1 (by decide))).1 (by decide)
  rw [q, e]
theorem own_div1 (v : Int) (h : 0 < v) (h2 : v < 9223372036854775808) : 1 ≤ 9223372036854775807 / v := Int.le_ediv_of_mul_le h (by omega)
theorem own_mulcap (a v : Int) (h : 0 < v) (ha : a ≤ 9223372036854775807 / v) : a * v ≤ 9223372036854775807 := by
  have q := Int.mul_le_mul_of_nonneg_right ha (Int.le_of_lt h)
  have r := Int.ediv_mul_le 9223372036854775807 (b := v) (by omega)
  omega
theorem own_capz (q3 : Int64) {ids : Int64} (hv : 0 ≤ (own_val q3 ids).toInt ∧ (own_val q3 ids).toInt < ids.toInt) (h : ¬ ((own_val q3 ids) = (0 : Int64))) : ((9223372036854775807 : Int64) / (own_val q3 ids)) ≠ 0 := fun q => by
  have c := own_cap q3 hv h
  have r := rng64 ids
  have d := own_div1 _ c.1 (by omega)
  rw [q] at c
  have e0 : (0 : Int64).toInt = 0 := by decide
  omega
theorem own_czg_0 (q3 q4 : Int64) {ids : Int64} (hv : 0 ≤ (own_val q3 ids).toInt ∧ (own_val q3 ids).toInt < ids.toInt) (h0 : (own_val q3 ids) = (0 : Int64)) (h1 : (9223372036854775807 : Int64) < (q4 &&& (9223372036854775807 : Int64))) : 0 ≤ ((q4 &&& (9223372036854775807 : Int64)) % (9223372036854775807 : Int64)).toInt := by
  rw [own_lmod _ _ (own_mx q4)]
  exact Int.emod_nonneg _ (by decide)
theorem own_z1 (q3 a : Int64) {ids : Int64} (h0 : (own_val q3 ids) = (0 : Int64)) : a.toInt * (own_val q3 ids).toInt ≤ 9223372036854775807 := by
  rw [h0, show (0 : Int64).toInt = 0 from by decide, Int.mul_zero]; decide
theorem own_czg_1 (q3 q4 : Int64) {ids : Int64} (hv : 0 ≤ (own_val q3 ids).toInt ∧ (own_val q3 ids).toInt < ids.toInt) (h0 : (own_val q3 ids) = (0 : Int64)) (h1 : (9223372036854775807 : Int64) < (q4 &&& (9223372036854775807 : Int64))) : ((q4 &&& (9223372036854775807 : Int64)) % (9223372036854775807 : Int64)).toInt * (own_val q3 ids).toInt ≤ 9223372036854775807 := own_z1 q3 _ h0
theorem own_czl_0 (q3 q4 : Int64) {ids : Int64} (hv : 0 ≤ (own_val q3 ids).toInt ∧ (own_val q3 ids).toInt < ids.toInt) (h0 : (own_val q3 ids) = (0 : Int64)) (h1 : ¬ ((9223372036854775807 : Int64) < (q4 &&& (9223372036854775807 : Int64)))) : 0 ≤ (q4 &&& (9223372036854775807 : Int64)).toInt := own_mx q4
theorem own_czl_1 (q3 q4 : Int64) {ids : Int64} (hv : 0 ≤ (own_val q3 ids).toInt ∧ (own_val q3 ids).toInt < ids.toInt) (h0 : (own_val q3 ids) = (0 : Int64)) (h1 : ¬ ((9223372036854775807 : Int64) < (q4 &&& (9223372036854775807 : Int64)))) : (q4 &&& (9223372036854775807 : Int64)).toInt * (own_val q3 ids).toInt ≤ 9223372036854775807 := own_z1 q3 _ h0
theorem own_cng_0 (q3 q4 : Int64) {ids : Int64} (hv : 0 ≤ (own_val q3 ids).toInt ∧ (own_val q3 ids).toInt < ids.toInt) (h0 : ¬ ((own_val q3 ids) = (0 : Int64))) (h1 : ((9223372036854775807 : Int64) / (own_val q3 ids)) < (q4 &&& (9223372036854775807 : Int64))) : 0 ≤ ((q4 &&& (9223372036854775807 : Int64)) % ((9223372036854775807 : Int64) / (own_val q3 ids))).toInt := by
  have c := own_cap q3 hv h0
  have r := rng64 ids
  have d := own_div1 _ c.1 (by omega)
  rw [own_lmod _ _ (own_mx q4)]
  exact Int.emod_nonneg _ (by omega)
theorem own_cng_1 (q3 q4 : Int64) {ids : Int64} (hv : 0 ≤ (own_val q3 ids).toInt ∧ (own_val q3 ids).toInt < ids.toInt) (h0 : ¬ ((own_val q3 ids) = (0 : Int64))) (h1 : ((9223372036854775807 : Int64) / (own_val q3 ids)) < (q4 &&& (9223372036854775807 : Int64))) : ((q4 &&& (9223372036854775807 : Int64)) % ((9223372036854775807 : Int64) / (own_val q3 ids))).toInt * (own_val q3 ids).toInt ≤ 9223372036854775807 := by
  have c := own_cap q3 hv h0
  have r := rng64 ids
  have d := own_div1 _ c.1 (by omega)
  apply own_mulcap _ _ c.1
  rw [own_lmod _ _ (own_mx q4), ← c.2]
  exact Int.le_of_lt (Int.emod_lt_of_pos _ (by omega))
theorem own_cnl_0 (q3 q4 : Int64) {ids : Int64} (hv : 0 ≤ (own_val q3 ids).toInt ∧ (own_val q3 ids).toInt < ids.toInt) (h0 : ¬ ((own_val q3 ids) = (0 : Int64))) (h1 : ¬ (((9223372036854775807 : Int64) / (own_val q3 ids)) < (q4 &&& (9223372036854775807 : Int64)))) : 0 ≤ (q4 &&& (9223372036854775807 : Int64)).toInt := own_mx q4
theorem own_cnl_1 (q3 q4 : Int64) {ids : Int64} (hv : 0 ≤ (own_val q3 ids).toInt ∧ (own_val q3 ids).toInt < ids.toInt) (h0 : ¬ ((own_val q3 ids) = (0 : Int64))) (h1 : ¬ (((9223372036854775807 : Int64) / (own_val q3 ids)) < (q4 &&& (9223372036854775807 : Int64)))) : (q4 &&& (9223372036854775807 : Int64)).toInt * (own_val q3 ids).toInt ≤ 9223372036854775807 := by
  have c := own_cap q3 hv h0
  apply own_mulcap _ _ c.1
  rw [Int64.lt_iff_toInt_lt] at h1
  omega
theorem own_core {ids mm sh v : Int64} (hids : 0 < ids.toInt) (hsh : 0 ≤ sh.toInt ∧ sh.toInt < ids.toInt) (hv : 0 ≤ v.toInt ∧ v.toInt < ids.toInt) (hm : 0 ≤ mm.toInt) (hmv : mm.toInt * v.toInt ≤ 9223372036854775807) :
    0 ≤ ((mm * v) % ids).toInt ∧ ((mm * v) % ids).toInt < ids.toInt ∧ ((((mm * v) % ids).toInt < ids.toInt - sh.toInt ∧ (own_of ids mm sh v).toInt = ((mm * v) % ids).toInt + sh.toInt) ∨ (¬ ((mm * v) % ids).toInt < ids.toInt - sh.toInt ∧ (own_of ids mm sh v).toInt = ((mm * v) % ids).toInt - (ids.toInt - sh.toInt))) := by
  have p0 : 0 ≤ mm.toInt * v.toInt := Int.mul_nonneg hm hv.1
  have c := c_lmul mm v
  have r := rng64 (mm * v)
  have e : (mm * v).toInt = mm.toInt * v.toInt := by omega
  have e2 := own_lmod (mm * v) ids (by omega)
  have a0 : 0 ≤ ((mm * v) % ids).toInt := by rw [e2]; exact Int.emod_nonneg _ (by omega)
  have a1 : ((mm * v) % ids).toInt < ids.toInt := by rw [e2]; exact Int.emod_lt_of_pos _ hids
  refine ⟨a0, a1, ?_⟩
  unfold own_of
  generalize (mm * v) % ids = a at *
  have s := c_lsub ids sh
  have rs := rng64 (ids - sh)
  have ri := rng64 ids
  have es : (ids - sh).toInt = ids.toInt - sh.toInt := by omega
  by_cases h : a < ids - sh
  · left
    have h' := h
    rw [Int64.lt_iff_toInt_lt, es] at h'
    refine ⟨h', ?_⟩
    have t := c_ladd a sh
    have rt := rng64 (a + sh)
    rw [if_pos h]
    omega
  · right
    have h' := h
    rw [Int64.lt_iff_toInt_lt, es] at h'
    refine ⟨h', ?_⟩
    have t := c_lsub a (ids - sh)
    have rt := rng64 (a - (ids - sh))
    rw [if_neg h]
    omega
theorem own_o1 {ids mm sh v : Int64} (hids : 0 < ids.toInt) (hsh : 0 ≤ sh.toInt ∧ sh.toInt < ids.toInt) (hv : 0 ≤ v.toInt ∧ v.toInt < ids.toInt) (hm : 0 ≤ mm.toInt) (hmv : mm.toInt * v.toInt ≤ 9223372036854775807) : ¬ (own_of ids mm sh v < (0 : Int64)) := by
  have c := own_core hids hsh hv hm hmv
  have e0 : (0 : Int64).toInt = 0 := by decide
  rw [Int64.lt_iff_toInt_lt, e0]
  omega
theorem own_o2 {ids mm sh v : Int64} (hids : 0 < ids.toInt) (hsh : 0 ≤ sh.toInt ∧ sh.toInt < ids.toInt) (hv : 0 ≤ v.toInt ∧ v.toInt < ids.toInt) (hm : 0 ≤ mm.toInt) (hmv : mm.toInt * v.toInt ≤ 9223372036854775807) : own_of ids mm sh v < ids := by
  have c := own_core hids hsh hv hm hmv
  rw [Int64.lt_iff_toInt_lt]
  omega
theorem own_o3 {ids mm sh v : Int64} (hids : 0 < ids.toInt) (hsh : 0 ≤ sh.toInt ∧ sh.toInt < ids.toInt) (hv : 0 ≤ v.toInt ∧ v.toInt < ids.toInt) (hm : 0 ≤ mm.toInt) (hmv : mm.toInt * v.toInt ≤ 9223372036854775807)
    (hd : ¬ ((((mm * v) % ids) - (own_of ids mm sh v)) = (-sh))) : (((mm * v) % ids) - (own_of ids mm sh v)) = (ids - sh) := by
  have c := own_core hids hsh hv hm hmv
  have d := c_lsub ((mm * v) % ids) (own_of ids mm sh v)
  have n := c_lneg sh
  have s := c_lsub ids sh
  have r1 := rng64 (((mm * v) % ids) - (own_of ids mm sh v))
  have r2 := rng64 (-sh)
  have r3 := rng64 (ids - sh)
  have r4 := rng64 ids
  rw [← Int64.toInt_inj] at hd ⊢
  generalize (((mm * v) % ids) - (own_of ids mm sh v)).toInt = D at *
  generalize (own_of ids mm sh v).toInt = F at *
  generalize ((mm * v) % ids).toInt = a at *
  generalize (-sh).toInt = N at *
  generalize (ids - sh).toInt = S at *
  omega
theorem pn_13 : plainName "com/example/bogus_tally/bogustally/generate/IdSpreadOfPinLaw" = true := by first | (simp [plainName, overriddenIn]; done) | decide +kernel
theorem ef_rm0 (m : MethodId) (q1 : Int64) (q2 : Int64) (q3 : Int64) (q4 : Int64) (p1 : Int32) : entryFrame m #[(.long q1), (.long q2), (.long q3), (.long q4), (.int p1)] maxLocals = mkF m 0 #[.val (.long q1), .second, .val (.long q2), .second, .val (.long q3), .second, .val (.long q4), .second, .val (.int p1), .unset, .unset, .unset, .unset, .unset, .unset, .unset, .unset, .unset, .unset, .unset, .unset, .unset, .unset, .unset] [] := by first | (simp [entryFrame, mkF, argsToLocals, Value.category, maxLocals]; done) | rfl
def Q_rm0 (Z : State) (q1 : Int64) (q2 : Int64) (q3 : Int64) (q4 : Int64) (p1 : Int32) (h0 : Heap) (n0 : Nat) (v : Option Value) (h : Heap) (L : List Loc) : Prop := v = some (.int (1 : Int32)) ∧ Fr n0 L
set_option maxRecDepth 65536 in
set_option maxHeartbeats 40000000 in
theorem rm0 (l : Launch) (Z : State) (a0 : Array Value) (hw : ∀ d ∈ tables_1, d.before a0 Z = true) (ws : List Jvm.Cond) (q1 : Int64) (q2 : Int64) (q3 : Int64) (q4 : Int64) (p1 : Int32) (h0 : Heap) (n0 : Nat) (Z0 : n0 ≤ h0.size)  :
    MetFree l x (head1 (Jvm.Cond.code x code maxLocals ret :: ws) room_1) (fun a U => a = #[(.long q1), (.long q2), (.long q3), (.long q4), (.int p1)] ∧ Z.Warmed39 U.vm ∧ U.heap = h0) (fun _ _ _ _ _ => True) (fun _ U o U' => ∃ v L, o = .returned v ∧ Q_rm0 Z q1 q2 q3 q4 p1 h0 n0 v U'.heap L ∧ FrameEnd U o U' L room_1.cells room_1.slots) := by
  refine own_body (Q := Q_rm0 Z q1 q2 q3 q4 p1 h0 n0) (plainFor_of_name pn_13) ?_
  intro p e s m below meth c s₁ K go fin X0 hx hby hml hown hnm hret hZ e0
  have hown : s.vm.findClass "com/example/bogus_tally/bogustally/generate/IdSpreadOfPinLaw" = some m.cls := hown
  have N0 := Fr.nil n0
  refine go _ (s₁.setTop (mkF m 0 #[.val (.long q1), .second, .val (.long q2), .second, .val (.long q3), .second, .val (.long q4), .second, .val (.int p1), .unset, .unset, .unset, .unset, .unset, .unset, .unset, .unset, .unset, .unset, .unset, .unset, .unset, .unset, .unset] [])) (fun t k => castTop (ef_rm0 m q1 q2 q3 q4 p1) k) ?_
  have tail : ∀ (ids : Int64) (T : State) (locs : List Loc), 0 < ids.toInt → Stand p l e room_1 s m #[(.long q1), (.long q2), (.long q3), (.long q4), (.int p1)] below meth c T locs (0) (0) → T.heap = h0 → Fr n0 locs → K (T.setTop (mkF m 26 #[.val (.long q1), .second, .val (.long q2), .second, .val (.long q3), .second, .val (.long q4), .second, .val (.int p1), .unset, .unset, .unset, .unset, .unset, .unset, .unset, .unset, .unset, .unset, .unset, .unset, .unset, .unset, .unset] [(.long ids)])) := by
    intro ids T locs hids X eh Nf
    have hz := own_idz hids
    have hsh := own_shr q2 hids
    have hval := own_valr q3 hids
    refine go _ (T.setTop (mkF m 28 #[.val (.long q1), .second, .val (.long q2), .second, .val (.long q3), .second, .val (.long q4), .second, .val (.int p1), .val (.long ids), .second, .unset, .unset, .unset, .unset, .unset, .unset, .unset, .unset, .unset, .unset, .unset, .unset, .unset] [])) (fun t k => XS.lstore X.here hx rfl (hb hby at_26) rfl (l' := #[.val (.long q1), .second, .val (.long q2), .second, .val (.long q3), .second, .val (.long q4), .second, .val (.int p1), .val (.long ids), .second, .unset, .unset, .unset, .unset, .unset, .unset, .unset, .unset, .unset, .unset, .unset, .unset, .unset]) rfl k) ?_
    refine go _ (T.setTop (mkF m 29 #[.val (.long q1), .second, .val (.long q2), .second, .val (.long q3), .second, .val (.long q4), .second, .val (.int p1), .val (.long ids), .second, .unset, .unset, .unset, .unset, .unset, .unset, .unset, .unset, .unset, .unset, .unset, .unset, .unset] [(.long q2)])) (fun t k => XS.lloadN X.here hx rfl (hb hby at_28) rfl k) ?_
    refine go _ (T.setTop (mkF m 32 #[.val (.long q1), .second, .val (.long q2), .second, .val (.long q3), .second, .val (.long q4), .second, .val (.int p1), .val (.long ids), .second, .unset, .unset, .unset, .unset, .unset, .unset, .unset, .unset, .unset, .unset, .unset, .unset, .unset] [(.long (9223372036854775807 : Int64)), (.long q2)])) (X.ldc2Long hx hown (mvT hZ (hw _ (List.mem_of_getElem? (i := 1) rfl))) (g := (mkF m 29 #[.val (.long q1), .second, .val (.long q2), .second, .val (.long q3), .second, .val (.long q4), .second, .val (.int p1), .val (.long ids), .second, .unset, .unset, .unset, .unset, .unset, .unset, .unset, .unset, .unset, .unset, .unset, .unset, .unset] [(.long q2)])) rfl (hb hby at_29)) ?_
    refine go _ (T.setTop (mkF m 33 #[.val (.long q1), .second, .val (.long q2), .second, .val (.long q3), .second, .val (.long q4), .second, .val (.int p1), .val (.long ids), .second, .unset, .unset, .unset, .unset, .unset, .unset, .unset, .unset, .unset, .unset, .unset, .unset, .unset] [(.long (q2 &&& (9223372036854775807 : Int64)))])) (fun t k => XS.land X.here hx rfl (hb hby at_32) rfl k) ?_
    refine go _ (T.setTop (mkF m 35 #[.val (.long q1), .second, .val (.long q2), .second, .val (.long q3), .second, .val (.long q4), .second, .val (.int p1), .val (.long ids), .second, .unset, .unset, .unset, .unset, .unset, .unset, .unset, .unset, .unset, .unset, .unset, .unset, .unset] [(.long ids), (.long (q2 &&& (9223372036854775807 : Int64)))])) (fun t k => XS.lload X.here hx rfl (hb hby at_33) rfl k) ?_
    refine go _ (T.setTop (mkF m 36 #[.val (.long q1), .second, .val (.long q2), .second, .val (.long q3), .second, .val (.long q4), .second, .val (.int p1), .val (.long ids), .second, .unset, .unset, .unset, .unset, .unset, .unset, .unset, .unset, .unset, .unset, .unset, .unset, .unset] [(.long ((q2 &&& (9223372036854775807 : Int64)) % ids))])) (fun t k => own_lrem X hx rfl (hb hby at_35) rfl hz k) ?_
    show K (T.setTop (mkF m 36 #[.val (.long q1), .second, .val (.long q2), .second, .val (.long q3), .second, .val (.long q4), .second, .val (.int p1), .val (.long ids), .second, .unset, .unset, .unset, .unset, .unset, .unset, .unset, .unset, .unset, .unset, .unset, .unset, .unset] [(.long (own_sh q2 ids))]))
    refine go _ (T.setTop (mkF m 38 #[.val (.long q1), .second, .val (.long q2), .second, .val (.long q3), .second, .val (.long q4), .second, .val (.int p1), .val (.long ids), .second, .val (.long (own_sh q2 ids)), .second, .unset, .unset, .unset, .unset, .unset, .unset, .unset, .unset, .unset, .unset, .unset] [])) (fun t k => XS.lstore X.here hx rfl (hb hby at_36) rfl (l' := #[.val (.long q1), .second, .val (.long q2), .second, .val (.long q3), .second, .val (.long q4), .second, .val (.int p1), .val (.long ids), .second, .val (.long (own_sh q2 ids)), .second, .unset, .unset, .unset, .unset, .unset, .unset, .unset, .unset, .unset, .unset, .unset]) rfl k) ?_
    refine go _ (T.setTop (mkF m 40 #[.val (.long q1), .second, .val (.long q2), .second, .val (.long q3), .second, .val (.long q4), .second, .val (.int p1), .val (.long ids), .second, .val (.long (own_sh q2 ids)), .second, .unset, .unset, .unset, .unset, .unset, .unset, .unset, .unset, .unset, .unset, .unset] [(.long q3)])) (fun t k => XS.lload X.here hx rfl (hb hby at_38) rfl k) ?_
    refine go _ (T.setTop (mkF m 43 #[.val (.long q1), .second, .val (.long q2), .second, .val (.long q3), .second, .val (.long q4), .second, .val (.int p1), .val (.long ids), .second, .val (.long (own_sh q2 ids)), .second, .unset, .unset, .unset, .unset, .unset, .unset, .unset, .unset, .unset, .unset, .unset] [(.long (9223372036854775807 : Int64)), (.long q3)])) (X.ldc2Long hx hown (mvT hZ (hw _ (List.mem_of_getElem? (i := 1) rfl))) (g := (mkF m 40 #[.val (.long q1), .second, .val (.long q2), .second, .val (.long q3), .second, .val (.long q4), .second, .val (.int p1), .val (.long ids), .second, .val (.long (own_sh q2 ids)), .second, .unset, .unset, .unset, .unset, .unset, .unset, .unset, .unset, .unset, .unset, .unset] [(.long q3)])) rfl (hb hby at_40)) ?_
    refine go _ (T.setTop (mkF m 44 #[.val (.long q1), .second, .val (.long q2), .second, .val (.long q3), .second, .val (.long q4), .second, .val (.int p1), .val (.long ids), .second, .val (.long (own_sh q2 ids)), .second, .unset, .unset, .unset, .unset, .unset, .unset, .unset, .unset, .unset, .unset, .unset] [(.long (q3 &&& (9223372036854775807 : Int64)))])) (fun t k => XS.land X.here hx rfl (hb hby at_43) rfl k) ?_
    refine go _ (T.setTop (mkF m 46 #[.val (.long q1), .second, .val (.long q2), .second, .val (.long q3), .second, .val (.long q4), .second, .val (.int p1), .val (.long ids), .second, .val (.long (own_sh q2 ids)), .second, .unset, .unset, .unset, .unset, .unset, .unset, .unset, .unset, .unset, .unset, .unset] [(.long ids), (.long (q3 &&& (9223372036854775807 : Int64)))])) (fun t k => XS.lload X.here hx rfl (hb hby at_44) rfl k) ?_
    refine go _ (T.setTop (mkF m 47 #[.val (.long q1), .second, .val (.long q2), .second, .val (.long q3), .second, .val (.long q4), .second, .val (.int p1), .val (.long ids), .second, .val (.long (own_sh q2 ids)), .second, .unset, .unset, .unset, .unset, .unset, .unset, .unset, .unset, .unset, .unset, .unset] [(.long ((q3 &&& (9223372036854775807 : Int64)) % ids))])) (fun t k => own_lrem X hx rfl (hb hby at_46) rfl hz k) ?_
    show K (T.setTop (mkF m 47 #[.val (.long q1), .second, .val (.long q2), .second, .val (.long q3), .second, .val (.long q4), .second, .val (.int p1), .val (.long ids), .second, .val (.long (own_sh q2 ids)), .second, .unset, .unset, .unset, .unset, .unset, .unset, .unset, .unset, .unset, .unset, .unset] [(.long (own_val q3 ids))]))
    refine go _ (T.setTop (mkF m 49 #[.val (.long q1), .second, .val (.long q2), .second, .val (.long q3), .second, .val (.long q4), .second, .val (.int p1), .val (.long ids), .second, .val (.long (own_sh q2 ids)), .second, .val (.long (own_val q3 ids)), .second, .unset, .unset, .unset, .unset, .unset, .unset, .unset, .unset, .unset] [])) (fun t k => XS.lstore X.here hx rfl (hb hby at_47) rfl (l' := #[.val (.long q1), .second, .val (.long q2), .second, .val (.long q3), .second, .val (.long q4), .second, .val (.int p1), .val (.long ids), .second, .val (.long (own_sh q2 ids)), .second, .val (.long (own_val q3 ids)), .second, .unset, .unset, .unset, .unset, .unset, .unset, .unset, .unset, .unset]) rfl k) ?_
    refine go _ (T.setTop (mkF m 51 #[.val (.long q1), .second, .val (.long q2), .second, .val (.long q3), .second, .val (.long q4), .second, .val (.int p1), .val (.long ids), .second, .val (.long (own_sh q2 ids)), .second, .val (.long (own_val q3 ids)), .second, .unset, .unset, .unset, .unset, .unset, .unset, .unset, .unset, .unset] [(.long q4)])) (fun t k => XS.lload X.here hx rfl (hb hby at_49) rfl k) ?_
    refine go _ (T.setTop (mkF m 54 #[.val (.long q1), .second, .val (.long q2), .second, .val (.long q3), .second, .val (.long q4), .second, .val (.int p1), .val (.long ids), .second, .val (.long (own_sh q2 ids)), .second, .val (.long (own_val q3 ids)), .second, .unset, .unset, .unset, .unset, .unset, .unset, .unset, .unset, .unset] [(.long (9223372036854775807 : Int64)), (.long q4)])) (X.ldc2Long hx hown (mvT hZ (hw _ (List.mem_of_getElem? (i := 1) rfl))) (g := (mkF m 51 #[.val (.long q1), .second, .val (.long q2), .second, .val (.long q3), .second, .val (.long q4), .second, .val (.int p1), .val (.long ids), .second, .val (.long (own_sh q2 ids)), .second, .val (.long (own_val q3 ids)), .second, .unset, .unset, .unset, .unset, .unset, .unset, .unset, .unset, .unset] [(.long q4)])) rfl (hb hby at_51)) ?_
    refine go _ (T.setTop (mkF m 55 #[.val (.long q1), .second, .val (.long q2), .second, .val (.long q3), .second, .val (.long q4), .second, .val (.int p1), .val (.long ids), .second, .val (.long (own_sh q2 ids)), .second, .val (.long (own_val q3 ids)), .second, .unset, .unset, .unset, .unset, .unset, .unset, .unset, .unset, .unset] [(.long (q4 &&& (9223372036854775807 : Int64)))])) (fun t k => XS.land X.here hx rfl (hb hby at_54) rfl k) ?_
    refine go _ (T.setTop (mkF m 57 #[.val (.long q1), .second, .val (.long q2), .second, .val (.long q3), .second, .val (.long q4), .second, .val (.int p1), .val (.long ids), .second, .val (.long (own_sh q2 ids)), .second, .val (.long (own_val q3 ids)), .second, .val (.long (q4 &&& (9223372036854775807 : Int64))), .second, .unset, .unset, .unset, .unset, .unset, .unset, .unset] [])) (fun t k => XS.lstore X.here hx rfl (hb hby at_55) rfl (l' := #[.val (.long q1), .second, .val (.long q2), .second, .val (.long q3), .second, .val (.long q4), .second, .val (.int p1), .val (.long ids), .second, .val (.long (own_sh q2 ids)), .second, .val (.long (own_val q3 ids)), .second, .val (.long (q4 &&& (9223372036854775807 : Int64))), .second, .unset, .unset, .unset, .unset, .unset, .unset, .unset]) rfl k) ?_
    have tail2 : ∀ mm cp : Int64, 0 ≤ mm.toInt → mm.toInt * (own_val q3 ids).toInt ≤ 9223372036854775807 → K (T.setTop (mkF m 93 #[.val (.long q1), .second, .val (.long q2), .second, .val (.long q3), .second, .val (.long q4), .second, .val (.int p1), .val (.long ids), .second, .val (.long (own_sh q2 ids)), .second, .val (.long (own_val q3 ids)), .second, .val (.long mm), .second, .val (.long cp), .second, .unset, .unset, .unset, .unset, .unset] [])) := by
      intro mm cp hm hmv
      obtain ⟨T45, h45, X45, e45, E45, A45, D45, -, st45⟩ := newO X hx hZ hown (hw _ (List.mem_of_getElem? (i := 2) rfl)) (hw _ (List.mem_of_getElem? (i := 3) rfl)) (hw _ (List.mem_of_getElem? (i := 4) rfl)) eh (g := (mkF m 93 #[.val (.long q1), .second, .val (.long q2), .second, .val (.long q3), .second, .val (.long q4), .second, .val (.int p1), .val (.long ids), .second, .val (.long (own_sh q2 ids)), .second, .val (.long (own_val q3 ids)), .second, .val (.long mm), .second, .val (.long cp), .second, .unset, .unset, .unset, .unset, .unset] [])) rfl (hb hby at_93) (by decide) (by decide)
      obtain ⟨b45, g45⟩ : ∃ z, z = h0.size := ⟨_, rfl⟩
      rw [← g45] at A45 D45 st45
      have Z46 : n0 ≤ h45.size := Nat.le_trans Z0 E45.1
      have ge_b45 : n0 ≤ b45 := by rw [g45]; exact Z0
      have F_ids_b45 : Fld Z h45 b45 "com/example/bogus_tally/bogustally/generate/IdSpread$Laying" "ids" "J" (.long (0 : Int64)) := D45 (Or.inr (hw _ (List.mem_of_getElem? (i := 17) rfl))) (ty := .long) (by decide)
      have F_values_b45 : Fld Z h45 b45 "com/example/bogus_tally/bogustally/generate/IdSpread$Laying" "values" "J" (.long (0 : Int64)) := D45 (Or.inr (hw _ (List.mem_of_getElem? (i := 19) rfl))) (ty := .long) (by decide)
      have F_multiplier_b45 : Fld Z h45 b45 "com/example/bogus_tally/bogustally/generate/IdSpread$Laying" "multiplier" "J" (.long (0 : Int64)) := D45 (Or.inr (hw _ (List.mem_of_getElem? (i := 21) rfl))) (ty := .long) (by decide)
      have F_shift_b45 : Fld Z h45 b45 "com/example/bogus_tally/bogustally/generate/IdSpread$Laying" "shift" "J" (.long (0 : Int64)) := D45 (Or.inr (hw _ (List.mem_of_getElem? (i := 23) rfl))) (ty := .long) (by decide)
      refine go _ (T45.setTop (mkF m 96 #[.val (.long q1), .second, .val (.long q2), .second, .val (.long q3), .second, .val (.long q4), .second, .val (.int p1), .val (.long ids), .second, .val (.long (own_sh q2 ids)), .second, .val (.long (own_val q3 ids)), .second, .val (.long mm), .second, .val (.long cp), .second, .unset, .unset, .unset, .unset, .unset] [(.ref b45)])) (st45) ?_
      refine go _ (T45.setTop (mkF m 97 #[.val (.long q1), .second, .val (.long q2), .second, .val (.long q3), .second, .val (.long q4), .second, .val (.int p1), .val (.long ids), .second, .val (.long (own_sh q2 ids)), .second, .val (.long (own_val q3 ids)), .second, .val (.long mm), .second, .val (.long cp), .second, .unset, .unset, .unset, .unset, .unset] [(.ref b45), (.ref b45)])) (fun t k => XS.dup X45.here hx rfl (hb hby at_96) rfl rfl k) ?_
      refine go _ (T45.setTop (mkF m 99 #[.val (.long q1), .second, .val (.long q2), .second, .val (.long q3), .second, .val (.long q4), .second, .val (.int p1), .val (.long ids), .second, .val (.long (own_sh q2 ids)), .second, .val (.long (own_val q3 ids)), .second, .val (.long mm), .second, .val (.long cp), .second, .unset, .unset, .unset, .unset, .unset] [(.long ids), (.ref b45), (.ref b45)])) (fun t k => XS.lload X45.here hx rfl (hb hby at_97) rfl k) ?_
      refine go _ (T45.setTop (mkF m 101 #[.val (.long q1), .second, .val (.long q2), .second, .val (.long q3), .second, .val (.long q4), .second, .val (.int p1), .val (.long ids), .second, .val (.long (own_sh q2 ids)), .second, .val (.long (own_val q3 ids)), .second, .val (.long mm), .second, .val (.long cp), .second, .unset, .unset, .unset, .unset, .unset] [(.long ids), (.long ids), (.ref b45), (.ref b45)])) (fun t k => XS.lload X45.here hx rfl (hb hby at_99) rfl k) ?_
      refine go _ (T45.setTop (mkF m 103 #[.val (.long q1), .second, .val (.long q2), .second, .val (.long q3), .second, .val (.long q4), .second, .val (.int p1), .val (.long ids), .second, .val (.long (own_sh q2 ids)), .second, .val (.long (own_val q3 ids)), .second, .val (.long mm), .second, .val (.long cp), .second, .unset, .unset, .unset, .unset, .unset] [(.long mm), (.long ids), (.long ids), (.ref b45), (.ref b45)])) (fun t k => XS.lload X45.here hx rfl (hb hby at_101) rfl k) ?_
      refine go _ (T45.setTop (mkF m 105 #[.val (.long q1), .second, .val (.long q2), .second, .val (.long q3), .second, .val (.long q4), .second, .val (.int p1), .val (.long ids), .second, .val (.long (own_sh q2 ids)), .second, .val (.long (own_val q3 ids)), .second, .val (.long mm), .second, .val (.long cp), .second, .unset, .unset, .unset, .unset, .unset] [(.long (own_sh q2 ids)), (.long mm), (.long ids), (.long ids), (.ref b45), (.ref b45)])) (fun t k => XS.lload X45.here hx rfl (hb hby at_103) rfl k) ?_
      obtain ⟨_, _, ⟨T47, L47, k47, n47⟩, -, X47, ⟨Lc47, hQ47, l47, y47, z47⟩, st47⟩ := X45.specialBack hx (y := (⟨"com/example/bogus_tally/bogustally/generate/IdSpread$Laying", "<init>", "(JJJJ)V"⟩ : MethodName)) rfl hown (mvT hZ (hw _ (List.mem_of_getElem? (i := 5) rfl))) (mvT hZ (hw _ (List.mem_of_getElem? (i := 6) rfl))) (mvT hZ (hw _ (List.mem_of_getElem? (i := 7) rfl))) (by decide) (backOf (W := 1) (rm1 l Z a0 hw [] b45 ids ids mm (own_sh q2 ids)  h45 n0 Z46 A45 ge_b45 F_ids_b45 F_values_b45 F_multiplier_b45 F_shift_b45) hZ (hw _ (List.mem_of_getElem? (i := 7) rfl)) (hw _ (List.mem_of_getElem? (i := 4) rfl)) (by decide) (by decide)) (g := (mkF m 105 #[.val (.long q1), .second, .val (.long q2), .second, .val (.long q3), .second, .val (.long q4), .second, .val (.int p1), .val (.long ids), .second, .val (.long (own_sh q2 ids)), .second, .val (.long (own_val q3 ids)), .second, .val (.long mm), .second, .val (.long cp), .second, .unset, .unset, .unset, .unset, .unset] [(.long (own_sh q2 ids)), (.long mm), (.long ids), (.long ids), (.ref b45), (.ref b45)])) rfl (by rw [hml]; rfl) (Steps.refl _) (a := b45) (argsL := [(.long ids), (.long ids), (.long mm), (.long (own_sh q2 ids))]) (rest := [(.ref b45)]) (lenOf pd_1 rfl) rfl (by show 2 * 0 + _ ≤ _; exact Nat.le_of_eq rfl) (hb hby at_105) (fun _ _ => ⟨rfl, e45, (by decide : 0 + 1 + 0 ≤ _), (by decide : 0 + 4 + 0 ≤ _)⟩)
      dsimp only [Pt.U, Pt.locs, Pt.cells, Pt.slots] at X47 l47 y47 z47 st47 hQ47
      subst l47 y47 z47
      obtain ⟨rfl, Nq47, Kq47, Eq47, Fq0_47, Fq1_47, Fq2_47, Fq3_47⟩ := hQ47
      have N48 := Fr.app Nf Nq47
      have Z49 : n0 ≤ T47.heap.size := Nat.le_trans Z46 Kq47.1
      refine go _ (T47.setTop (mkF m 108 #[.val (.long q1), .second, .val (.long q2), .second, .val (.long q3), .second, .val (.long q4), .second, .val (.int p1), .val (.long ids), .second, .val (.long (own_sh q2 ids)), .second, .val (.long (own_val q3 ids)), .second, .val (.long mm), .second, .val (.long cp), .second, .unset, .unset, .unset, .unset, .unset] [(.ref b45)])) (fun t k => st47.trans k) ?_
      refine go _ (T47.setTop (mkF m 110 #[.val (.long q1), .second, .val (.long q2), .second, .val (.long q3), .second, .val (.long q4), .second, .val (.int p1), .val (.long ids), .second, .val (.long (own_sh q2 ids)), .second, .val (.long (own_val q3 ids)), .second, .val (.long mm), .second, .val (.long cp), .second, .val (.ref b45), .unset, .unset, .unset, .unset] [])) (fun t k => XS.astore X47.here hx rfl (hb hby at_108) rfl rfl (l' := #[.val (.long q1), .second, .val (.long q2), .second, .val (.long q3), .second, .val (.long q4), .second, .val (.int p1), .val (.long ids), .second, .val (.long (own_sh q2 ids)), .second, .val (.long (own_val q3 ids)), .second, .val (.long mm), .second, .val (.long cp), .second, .val (.ref b45), .unset, .unset, .unset, .unset]) rfl k) ?_
      refine go _ (T47.setTop (mkF m 112 #[.val (.long q1), .second, .val (.long q2), .second, .val (.long q3), .second, .val (.long q4), .second, .val (.int p1), .val (.long ids), .second, .val (.long (own_sh q2 ids)), .second, .val (.long (own_val q3 ids)), .second, .val (.long mm), .second, .val (.long cp), .second, .val (.ref b45), .unset, .unset, .unset, .unset] [(.ref b45)])) (fun t k => XS.aload X47.here hx rfl (hb hby at_110) rfl rfl k) ?_
      refine go _ (T47.setTop (mkF m 114 #[.val (.long q1), .second, .val (.long q2), .second, .val (.long q3), .second, .val (.long q4), .second, .val (.int p1), .val (.long ids), .second, .val (.long (own_sh q2 ids)), .second, .val (.long (own_val q3 ids)), .second, .val (.long mm), .second, .val (.long cp), .second, .val (.ref b45), .unset, .unset, .unset, .unset] [(.long (own_val q3 ids)), (.ref b45)])) (fun t k => XS.lload X47.here hx rfl (hb hby at_112) rfl k) ?_
      obtain ⟨cq50, kq50, q50a, q50b, q50c⟩ := isOf hZ rfl Eq47
      obtain ⟨_, _, ⟨T50, L50, k50, n50⟩, -, X50, ⟨Lc50, hQ50, l50, y50, z50⟩, st50⟩ := X47.virtualBack hx (y := (⟨"com/example/bogus_tally/bogustally/generate/IdSpread$Laying", "of", "(J)J"⟩ : MethodName)) (z := (⟨"com/example/bogus_tally/bogustally/generate/IdSpread$Laying", "of", "(J)J"⟩ : MethodName)) hown (mvT hZ (hw _ (List.mem_of_getElem? (i := 24) rfl))) (mvT hZ (hw _ (List.mem_of_getElem? (i := 25) rfl))) (notFace_of_selects (args := #[]) (mvT hZ (hw _ (List.mem_of_getElem? (i := 27) rfl)))) (mvT hZ (hw _ (List.mem_of_getElem? (i := 27) rfl))) (mvT hZ (hw _ (List.mem_of_getElem? (i := 26) rfl))) (by decide) (backOf (W := 0) (rm4 l Z a0 hw [] b45 (own_val q3 ids) ids mm (own_sh q2 ids) T47.heap n0 Z49 Fq0_47 Fq2_47 Fq3_47 hz) hZ (hw _ (List.mem_of_getElem? (i := 28) rfl)) (hw _ (List.mem_of_getElem? (i := 4) rfl)) (by decide) (by decide)) q50a q50c (g := (mkF m 114 #[.val (.long q1), .second, .val (.long q2), .second, .val (.long q3), .second, .val (.long q4), .second, .val (.int p1), .val (.long ids), .second, .val (.long (own_sh q2 ids)), .second, .val (.long (own_val q3 ids)), .second, .val (.long mm), .second, .val (.long cp), .second, .val (.ref b45), .unset, .unset, .unset, .unset] [(.long (own_val q3 ids)), (.ref b45)])) rfl (by rw [hml]; rfl) (Steps.refl _) (argsL := [(.long (own_val q3 ids))]) (rest := []) (lenOf pd_3 rfl) rfl (by show 2 * 0 + _ ≤ _; exact Nat.le_of_eq rfl) (hb hby at_114) (fun _ _ => ⟨rfl, rfl, (by decide : 0 + 1 + 0 ≤ _), (by decide : 0 + 4 + 0 ≤ _)⟩)
      dsimp only [Pt.U, Pt.locs, Pt.cells, Pt.slots] at X50 l50 y50 z50 st50 hQ50
      subst l50 y50 z50
      obtain ⟨rfl, Nq50, hh50⟩ := hQ50
      have N51 := Fr.app N48 Nq50
      refine go _ (T50.setTop (mkF m 117 #[.val (.long q1), .second, .val (.long q2), .second, .val (.long q3), .second, .val (.long q4), .second, .val (.int p1), .val (.long ids), .second, .val (.long (own_sh q2 ids)), .second, .val (.long (own_val q3 ids)), .second, .val (.long mm), .second, .val (.long cp), .second, .val (.ref b45), .unset, .unset, .unset, .unset] [(.long (own_of ids mm (own_sh q2 ids) (own_val q3 ids)))])) (fun t k => st50.trans k) ?_
      refine go _ (T50.setTop (mkF m 119 #[.val (.long q1), .second, .val (.long q2), .second, .val (.long q3), .second, .val (.long q4), .second, .val (.int p1), .val (.long ids), .second, .val (.long (own_sh q2 ids)), .second, .val (.long (own_val q3 ids)), .second, .val (.long mm), .second, .val (.long cp), .second, .val (.ref b45), .val (.long (own_of ids mm (own_sh q2 ids) (own_val q3 ids))), .second, .unset, .unset] [])) (fun t k => XS.lstore X50.here hx rfl (hb hby at_117) rfl (l' := #[.val (.long q1), .second, .val (.long q2), .second, .val (.long q3), .second, .val (.long q4), .second, .val (.int p1), .val (.long ids), .second, .val (.long (own_sh q2 ids)), .second, .val (.long (own_val q3 ids)), .second, .val (.long mm), .second, .val (.long cp), .second, .val (.ref b45), .val (.long (own_of ids mm (own_sh q2 ids) (own_val q3 ids))), .second, .unset, .unset]) rfl k) ?_
      refine go _ (T50.setTop (mkF m 121 #[.val (.long q1), .second, .val (.long q2), .second, .val (.long q3), .second, .val (.long q4), .second, .val (.int p1), .val (.long ids), .second, .val (.long (own_sh q2 ids)), .second, .val (.long (own_val q3 ids)), .second, .val (.long mm), .second, .val (.long cp), .second, .val (.ref b45), .val (.long (own_of ids mm (own_sh q2 ids) (own_val q3 ids))), .second, .unset, .unset] [(.long (own_of ids mm (own_sh q2 ids) (own_val q3 ids)))])) (fun t k => XS.lload X50.here hx rfl (hb hby at_119) rfl k) ?_
      refine go _ (T50.setTop (mkF m 122 #[.val (.long q1), .second, .val (.long q2), .second, .val (.long q3), .second, .val (.long q4), .second, .val (.int p1), .val (.long ids), .second, .val (.long (own_sh q2 ids)), .second, .val (.long (own_val q3 ids)), .second, .val (.long mm), .second, .val (.long cp), .second, .val (.ref b45), .val (.long (own_of ids mm (own_sh q2 ids) (own_val q3 ids))), .second, .unset, .unset] [(.long (0 : Int64)), (.long (own_of ids mm (own_sh q2 ids) (own_val q3 ids)))])) (fun t k => XS.lconst X50.here hx rfl (hb hby at_121) k) ?_
      refine go _ (T50.setTop (mkF m 123 #[.val (.long q1), .second, .val (.long q2), .second, .val (.long q3), .second, .val (.long q4), .second, .val (.int p1), .val (.long ids), .second, .val (.long (own_sh q2 ids)), .second, .val (.long (own_val q3 ids)), .second, .val (.long mm), .second, .val (.long cp), .second, .val (.ref b45), .val (.long (own_of ids mm (own_sh q2 ids) (own_val q3 ids))), .second, .unset, .unset] [(.int (lcmpW (own_of ids mm (own_sh q2 ids) (own_val q3 ids)) (0 : Int64)))])) (fun t k => XS.lcmp X50.here hx rfl (hb hby at_122) rfl k) ?_
      have hc52 : ¬ ((own_of ids mm (own_sh q2 ids) (own_val q3 ids)) < (0 : Int64)) := own_o1 hids hsh hval hm hmv
      refine go _ (T50.setTop (mkF m 126 #[.val (.long q1), .second, .val (.long q2), .second, .val (.long q3), .second, .val (.long q4), .second, .val (.int p1), .val (.long ids), .second, .val (.long (own_sh q2 ids)), .second, .val (.long (own_val q3 ids)), .second, .val (.long mm), .second, .val (.long cp), .second, .val (.ref b45), .val (.long (own_of ids mm (own_sh q2 ids) (own_val q3 ids))), .second, .unset, .unset] [])) (fun t k => XS.ifNo X50.here hx rfl (hb hby at_123) rfl ((if0 _ _).trans (flt (fun q => hc52 ((lw_lt (own_of ids mm (own_sh q2 ids) (own_val q3 ids)) (0 : Int64)).mp q))).1) k) ?_
      refine go _ (T50.setTop (mkF m 128 #[.val (.long q1), .second, .val (.long q2), .second, .val (.long q3), .second, .val (.long q4), .second, .val (.int p1), .val (.long ids), .second, .val (.long (own_sh q2 ids)), .second, .val (.long (own_val q3 ids)), .second, .val (.long mm), .second, .val (.long cp), .second, .val (.ref b45), .val (.long (own_of ids mm (own_sh q2 ids) (own_val q3 ids))), .second, .unset, .unset] [(.long (own_of ids mm (own_sh q2 ids) (own_val q3 ids)))])) (fun t k => XS.lload X50.here hx rfl (hb hby at_126) rfl k) ?_
      refine go _ (T50.setTop (mkF m 130 #[.val (.long q1), .second, .val (.long q2), .second, .val (.long q3), .second, .val (.long q4), .second, .val (.int p1), .val (.long ids), .second, .val (.long (own_sh q2 ids)), .second, .val (.long (own_val q3 ids)), .second, .val (.long mm), .second, .val (.long cp), .second, .val (.ref b45), .val (.long (own_of ids mm (own_sh q2 ids) (own_val q3 ids))), .second, .unset, .unset] [(.long ids), (.long (own_of ids mm (own_sh q2 ids) (own_val q3 ids)))])) (fun t k => XS.lload X50.here hx rfl (hb hby at_128) rfl k) ?_
      refine go _ (T50.setTop (mkF m 131 #[.val (.long q1), .second, .val (.long q2), .second, .val (.long q3), .second, .val (.long q4), .second, .val (.int p1), .val (.long ids), .second, .val (.long (own_sh q2 ids)), .second, .val (.long (own_val q3 ids)), .second, .val (.long mm), .second, .val (.long cp), .second, .val (.ref b45), .val (.long (own_of ids mm (own_sh q2 ids) (own_val q3 ids))), .second, .unset, .unset] [(.int (lcmpW (own_of ids mm (own_sh q2 ids) (own_val q3 ids)) ids))])) (fun t k => XS.lcmp X50.here hx rfl (hb hby at_130) rfl k) ?_
      have hc53 : ((own_of ids mm (own_sh q2 ids) (own_val q3 ids)) < ids) := own_o2 hids hsh hval hm hmv
      refine go _ (T50.setTop (mkF m 136 #[.val (.long q1), .second, .val (.long q2), .second, .val (.long q3), .second, .val (.long q4), .second, .val (.int p1), .val (.long ids), .second, .val (.long (own_sh q2 ids)), .second, .val (.long (own_val q3 ids)), .second, .val (.long mm), .second, .val (.long cp), .second, .val (.ref b45), .val (.long (own_of ids mm (own_sh q2 ids) (own_val q3 ids))), .second, .unset, .unset] [])) (fun t k => XS.ifYes X50.here hx rfl (pc0 := 131) (pc' := 136) rfl (hb hby at_131) rfl ((if0 _ _).trans (tlt ((lw_lt (own_of ids mm (own_sh q2 ids) (own_val q3 ids)) ids).mpr hc53)).1) (by decide) (by decide) k) ?_
      refine go _ (T50.setTop (mkF m 138 #[.val (.long q1), .second, .val (.long q2), .second, .val (.long q3), .second, .val (.long q4), .second, .val (.int p1), .val (.long ids), .second, .val (.long (own_sh q2 ids)), .second, .val (.long (own_val q3 ids)), .second, .val (.long mm), .second, .val (.long cp), .second, .val (.ref b45), .val (.long (own_of ids mm (own_sh q2 ids) (own_val q3 ids))), .second, .unset, .unset] [(.long mm)])) (fun t k => XS.lload X50.here hx rfl (hb hby at_136) rfl k) ?_
      refine go _ (T50.setTop (mkF m 140 #[.val (.long q1), .second, .val (.long q2), .second, .val (.long q3), .second, .val (.long q4), .second, .val (.int p1), .val (.long ids), .second, .val (.long (own_sh q2 ids)), .second, .val (.long (own_val q3 ids)), .second, .val (.long mm), .second, .val (.long cp), .second, .val (.ref b45), .val (.long (own_of ids mm (own_sh q2 ids) (own_val q3 ids))), .second, .unset, .unset] [(.long (own_val q3 ids)), (.long mm)])) (fun t k => XS.lload X50.here hx rfl (hb hby at_138) rfl k) ?_
      refine go _ (T50.setTop (mkF m 141 #[.val (.long q1), .second, .val (.long q2), .second, .val (.long q3), .second, .val (.long q4), .second, .val (.int p1), .val (.long ids), .second, .val (.long (own_sh q2 ids)), .second, .val (.long (own_val q3 ids)), .second, .val (.long mm), .second, .val (.long cp), .second, .val (.ref b45), .val (.long (own_of ids mm (own_sh q2 ids) (own_val q3 ids))), .second, .unset, .unset] [(.long (mm * (own_val q3 ids)))])) (fun t k => XS.lmul X50.here hx rfl (hb hby at_140) rfl k) ?_
      refine go _ (T50.setTop (mkF m 143 #[.val (.long q1), .second, .val (.long q2), .second, .val (.long q3), .second, .val (.long q4), .second, .val (.int p1), .val (.long ids), .second, .val (.long (own_sh q2 ids)), .second, .val (.long (own_val q3 ids)), .second, .val (.long mm), .second, .val (.long cp), .second, .val (.ref b45), .val (.long (own_of ids mm (own_sh q2 ids) (own_val q3 ids))), .second, .unset, .unset] [(.long ids), (.long (mm * (own_val q3 ids)))])) (fun t k => XS.lload X50.here hx rfl (hb hby at_141) rfl k) ?_
      refine go _ (T50.setTop (mkF m 144 #[.val (.long q1), .second, .val (.long q2), .second, .val (.long q3), .second, .val (.long q4), .second, .val (.int p1), .val (.long ids), .second, .val (.long (own_sh q2 ids)), .second, .val (.long (own_val q3 ids)), .second, .val (.long mm), .second, .val (.long cp), .second, .val (.ref b45), .val (.long (own_of ids mm (own_sh q2 ids) (own_val q3 ids))), .second, .unset, .unset] [(.long ((mm * (own_val q3 ids)) % ids))])) (fun t k => own_lrem X50 hx rfl (hb hby at_143) rfl hz k) ?_
      refine go _ (T50.setTop (mkF m 146 #[.val (.long q1), .second, .val (.long q2), .second, .val (.long q3), .second, .val (.long q4), .second, .val (.int p1), .val (.long ids), .second, .val (.long (own_sh q2 ids)), .second, .val (.long (own_val q3 ids)), .second, .val (.long mm), .second, .val (.long cp), .second, .val (.ref b45), .val (.long (own_of ids mm (own_sh q2 ids) (own_val q3 ids))), .second, .unset, .unset] [(.long (own_of ids mm (own_sh q2 ids) (own_val q3 ids))), (.long ((mm * (own_val q3 ids)) % ids))])) (fun t k => XS.lload X50.here hx rfl (hb hby at_144) rfl k) ?_
      refine go _ (T50.setTop (mkF m 147 #[.val (.long q1), .second, .val (.long q2), .second, .val (.long q3), .second, .val (.long q4), .second, .val (.int p1), .val (.long ids), .second, .val (.long (own_sh q2 ids)), .second, .val (.long (own_val q3 ids)), .second, .val (.long mm), .second, .val (.long cp), .second, .val (.ref b45), .val (.long (own_of ids mm (own_sh q2 ids) (own_val q3 ids))), .second, .unset, .unset] [(.long (((mm * (own_val q3 ids)) % ids) - (own_of ids mm (own_sh q2 ids) (own_val q3 ids))))])) (fun t k => XS.lsub X50.here hx rfl (hb hby at_146) rfl k) ?_
      refine go _ (T50.setTop (mkF m 149 #[.val (.long q1), .second, .val (.long q2), .second, .val (.long q3), .second, .val (.long q4), .second, .val (.int p1), .val (.long ids), .second, .val (.long (own_sh q2 ids)), .second, .val (.long (own_val q3 ids)), .second, .val (.long mm), .second, .val (.long cp), .second, .val (.ref b45), .val (.long (own_of ids mm (own_sh q2 ids) (own_val q3 ids))), .second, .val (.long (((mm * (own_val q3 ids)) % ids) - (own_of ids mm (own_sh q2 ids) (own_val q3 ids)))), .second] [])) (fun t k => XS.lstore X50.here hx rfl (hb hby at_147) rfl (l' := #[.val (.long q1), .second, .val (.long q2), .second, .val (.long q3), .second, .val (.long q4), .second, .val (.int p1), .val (.long ids), .second, .val (.long (own_sh q2 ids)), .second, .val (.long (own_val q3 ids)), .second, .val (.long mm), .second, .val (.long cp), .second, .val (.ref b45), .val (.long (own_of ids mm (own_sh q2 ids) (own_val q3 ids))), .second, .val (.long (((mm * (own_val q3 ids)) % ids) - (own_of ids mm (own_sh q2 ids) (own_val q3 ids)))), .second]) rfl k) ?_
      refine go _ (T50.setTop (mkF m 151 #[.val (.long q1), .second, .val (.long q2), .second, .val (.long q3), .second, .val (.long q4), .second, .val (.int p1), .val (.long ids), .second, .val (.long (own_sh q2 ids)), .second, .val (.long (own_val q3 ids)), .second, .val (.long mm), .second, .val (.long cp), .second, .val (.ref b45), .val (.long (own_of ids mm (own_sh q2 ids) (own_val q3 ids))), .second, .val (.long (((mm * (own_val q3 ids)) % ids) - (own_of ids mm (own_sh q2 ids) (own_val q3 ids)))), .second] [(.long (((mm * (own_val q3 ids)) % ids) - (own_of ids mm (own_sh q2 ids) (own_val q3 ids))))])) (fun t k => XS.lload X50.here hx rfl (hb hby at_149) rfl k) ?_
      refine go _ (T50.setTop (mkF m 153 #[.val (.long q1), .second, .val (.long q2), .second, .val (.long q3), .second, .val (.long q4), .second, .val (.int p1), .val (.long ids), .second, .val (.long (own_sh q2 ids)), .second, .val (.long (own_val q3 ids)), .second, .val (.long mm), .second, .val (.long cp), .second, .val (.ref b45), .val (.long (own_of ids mm (own_sh q2 ids) (own_val q3 ids))), .second, .val (.long (((mm * (own_val q3 ids)) % ids) - (own_of ids mm (own_sh q2 ids) (own_val q3 ids)))), .second] [(.long (own_sh q2 ids)), (.long (((mm * (own_val q3 ids)) % ids) - (own_of ids mm (own_sh q2 ids) (own_val q3 ids))))])) (fun t k => XS.lload X50.here hx rfl (hb hby at_151) rfl k) ?_
      refine go _ (T50.setTop (mkF m 154 #[.val (.long q1), .second, .val (.long q2), .second, .val (.long q3), .second, .val (.long q4), .second, .val (.int p1), .val (.long ids), .second, .val (.long (own_sh q2 ids)), .second, .val (.long (own_val q3 ids)), .second, .val (.long mm), .second, .val (.long cp), .second, .val (.ref b45), .val (.long (own_of ids mm (own_sh q2 ids) (own_val q3 ids))), .second, .val (.long (((mm * (own_val q3 ids)) % ids) - (own_of ids mm (own_sh q2 ids) (own_val q3 ids)))), .second] [(.long (-(own_sh q2 ids))), (.long (((mm * (own_val q3 ids)) % ids) - (own_of ids mm (own_sh q2 ids) (own_val q3 ids))))])) (fun t k => XS.lneg X50.here hx rfl (hb hby at_153) rfl k) ?_
      refine go _ (T50.setTop (mkF m 155 #[.val (.long q1), .second, .val (.long q2), .second, .val (.long q3), .second, .val (.long q4), .second, .val (.int p1), .val (.long ids), .second, .val (.long (own_sh q2 ids)), .second, .val (.long (own_val q3 ids)), .second, .val (.long mm), .second, .val (.long cp), .second, .val (.ref b45), .val (.long (own_of ids mm (own_sh q2 ids) (own_val q3 ids))), .second, .val (.long (((mm * (own_val q3 ids)) % ids) - (own_of ids mm (own_sh q2 ids) (own_val q3 ids)))), .second] [(.int (lcmpW (((mm * (own_val q3 ids)) % ids) - (own_of ids mm (own_sh q2 ids) (own_val q3 ids))) (-(own_sh q2 ids))))])) (fun t k => XS.lcmp X50.here hx rfl (hb hby at_154) rfl k) ?_
      by_cases hc54 : (((mm * (own_val q3 ids)) % ids) - (own_of ids mm (own_sh q2 ids) (own_val q3 ids))) = (-(own_sh q2 ids))
      · refine go _ (T50.setTop (mkF m 169 #[.val (.long q1), .second, .val (.long q2), .second, .val (.long q3), .second, .val (.long q4), .second, .val (.int p1), .val (.long ids), .second, .val (.long (own_sh q2 ids)), .second, .val (.long (own_val q3 ids)), .second, .val (.long mm), .second, .val (.long cp), .second, .val (.ref b45), .val (.long (own_of ids mm (own_sh q2 ids) (own_val q3 ids))), .second, .val (.long (((mm * (own_val q3 ids)) % ids) - (own_of ids mm (own_sh q2 ids) (own_val q3 ids)))), .second] [])) (fun t k => XS.ifYes X50.here hx rfl (pc0 := 155) (pc' := 169) rfl (hb hby at_155) rfl ((if0 _ _).trans (teq ((lw_eq (((mm * (own_val q3 ids)) % ids) - (own_of ids mm (own_sh q2 ids) (own_val q3 ids))) (-(own_sh q2 ids))).mpr hc54)).1) (by decide) (by decide) k) ?_
        refine go _ (T50.setTop (mkF m 170 #[.val (.long q1), .second, .val (.long q2), .second, .val (.long q3), .second, .val (.long q4), .second, .val (.int p1), .val (.long ids), .second, .val (.long (own_sh q2 ids)), .second, .val (.long (own_val q3 ids)), .second, .val (.long mm), .second, .val (.long cp), .second, .val (.ref b45), .val (.long (own_of ids mm (own_sh q2 ids) (own_val q3 ids))), .second, .val (.long (((mm * (own_val q3 ids)) % ids) - (own_of ids mm (own_sh q2 ids) (own_val q3 ids)))), .second] [(.int (1 : Int32))])) (fun t k => XS.iconst X50.here hx rfl (hb hby at_169) k) ?_
        refine go _ (T50.setTop (mkF m 174 #[.val (.long q1), .second, .val (.long q2), .second, .val (.long q3), .second, .val (.long q4), .second, .val (.int p1), .val (.long ids), .second, .val (.long (own_sh q2 ids)), .second, .val (.long (own_val q3 ids)), .second, .val (.long mm), .second, .val (.long cp), .second, .val (.ref b45), .val (.long (own_of ids mm (own_sh q2 ids) (own_val q3 ids))), .second, .val (.long (((mm * (own_val q3 ids)) % ids) - (own_of ids mm (own_sh q2 ids) (own_val q3 ids)))), .second] [(.int (1 : Int32))])) (fun t k => XS.goto X50.here hx rfl (pc0 := 170) (pc' := 174) rfl (hb hby at_170) (by decide) (by decide) k) ?_
        exact fin (some (.int (1 : Int32))) X50 (by decide) (by decide) (fun q => by cases q) (show Q_rm0 Z q1 q2 q3 q4 p1 h0 n0 _ T50.heap _ from (by rw [hh50]; exact ⟨rfl, N51⟩)) (fun fs hr => retN X50 hx (t := .boolean) hret (by simp) (hb hby at_174) hr)
      · refine go _ (T50.setTop (mkF m 158 #[.val (.long q1), .second, .val (.long q2), .second, .val (.long q3), .second, .val (.long q4), .second, .val (.int p1), .val (.long ids), .second, .val (.long (own_sh q2 ids)), .second, .val (.long (own_val q3 ids)), .second, .val (.long mm), .second, .val (.long cp), .second, .val (.ref b45), .val (.long (own_of ids mm (own_sh q2 ids) (own_val q3 ids))), .second, .val (.long (((mm * (own_val q3 ids)) % ids) - (own_of ids mm (own_sh q2 ids) (own_val q3 ids)))), .second] [])) (fun t k => XS.ifNo X50.here hx rfl (hb hby at_155) rfl ((if0 _ _).trans (feq (fun q => hc54 ((lw_eq (((mm * (own_val q3 ids)) % ids) - (own_of ids mm (own_sh q2 ids) (own_val q3 ids))) (-(own_sh q2 ids))).mp q))).1) k) ?_
        refine go _ (T50.setTop (mkF m 160 #[.val (.long q1), .second, .val (.long q2), .second, .val (.long q3), .second, .val (.long q4), .second, .val (.int p1), .val (.long ids), .second, .val (.long (own_sh q2 ids)), .second, .val (.long (own_val q3 ids)), .second, .val (.long mm), .second, .val (.long cp), .second, .val (.ref b45), .val (.long (own_of ids mm (own_sh q2 ids) (own_val q3 ids))), .second, .val (.long (((mm * (own_val q3 ids)) % ids) - (own_of ids mm (own_sh q2 ids) (own_val q3 ids)))), .second] [(.long (((mm * (own_val q3 ids)) % ids) - (own_of ids mm (own_sh q2 ids) (own_val q3 ids))))])) (fun t k => XS.lload X50.here hx rfl (hb hby at_158) rfl k) ?_
        refine go _ (T50.setTop (mkF m 162 #[.val (.long q1), .second, .val (.long q2), .second, .val (.long q3), .second, .val (.long q4), .second, .val (.int p1), .val (.long ids), .second, .val (.long (own_sh q2 ids)), .second, .val (.long (own_val q3 ids)), .second, .val (.long mm), .second, .val (.long cp), .second, .val (.ref b45), .val (.long (own_of ids mm (own_sh q2 ids) (own_val q3 ids))), .second, .val (.long (((mm * (own_val q3 ids)) % ids) - (own_of ids mm (own_sh q2 ids) (own_val q3 ids)))), .second] [(.long ids), (.long (((mm * (own_val q3 ids)) % ids) - (own_of ids mm (own_sh q2 ids) (own_val q3 ids))))])) (fun t k => XS.lload X50.here hx rfl (hb hby at_160) rfl k) ?_
        refine go _ (T50.setTop (mkF m 164 #[.val (.long q1), .second, .val (.long q2), .second, .val (.long q3), .second, .val (.long q4), .second, .val (.int p1), .val (.long ids), .second, .val (.long (own_sh q2 ids)), .second, .val (.long (own_val q3 ids)), .second, .val (.long mm), .second, .val (.long cp), .second, .val (.ref b45), .val (.long (own_of ids mm (own_sh q2 ids) (own_val q3 ids))), .second, .val (.long (((mm * (own_val q3 ids)) % ids) - (own_of ids mm (own_sh q2 ids) (own_val q3 ids)))), .second] [(.long (own_sh q2 ids)), (.long ids), (.long (((mm * (own_val q3 ids)) % ids) - (own_of ids mm (own_sh q2 ids) (own_val q3 ids))))])) (fun t k => XS.lload X50.here hx rfl (hb hby at_162) rfl k) ?_
        refine go _ (T50.setTop (mkF m 165 #[.val (.long q1), .second, .val (.long q2), .second, .val (.long q3), .second, .val (.long q4), .second, .val (.int p1), .val (.long ids), .second, .val (.long (own_sh q2 ids)), .second, .val (.long (own_val q3 ids)), .second, .val (.long mm), .second, .val (.long cp), .second, .val (.ref b45), .val (.long (own_of ids mm (own_sh q2 ids) (own_val q3 ids))), .second, .val (.long (((mm * (own_val q3 ids)) % ids) - (own_of ids mm (own_sh q2 ids) (own_val q3 ids)))), .second] [(.long (ids - (own_sh q2 ids))), (.long (((mm * (own_val q3 ids)) % ids) - (own_of ids mm (own_sh q2 ids) (own_val q3 ids))))])) (fun t k => XS.lsub X50.here hx rfl (hb hby at_164) rfl k) ?_
        refine go _ (T50.setTop (mkF m 166 #[.val (.long q1), .second, .val (.long q2), .second, .val (.long q3), .second, .val (.long q4), .second, .val (.int p1), .val (.long ids), .second, .val (.long (own_sh q2 ids)), .second, .val (.long (own_val q3 ids)), .second, .val (.long mm), .second, .val (.long cp), .second, .val (.ref b45), .val (.long (own_of ids mm (own_sh q2 ids) (own_val q3 ids))), .second, .val (.long (((mm * (own_val q3 ids)) % ids) - (own_of ids mm (own_sh q2 ids) (own_val q3 ids)))), .second] [(.int (lcmpW (((mm * (own_val q3 ids)) % ids) - (own_of ids mm (own_sh q2 ids) (own_val q3 ids))) (ids - (own_sh q2 ids))))])) (fun t k => XS.lcmp X50.here hx rfl (hb hby at_165) rfl k) ?_
        have hc55 : ((((mm * (own_val q3 ids)) % ids) - (own_of ids mm (own_sh q2 ids) (own_val q3 ids))) = (ids - (own_sh q2 ids))) := own_o3 hids hsh hval hm hmv hc54
        refine go _ (T50.setTop (mkF m 169 #[.val (.long q1), .second, .val (.long q2), .second, .val (.long q3), .second, .val (.long q4), .second, .val (.int p1), .val (.long ids), .second, .val (.long (own_sh q2 ids)), .second, .val (.long (own_val q3 ids)), .second, .val (.long mm), .second, .val (.long cp), .second, .val (.ref b45), .val (.long (own_of ids mm (own_sh q2 ids) (own_val q3 ids))), .second, .val (.long (((mm * (own_val q3 ids)) % ids) - (own_of ids mm (own_sh q2 ids) (own_val q3 ids)))), .second] [])) (fun t k => XS.ifNo X50.here hx rfl (hb hby at_166) rfl ((if0 _ _).trans (teq ((lw_eq (((mm * (own_val q3 ids)) % ids) - (own_of ids mm (own_sh q2 ids) (own_val q3 ids))) (ids - (own_sh q2 ids))).mpr hc55)).2) k) ?_
        refine go _ (T50.setTop (mkF m 170 #[.val (.long q1), .second, .val (.long q2), .second, .val (.long q3), .second, .val (.long q4), .second, .val (.int p1), .val (.long ids), .second, .val (.long (own_sh q2 ids)), .second, .val (.long (own_val q3 ids)), .second, .val (.long mm), .second, .val (.long cp), .second, .val (.ref b45), .val (.long (own_of ids mm (own_sh q2 ids) (own_val q3 ids))), .second, .val (.long (((mm * (own_val q3 ids)) % ids) - (own_of ids mm (own_sh q2 ids) (own_val q3 ids)))), .second] [(.int (1 : Int32))])) (fun t k => XS.iconst X50.here hx rfl (hb hby at_169) k) ?_
        refine go _ (T50.setTop (mkF m 174 #[.val (.long q1), .second, .val (.long q2), .second, .val (.long q3), .second, .val (.long q4), .second, .val (.int p1), .val (.long ids), .second, .val (.long (own_sh q2 ids)), .second, .val (.long (own_val q3 ids)), .second, .val (.long mm), .second, .val (.long cp), .second, .val (.ref b45), .val (.long (own_of ids mm (own_sh q2 ids) (own_val q3 ids))), .second, .val (.long (((mm * (own_val q3 ids)) % ids) - (own_of ids mm (own_sh q2 ids) (own_val q3 ids)))), .second] [(.int (1 : Int32))])) (fun t k => XS.goto X50.here hx rfl (pc0 := 170) (pc' := 174) rfl (hb hby at_170) (by decide) (by decide) k) ?_
        exact fin (some (.int (1 : Int32))) X50 (by decide) (by decide) (fun q => by cases q) (show Q_rm0 Z q1 q2 q3 q4 p1 h0 n0 _ T50.heap _ from (by rw [hh50]; exact ⟨rfl, N51⟩)) (fun fs hr => retN X50 hx (t := .boolean) hret (by simp) (hb hby at_174) hr)
    refine go _ (T.setTop (mkF m 59 #[.val (.long q1), .second, .val (.long q2), .second, .val (.long q3), .second, .val (.long q4), .second, .val (.int p1), .val (.long ids), .second, .val (.long (own_sh q2 ids)), .second, .val (.long (own_val q3 ids)), .second, .val (.long (q4 &&& (9223372036854775807 : Int64))), .second, .unset, .unset, .unset, .unset, .unset, .unset, .unset] [(.long (own_val q3 ids))])) (fun t k => XS.lload X.here hx rfl (hb hby at_57) rfl k) ?_
    refine go _ (T.setTop (mkF m 60 #[.val (.long q1), .second, .val (.long q2), .second, .val (.long q3), .second, .val (.long q4), .second, .val (.int p1), .val (.long ids), .second, .val (.long (own_sh q2 ids)), .second, .val (.long (own_val q3 ids)), .second, .val (.long (q4 &&& (9223372036854775807 : Int64))), .second, .unset, .unset, .unset, .unset, .unset, .unset, .unset] [(.long (0 : Int64)), (.long (own_val q3 ids))])) (fun t k => XS.lconst X.here hx rfl (hb hby at_59) k) ?_
    refine go _ (T.setTop (mkF m 61 #[.val (.long q1), .second, .val (.long q2), .second, .val (.long q3), .second, .val (.long q4), .second, .val (.int p1), .val (.long ids), .second, .val (.long (own_sh q2 ids)), .second, .val (.long (own_val q3 ids)), .second, .val (.long (q4 &&& (9223372036854775807 : Int64))), .second, .unset, .unset, .unset, .unset, .unset, .unset, .unset] [(.int (lcmpW (own_val q3 ids) (0 : Int64)))])) (fun t k => XS.lcmp X.here hx rfl (hb hby at_60) rfl k) ?_
    by_cases hc56 : (own_val q3 ids) = (0 : Int64)
    · refine go _ (T.setTop (mkF m 64 #[.val (.long q1), .second, .val (.long q2), .second, .val (.long q3), .second, .val (.long q4), .second, .val (.int p1), .val (.long ids), .second, .val (.long (own_sh q2 ids)), .second, .val (.long (own_val q3 ids)), .second, .val (.long (q4 &&& (9223372036854775807 : Int64))), .second, .unset, .unset, .unset, .unset, .unset, .unset, .unset] [])) (fun t k => XS.ifNo X.here hx rfl (hb hby at_61) rfl ((if0 _ _).trans (teq ((lw_eq (own_val q3 ids) (0 : Int64)).mpr hc56)).2) k) ?_
      refine go _ (T.setTop (mkF m 67 #[.val (.long q1), .second, .val (.long q2), .second, .val (.long q3), .second, .val (.long q4), .second, .val (.int p1), .val (.long ids), .second, .val (.long (own_sh q2 ids)), .second, .val (.long (own_val q3 ids)), .second, .val (.long (q4 &&& (9223372036854775807 : Int64))), .second, .unset, .unset, .unset, .unset, .unset, .unset, .unset] [(.long (9223372036854775807 : Int64))])) (X.ldc2Long hx hown (mvT hZ (hw _ (List.mem_of_getElem? (i := 1) rfl))) (g := (mkF m 64 #[.val (.long q1), .second, .val (.long q2), .second, .val (.long q3), .second, .val (.long q4), .second, .val (.int p1), .val (.long ids), .second, .val (.long (own_sh q2 ids)), .second, .val (.long (own_val q3 ids)), .second, .val (.long (q4 &&& (9223372036854775807 : Int64))), .second, .unset, .unset, .unset, .unset, .unset, .unset, .unset] [])) rfl (hb hby at_64)) ?_
      refine go _ (T.setTop (mkF m 76 #[.val (.long q1), .second, .val (.long q2), .second, .val (.long q3), .second, .val (.long q4), .second, .val (.int p1), .val (.long ids), .second, .val (.long (own_sh q2 ids)), .second, .val (.long (own_val q3 ids)), .second, .val (.long (q4 &&& (9223372036854775807 : Int64))), .second, .unset, .unset, .unset, .unset, .unset, .unset, .unset] [(.long (9223372036854775807 : Int64))])) (fun t k => XS.goto X.here hx rfl (pc0 := 67) (pc' := 76) rfl (hb hby at_67) (by decide) (by decide) k) ?_
      refine go _ (T.setTop (mkF m 78 #[.val (.long q1), .second, .val (.long q2), .second, .val (.long q3), .second, .val (.long q4), .second, .val (.int p1), .val (.long ids), .second, .val (.long (own_sh q2 ids)), .second, .val (.long (own_val q3 ids)), .second, .val (.long (q4 &&& (9223372036854775807 : Int64))), .second, .val (.long (9223372036854775807 : Int64)), .second, .unset, .unset, .unset, .unset, .unset] [])) (fun t k => XS.lstore X.here hx rfl (hb hby at_76) rfl (l' := #[.val (.long q1), .second, .val (.long q2), .second, .val (.long q3), .second, .val (.long q4), .second, .val (.int p1), .val (.long ids), .second, .val (.long (own_sh q2 ids)), .second, .val (.long (own_val q3 ids)), .second, .val (.long (q4 &&& (9223372036854775807 : Int64))), .second, .val (.long (9223372036854775807 : Int64)), .second, .unset, .unset, .unset, .unset, .unset]) rfl k) ?_
      refine go _ (T.setTop (mkF m 80 #[.val (.long q1), .second, .val (.long q2), .second, .val (.long q3), .second, .val (.long q4), .second, .val (.int p1), .val (.long ids), .second, .val (.long (own_sh q2 ids)), .second, .val (.long (own_val q3 ids)), .second, .val (.long (q4 &&& (9223372036854775807 : Int64))), .second, .val (.long (9223372036854775807 : Int64)), .second, .unset, .unset, .unset, .unset, .unset] [(.long (q4 &&& (9223372036854775807 : Int64)))])) (fun t k => XS.lload X.here hx rfl (hb hby at_78) rfl k) ?_
      refine go _ (T.setTop (mkF m 82 #[.val (.long q1), .second, .val (.long q2), .second, .val (.long q3), .second, .val (.long q4), .second, .val (.int p1), .val (.long ids), .second, .val (.long (own_sh q2 ids)), .second, .val (.long (own_val q3 ids)), .second, .val (.long (q4 &&& (9223372036854775807 : Int64))), .second, .val (.long (9223372036854775807 : Int64)), .second, .unset, .unset, .unset, .unset, .unset] [(.long (9223372036854775807 : Int64)), (.long (q4 &&& (9223372036854775807 : Int64)))])) (fun t k => XS.lload X.here hx rfl (hb hby at_80) rfl k) ?_
      refine go _ (T.setTop (mkF m 83 #[.val (.long q1), .second, .val (.long q2), .second, .val (.long q3), .second, .val (.long q4), .second, .val (.int p1), .val (.long ids), .second, .val (.long (own_sh q2 ids)), .second, .val (.long (own_val q3 ids)), .second, .val (.long (q4 &&& (9223372036854775807 : Int64))), .second, .val (.long (9223372036854775807 : Int64)), .second, .unset, .unset, .unset, .unset, .unset] [(.int (lcmpW (q4 &&& (9223372036854775807 : Int64)) (9223372036854775807 : Int64)))])) (fun t k => XS.lcmp X.here hx rfl (hb hby at_82) rfl k) ?_
      by_cases hc57 : (9223372036854775807 : Int64) < (q4 &&& (9223372036854775807 : Int64))
      · refine go _ (T.setTop (mkF m 86 #[.val (.long q1), .second, .val (.long q2), .second, .val (.long q3), .second, .val (.long q4), .second, .val (.int p1), .val (.long ids), .second, .val (.long (own_sh q2 ids)), .second, .val (.long (own_val q3 ids)), .second, .val (.long (q4 &&& (9223372036854775807 : Int64))), .second, .val (.long (9223372036854775807 : Int64)), .second, .unset, .unset, .unset, .unset, .unset] [])) (fun t k => XS.ifNo X.here hx rfl (hb hby at_83) rfl ((if0 _ _).trans (tlt ((lw_gt (q4 &&& (9223372036854775807 : Int64)) (9223372036854775807 : Int64)).mpr hc57)).2.2.2) k) ?_
        refine go _ (T.setTop (mkF m 88 #[.val (.long q1), .second, .val (.long q2), .second, .val (.long q3), .second, .val (.long q4), .second, .val (.int p1), .val (.long ids), .second, .val (.long (own_sh q2 ids)), .second, .val (.long (own_val q3 ids)), .second, .val (.long (q4 &&& (9223372036854775807 : Int64))), .second, .val (.long (9223372036854775807 : Int64)), .second, .unset, .unset, .unset, .unset, .unset] [(.long (q4 &&& (9223372036854775807 : Int64)))])) (fun t k => XS.lload X.here hx rfl (hb hby at_86) rfl k) ?_
        refine go _ (T.setTop (mkF m 90 #[.val (.long q1), .second, .val (.long q2), .second, .val (.long q3), .second, .val (.long q4), .second, .val (.int p1), .val (.long ids), .second, .val (.long (own_sh q2 ids)), .second, .val (.long (own_val q3 ids)), .second, .val (.long (q4 &&& (9223372036854775807 : Int64))), .second, .val (.long (9223372036854775807 : Int64)), .second, .unset, .unset, .unset, .unset, .unset] [(.long (9223372036854775807 : Int64)), (.long (q4 &&& (9223372036854775807 : Int64)))])) (fun t k => XS.lload X.here hx rfl (hb hby at_88) rfl k) ?_
        refine go _ (T.setTop (mkF m 91 #[.val (.long q1), .second, .val (.long q2), .second, .val (.long q3), .second, .val (.long q4), .second, .val (.int p1), .val (.long ids), .second, .val (.long (own_sh q2 ids)), .second, .val (.long (own_val q3 ids)), .second, .val (.long (q4 &&& (9223372036854775807 : Int64))), .second, .val (.long (9223372036854775807 : Int64)), .second, .unset, .unset, .unset, .unset, .unset] [(.long ((q4 &&& (9223372036854775807 : Int64)) % (9223372036854775807 : Int64)))])) (fun t k => own_lrem X hx rfl (hb hby at_90) rfl (by decide) k) ?_
        refine go _ (T.setTop (mkF m 93 #[.val (.long q1), .second, .val (.long q2), .second, .val (.long q3), .second, .val (.long q4), .second, .val (.int p1), .val (.long ids), .second, .val (.long (own_sh q2 ids)), .second, .val (.long (own_val q3 ids)), .second, .val (.long ((q4 &&& (9223372036854775807 : Int64)) % (9223372036854775807 : Int64))), .second, .val (.long (9223372036854775807 : Int64)), .second, .unset, .unset, .unset, .unset, .unset] [])) (fun t k => XS.lstore X.here hx rfl (hb hby at_91) rfl (l' := #[.val (.long q1), .second, .val (.long q2), .second, .val (.long q3), .second, .val (.long q4), .second, .val (.int p1), .val (.long ids), .second, .val (.long (own_sh q2 ids)), .second, .val (.long (own_val q3 ids)), .second, .val (.long ((q4 &&& (9223372036854775807 : Int64)) % (9223372036854775807 : Int64))), .second, .val (.long (9223372036854775807 : Int64)), .second, .unset, .unset, .unset, .unset, .unset]) rfl k) ?_
        refine tail2 _ _ ?_ ?_
        · exact own_czg_0 q3 q4 hval hc56 hc57
        · exact own_czg_1 q3 q4 hval hc56 hc57
      · refine go _ (T.setTop (mkF m 93 #[.val (.long q1), .second, .val (.long q2), .second, .val (.long q3), .second, .val (.long q4), .second, .val (.int p1), .val (.long ids), .second, .val (.long (own_sh q2 ids)), .second, .val (.long (own_val q3 ids)), .second, .val (.long (q4 &&& (9223372036854775807 : Int64))), .second, .val (.long (9223372036854775807 : Int64)), .second, .unset, .unset, .unset, .unset, .unset] [])) (fun t k => XS.ifYes X.here hx rfl (pc0 := 83) (pc' := 93) rfl (hb hby at_83) rfl ((if0 _ _).trans (flt (fun q => hc57 ((lw_gt (q4 &&& (9223372036854775807 : Int64)) (9223372036854775807 : Int64)).mp q))).2.2.2) (by decide) (by decide) k) ?_
        refine tail2 _ _ ?_ ?_
        · exact own_czl_0 q3 q4 hval hc56 hc57
        · exact own_czl_1 q3 q4 hval hc56 hc57
    · refine go _ (T.setTop (mkF m 70 #[.val (.long q1), .second, .val (.long q2), .second, .val (.long q3), .second, .val (.long q4), .second, .val (.int p1), .val (.long ids), .second, .val (.long (own_sh q2 ids)), .second, .val (.long (own_val q3 ids)), .second, .val (.long (q4 &&& (9223372036854775807 : Int64))), .second, .unset, .unset, .unset, .unset, .unset, .unset, .unset] [])) (fun t k => XS.ifYes X.here hx rfl (pc0 := 61) (pc' := 70) rfl (hb hby at_61) rfl ((if0 _ _).trans (feq (fun q => hc56 ((lw_eq (own_val q3 ids) (0 : Int64)).mp q))).2) (by decide) (by decide) k) ?_
      refine go _ (T.setTop (mkF m 73 #[.val (.long q1), .second, .val (.long q2), .second, .val (.long q3), .second, .val (.long q4), .second, .val (.int p1), .val (.long ids), .second, .val (.long (own_sh q2 ids)), .second, .val (.long (own_val q3 ids)), .second, .val (.long (q4 &&& (9223372036854775807 : Int64))), .second, .unset, .unset, .unset, .unset, .unset, .unset, .unset] [(.long (9223372036854775807 : Int64))])) (X.ldc2Long hx hown (mvT hZ (hw _ (List.mem_of_getElem? (i := 1) rfl))) (g := (mkF m 70 #[.val (.long q1), .second, .val (.long q2), .second, .val (.long q3), .second, .val (.long q4), .second, .val (.int p1), .val (.long ids), .second, .val (.long (own_sh q2 ids)), .second, .val (.long (own_val q3 ids)), .second, .val (.long (q4 &&& (9223372036854775807 : Int64))), .second, .unset, .unset, .unset, .unset, .unset, .unset, .unset] [])) rfl (hb hby at_70)) ?_
      refine go _ (T.setTop (mkF m 75 #[.val (.long q1), .second, .val (.long q2), .second, .val (.long q3), .second, .val (.long q4), .second, .val (.int p1), .val (.long ids), .second, .val (.long (own_sh q2 ids)), .second, .val (.long (own_val q3 ids)), .second, .val (.long (q4 &&& (9223372036854775807 : Int64))), .second, .unset, .unset, .unset, .unset, .unset, .unset, .unset] [(.long (own_val q3 ids)), (.long (9223372036854775807 : Int64))])) (fun t k => XS.lload X.here hx rfl (hb hby at_73) rfl k) ?_
      refine go _ (T.setTop (mkF m 76 #[.val (.long q1), .second, .val (.long q2), .second, .val (.long q3), .second, .val (.long q4), .second, .val (.int p1), .val (.long ids), .second, .val (.long (own_sh q2 ids)), .second, .val (.long (own_val q3 ids)), .second, .val (.long (q4 &&& (9223372036854775807 : Int64))), .second, .unset, .unset, .unset, .unset, .unset, .unset, .unset] [(.long ((9223372036854775807 : Int64) / (own_val q3 ids)))])) (fun t k => XS.ldiv X.here hx rfl (hb hby at_75) rfl hc56 k) ?_
      refine go _ (T.setTop (mkF m 78 #[.val (.long q1), .second, .val (.long q2), .second, .val (.long q3), .second, .val (.long q4), .second, .val (.int p1), .val (.long ids), .second, .val (.long (own_sh q2 ids)), .second, .val (.long (own_val q3 ids)), .second, .val (.long (q4 &&& (9223372036854775807 : Int64))), .second, .val (.long ((9223372036854775807 : Int64) / (own_val q3 ids))), .second, .unset, .unset, .unset, .unset, .unset] [])) (fun t k => XS.lstore X.here hx rfl (hb hby at_76) rfl (l' := #[.val (.long q1), .second, .val (.long q2), .second, .val (.long q3), .second, .val (.long q4), .second, .val (.int p1), .val (.long ids), .second, .val (.long (own_sh q2 ids)), .second, .val (.long (own_val q3 ids)), .second, .val (.long (q4 &&& (9223372036854775807 : Int64))), .second, .val (.long ((9223372036854775807 : Int64) / (own_val q3 ids))), .second, .unset, .unset, .unset, .unset, .unset]) rfl k) ?_
      refine go _ (T.setTop (mkF m 80 #[.val (.long q1), .second, .val (.long q2), .second, .val (.long q3), .second, .val (.long q4), .second, .val (.int p1), .val (.long ids), .second, .val (.long (own_sh q2 ids)), .second, .val (.long (own_val q3 ids)), .second, .val (.long (q4 &&& (9223372036854775807 : Int64))), .second, .val (.long ((9223372036854775807 : Int64) / (own_val q3 ids))), .second, .unset, .unset, .unset, .unset, .unset] [(.long (q4 &&& (9223372036854775807 : Int64)))])) (fun t k => XS.lload X.here hx rfl (hb hby at_78) rfl k) ?_
      refine go _ (T.setTop (mkF m 82 #[.val (.long q1), .second, .val (.long q2), .second, .val (.long q3), .second, .val (.long q4), .second, .val (.int p1), .val (.long ids), .second, .val (.long (own_sh q2 ids)), .second, .val (.long (own_val q3 ids)), .second, .val (.long (q4 &&& (9223372036854775807 : Int64))), .second, .val (.long ((9223372036854775807 : Int64) / (own_val q3 ids))), .second, .unset, .unset, .unset, .unset, .unset] [(.long ((9223372036854775807 : Int64) / (own_val q3 ids))), (.long (q4 &&& (9223372036854775807 : Int64)))])) (fun t k => XS.lload X.here hx rfl (hb hby at_80) rfl k) ?_
      refine go _ (T.setTop (mkF m 83 #[.val (.long q1), .second, .val (.long q2), .second, .val (.long q3), .second, .val (.long q4), .second, .val (.int p1), .val (.long ids), .second, .val (.long (own_sh q2 ids)), .second, .val (.long (own_val q3 ids)), .second, .val (.long (q4 &&& (9223372036854775807 : Int64))), .second, .val (.long ((9223372036854775807 : Int64) / (own_val q3 ids))), .second, .unset, .unset, .unset, .unset, .unset] [(.int (lcmpW (q4 &&& (9223372036854775807 : Int64)) ((9223372036854775807 : Int64) / (own_val q3 ids))))])) (fun t k => XS.lcmp X.here hx rfl (hb hby at_82) rfl k) ?_
      by_cases hc58 : ((9223372036854775807 : Int64) / (own_val q3 ids)) < (q4 &&& (9223372036854775807 : Int64))
      · refine go _ (T.setTop (mkF m 86 #[.val (.long q1), .second, .val (.long q2), .second, .val (.long q3), .second, .val (.long q4), .second, .val (.int p1), .val (.long ids), .second, .val (.long (own_sh q2 ids)), .second, .val (.long (own_val q3 ids)), .second, .val (.long (q4 &&& (9223372036854775807 : Int64))), .second, .val (.long ((9223372036854775807 : Int64) / (own_val q3 ids))), .second, .unset, .unset, .unset, .unset, .unset] [])) (fun t k => XS.ifNo X.here hx rfl (hb hby at_83) rfl ((if0 _ _).trans (tlt ((lw_gt (q4 &&& (9223372036854775807 : Int64)) ((9223372036854775807 : Int64) / (own_val q3 ids))).mpr hc58)).2.2.2) k) ?_
        refine go _ (T.setTop (mkF m 88 #[.val (.long q1), .second, .val (.long q2), .second, .val (.long q3), .second, .val (.long q4), .second, .val (.int p1), .val (.long ids), .second, .val (.long (own_sh q2 ids)), .second, .val (.long (own_val q3 ids)), .second, .val (.long (q4 &&& (9223372036854775807 : Int64))), .second, .val (.long ((9223372036854775807 : Int64) / (own_val q3 ids))), .second, .unset, .unset, .unset, .unset, .unset] [(.long (q4 &&& (9223372036854775807 : Int64)))])) (fun t k => XS.lload X.here hx rfl (hb hby at_86) rfl k) ?_
        refine go _ (T.setTop (mkF m 90 #[.val (.long q1), .second, .val (.long q2), .second, .val (.long q3), .second, .val (.long q4), .second, .val (.int p1), .val (.long ids), .second, .val (.long (own_sh q2 ids)), .second, .val (.long (own_val q3 ids)), .second, .val (.long (q4 &&& (9223372036854775807 : Int64))), .second, .val (.long ((9223372036854775807 : Int64) / (own_val q3 ids))), .second, .unset, .unset, .unset, .unset, .unset] [(.long ((9223372036854775807 : Int64) / (own_val q3 ids))), (.long (q4 &&& (9223372036854775807 : Int64)))])) (fun t k => XS.lload X.here hx rfl (hb hby at_88) rfl k) ?_
        refine go _ (T.setTop (mkF m 91 #[.val (.long q1), .second, .val (.long q2), .second, .val (.long q3), .second, .val (.long q4), .second, .val (.int p1), .val (.long ids), .second, .val (.long (own_sh q2 ids)), .second, .val (.long (own_val q3 ids)), .second, .val (.long (q4 &&& (9223372036854775807 : Int64))), .second, .val (.long ((9223372036854775807 : Int64) / (own_val q3 ids))), .second, .unset, .unset, .unset, .unset, .unset] [(.long ((q4 &&& (9223372036854775807 : Int64)) % ((9223372036854775807 : Int64) / (own_val q3 ids))))])) (fun t k => own_lrem X hx rfl (hb hby at_90) rfl (own_capz q3 hval hc56) k) ?_
        refine go _ (T.setTop (mkF m 93 #[.val (.long q1), .second, .val (.long q2), .second, .val (.long q3), .second, .val (.long q4), .second, .val (.int p1), .val (.long ids), .second, .val (.long (own_sh q2 ids)), .second, .val (.long (own_val q3 ids)), .second, .val (.long ((q4 &&& (9223372036854775807 : Int64)) % ((9223372036854775807 : Int64) / (own_val q3 ids)))), .second, .val (.long ((9223372036854775807 : Int64) / (own_val q3 ids))), .second, .unset, .unset, .unset, .unset, .unset] [])) (fun t k => XS.lstore X.here hx rfl (hb hby at_91) rfl (l' := #[.val (.long q1), .second, .val (.long q2), .second, .val (.long q3), .second, .val (.long q4), .second, .val (.int p1), .val (.long ids), .second, .val (.long (own_sh q2 ids)), .second, .val (.long (own_val q3 ids)), .second, .val (.long ((q4 &&& (9223372036854775807 : Int64)) % ((9223372036854775807 : Int64) / (own_val q3 ids)))), .second, .val (.long ((9223372036854775807 : Int64) / (own_val q3 ids))), .second, .unset, .unset, .unset, .unset, .unset]) rfl k) ?_
        refine tail2 _ _ ?_ ?_
        · exact own_cng_0 q3 q4 hval hc56 hc58
        · exact own_cng_1 q3 q4 hval hc56 hc58
      · refine go _ (T.setTop (mkF m 93 #[.val (.long q1), .second, .val (.long q2), .second, .val (.long q3), .second, .val (.long q4), .second, .val (.int p1), .val (.long ids), .second, .val (.long (own_sh q2 ids)), .second, .val (.long (own_val q3 ids)), .second, .val (.long (q4 &&& (9223372036854775807 : Int64))), .second, .val (.long ((9223372036854775807 : Int64) / (own_val q3 ids))), .second, .unset, .unset, .unset, .unset, .unset] [])) (fun t k => XS.ifYes X.here hx rfl (pc0 := 83) (pc' := 93) rfl (hb hby at_83) rfl ((if0 _ _).trans (flt (fun q => hc58 ((lw_gt (q4 &&& (9223372036854775807 : Int64)) ((9223372036854775807 : Int64) / (own_val q3 ids))).mp q))).2.2.2) (by decide) (by decide) k) ?_
        refine tail2 _ _ ?_ ?_
        · exact own_cnl_0 q3 q4 hval hc56 hc58
        · exact own_cnl_1 q3 q4 hval hc56 hc58
  refine go _ (s₁.setTop (mkF m 2 #[.val (.long q1), .second, .val (.long q2), .second, .val (.long q3), .second, .val (.long q4), .second, .val (.int p1), .unset, .unset, .unset, .unset, .unset, .unset, .unset, .unset, .unset, .unset, .unset, .unset, .unset, .unset, .unset] [(.int p1)])) (fun t k => XS.iload X0.here hx rfl (hb hby at_0) rfl k) ?_
  refine go _ (s₁.setTop (mkF m 3 #[.val (.long q1), .second, .val (.long q2), .second, .val (.long q3), .second, .val (.long q4), .second, .val (.int p1), .unset, .unset, .unset, .unset, .unset, .unset, .unset, .unset, .unset, .unset, .unset, .unset, .unset, .unset, .unset] [(.int (1 : Int32)), (.int p1)])) (fun t k => XS.iconst X0.here hx rfl (hb hby at_2) k) ?_
  refine go _ (s₁.setTop (mkF m 4 #[.val (.long q1), .second, .val (.long q2), .second, .val (.long q3), .second, .val (.long q4), .second, .val (.int p1), .unset, .unset, .unset, .unset, .unset, .unset, .unset, .unset, .unset, .unset, .unset, .unset, .unset, .unset, .unset] [(.int (p1 &&& (1 : Int32)))])) (fun t k => XS.iand X0.here hx rfl (hb hby at_3) rfl k) ?_
  by_cases hc59 : (p1 &&& (1 : Int32)) = (0 : Int32)
  · refine go _ (s₁.setTop (mkF m 17 #[.val (.long q1), .second, .val (.long q2), .second, .val (.long q3), .second, .val (.long q4), .second, .val (.int p1), .unset, .unset, .unset, .unset, .unset, .unset, .unset, .unset, .unset, .unset, .unset, .unset, .unset, .unset, .unset] [])) (fun t k => XS.ifYes X0.here hx rfl (pc0 := 4) (pc' := 17) rfl (hb hby at_4) rfl ((if0 _ _).trans (teq hc59).1) (by decide) (by decide) k) ?_
    refine go _ (s₁.setTop (mkF m 18 #[.val (.long q1), .second, .val (.long q2), .second, .val (.long q3), .second, .val (.long q4), .second, .val (.int p1), .unset, .unset, .unset, .unset, .unset, .unset, .unset, .unset, .unset, .unset, .unset, .unset, .unset, .unset, .unset] [(.long (1 : Int64))])) (fun t k => XS.lconst X0.here hx rfl (hb hby at_17) k) ?_
    refine go _ (s₁.setTop (mkF m 19 #[.val (.long q1), .second, .val (.long q2), .second, .val (.long q3), .second, .val (.long q4), .second, .val (.int p1), .unset, .unset, .unset, .unset, .unset, .unset, .unset, .unset, .unset, .unset, .unset, .unset, .unset, .unset, .unset] [(.long q1), (.long (1 : Int64))])) (fun t k => XS.lloadN X0.here hx rfl (hb hby at_18) rfl k) ?_
    refine go _ (s₁.setTop (mkF m 22 #[.val (.long q1), .second, .val (.long q2), .second, .val (.long q3), .second, .val (.long q4), .second, .val (.int p1), .unset, .unset, .unset, .unset, .unset, .unset, .unset, .unset, .unset, .unset, .unset, .unset, .unset, .unset, .unset] [(.long (9223372036854775807 : Int64)), (.long q1), (.long (1 : Int64))])) (X0.ldc2Long hx hown (mvT hZ (hw _ (List.mem_of_getElem? (i := 1) rfl))) (g := (mkF m 19 #[.val (.long q1), .second, .val (.long q2), .second, .val (.long q3), .second, .val (.long q4), .second, .val (.int p1), .unset, .unset, .unset, .unset, .unset, .unset, .unset, .unset, .unset, .unset, .unset, .unset, .unset, .unset, .unset] [(.long q1), (.long (1 : Int64))])) rfl (hb hby at_19)) ?_
    refine go _ (s₁.setTop (mkF m 23 #[.val (.long q1), .second, .val (.long q2), .second, .val (.long q3), .second, .val (.long q4), .second, .val (.int p1), .unset, .unset, .unset, .unset, .unset, .unset, .unset, .unset, .unset, .unset, .unset, .unset, .unset, .unset, .unset] [(.long (q1 &&& (9223372036854775807 : Int64))), (.long (1 : Int64))])) (fun t k => XS.land X0.here hx rfl (hb hby at_22) rfl k) ?_
    obtain ⟨_, _, ⟨T60, L60, k60, n60⟩, -, X60, ⟨Lc60, hQ60, l60, y60, z60⟩, st60⟩ := Jvm.LawKit.callS X0 hx (y := (⟨"java/lang/Math", "max", "(JJ)J"⟩ : MethodName)) hown (mvT hZ (hw _ (List.mem_of_getElem? (i := 29) rfl))) (mvT hZ (hw _ (List.mem_of_getElem? (i := 30) rfl))) (mvT hZ (hw _ (List.mem_of_getElem? (i := 31) rfl))) (mvT hZ (hw _ (List.mem_of_getElem? (i := 32) rfl))) (by decide) (backOf (W := 0) (rm5 l Z a0 hw [] (1 : Int64) (q1 &&& (9223372036854775807 : Int64))  h0 n0 Z0 ) hZ (hw _ (List.mem_of_getElem? (i := 32) rfl)) (hw _ (List.mem_of_getElem? (i := 31) rfl)) (by decide) (by decide)) (g := (mkF m 23 #[.val (.long q1), .second, .val (.long q2), .second, .val (.long q3), .second, .val (.long q4), .second, .val (.int p1), .unset, .unset, .unset, .unset, .unset, .unset, .unset, .unset, .unset, .unset, .unset, .unset, .unset, .unset, .unset] [(.long (q1 &&& (9223372036854775807 : Int64))), (.long (1 : Int64))])) rfl (by rw [hml]; rfl) (argsL := [(.long (1 : Int64)), (.long (q1 &&& (9223372036854775807 : Int64)))]) (rest := []) (lenOf pd_4 rfl) rfl (by show 2 * 0 + _ ≤ _; exact Nat.le_of_eq rfl) (hb hby at_23) (fun _ _ => ⟨rfl, e0, (by decide : 0 + 0 ≤ _), (by decide : 0 + 0 ≤ _)⟩)
    dsimp only [Pt.U, Pt.locs, Pt.cells, Pt.slots] at X60 l60 y60 z60 st60 hQ60
    subst l60 y60 z60
    obtain ⟨rfl, Nq60, hh60⟩ := hQ60
    have N61 := Fr.app N0 Nq60
    refine go _ (T60.setTop (mkF m 26 #[.val (.long q1), .second, .val (.long q2), .second, .val (.long q3), .second, .val (.long q4), .second, .val (.int p1), .unset, .unset, .unset, .unset, .unset, .unset, .unset, .unset, .unset, .unset, .unset, .unset, .unset, .unset, .unset] [(.long (f_rm5 (1 : Int64) (q1 &&& (9223372036854775807 : Int64))))])) (st60) ?_
    exact tail _ _ _ (own_idsB q1) X60 hh60 N61
  · refine go _ (s₁.setTop (mkF m 7 #[.val (.long q1), .second, .val (.long q2), .second, .val (.long q3), .second, .val (.long q4), .second, .val (.int p1), .unset, .unset, .unset, .unset, .unset, .unset, .unset, .unset, .unset, .unset, .unset, .unset, .unset, .unset, .unset] [])) (fun t k => XS.ifNo X0.here hx rfl (hb hby at_4) rfl ((if0 _ _).trans (feq hc59).1) k) ?_
    refine go _ (s₁.setTop (mkF m 8 #[.val (.long q1), .second, .val (.long q2), .second, .val (.long q3), .second, .val (.long q4), .second, .val (.int p1), .unset, .unset, .unset, .unset, .unset, .unset, .unset, .unset, .unset, .unset, .unset, .unset, .unset, .unset, .unset] [(.long q1)])) (fun t k => XS.lloadN X0.here hx rfl (hb hby at_7) rfl k) ?_
    refine go _ (s₁.setTop (mkF m 11 #[.val (.long q1), .second, .val (.long q2), .second, .val (.long q3), .second, .val (.long q4), .second, .val (.int p1), .unset, .unset, .unset, .unset, .unset, .unset, .unset, .unset, .unset, .unset, .unset, .unset, .unset, .unset, .unset] [(.long (15 : Int64)), (.long q1)])) (X0.ldc2Long hx hown (mvT hZ (hw _ (List.mem_of_getElem? (i := 0) rfl))) (g := (mkF m 8 #[.val (.long q1), .second, .val (.long q2), .second, .val (.long q3), .second, .val (.long q4), .second, .val (.int p1), .unset, .unset, .unset, .unset, .unset, .unset, .unset, .unset, .unset, .unset, .unset, .unset, .unset, .unset, .unset] [(.long q1)])) rfl (hb hby at_8)) ?_
    refine go _ (s₁.setTop (mkF m 12 #[.val (.long q1), .second, .val (.long q2), .second, .val (.long q3), .second, .val (.long q4), .second, .val (.int p1), .unset, .unset, .unset, .unset, .unset, .unset, .unset, .unset, .unset, .unset, .unset, .unset, .unset, .unset, .unset] [(.long (q1 &&& (15 : Int64)))])) (fun t k => XS.land X0.here hx rfl (hb hby at_11) rfl k) ?_
    refine go _ (s₁.setTop (mkF m 13 #[.val (.long q1), .second, .val (.long q2), .second, .val (.long q3), .second, .val (.long q4), .second, .val (.int p1), .unset, .unset, .unset, .unset, .unset, .unset, .unset, .unset, .unset, .unset, .unset, .unset, .unset, .unset, .unset] [(.long (1 : Int64)), (.long (q1 &&& (15 : Int64)))])) (fun t k => XS.lconst X0.here hx rfl (hb hby at_12) k) ?_
    refine go _ (s₁.setTop (mkF m 14 #[.val (.long q1), .second, .val (.long q2), .second, .val (.long q3), .second, .val (.long q4), .second, .val (.int p1), .unset, .unset, .unset, .unset, .unset, .unset, .unset, .unset, .unset, .unset, .unset, .unset, .unset, .unset, .unset] [(.long ((q1 &&& (15 : Int64)) + (1 : Int64)))])) (fun t k => XS.ladd X0.here hx rfl (hb hby at_13) rfl k) ?_
    refine go _ (s₁.setTop (mkF m 26 #[.val (.long q1), .second, .val (.long q2), .second, .val (.long q3), .second, .val (.long q4), .second, .val (.int p1), .unset, .unset, .unset, .unset, .unset, .unset, .unset, .unset, .unset, .unset, .unset, .unset, .unset, .unset, .unset] [(.long ((q1 &&& (15 : Int64)) + (1 : Int64)))])) (fun t k => XS.goto X0.here hx rfl (pc0 := 14) (pc' := 26) rfl (hb hby at_14) (by decide) (by decide) k) ?_
    exact tail _ _ _ (own_idsA q1) X0 e0 N0
set_option maxRecDepth 65536 in
set_option maxHeartbeats 40000000 in
theorem comes_1 {Post : Tables → Env → Array Value → State → Outcome → State → Prop} (hpost : ∀ tb e args s v u, (limb_1_1.after args s (.returned v) u = true ∧ limb_1_2.after args s (.returned v) u = true ∧ True) → FrameEnd s (.returned v) u (Jvm.fieldLocs frame_1_writes args s ++ Jvm.arrayLocs frame_1_arrays args s ++ Jvm.staticLocs frame_1_statics s) 16 128 → Post tb e args s (.returned v) u) :
    ArmFor flags0 classFile x code maxLocals ret World_1 tables_1 room_1 Calls_1 rest_1 Pre_1 Post := by
  intro l hfl _ _ p e ha hc hk s m args below hf hA hF happ hP
  obtain ⟨hcalls, hrest, hpre⟩ := hP
  obtain ⟨-, -, -, hnamed, -, -, -, hat⟩ := (Spec.applies_iff hf).mp happ
  obtain ⟨hg, hn⟩ := and_e (Cond.before_iff.mp (show (Jvm.Cond.and given_1 narrow_1).before args s = true from hpre))
  obtain ⟨gc, g1⟩ := and_e hg
  obtain ⟨ga0, g2⟩ := and_e g1
  obtain ⟨ga1, g3⟩ := and_e g2
  obtain ⟨ga2, g4⟩ := and_e g3
  obtain ⟨ga3, g5⟩ := and_e g4
  have ga4 := g5
  obtain ⟨w0, w1, w2, w3, w4, rfl⟩ : ∃ w0 w1 w2 w3 w4 : Value, args = #[w0, w1, w2, w3, w4] := by
    have hs : args.size = 5 := by simpa [Cond.value, given_1] using gc
    obtain ⟨L⟩ := args
    match L, hs with
    | [w0, w1, w2, w3, w4], _ => exact ⟨w0, w1, w2, w3, w4, rfl⟩
  have hw := fun d (hd : d ∈ tables_1) => atoms_spec (ws := Jvm.Cond.code x code maxLocals ret :: tables_1) hat d (List.mem_cons_of_mem _ hd)
  obtain ⟨i0, ei0⟩ := isL_v ga0
  obtain rfl : w0 = (.long i0) := Option.some.inj ei0
  obtain ⟨i1, ei1⟩ := isL_v ga1
  obtain rfl : w1 = (.long i1) := Option.some.inj ei1
  obtain ⟨i2, ei2⟩ := isL_v ga2
  obtain rfl : w2 = (.long i2) := Option.some.inj ei2
  obtain ⟨i3, ei3⟩ := isL_v ga3
  obtain rfl : w3 = (.long i3) := Option.some.inj ei3
  obtain ⟨i4, ei4⟩ := is_v ga4
  obtain rfl : w4 = (.int i4) := Option.some.inj ei4
  obtain ⟨n, o, h1, h2, h3, _, L, rfl, ⟨rfl, N⟩, hq⟩ := rm0 l s _ hw tables_1 i0 i1 i2 i3 i4 s.heap s.heap.size (Nat.le_refl _) p e ha hc hk s m _ below hf ((Spec.applies_iff_loose hf).mp happ).1 ⟨rfl, State.Warmed39.refl s, rfl⟩ trivial
  refine ⟨n, _, h1, h2, h3, hpost _ _ _ _ _ _ ⟨Cond.after_iff.mpr rfl, Cond.after_iff.mpr (eq_i res_at (Term.int_eval (1)) rfl), trivial⟩ ⟨hq.1, hq.2.1, (hq.2.2.sift fun y hy => Or.inr (N y hy)).mono (by decide) (by decide)⟩⟩
theorem main_1_1 : Claimed_1_1 := comes_1 fun _ _ _ _ _ _ h hF => ⟨h.1, hF⟩
theorem main_1_2 : Claimed_1_2 := comes_1 fun _ _ _ _ _ _ h hF => ⟨h.2.1, hF⟩
end Jvm.Pilot.@@N@@
namespace Jvm.Pilot.@@N@@
open Jvm Jvm.ClassFile Sem Op Lib Jvm.Free Jvm.Stand Jvm.Pilot.@@N@@.Jvm.D
/-! MADE BY PROGRAM (witnessworld.py) out of the Statement's table words and the real class files: 11 classes; the members and pool entries that the words name. The judged class is class 1, her method 1. -/
namespace start1
open Jvm.ClassFile
def u (s : String) : CpInfo := .utf8 (stringToUtf16 s)
/-- a pool by its gaps: so many unusable entries, then the entry; so many at the end -/
def gap : Nat → List CpInfo → List CpInfo
  | 0, r => r
  | n + 1, r => .unusable :: gap n r
def poolList (es : List (Nat × CpInfo)) (last : Nat) : List CpInfo := es.foldr (fun e r => gap e.1 (e.2 :: r)) (gap last [])
def pool (es : List (Nat × CpInfo)) (last : Nat) : Array CpInfo := ⟨poolList es last⟩
def fileOf (pool : Array CpInfo) (this : Nat) (attrs : Array Attribute := #[]) (ms : Array MethodInfo := #[]) (fl : Nat := 33) (sup : Nat := 0) (ifs : Array Nat := #[]) (fds : Array FieldInfo := #[]) : ClassFile where
  minorVersion := 0
  majorVersion := 65
  constantPool := pool
  accessFlags := fl
  thisClass := this
  superClass := sup
  interfaces := ifs
  fields := fds
  methods := ms
  attributes := attrs
def plain (name : String) (sup : Option ClassId) : Class where
  name := name
  kind := .ordinary
  loader := none
  accessFlags := 33
  super := sup
  interfaces := #[]
  cf := none
  fields := #[]
  methods := #[]
  instanceTypes := #[]
  staticTypes := #[]
  resolved := #[]
  callSites := []
  init := .initialized
  statics := none
  mirror := none

def pool0 : Array CpInfo := pool [(5, u "<init>"), (0, u "()V"), (1, .class_ 10), (1, u "java/lang/Object")] 113

def k0c0 : Code := { maxStack := 0, maxLocals := 1, code := object_method_1_code, exceptionTable := #[], attributes := #[] }
def k0m0 : Method := { name := "<init>", desc := "()V", sig := { parameters := [], returnType := none }, accessFlags := 1, code := some k0c0 }
/-- java/lang/Object -/
def k0 : Class := { plain "java/lang/Object" none with
  accessFlags := 33
  interfaces := #[]
  cf := some (fileOf pool0 8 #[] #[{ accessFlags := 1, nameIndex := 5, descriptorIndex := 6, attributes := #[] }] 33 0 #[] #[])
  fields := #[]
  methods := #[k0m0]
  instanceTypes := #[]
  staticTypes := #[]
  resolved := Array.replicate 124 none
  statics := none }

def pool1 : Array CpInfo := pool [(2, .class_ 4), (1, u "java/lang/Object"), (0, u "<init>"), (0, u "()V"), (0, .long 15), (3, .long 9223372036854775807), (1, .methodref 14 15), (0, .class_ 16), (0, .nameAndType 17 18), (0, u "java/lang/Math"), (0, u "max"), (0, u "(JJ)J"), (0, .class_ 20), (0, u "com/example/bogus_tally/bogustally/generate/IdSpread$Laying"), (0, .methodref 19 22), (0, .nameAndType 5 23), (0, u "(JJJJ)V"), (0, .methodref 19 25), (0, .nameAndType 26 27), (0, u "of"), (0, u "(J)J"), (0, .class_ 29), (0, u "com/example/bogus_tally/bogustally/generate/IdSpreadOfPinLaw"), (2, u "law"), (0, u "(JJJJI)Z")] 7

def k1m0 : Method := { name := "<init>", desc := "()V", sig := { parameters := [], returnType := none }, accessFlags := 1, code := none }
def k1c1 : Code := { maxStack := 10, maxLocals := 24, code := code, exceptionTable := #[], attributes := #[] }
def k1m1 : Method := { name := "law", desc := "(JJJJI)Z", sig := { parameters := [.long, .long, .long, .long, .int], returnType := some .boolean }, accessFlags := 9, code := some k1c1 }
/-- com/example/bogus_tally/bogustally/generate/IdSpreadOfPinLaw -/
def k1 : Class := { plain "com/example/bogus_tally/bogustally/generate/IdSpreadOfPinLaw" (some 0) with
  accessFlags := 49
  interfaces := #[]
  cf := some (fileOf pool1 28 #[] #[{ accessFlags := 1, nameIndex := 5, descriptorIndex := 6, attributes := #[] }, { accessFlags := 9, nameIndex := 32, descriptorIndex := 33, attributes := #[] }] 49 2 #[] #[])
  fields := #[]
  methods := #[k1m0, k1m1]
  instanceTypes := #[]
  staticTypes := #[]
  resolved := Array.replicate 41 none
  statics := none }

def pool2 : Array CpInfo := pool [(1, .methodref 2 3), (0, .class_ 4), (0, .nameAndType 5 6), (0, u "java/lang/Object"), (0, u "<init>"), (0, u "()V"), (0, .class_ 8), (0, u "java/lang/Record")] 13

def k2c0 : Code := { maxStack := 1, maxLocals := 1, code := jdk_30_method_1_code, exceptionTable := #[], attributes := #[] }
def k2m0 : Method := { name := "<init>", desc := "()V", sig := { parameters := [], returnType := none }, accessFlags := 4, code := some k2c0 }
/-- java/lang/Record -/
def k2 : Class := { plain "java/lang/Record" (some 0) with
  accessFlags := 1057
  interfaces := #[]
  cf := some (fileOf pool2 7 #[] #[{ accessFlags := 4, nameIndex := 5, descriptorIndex := 6, attributes := #[] }] 1057 2 #[] #[])
  fields := #[]
  methods := #[k2m0]
  instanceTypes := #[]
  staticTypes := #[]
  resolved := Array.replicate 22 none
  statics := none }

def pool3 : Array CpInfo := pool [(1, .methodref 2 3), (0, .class_ 4), (0, .nameAndType 5 6), (0, u "java/lang/Record"), (0, u "<init>"), (0, u "()V"), (0, .fieldref 8 9), (0, .class_ 10), (0, .nameAndType 11 12), (0, u "com/example/bogus_tally/bogustally/generate/IdSpread$Laying"), (0, u "ids"), (0, u "J"), (0, .fieldref 8 14), (0, .nameAndType 15 12), (0, u "values"), (0, .fieldref 8 17), (0, .nameAndType 18 12), (0, u "multiplier"), (0, .fieldref 8 20), (0, .nameAndType 21 12), (0, u "shift"), (11, u "(JJJJ)V"), (15, u "(J)J"), (21, u "of"), (7, .class_ 80), (0, u "com/example/bogus_tally/bogustally/generate/IdSpread")] 30

def k3c0 : Code := { maxStack := 3, maxLocals := 9, code := prog_98_method_1_code, exceptionTable := #[], attributes := #[] }
def k3m0 : Method := { name := "<init>", desc := "(JJJJ)V", sig := { parameters := [.long, .long, .long, .long], returnType := none }, accessFlags := 0, code := some k3c0 }
def k3c1 : Code := { maxStack := 6, maxLocals := 5, code := prog_98_method_3_code, exceptionTable := #[], attributes := #[] }
def k3m1 : Method := { name := "of", desc := "(J)J", sig := { parameters := [.long], returnType := some .long }, accessFlags := 0, code := some k3c1 }
/-- com/example/bogus_tally/bogustally/generate/IdSpread$Laying -/
def k3 : Class := { plain "com/example/bogus_tally/bogustally/generate/IdSpread$Laying" (some 2) with
  accessFlags := 48
  interfaces := #[]
  cf := some (fileOf pool3 8 #[.nestHost 79] #[{ accessFlags := 0, nameIndex := 5, descriptorIndex := 33, attributes := #[] }, { accessFlags := 0, nameIndex := 71, descriptorIndex := 49, attributes := #[] }] 48 2 #[] #[{ accessFlags := 18, nameIndex := 11, descriptorIndex := 12, attributes := #[] }, { accessFlags := 18, nameIndex := 15, descriptorIndex := 12, attributes := #[] }, { accessFlags := 18, nameIndex := 18, descriptorIndex := 12, attributes := #[] }, { accessFlags := 18, nameIndex := 21, descriptorIndex := 12, attributes := #[] }])
  fields := #[{ name := "ids", type := .long, accessFlags := 18, slot := 0, constantValue := 0 }, { name := "values", type := .long, accessFlags := 18, slot := 1, constantValue := 0 }, { name := "multiplier", type := .long, accessFlags := 18, slot := 2, constantValue := 0 }, { name := "shift", type := .long, accessFlags := 18, slot := 3, constantValue := 0 }]
  methods := #[k3m0, k3m1]
  instanceTypes := #[.long, .long, .long, .long]
  staticTypes := #[]
  resolved := Array.replicate 111 none
  statics := none }

def pool4 : Array CpInfo := pool [(1, .class_ 2), (0, u "java/lang/Math"), (1, .class_ 6), (1, u "java/lang/Object"), (0, u "<init>"), (0, u "()V"), (89, .class_ 100), (1, u "java/lang/Math$RandomNumberGeneratorHolder"), (20, u "(JJ)J"), (50, u "negativeZeroFloatBits"), (0, u "J"), (2, u "negativeZeroDoubleBits"), (21, u "max"), (46, u "$assertionsDisabled"), (0, u "Z"), (91, u "twoToTheDoubleScaleDown"), (0, u "D"), (4, u "twoToTheDoubleScaleUp"), (9, u "E"), (3, u "PI"), (2, u "TAU"), (2, u "DEGREES_TO_RADIANS"), (0, u "RADIANS_TO_DEGREES")] 94

def k4m0 : Method := { name := "<init>", desc := "()V", sig := { parameters := [], returnType := none }, accessFlags := 2, code := none }
def k4c1 : Code := { maxStack := 4, maxLocals := 4, code := jdk_29_method_66_code, exceptionTable := #[], attributes := #[] }
def k4m1 : Method := { name := "max", desc := "(JJ)J", sig := { parameters := [.long, .long], returnType := some .long }, accessFlags := 9, code := some k4c1 }
/-- java/lang/Math -/
def k4 : Class := { plain "java/lang/Math" (some 0) with
  accessFlags := 49
  interfaces := #[]
  cf := some (fileOf pool4 1 #[.nestMembers #[98]] #[{ accessFlags := 2, nameIndex := 7, descriptorIndex := 8, attributes := #[] }, { accessFlags := 9, nameIndex := 198, descriptorIndex := 121, attributes := #[] }] 49 4 #[] #[{ accessFlags := 25, nameIndex := 354, descriptorIndex := 339, attributes := #[] }, { accessFlags := 25, nameIndex := 358, descriptorIndex := 339, attributes := #[] }, { accessFlags := 25, nameIndex := 361, descriptorIndex := 339, attributes := #[] }, { accessFlags := 26, nameIndex := 364, descriptorIndex := 339, attributes := #[] }, { accessFlags := 26, nameIndex := 365, descriptorIndex := 339, attributes := #[] }, { accessFlags := 26, nameIndex := 172, descriptorIndex := 173, attributes := #[] }, { accessFlags := 26, nameIndex := 176, descriptorIndex := 173, attributes := #[] }, { accessFlags := 8, nameIndex := 344, descriptorIndex := 339, attributes := #[] }, { accessFlags := 8, nameIndex := 338, descriptorIndex := 339, attributes := #[] }, { accessFlags := 4120, nameIndex := 245, descriptorIndex := 246, attributes := #[] }])
  fields := #[{ name := "E", type := .double, accessFlags := 25, slot := 0, constantValue := 0 }, { name := "PI", type := .double, accessFlags := 25, slot := 1, constantValue := 0 }, { name := "TAU", type := .double, accessFlags := 25, slot := 2, constantValue := 0 }, { name := "DEGREES_TO_RADIANS", type := .double, accessFlags := 26, slot := 3, constantValue := 0 }, { name := "RADIANS_TO_DEGREES", type := .double, accessFlags := 26, slot := 4, constantValue := 0 }, { name := "negativeZeroFloatBits", type := .long, accessFlags := 26, slot := 5, constantValue := 0 }, { name := "negativeZeroDoubleBits", type := .long, accessFlags := 26, slot := 6, constantValue := 0 }, { name := "twoToTheDoubleScaleUp", type := .double, accessFlags := 8, slot := 7, constantValue := 0 }, { name := "twoToTheDoubleScaleDown", type := .double, accessFlags := 8, slot := 8, constantValue := 0 }, { name := "$assertionsDisabled", type := .boolean, accessFlags := 4120, slot := 9, constantValue := 0 }]
  methods := #[k4m0, k4m1]
  instanceTypes := #[]
  staticTypes := #[.double, .double, .double, .double, .double, .long, .long, .double, .double, .boolean]
  resolved := Array.replicate 460 none
  statics := none }

def pool5 : Array CpInfo := pool [(1, u "java/lang/Cloneable"), (0, .class_ 1), (0, u "java/lang/Object"), (0, .class_ 3)] 3

/-- java/lang/Cloneable -/
def k5 : Class := { plain "java/lang/Cloneable" (some 0) with
  accessFlags := 1537
  interfaces := #[]
  cf := some (fileOf pool5 2 #[] #[] 1537 4 #[] #[])
  fields := #[]
  methods := #[]
  instanceTypes := #[]
  staticTypes := #[]
  resolved := Array.replicate 8 none
  statics := none }

def pool6 : Array CpInfo := pool [(1, u "java/io/Serializable"), (0, .class_ 1), (0, u "java/lang/Object"), (0, .class_ 3)] 3

/-- java/io/Serializable -/
def k6 : Class := { plain "java/io/Serializable" (some 0) with
  accessFlags := 1537
  interfaces := #[]
  cf := some (fileOf pool6 2 #[] #[] 1537 4 #[] #[])
  fields := #[]
  methods := #[]
  instanceTypes := #[]
  staticTypes := #[]
  resolved := Array.replicate 8 none
  statics := none }

/-- the primitive byte -/
def k7 : Class := { plain "byte" none with kind := .primitive 'B', accessFlags := 0x411 }
/-- [B -/
def k8 : Class := { plain "[B" (some 0) with kind := .array 7 .byte, interfaces := #[5, 6], accessFlags := 1041 }

/-- the primitive int -/
def k9 : Class := { plain "int" none with kind := .primitive 'I', accessFlags := 0x411 }
/-- [I -/
def k10 : Class := { plain "[I" (some 0) with kind := .array 9 .int, interfaces := #[5, 6], accessFlags := 1041 }

def heap : Heap := #[]
def classes : Array Class := #[k0, k1, k2, k3, k4, k5, k6, k7, k8, k9, k10]
def interned : List (Array UInt16 × Addr) := []
def slotsUsed : Nat := 0
def theMethod : MethodId := ⟨1, 1⟩
def args0 : Array Value := #[.long 5, .long 61, .long 3, .long 4, .int 1]
def aboutOver (below : List Frame) : State where
  vm := { classes := classes, interned := interned.toArray }
  heap := heap
  slotsUsed := slotsUsed
  threads := #[{ frames := .invoking theMethod args0 :: below }]
def below0 : List Frame := [.native { method := ⟨0, 0⟩, args := #[] }]
def about1 : State := aboutOver below0
def p0 : Program := .bare "" "" ""
def e0 : Env := launch0.env 0 0 0
theorem w_frames : about1.frames = Frame.invoking theMethod args0 :: below0 := rfl
set_option maxRecDepth 65536 in
theorem w_args : argsFit about1.vm theMethod args0 = true := by decide +kernel
set_option maxRecDepth 65536 in
theorem w_heap : heapFits about1 = true := by decide +kernel
set_option maxRecDepth 65536 in
theorem w_runnable : about1.curStatus? = some .runnable := by decide +kernel
set_option maxRecDepth 65536 in
theorem w_alone : about1.alone = true := by decide +kernel
set_option maxRecDepth 65536 in
theorem w_named : about1.methodNamed? x = some theMethod := by decide +kernel
set_option maxRecDepth 65536 in
theorem w_hears : about1.hears theMethod below0 = true := by decide +kernel
set_option maxRecDepth 65536 in
theorem w_ripe : about1.ripe theMethod args0 below0 = true := by decide +kernel
theorem w_running : about1.status = .running := rfl
set_option maxRecDepth 65536 in
theorem w_room : about1.hasRoom e0.platform room_1 = true :=
  launch0.hasRoom_least _ room_1 (by decide +kernel) (by decide +kernel) (by decide +kernel) (by decide +kernel) (by decide +kernel) (by decide +kernel)
theorem allAtoms_all (ts : List Jvm.Cond) (a : Array Jvm.Value) (st : Jvm.State) : (allAtoms ts).before a st = ts.all (fun c => c.before a st) := by
  induction ts with
  | nil => rfl
  | cons c t ih =>
    show (Jvm.Cond.and c (allAtoms t)).before a st = _
    rw [Jvm.Cond.before_and, ih, List.all_cons]
def words1 : List Jvm.Cond := Jvm.Cond.code x code maxLocals ret :: tables_1
/-- a 'code' word, met by the world's own term for the bytes: nothing is compared byte by byte -/
theorem code_word {y : MethodName} {bytes : ByteArray} {mx : Nat} {rt : Option FieldType} {a : Array Value} {s : State} {m : MethodId} {meth : Method} {c : Code} (h1 : s.methodNamed? y = some m) (h2 : s.vm.method? m = some meth) (h3 : meth.code = some c) (h4 : c.code = bytes)
    (h5 : (c.maxLocals == mx && c.exceptionTable.isEmpty && decide (c.maxStack ≤ mostOperands) && decide (meth.sig.returnType = rt) && !meth.locks && decide (parseMethodDescriptor y.desc = some meth.sig)) = true) : (Jvm.Cond.code y bytes mx rt).before a s = true := by
  simp only [Bool.and_eq_true, beq_iff_eq, Bool.not_eq_true', decide_eq_true_eq] at h5
  obtain ⟨⟨⟨⟨⟨g1, g2⟩, g3⟩, g4⟩, g5⟩, g6⟩ := h5
  simp [Cond.before, Cond.holds, Cond.value, h1, h2, h3, h4, g1, g2, g3, g4, g5, g6]
def isCode : Jvm.Cond → Bool
  | .code _ _ _ _ => true
  | _ => false
theorem all_split {L : List Jvm.Cond} {P : Jvm.Cond → Bool} (h1 : L.all (fun c => isCode c || P c) = true) (h2 : ∀ c ∈ L.filter isCode, P c = true) : L.all P = true := by
  refine List.all_eq_true.mpr fun c hc => ?_
  have h := List.all_eq_true.mp h1 c hc
  rcases Bool.eq_false_or_eq_true (isCode c) with hi | hi
  · exact h2 c (List.mem_filter.mpr ⟨hc, hi⟩)
  · simpa [hi] using h
set_option maxRecDepth 65536 in
theorem w_c0 : (Jvm.Cond.code x code maxLocals ret).before args0 about1 = true := code_word (m := ⟨1, 1⟩) (meth := k1m1) (c := k1c1) (by decide +kernel) rfl rfl rfl (by decide +kernel)
set_option maxRecDepth 65536 in
theorem w_c1 : (Jvm.Cond.code ({ cls := "com/example/bogus_tally/bogustally/generate/IdSpread$Laying", name := "<init>", desc := "(JJJJ)V" } : Jvm.MethodName) prog_98_method_1_code (9 : Nat) (Option.none : Option Jvm.ClassFile.FieldType)).before args0 about1 = true := code_word (m := ⟨3, 0⟩) (meth := k3m0) (c := k3c0) (by decide +kernel) rfl rfl rfl (by decide +kernel)
set_option maxRecDepth 65536 in
theorem w_c2 : (Jvm.Cond.code ({ cls := "java/lang/Record", name := "<init>", desc := "()V" } : Jvm.MethodName) jdk_30_method_1_code (1 : Nat) (Option.none : Option Jvm.ClassFile.FieldType)).before args0 about1 = true := code_word (m := ⟨2, 0⟩) (meth := k2m0) (c := k2c0) (by decide +kernel) rfl rfl rfl (by decide +kernel)
set_option maxRecDepth 65536 in
theorem w_c3 : (Jvm.Cond.code ({ cls := "java/lang/Object", name := "<init>", desc := "()V" } : Jvm.MethodName) object_method_1_code (1 : Nat) (Option.none : Option Jvm.ClassFile.FieldType)).before args0 about1 = true := code_word (m := ⟨0, 0⟩) (meth := k0m0) (c := k0c0) (by decide +kernel) rfl rfl rfl (by decide +kernel)
set_option maxRecDepth 65536 in
theorem w_c4 : (Jvm.Cond.code ({ cls := "com/example/bogus_tally/bogustally/generate/IdSpread$Laying", name := "of", desc := "(J)J" } : Jvm.MethodName) prog_98_method_3_code (5 : Nat) (Option.some Jvm.ClassFile.FieldType.long)).before args0 about1 = true := code_word (m := ⟨3, 1⟩) (meth := k3m1) (c := k3c1) (by decide +kernel) rfl rfl rfl (by decide +kernel)
set_option maxRecDepth 65536 in
theorem w_c5 : (Jvm.Cond.code ({ cls := "java/lang/Math", name := "max", desc := "(JJ)J" } : Jvm.MethodName) jdk_29_method_66_code (4 : Nat) (Option.some Jvm.ClassFile.FieldType.long)).before args0 about1 = true := code_word (m := ⟨4, 1⟩) (meth := k4m1) (c := k4c1) (by decide +kernel) rfl rfl rfl (by decide +kernel)
def codes1 : List Jvm.Cond := [Jvm.Cond.code x code maxLocals ret, Jvm.Cond.code ({ cls := "com/example/bogus_tally/bogustally/generate/IdSpread$Laying", name := "<init>", desc := "(JJJJ)V" } : Jvm.MethodName) prog_98_method_1_code (9 : Nat) (Option.none : Option Jvm.ClassFile.FieldType), Jvm.Cond.code ({ cls := "java/lang/Record", name := "<init>", desc := "()V" } : Jvm.MethodName) jdk_30_method_1_code (1 : Nat) (Option.none : Option Jvm.ClassFile.FieldType), Jvm.Cond.code ({ cls := "java/lang/Object", name := "<init>", desc := "()V" } : Jvm.MethodName) object_method_1_code (1 : Nat) (Option.none : Option Jvm.ClassFile.FieldType), Jvm.Cond.code ({ cls := "com/example/bogus_tally/bogustally/generate/IdSpread$Laying", name := "of", desc := "(J)J" } : Jvm.MethodName) prog_98_method_3_code (5 : Nat) (Option.some Jvm.ClassFile.FieldType.long), Jvm.Cond.code ({ cls := "java/lang/Math", name := "max", desc := "(JJ)J" } : Jvm.MethodName) jdk_29_method_66_code (4 : Nat) (Option.some Jvm.ClassFile.FieldType.long)]
set_option maxRecDepth 65536 in
theorem codes_eq : words1.filter isCode = codes1 := rfl
theorem w_codes : ∀ c ∈ words1.filter isCode, c.before args0 about1 = true := by
  rw [codes_eq]
  intro c hc
  simp only [codes1, List.mem_cons, List.not_mem_nil, or_false] at hc
  rcases hc with rfl | rfl | rfl | rfl | rfl | rfl
  · exact w_c0
  · exact w_c1
  · exact w_c2
  · exact w_c3
  · exact w_c4
  · exact w_c5
set_option maxRecDepth 65536 in
theorem w_t1 : (words1.take 24).all (fun c => isCode c || c.before args0 about1) = true := by decide +kernel
set_option maxRecDepth 65536 in
theorem w_t2 : (words1.drop 24).all (fun c => isCode c || c.before args0 about1) = true := by decide +kernel
theorem w_tables : (allAtoms (Jvm.Cond.code x code maxLocals ret :: tables_1)).before args0 about1 = true := by
  rw [allAtoms_all]
  show words1.all (fun c => c.before args0 about1) = true
  refine all_split ?_ w_codes
  rw [← List.take_append_drop 24 words1, List.all_append, w_t1, w_t2]
  rfl
set_option maxRecDepth 65536 in
theorem w_case : (Jvm.Cond.and given_1 narrow_1).before args0 about1 = true := by decide +kernel
theorem w_applies : (headSpec (Jvm.Cond.code x code maxLocals ret :: tables_1) room_1).applies x e0.platform about1 = true :=
  (Spec.applies_iff w_frames).mpr ⟨w_running, w_runnable, w_alone, w_named, w_hears, w_ripe, w_room, w_tables⟩
theorem atStart : AtStart classFile x code maxLocals ret World_1 tables_1 room_1 Calls_1 rest_1 Pre_1 launch0 p0 e0 about1 theMethod args0 below0 :=
  ⟨lists_1, trivial, launch0.admits_env _ _ _, launch0.least_env, fairChoices_fair.cas, fairChoices_fair.clock, w_frames, w_args, w_heap, w_applies, trivial, trivial, w_case⟩
end start1
theorem witness_1 : WitnessClaimed_1 := ⟨start1.p0, start1.e0, start1.about1, start1.theMethod, start1.args0, start1.below0, start1.atStart⟩
end Jvm.Pilot.@@N@@
