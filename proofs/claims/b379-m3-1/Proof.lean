import JvmDerived
import JvmDerived.Pilot.@@N@@Statement
import JvmDerived.Pilot.@@N@@Code
set_option linter.unusedVariables false
set_option linter.unusedSimpArgs false
namespace Jvm.RoadKit
open Sem ClassFile Op Lib Jvm.Stand Jvm.Free Jvm.LawKit
section New
variable {p : Program} {l : Launch} {e : Env} {R : Room} {s : State} {m : MethodId} {args : Array Value} {below : List Frame} {meth : Method} {c : Code} {T : State} {locs : List Loc} {cells slots : Nat}
theorem retI (X : Stand p l e R s m args below meth c T locs cells slots) (hx : p.tables.exec = Jvm.exec) {pc : Nat} {Ls : Array Slot} {z : Int32} {rest : List Value} (hret : meth.sig.returnType = some .int) (hd : decode c.code pc = .ok (.ireturn, 1)) {fs : List Frame}
    (hl : ∀ (f : JFrame) (acts : List Action), f.method = m → f.locked = none → f.entered = [] → (doReturn e (T.setTop f) acts (some (.int z))).1 = T.setFrames fs) : Steps p.tables e below (T.setTop (mkF m pc Ls (.int z :: rest))) (T.setFrames fs) := by
  have hm' : T.vm.method? m = some meth := X.method'
  have hn : narrow .int (.int z) = .int z := rfl
  show Steps p.tables e below (T.setTop { method := m, pc := pc, locals := Ls, stack := _ :: rest, locked := none }) _
  jvm_step X.here [X.here.top, hx, hd, hm', hret, hn]
  first | (intro acts; rw [hl _ acts rfl rfl rfl]) | rw [hl _ _ rfl rfl rfl]
  exact Steps.refl _
theorem retJ (X : Stand p l e R s m args below meth c T locs cells slots) (hx : p.tables.exec = Jvm.exec) {pc : Nat} {Ls : Array Slot} {z : Int64} {rest : List Value} (hret : meth.sig.returnType = some .long) (hd : decode c.code pc = .ok (.lreturn, 1)) {fs : List Frame}
    (hl : ∀ (f : JFrame) (acts : List Action), f.method = m → f.locked = none → f.entered = [] → (doReturn e (T.setTop f) acts (some (.long z))).1 = T.setFrames fs) : Steps p.tables e below (T.setTop (mkF m pc Ls (.long z :: rest))) (T.setFrames fs) :=
  retOut X hx hret rfl (Or.inr (Or.inl ⟨rfl, rfl, z, rfl⟩)) hd hl
theorem retA (X : Stand p l e R s m args below meth c T locs cells slots) (hx : p.tables.exec = Jvm.exec) {pc : Nat} {Ls : Array Slot} {a : Addr} {t : FieldType} {rest : List Value} (hret : meth.sig.returnType = some t) (ht : t.isReference = true) (hd : decode c.code pc = .ok (.areturn, 1)) {fs : List Frame}
    (hl : ∀ (f : JFrame) (acts : List Action), f.method = m → f.locked = none → f.entered = [] → (doReturn e (T.setTop f) acts (some (.ref a))).1 = T.setFrames fs) : Steps p.tables e below (T.setTop (mkF m pc Ls (.ref a :: rest))) (T.setFrames fs) :=
  retOut X hx hret (by cases t <;> first | rfl | (simp [FieldType.isReference] at ht)) (Or.inr (Or.inr (Or.inr (Or.inr ⟨rfl, ht, rfl⟩)))) hd hl
end New
end Jvm.RoadKit
namespace Jvm.Pilot.@@N@@
open Jvm Jvm.ClassFile Sem Op Lib Jvm.Free Jvm.Stand Jvm.LawKit Jvm.RoadKit Bundle Jvm.Pilot.@@N@@.Jvm.D
section OwnKit
variable {p : Program} {l : Launch} {e : Env} {R : Room} {s : State} {m : MethodId} {args : Array Value} {below : List Frame} {meth : Method} {c : Code} {T : State} {locs : List Loc} {cells slots : Nat} {Z : State} {h h' : Heap}
/-- one body's contract, with the walk's goal as a closed predicate K: 'go' takes a step, 'fin' leaves the method -/
theorem own_body {y : MethodName} {bytes : ByteArray} {maxL : Nat} {ret : Option FieldType} {ws : List Jvm.Cond} {rm : Room} {h0 : Heap} {Q : Option Value → Heap → List Loc → Prop} (hp : plainFor y = true)
    (body : ∀ (p : Program) (e : Env) (s : State) (m : MethodId) (below : List Frame) (meth : Method) (c : Code) (s₁ : State) (K : State → Prop),
      (∀ U U', (∀ t, Steps p.tables e below U' t → Steps p.tables e below U t) → K U' → K U) →
      (∀ {T : State} {locs : List Loc} {cells slots : Nat} {g : JFrame} (v : Option Value), Stand p l e rm s m args below meth c T locs cells slots → cells ≤ rm.cells → slots ≤ rm.slots → (ret = none → v = none) → Q v T.heap locs →
        (∀ fs, (∀ (f : JFrame) (acts : List Action), f.method = m → f.locked = none → f.entered = [] → (doReturn e (T.setTop f) acts v).1 = T.setFrames fs) → Steps p.tables e below (T.setTop g) (T.setFrames fs)) → K (T.setTop g)) →
      Stand p l e rm s m args below meth c s₁ [] 0 0 → p.tables.exec = Jvm.exec → c.code = bytes → c.maxLocals = maxL → s.vm.findClass y.cls = some m.cls → meth.name = y.name → meth.sig.returnType = ret → Z.Warmed39 s.vm → s₁.heap = h0 → K (s₁.setTop (entryFrame m args maxL))) :
    MetFree l y (head1 (Jvm.Cond.code y bytes maxL ret :: ws) rm) (fun a U => a = args ∧ Z.Warmed39 U.vm ∧ U.heap = h0) (fun _ _ _ _ _ => True) (fun _ U o U' => ∃ v L, o = .returned v ∧ Q v U'.heap L ∧ FrameEnd U o U' L rm.cells rm.slots) := by
  refine MetFree.of_bodySF hp hisR ?_
  intro p e s m args' below meth c s₁ Bd hml hP hK
  obtain ⟨rfl, hZ, hh⟩ := hP
  refine body p e s m below meth c s₁ (fun U => ∃ s₂ o, Steps p.tables e below U s₂ ∧ s₂.status = .running ∧ Ended s₂ below o ∧ ∃ v L, o = .returned v ∧ Q v s₂.heap L ∧ FrameEnd s o s₂ L rm.cells rm.slots) ?_ ?_ (Stand.of_body Bd) Bd.exec Bd.bytes hml (findClass_of_methodNamed Bd.named) (name_of_methodNamed Bd.named Bd.method).1 Bd.returns hZ (by rw [← hh, Bd.state]; rfl)
  · rintro U U' st ⟨s₂, o, h1, h2⟩
    exact ⟨s₂, o, st _ h1, h2⟩
  · intro T locs cells slots g v X hc hs hv hQ hst
    obtain ⟨fs, hr, hrun, hended, hW, hsame⟩ := X.leave (v := v) (fun q => hv (Bd.returns ▸ q))
    exact ⟨_, _, hst fs hr, hrun, hended, v, locs, rfl, hQ, ⟨_, rfl⟩, hW, hsame.mono hc hs⟩
/-! Java's shifts and the narrowing to a byte -/
def jushr (x y : Int32) : Int32 := (x.toUInt32 >>> (y &&& 31).toUInt32).toInt32
def jshl (x y : Int32) : Int32 := x <<< (y &&& 31)
def jshr (x y : Int32) : Int32 := x >>> (y &&& 31)
def jushrL (x : Int64) (y : Int32) : Int64 := (x.toUInt64 >>> (y &&& 0x3f).toInt64.toUInt64).toInt64
def jshlL (x : Int64) (y : Int32) : Int64 := x <<< (y &&& 0x3f).toInt64
def jshrL (x : Int64) (y : Int32) : Int64 := x >>> (y &&& 0x3f).toInt64
def jb (x : Int32) : Int32 := x.toInt8.toInt32
theorem own_lrem {g : JFrame} {target : State} (X : Stand p l e R s m args below meth c T locs cells slots) (hx : p.tables.exec = Jvm.exec) (hg : g.method = m) {x y : Int64} {rest : List Value} (hd : decode c.code g.pc = .ok (.lrem, 1)) (hs : g.stack = .long y :: .long x :: rest) (hy : y ≠ 0)
    (hr : Steps p.tables e below (T.setTop { g with pc := g.pc + 1, stack := .long (x % y) :: rest }) target) : Steps p.tables e below (T.setTop g) target :=
  XS.lrem X.here hx hg hd hs hy (by rw [lrem_mod]; exact hr)
theorem own_narb (x : Int32) : nar .byte (jb x) = jb x := by simp [nar, jb]
/-! an array by its length and what its places hold -/
def own_upd (f : Nat → Value) (i : Nat) (v : Value) : Nat → Value := fun j => if j = i then v else f j
theorem own_hit (f : Nat → Value) (i : Nat) (v : Value) : own_upd f i v i = v := if_pos rfl
theorem own_miss {f : Nat → Value} {i j : Nat} {v : Value} (q : j ≠ i) : own_upd f i v j = f j := if_neg q
def AF (Z : State) (h : Heap) (a : Addr) (ty : FieldType) (n : Nat) (f : Nat → Value) : Prop := n < 2 ^ 31 ∧ ∃ c : Cell, Arr Z h a c ty ∧ c.slots.size = n ∧ ∀ j, j < n → c.slots[j]? = some (f j)
theorem AF.lt {a : Addr} {ty : FieldType} {n : Nat} {f : Nat → Value} (A : AF Z h a ty n f) : a < h.size := by obtain ⟨-, c, A, -⟩ := A; exact A.lt
theorem AF.ext {a : Addr} {ty : FieldType} {n : Nat} {f : Nat → Value} (A : AF Z h a ty n f) (E : Ext h h') : AF Z h' a ty n f := by obtain ⟨q, c, A, r⟩ := A; exact ⟨q, c, A.ext E, r⟩
theorem AF.other {a b : Addr} {sl : Nat} {v : Value} {ty : FieldType} {n : Nat} {f : Nat → Value} (A : AF Z h b ty n f) (W : Wr h h' a sl v) (q : b ≠ a) : AF Z h' b ty n f := by obtain ⟨q1, c, A, r⟩ := A; exact ⟨q1, c, A.other W q, r⟩
theorem AF.keep {a : Addr} {ws : List Addr} {ty : FieldType} {n : Nat} {f : Nat → Value} (A : AF Z h a ty n f) (K : Keep h h' ws) (q : a ∉ ws) : AF Z h' a ty n f := by obtain ⟨q1, c, A, r⟩ := A; exact ⟨q1, c, ⟨K.2.1 a c A.1 q, A.2⟩, r⟩
theorem AF.congr {a : Addr} {ty : FieldType} {n : Nat} {f f' : Nat → Value} (A : AF Z h a ty n f) (q : ∀ j, j < n → f j = f' j) : AF Z h a ty n f' := by obtain ⟨q1, c, A, S, r⟩ := A; exact ⟨q1, c, A, S, fun j hj => by rw [← q j hj]; exact r j hj⟩
theorem AF.len {a : Addr} {ty : FieldType} {n : Nat} {f : Nat → Value} (A : AF Z h a ty n f) : n < 2 ^ 31 := A.1
theorem own_idx {j : Int32} {i : Nat} (hj : j.toInt = (i : Int)) : j.toNatClampNeg = i := by simp only [Int32.toNatClampNeg, hj]; omega
theorem own_in {j : Int32} {i n : Nat} {c : Cell} (S : c.slots.size = n) (hj : j.toInt = (i : Int)) (hi : i < n) : ¬ (j < 0 ∨ c.slots.size ≤ j.toNatClampNeg) := by
  rw [own_idx hj, S, Int32.lt_iff_toInt_lt, hj]
  simp only [Int32.toInt_zero]
  omega
theorem own_set {a : Addr} {ty : FieldType} {n i : Nat} {f : Nat → Value} {cl : Cell} {v : Value} (q1 : n < 2 ^ 31) (A : Arr Z h a cl ty) (S : cl.slots.size = n) (H : ∀ j, j < n → cl.slots[j]? = some (f j)) (W : Wr h h' a i v) (hi : i < n) : AF Z h' a ty n (own_upd f i v) := by
  refine ⟨q1, _, A.same W, by rw [sz_set]; exact S, fun j hj => ?_⟩
  simp only [Cell.setSlot, own_upd]
  by_cases q : j = i
  · subst q; rw [if_pos rfl]; simp [S, hj]
  · rw [if_neg q, Array.getElem?_setIfInBounds_ne (fun z => q z.symm)]; exact H j hj
theorem own_stI (X : Stand p l e R s m args below meth c T locs cells slots) (hx : p.tables.exec = Jvm.exec) (hZ : Z.Warmed39 s.vm) (eT : T.heap = h) {a : Addr} {n i : Nat} {f : Nat → Value} (A : AF Z h a .int n f) {j x : Int32} (hj : j.toInt = (i : Int)) (hi : i < n) {g : JFrame} (hg : g.method = m) {rest : List Value} (hs : g.stack = .int x :: .int j :: .ref a :: rest) (hd : decode c.code g.pc = .ok (.iastore, 1)) :
    ∃ T' h', Stand p l e R s m args below meth c T' (locs ++ [⟨a, i⟩]) cells slots ∧ T'.heap = h' ∧ Wr h h' a i (.int x) ∧ AF Z h' a .int n (own_upd f i (.int x)) ∧ ∀ target, Steps p.tables e below (T'.setTop { g with pc := g.pc + 1, stack := rest }) target → Steps p.tables e below (T.setTop g) target := by
  obtain ⟨q1, cl, Ar, S, H⟩ := A
  obtain ⟨T', h', X', e', W, st⟩ := stI X hx hZ eT Ar (j := j) (own_in S hj hi) hg hs hd
  rw [own_idx hj] at X' W
  exact ⟨T', h', X', e', W, own_set q1 Ar S H W hi, st⟩
theorem own_stJ (X : Stand p l e R s m args below meth c T locs cells slots) (hx : p.tables.exec = Jvm.exec) (hZ : Z.Warmed39 s.vm) (eT : T.heap = h) {a : Addr} {n i : Nat} {f : Nat → Value} (A : AF Z h a .long n f) {j : Int32} {x : Int64} (hj : j.toInt = (i : Int)) (hi : i < n) {g : JFrame} (hg : g.method = m) {rest : List Value} (hs : g.stack = .long x :: .int j :: .ref a :: rest) (hd : decode c.code g.pc = .ok (.lastore, 1)) :
    ∃ T' h', Stand p l e R s m args below meth c T' (locs ++ [⟨a, i⟩]) cells slots ∧ T'.heap = h' ∧ Wr h h' a i (.long x) ∧ AF Z h' a .long n (own_upd f i (.long x)) ∧ ∀ target, Steps p.tables e below (T'.setTop { g with pc := g.pc + 1, stack := rest }) target → Steps p.tables e below (T.setTop g) target := by
  obtain ⟨q1, cl, Ar, S, H⟩ := A
  obtain ⟨T', h', X', e', W, st⟩ := stJ X hx hZ eT Ar (j := j) (own_in S hj hi) hg hs hd
  rw [own_idx hj] at X' W
  exact ⟨T', h', X', e', W, own_set q1 Ar S H W hi, st⟩
theorem own_stB (X : Stand p l e R s m args below meth c T locs cells slots) (hx : p.tables.exec = Jvm.exec) (hZ : Z.Warmed39 s.vm) (eT : T.heap = h) {a : Addr} {n i : Nat} {f : Nat → Value} (A : AF Z h a .byte n f) {j x : Int32} (hj : j.toInt = (i : Int)) (hi : i < n) (hn : nar .byte x = x) {g : JFrame} (hg : g.method = m) {rest : List Value} (hs : g.stack = .int x :: .int j :: .ref a :: rest) (hd : decode c.code g.pc = .ok (.bastore, 1)) :
    ∃ T' h', Stand p l e R s m args below meth c T' (locs ++ [⟨a, i⟩]) cells slots ∧ T'.heap = h' ∧ Wr h h' a i (.int x) ∧ AF Z h' a .byte n (own_upd f i (.int x)) ∧ ∀ target, Steps p.tables e below (T'.setTop { g with pc := g.pc + 1, stack := rest }) target → Steps p.tables e below (T.setTop g) target := by
  obtain ⟨q1, cl, Ar, S, H⟩ := A
  obtain ⟨T', h', X', e', W, st⟩ := stB X hx hZ eT Ar (j := j) (own_in S hj hi) hg hs hd
  rw [own_idx hj] at X' W
  rw [hn] at W
  exact ⟨T', h', X', e', W, own_set q1 Ar S H W hi, st⟩
theorem own_new (X : Stand p l e R s m args below meth c T locs cells slots) (hx : p.tables.exec = Jvm.exec) (hZ : Z.Warmed39 s.vm) {a0 : Array Value} {aty : ArrayType} (w : (Cond.arrayClass (newarray.typeOf aty)).before a0 Z = true) (eT : T.heap = h) {g : JFrame} (hg : g.method = m) (hd : decode c.code g.pc = .ok (.newarray aty, 2)) {n : Int32} {rest : List Value} (hs : g.stack = .int n :: rest)
    {k : Nat} (hn : n.toInt = (k : Int)) (cap : Nat) (hcap : k ≤ cap) (hb : cap * 8 ≤ 536870912) (hc : cells + 1 ≤ R.cells) (hl : slots + cap ≤ R.slots) :
    ∃ T' h' a, Stand p l e R s m args below meth c T' locs (cells + 1) (slots + cap) ∧ T'.heap = h' ∧ Ext h h' ∧ a = h.size ∧ AF Z h' a (newarray.typeOf aty) k (fun _ => defaultValue (newarray.typeOf aty)) ∧
      ∀ target, Steps p.tables e below (T'.setTop { g with pc := g.pc + 2, stack := .ref a :: rest }) target → Steps p.tables e below (T.setTop g) target := by
  have hn0 : ¬ n < 0 := by rw [Int32.lt_iff_toInt_lt, hn]; simp only [Int32.toInt_zero]; omega
  have hk : n.toNatClampNeg = k := own_idx hn
  have hk31 : k < 2 ^ 31 := by have := n.toInt_lt; omega
  obtain ⟨T', h', cA, X', e', E, A, st⟩ := newP X hx hZ w eT hg hd hs hn0 (by rw [hk]; exact hcap) hb hc hl
  refine ⟨T', h', h.size, X', e', E, rfl, ⟨hk31, _, A, by rw [sz_new, hk], fun j hj => ?_⟩, st⟩
  simp [newA, hk, hj]
theorem own_ldI (X : Stand p l e R s m args below meth c T locs cells slots) (hx : p.tables.exec = Jvm.exec) (hZ : Z.Warmed39 s.vm) (eT : T.heap = h) {a : Addr} {n i : Nat} {f : Nat → Value} (A : AF Z h a .int n f) {j : Int32} (hj : j.toInt = (i : Int)) (hi : i < n) {g : JFrame} (hg : g.method = m) {rest : List Value} (hs : g.stack = .int j :: .ref a :: rest) (hd : decode c.code g.pc = .ok (.iaload, 1)) {v : Value} (hv : f i = v) (target : State)
    (hr : Steps p.tables e below (T.setTop { g with pc := g.pc + 1, stack := v :: rest }) target) : Steps p.tables e below (T.setTop g) target := by
  obtain ⟨-, cl, Ar, S, H⟩ := A
  exact X.iaload hx (j := j) (v := v) (by rw [eT]; exact Ar.1) (State.isArrayOf_alike hZ.alike Ar.2.1) Ar.2.2 (own_in S hj hi) (by rw [own_idx hj, ← hv]; exact H i hi) hg hs hd target hr
theorem own_ldJ (X : Stand p l e R s m args below meth c T locs cells slots) (hx : p.tables.exec = Jvm.exec) (hZ : Z.Warmed39 s.vm) (eT : T.heap = h) {a : Addr} {n i : Nat} {f : Nat → Value} (A : AF Z h a .long n f) {j : Int32} (hj : j.toInt = (i : Int)) (hi : i < n) {g : JFrame} (hg : g.method = m) {rest : List Value} (hs : g.stack = .int j :: .ref a :: rest) (hd : decode c.code g.pc = .ok (.laload, 1)) {v : Value} (hv : f i = v) (target : State)
    (hr : Steps p.tables e below (T.setTop { g with pc := g.pc + 1, stack := v :: rest }) target) : Steps p.tables e below (T.setTop g) target := by
  obtain ⟨-, cl, Ar, S, H⟩ := A
  exact X.laload hx (j := j) (v := v) (by rw [eT]; exact Ar.1) (State.isArrayOf_alike hZ.alike Ar.2.1) Ar.2.2 (own_in S hj hi) (by rw [own_idx hj, ← hv]; exact H i hi) hg hs hd target hr
theorem own_ldB (X : Stand p l e R s m args below meth c T locs cells slots) (hx : p.tables.exec = Jvm.exec) (hZ : Z.Warmed39 s.vm) (eT : T.heap = h) {a : Addr} {n i : Nat} {f : Nat → Value} (A : AF Z h a .byte n f) {j : Int32} (hj : j.toInt = (i : Int)) (hi : i < n) {g : JFrame} (hg : g.method = m) {rest : List Value} (hs : g.stack = .int j :: .ref a :: rest) (hd : decode c.code g.pc = .ok (.baload, 1)) {v : Value} (hv : f i = v) (target : State)
    (hr : Steps p.tables e below (T.setTop { g with pc := g.pc + 1, stack := v :: rest }) target) : Steps p.tables e below (T.setTop g) target := by
  obtain ⟨-, cl, Ar, S, H⟩ := A
  exact X.baloadBytes hx (j := j) (v := v) (by rw [eT]; exact Ar.1) (State.isArrayOf_alike hZ.alike Ar.2.1) Ar.2.2 (own_in S hj hi) (by rw [own_idx hj, ← hv]; exact H i hi) hg hs hd target hr
theorem own_len (X : Stand p l e R s m args below meth c T locs cells slots) (hx : p.tables.exec = Jvm.exec) (hZ : Z.Warmed39 s.vm) (eT : T.heap = h) {a : Addr} {ty : FieldType} {n : Nat} {f : Nat → Value} (A : AF Z h a ty n f) {g : JFrame} (hg : g.method = m) {rest : List Value} (hs : g.stack = .ref a :: rest) (hd : decode c.code g.pc = .ok (.arraylength, 1)) (target : State)
    (hr : Steps p.tables e below (T.setTop { g with pc := g.pc + 1, stack := .int (Int32.ofNat n) :: rest }) target) : Steps p.tables e below (T.setTop g) target := by
  obtain ⟨-, cl, Ar, S, H⟩ := A
  refine X.arraylength hx (by rw [eT]; exact Ar.1) (State.isArrayOf_alike hZ.alike Ar.2.1) hg hs hd target ?_
  rw [S]; exact hr
end OwnKit
theorem pd_1 : parseMethodDescriptor "([I[I)V" = some ⟨[(.array .int), (.array .int)], none⟩ := by decide +kernel
theorem pd_2 : parseMethodDescriptor "()I" = some ⟨[], some .int⟩ := by decide +kernel
theorem d1_0 : decode prog_31_method_1_code 0 = .ok (.aload_n 0, 1) := by decide +kernel
theorem d1_1 : decode prog_31_method_1_code 1 = .ok (.invokespecial 1, 3) := by decide +kernel
theorem d1_4 : decode prog_31_method_1_code 4 = .ok (.aload_n 0, 1) := by decide +kernel
theorem d1_5 : decode prog_31_method_1_code 5 = .ok (.aload_n 1, 1) := by decide +kernel
theorem d1_6 : decode prog_31_method_1_code 6 = .ok (.putfield 7, 3) := by decide +kernel
theorem d1_9 : decode prog_31_method_1_code 9 = .ok (.aload_n 0, 1) := by decide +kernel
theorem d1_10 : decode prog_31_method_1_code 10 = .ok (.aload_n 2, 1) := by decide +kernel
theorem d1_11 : decode prog_31_method_1_code 11 = .ok (.putfield 13, 3) := by decide +kernel
theorem d1_14 : decode prog_31_method_1_code 14 = .ok (.return_, 1) := by decide +kernel
theorem pn_4 : plainName "com/example/lambro/lambro/IntRows" = true := by first | (simp [plainName, overriddenIn]; done) | decide +kernel
theorem ef_rm1 (m : MethodId) (a1 : Addr) (a2 : Addr) (a3 : Addr) : entryFrame m #[(.ref a1), (.ref a2), (.ref a3)] 3 = mkF m 0 #[.val (.ref a1), .val (.ref a2), .val (.ref a3)] [] := by first | (simp [entryFrame, mkF, argsToLocals, Value.category]; done) | rfl
def Q_rm1 (Z : State) (a1 : Addr) (a2 : Addr) (a3 : Addr) (h0 : Heap) (n0 : Nat) (v : Option Value) (h : Heap) (L : List Loc) : Prop := v = none ∧ Fr n0 L ∧ Keep h0 h [a1] ∧ Exa Z h a1 "com/example/lambro/lambro/IntRows" ∧ Fld Z h a1 "com/example/lambro/lambro/IntRows" "starts" "[I" (.ref a2) ∧ Fld Z h a1 "com/example/lambro/lambro/IntRows" "values" "[I" (.ref a3)
set_option maxRecDepth 65536 in
set_option maxHeartbeats 40000000 in
theorem rm1 (l : Launch) (Z : State) (a0 : Array Value) (hw : ∀ d ∈ tables_1, d.before a0 Z = true) (ws : List Jvm.Cond) (a1 : Addr) (a2 : Addr) (a3 : Addr) (h0 : Heap) (n0 : Nat) (Z0 : n0 ≤ h0.size) (E0 : Exa Z h0 a1 "com/example/lambro/lambro/IntRows") (F0 : Fld Z h0 a1 "com/example/lambro/lambro/IntRows" "starts" "[I" .null) (F1 : Fld Z h0 a1 "com/example/lambro/lambro/IntRows" "values" "[I" .null) (g0 : n0 ≤ a1) :
    MetFree l (⟨"com/example/lambro/lambro/IntRows", "<init>", "([I[I)V"⟩ : MethodName) (head1 (Jvm.Cond.code (⟨"com/example/lambro/lambro/IntRows", "<init>", "([I[I)V"⟩ : MethodName) prog_31_method_1_code 3 none :: ws) ({ frames := 1, cells := 0, slots := 0, locals := 12 } : Room)) (fun a U => a = #[(.ref a1), (.ref a2), (.ref a3)] ∧ Z.Warmed39 U.vm ∧ U.heap = h0) (fun _ _ _ _ _ => True) (fun _ U o U' => ∃ v L, o = .returned v ∧ Q_rm1 Z a1 a2 a3 h0 n0 v U'.heap L ∧ FrameEnd U o U' L ({ frames := 1, cells := 0, slots := 0, locals := 12 } : Room).cells ({ frames := 1, cells := 0, slots := 0, locals := 12 } : Room).slots) := by
  refine own_body (Q := Q_rm1 Z a1 a2 a3 h0 n0) (plainFor_of_name pn_4) ?_
  intro p e s m below meth c s₁ K go fin X0 hx hby hml hown hnm hret hZ e0
  have hown : s.vm.findClass "com/example/lambro/lambro/IntRows" = some m.cls := hown
  have N0 := Fr.nil n0
  have K0 : Keep h0 h0 [a1] := Keep.refl h0 _
  refine go _ (s₁.setTop (mkF m 0 #[.val (.ref a1), .val (.ref a2), .val (.ref a3)] [])) (fun t k => castTop (ef_rm1 m a1 a2 a3) k) ?_
  refine go _ (s₁.setTop (mkF m 1 #[.val (.ref a1), .val (.ref a2), .val (.ref a3)] [(.ref a1)])) (fun t k => XS.aloadN X0.here hx rfl (hb hby d1_0) rfl rfl k) ?_
  obtain ⟨T1, X1, e1, st1⟩ := initO X0 hx hZ hown (hw _ (List.mem_of_getElem? (i := 7) rfl)) (hw _ (List.mem_of_getElem? (i := 8) rfl)) (hw _ (List.mem_of_getElem? (i := 9) rfl)) e0 (g := (mkF m 1 #[.val (.ref a1), .val (.ref a2), .val (.ref a3)] [(.ref a1)])) rfl (by rw [hml]; rfl) rfl (hb hby d1_1) (by decide) (W := 0) (by show 2 * 0 + _ ≤ _; exact Nat.le_of_eq rfl) (by decide)
  refine go _ (T1.setTop (mkF m 4 #[.val (.ref a1), .val (.ref a2), .val (.ref a3)] [])) (st1) ?_
  refine go _ (T1.setTop (mkF m 5 #[.val (.ref a1), .val (.ref a2), .val (.ref a3)] [(.ref a1)])) (fun t k => XS.aloadN X1.here hx rfl (hb hby d1_4) rfl rfl k) ?_
  refine go _ (T1.setTop (mkF m 6 #[.val (.ref a1), .val (.ref a2), .val (.ref a3)] [(.ref a2), (.ref a1)])) (fun t k => XS.aloadN X1.here hx rfl (hb hby d1_5) rfl rfl k) ?_
  obtain ⟨T2, h2, X2, e2, W2, st2⟩ := putF X1 hx hZ hown (host := "") (Or.inl (hw _ (List.mem_of_getElem? (i := 10) rfl))) Via.refl e1 F0 E0 (Or.inr ⟨(hw _ (List.mem_of_getElem? (i := 11) rfl)), rfl, hnm⟩) (hw _ (List.mem_of_getElem? (i := 2) rfl)) (ty := (.array .int)) (by decide) rfl rfl (g := (mkF m 6 #[.val (.ref a1), .val (.ref a2), .val (.ref a3)] [(.ref a2), (.ref a1)])) rfl rfl (hb hby d1_6)
  have Fw2 := F0.same W2
  have B3 := E0.wr W2
  have F4 := F1.other W2 (Or.inr (slot_ne (Or.inr (hw _ (List.mem_of_getElem? (i := 13) rfl))) (Or.inr (hw _ (List.mem_of_getElem? (i := 11) rfl))) (by decide) (t := (.array .int)) (t' := (.array .int)) (by decide) (by decide)))
  have Z5 : n0 ≤ h2.size := by rw [W2.size]; exact Z0
  have N6 := Fr.snoc X2 N0 g0
  have K7 := K0.wr W2 (Or.inl (by simp))
  refine go _ (T2.setTop (mkF m 9 #[.val (.ref a1), .val (.ref a2), .val (.ref a3)] [])) (st2) ?_
  refine go _ (T2.setTop (mkF m 10 #[.val (.ref a1), .val (.ref a2), .val (.ref a3)] [(.ref a1)])) (fun t k => XS.aloadN X2.here hx rfl (hb hby d1_9) rfl rfl k) ?_
  refine go _ (T2.setTop (mkF m 11 #[.val (.ref a1), .val (.ref a2), .val (.ref a3)] [(.ref a3), (.ref a1)])) (fun t k => XS.aloadN X2.here hx rfl (hb hby d1_10) rfl rfl k) ?_
  obtain ⟨T8, h8, X8, e8, W8, st8⟩ := putF X2 hx hZ hown (host := "") (Or.inl (hw _ (List.mem_of_getElem? (i := 12) rfl))) Via.refl e2 F4 B3 (Or.inr ⟨(hw _ (List.mem_of_getElem? (i := 13) rfl)), rfl, hnm⟩) (hw _ (List.mem_of_getElem? (i := 2) rfl)) (ty := (.array .int)) (by decide) rfl rfl (g := (mkF m 11 #[.val (.ref a1), .val (.ref a2), .val (.ref a3)] [(.ref a3), (.ref a1)])) rfl rfl (hb hby d1_11)
  have Fw8 := F4.same W8
  have B9 := B3.wr W8
  have F10 := Fw2.other W8 (Or.inr (slot_ne (Or.inr (hw _ (List.mem_of_getElem? (i := 11) rfl))) (Or.inr (hw _ (List.mem_of_getElem? (i := 13) rfl))) (by decide) (t := (.array .int)) (t' := (.array .int)) (by decide) (by decide)))
  have Z11 : n0 ≤ h8.size := by rw [W8.size]; exact Z5
  have N12 := Fr.snoc X8 N6 g0
  have K13 := K7.wr W8 (Or.inl (by simp))
  refine go _ (T8.setTop (mkF m 14 #[.val (.ref a1), .val (.ref a2), .val (.ref a3)] [])) (st8) ?_
  exact fin none X8 (by decide) (by decide) (fun _ => rfl) (show Q_rm1 Z a1 a2 a3 h0 n0 _ T8.heap _ from (by rw [e8]; exact ⟨rfl, N12, K13, B9, F10, Fw8⟩)) (fun fs hr => X8.returnOut hx hret (hb hby d1_14) hr)
theorem d3_0 : decode prog_31_method_4_code 0 = .ok (.aload_n 0, 1) := by decide +kernel
theorem d3_1 : decode prog_31_method_4_code 1 = .ok (.getfield 7, 3) := by decide +kernel
theorem d3_4 : decode prog_31_method_4_code 4 = .ok (.arraylength, 1) := by decide +kernel
theorem d3_5 : decode prog_31_method_4_code 5 = .ok (.iconst 1, 1) := by decide +kernel
theorem d3_6 : decode prog_31_method_4_code 6 = .ok (.isub, 1) := by decide +kernel
theorem d3_7 : decode prog_31_method_4_code 7 = .ok (.ireturn, 1) := by decide +kernel
theorem ef_rm3 (m : MethodId) (a1 : Addr) : entryFrame m #[(.ref a1)] 1 = mkF m 0 #[.val (.ref a1)] [] := by first | (simp [entryFrame, mkF, argsToLocals, Value.category]; done) | rfl
def Q_rm3 (Z : State) (a1 : Addr) (b : Addr) (n : Nat) (f : Nat → Value) (h0 : Heap) (n0 : Nat) (v : Option Value) (h : Heap) (L : List Loc) : Prop := v = some (.int (Int32.ofNat n - (1 : Int32))) ∧ Fr n0 L ∧ h = h0
set_option maxRecDepth 65536 in
set_option maxHeartbeats 40000000 in
theorem rm3 (l : Launch) (Z : State) (a0 : Array Value) (hw : ∀ d ∈ tables_1, d.before a0 Z = true) (ws : List Jvm.Cond) (a1 : Addr) (b : Addr) (n : Nat) (f : Nat → Value) (h0 : Heap) (n0 : Nat) (Z0 : n0 ≤ h0.size) (F0 : Fld Z h0 a1 "com/example/lambro/lambro/IntRows" "starts" "[I" (.ref b)) (A0 : AF Z h0 b .int n f) :
    MetFree l (⟨"com/example/lambro/lambro/IntRows", "rows", "()I"⟩ : MethodName) (head1 (Jvm.Cond.code (⟨"com/example/lambro/lambro/IntRows", "rows", "()I"⟩ : MethodName) prog_31_method_4_code 1 (some .int) :: ws) ({ frames := 0, cells := 0, slots := 0, locals := 0 } : Room)) (fun a U => a = #[(.ref a1)] ∧ Z.Warmed39 U.vm ∧ U.heap = h0) (fun _ _ _ _ _ => True) (fun _ U o U' => ∃ v L, o = .returned v ∧ Q_rm3 Z a1 b n f h0 n0 v U'.heap L ∧ FrameEnd U o U' L ({ frames := 0, cells := 0, slots := 0, locals := 0 } : Room).cells ({ frames := 0, cells := 0, slots := 0, locals := 0 } : Room).slots) := by
  refine own_body (Q := Q_rm3 Z a1 b n f h0 n0) (plainFor_of_name pn_4) ?_
  intro p e s m below meth c s₁ K go fin X0 hx hby hml hown hnm hret hZ e0
  have hown : s.vm.findClass "com/example/lambro/lambro/IntRows" = some m.cls := hown
  have N0 := Fr.nil n0
  refine go _ (s₁.setTop (mkF m 0 #[.val (.ref a1)] [])) (fun t k => castTop (ef_rm3 m a1) k) ?_
  refine go _ (s₁.setTop (mkF m 1 #[.val (.ref a1)] [(.ref a1)])) (fun t k => XS.aloadN X0.here hx rfl (hb hby d3_0) rfl rfl k) ?_
  obtain ⟨T14, X14, e14, st14⟩ := getF X0 hx hZ hown (host := "") (Or.inl (hw _ (List.mem_of_getElem? (i := 10) rfl))) Via.refl e0 F0 (g := (mkF m 1 #[.val (.ref a1)] [(.ref a1)])) rfl rfl (hb hby d3_1)
  refine go _ (T14.setTop (mkF m 4 #[.val (.ref a1)] [(.ref b)])) (st14) ?_
  refine go _ (T14.setTop (mkF m 5 #[.val (.ref a1)] [(.int (Int32.ofNat n))])) (own_len X14 hx hZ e14 A0 (g := (mkF m 4 #[.val (.ref a1)] [(.ref b)])) rfl rfl (hb hby d3_4)) ?_
  refine go _ (T14.setTop (mkF m 6 #[.val (.ref a1)] [(.int (1 : Int32)), (.int (Int32.ofNat n))])) (fun t k => XS.iconst X14.here hx rfl (hb hby d3_5) k) ?_
  refine go _ (T14.setTop (mkF m 7 #[.val (.ref a1)] [(.int ((Int32.ofNat n) - (1 : Int32)))])) (fun t k => XS.isub X14.here hx rfl (hb hby d3_6) rfl k) ?_
  exact fin (some (.int ((Int32.ofNat n) - (1 : Int32)))) X14 (by decide) (by decide) (fun q => by cases q) (show Q_rm3 Z a1 b n f h0 n0 _ T14.heap _ from (by rw [e14]; exact ⟨rfl, N0, rfl⟩)) (fun fs hr => retI X14 hx hret (hb hby d3_7) hr)
theorem d4_0 : decode prog_31_method_5_code 0 = .ok (.aload_n 0, 1) := by decide +kernel
theorem d4_1 : decode prog_31_method_5_code 1 = .ok (.getfield 7, 3) := by decide +kernel
theorem d4_4 : decode prog_31_method_5_code 4 = .ok (.aload_n 0, 1) := by decide +kernel
theorem d4_5 : decode prog_31_method_5_code 5 = .ok (.getfield 7, 3) := by decide +kernel
theorem d4_8 : decode prog_31_method_5_code 8 = .ok (.arraylength, 1) := by decide +kernel
theorem d4_9 : decode prog_31_method_5_code 9 = .ok (.iconst 1, 1) := by decide +kernel
theorem d4_10 : decode prog_31_method_5_code 10 = .ok (.isub, 1) := by decide +kernel
theorem d4_11 : decode prog_31_method_5_code 11 = .ok (.iaload, 1) := by decide +kernel
theorem d4_12 : decode prog_31_method_5_code 12 = .ok (.ireturn, 1) := by decide +kernel
theorem ef_rm4 (m : MethodId) (a1 : Addr) : entryFrame m #[(.ref a1)] 1 = mkF m 0 #[.val (.ref a1)] [] := by first | (simp [entryFrame, mkF, argsToLocals, Value.category]; done) | rfl
def Q_rm4 (Z : State) (a1 : Addr) (b : Addr) (n : Nat) (f : Nat → Value) (i : Nat) (y : Int32) (h0 : Heap) (n0 : Nat) (v : Option Value) (h : Heap) (L : List Loc) : Prop := v = some (.int y) ∧ Fr n0 L ∧ h = h0
set_option maxRecDepth 65536 in
set_option maxHeartbeats 40000000 in
theorem rm4 (l : Launch) (Z : State) (a0 : Array Value) (hw : ∀ d ∈ tables_1, d.before a0 Z = true) (ws : List Jvm.Cond) (a1 : Addr) (b : Addr) (n : Nat) (f : Nat → Value) (i : Nat) (y : Int32) (h0 : Heap) (n0 : Nat) (Z0 : n0 ≤ h0.size) (F0 : Fld Z h0 a1 "com/example/lambro/lambro/IntRows" "starts" "[I" (.ref b)) (A0 : AF Z h0 b .int n f) (hj : (Int32.ofNat n - (1 : Int32)).toInt = (i : Int)) (hi : i < n) (hv : f i = .int y) :
    MetFree l (⟨"com/example/lambro/lambro/IntRows", "count", "()I"⟩ : MethodName) (head1 (Jvm.Cond.code (⟨"com/example/lambro/lambro/IntRows", "count", "()I"⟩ : MethodName) prog_31_method_5_code 1 (some .int) :: ws) ({ frames := 0, cells := 0, slots := 0, locals := 0 } : Room)) (fun a U => a = #[(.ref a1)] ∧ Z.Warmed39 U.vm ∧ U.heap = h0) (fun _ _ _ _ _ => True) (fun _ U o U' => ∃ v L, o = .returned v ∧ Q_rm4 Z a1 b n f i y h0 n0 v U'.heap L ∧ FrameEnd U o U' L ({ frames := 0, cells := 0, slots := 0, locals := 0 } : Room).cells ({ frames := 0, cells := 0, slots := 0, locals := 0 } : Room).slots) := by
  refine own_body (Q := Q_rm4 Z a1 b n f i y h0 n0) (plainFor_of_name pn_4) ?_
  intro p e s m below meth c s₁ K go fin X0 hx hby hml hown hnm hret hZ e0
  have hown : s.vm.findClass "com/example/lambro/lambro/IntRows" = some m.cls := hown
  have N0 := Fr.nil n0
  refine go _ (s₁.setTop (mkF m 0 #[.val (.ref a1)] [])) (fun t k => castTop (ef_rm4 m a1) k) ?_
  refine go _ (s₁.setTop (mkF m 1 #[.val (.ref a1)] [(.ref a1)])) (fun t k => XS.aloadN X0.here hx rfl (hb hby d4_0) rfl rfl k) ?_
  obtain ⟨T15, X15, e15, st15⟩ := getF X0 hx hZ hown (host := "") (Or.inl (hw _ (List.mem_of_getElem? (i := 10) rfl))) Via.refl e0 F0 (g := (mkF m 1 #[.val (.ref a1)] [(.ref a1)])) rfl rfl (hb hby d4_1)
  refine go _ (T15.setTop (mkF m 4 #[.val (.ref a1)] [(.ref b)])) (st15) ?_
  refine go _ (T15.setTop (mkF m 5 #[.val (.ref a1)] [(.ref a1), (.ref b)])) (fun t k => XS.aloadN X15.here hx rfl (hb hby d4_4) rfl rfl k) ?_
  obtain ⟨T16, X16, e16, st16⟩ := getF X15 hx hZ hown (host := "") (Or.inl (hw _ (List.mem_of_getElem? (i := 10) rfl))) Via.refl e15 F0 (g := (mkF m 5 #[.val (.ref a1)] [(.ref a1), (.ref b)])) rfl rfl (hb hby d4_5)
  refine go _ (T16.setTop (mkF m 8 #[.val (.ref a1)] [(.ref b), (.ref b)])) (st16) ?_
  refine go _ (T16.setTop (mkF m 9 #[.val (.ref a1)] [(.int (Int32.ofNat n)), (.ref b)])) (own_len X16 hx hZ e16 A0 (g := (mkF m 8 #[.val (.ref a1)] [(.ref b), (.ref b)])) rfl rfl (hb hby d4_8)) ?_
  refine go _ (T16.setTop (mkF m 10 #[.val (.ref a1)] [(.int (1 : Int32)), (.int (Int32.ofNat n)), (.ref b)])) (fun t k => XS.iconst X16.here hx rfl (hb hby d4_9) k) ?_
  refine go _ (T16.setTop (mkF m 11 #[.val (.ref a1)] [(.int ((Int32.ofNat n) - (1 : Int32))), (.ref b)])) (fun t k => XS.isub X16.here hx rfl (hb hby d4_10) rfl k) ?_
  refine go _ (T16.setTop (mkF m 12 #[.val (.ref a1)] [(.int y)])) (own_ldI X16 hx hZ e16 A0 (i := i) hj hi (g := (mkF m 11 #[.val (.ref a1)] [(.int ((Int32.ofNat n) - (1 : Int32))), (.ref b)])) rfl rfl (hb hby d4_11) (v := (.int y)) hv) ?_
  exact fin (some (.int y)) X16 (by decide) (by decide) (fun q => by cases q) (show Q_rm4 Z a1 b n f i y h0 n0 _ T16.heap _ from (by rw [e16]; exact ⟨rfl, N0, rfl⟩)) (fun fs hr => retI X16 hx hret (hb hby d4_12) hr)
theorem pn_8 : plainName "com/example/lambro/lambro/IntRowsCountPinLaw" = true := by first | (simp [plainName, overriddenIn]; done) | decide +kernel
theorem ef_rm0 (m : MethodId) (p1 : Int32) (p2 : Int32) (p3 : Int32) (p4 : Int32) : entryFrame m #[(.int p1), (.int p2), (.int p3), (.int p4)] maxLocals = mkF m 0 #[.val (.int p1), .val (.int p2), .val (.int p3), .val (.int p4), .unset, .unset, .unset, .unset, .unset, .unset, .unset, .unset] [] := by first | (simp [entryFrame, mkF, argsToLocals, Value.category, maxLocals]; done) | rfl
theorem own_k3 (p1 : Int32) (a : ¬ ((p1 &&& (3 : Int32)) = (0 : Int32))) (b : ¬ ((p1 &&& (3 : Int32)) = (1 : Int32))) (c : ¬ ((p1 &&& (3 : Int32)) = (2 : Int32))) : (p1 &&& (3 : Int32)) = (3 : Int32) := by
  have m := c_mask p1 3 2 (by decide) (by decide +kernel)
  have e0 : (0 : Int32).toInt = 0 := by decide
  have e1 : (1 : Int32).toInt = 1 := by decide
  have e2 : (2 : Int32).toInt = 2 := by decide
  have e3 : (3 : Int32).toInt = 3 := by decide
  rw [← Int32.toInt_inj] at a b c ⊢
  omega
def Q_rm0 (Z : State) (p1 : Int32) (p2 : Int32) (p3 : Int32) (p4 : Int32) (h0 : Heap) (n0 : Nat) (v : Option Value) (h : Heap) (L : List Loc) : Prop := v = some (.int (1 : Int32)) ∧ Fr n0 L
set_option maxRecDepth 65536 in
set_option maxHeartbeats 40000000 in
theorem rm0 (l : Launch) (Z : State) (a0 : Array Value) (hw : ∀ d ∈ tables_1, d.before a0 Z = true) (ws : List Jvm.Cond) (p1 : Int32) (p2 : Int32) (p3 : Int32) (p4 : Int32) (h0 : Heap) (n0 : Nat) (Z0 : n0 ≤ h0.size)  :
    MetFree l x (head1 (Jvm.Cond.code x code maxLocals ret :: ws) room_1) (fun a U => a = #[(.int p1), (.int p2), (.int p3), (.int p4)] ∧ Z.Warmed39 U.vm ∧ U.heap = h0) (fun _ _ _ _ _ => True) (fun _ U o U' => ∃ v L, o = .returned v ∧ Q_rm0 Z p1 p2 p3 p4 h0 n0 v U'.heap L ∧ FrameEnd U o U' L room_1.cells room_1.slots) := by
  refine own_body (Q := Q_rm0 Z p1 p2 p3 p4 h0 n0) (plainFor_of_name pn_8) ?_
  intro p e s m below meth c s₁ K go fin X0 hx hby hml hown hnm hret hZ e0
  have hown : s.vm.findClass "com/example/lambro/lambro/IntRowsCountPinLaw" = some m.cls := hown
  have N0 := Fr.nil n0
  refine go _ (s₁.setTop (mkF m 0 #[.val (.int p1), .val (.int p2), .val (.int p3), .val (.int p4), .unset, .unset, .unset, .unset, .unset, .unset, .unset, .unset] [])) (fun t k => castTop (ef_rm0 m p1 p2 p3 p4) k) ?_
  refine go _ (s₁.setTop (mkF m 1 #[.val (.int p1), .val (.int p2), .val (.int p3), .val (.int p4), .unset, .unset, .unset, .unset, .unset, .unset, .unset, .unset] [(.int p1)])) (fun t k => XS.iloadN X0.here hx rfl (hb hby at_0) rfl k) ?_
  refine go _ (s₁.setTop (mkF m 2 #[.val (.int p1), .val (.int p2), .val (.int p3), .val (.int p4), .unset, .unset, .unset, .unset, .unset, .unset, .unset, .unset] [(.int (3 : Int32)), (.int p1)])) (fun t k => XS.iconst X0.here hx rfl (hb hby at_1) k) ?_
  refine go _ (s₁.setTop (mkF m 3 #[.val (.int p1), .val (.int p2), .val (.int p3), .val (.int p4), .unset, .unset, .unset, .unset, .unset, .unset, .unset, .unset] [(.int (p1 &&& (3 : Int32)))])) (fun t k => XS.iand X0.here hx rfl (hb hby at_2) rfl k) ?_
  refine go _ (s₁.setTop (mkF m 5 #[.val (.int p1), .val (.int p2), .val (.int p3), .val (.int p4), .val (.int (p1 &&& (3 : Int32))), .unset, .unset, .unset, .unset, .unset, .unset, .unset] [])) (fun t k => XS.istore X0.here hx rfl (hb hby at_3) rfl (l' := #[.val (.int p1), .val (.int p2), .val (.int p3), .val (.int p4), .val (.int (p1 &&& (3 : Int32))), .unset, .unset, .unset, .unset, .unset, .unset, .unset]) rfl k) ?_
  refine go _ (s₁.setTop (mkF m 6 #[.val (.int p1), .val (.int p2), .val (.int p3), .val (.int p4), .val (.int (p1 &&& (3 : Int32))), .unset, .unset, .unset, .unset, .unset, .unset, .unset] [(.int p2)])) (fun t k => XS.iloadN X0.here hx rfl (hb hby at_5) rfl k) ?_
  refine go _ (s₁.setTop (mkF m 8 #[.val (.int p1), .val (.int p2), .val (.int p3), .val (.int p4), .val (.int (p1 &&& (3 : Int32))), .unset, .unset, .unset, .unset, .unset, .unset, .unset] [(.int (7 : Int32)), (.int p2)])) (fun t k => XS.bipush X0.here hx rfl (hb hby at_6) k) ?_
  refine go _ (s₁.setTop (mkF m 9 #[.val (.int p1), .val (.int p2), .val (.int p3), .val (.int p4), .val (.int (p1 &&& (3 : Int32))), .unset, .unset, .unset, .unset, .unset, .unset, .unset] [(.int (p2 &&& (7 : Int32)))])) (fun t k => XS.iand X0.here hx rfl (hb hby at_8) rfl k) ?_
  refine go _ (s₁.setTop (mkF m 11 #[.val (.int p1), .val (.int p2), .val (.int p3), .val (.int p4), .val (.int (p1 &&& (3 : Int32))), .val (.int (p2 &&& (7 : Int32))), .unset, .unset, .unset, .unset, .unset, .unset] [])) (fun t k => XS.istore X0.here hx rfl (hb hby at_9) rfl (l' := #[.val (.int p1), .val (.int p2), .val (.int p3), .val (.int p4), .val (.int (p1 &&& (3 : Int32))), .val (.int (p2 &&& (7 : Int32))), .unset, .unset, .unset, .unset, .unset, .unset]) rfl k) ?_
  refine go _ (s₁.setTop (mkF m 12 #[.val (.int p1), .val (.int p2), .val (.int p3), .val (.int p4), .val (.int (p1 &&& (3 : Int32))), .val (.int (p2 &&& (7 : Int32))), .unset, .unset, .unset, .unset, .unset, .unset] [(.int p3)])) (fun t k => XS.iloadN X0.here hx rfl (hb hby at_11) rfl k) ?_
  refine go _ (s₁.setTop (mkF m 14 #[.val (.int p1), .val (.int p2), .val (.int p3), .val (.int p4), .val (.int (p1 &&& (3 : Int32))), .val (.int (p2 &&& (7 : Int32))), .unset, .unset, .unset, .unset, .unset, .unset] [(.int (7 : Int32)), (.int p3)])) (fun t k => XS.bipush X0.here hx rfl (hb hby at_12) k) ?_
  refine go _ (s₁.setTop (mkF m 15 #[.val (.int p1), .val (.int p2), .val (.int p3), .val (.int p4), .val (.int (p1 &&& (3 : Int32))), .val (.int (p2 &&& (7 : Int32))), .unset, .unset, .unset, .unset, .unset, .unset] [(.int (p3 &&& (7 : Int32)))])) (fun t k => XS.iand X0.here hx rfl (hb hby at_14) rfl k) ?_
  refine go _ (s₁.setTop (mkF m 17 #[.val (.int p1), .val (.int p2), .val (.int p3), .val (.int p4), .val (.int (p1 &&& (3 : Int32))), .val (.int (p2 &&& (7 : Int32))), .val (.int (p3 &&& (7 : Int32))), .unset, .unset, .unset, .unset, .unset] [])) (fun t k => XS.istore X0.here hx rfl (hb hby at_15) rfl (l' := #[.val (.int p1), .val (.int p2), .val (.int p3), .val (.int p4), .val (.int (p1 &&& (3 : Int32))), .val (.int (p2 &&& (7 : Int32))), .val (.int (p3 &&& (7 : Int32))), .unset, .unset, .unset, .unset, .unset]) rfl k) ?_
  refine go _ (s₁.setTop (mkF m 18 #[.val (.int p1), .val (.int p2), .val (.int p3), .val (.int p4), .val (.int (p1 &&& (3 : Int32))), .val (.int (p2 &&& (7 : Int32))), .val (.int (p3 &&& (7 : Int32))), .unset, .unset, .unset, .unset, .unset] [(.int p4)])) (fun t k => XS.iloadN X0.here hx rfl (hb hby at_17) rfl k) ?_
  refine go _ (s₁.setTop (mkF m 20 #[.val (.int p1), .val (.int p2), .val (.int p3), .val (.int p4), .val (.int (p1 &&& (3 : Int32))), .val (.int (p2 &&& (7 : Int32))), .val (.int (p3 &&& (7 : Int32))), .unset, .unset, .unset, .unset, .unset] [(.int (7 : Int32)), (.int p4)])) (fun t k => XS.bipush X0.here hx rfl (hb hby at_18) k) ?_
  refine go _ (s₁.setTop (mkF m 21 #[.val (.int p1), .val (.int p2), .val (.int p3), .val (.int p4), .val (.int (p1 &&& (3 : Int32))), .val (.int (p2 &&& (7 : Int32))), .val (.int (p3 &&& (7 : Int32))), .unset, .unset, .unset, .unset, .unset] [(.int (p4 &&& (7 : Int32)))])) (fun t k => XS.iand X0.here hx rfl (hb hby at_20) rfl k) ?_
  refine go _ (s₁.setTop (mkF m 23 #[.val (.int p1), .val (.int p2), .val (.int p3), .val (.int p4), .val (.int (p1 &&& (3 : Int32))), .val (.int (p2 &&& (7 : Int32))), .val (.int (p3 &&& (7 : Int32))), .val (.int (p4 &&& (7 : Int32))), .unset, .unset, .unset, .unset] [])) (fun t k => XS.istore X0.here hx rfl (hb hby at_21) rfl (l' := #[.val (.int p1), .val (.int p2), .val (.int p3), .val (.int p4), .val (.int (p1 &&& (3 : Int32))), .val (.int (p2 &&& (7 : Int32))), .val (.int (p3 &&& (7 : Int32))), .val (.int (p4 &&& (7 : Int32))), .unset, .unset, .unset, .unset]) rfl k) ?_
  refine go _ (s₁.setTop (mkF m 25 #[.val (.int p1), .val (.int p2), .val (.int p3), .val (.int p4), .val (.int (p1 &&& (3 : Int32))), .val (.int (p2 &&& (7 : Int32))), .val (.int (p3 &&& (7 : Int32))), .val (.int (p4 &&& (7 : Int32))), .unset, .unset, .unset, .unset] [(.int (p1 &&& (3 : Int32)))])) (fun t k => XS.iload X0.here hx rfl (hb hby at_23) rfl k) ?_
  by_cases hc17 : (p1 &&& (3 : Int32)) = (0 : Int32)
  · refine go _ (s₁.setTop (mkF m 28 #[.val (.int p1), .val (.int p2), .val (.int p3), .val (.int p4), .val (.int (p1 &&& (3 : Int32))), .val (.int (p2 &&& (7 : Int32))), .val (.int (p3 &&& (7 : Int32))), .val (.int (p4 &&& (7 : Int32))), .unset, .unset, .unset, .unset] [])) (fun t k => XS.ifNo X0.here hx rfl (hb hby at_25) rfl ((if0 _ _).trans (teq hc17).2) k) ?_
    refine go _ (s₁.setTop (mkF m 29 #[.val (.int p1), .val (.int p2), .val (.int p3), .val (.int p4), .val (.int (p1 &&& (3 : Int32))), .val (.int (p2 &&& (7 : Int32))), .val (.int (p3 &&& (7 : Int32))), .val (.int (p4 &&& (7 : Int32))), .unset, .unset, .unset, .unset] [(.int (1 : Int32))])) (fun t k => XS.iconst X0.here hx rfl (hb hby at_28) k) ?_
    obtain ⟨T18, h18, b18, X18, e18, E18, g18, A18, st18⟩ := own_new X0 hx hZ (hw _ (List.mem_of_getElem? (i := 0) rfl)) e0 (g := (mkF m 29 #[.val (.int p1), .val (.int p2), .val (.int p3), .val (.int p4), .val (.int (p1 &&& (3 : Int32))), .val (.int (p2 &&& (7 : Int32))), .val (.int (p3 &&& (7 : Int32))), .val (.int (p4 &&& (7 : Int32))), .unset, .unset, .unset, .unset] [(.int (1 : Int32))])) rfl (hb hby at_29) rfl (k := 1) (by decide) 1 (by decide) (by decide) (by decide) (by decide)
    have Z19 : n0 ≤ h18.size := Nat.le_trans Z0 E18.1
    have ge_b18 : n0 ≤ b18 := by rw [g18]; exact Z0
    have A18' : AF Z h18 b18 .int 1 (fun _ => .int 0) := A18
    refine go _ (T18.setTop (mkF m 31 #[.val (.int p1), .val (.int p2), .val (.int p3), .val (.int p4), .val (.int (p1 &&& (3 : Int32))), .val (.int (p2 &&& (7 : Int32))), .val (.int (p3 &&& (7 : Int32))), .val (.int (p4 &&& (7 : Int32))), .unset, .unset, .unset, .unset] [(.ref b18)])) (st18) ?_
    refine go _ (T18.setTop (mkF m 32 #[.val (.int p1), .val (.int p2), .val (.int p3), .val (.int p4), .val (.int (p1 &&& (3 : Int32))), .val (.int (p2 &&& (7 : Int32))), .val (.int (p3 &&& (7 : Int32))), .val (.int (p4 &&& (7 : Int32))), .unset, .unset, .unset, .unset] [(.ref b18), (.ref b18)])) (fun t k => XS.dup X18.here hx rfl (hb hby at_31) rfl rfl k) ?_
    refine go _ (T18.setTop (mkF m 33 #[.val (.int p1), .val (.int p2), .val (.int p3), .val (.int p4), .val (.int (p1 &&& (3 : Int32))), .val (.int (p2 &&& (7 : Int32))), .val (.int (p3 &&& (7 : Int32))), .val (.int (p4 &&& (7 : Int32))), .unset, .unset, .unset, .unset] [(.int (0 : Int32)), (.ref b18), (.ref b18)])) (fun t k => XS.iconst X18.here hx rfl (hb hby at_32) k) ?_
    refine go _ (T18.setTop (mkF m 34 #[.val (.int p1), .val (.int p2), .val (.int p3), .val (.int p4), .val (.int (p1 &&& (3 : Int32))), .val (.int (p2 &&& (7 : Int32))), .val (.int (p3 &&& (7 : Int32))), .val (.int (p4 &&& (7 : Int32))), .unset, .unset, .unset, .unset] [(.int (0 : Int32)), (.int (0 : Int32)), (.ref b18), (.ref b18)])) (fun t k => XS.iconst X18.here hx rfl (hb hby at_33) k) ?_
    obtain ⟨T20, h20, X20, e20, W20, A20, st20⟩ := own_stI X18 hx hZ e18 A18' (i := 0) (by decide) (by decide) (g := (mkF m 34 #[.val (.int p1), .val (.int p2), .val (.int p3), .val (.int p4), .val (.int (p1 &&& (3 : Int32))), .val (.int (p2 &&& (7 : Int32))), .val (.int (p3 &&& (7 : Int32))), .val (.int (p4 &&& (7 : Int32))), .unset, .unset, .unset, .unset] [(.int (0 : Int32)), (.int (0 : Int32)), (.ref b18), (.ref b18)])) rfl rfl (hb hby at_34)
    have Z21 : n0 ≤ h20.size := by rw [W20.size]; exact Z19
    have N22 := Fr.snoc X20 N0 ge_b18
    refine go _ (T20.setTop (mkF m 35 #[.val (.int p1), .val (.int p2), .val (.int p3), .val (.int p4), .val (.int (p1 &&& (3 : Int32))), .val (.int (p2 &&& (7 : Int32))), .val (.int (p3 &&& (7 : Int32))), .val (.int (p4 &&& (7 : Int32))), .unset, .unset, .unset, .unset] [(.ref b18)])) (st20) ?_
    refine go _ (T20.setTop (mkF m 37 #[.val (.int p1), .val (.int p2), .val (.int p3), .val (.int p4), .val (.int (p1 &&& (3 : Int32))), .val (.int (p2 &&& (7 : Int32))), .val (.int (p3 &&& (7 : Int32))), .val (.int (p4 &&& (7 : Int32))), .val (.ref b18), .unset, .unset, .unset] [])) (fun t k => XS.astore X20.here hx rfl (hb hby at_35) rfl rfl (l' := #[.val (.int p1), .val (.int p2), .val (.int p3), .val (.int p4), .val (.int (p1 &&& (3 : Int32))), .val (.int (p2 &&& (7 : Int32))), .val (.int (p3 &&& (7 : Int32))), .val (.int (p4 &&& (7 : Int32))), .val (.ref b18), .unset, .unset, .unset]) rfl k) ?_
    refine go _ (T20.setTop (mkF m 127 #[.val (.int p1), .val (.int p2), .val (.int p3), .val (.int p4), .val (.int (p1 &&& (3 : Int32))), .val (.int (p2 &&& (7 : Int32))), .val (.int (p3 &&& (7 : Int32))), .val (.int (p4 &&& (7 : Int32))), .val (.ref b18), .unset, .unset, .unset] [])) (fun t k => XS.goto X20.here hx rfl (pc0 := 37) (pc' := 127) rfl (hb hby at_37) (by decide) (by decide) k) ?_
    refine go _ (T20.setTop (mkF m 129 #[.val (.int p1), .val (.int p2), .val (.int p3), .val (.int p4), .val (.int (p1 &&& (3 : Int32))), .val (.int (p2 &&& (7 : Int32))), .val (.int (p3 &&& (7 : Int32))), .val (.int (p4 &&& (7 : Int32))), .val (.ref b18), .unset, .unset, .unset] [(.int (21 : Int32))])) (fun t k => XS.bipush X20.here hx rfl (hb hby at_127) k) ?_
    obtain ⟨T23, h23, b23, X23, e23, E23, g23, A23, st23⟩ := own_new X20 hx hZ (hw _ (List.mem_of_getElem? (i := 0) rfl)) e20 (g := (mkF m 129 #[.val (.int p1), .val (.int p2), .val (.int p3), .val (.int p4), .val (.int (p1 &&& (3 : Int32))), .val (.int (p2 &&& (7 : Int32))), .val (.int (p3 &&& (7 : Int32))), .val (.int (p4 &&& (7 : Int32))), .val (.ref b18), .unset, .unset, .unset] [(.int (21 : Int32))])) rfl (hb hby at_129) rfl (k := 21) (by decide) 21 (by decide) (by decide) (by decide) (by decide)
    have ne_b18_b23 : b18 ≠ b23 := by rw [g23]; exact Nat.ne_of_lt A20.lt
    have Z24 : n0 ≤ h23.size := Nat.le_trans Z21 E23.1
    have ge_b23 : n0 ≤ b23 := by rw [g23]; exact Z21
    have A25 := A20.ext E23
    have A23' : AF Z h23 b23 .int 21 (fun _ => .int 0) := A23
    refine go _ (T23.setTop (mkF m 131 #[.val (.int p1), .val (.int p2), .val (.int p3), .val (.int p4), .val (.int (p1 &&& (3 : Int32))), .val (.int (p2 &&& (7 : Int32))), .val (.int (p3 &&& (7 : Int32))), .val (.int (p4 &&& (7 : Int32))), .val (.ref b18), .unset, .unset, .unset] [(.ref b23)])) (st23) ?_
    refine go _ (T23.setTop (mkF m 133 #[.val (.int p1), .val (.int p2), .val (.int p3), .val (.int p4), .val (.int (p1 &&& (3 : Int32))), .val (.int (p2 &&& (7 : Int32))), .val (.int (p3 &&& (7 : Int32))), .val (.int (p4 &&& (7 : Int32))), .val (.ref b18), .val (.ref b23), .unset, .unset] [])) (fun t k => XS.astore X23.here hx rfl (hb hby at_131) rfl rfl (l' := #[.val (.int p1), .val (.int p2), .val (.int p3), .val (.int p4), .val (.int (p1 &&& (3 : Int32))), .val (.int (p2 &&& (7 : Int32))), .val (.int (p3 &&& (7 : Int32))), .val (.int (p4 &&& (7 : Int32))), .val (.ref b18), .val (.ref b23), .unset, .unset]) rfl k) ?_
    obtain ⟨T26, h26, X26, e26, E26, A26, D26, -, st26⟩ := newO X23 hx hZ hown (hw _ (List.mem_of_getElem? (i := 1) rfl)) (hw _ (List.mem_of_getElem? (i := 2) rfl)) (hw _ (List.mem_of_getElem? (i := 3) rfl)) e23 (g := (mkF m 133 #[.val (.int p1), .val (.int p2), .val (.int p3), .val (.int p4), .val (.int (p1 &&& (3 : Int32))), .val (.int (p2 &&& (7 : Int32))), .val (.int (p3 &&& (7 : Int32))), .val (.int (p4 &&& (7 : Int32))), .val (.ref b18), .val (.ref b23), .unset, .unset] [])) rfl (hb hby at_133) (by decide) (by decide)
    obtain ⟨b26, g26⟩ : ∃ z, z = h23.size := ⟨_, rfl⟩
    rw [← g26] at A26 D26 st26
    have ne_b23_b26 : b23 ≠ b26 := by rw [g26]; exact Nat.ne_of_lt A23'.lt
    have ne_b18_b26 : b18 ≠ b26 := by rw [g26]; exact Nat.ne_of_lt A25.lt
    have Z27 : n0 ≤ h26.size := Nat.le_trans Z24 E26.1
    have ge_b26 : n0 ≤ b26 := by rw [g26]; exact Z24
    have A28 := A25.ext E26
    have A29 := A23'.ext E26
    have F_starts_b26 : Fld Z h26 b26 "com/example/lambro/lambro/IntRows" "starts" "[I" .null := D26 (Or.inr (hw _ (List.mem_of_getElem? (i := 11) rfl))) (ty := (.array .int)) (by decide)
    have F_values_b26 : Fld Z h26 b26 "com/example/lambro/lambro/IntRows" "values" "[I" .null := D26 (Or.inr (hw _ (List.mem_of_getElem? (i := 13) rfl))) (ty := (.array .int)) (by decide)
    refine go _ (T26.setTop (mkF m 136 #[.val (.int p1), .val (.int p2), .val (.int p3), .val (.int p4), .val (.int (p1 &&& (3 : Int32))), .val (.int (p2 &&& (7 : Int32))), .val (.int (p3 &&& (7 : Int32))), .val (.int (p4 &&& (7 : Int32))), .val (.ref b18), .val (.ref b23), .unset, .unset] [(.ref b26)])) (st26) ?_
    refine go _ (T26.setTop (mkF m 137 #[.val (.int p1), .val (.int p2), .val (.int p3), .val (.int p4), .val (.int (p1 &&& (3 : Int32))), .val (.int (p2 &&& (7 : Int32))), .val (.int (p3 &&& (7 : Int32))), .val (.int (p4 &&& (7 : Int32))), .val (.ref b18), .val (.ref b23), .unset, .unset] [(.ref b26), (.ref b26)])) (fun t k => XS.dup X26.here hx rfl (hb hby at_136) rfl rfl k) ?_
    refine go _ (T26.setTop (mkF m 139 #[.val (.int p1), .val (.int p2), .val (.int p3), .val (.int p4), .val (.int (p1 &&& (3 : Int32))), .val (.int (p2 &&& (7 : Int32))), .val (.int (p3 &&& (7 : Int32))), .val (.int (p4 &&& (7 : Int32))), .val (.ref b18), .val (.ref b23), .unset, .unset] [(.ref b18), (.ref b26), (.ref b26)])) (fun t k => XS.aload X26.here hx rfl (hb hby at_137) rfl rfl k) ?_
    refine go _ (T26.setTop (mkF m 141 #[.val (.int p1), .val (.int p2), .val (.int p3), .val (.int p4), .val (.int (p1 &&& (3 : Int32))), .val (.int (p2 &&& (7 : Int32))), .val (.int (p3 &&& (7 : Int32))), .val (.int (p4 &&& (7 : Int32))), .val (.ref b18), .val (.ref b23), .unset, .unset] [(.ref b23), (.ref b18), (.ref b26), (.ref b26)])) (fun t k => XS.aload X26.here hx rfl (hb hby at_139) rfl rfl k) ?_
    obtain ⟨_, _, ⟨T30, L30, k30, n30⟩, -, X30, ⟨Lc30, hQ30, l30, y30, z30⟩, st30⟩ := X26.specialBack hx (y := (⟨"com/example/lambro/lambro/IntRows", "<init>", "([I[I)V"⟩ : MethodName)) rfl hown (mvT hZ (hw _ (List.mem_of_getElem? (i := 4) rfl))) (mvT hZ (hw _ (List.mem_of_getElem? (i := 5) rfl))) (mvT hZ (hw _ (List.mem_of_getElem? (i := 6) rfl))) (by decide) (backOf (W := 1) (rm1 l Z a0 hw [] b26 b18 b23  h26 n0 Z27 A26 F_starts_b26 F_values_b26 ge_b26) hZ (hw _ (List.mem_of_getElem? (i := 6) rfl)) (hw _ (List.mem_of_getElem? (i := 3) rfl)) (by decide) (by decide)) (g := (mkF m 141 #[.val (.int p1), .val (.int p2), .val (.int p3), .val (.int p4), .val (.int (p1 &&& (3 : Int32))), .val (.int (p2 &&& (7 : Int32))), .val (.int (p3 &&& (7 : Int32))), .val (.int (p4 &&& (7 : Int32))), .val (.ref b18), .val (.ref b23), .unset, .unset] [(.ref b23), (.ref b18), (.ref b26), (.ref b26)])) rfl (by rw [hml]; rfl) (Steps.refl _) (a := b26) (argsL := [(.ref b18), (.ref b23)]) (rest := [(.ref b26)]) (lenOf pd_1 rfl) rfl (by show 2 * 0 + _ ≤ _; exact Nat.le_of_eq rfl) (hb hby at_141) (fun _ _ => ⟨rfl, e26, (by decide : 0 + 1 + 1 + 1 + 0 ≤ _), (by decide : 0 + 1 + 21 + 2 + 0 ≤ _)⟩)
    dsimp only [Pt.U, Pt.locs, Pt.cells, Pt.slots] at X30 l30 y30 z30 st30 hQ30
    subst l30 y30 z30
    obtain ⟨rfl, Nq30, Kq30, Eq30, Fs30, Fv30⟩ := hQ30
    have N31 := Fr.app N22 Nq30
    have Z32 : n0 ≤ T30.heap.size := Nat.le_trans Z27 Kq30.1
    have A33 := A28.keep Kq30 (ninS ne_b18_b26 nin0)
    have A34 := A29.keep Kq30 (ninS ne_b23_b26 nin0)
    refine go _ (T30.setTop (mkF m 144 #[.val (.int p1), .val (.int p2), .val (.int p3), .val (.int p4), .val (.int (p1 &&& (3 : Int32))), .val (.int (p2 &&& (7 : Int32))), .val (.int (p3 &&& (7 : Int32))), .val (.int (p4 &&& (7 : Int32))), .val (.ref b18), .val (.ref b23), .unset, .unset] [(.ref b26)])) (fun t k => st30.trans k) ?_
    refine go _ (T30.setTop (mkF m 146 #[.val (.int p1), .val (.int p2), .val (.int p3), .val (.int p4), .val (.int (p1 &&& (3 : Int32))), .val (.int (p2 &&& (7 : Int32))), .val (.int (p3 &&& (7 : Int32))), .val (.int (p4 &&& (7 : Int32))), .val (.ref b18), .val (.ref b23), .val (.ref b26), .unset] [])) (fun t k => XS.astore X30.here hx rfl (hb hby at_144) rfl rfl (l' := #[.val (.int p1), .val (.int p2), .val (.int p3), .val (.int p4), .val (.int (p1 &&& (3 : Int32))), .val (.int (p2 &&& (7 : Int32))), .val (.int (p3 &&& (7 : Int32))), .val (.int (p4 &&& (7 : Int32))), .val (.ref b18), .val (.ref b23), .val (.ref b26), .unset]) rfl k) ?_
    refine go _ (T30.setTop (mkF m 147 #[.val (.int p1), .val (.int p2), .val (.int p3), .val (.int p4), .val (.int (p1 &&& (3 : Int32))), .val (.int (p2 &&& (7 : Int32))), .val (.int (p3 &&& (7 : Int32))), .val (.int (p4 &&& (7 : Int32))), .val (.ref b18), .val (.ref b23), .val (.ref b26), .unset] [(.int (0 : Int32))])) (fun t k => XS.iconst X30.here hx rfl (hb hby at_146) k) ?_
    refine go _ (T30.setTop (mkF m 149 #[.val (.int p1), .val (.int p2), .val (.int p3), .val (.int p4), .val (.int (p1 &&& (3 : Int32))), .val (.int (p2 &&& (7 : Int32))), .val (.int (p3 &&& (7 : Int32))), .val (.int (p4 &&& (7 : Int32))), .val (.ref b18), .val (.ref b23), .val (.ref b26), .val (.int (0 : Int32))] [])) (fun t k => XS.istore X30.here hx rfl (hb hby at_147) rfl (l' := #[.val (.int p1), .val (.int p2), .val (.int p3), .val (.int p4), .val (.int (p1 &&& (3 : Int32))), .val (.int (p2 &&& (7 : Int32))), .val (.int (p3 &&& (7 : Int32))), .val (.int (p4 &&& (7 : Int32))), .val (.ref b18), .val (.ref b23), .val (.ref b26), .val (.int (0 : Int32))]) rfl k) ?_
    refine go _ (T30.setTop (mkF m 151 #[.val (.int p1), .val (.int p2), .val (.int p3), .val (.int p4), .val (.int (p1 &&& (3 : Int32))), .val (.int (p2 &&& (7 : Int32))), .val (.int (p3 &&& (7 : Int32))), .val (.int (p4 &&& (7 : Int32))), .val (.ref b18), .val (.ref b23), .val (.ref b26), .val (.int (0 : Int32))] [(.int (p1 &&& (3 : Int32)))])) (fun t k => XS.iload X30.here hx rfl (hb hby at_149) rfl k) ?_
    refine go _ (T30.setTop (mkF m 152 #[.val (.int p1), .val (.int p2), .val (.int p3), .val (.int p4), .val (.int (p1 &&& (3 : Int32))), .val (.int (p2 &&& (7 : Int32))), .val (.int (p3 &&& (7 : Int32))), .val (.int (p4 &&& (7 : Int32))), .val (.ref b18), .val (.ref b23), .val (.ref b26), .val (.int (0 : Int32))] [(.int (1 : Int32)), (.int (p1 &&& (3 : Int32)))])) (fun t k => XS.iconst X30.here hx rfl (hb hby at_151) k) ?_
    have hc35 : ((p1 &&& (3 : Int32)) < (1 : Int32)) := (by rw [hc17]; decide)
    refine go _ (T30.setTop (mkF m 162 #[.val (.int p1), .val (.int p2), .val (.int p3), .val (.int p4), .val (.int (p1 &&& (3 : Int32))), .val (.int (p2 &&& (7 : Int32))), .val (.int (p3 &&& (7 : Int32))), .val (.int (p4 &&& (7 : Int32))), .val (.ref b18), .val (.ref b23), .val (.ref b26), .val (.int (0 : Int32))] [])) (fun t k => XS.icmpYes X30.here hx rfl (pc0 := 152) (pc' := 162) rfl (hb hby at_152) rfl (tlt hc35).1 (by decide) (by decide) k) ?_
    refine go _ (T30.setTop (mkF m 164 #[.val (.int p1), .val (.int p2), .val (.int p3), .val (.int p4), .val (.int (p1 &&& (3 : Int32))), .val (.int (p2 &&& (7 : Int32))), .val (.int (p3 &&& (7 : Int32))), .val (.int (p4 &&& (7 : Int32))), .val (.ref b18), .val (.ref b23), .val (.ref b26), .val (.int (0 : Int32))] [(.int (p1 &&& (3 : Int32)))])) (fun t k => XS.iload X30.here hx rfl (hb hby at_162) rfl k) ?_
    refine go _ (T30.setTop (mkF m 165 #[.val (.int p1), .val (.int p2), .val (.int p3), .val (.int p4), .val (.int (p1 &&& (3 : Int32))), .val (.int (p2 &&& (7 : Int32))), .val (.int (p3 &&& (7 : Int32))), .val (.int (p4 &&& (7 : Int32))), .val (.ref b18), .val (.ref b23), .val (.ref b26), .val (.int (0 : Int32))] [(.int (2 : Int32)), (.int (p1 &&& (3 : Int32)))])) (fun t k => XS.iconst X30.here hx rfl (hb hby at_164) k) ?_
    have hc36 : ((p1 &&& (3 : Int32)) < (2 : Int32)) := (by rw [hc17]; decide)
    refine go _ (T30.setTop (mkF m 175 #[.val (.int p1), .val (.int p2), .val (.int p3), .val (.int p4), .val (.int (p1 &&& (3 : Int32))), .val (.int (p2 &&& (7 : Int32))), .val (.int (p3 &&& (7 : Int32))), .val (.int (p4 &&& (7 : Int32))), .val (.ref b18), .val (.ref b23), .val (.ref b26), .val (.int (0 : Int32))] [])) (fun t k => XS.icmpYes X30.here hx rfl (pc0 := 165) (pc' := 175) rfl (hb hby at_165) rfl (tlt hc36).1 (by decide) (by decide) k) ?_
    refine go _ (T30.setTop (mkF m 177 #[.val (.int p1), .val (.int p2), .val (.int p3), .val (.int p4), .val (.int (p1 &&& (3 : Int32))), .val (.int (p2 &&& (7 : Int32))), .val (.int (p3 &&& (7 : Int32))), .val (.int (p4 &&& (7 : Int32))), .val (.ref b18), .val (.ref b23), .val (.ref b26), .val (.int (0 : Int32))] [(.int (p1 &&& (3 : Int32)))])) (fun t k => XS.iload X30.here hx rfl (hb hby at_175) rfl k) ?_
    refine go _ (T30.setTop (mkF m 178 #[.val (.int p1), .val (.int p2), .val (.int p3), .val (.int p4), .val (.int (p1 &&& (3 : Int32))), .val (.int (p2 &&& (7 : Int32))), .val (.int (p3 &&& (7 : Int32))), .val (.int (p4 &&& (7 : Int32))), .val (.ref b18), .val (.ref b23), .val (.ref b26), .val (.int (0 : Int32))] [(.int (3 : Int32)), (.int (p1 &&& (3 : Int32)))])) (fun t k => XS.iconst X30.here hx rfl (hb hby at_177) k) ?_
    have hc37 : ((p1 &&& (3 : Int32)) < (3 : Int32)) := (by rw [hc17]; decide)
    refine go _ (T30.setTop (mkF m 188 #[.val (.int p1), .val (.int p2), .val (.int p3), .val (.int p4), .val (.int (p1 &&& (3 : Int32))), .val (.int (p2 &&& (7 : Int32))), .val (.int (p3 &&& (7 : Int32))), .val (.int (p4 &&& (7 : Int32))), .val (.ref b18), .val (.ref b23), .val (.ref b26), .val (.int (0 : Int32))] [])) (fun t k => XS.icmpYes X30.here hx rfl (pc0 := 178) (pc' := 188) rfl (hb hby at_178) rfl (tlt hc37).1 (by decide) (by decide) k) ?_
    refine go _ (T30.setTop (mkF m 190 #[.val (.int p1), .val (.int p2), .val (.int p3), .val (.int p4), .val (.int (p1 &&& (3 : Int32))), .val (.int (p2 &&& (7 : Int32))), .val (.int (p3 &&& (7 : Int32))), .val (.int (p4 &&& (7 : Int32))), .val (.ref b18), .val (.ref b23), .val (.ref b26), .val (.int (0 : Int32))] [(.ref b26)])) (fun t k => XS.aload X30.here hx rfl (hb hby at_188) rfl rfl k) ?_
    obtain ⟨cq38, kq38, q38a, q38b, q38c⟩ := isOf hZ rfl Eq30
    obtain ⟨_, _, ⟨T38, L38, k38, n38⟩, -, X38, ⟨Lc38, hQ38, l38, y38, z38⟩, st38⟩ := X30.virtualBack hx (y := (⟨"com/example/lambro/lambro/IntRows", "rows", "()I"⟩ : MethodName)) (z := (⟨"com/example/lambro/lambro/IntRows", "rows", "()I"⟩ : MethodName)) hown (mvT hZ (hw _ (List.mem_of_getElem? (i := 14) rfl))) (mvT hZ (hw _ (List.mem_of_getElem? (i := 15) rfl))) (notFace_of_selects (args := #[]) (mvT hZ (hw _ (List.mem_of_getElem? (i := 17) rfl)))) (mvT hZ (hw _ (List.mem_of_getElem? (i := 17) rfl))) (mvT hZ (hw _ (List.mem_of_getElem? (i := 16) rfl))) (by decide) (backOf (W := 0) (rm3 l Z a0 hw [] b26 b18 1 _ T30.heap n0 Z32 Fs30 A33) hZ (hw _ (List.mem_of_getElem? (i := 18) rfl)) (hw _ (List.mem_of_getElem? (i := 3) rfl)) (by decide) (by decide)) q38a q38c (g := (mkF m 190 #[.val (.int p1), .val (.int p2), .val (.int p3), .val (.int p4), .val (.int (p1 &&& (3 : Int32))), .val (.int (p2 &&& (7 : Int32))), .val (.int (p3 &&& (7 : Int32))), .val (.int (p4 &&& (7 : Int32))), .val (.ref b18), .val (.ref b23), .val (.ref b26), .val (.int (0 : Int32))] [(.ref b26)])) rfl (by rw [hml]; rfl) (Steps.refl _) (argsL := []) (rest := []) (lenOf pd_2 rfl) rfl (by show 2 * 0 + _ ≤ _; exact Nat.le_of_eq rfl) (hb hby at_190) (fun _ _ => ⟨rfl, rfl, (by decide : 0 + 1 + 1 + 1 + 0 ≤ _), (by decide : 0 + 1 + 21 + 2 + 0 ≤ _)⟩)
    dsimp only [Pt.U, Pt.locs, Pt.cells, Pt.slots] at X38 l38 y38 z38 st38 hQ38
    subst l38 y38 z38
    obtain ⟨rfl, Nq38, hh38⟩ := hQ38
    have N39 := Fr.app N31 Nq38
    refine go _ (T38.setTop (mkF m 193 #[.val (.int p1), .val (.int p2), .val (.int p3), .val (.int p4), .val (.int (p1 &&& (3 : Int32))), .val (.int (p2 &&& (7 : Int32))), .val (.int (p3 &&& (7 : Int32))), .val (.int (p4 &&& (7 : Int32))), .val (.ref b18), .val (.ref b23), .val (.ref b26), .val (.int (0 : Int32))] [(.int (Int32.ofNat 1 - (1 : Int32)))])) (fun t k => st38.trans k) ?_
    refine go _ (T38.setTop (mkF m 195 #[.val (.int p1), .val (.int p2), .val (.int p3), .val (.int p4), .val (.int (p1 &&& (3 : Int32))), .val (.int (p2 &&& (7 : Int32))), .val (.int (p3 &&& (7 : Int32))), .val (.int (p4 &&& (7 : Int32))), .val (.ref b18), .val (.ref b23), .val (.ref b26), .val (.int (0 : Int32))] [(.int (p1 &&& (3 : Int32))), (.int (Int32.ofNat 1 - (1 : Int32)))])) (fun t k => XS.iload X38.here hx rfl (hb hby at_193) rfl k) ?_
    have hc40 : ((Int32.ofNat 1 - (1 : Int32)) = (p1 &&& (3 : Int32))) := (by rw [hc17]; decide)
    refine go _ (T38.setTop (mkF m 198 #[.val (.int p1), .val (.int p2), .val (.int p3), .val (.int p4), .val (.int (p1 &&& (3 : Int32))), .val (.int (p2 &&& (7 : Int32))), .val (.int (p3 &&& (7 : Int32))), .val (.int (p4 &&& (7 : Int32))), .val (.ref b18), .val (.ref b23), .val (.ref b26), .val (.int (0 : Int32))] [])) (fun t k => XS.icmpNo X38.here hx rfl (hb hby at_195) rfl (teq hc40).2 k) ?_
    refine go _ (T38.setTop (mkF m 200 #[.val (.int p1), .val (.int p2), .val (.int p3), .val (.int p4), .val (.int (p1 &&& (3 : Int32))), .val (.int (p2 &&& (7 : Int32))), .val (.int (p3 &&& (7 : Int32))), .val (.int (p4 &&& (7 : Int32))), .val (.ref b18), .val (.ref b23), .val (.ref b26), .val (.int (0 : Int32))] [(.ref b26)])) (fun t k => XS.aload X38.here hx rfl (hb hby at_198) rfl rfl k) ?_
    obtain ⟨cq41, kq41, q41a, q41b, q41c⟩ := isOf hZ hh38 Eq30
    obtain ⟨_, _, ⟨T41, L41, k41, n41⟩, -, X41, ⟨Lc41, hQ41, l41, y41, z41⟩, st41⟩ := X38.virtualBack hx (y := (⟨"com/example/lambro/lambro/IntRows", "count", "()I"⟩ : MethodName)) (z := (⟨"com/example/lambro/lambro/IntRows", "count", "()I"⟩ : MethodName)) hown (mvT hZ (hw _ (List.mem_of_getElem? (i := 19) rfl))) (mvT hZ (hw _ (List.mem_of_getElem? (i := 20) rfl))) (notFace_of_selects (args := #[]) (mvT hZ (hw _ (List.mem_of_getElem? (i := 22) rfl)))) (mvT hZ (hw _ (List.mem_of_getElem? (i := 22) rfl))) (mvT hZ (hw _ (List.mem_of_getElem? (i := 21) rfl))) (by decide) (backOf (W := 0) (rm4 l Z a0 hw [] b26 b18 1 _ 0 (0 : Int32) T30.heap n0 Z32 Fs30 A33 (by decide) (by decide) rfl) hZ (hw _ (List.mem_of_getElem? (i := 23) rfl)) (hw _ (List.mem_of_getElem? (i := 3) rfl)) (by decide) (by decide)) q41a q41c (g := (mkF m 200 #[.val (.int p1), .val (.int p2), .val (.int p3), .val (.int p4), .val (.int (p1 &&& (3 : Int32))), .val (.int (p2 &&& (7 : Int32))), .val (.int (p3 &&& (7 : Int32))), .val (.int (p4 &&& (7 : Int32))), .val (.ref b18), .val (.ref b23), .val (.ref b26), .val (.int (0 : Int32))] [(.ref b26)])) rfl (by rw [hml]; rfl) (Steps.refl _) (argsL := []) (rest := []) (lenOf pd_2 rfl) rfl (by show 2 * 0 + _ ≤ _; exact Nat.le_of_eq rfl) (hb hby at_200) (fun _ _ => ⟨rfl, hh38, (by decide : 0 + 1 + 1 + 1 + 0 ≤ _), (by decide : 0 + 1 + 21 + 2 + 0 ≤ _)⟩)
    dsimp only [Pt.U, Pt.locs, Pt.cells, Pt.slots] at X41 l41 y41 z41 st41 hQ41
    subst l41 y41 z41
    obtain ⟨rfl, Nq41, hh41⟩ := hQ41
    have N42 := Fr.app N39 Nq41
    refine go _ (T41.setTop (mkF m 203 #[.val (.int p1), .val (.int p2), .val (.int p3), .val (.int p4), .val (.int (p1 &&& (3 : Int32))), .val (.int (p2 &&& (7 : Int32))), .val (.int (p3 &&& (7 : Int32))), .val (.int (p4 &&& (7 : Int32))), .val (.ref b18), .val (.ref b23), .val (.ref b26), .val (.int (0 : Int32))] [(.int (0 : Int32))])) (fun t k => st41.trans k) ?_
    refine go _ (T41.setTop (mkF m 205 #[.val (.int p1), .val (.int p2), .val (.int p3), .val (.int p4), .val (.int (p1 &&& (3 : Int32))), .val (.int (p2 &&& (7 : Int32))), .val (.int (p3 &&& (7 : Int32))), .val (.int (p4 &&& (7 : Int32))), .val (.ref b18), .val (.ref b23), .val (.ref b26), .val (.int (0 : Int32))] [(.int (0 : Int32)), (.int (0 : Int32))])) (fun t k => XS.iload X41.here hx rfl (hb hby at_203) rfl k) ?_
    have hc43 : ((0 : Int32) = (0 : Int32)) := (by simp)
    refine go _ (T41.setTop (mkF m 208 #[.val (.int p1), .val (.int p2), .val (.int p3), .val (.int p4), .val (.int (p1 &&& (3 : Int32))), .val (.int (p2 &&& (7 : Int32))), .val (.int (p3 &&& (7 : Int32))), .val (.int (p4 &&& (7 : Int32))), .val (.ref b18), .val (.ref b23), .val (.ref b26), .val (.int (0 : Int32))] [])) (fun t k => XS.icmpNo X41.here hx rfl (hb hby at_205) rfl (teq hc43).2 k) ?_
    refine go _ (T41.setTop (mkF m 209 #[.val (.int p1), .val (.int p2), .val (.int p3), .val (.int p4), .val (.int (p1 &&& (3 : Int32))), .val (.int (p2 &&& (7 : Int32))), .val (.int (p3 &&& (7 : Int32))), .val (.int (p4 &&& (7 : Int32))), .val (.ref b18), .val (.ref b23), .val (.ref b26), .val (.int (0 : Int32))] [(.int (1 : Int32))])) (fun t k => XS.iconst X41.here hx rfl (hb hby at_208) k) ?_
    refine go _ (T41.setTop (mkF m 213 #[.val (.int p1), .val (.int p2), .val (.int p3), .val (.int p4), .val (.int (p1 &&& (3 : Int32))), .val (.int (p2 &&& (7 : Int32))), .val (.int (p3 &&& (7 : Int32))), .val (.int (p4 &&& (7 : Int32))), .val (.ref b18), .val (.ref b23), .val (.ref b26), .val (.int (0 : Int32))] [(.int (1 : Int32))])) (fun t k => XS.goto X41.here hx rfl (pc0 := 209) (pc' := 213) rfl (hb hby at_209) (by decide) (by decide) k) ?_
    exact fin (some (.int (1 : Int32))) X41 (by decide) (by decide) (fun q => by cases q) (show Q_rm0 Z p1 p2 p3 p4 h0 n0 _ T41.heap _ from (by rw [hh41]; exact ⟨rfl, N42⟩)) (fun fs hr => retN X41 hx (t := .boolean) hret (by simp) (hb hby at_213) hr)
  · refine go _ (s₁.setTop (mkF m 40 #[.val (.int p1), .val (.int p2), .val (.int p3), .val (.int p4), .val (.int (p1 &&& (3 : Int32))), .val (.int (p2 &&& (7 : Int32))), .val (.int (p3 &&& (7 : Int32))), .val (.int (p4 &&& (7 : Int32))), .unset, .unset, .unset, .unset] [])) (fun t k => XS.ifYes X0.here hx rfl (pc0 := 25) (pc' := 40) rfl (hb hby at_25) rfl ((if0 _ _).trans (feq hc17).2) (by decide) (by decide) k) ?_
    refine go _ (s₁.setTop (mkF m 42 #[.val (.int p1), .val (.int p2), .val (.int p3), .val (.int p4), .val (.int (p1 &&& (3 : Int32))), .val (.int (p2 &&& (7 : Int32))), .val (.int (p3 &&& (7 : Int32))), .val (.int (p4 &&& (7 : Int32))), .unset, .unset, .unset, .unset] [(.int (p1 &&& (3 : Int32)))])) (fun t k => XS.iload X0.here hx rfl (hb hby at_40) rfl k) ?_
    refine go _ (s₁.setTop (mkF m 43 #[.val (.int p1), .val (.int p2), .val (.int p3), .val (.int p4), .val (.int (p1 &&& (3 : Int32))), .val (.int (p2 &&& (7 : Int32))), .val (.int (p3 &&& (7 : Int32))), .val (.int (p4 &&& (7 : Int32))), .unset, .unset, .unset, .unset] [(.int (1 : Int32)), (.int (p1 &&& (3 : Int32)))])) (fun t k => XS.iconst X0.here hx rfl (hb hby at_42) k) ?_
    by_cases hc44 : (p1 &&& (3 : Int32)) = (1 : Int32)
    · refine go _ (s₁.setTop (mkF m 46 #[.val (.int p1), .val (.int p2), .val (.int p3), .val (.int p4), .val (.int (p1 &&& (3 : Int32))), .val (.int (p2 &&& (7 : Int32))), .val (.int (p3 &&& (7 : Int32))), .val (.int (p4 &&& (7 : Int32))), .unset, .unset, .unset, .unset] [])) (fun t k => XS.icmpNo X0.here hx rfl (hb hby at_43) rfl (teq hc44).2 k) ?_
      refine go _ (s₁.setTop (mkF m 47 #[.val (.int p1), .val (.int p2), .val (.int p3), .val (.int p4), .val (.int (p1 &&& (3 : Int32))), .val (.int (p2 &&& (7 : Int32))), .val (.int (p3 &&& (7 : Int32))), .val (.int (p4 &&& (7 : Int32))), .unset, .unset, .unset, .unset] [(.int (2 : Int32))])) (fun t k => XS.iconst X0.here hx rfl (hb hby at_46) k) ?_
      obtain ⟨T45, h45, b45, X45, e45, E45, g45, A45, st45⟩ := own_new X0 hx hZ (hw _ (List.mem_of_getElem? (i := 0) rfl)) e0 (g := (mkF m 47 #[.val (.int p1), .val (.int p2), .val (.int p3), .val (.int p4), .val (.int (p1 &&& (3 : Int32))), .val (.int (p2 &&& (7 : Int32))), .val (.int (p3 &&& (7 : Int32))), .val (.int (p4 &&& (7 : Int32))), .unset, .unset, .unset, .unset] [(.int (2 : Int32))])) rfl (hb hby at_47) rfl (k := 2) (by decide) 2 (by decide) (by decide) (by decide) (by decide)
      have Z46 : n0 ≤ h45.size := Nat.le_trans Z0 E45.1
      have ge_b45 : n0 ≤ b45 := by rw [g45]; exact Z0
      have A45' : AF Z h45 b45 .int 2 (fun _ => .int 0) := A45
      refine go _ (T45.setTop (mkF m 49 #[.val (.int p1), .val (.int p2), .val (.int p3), .val (.int p4), .val (.int (p1 &&& (3 : Int32))), .val (.int (p2 &&& (7 : Int32))), .val (.int (p3 &&& (7 : Int32))), .val (.int (p4 &&& (7 : Int32))), .unset, .unset, .unset, .unset] [(.ref b45)])) (st45) ?_
      refine go _ (T45.setTop (mkF m 50 #[.val (.int p1), .val (.int p2), .val (.int p3), .val (.int p4), .val (.int (p1 &&& (3 : Int32))), .val (.int (p2 &&& (7 : Int32))), .val (.int (p3 &&& (7 : Int32))), .val (.int (p4 &&& (7 : Int32))), .unset, .unset, .unset, .unset] [(.ref b45), (.ref b45)])) (fun t k => XS.dup X45.here hx rfl (hb hby at_49) rfl rfl k) ?_
      refine go _ (T45.setTop (mkF m 51 #[.val (.int p1), .val (.int p2), .val (.int p3), .val (.int p4), .val (.int (p1 &&& (3 : Int32))), .val (.int (p2 &&& (7 : Int32))), .val (.int (p3 &&& (7 : Int32))), .val (.int (p4 &&& (7 : Int32))), .unset, .unset, .unset, .unset] [(.int (0 : Int32)), (.ref b45), (.ref b45)])) (fun t k => XS.iconst X45.here hx rfl (hb hby at_50) k) ?_
      refine go _ (T45.setTop (mkF m 52 #[.val (.int p1), .val (.int p2), .val (.int p3), .val (.int p4), .val (.int (p1 &&& (3 : Int32))), .val (.int (p2 &&& (7 : Int32))), .val (.int (p3 &&& (7 : Int32))), .val (.int (p4 &&& (7 : Int32))), .unset, .unset, .unset, .unset] [(.int (0 : Int32)), (.int (0 : Int32)), (.ref b45), (.ref b45)])) (fun t k => XS.iconst X45.here hx rfl (hb hby at_51) k) ?_
      obtain ⟨T47, h47, X47, e47, W47, A47, st47⟩ := own_stI X45 hx hZ e45 A45' (i := 0) (by decide) (by decide) (g := (mkF m 52 #[.val (.int p1), .val (.int p2), .val (.int p3), .val (.int p4), .val (.int (p1 &&& (3 : Int32))), .val (.int (p2 &&& (7 : Int32))), .val (.int (p3 &&& (7 : Int32))), .val (.int (p4 &&& (7 : Int32))), .unset, .unset, .unset, .unset] [(.int (0 : Int32)), (.int (0 : Int32)), (.ref b45), (.ref b45)])) rfl rfl (hb hby at_52)
      have Z48 : n0 ≤ h47.size := by rw [W47.size]; exact Z46
      have N49 := Fr.snoc X47 N0 ge_b45
      refine go _ (T47.setTop (mkF m 53 #[.val (.int p1), .val (.int p2), .val (.int p3), .val (.int p4), .val (.int (p1 &&& (3 : Int32))), .val (.int (p2 &&& (7 : Int32))), .val (.int (p3 &&& (7 : Int32))), .val (.int (p4 &&& (7 : Int32))), .unset, .unset, .unset, .unset] [(.ref b45)])) (st47) ?_
      refine go _ (T47.setTop (mkF m 54 #[.val (.int p1), .val (.int p2), .val (.int p3), .val (.int p4), .val (.int (p1 &&& (3 : Int32))), .val (.int (p2 &&& (7 : Int32))), .val (.int (p3 &&& (7 : Int32))), .val (.int (p4 &&& (7 : Int32))), .unset, .unset, .unset, .unset] [(.ref b45), (.ref b45)])) (fun t k => XS.dup X47.here hx rfl (hb hby at_53) rfl rfl k) ?_
      refine go _ (T47.setTop (mkF m 55 #[.val (.int p1), .val (.int p2), .val (.int p3), .val (.int p4), .val (.int (p1 &&& (3 : Int32))), .val (.int (p2 &&& (7 : Int32))), .val (.int (p3 &&& (7 : Int32))), .val (.int (p4 &&& (7 : Int32))), .unset, .unset, .unset, .unset] [(.int (1 : Int32)), (.ref b45), (.ref b45)])) (fun t k => XS.iconst X47.here hx rfl (hb hby at_54) k) ?_
      refine go _ (T47.setTop (mkF m 57 #[.val (.int p1), .val (.int p2), .val (.int p3), .val (.int p4), .val (.int (p1 &&& (3 : Int32))), .val (.int (p2 &&& (7 : Int32))), .val (.int (p3 &&& (7 : Int32))), .val (.int (p4 &&& (7 : Int32))), .unset, .unset, .unset, .unset] [(.int (p2 &&& (7 : Int32))), (.int (1 : Int32)), (.ref b45), (.ref b45)])) (fun t k => XS.iload X47.here hx rfl (hb hby at_55) rfl k) ?_
      obtain ⟨T50, h50, X50, e50, W50, A50, st50⟩ := own_stI X47 hx hZ e47 A47 (i := 1) (by decide) (by decide) (g := (mkF m 57 #[.val (.int p1), .val (.int p2), .val (.int p3), .val (.int p4), .val (.int (p1 &&& (3 : Int32))), .val (.int (p2 &&& (7 : Int32))), .val (.int (p3 &&& (7 : Int32))), .val (.int (p4 &&& (7 : Int32))), .unset, .unset, .unset, .unset] [(.int (p2 &&& (7 : Int32))), (.int (1 : Int32)), (.ref b45), (.ref b45)])) rfl rfl (hb hby at_57)
      have Z51 : n0 ≤ h50.size := by rw [W50.size]; exact Z48
      have N52 := Fr.snoc X50 N49 ge_b45
      refine go _ (T50.setTop (mkF m 58 #[.val (.int p1), .val (.int p2), .val (.int p3), .val (.int p4), .val (.int (p1 &&& (3 : Int32))), .val (.int (p2 &&& (7 : Int32))), .val (.int (p3 &&& (7 : Int32))), .val (.int (p4 &&& (7 : Int32))), .unset, .unset, .unset, .unset] [(.ref b45)])) (st50) ?_
      refine go _ (T50.setTop (mkF m 60 #[.val (.int p1), .val (.int p2), .val (.int p3), .val (.int p4), .val (.int (p1 &&& (3 : Int32))), .val (.int (p2 &&& (7 : Int32))), .val (.int (p3 &&& (7 : Int32))), .val (.int (p4 &&& (7 : Int32))), .val (.ref b45), .unset, .unset, .unset] [])) (fun t k => XS.astore X50.here hx rfl (hb hby at_58) rfl rfl (l' := #[.val (.int p1), .val (.int p2), .val (.int p3), .val (.int p4), .val (.int (p1 &&& (3 : Int32))), .val (.int (p2 &&& (7 : Int32))), .val (.int (p3 &&& (7 : Int32))), .val (.int (p4 &&& (7 : Int32))), .val (.ref b45), .unset, .unset, .unset]) rfl k) ?_
      refine go _ (T50.setTop (mkF m 127 #[.val (.int p1), .val (.int p2), .val (.int p3), .val (.int p4), .val (.int (p1 &&& (3 : Int32))), .val (.int (p2 &&& (7 : Int32))), .val (.int (p3 &&& (7 : Int32))), .val (.int (p4 &&& (7 : Int32))), .val (.ref b45), .unset, .unset, .unset] [])) (fun t k => XS.goto X50.here hx rfl (pc0 := 60) (pc' := 127) rfl (hb hby at_60) (by decide) (by decide) k) ?_
      refine go _ (T50.setTop (mkF m 129 #[.val (.int p1), .val (.int p2), .val (.int p3), .val (.int p4), .val (.int (p1 &&& (3 : Int32))), .val (.int (p2 &&& (7 : Int32))), .val (.int (p3 &&& (7 : Int32))), .val (.int (p4 &&& (7 : Int32))), .val (.ref b45), .unset, .unset, .unset] [(.int (21 : Int32))])) (fun t k => XS.bipush X50.here hx rfl (hb hby at_127) k) ?_
      obtain ⟨T53, h53, b53, X53, e53, E53, g53, A53, st53⟩ := own_new X50 hx hZ (hw _ (List.mem_of_getElem? (i := 0) rfl)) e50 (g := (mkF m 129 #[.val (.int p1), .val (.int p2), .val (.int p3), .val (.int p4), .val (.int (p1 &&& (3 : Int32))), .val (.int (p2 &&& (7 : Int32))), .val (.int (p3 &&& (7 : Int32))), .val (.int (p4 &&& (7 : Int32))), .val (.ref b45), .unset, .unset, .unset] [(.int (21 : Int32))])) rfl (hb hby at_129) rfl (k := 21) (by decide) 21 (by decide) (by decide) (by decide) (by decide)
      have ne_b45_b53 : b45 ≠ b53 := by rw [g53]; exact Nat.ne_of_lt A50.lt
      have Z54 : n0 ≤ h53.size := Nat.le_trans Z51 E53.1
      have ge_b53 : n0 ≤ b53 := by rw [g53]; exact Z51
      have A55 := A50.ext E53
      have A53' : AF Z h53 b53 .int 21 (fun _ => .int 0) := A53
      refine go _ (T53.setTop (mkF m 131 #[.val (.int p1), .val (.int p2), .val (.int p3), .val (.int p4), .val (.int (p1 &&& (3 : Int32))), .val (.int (p2 &&& (7 : Int32))), .val (.int (p3 &&& (7 : Int32))), .val (.int (p4 &&& (7 : Int32))), .val (.ref b45), .unset, .unset, .unset] [(.ref b53)])) (st53) ?_
      refine go _ (T53.setTop (mkF m 133 #[.val (.int p1), .val (.int p2), .val (.int p3), .val (.int p4), .val (.int (p1 &&& (3 : Int32))), .val (.int (p2 &&& (7 : Int32))), .val (.int (p3 &&& (7 : Int32))), .val (.int (p4 &&& (7 : Int32))), .val (.ref b45), .val (.ref b53), .unset, .unset] [])) (fun t k => XS.astore X53.here hx rfl (hb hby at_131) rfl rfl (l' := #[.val (.int p1), .val (.int p2), .val (.int p3), .val (.int p4), .val (.int (p1 &&& (3 : Int32))), .val (.int (p2 &&& (7 : Int32))), .val (.int (p3 &&& (7 : Int32))), .val (.int (p4 &&& (7 : Int32))), .val (.ref b45), .val (.ref b53), .unset, .unset]) rfl k) ?_
      obtain ⟨T56, h56, X56, e56, E56, A56, D56, -, st56⟩ := newO X53 hx hZ hown (hw _ (List.mem_of_getElem? (i := 1) rfl)) (hw _ (List.mem_of_getElem? (i := 2) rfl)) (hw _ (List.mem_of_getElem? (i := 3) rfl)) e53 (g := (mkF m 133 #[.val (.int p1), .val (.int p2), .val (.int p3), .val (.int p4), .val (.int (p1 &&& (3 : Int32))), .val (.int (p2 &&& (7 : Int32))), .val (.int (p3 &&& (7 : Int32))), .val (.int (p4 &&& (7 : Int32))), .val (.ref b45), .val (.ref b53), .unset, .unset] [])) rfl (hb hby at_133) (by decide) (by decide)
      obtain ⟨b56, g56⟩ : ∃ z, z = h53.size := ⟨_, rfl⟩
      rw [← g56] at A56 D56 st56
      have ne_b45_b56 : b45 ≠ b56 := by rw [g56]; exact Nat.ne_of_lt A55.lt
      have ne_b53_b56 : b53 ≠ b56 := by rw [g56]; exact Nat.ne_of_lt A53'.lt
      have Z57 : n0 ≤ h56.size := Nat.le_trans Z54 E56.1
      have ge_b56 : n0 ≤ b56 := by rw [g56]; exact Z54
      have A58 := A55.ext E56
      have A59 := A53'.ext E56
      have F_starts_b56 : Fld Z h56 b56 "com/example/lambro/lambro/IntRows" "starts" "[I" .null := D56 (Or.inr (hw _ (List.mem_of_getElem? (i := 11) rfl))) (ty := (.array .int)) (by decide)
      have F_values_b56 : Fld Z h56 b56 "com/example/lambro/lambro/IntRows" "values" "[I" .null := D56 (Or.inr (hw _ (List.mem_of_getElem? (i := 13) rfl))) (ty := (.array .int)) (by decide)
      refine go _ (T56.setTop (mkF m 136 #[.val (.int p1), .val (.int p2), .val (.int p3), .val (.int p4), .val (.int (p1 &&& (3 : Int32))), .val (.int (p2 &&& (7 : Int32))), .val (.int (p3 &&& (7 : Int32))), .val (.int (p4 &&& (7 : Int32))), .val (.ref b45), .val (.ref b53), .unset, .unset] [(.ref b56)])) (st56) ?_
      refine go _ (T56.setTop (mkF m 137 #[.val (.int p1), .val (.int p2), .val (.int p3), .val (.int p4), .val (.int (p1 &&& (3 : Int32))), .val (.int (p2 &&& (7 : Int32))), .val (.int (p3 &&& (7 : Int32))), .val (.int (p4 &&& (7 : Int32))), .val (.ref b45), .val (.ref b53), .unset, .unset] [(.ref b56), (.ref b56)])) (fun t k => XS.dup X56.here hx rfl (hb hby at_136) rfl rfl k) ?_
      refine go _ (T56.setTop (mkF m 139 #[.val (.int p1), .val (.int p2), .val (.int p3), .val (.int p4), .val (.int (p1 &&& (3 : Int32))), .val (.int (p2 &&& (7 : Int32))), .val (.int (p3 &&& (7 : Int32))), .val (.int (p4 &&& (7 : Int32))), .val (.ref b45), .val (.ref b53), .unset, .unset] [(.ref b45), (.ref b56), (.ref b56)])) (fun t k => XS.aload X56.here hx rfl (hb hby at_137) rfl rfl k) ?_
      refine go _ (T56.setTop (mkF m 141 #[.val (.int p1), .val (.int p2), .val (.int p3), .val (.int p4), .val (.int (p1 &&& (3 : Int32))), .val (.int (p2 &&& (7 : Int32))), .val (.int (p3 &&& (7 : Int32))), .val (.int (p4 &&& (7 : Int32))), .val (.ref b45), .val (.ref b53), .unset, .unset] [(.ref b53), (.ref b45), (.ref b56), (.ref b56)])) (fun t k => XS.aload X56.here hx rfl (hb hby at_139) rfl rfl k) ?_
      obtain ⟨_, _, ⟨T60, L60, k60, n60⟩, -, X60, ⟨Lc60, hQ60, l60, y60, z60⟩, st60⟩ := X56.specialBack hx (y := (⟨"com/example/lambro/lambro/IntRows", "<init>", "([I[I)V"⟩ : MethodName)) rfl hown (mvT hZ (hw _ (List.mem_of_getElem? (i := 4) rfl))) (mvT hZ (hw _ (List.mem_of_getElem? (i := 5) rfl))) (mvT hZ (hw _ (List.mem_of_getElem? (i := 6) rfl))) (by decide) (backOf (W := 1) (rm1 l Z a0 hw [] b56 b45 b53  h56 n0 Z57 A56 F_starts_b56 F_values_b56 ge_b56) hZ (hw _ (List.mem_of_getElem? (i := 6) rfl)) (hw _ (List.mem_of_getElem? (i := 3) rfl)) (by decide) (by decide)) (g := (mkF m 141 #[.val (.int p1), .val (.int p2), .val (.int p3), .val (.int p4), .val (.int (p1 &&& (3 : Int32))), .val (.int (p2 &&& (7 : Int32))), .val (.int (p3 &&& (7 : Int32))), .val (.int (p4 &&& (7 : Int32))), .val (.ref b45), .val (.ref b53), .unset, .unset] [(.ref b53), (.ref b45), (.ref b56), (.ref b56)])) rfl (by rw [hml]; rfl) (Steps.refl _) (a := b56) (argsL := [(.ref b45), (.ref b53)]) (rest := [(.ref b56)]) (lenOf pd_1 rfl) rfl (by show 2 * 0 + _ ≤ _; exact Nat.le_of_eq rfl) (hb hby at_141) (fun _ _ => ⟨rfl, e56, (by decide : 0 + 1 + 1 + 1 + 0 ≤ _), (by decide : 0 + 2 + 21 + 2 + 0 ≤ _)⟩)
      dsimp only [Pt.U, Pt.locs, Pt.cells, Pt.slots] at X60 l60 y60 z60 st60 hQ60
      subst l60 y60 z60
      obtain ⟨rfl, Nq60, Kq60, Eq60, Fs60, Fv60⟩ := hQ60
      have N61 := Fr.app N52 Nq60
      have Z62 : n0 ≤ T60.heap.size := Nat.le_trans Z57 Kq60.1
      have A63 := A58.keep Kq60 (ninS ne_b45_b56 nin0)
      have A64 := A59.keep Kq60 (ninS ne_b53_b56 nin0)
      refine go _ (T60.setTop (mkF m 144 #[.val (.int p1), .val (.int p2), .val (.int p3), .val (.int p4), .val (.int (p1 &&& (3 : Int32))), .val (.int (p2 &&& (7 : Int32))), .val (.int (p3 &&& (7 : Int32))), .val (.int (p4 &&& (7 : Int32))), .val (.ref b45), .val (.ref b53), .unset, .unset] [(.ref b56)])) (fun t k => st60.trans k) ?_
      refine go _ (T60.setTop (mkF m 146 #[.val (.int p1), .val (.int p2), .val (.int p3), .val (.int p4), .val (.int (p1 &&& (3 : Int32))), .val (.int (p2 &&& (7 : Int32))), .val (.int (p3 &&& (7 : Int32))), .val (.int (p4 &&& (7 : Int32))), .val (.ref b45), .val (.ref b53), .val (.ref b56), .unset] [])) (fun t k => XS.astore X60.here hx rfl (hb hby at_144) rfl rfl (l' := #[.val (.int p1), .val (.int p2), .val (.int p3), .val (.int p4), .val (.int (p1 &&& (3 : Int32))), .val (.int (p2 &&& (7 : Int32))), .val (.int (p3 &&& (7 : Int32))), .val (.int (p4 &&& (7 : Int32))), .val (.ref b45), .val (.ref b53), .val (.ref b56), .unset]) rfl k) ?_
      refine go _ (T60.setTop (mkF m 147 #[.val (.int p1), .val (.int p2), .val (.int p3), .val (.int p4), .val (.int (p1 &&& (3 : Int32))), .val (.int (p2 &&& (7 : Int32))), .val (.int (p3 &&& (7 : Int32))), .val (.int (p4 &&& (7 : Int32))), .val (.ref b45), .val (.ref b53), .val (.ref b56), .unset] [(.int (0 : Int32))])) (fun t k => XS.iconst X60.here hx rfl (hb hby at_146) k) ?_
      refine go _ (T60.setTop (mkF m 149 #[.val (.int p1), .val (.int p2), .val (.int p3), .val (.int p4), .val (.int (p1 &&& (3 : Int32))), .val (.int (p2 &&& (7 : Int32))), .val (.int (p3 &&& (7 : Int32))), .val (.int (p4 &&& (7 : Int32))), .val (.ref b45), .val (.ref b53), .val (.ref b56), .val (.int (0 : Int32))] [])) (fun t k => XS.istore X60.here hx rfl (hb hby at_147) rfl (l' := #[.val (.int p1), .val (.int p2), .val (.int p3), .val (.int p4), .val (.int (p1 &&& (3 : Int32))), .val (.int (p2 &&& (7 : Int32))), .val (.int (p3 &&& (7 : Int32))), .val (.int (p4 &&& (7 : Int32))), .val (.ref b45), .val (.ref b53), .val (.ref b56), .val (.int (0 : Int32))]) rfl k) ?_
      refine go _ (T60.setTop (mkF m 151 #[.val (.int p1), .val (.int p2), .val (.int p3), .val (.int p4), .val (.int (p1 &&& (3 : Int32))), .val (.int (p2 &&& (7 : Int32))), .val (.int (p3 &&& (7 : Int32))), .val (.int (p4 &&& (7 : Int32))), .val (.ref b45), .val (.ref b53), .val (.ref b56), .val (.int (0 : Int32))] [(.int (p1 &&& (3 : Int32)))])) (fun t k => XS.iload X60.here hx rfl (hb hby at_149) rfl k) ?_
      refine go _ (T60.setTop (mkF m 152 #[.val (.int p1), .val (.int p2), .val (.int p3), .val (.int p4), .val (.int (p1 &&& (3 : Int32))), .val (.int (p2 &&& (7 : Int32))), .val (.int (p3 &&& (7 : Int32))), .val (.int (p4 &&& (7 : Int32))), .val (.ref b45), .val (.ref b53), .val (.ref b56), .val (.int (0 : Int32))] [(.int (1 : Int32)), (.int (p1 &&& (3 : Int32)))])) (fun t k => XS.iconst X60.here hx rfl (hb hby at_151) k) ?_
      have hc65 : ¬ ((p1 &&& (3 : Int32)) < (1 : Int32)) := (by rw [hc44]; decide)
      refine go _ (T60.setTop (mkF m 155 #[.val (.int p1), .val (.int p2), .val (.int p3), .val (.int p4), .val (.int (p1 &&& (3 : Int32))), .val (.int (p2 &&& (7 : Int32))), .val (.int (p3 &&& (7 : Int32))), .val (.int (p4 &&& (7 : Int32))), .val (.ref b45), .val (.ref b53), .val (.ref b56), .val (.int (0 : Int32))] [])) (fun t k => XS.icmpNo X60.here hx rfl (hb hby at_152) rfl (flt hc65).1 k) ?_
      refine go _ (T60.setTop (mkF m 157 #[.val (.int p1), .val (.int p2), .val (.int p3), .val (.int p4), .val (.int (p1 &&& (3 : Int32))), .val (.int (p2 &&& (7 : Int32))), .val (.int (p3 &&& (7 : Int32))), .val (.int (p4 &&& (7 : Int32))), .val (.ref b45), .val (.ref b53), .val (.ref b56), .val (.int (0 : Int32))] [(.int (0 : Int32))])) (fun t k => XS.iload X60.here hx rfl (hb hby at_155) rfl k) ?_
      refine go _ (T60.setTop (mkF m 159 #[.val (.int p1), .val (.int p2), .val (.int p3), .val (.int p4), .val (.int (p1 &&& (3 : Int32))), .val (.int (p2 &&& (7 : Int32))), .val (.int (p3 &&& (7 : Int32))), .val (.int (p4 &&& (7 : Int32))), .val (.ref b45), .val (.ref b53), .val (.ref b56), .val (.int (0 : Int32))] [(.int (p2 &&& (7 : Int32))), (.int (0 : Int32))])) (fun t k => XS.iload X60.here hx rfl (hb hby at_157) rfl k) ?_
      refine go _ (T60.setTop (mkF m 160 #[.val (.int p1), .val (.int p2), .val (.int p3), .val (.int p4), .val (.int (p1 &&& (3 : Int32))), .val (.int (p2 &&& (7 : Int32))), .val (.int (p3 &&& (7 : Int32))), .val (.int (p4 &&& (7 : Int32))), .val (.ref b45), .val (.ref b53), .val (.ref b56), .val (.int (0 : Int32))] [(.int ((0 : Int32) + (p2 &&& (7 : Int32))))])) (fun t k => XS.iadd X60.here hx rfl (hb hby at_159) rfl k) ?_
      refine go _ (T60.setTop (mkF m 162 #[.val (.int p1), .val (.int p2), .val (.int p3), .val (.int p4), .val (.int (p1 &&& (3 : Int32))), .val (.int (p2 &&& (7 : Int32))), .val (.int (p3 &&& (7 : Int32))), .val (.int (p4 &&& (7 : Int32))), .val (.ref b45), .val (.ref b53), .val (.ref b56), .val (.int ((0 : Int32) + (p2 &&& (7 : Int32))))] [])) (fun t k => XS.istore X60.here hx rfl (hb hby at_160) rfl (l' := #[.val (.int p1), .val (.int p2), .val (.int p3), .val (.int p4), .val (.int (p1 &&& (3 : Int32))), .val (.int (p2 &&& (7 : Int32))), .val (.int (p3 &&& (7 : Int32))), .val (.int (p4 &&& (7 : Int32))), .val (.ref b45), .val (.ref b53), .val (.ref b56), .val (.int ((0 : Int32) + (p2 &&& (7 : Int32))))]) rfl k) ?_
      refine go _ (T60.setTop (mkF m 164 #[.val (.int p1), .val (.int p2), .val (.int p3), .val (.int p4), .val (.int (p1 &&& (3 : Int32))), .val (.int (p2 &&& (7 : Int32))), .val (.int (p3 &&& (7 : Int32))), .val (.int (p4 &&& (7 : Int32))), .val (.ref b45), .val (.ref b53), .val (.ref b56), .val (.int ((0 : Int32) + (p2 &&& (7 : Int32))))] [(.int (p1 &&& (3 : Int32)))])) (fun t k => XS.iload X60.here hx rfl (hb hby at_162) rfl k) ?_
      refine go _ (T60.setTop (mkF m 165 #[.val (.int p1), .val (.int p2), .val (.int p3), .val (.int p4), .val (.int (p1 &&& (3 : Int32))), .val (.int (p2 &&& (7 : Int32))), .val (.int (p3 &&& (7 : Int32))), .val (.int (p4 &&& (7 : Int32))), .val (.ref b45), .val (.ref b53), .val (.ref b56), .val (.int ((0 : Int32) + (p2 &&& (7 : Int32))))] [(.int (2 : Int32)), (.int (p1 &&& (3 : Int32)))])) (fun t k => XS.iconst X60.here hx rfl (hb hby at_164) k) ?_
      have hc66 : ((p1 &&& (3 : Int32)) < (2 : Int32)) := (by rw [hc44]; decide)
      refine go _ (T60.setTop (mkF m 175 #[.val (.int p1), .val (.int p2), .val (.int p3), .val (.int p4), .val (.int (p1 &&& (3 : Int32))), .val (.int (p2 &&& (7 : Int32))), .val (.int (p3 &&& (7 : Int32))), .val (.int (p4 &&& (7 : Int32))), .val (.ref b45), .val (.ref b53), .val (.ref b56), .val (.int ((0 : Int32) + (p2 &&& (7 : Int32))))] [])) (fun t k => XS.icmpYes X60.here hx rfl (pc0 := 165) (pc' := 175) rfl (hb hby at_165) rfl (tlt hc66).1 (by decide) (by decide) k) ?_
      refine go _ (T60.setTop (mkF m 177 #[.val (.int p1), .val (.int p2), .val (.int p3), .val (.int p4), .val (.int (p1 &&& (3 : Int32))), .val (.int (p2 &&& (7 : Int32))), .val (.int (p3 &&& (7 : Int32))), .val (.int (p4 &&& (7 : Int32))), .val (.ref b45), .val (.ref b53), .val (.ref b56), .val (.int ((0 : Int32) + (p2 &&& (7 : Int32))))] [(.int (p1 &&& (3 : Int32)))])) (fun t k => XS.iload X60.here hx rfl (hb hby at_175) rfl k) ?_
      refine go _ (T60.setTop (mkF m 178 #[.val (.int p1), .val (.int p2), .val (.int p3), .val (.int p4), .val (.int (p1 &&& (3 : Int32))), .val (.int (p2 &&& (7 : Int32))), .val (.int (p3 &&& (7 : Int32))), .val (.int (p4 &&& (7 : Int32))), .val (.ref b45), .val (.ref b53), .val (.ref b56), .val (.int ((0 : Int32) + (p2 &&& (7 : Int32))))] [(.int (3 : Int32)), (.int (p1 &&& (3 : Int32)))])) (fun t k => XS.iconst X60.here hx rfl (hb hby at_177) k) ?_
      have hc67 : ((p1 &&& (3 : Int32)) < (3 : Int32)) := (by rw [hc44]; decide)
      refine go _ (T60.setTop (mkF m 188 #[.val (.int p1), .val (.int p2), .val (.int p3), .val (.int p4), .val (.int (p1 &&& (3 : Int32))), .val (.int (p2 &&& (7 : Int32))), .val (.int (p3 &&& (7 : Int32))), .val (.int (p4 &&& (7 : Int32))), .val (.ref b45), .val (.ref b53), .val (.ref b56), .val (.int ((0 : Int32) + (p2 &&& (7 : Int32))))] [])) (fun t k => XS.icmpYes X60.here hx rfl (pc0 := 178) (pc' := 188) rfl (hb hby at_178) rfl (tlt hc67).1 (by decide) (by decide) k) ?_
      refine go _ (T60.setTop (mkF m 190 #[.val (.int p1), .val (.int p2), .val (.int p3), .val (.int p4), .val (.int (p1 &&& (3 : Int32))), .val (.int (p2 &&& (7 : Int32))), .val (.int (p3 &&& (7 : Int32))), .val (.int (p4 &&& (7 : Int32))), .val (.ref b45), .val (.ref b53), .val (.ref b56), .val (.int ((0 : Int32) + (p2 &&& (7 : Int32))))] [(.ref b56)])) (fun t k => XS.aload X60.here hx rfl (hb hby at_188) rfl rfl k) ?_
      obtain ⟨cq68, kq68, q68a, q68b, q68c⟩ := isOf hZ rfl Eq60
      obtain ⟨_, _, ⟨T68, L68, k68, n68⟩, -, X68, ⟨Lc68, hQ68, l68, y68, z68⟩, st68⟩ := X60.virtualBack hx (y := (⟨"com/example/lambro/lambro/IntRows", "rows", "()I"⟩ : MethodName)) (z := (⟨"com/example/lambro/lambro/IntRows", "rows", "()I"⟩ : MethodName)) hown (mvT hZ (hw _ (List.mem_of_getElem? (i := 14) rfl))) (mvT hZ (hw _ (List.mem_of_getElem? (i := 15) rfl))) (notFace_of_selects (args := #[]) (mvT hZ (hw _ (List.mem_of_getElem? (i := 17) rfl)))) (mvT hZ (hw _ (List.mem_of_getElem? (i := 17) rfl))) (mvT hZ (hw _ (List.mem_of_getElem? (i := 16) rfl))) (by decide) (backOf (W := 0) (rm3 l Z a0 hw [] b56 b45 2 _ T60.heap n0 Z62 Fs60 A63) hZ (hw _ (List.mem_of_getElem? (i := 18) rfl)) (hw _ (List.mem_of_getElem? (i := 3) rfl)) (by decide) (by decide)) q68a q68c (g := (mkF m 190 #[.val (.int p1), .val (.int p2), .val (.int p3), .val (.int p4), .val (.int (p1 &&& (3 : Int32))), .val (.int (p2 &&& (7 : Int32))), .val (.int (p3 &&& (7 : Int32))), .val (.int (p4 &&& (7 : Int32))), .val (.ref b45), .val (.ref b53), .val (.ref b56), .val (.int ((0 : Int32) + (p2 &&& (7 : Int32))))] [(.ref b56)])) rfl (by rw [hml]; rfl) (Steps.refl _) (argsL := []) (rest := []) (lenOf pd_2 rfl) rfl (by show 2 * 0 + _ ≤ _; exact Nat.le_of_eq rfl) (hb hby at_190) (fun _ _ => ⟨rfl, rfl, (by decide : 0 + 1 + 1 + 1 + 0 ≤ _), (by decide : 0 + 2 + 21 + 2 + 0 ≤ _)⟩)
      dsimp only [Pt.U, Pt.locs, Pt.cells, Pt.slots] at X68 l68 y68 z68 st68 hQ68
      subst l68 y68 z68
      obtain ⟨rfl, Nq68, hh68⟩ := hQ68
      have N69 := Fr.app N61 Nq68
      refine go _ (T68.setTop (mkF m 193 #[.val (.int p1), .val (.int p2), .val (.int p3), .val (.int p4), .val (.int (p1 &&& (3 : Int32))), .val (.int (p2 &&& (7 : Int32))), .val (.int (p3 &&& (7 : Int32))), .val (.int (p4 &&& (7 : Int32))), .val (.ref b45), .val (.ref b53), .val (.ref b56), .val (.int ((0 : Int32) + (p2 &&& (7 : Int32))))] [(.int (Int32.ofNat 2 - (1 : Int32)))])) (fun t k => st68.trans k) ?_
      refine go _ (T68.setTop (mkF m 195 #[.val (.int p1), .val (.int p2), .val (.int p3), .val (.int p4), .val (.int (p1 &&& (3 : Int32))), .val (.int (p2 &&& (7 : Int32))), .val (.int (p3 &&& (7 : Int32))), .val (.int (p4 &&& (7 : Int32))), .val (.ref b45), .val (.ref b53), .val (.ref b56), .val (.int ((0 : Int32) + (p2 &&& (7 : Int32))))] [(.int (p1 &&& (3 : Int32))), (.int (Int32.ofNat 2 - (1 : Int32)))])) (fun t k => XS.iload X68.here hx rfl (hb hby at_193) rfl k) ?_
      have hc70 : ((Int32.ofNat 2 - (1 : Int32)) = (p1 &&& (3 : Int32))) := (by rw [hc44]; decide)
      refine go _ (T68.setTop (mkF m 198 #[.val (.int p1), .val (.int p2), .val (.int p3), .val (.int p4), .val (.int (p1 &&& (3 : Int32))), .val (.int (p2 &&& (7 : Int32))), .val (.int (p3 &&& (7 : Int32))), .val (.int (p4 &&& (7 : Int32))), .val (.ref b45), .val (.ref b53), .val (.ref b56), .val (.int ((0 : Int32) + (p2 &&& (7 : Int32))))] [])) (fun t k => XS.icmpNo X68.here hx rfl (hb hby at_195) rfl (teq hc70).2 k) ?_
      refine go _ (T68.setTop (mkF m 200 #[.val (.int p1), .val (.int p2), .val (.int p3), .val (.int p4), .val (.int (p1 &&& (3 : Int32))), .val (.int (p2 &&& (7 : Int32))), .val (.int (p3 &&& (7 : Int32))), .val (.int (p4 &&& (7 : Int32))), .val (.ref b45), .val (.ref b53), .val (.ref b56), .val (.int ((0 : Int32) + (p2 &&& (7 : Int32))))] [(.ref b56)])) (fun t k => XS.aload X68.here hx rfl (hb hby at_198) rfl rfl k) ?_
      obtain ⟨cq71, kq71, q71a, q71b, q71c⟩ := isOf hZ hh68 Eq60
      obtain ⟨_, _, ⟨T71, L71, k71, n71⟩, -, X71, ⟨Lc71, hQ71, l71, y71, z71⟩, st71⟩ := X68.virtualBack hx (y := (⟨"com/example/lambro/lambro/IntRows", "count", "()I"⟩ : MethodName)) (z := (⟨"com/example/lambro/lambro/IntRows", "count", "()I"⟩ : MethodName)) hown (mvT hZ (hw _ (List.mem_of_getElem? (i := 19) rfl))) (mvT hZ (hw _ (List.mem_of_getElem? (i := 20) rfl))) (notFace_of_selects (args := #[]) (mvT hZ (hw _ (List.mem_of_getElem? (i := 22) rfl)))) (mvT hZ (hw _ (List.mem_of_getElem? (i := 22) rfl))) (mvT hZ (hw _ (List.mem_of_getElem? (i := 21) rfl))) (by decide) (backOf (W := 0) (rm4 l Z a0 hw [] b56 b45 2 _ 1 (p2 &&& (7 : Int32)) T60.heap n0 Z62 Fs60 A63 (by decide) (by decide) rfl) hZ (hw _ (List.mem_of_getElem? (i := 23) rfl)) (hw _ (List.mem_of_getElem? (i := 3) rfl)) (by decide) (by decide)) q71a q71c (g := (mkF m 200 #[.val (.int p1), .val (.int p2), .val (.int p3), .val (.int p4), .val (.int (p1 &&& (3 : Int32))), .val (.int (p2 &&& (7 : Int32))), .val (.int (p3 &&& (7 : Int32))), .val (.int (p4 &&& (7 : Int32))), .val (.ref b45), .val (.ref b53), .val (.ref b56), .val (.int ((0 : Int32) + (p2 &&& (7 : Int32))))] [(.ref b56)])) rfl (by rw [hml]; rfl) (Steps.refl _) (argsL := []) (rest := []) (lenOf pd_2 rfl) rfl (by show 2 * 0 + _ ≤ _; exact Nat.le_of_eq rfl) (hb hby at_200) (fun _ _ => ⟨rfl, hh68, (by decide : 0 + 1 + 1 + 1 + 0 ≤ _), (by decide : 0 + 2 + 21 + 2 + 0 ≤ _)⟩)
      dsimp only [Pt.U, Pt.locs, Pt.cells, Pt.slots] at X71 l71 y71 z71 st71 hQ71
      subst l71 y71 z71
      obtain ⟨rfl, Nq71, hh71⟩ := hQ71
      have N72 := Fr.app N69 Nq71
      refine go _ (T71.setTop (mkF m 203 #[.val (.int p1), .val (.int p2), .val (.int p3), .val (.int p4), .val (.int (p1 &&& (3 : Int32))), .val (.int (p2 &&& (7 : Int32))), .val (.int (p3 &&& (7 : Int32))), .val (.int (p4 &&& (7 : Int32))), .val (.ref b45), .val (.ref b53), .val (.ref b56), .val (.int ((0 : Int32) + (p2 &&& (7 : Int32))))] [(.int (p2 &&& (7 : Int32)))])) (fun t k => st71.trans k) ?_
      refine go _ (T71.setTop (mkF m 205 #[.val (.int p1), .val (.int p2), .val (.int p3), .val (.int p4), .val (.int (p1 &&& (3 : Int32))), .val (.int (p2 &&& (7 : Int32))), .val (.int (p3 &&& (7 : Int32))), .val (.int (p4 &&& (7 : Int32))), .val (.ref b45), .val (.ref b53), .val (.ref b56), .val (.int ((0 : Int32) + (p2 &&& (7 : Int32))))] [(.int ((0 : Int32) + (p2 &&& (7 : Int32)))), (.int (p2 &&& (7 : Int32)))])) (fun t k => XS.iload X71.here hx rfl (hb hby at_203) rfl k) ?_
      have hc73 : ((p2 &&& (7 : Int32)) = ((0 : Int32) + (p2 &&& (7 : Int32)))) := (by simp)
      refine go _ (T71.setTop (mkF m 208 #[.val (.int p1), .val (.int p2), .val (.int p3), .val (.int p4), .val (.int (p1 &&& (3 : Int32))), .val (.int (p2 &&& (7 : Int32))), .val (.int (p3 &&& (7 : Int32))), .val (.int (p4 &&& (7 : Int32))), .val (.ref b45), .val (.ref b53), .val (.ref b56), .val (.int ((0 : Int32) + (p2 &&& (7 : Int32))))] [])) (fun t k => XS.icmpNo X71.here hx rfl (hb hby at_205) rfl (teq hc73).2 k) ?_
      refine go _ (T71.setTop (mkF m 209 #[.val (.int p1), .val (.int p2), .val (.int p3), .val (.int p4), .val (.int (p1 &&& (3 : Int32))), .val (.int (p2 &&& (7 : Int32))), .val (.int (p3 &&& (7 : Int32))), .val (.int (p4 &&& (7 : Int32))), .val (.ref b45), .val (.ref b53), .val (.ref b56), .val (.int ((0 : Int32) + (p2 &&& (7 : Int32))))] [(.int (1 : Int32))])) (fun t k => XS.iconst X71.here hx rfl (hb hby at_208) k) ?_
      refine go _ (T71.setTop (mkF m 213 #[.val (.int p1), .val (.int p2), .val (.int p3), .val (.int p4), .val (.int (p1 &&& (3 : Int32))), .val (.int (p2 &&& (7 : Int32))), .val (.int (p3 &&& (7 : Int32))), .val (.int (p4 &&& (7 : Int32))), .val (.ref b45), .val (.ref b53), .val (.ref b56), .val (.int ((0 : Int32) + (p2 &&& (7 : Int32))))] [(.int (1 : Int32))])) (fun t k => XS.goto X71.here hx rfl (pc0 := 209) (pc' := 213) rfl (hb hby at_209) (by decide) (by decide) k) ?_
      exact fin (some (.int (1 : Int32))) X71 (by decide) (by decide) (fun q => by cases q) (show Q_rm0 Z p1 p2 p3 p4 h0 n0 _ T71.heap _ from (by rw [hh71]; exact ⟨rfl, N72⟩)) (fun fs hr => retN X71 hx (t := .boolean) hret (by simp) (hb hby at_213) hr)
    · refine go _ (s₁.setTop (mkF m 63 #[.val (.int p1), .val (.int p2), .val (.int p3), .val (.int p4), .val (.int (p1 &&& (3 : Int32))), .val (.int (p2 &&& (7 : Int32))), .val (.int (p3 &&& (7 : Int32))), .val (.int (p4 &&& (7 : Int32))), .unset, .unset, .unset, .unset] [])) (fun t k => XS.icmpYes X0.here hx rfl (pc0 := 43) (pc' := 63) rfl (hb hby at_43) rfl (feq hc44).2 (by decide) (by decide) k) ?_
      refine go _ (s₁.setTop (mkF m 65 #[.val (.int p1), .val (.int p2), .val (.int p3), .val (.int p4), .val (.int (p1 &&& (3 : Int32))), .val (.int (p2 &&& (7 : Int32))), .val (.int (p3 &&& (7 : Int32))), .val (.int (p4 &&& (7 : Int32))), .unset, .unset, .unset, .unset] [(.int (p1 &&& (3 : Int32)))])) (fun t k => XS.iload X0.here hx rfl (hb hby at_63) rfl k) ?_
      refine go _ (s₁.setTop (mkF m 66 #[.val (.int p1), .val (.int p2), .val (.int p3), .val (.int p4), .val (.int (p1 &&& (3 : Int32))), .val (.int (p2 &&& (7 : Int32))), .val (.int (p3 &&& (7 : Int32))), .val (.int (p4 &&& (7 : Int32))), .unset, .unset, .unset, .unset] [(.int (2 : Int32)), (.int (p1 &&& (3 : Int32)))])) (fun t k => XS.iconst X0.here hx rfl (hb hby at_65) k) ?_
      by_cases hc74 : (p1 &&& (3 : Int32)) = (2 : Int32)
      · refine go _ (s₁.setTop (mkF m 69 #[.val (.int p1), .val (.int p2), .val (.int p3), .val (.int p4), .val (.int (p1 &&& (3 : Int32))), .val (.int (p2 &&& (7 : Int32))), .val (.int (p3 &&& (7 : Int32))), .val (.int (p4 &&& (7 : Int32))), .unset, .unset, .unset, .unset] [])) (fun t k => XS.icmpNo X0.here hx rfl (hb hby at_66) rfl (teq hc74).2 k) ?_
        refine go _ (s₁.setTop (mkF m 70 #[.val (.int p1), .val (.int p2), .val (.int p3), .val (.int p4), .val (.int (p1 &&& (3 : Int32))), .val (.int (p2 &&& (7 : Int32))), .val (.int (p3 &&& (7 : Int32))), .val (.int (p4 &&& (7 : Int32))), .unset, .unset, .unset, .unset] [(.int (3 : Int32))])) (fun t k => XS.iconst X0.here hx rfl (hb hby at_69) k) ?_
        obtain ⟨T75, h75, b75, X75, e75, E75, g75, A75, st75⟩ := own_new X0 hx hZ (hw _ (List.mem_of_getElem? (i := 0) rfl)) e0 (g := (mkF m 70 #[.val (.int p1), .val (.int p2), .val (.int p3), .val (.int p4), .val (.int (p1 &&& (3 : Int32))), .val (.int (p2 &&& (7 : Int32))), .val (.int (p3 &&& (7 : Int32))), .val (.int (p4 &&& (7 : Int32))), .unset, .unset, .unset, .unset] [(.int (3 : Int32))])) rfl (hb hby at_70) rfl (k := 3) (by decide) 3 (by decide) (by decide) (by decide) (by decide)
        have Z76 : n0 ≤ h75.size := Nat.le_trans Z0 E75.1
        have ge_b75 : n0 ≤ b75 := by rw [g75]; exact Z0
        have A75' : AF Z h75 b75 .int 3 (fun _ => .int 0) := A75
        refine go _ (T75.setTop (mkF m 72 #[.val (.int p1), .val (.int p2), .val (.int p3), .val (.int p4), .val (.int (p1 &&& (3 : Int32))), .val (.int (p2 &&& (7 : Int32))), .val (.int (p3 &&& (7 : Int32))), .val (.int (p4 &&& (7 : Int32))), .unset, .unset, .unset, .unset] [(.ref b75)])) (st75) ?_
        refine go _ (T75.setTop (mkF m 73 #[.val (.int p1), .val (.int p2), .val (.int p3), .val (.int p4), .val (.int (p1 &&& (3 : Int32))), .val (.int (p2 &&& (7 : Int32))), .val (.int (p3 &&& (7 : Int32))), .val (.int (p4 &&& (7 : Int32))), .unset, .unset, .unset, .unset] [(.ref b75), (.ref b75)])) (fun t k => XS.dup X75.here hx rfl (hb hby at_72) rfl rfl k) ?_
        refine go _ (T75.setTop (mkF m 74 #[.val (.int p1), .val (.int p2), .val (.int p3), .val (.int p4), .val (.int (p1 &&& (3 : Int32))), .val (.int (p2 &&& (7 : Int32))), .val (.int (p3 &&& (7 : Int32))), .val (.int (p4 &&& (7 : Int32))), .unset, .unset, .unset, .unset] [(.int (0 : Int32)), (.ref b75), (.ref b75)])) (fun t k => XS.iconst X75.here hx rfl (hb hby at_73) k) ?_
        refine go _ (T75.setTop (mkF m 75 #[.val (.int p1), .val (.int p2), .val (.int p3), .val (.int p4), .val (.int (p1 &&& (3 : Int32))), .val (.int (p2 &&& (7 : Int32))), .val (.int (p3 &&& (7 : Int32))), .val (.int (p4 &&& (7 : Int32))), .unset, .unset, .unset, .unset] [(.int (0 : Int32)), (.int (0 : Int32)), (.ref b75), (.ref b75)])) (fun t k => XS.iconst X75.here hx rfl (hb hby at_74) k) ?_
        obtain ⟨T77, h77, X77, e77, W77, A77, st77⟩ := own_stI X75 hx hZ e75 A75' (i := 0) (by decide) (by decide) (g := (mkF m 75 #[.val (.int p1), .val (.int p2), .val (.int p3), .val (.int p4), .val (.int (p1 &&& (3 : Int32))), .val (.int (p2 &&& (7 : Int32))), .val (.int (p3 &&& (7 : Int32))), .val (.int (p4 &&& (7 : Int32))), .unset, .unset, .unset, .unset] [(.int (0 : Int32)), (.int (0 : Int32)), (.ref b75), (.ref b75)])) rfl rfl (hb hby at_75)
        have Z78 : n0 ≤ h77.size := by rw [W77.size]; exact Z76
        have N79 := Fr.snoc X77 N0 ge_b75
        refine go _ (T77.setTop (mkF m 76 #[.val (.int p1), .val (.int p2), .val (.int p3), .val (.int p4), .val (.int (p1 &&& (3 : Int32))), .val (.int (p2 &&& (7 : Int32))), .val (.int (p3 &&& (7 : Int32))), .val (.int (p4 &&& (7 : Int32))), .unset, .unset, .unset, .unset] [(.ref b75)])) (st77) ?_
        refine go _ (T77.setTop (mkF m 77 #[.val (.int p1), .val (.int p2), .val (.int p3), .val (.int p4), .val (.int (p1 &&& (3 : Int32))), .val (.int (p2 &&& (7 : Int32))), .val (.int (p3 &&& (7 : Int32))), .val (.int (p4 &&& (7 : Int32))), .unset, .unset, .unset, .unset] [(.ref b75), (.ref b75)])) (fun t k => XS.dup X77.here hx rfl (hb hby at_76) rfl rfl k) ?_
        refine go _ (T77.setTop (mkF m 78 #[.val (.int p1), .val (.int p2), .val (.int p3), .val (.int p4), .val (.int (p1 &&& (3 : Int32))), .val (.int (p2 &&& (7 : Int32))), .val (.int (p3 &&& (7 : Int32))), .val (.int (p4 &&& (7 : Int32))), .unset, .unset, .unset, .unset] [(.int (1 : Int32)), (.ref b75), (.ref b75)])) (fun t k => XS.iconst X77.here hx rfl (hb hby at_77) k) ?_
        refine go _ (T77.setTop (mkF m 80 #[.val (.int p1), .val (.int p2), .val (.int p3), .val (.int p4), .val (.int (p1 &&& (3 : Int32))), .val (.int (p2 &&& (7 : Int32))), .val (.int (p3 &&& (7 : Int32))), .val (.int (p4 &&& (7 : Int32))), .unset, .unset, .unset, .unset] [(.int (p2 &&& (7 : Int32))), (.int (1 : Int32)), (.ref b75), (.ref b75)])) (fun t k => XS.iload X77.here hx rfl (hb hby at_78) rfl k) ?_
        obtain ⟨T80, h80, X80, e80, W80, A80, st80⟩ := own_stI X77 hx hZ e77 A77 (i := 1) (by decide) (by decide) (g := (mkF m 80 #[.val (.int p1), .val (.int p2), .val (.int p3), .val (.int p4), .val (.int (p1 &&& (3 : Int32))), .val (.int (p2 &&& (7 : Int32))), .val (.int (p3 &&& (7 : Int32))), .val (.int (p4 &&& (7 : Int32))), .unset, .unset, .unset, .unset] [(.int (p2 &&& (7 : Int32))), (.int (1 : Int32)), (.ref b75), (.ref b75)])) rfl rfl (hb hby at_80)
        have Z81 : n0 ≤ h80.size := by rw [W80.size]; exact Z78
        have N82 := Fr.snoc X80 N79 ge_b75
        refine go _ (T80.setTop (mkF m 81 #[.val (.int p1), .val (.int p2), .val (.int p3), .val (.int p4), .val (.int (p1 &&& (3 : Int32))), .val (.int (p2 &&& (7 : Int32))), .val (.int (p3 &&& (7 : Int32))), .val (.int (p4 &&& (7 : Int32))), .unset, .unset, .unset, .unset] [(.ref b75)])) (st80) ?_
        refine go _ (T80.setTop (mkF m 82 #[.val (.int p1), .val (.int p2), .val (.int p3), .val (.int p4), .val (.int (p1 &&& (3 : Int32))), .val (.int (p2 &&& (7 : Int32))), .val (.int (p3 &&& (7 : Int32))), .val (.int (p4 &&& (7 : Int32))), .unset, .unset, .unset, .unset] [(.ref b75), (.ref b75)])) (fun t k => XS.dup X80.here hx rfl (hb hby at_81) rfl rfl k) ?_
        refine go _ (T80.setTop (mkF m 83 #[.val (.int p1), .val (.int p2), .val (.int p3), .val (.int p4), .val (.int (p1 &&& (3 : Int32))), .val (.int (p2 &&& (7 : Int32))), .val (.int (p3 &&& (7 : Int32))), .val (.int (p4 &&& (7 : Int32))), .unset, .unset, .unset, .unset] [(.int (2 : Int32)), (.ref b75), (.ref b75)])) (fun t k => XS.iconst X80.here hx rfl (hb hby at_82) k) ?_
        refine go _ (T80.setTop (mkF m 85 #[.val (.int p1), .val (.int p2), .val (.int p3), .val (.int p4), .val (.int (p1 &&& (3 : Int32))), .val (.int (p2 &&& (7 : Int32))), .val (.int (p3 &&& (7 : Int32))), .val (.int (p4 &&& (7 : Int32))), .unset, .unset, .unset, .unset] [(.int (p2 &&& (7 : Int32))), (.int (2 : Int32)), (.ref b75), (.ref b75)])) (fun t k => XS.iload X80.here hx rfl (hb hby at_83) rfl k) ?_
        refine go _ (T80.setTop (mkF m 87 #[.val (.int p1), .val (.int p2), .val (.int p3), .val (.int p4), .val (.int (p1 &&& (3 : Int32))), .val (.int (p2 &&& (7 : Int32))), .val (.int (p3 &&& (7 : Int32))), .val (.int (p4 &&& (7 : Int32))), .unset, .unset, .unset, .unset] [(.int (p3 &&& (7 : Int32))), (.int (p2 &&& (7 : Int32))), (.int (2 : Int32)), (.ref b75), (.ref b75)])) (fun t k => XS.iload X80.here hx rfl (hb hby at_85) rfl k) ?_
        refine go _ (T80.setTop (mkF m 88 #[.val (.int p1), .val (.int p2), .val (.int p3), .val (.int p4), .val (.int (p1 &&& (3 : Int32))), .val (.int (p2 &&& (7 : Int32))), .val (.int (p3 &&& (7 : Int32))), .val (.int (p4 &&& (7 : Int32))), .unset, .unset, .unset, .unset] [(.int ((p2 &&& (7 : Int32)) + (p3 &&& (7 : Int32)))), (.int (2 : Int32)), (.ref b75), (.ref b75)])) (fun t k => XS.iadd X80.here hx rfl (hb hby at_87) rfl k) ?_
        obtain ⟨T83, h83, X83, e83, W83, A83, st83⟩ := own_stI X80 hx hZ e80 A80 (i := 2) (by decide) (by decide) (g := (mkF m 88 #[.val (.int p1), .val (.int p2), .val (.int p3), .val (.int p4), .val (.int (p1 &&& (3 : Int32))), .val (.int (p2 &&& (7 : Int32))), .val (.int (p3 &&& (7 : Int32))), .val (.int (p4 &&& (7 : Int32))), .unset, .unset, .unset, .unset] [(.int ((p2 &&& (7 : Int32)) + (p3 &&& (7 : Int32)))), (.int (2 : Int32)), (.ref b75), (.ref b75)])) rfl rfl (hb hby at_88)
        have Z84 : n0 ≤ h83.size := by rw [W83.size]; exact Z81
        have N85 := Fr.snoc X83 N82 ge_b75
        refine go _ (T83.setTop (mkF m 89 #[.val (.int p1), .val (.int p2), .val (.int p3), .val (.int p4), .val (.int (p1 &&& (3 : Int32))), .val (.int (p2 &&& (7 : Int32))), .val (.int (p3 &&& (7 : Int32))), .val (.int (p4 &&& (7 : Int32))), .unset, .unset, .unset, .unset] [(.ref b75)])) (st83) ?_
        refine go _ (T83.setTop (mkF m 91 #[.val (.int p1), .val (.int p2), .val (.int p3), .val (.int p4), .val (.int (p1 &&& (3 : Int32))), .val (.int (p2 &&& (7 : Int32))), .val (.int (p3 &&& (7 : Int32))), .val (.int (p4 &&& (7 : Int32))), .val (.ref b75), .unset, .unset, .unset] [])) (fun t k => XS.astore X83.here hx rfl (hb hby at_89) rfl rfl (l' := #[.val (.int p1), .val (.int p2), .val (.int p3), .val (.int p4), .val (.int (p1 &&& (3 : Int32))), .val (.int (p2 &&& (7 : Int32))), .val (.int (p3 &&& (7 : Int32))), .val (.int (p4 &&& (7 : Int32))), .val (.ref b75), .unset, .unset, .unset]) rfl k) ?_
        refine go _ (T83.setTop (mkF m 127 #[.val (.int p1), .val (.int p2), .val (.int p3), .val (.int p4), .val (.int (p1 &&& (3 : Int32))), .val (.int (p2 &&& (7 : Int32))), .val (.int (p3 &&& (7 : Int32))), .val (.int (p4 &&& (7 : Int32))), .val (.ref b75), .unset, .unset, .unset] [])) (fun t k => XS.goto X83.here hx rfl (pc0 := 91) (pc' := 127) rfl (hb hby at_91) (by decide) (by decide) k) ?_
        refine go _ (T83.setTop (mkF m 129 #[.val (.int p1), .val (.int p2), .val (.int p3), .val (.int p4), .val (.int (p1 &&& (3 : Int32))), .val (.int (p2 &&& (7 : Int32))), .val (.int (p3 &&& (7 : Int32))), .val (.int (p4 &&& (7 : Int32))), .val (.ref b75), .unset, .unset, .unset] [(.int (21 : Int32))])) (fun t k => XS.bipush X83.here hx rfl (hb hby at_127) k) ?_
        obtain ⟨T86, h86, b86, X86, e86, E86, g86, A86, st86⟩ := own_new X83 hx hZ (hw _ (List.mem_of_getElem? (i := 0) rfl)) e83 (g := (mkF m 129 #[.val (.int p1), .val (.int p2), .val (.int p3), .val (.int p4), .val (.int (p1 &&& (3 : Int32))), .val (.int (p2 &&& (7 : Int32))), .val (.int (p3 &&& (7 : Int32))), .val (.int (p4 &&& (7 : Int32))), .val (.ref b75), .unset, .unset, .unset] [(.int (21 : Int32))])) rfl (hb hby at_129) rfl (k := 21) (by decide) 21 (by decide) (by decide) (by decide) (by decide)
        have ne_b75_b86 : b75 ≠ b86 := by rw [g86]; exact Nat.ne_of_lt A83.lt
        have Z87 : n0 ≤ h86.size := Nat.le_trans Z84 E86.1
        have ge_b86 : n0 ≤ b86 := by rw [g86]; exact Z84
        have A88 := A83.ext E86
        have A86' : AF Z h86 b86 .int 21 (fun _ => .int 0) := A86
        refine go _ (T86.setTop (mkF m 131 #[.val (.int p1), .val (.int p2), .val (.int p3), .val (.int p4), .val (.int (p1 &&& (3 : Int32))), .val (.int (p2 &&& (7 : Int32))), .val (.int (p3 &&& (7 : Int32))), .val (.int (p4 &&& (7 : Int32))), .val (.ref b75), .unset, .unset, .unset] [(.ref b86)])) (st86) ?_
        refine go _ (T86.setTop (mkF m 133 #[.val (.int p1), .val (.int p2), .val (.int p3), .val (.int p4), .val (.int (p1 &&& (3 : Int32))), .val (.int (p2 &&& (7 : Int32))), .val (.int (p3 &&& (7 : Int32))), .val (.int (p4 &&& (7 : Int32))), .val (.ref b75), .val (.ref b86), .unset, .unset] [])) (fun t k => XS.astore X86.here hx rfl (hb hby at_131) rfl rfl (l' := #[.val (.int p1), .val (.int p2), .val (.int p3), .val (.int p4), .val (.int (p1 &&& (3 : Int32))), .val (.int (p2 &&& (7 : Int32))), .val (.int (p3 &&& (7 : Int32))), .val (.int (p4 &&& (7 : Int32))), .val (.ref b75), .val (.ref b86), .unset, .unset]) rfl k) ?_
        obtain ⟨T89, h89, X89, e89, E89, A89, D89, -, st89⟩ := newO X86 hx hZ hown (hw _ (List.mem_of_getElem? (i := 1) rfl)) (hw _ (List.mem_of_getElem? (i := 2) rfl)) (hw _ (List.mem_of_getElem? (i := 3) rfl)) e86 (g := (mkF m 133 #[.val (.int p1), .val (.int p2), .val (.int p3), .val (.int p4), .val (.int (p1 &&& (3 : Int32))), .val (.int (p2 &&& (7 : Int32))), .val (.int (p3 &&& (7 : Int32))), .val (.int (p4 &&& (7 : Int32))), .val (.ref b75), .val (.ref b86), .unset, .unset] [])) rfl (hb hby at_133) (by decide) (by decide)
        obtain ⟨b89, g89⟩ : ∃ z, z = h86.size := ⟨_, rfl⟩
        rw [← g89] at A89 D89 st89
        have ne_b75_b89 : b75 ≠ b89 := by rw [g89]; exact Nat.ne_of_lt A88.lt
        have ne_b86_b89 : b86 ≠ b89 := by rw [g89]; exact Nat.ne_of_lt A86'.lt
        have Z90 : n0 ≤ h89.size := Nat.le_trans Z87 E89.1
        have ge_b89 : n0 ≤ b89 := by rw [g89]; exact Z87
        have A91 := A88.ext E89
        have A92 := A86'.ext E89
        have F_starts_b89 : Fld Z h89 b89 "com/example/lambro/lambro/IntRows" "starts" "[I" .null := D89 (Or.inr (hw _ (List.mem_of_getElem? (i := 11) rfl))) (ty := (.array .int)) (by decide)
        have F_values_b89 : Fld Z h89 b89 "com/example/lambro/lambro/IntRows" "values" "[I" .null := D89 (Or.inr (hw _ (List.mem_of_getElem? (i := 13) rfl))) (ty := (.array .int)) (by decide)
        refine go _ (T89.setTop (mkF m 136 #[.val (.int p1), .val (.int p2), .val (.int p3), .val (.int p4), .val (.int (p1 &&& (3 : Int32))), .val (.int (p2 &&& (7 : Int32))), .val (.int (p3 &&& (7 : Int32))), .val (.int (p4 &&& (7 : Int32))), .val (.ref b75), .val (.ref b86), .unset, .unset] [(.ref b89)])) (st89) ?_
        refine go _ (T89.setTop (mkF m 137 #[.val (.int p1), .val (.int p2), .val (.int p3), .val (.int p4), .val (.int (p1 &&& (3 : Int32))), .val (.int (p2 &&& (7 : Int32))), .val (.int (p3 &&& (7 : Int32))), .val (.int (p4 &&& (7 : Int32))), .val (.ref b75), .val (.ref b86), .unset, .unset] [(.ref b89), (.ref b89)])) (fun t k => XS.dup X89.here hx rfl (hb hby at_136) rfl rfl k) ?_
        refine go _ (T89.setTop (mkF m 139 #[.val (.int p1), .val (.int p2), .val (.int p3), .val (.int p4), .val (.int (p1 &&& (3 : Int32))), .val (.int (p2 &&& (7 : Int32))), .val (.int (p3 &&& (7 : Int32))), .val (.int (p4 &&& (7 : Int32))), .val (.ref b75), .val (.ref b86), .unset, .unset] [(.ref b75), (.ref b89), (.ref b89)])) (fun t k => XS.aload X89.here hx rfl (hb hby at_137) rfl rfl k) ?_
        refine go _ (T89.setTop (mkF m 141 #[.val (.int p1), .val (.int p2), .val (.int p3), .val (.int p4), .val (.int (p1 &&& (3 : Int32))), .val (.int (p2 &&& (7 : Int32))), .val (.int (p3 &&& (7 : Int32))), .val (.int (p4 &&& (7 : Int32))), .val (.ref b75), .val (.ref b86), .unset, .unset] [(.ref b86), (.ref b75), (.ref b89), (.ref b89)])) (fun t k => XS.aload X89.here hx rfl (hb hby at_139) rfl rfl k) ?_
        obtain ⟨_, _, ⟨T93, L93, k93, n93⟩, -, X93, ⟨Lc93, hQ93, l93, y93, z93⟩, st93⟩ := X89.specialBack hx (y := (⟨"com/example/lambro/lambro/IntRows", "<init>", "([I[I)V"⟩ : MethodName)) rfl hown (mvT hZ (hw _ (List.mem_of_getElem? (i := 4) rfl))) (mvT hZ (hw _ (List.mem_of_getElem? (i := 5) rfl))) (mvT hZ (hw _ (List.mem_of_getElem? (i := 6) rfl))) (by decide) (backOf (W := 1) (rm1 l Z a0 hw [] b89 b75 b86  h89 n0 Z90 A89 F_starts_b89 F_values_b89 ge_b89) hZ (hw _ (List.mem_of_getElem? (i := 6) rfl)) (hw _ (List.mem_of_getElem? (i := 3) rfl)) (by decide) (by decide)) (g := (mkF m 141 #[.val (.int p1), .val (.int p2), .val (.int p3), .val (.int p4), .val (.int (p1 &&& (3 : Int32))), .val (.int (p2 &&& (7 : Int32))), .val (.int (p3 &&& (7 : Int32))), .val (.int (p4 &&& (7 : Int32))), .val (.ref b75), .val (.ref b86), .unset, .unset] [(.ref b86), (.ref b75), (.ref b89), (.ref b89)])) rfl (by rw [hml]; rfl) (Steps.refl _) (a := b89) (argsL := [(.ref b75), (.ref b86)]) (rest := [(.ref b89)]) (lenOf pd_1 rfl) rfl (by show 2 * 0 + _ ≤ _; exact Nat.le_of_eq rfl) (hb hby at_141) (fun _ _ => ⟨rfl, e89, (by decide : 0 + 1 + 1 + 1 + 0 ≤ _), (by decide : 0 + 3 + 21 + 2 + 0 ≤ _)⟩)
        dsimp only [Pt.U, Pt.locs, Pt.cells, Pt.slots] at X93 l93 y93 z93 st93 hQ93
        subst l93 y93 z93
        obtain ⟨rfl, Nq93, Kq93, Eq93, Fs93, Fv93⟩ := hQ93
        have N94 := Fr.app N85 Nq93
        have Z95 : n0 ≤ T93.heap.size := Nat.le_trans Z90 Kq93.1
        have A96 := A91.keep Kq93 (ninS ne_b75_b89 nin0)
        have A97 := A92.keep Kq93 (ninS ne_b86_b89 nin0)
        refine go _ (T93.setTop (mkF m 144 #[.val (.int p1), .val (.int p2), .val (.int p3), .val (.int p4), .val (.int (p1 &&& (3 : Int32))), .val (.int (p2 &&& (7 : Int32))), .val (.int (p3 &&& (7 : Int32))), .val (.int (p4 &&& (7 : Int32))), .val (.ref b75), .val (.ref b86), .unset, .unset] [(.ref b89)])) (fun t k => st93.trans k) ?_
        refine go _ (T93.setTop (mkF m 146 #[.val (.int p1), .val (.int p2), .val (.int p3), .val (.int p4), .val (.int (p1 &&& (3 : Int32))), .val (.int (p2 &&& (7 : Int32))), .val (.int (p3 &&& (7 : Int32))), .val (.int (p4 &&& (7 : Int32))), .val (.ref b75), .val (.ref b86), .val (.ref b89), .unset] [])) (fun t k => XS.astore X93.here hx rfl (hb hby at_144) rfl rfl (l' := #[.val (.int p1), .val (.int p2), .val (.int p3), .val (.int p4), .val (.int (p1 &&& (3 : Int32))), .val (.int (p2 &&& (7 : Int32))), .val (.int (p3 &&& (7 : Int32))), .val (.int (p4 &&& (7 : Int32))), .val (.ref b75), .val (.ref b86), .val (.ref b89), .unset]) rfl k) ?_
        refine go _ (T93.setTop (mkF m 147 #[.val (.int p1), .val (.int p2), .val (.int p3), .val (.int p4), .val (.int (p1 &&& (3 : Int32))), .val (.int (p2 &&& (7 : Int32))), .val (.int (p3 &&& (7 : Int32))), .val (.int (p4 &&& (7 : Int32))), .val (.ref b75), .val (.ref b86), .val (.ref b89), .unset] [(.int (0 : Int32))])) (fun t k => XS.iconst X93.here hx rfl (hb hby at_146) k) ?_
        refine go _ (T93.setTop (mkF m 149 #[.val (.int p1), .val (.int p2), .val (.int p3), .val (.int p4), .val (.int (p1 &&& (3 : Int32))), .val (.int (p2 &&& (7 : Int32))), .val (.int (p3 &&& (7 : Int32))), .val (.int (p4 &&& (7 : Int32))), .val (.ref b75), .val (.ref b86), .val (.ref b89), .val (.int (0 : Int32))] [])) (fun t k => XS.istore X93.here hx rfl (hb hby at_147) rfl (l' := #[.val (.int p1), .val (.int p2), .val (.int p3), .val (.int p4), .val (.int (p1 &&& (3 : Int32))), .val (.int (p2 &&& (7 : Int32))), .val (.int (p3 &&& (7 : Int32))), .val (.int (p4 &&& (7 : Int32))), .val (.ref b75), .val (.ref b86), .val (.ref b89), .val (.int (0 : Int32))]) rfl k) ?_
        refine go _ (T93.setTop (mkF m 151 #[.val (.int p1), .val (.int p2), .val (.int p3), .val (.int p4), .val (.int (p1 &&& (3 : Int32))), .val (.int (p2 &&& (7 : Int32))), .val (.int (p3 &&& (7 : Int32))), .val (.int (p4 &&& (7 : Int32))), .val (.ref b75), .val (.ref b86), .val (.ref b89), .val (.int (0 : Int32))] [(.int (p1 &&& (3 : Int32)))])) (fun t k => XS.iload X93.here hx rfl (hb hby at_149) rfl k) ?_
        refine go _ (T93.setTop (mkF m 152 #[.val (.int p1), .val (.int p2), .val (.int p3), .val (.int p4), .val (.int (p1 &&& (3 : Int32))), .val (.int (p2 &&& (7 : Int32))), .val (.int (p3 &&& (7 : Int32))), .val (.int (p4 &&& (7 : Int32))), .val (.ref b75), .val (.ref b86), .val (.ref b89), .val (.int (0 : Int32))] [(.int (1 : Int32)), (.int (p1 &&& (3 : Int32)))])) (fun t k => XS.iconst X93.here hx rfl (hb hby at_151) k) ?_
        have hc98 : ¬ ((p1 &&& (3 : Int32)) < (1 : Int32)) := (by rw [hc74]; decide)
        refine go _ (T93.setTop (mkF m 155 #[.val (.int p1), .val (.int p2), .val (.int p3), .val (.int p4), .val (.int (p1 &&& (3 : Int32))), .val (.int (p2 &&& (7 : Int32))), .val (.int (p3 &&& (7 : Int32))), .val (.int (p4 &&& (7 : Int32))), .val (.ref b75), .val (.ref b86), .val (.ref b89), .val (.int (0 : Int32))] [])) (fun t k => XS.icmpNo X93.here hx rfl (hb hby at_152) rfl (flt hc98).1 k) ?_
        refine go _ (T93.setTop (mkF m 157 #[.val (.int p1), .val (.int p2), .val (.int p3), .val (.int p4), .val (.int (p1 &&& (3 : Int32))), .val (.int (p2 &&& (7 : Int32))), .val (.int (p3 &&& (7 : Int32))), .val (.int (p4 &&& (7 : Int32))), .val (.ref b75), .val (.ref b86), .val (.ref b89), .val (.int (0 : Int32))] [(.int (0 : Int32))])) (fun t k => XS.iload X93.here hx rfl (hb hby at_155) rfl k) ?_
        refine go _ (T93.setTop (mkF m 159 #[.val (.int p1), .val (.int p2), .val (.int p3), .val (.int p4), .val (.int (p1 &&& (3 : Int32))), .val (.int (p2 &&& (7 : Int32))), .val (.int (p3 &&& (7 : Int32))), .val (.int (p4 &&& (7 : Int32))), .val (.ref b75), .val (.ref b86), .val (.ref b89), .val (.int (0 : Int32))] [(.int (p2 &&& (7 : Int32))), (.int (0 : Int32))])) (fun t k => XS.iload X93.here hx rfl (hb hby at_157) rfl k) ?_
        refine go _ (T93.setTop (mkF m 160 #[.val (.int p1), .val (.int p2), .val (.int p3), .val (.int p4), .val (.int (p1 &&& (3 : Int32))), .val (.int (p2 &&& (7 : Int32))), .val (.int (p3 &&& (7 : Int32))), .val (.int (p4 &&& (7 : Int32))), .val (.ref b75), .val (.ref b86), .val (.ref b89), .val (.int (0 : Int32))] [(.int ((0 : Int32) + (p2 &&& (7 : Int32))))])) (fun t k => XS.iadd X93.here hx rfl (hb hby at_159) rfl k) ?_
        refine go _ (T93.setTop (mkF m 162 #[.val (.int p1), .val (.int p2), .val (.int p3), .val (.int p4), .val (.int (p1 &&& (3 : Int32))), .val (.int (p2 &&& (7 : Int32))), .val (.int (p3 &&& (7 : Int32))), .val (.int (p4 &&& (7 : Int32))), .val (.ref b75), .val (.ref b86), .val (.ref b89), .val (.int ((0 : Int32) + (p2 &&& (7 : Int32))))] [])) (fun t k => XS.istore X93.here hx rfl (hb hby at_160) rfl (l' := #[.val (.int p1), .val (.int p2), .val (.int p3), .val (.int p4), .val (.int (p1 &&& (3 : Int32))), .val (.int (p2 &&& (7 : Int32))), .val (.int (p3 &&& (7 : Int32))), .val (.int (p4 &&& (7 : Int32))), .val (.ref b75), .val (.ref b86), .val (.ref b89), .val (.int ((0 : Int32) + (p2 &&& (7 : Int32))))]) rfl k) ?_
        refine go _ (T93.setTop (mkF m 164 #[.val (.int p1), .val (.int p2), .val (.int p3), .val (.int p4), .val (.int (p1 &&& (3 : Int32))), .val (.int (p2 &&& (7 : Int32))), .val (.int (p3 &&& (7 : Int32))), .val (.int (p4 &&& (7 : Int32))), .val (.ref b75), .val (.ref b86), .val (.ref b89), .val (.int ((0 : Int32) + (p2 &&& (7 : Int32))))] [(.int (p1 &&& (3 : Int32)))])) (fun t k => XS.iload X93.here hx rfl (hb hby at_162) rfl k) ?_
        refine go _ (T93.setTop (mkF m 165 #[.val (.int p1), .val (.int p2), .val (.int p3), .val (.int p4), .val (.int (p1 &&& (3 : Int32))), .val (.int (p2 &&& (7 : Int32))), .val (.int (p3 &&& (7 : Int32))), .val (.int (p4 &&& (7 : Int32))), .val (.ref b75), .val (.ref b86), .val (.ref b89), .val (.int ((0 : Int32) + (p2 &&& (7 : Int32))))] [(.int (2 : Int32)), (.int (p1 &&& (3 : Int32)))])) (fun t k => XS.iconst X93.here hx rfl (hb hby at_164) k) ?_
        have hc99 : ¬ ((p1 &&& (3 : Int32)) < (2 : Int32)) := (by rw [hc74]; decide)
        refine go _ (T93.setTop (mkF m 168 #[.val (.int p1), .val (.int p2), .val (.int p3), .val (.int p4), .val (.int (p1 &&& (3 : Int32))), .val (.int (p2 &&& (7 : Int32))), .val (.int (p3 &&& (7 : Int32))), .val (.int (p4 &&& (7 : Int32))), .val (.ref b75), .val (.ref b86), .val (.ref b89), .val (.int ((0 : Int32) + (p2 &&& (7 : Int32))))] [])) (fun t k => XS.icmpNo X93.here hx rfl (hb hby at_165) rfl (flt hc99).1 k) ?_
        refine go _ (T93.setTop (mkF m 170 #[.val (.int p1), .val (.int p2), .val (.int p3), .val (.int p4), .val (.int (p1 &&& (3 : Int32))), .val (.int (p2 &&& (7 : Int32))), .val (.int (p3 &&& (7 : Int32))), .val (.int (p4 &&& (7 : Int32))), .val (.ref b75), .val (.ref b86), .val (.ref b89), .val (.int ((0 : Int32) + (p2 &&& (7 : Int32))))] [(.int ((0 : Int32) + (p2 &&& (7 : Int32))))])) (fun t k => XS.iload X93.here hx rfl (hb hby at_168) rfl k) ?_
        refine go _ (T93.setTop (mkF m 172 #[.val (.int p1), .val (.int p2), .val (.int p3), .val (.int p4), .val (.int (p1 &&& (3 : Int32))), .val (.int (p2 &&& (7 : Int32))), .val (.int (p3 &&& (7 : Int32))), .val (.int (p4 &&& (7 : Int32))), .val (.ref b75), .val (.ref b86), .val (.ref b89), .val (.int ((0 : Int32) + (p2 &&& (7 : Int32))))] [(.int (p3 &&& (7 : Int32))), (.int ((0 : Int32) + (p2 &&& (7 : Int32))))])) (fun t k => XS.iload X93.here hx rfl (hb hby at_170) rfl k) ?_
        refine go _ (T93.setTop (mkF m 173 #[.val (.int p1), .val (.int p2), .val (.int p3), .val (.int p4), .val (.int (p1 &&& (3 : Int32))), .val (.int (p2 &&& (7 : Int32))), .val (.int (p3 &&& (7 : Int32))), .val (.int (p4 &&& (7 : Int32))), .val (.ref b75), .val (.ref b86), .val (.ref b89), .val (.int ((0 : Int32) + (p2 &&& (7 : Int32))))] [(.int (((0 : Int32) + (p2 &&& (7 : Int32))) + (p3 &&& (7 : Int32))))])) (fun t k => XS.iadd X93.here hx rfl (hb hby at_172) rfl k) ?_
        refine go _ (T93.setTop (mkF m 175 #[.val (.int p1), .val (.int p2), .val (.int p3), .val (.int p4), .val (.int (p1 &&& (3 : Int32))), .val (.int (p2 &&& (7 : Int32))), .val (.int (p3 &&& (7 : Int32))), .val (.int (p4 &&& (7 : Int32))), .val (.ref b75), .val (.ref b86), .val (.ref b89), .val (.int (((0 : Int32) + (p2 &&& (7 : Int32))) + (p3 &&& (7 : Int32))))] [])) (fun t k => XS.istore X93.here hx rfl (hb hby at_173) rfl (l' := #[.val (.int p1), .val (.int p2), .val (.int p3), .val (.int p4), .val (.int (p1 &&& (3 : Int32))), .val (.int (p2 &&& (7 : Int32))), .val (.int (p3 &&& (7 : Int32))), .val (.int (p4 &&& (7 : Int32))), .val (.ref b75), .val (.ref b86), .val (.ref b89), .val (.int (((0 : Int32) + (p2 &&& (7 : Int32))) + (p3 &&& (7 : Int32))))]) rfl k) ?_
        refine go _ (T93.setTop (mkF m 177 #[.val (.int p1), .val (.int p2), .val (.int p3), .val (.int p4), .val (.int (p1 &&& (3 : Int32))), .val (.int (p2 &&& (7 : Int32))), .val (.int (p3 &&& (7 : Int32))), .val (.int (p4 &&& (7 : Int32))), .val (.ref b75), .val (.ref b86), .val (.ref b89), .val (.int (((0 : Int32) + (p2 &&& (7 : Int32))) + (p3 &&& (7 : Int32))))] [(.int (p1 &&& (3 : Int32)))])) (fun t k => XS.iload X93.here hx rfl (hb hby at_175) rfl k) ?_
        refine go _ (T93.setTop (mkF m 178 #[.val (.int p1), .val (.int p2), .val (.int p3), .val (.int p4), .val (.int (p1 &&& (3 : Int32))), .val (.int (p2 &&& (7 : Int32))), .val (.int (p3 &&& (7 : Int32))), .val (.int (p4 &&& (7 : Int32))), .val (.ref b75), .val (.ref b86), .val (.ref b89), .val (.int (((0 : Int32) + (p2 &&& (7 : Int32))) + (p3 &&& (7 : Int32))))] [(.int (3 : Int32)), (.int (p1 &&& (3 : Int32)))])) (fun t k => XS.iconst X93.here hx rfl (hb hby at_177) k) ?_
        have hc100 : ((p1 &&& (3 : Int32)) < (3 : Int32)) := (by rw [hc74]; decide)
        refine go _ (T93.setTop (mkF m 188 #[.val (.int p1), .val (.int p2), .val (.int p3), .val (.int p4), .val (.int (p1 &&& (3 : Int32))), .val (.int (p2 &&& (7 : Int32))), .val (.int (p3 &&& (7 : Int32))), .val (.int (p4 &&& (7 : Int32))), .val (.ref b75), .val (.ref b86), .val (.ref b89), .val (.int (((0 : Int32) + (p2 &&& (7 : Int32))) + (p3 &&& (7 : Int32))))] [])) (fun t k => XS.icmpYes X93.here hx rfl (pc0 := 178) (pc' := 188) rfl (hb hby at_178) rfl (tlt hc100).1 (by decide) (by decide) k) ?_
        refine go _ (T93.setTop (mkF m 190 #[.val (.int p1), .val (.int p2), .val (.int p3), .val (.int p4), .val (.int (p1 &&& (3 : Int32))), .val (.int (p2 &&& (7 : Int32))), .val (.int (p3 &&& (7 : Int32))), .val (.int (p4 &&& (7 : Int32))), .val (.ref b75), .val (.ref b86), .val (.ref b89), .val (.int (((0 : Int32) + (p2 &&& (7 : Int32))) + (p3 &&& (7 : Int32))))] [(.ref b89)])) (fun t k => XS.aload X93.here hx rfl (hb hby at_188) rfl rfl k) ?_
        obtain ⟨cq101, kq101, q101a, q101b, q101c⟩ := isOf hZ rfl Eq93
        obtain ⟨_, _, ⟨T101, L101, k101, n101⟩, -, X101, ⟨Lc101, hQ101, l101, y101, z101⟩, st101⟩ := X93.virtualBack hx (y := (⟨"com/example/lambro/lambro/IntRows", "rows", "()I"⟩ : MethodName)) (z := (⟨"com/example/lambro/lambro/IntRows", "rows", "()I"⟩ : MethodName)) hown (mvT hZ (hw _ (List.mem_of_getElem? (i := 14) rfl))) (mvT hZ (hw _ (List.mem_of_getElem? (i := 15) rfl))) (notFace_of_selects (args := #[]) (mvT hZ (hw _ (List.mem_of_getElem? (i := 17) rfl)))) (mvT hZ (hw _ (List.mem_of_getElem? (i := 17) rfl))) (mvT hZ (hw _ (List.mem_of_getElem? (i := 16) rfl))) (by decide) (backOf (W := 0) (rm3 l Z a0 hw [] b89 b75 3 _ T93.heap n0 Z95 Fs93 A96) hZ (hw _ (List.mem_of_getElem? (i := 18) rfl)) (hw _ (List.mem_of_getElem? (i := 3) rfl)) (by decide) (by decide)) q101a q101c (g := (mkF m 190 #[.val (.int p1), .val (.int p2), .val (.int p3), .val (.int p4), .val (.int (p1 &&& (3 : Int32))), .val (.int (p2 &&& (7 : Int32))), .val (.int (p3 &&& (7 : Int32))), .val (.int (p4 &&& (7 : Int32))), .val (.ref b75), .val (.ref b86), .val (.ref b89), .val (.int (((0 : Int32) + (p2 &&& (7 : Int32))) + (p3 &&& (7 : Int32))))] [(.ref b89)])) rfl (by rw [hml]; rfl) (Steps.refl _) (argsL := []) (rest := []) (lenOf pd_2 rfl) rfl (by show 2 * 0 + _ ≤ _; exact Nat.le_of_eq rfl) (hb hby at_190) (fun _ _ => ⟨rfl, rfl, (by decide : 0 + 1 + 1 + 1 + 0 ≤ _), (by decide : 0 + 3 + 21 + 2 + 0 ≤ _)⟩)
        dsimp only [Pt.U, Pt.locs, Pt.cells, Pt.slots] at X101 l101 y101 z101 st101 hQ101
        subst l101 y101 z101
        obtain ⟨rfl, Nq101, hh101⟩ := hQ101
        have N102 := Fr.app N94 Nq101
        refine go _ (T101.setTop (mkF m 193 #[.val (.int p1), .val (.int p2), .val (.int p3), .val (.int p4), .val (.int (p1 &&& (3 : Int32))), .val (.int (p2 &&& (7 : Int32))), .val (.int (p3 &&& (7 : Int32))), .val (.int (p4 &&& (7 : Int32))), .val (.ref b75), .val (.ref b86), .val (.ref b89), .val (.int (((0 : Int32) + (p2 &&& (7 : Int32))) + (p3 &&& (7 : Int32))))] [(.int (Int32.ofNat 3 - (1 : Int32)))])) (fun t k => st101.trans k) ?_
        refine go _ (T101.setTop (mkF m 195 #[.val (.int p1), .val (.int p2), .val (.int p3), .val (.int p4), .val (.int (p1 &&& (3 : Int32))), .val (.int (p2 &&& (7 : Int32))), .val (.int (p3 &&& (7 : Int32))), .val (.int (p4 &&& (7 : Int32))), .val (.ref b75), .val (.ref b86), .val (.ref b89), .val (.int (((0 : Int32) + (p2 &&& (7 : Int32))) + (p3 &&& (7 : Int32))))] [(.int (p1 &&& (3 : Int32))), (.int (Int32.ofNat 3 - (1 : Int32)))])) (fun t k => XS.iload X101.here hx rfl (hb hby at_193) rfl k) ?_
        have hc103 : ((Int32.ofNat 3 - (1 : Int32)) = (p1 &&& (3 : Int32))) := (by rw [hc74]; decide)
        refine go _ (T101.setTop (mkF m 198 #[.val (.int p1), .val (.int p2), .val (.int p3), .val (.int p4), .val (.int (p1 &&& (3 : Int32))), .val (.int (p2 &&& (7 : Int32))), .val (.int (p3 &&& (7 : Int32))), .val (.int (p4 &&& (7 : Int32))), .val (.ref b75), .val (.ref b86), .val (.ref b89), .val (.int (((0 : Int32) + (p2 &&& (7 : Int32))) + (p3 &&& (7 : Int32))))] [])) (fun t k => XS.icmpNo X101.here hx rfl (hb hby at_195) rfl (teq hc103).2 k) ?_
        refine go _ (T101.setTop (mkF m 200 #[.val (.int p1), .val (.int p2), .val (.int p3), .val (.int p4), .val (.int (p1 &&& (3 : Int32))), .val (.int (p2 &&& (7 : Int32))), .val (.int (p3 &&& (7 : Int32))), .val (.int (p4 &&& (7 : Int32))), .val (.ref b75), .val (.ref b86), .val (.ref b89), .val (.int (((0 : Int32) + (p2 &&& (7 : Int32))) + (p3 &&& (7 : Int32))))] [(.ref b89)])) (fun t k => XS.aload X101.here hx rfl (hb hby at_198) rfl rfl k) ?_
        obtain ⟨cq104, kq104, q104a, q104b, q104c⟩ := isOf hZ hh101 Eq93
        obtain ⟨_, _, ⟨T104, L104, k104, n104⟩, -, X104, ⟨Lc104, hQ104, l104, y104, z104⟩, st104⟩ := X101.virtualBack hx (y := (⟨"com/example/lambro/lambro/IntRows", "count", "()I"⟩ : MethodName)) (z := (⟨"com/example/lambro/lambro/IntRows", "count", "()I"⟩ : MethodName)) hown (mvT hZ (hw _ (List.mem_of_getElem? (i := 19) rfl))) (mvT hZ (hw _ (List.mem_of_getElem? (i := 20) rfl))) (notFace_of_selects (args := #[]) (mvT hZ (hw _ (List.mem_of_getElem? (i := 22) rfl)))) (mvT hZ (hw _ (List.mem_of_getElem? (i := 22) rfl))) (mvT hZ (hw _ (List.mem_of_getElem? (i := 21) rfl))) (by decide) (backOf (W := 0) (rm4 l Z a0 hw [] b89 b75 3 _ 2 ((p2 &&& (7 : Int32)) + (p3 &&& (7 : Int32))) T93.heap n0 Z95 Fs93 A96 (by decide) (by decide) rfl) hZ (hw _ (List.mem_of_getElem? (i := 23) rfl)) (hw _ (List.mem_of_getElem? (i := 3) rfl)) (by decide) (by decide)) q104a q104c (g := (mkF m 200 #[.val (.int p1), .val (.int p2), .val (.int p3), .val (.int p4), .val (.int (p1 &&& (3 : Int32))), .val (.int (p2 &&& (7 : Int32))), .val (.int (p3 &&& (7 : Int32))), .val (.int (p4 &&& (7 : Int32))), .val (.ref b75), .val (.ref b86), .val (.ref b89), .val (.int (((0 : Int32) + (p2 &&& (7 : Int32))) + (p3 &&& (7 : Int32))))] [(.ref b89)])) rfl (by rw [hml]; rfl) (Steps.refl _) (argsL := []) (rest := []) (lenOf pd_2 rfl) rfl (by show 2 * 0 + _ ≤ _; exact Nat.le_of_eq rfl) (hb hby at_200) (fun _ _ => ⟨rfl, hh101, (by decide : 0 + 1 + 1 + 1 + 0 ≤ _), (by decide : 0 + 3 + 21 + 2 + 0 ≤ _)⟩)
        dsimp only [Pt.U, Pt.locs, Pt.cells, Pt.slots] at X104 l104 y104 z104 st104 hQ104
        subst l104 y104 z104
        obtain ⟨rfl, Nq104, hh104⟩ := hQ104
        have N105 := Fr.app N102 Nq104
        refine go _ (T104.setTop (mkF m 203 #[.val (.int p1), .val (.int p2), .val (.int p3), .val (.int p4), .val (.int (p1 &&& (3 : Int32))), .val (.int (p2 &&& (7 : Int32))), .val (.int (p3 &&& (7 : Int32))), .val (.int (p4 &&& (7 : Int32))), .val (.ref b75), .val (.ref b86), .val (.ref b89), .val (.int (((0 : Int32) + (p2 &&& (7 : Int32))) + (p3 &&& (7 : Int32))))] [(.int ((p2 &&& (7 : Int32)) + (p3 &&& (7 : Int32))))])) (fun t k => st104.trans k) ?_
        refine go _ (T104.setTop (mkF m 205 #[.val (.int p1), .val (.int p2), .val (.int p3), .val (.int p4), .val (.int (p1 &&& (3 : Int32))), .val (.int (p2 &&& (7 : Int32))), .val (.int (p3 &&& (7 : Int32))), .val (.int (p4 &&& (7 : Int32))), .val (.ref b75), .val (.ref b86), .val (.ref b89), .val (.int (((0 : Int32) + (p2 &&& (7 : Int32))) + (p3 &&& (7 : Int32))))] [(.int (((0 : Int32) + (p2 &&& (7 : Int32))) + (p3 &&& (7 : Int32)))), (.int ((p2 &&& (7 : Int32)) + (p3 &&& (7 : Int32))))])) (fun t k => XS.iload X104.here hx rfl (hb hby at_203) rfl k) ?_
        have hc106 : (((p2 &&& (7 : Int32)) + (p3 &&& (7 : Int32))) = (((0 : Int32) + (p2 &&& (7 : Int32))) + (p3 &&& (7 : Int32)))) := (by simp)
        refine go _ (T104.setTop (mkF m 208 #[.val (.int p1), .val (.int p2), .val (.int p3), .val (.int p4), .val (.int (p1 &&& (3 : Int32))), .val (.int (p2 &&& (7 : Int32))), .val (.int (p3 &&& (7 : Int32))), .val (.int (p4 &&& (7 : Int32))), .val (.ref b75), .val (.ref b86), .val (.ref b89), .val (.int (((0 : Int32) + (p2 &&& (7 : Int32))) + (p3 &&& (7 : Int32))))] [])) (fun t k => XS.icmpNo X104.here hx rfl (hb hby at_205) rfl (teq hc106).2 k) ?_
        refine go _ (T104.setTop (mkF m 209 #[.val (.int p1), .val (.int p2), .val (.int p3), .val (.int p4), .val (.int (p1 &&& (3 : Int32))), .val (.int (p2 &&& (7 : Int32))), .val (.int (p3 &&& (7 : Int32))), .val (.int (p4 &&& (7 : Int32))), .val (.ref b75), .val (.ref b86), .val (.ref b89), .val (.int (((0 : Int32) + (p2 &&& (7 : Int32))) + (p3 &&& (7 : Int32))))] [(.int (1 : Int32))])) (fun t k => XS.iconst X104.here hx rfl (hb hby at_208) k) ?_
        refine go _ (T104.setTop (mkF m 213 #[.val (.int p1), .val (.int p2), .val (.int p3), .val (.int p4), .val (.int (p1 &&& (3 : Int32))), .val (.int (p2 &&& (7 : Int32))), .val (.int (p3 &&& (7 : Int32))), .val (.int (p4 &&& (7 : Int32))), .val (.ref b75), .val (.ref b86), .val (.ref b89), .val (.int (((0 : Int32) + (p2 &&& (7 : Int32))) + (p3 &&& (7 : Int32))))] [(.int (1 : Int32))])) (fun t k => XS.goto X104.here hx rfl (pc0 := 209) (pc' := 213) rfl (hb hby at_209) (by decide) (by decide) k) ?_
        exact fin (some (.int (1 : Int32))) X104 (by decide) (by decide) (fun q => by cases q) (show Q_rm0 Z p1 p2 p3 p4 h0 n0 _ T104.heap _ from (by rw [hh104]; exact ⟨rfl, N105⟩)) (fun fs hr => retN X104 hx (t := .boolean) hret (by simp) (hb hby at_213) hr)
      · refine go _ (s₁.setTop (mkF m 94 #[.val (.int p1), .val (.int p2), .val (.int p3), .val (.int p4), .val (.int (p1 &&& (3 : Int32))), .val (.int (p2 &&& (7 : Int32))), .val (.int (p3 &&& (7 : Int32))), .val (.int (p4 &&& (7 : Int32))), .unset, .unset, .unset, .unset] [])) (fun t k => XS.icmpYes X0.here hx rfl (pc0 := 66) (pc' := 94) rfl (hb hby at_66) rfl (feq hc74).2 (by decide) (by decide) k) ?_
        refine go _ (s₁.setTop (mkF m 95 #[.val (.int p1), .val (.int p2), .val (.int p3), .val (.int p4), .val (.int (p1 &&& (3 : Int32))), .val (.int (p2 &&& (7 : Int32))), .val (.int (p3 &&& (7 : Int32))), .val (.int (p4 &&& (7 : Int32))), .unset, .unset, .unset, .unset] [(.int (4 : Int32))])) (fun t k => XS.iconst X0.here hx rfl (hb hby at_94) k) ?_
        obtain ⟨T107, h107, b107, X107, e107, E107, g107, A107, st107⟩ := own_new X0 hx hZ (hw _ (List.mem_of_getElem? (i := 0) rfl)) e0 (g := (mkF m 95 #[.val (.int p1), .val (.int p2), .val (.int p3), .val (.int p4), .val (.int (p1 &&& (3 : Int32))), .val (.int (p2 &&& (7 : Int32))), .val (.int (p3 &&& (7 : Int32))), .val (.int (p4 &&& (7 : Int32))), .unset, .unset, .unset, .unset] [(.int (4 : Int32))])) rfl (hb hby at_95) rfl (k := 4) (by decide) 4 (by decide) (by decide) (by decide) (by decide)
        have Z108 : n0 ≤ h107.size := Nat.le_trans Z0 E107.1
        have ge_b107 : n0 ≤ b107 := by rw [g107]; exact Z0
        have A107' : AF Z h107 b107 .int 4 (fun _ => .int 0) := A107
        refine go _ (T107.setTop (mkF m 97 #[.val (.int p1), .val (.int p2), .val (.int p3), .val (.int p4), .val (.int (p1 &&& (3 : Int32))), .val (.int (p2 &&& (7 : Int32))), .val (.int (p3 &&& (7 : Int32))), .val (.int (p4 &&& (7 : Int32))), .unset, .unset, .unset, .unset] [(.ref b107)])) (st107) ?_
        refine go _ (T107.setTop (mkF m 98 #[.val (.int p1), .val (.int p2), .val (.int p3), .val (.int p4), .val (.int (p1 &&& (3 : Int32))), .val (.int (p2 &&& (7 : Int32))), .val (.int (p3 &&& (7 : Int32))), .val (.int (p4 &&& (7 : Int32))), .unset, .unset, .unset, .unset] [(.ref b107), (.ref b107)])) (fun t k => XS.dup X107.here hx rfl (hb hby at_97) rfl rfl k) ?_
        refine go _ (T107.setTop (mkF m 99 #[.val (.int p1), .val (.int p2), .val (.int p3), .val (.int p4), .val (.int (p1 &&& (3 : Int32))), .val (.int (p2 &&& (7 : Int32))), .val (.int (p3 &&& (7 : Int32))), .val (.int (p4 &&& (7 : Int32))), .unset, .unset, .unset, .unset] [(.int (0 : Int32)), (.ref b107), (.ref b107)])) (fun t k => XS.iconst X107.here hx rfl (hb hby at_98) k) ?_
        refine go _ (T107.setTop (mkF m 100 #[.val (.int p1), .val (.int p2), .val (.int p3), .val (.int p4), .val (.int (p1 &&& (3 : Int32))), .val (.int (p2 &&& (7 : Int32))), .val (.int (p3 &&& (7 : Int32))), .val (.int (p4 &&& (7 : Int32))), .unset, .unset, .unset, .unset] [(.int (0 : Int32)), (.int (0 : Int32)), (.ref b107), (.ref b107)])) (fun t k => XS.iconst X107.here hx rfl (hb hby at_99) k) ?_
        obtain ⟨T109, h109, X109, e109, W109, A109, st109⟩ := own_stI X107 hx hZ e107 A107' (i := 0) (by decide) (by decide) (g := (mkF m 100 #[.val (.int p1), .val (.int p2), .val (.int p3), .val (.int p4), .val (.int (p1 &&& (3 : Int32))), .val (.int (p2 &&& (7 : Int32))), .val (.int (p3 &&& (7 : Int32))), .val (.int (p4 &&& (7 : Int32))), .unset, .unset, .unset, .unset] [(.int (0 : Int32)), (.int (0 : Int32)), (.ref b107), (.ref b107)])) rfl rfl (hb hby at_100)
        have Z110 : n0 ≤ h109.size := by rw [W109.size]; exact Z108
        have N111 := Fr.snoc X109 N0 ge_b107
        refine go _ (T109.setTop (mkF m 101 #[.val (.int p1), .val (.int p2), .val (.int p3), .val (.int p4), .val (.int (p1 &&& (3 : Int32))), .val (.int (p2 &&& (7 : Int32))), .val (.int (p3 &&& (7 : Int32))), .val (.int (p4 &&& (7 : Int32))), .unset, .unset, .unset, .unset] [(.ref b107)])) (st109) ?_
        refine go _ (T109.setTop (mkF m 102 #[.val (.int p1), .val (.int p2), .val (.int p3), .val (.int p4), .val (.int (p1 &&& (3 : Int32))), .val (.int (p2 &&& (7 : Int32))), .val (.int (p3 &&& (7 : Int32))), .val (.int (p4 &&& (7 : Int32))), .unset, .unset, .unset, .unset] [(.ref b107), (.ref b107)])) (fun t k => XS.dup X109.here hx rfl (hb hby at_101) rfl rfl k) ?_
        refine go _ (T109.setTop (mkF m 103 #[.val (.int p1), .val (.int p2), .val (.int p3), .val (.int p4), .val (.int (p1 &&& (3 : Int32))), .val (.int (p2 &&& (7 : Int32))), .val (.int (p3 &&& (7 : Int32))), .val (.int (p4 &&& (7 : Int32))), .unset, .unset, .unset, .unset] [(.int (1 : Int32)), (.ref b107), (.ref b107)])) (fun t k => XS.iconst X109.here hx rfl (hb hby at_102) k) ?_
        refine go _ (T109.setTop (mkF m 105 #[.val (.int p1), .val (.int p2), .val (.int p3), .val (.int p4), .val (.int (p1 &&& (3 : Int32))), .val (.int (p2 &&& (7 : Int32))), .val (.int (p3 &&& (7 : Int32))), .val (.int (p4 &&& (7 : Int32))), .unset, .unset, .unset, .unset] [(.int (p2 &&& (7 : Int32))), (.int (1 : Int32)), (.ref b107), (.ref b107)])) (fun t k => XS.iload X109.here hx rfl (hb hby at_103) rfl k) ?_
        obtain ⟨T112, h112, X112, e112, W112, A112, st112⟩ := own_stI X109 hx hZ e109 A109 (i := 1) (by decide) (by decide) (g := (mkF m 105 #[.val (.int p1), .val (.int p2), .val (.int p3), .val (.int p4), .val (.int (p1 &&& (3 : Int32))), .val (.int (p2 &&& (7 : Int32))), .val (.int (p3 &&& (7 : Int32))), .val (.int (p4 &&& (7 : Int32))), .unset, .unset, .unset, .unset] [(.int (p2 &&& (7 : Int32))), (.int (1 : Int32)), (.ref b107), (.ref b107)])) rfl rfl (hb hby at_105)
        have Z113 : n0 ≤ h112.size := by rw [W112.size]; exact Z110
        have N114 := Fr.snoc X112 N111 ge_b107
        refine go _ (T112.setTop (mkF m 106 #[.val (.int p1), .val (.int p2), .val (.int p3), .val (.int p4), .val (.int (p1 &&& (3 : Int32))), .val (.int (p2 &&& (7 : Int32))), .val (.int (p3 &&& (7 : Int32))), .val (.int (p4 &&& (7 : Int32))), .unset, .unset, .unset, .unset] [(.ref b107)])) (st112) ?_
        refine go _ (T112.setTop (mkF m 107 #[.val (.int p1), .val (.int p2), .val (.int p3), .val (.int p4), .val (.int (p1 &&& (3 : Int32))), .val (.int (p2 &&& (7 : Int32))), .val (.int (p3 &&& (7 : Int32))), .val (.int (p4 &&& (7 : Int32))), .unset, .unset, .unset, .unset] [(.ref b107), (.ref b107)])) (fun t k => XS.dup X112.here hx rfl (hb hby at_106) rfl rfl k) ?_
        refine go _ (T112.setTop (mkF m 108 #[.val (.int p1), .val (.int p2), .val (.int p3), .val (.int p4), .val (.int (p1 &&& (3 : Int32))), .val (.int (p2 &&& (7 : Int32))), .val (.int (p3 &&& (7 : Int32))), .val (.int (p4 &&& (7 : Int32))), .unset, .unset, .unset, .unset] [(.int (2 : Int32)), (.ref b107), (.ref b107)])) (fun t k => XS.iconst X112.here hx rfl (hb hby at_107) k) ?_
        refine go _ (T112.setTop (mkF m 110 #[.val (.int p1), .val (.int p2), .val (.int p3), .val (.int p4), .val (.int (p1 &&& (3 : Int32))), .val (.int (p2 &&& (7 : Int32))), .val (.int (p3 &&& (7 : Int32))), .val (.int (p4 &&& (7 : Int32))), .unset, .unset, .unset, .unset] [(.int (p2 &&& (7 : Int32))), (.int (2 : Int32)), (.ref b107), (.ref b107)])) (fun t k => XS.iload X112.here hx rfl (hb hby at_108) rfl k) ?_
        refine go _ (T112.setTop (mkF m 112 #[.val (.int p1), .val (.int p2), .val (.int p3), .val (.int p4), .val (.int (p1 &&& (3 : Int32))), .val (.int (p2 &&& (7 : Int32))), .val (.int (p3 &&& (7 : Int32))), .val (.int (p4 &&& (7 : Int32))), .unset, .unset, .unset, .unset] [(.int (p3 &&& (7 : Int32))), (.int (p2 &&& (7 : Int32))), (.int (2 : Int32)), (.ref b107), (.ref b107)])) (fun t k => XS.iload X112.here hx rfl (hb hby at_110) rfl k) ?_
        refine go _ (T112.setTop (mkF m 113 #[.val (.int p1), .val (.int p2), .val (.int p3), .val (.int p4), .val (.int (p1 &&& (3 : Int32))), .val (.int (p2 &&& (7 : Int32))), .val (.int (p3 &&& (7 : Int32))), .val (.int (p4 &&& (7 : Int32))), .unset, .unset, .unset, .unset] [(.int ((p2 &&& (7 : Int32)) + (p3 &&& (7 : Int32)))), (.int (2 : Int32)), (.ref b107), (.ref b107)])) (fun t k => XS.iadd X112.here hx rfl (hb hby at_112) rfl k) ?_
        obtain ⟨T115, h115, X115, e115, W115, A115, st115⟩ := own_stI X112 hx hZ e112 A112 (i := 2) (by decide) (by decide) (g := (mkF m 113 #[.val (.int p1), .val (.int p2), .val (.int p3), .val (.int p4), .val (.int (p1 &&& (3 : Int32))), .val (.int (p2 &&& (7 : Int32))), .val (.int (p3 &&& (7 : Int32))), .val (.int (p4 &&& (7 : Int32))), .unset, .unset, .unset, .unset] [(.int ((p2 &&& (7 : Int32)) + (p3 &&& (7 : Int32)))), (.int (2 : Int32)), (.ref b107), (.ref b107)])) rfl rfl (hb hby at_113)
        have Z116 : n0 ≤ h115.size := by rw [W115.size]; exact Z113
        have N117 := Fr.snoc X115 N114 ge_b107
        refine go _ (T115.setTop (mkF m 114 #[.val (.int p1), .val (.int p2), .val (.int p3), .val (.int p4), .val (.int (p1 &&& (3 : Int32))), .val (.int (p2 &&& (7 : Int32))), .val (.int (p3 &&& (7 : Int32))), .val (.int (p4 &&& (7 : Int32))), .unset, .unset, .unset, .unset] [(.ref b107)])) (st115) ?_
        refine go _ (T115.setTop (mkF m 115 #[.val (.int p1), .val (.int p2), .val (.int p3), .val (.int p4), .val (.int (p1 &&& (3 : Int32))), .val (.int (p2 &&& (7 : Int32))), .val (.int (p3 &&& (7 : Int32))), .val (.int (p4 &&& (7 : Int32))), .unset, .unset, .unset, .unset] [(.ref b107), (.ref b107)])) (fun t k => XS.dup X115.here hx rfl (hb hby at_114) rfl rfl k) ?_
        refine go _ (T115.setTop (mkF m 116 #[.val (.int p1), .val (.int p2), .val (.int p3), .val (.int p4), .val (.int (p1 &&& (3 : Int32))), .val (.int (p2 &&& (7 : Int32))), .val (.int (p3 &&& (7 : Int32))), .val (.int (p4 &&& (7 : Int32))), .unset, .unset, .unset, .unset] [(.int (3 : Int32)), (.ref b107), (.ref b107)])) (fun t k => XS.iconst X115.here hx rfl (hb hby at_115) k) ?_
        refine go _ (T115.setTop (mkF m 118 #[.val (.int p1), .val (.int p2), .val (.int p3), .val (.int p4), .val (.int (p1 &&& (3 : Int32))), .val (.int (p2 &&& (7 : Int32))), .val (.int (p3 &&& (7 : Int32))), .val (.int (p4 &&& (7 : Int32))), .unset, .unset, .unset, .unset] [(.int (p2 &&& (7 : Int32))), (.int (3 : Int32)), (.ref b107), (.ref b107)])) (fun t k => XS.iload X115.here hx rfl (hb hby at_116) rfl k) ?_
        refine go _ (T115.setTop (mkF m 120 #[.val (.int p1), .val (.int p2), .val (.int p3), .val (.int p4), .val (.int (p1 &&& (3 : Int32))), .val (.int (p2 &&& (7 : Int32))), .val (.int (p3 &&& (7 : Int32))), .val (.int (p4 &&& (7 : Int32))), .unset, .unset, .unset, .unset] [(.int (p3 &&& (7 : Int32))), (.int (p2 &&& (7 : Int32))), (.int (3 : Int32)), (.ref b107), (.ref b107)])) (fun t k => XS.iload X115.here hx rfl (hb hby at_118) rfl k) ?_
        refine go _ (T115.setTop (mkF m 121 #[.val (.int p1), .val (.int p2), .val (.int p3), .val (.int p4), .val (.int (p1 &&& (3 : Int32))), .val (.int (p2 &&& (7 : Int32))), .val (.int (p3 &&& (7 : Int32))), .val (.int (p4 &&& (7 : Int32))), .unset, .unset, .unset, .unset] [(.int ((p2 &&& (7 : Int32)) + (p3 &&& (7 : Int32)))), (.int (3 : Int32)), (.ref b107), (.ref b107)])) (fun t k => XS.iadd X115.here hx rfl (hb hby at_120) rfl k) ?_
        refine go _ (T115.setTop (mkF m 123 #[.val (.int p1), .val (.int p2), .val (.int p3), .val (.int p4), .val (.int (p1 &&& (3 : Int32))), .val (.int (p2 &&& (7 : Int32))), .val (.int (p3 &&& (7 : Int32))), .val (.int (p4 &&& (7 : Int32))), .unset, .unset, .unset, .unset] [(.int (p4 &&& (7 : Int32))), (.int ((p2 &&& (7 : Int32)) + (p3 &&& (7 : Int32)))), (.int (3 : Int32)), (.ref b107), (.ref b107)])) (fun t k => XS.iload X115.here hx rfl (hb hby at_121) rfl k) ?_
        refine go _ (T115.setTop (mkF m 124 #[.val (.int p1), .val (.int p2), .val (.int p3), .val (.int p4), .val (.int (p1 &&& (3 : Int32))), .val (.int (p2 &&& (7 : Int32))), .val (.int (p3 &&& (7 : Int32))), .val (.int (p4 &&& (7 : Int32))), .unset, .unset, .unset, .unset] [(.int (((p2 &&& (7 : Int32)) + (p3 &&& (7 : Int32))) + (p4 &&& (7 : Int32)))), (.int (3 : Int32)), (.ref b107), (.ref b107)])) (fun t k => XS.iadd X115.here hx rfl (hb hby at_123) rfl k) ?_
        obtain ⟨T118, h118, X118, e118, W118, A118, st118⟩ := own_stI X115 hx hZ e115 A115 (i := 3) (by decide) (by decide) (g := (mkF m 124 #[.val (.int p1), .val (.int p2), .val (.int p3), .val (.int p4), .val (.int (p1 &&& (3 : Int32))), .val (.int (p2 &&& (7 : Int32))), .val (.int (p3 &&& (7 : Int32))), .val (.int (p4 &&& (7 : Int32))), .unset, .unset, .unset, .unset] [(.int (((p2 &&& (7 : Int32)) + (p3 &&& (7 : Int32))) + (p4 &&& (7 : Int32)))), (.int (3 : Int32)), (.ref b107), (.ref b107)])) rfl rfl (hb hby at_124)
        have Z119 : n0 ≤ h118.size := by rw [W118.size]; exact Z116
        have N120 := Fr.snoc X118 N117 ge_b107
        refine go _ (T118.setTop (mkF m 125 #[.val (.int p1), .val (.int p2), .val (.int p3), .val (.int p4), .val (.int (p1 &&& (3 : Int32))), .val (.int (p2 &&& (7 : Int32))), .val (.int (p3 &&& (7 : Int32))), .val (.int (p4 &&& (7 : Int32))), .unset, .unset, .unset, .unset] [(.ref b107)])) (st118) ?_
        refine go _ (T118.setTop (mkF m 127 #[.val (.int p1), .val (.int p2), .val (.int p3), .val (.int p4), .val (.int (p1 &&& (3 : Int32))), .val (.int (p2 &&& (7 : Int32))), .val (.int (p3 &&& (7 : Int32))), .val (.int (p4 &&& (7 : Int32))), .val (.ref b107), .unset, .unset, .unset] [])) (fun t k => XS.astore X118.here hx rfl (hb hby at_125) rfl rfl (l' := #[.val (.int p1), .val (.int p2), .val (.int p3), .val (.int p4), .val (.int (p1 &&& (3 : Int32))), .val (.int (p2 &&& (7 : Int32))), .val (.int (p3 &&& (7 : Int32))), .val (.int (p4 &&& (7 : Int32))), .val (.ref b107), .unset, .unset, .unset]) rfl k) ?_
        refine go _ (T118.setTop (mkF m 129 #[.val (.int p1), .val (.int p2), .val (.int p3), .val (.int p4), .val (.int (p1 &&& (3 : Int32))), .val (.int (p2 &&& (7 : Int32))), .val (.int (p3 &&& (7 : Int32))), .val (.int (p4 &&& (7 : Int32))), .val (.ref b107), .unset, .unset, .unset] [(.int (21 : Int32))])) (fun t k => XS.bipush X118.here hx rfl (hb hby at_127) k) ?_
        obtain ⟨T121, h121, b121, X121, e121, E121, g121, A121, st121⟩ := own_new X118 hx hZ (hw _ (List.mem_of_getElem? (i := 0) rfl)) e118 (g := (mkF m 129 #[.val (.int p1), .val (.int p2), .val (.int p3), .val (.int p4), .val (.int (p1 &&& (3 : Int32))), .val (.int (p2 &&& (7 : Int32))), .val (.int (p3 &&& (7 : Int32))), .val (.int (p4 &&& (7 : Int32))), .val (.ref b107), .unset, .unset, .unset] [(.int (21 : Int32))])) rfl (hb hby at_129) rfl (k := 21) (by decide) 21 (by decide) (by decide) (by decide) (by decide)
        have ne_b107_b121 : b107 ≠ b121 := by rw [g121]; exact Nat.ne_of_lt A118.lt
        have Z122 : n0 ≤ h121.size := Nat.le_trans Z119 E121.1
        have ge_b121 : n0 ≤ b121 := by rw [g121]; exact Z119
        have A123 := A118.ext E121
        have A121' : AF Z h121 b121 .int 21 (fun _ => .int 0) := A121
        refine go _ (T121.setTop (mkF m 131 #[.val (.int p1), .val (.int p2), .val (.int p3), .val (.int p4), .val (.int (p1 &&& (3 : Int32))), .val (.int (p2 &&& (7 : Int32))), .val (.int (p3 &&& (7 : Int32))), .val (.int (p4 &&& (7 : Int32))), .val (.ref b107), .unset, .unset, .unset] [(.ref b121)])) (st121) ?_
        refine go _ (T121.setTop (mkF m 133 #[.val (.int p1), .val (.int p2), .val (.int p3), .val (.int p4), .val (.int (p1 &&& (3 : Int32))), .val (.int (p2 &&& (7 : Int32))), .val (.int (p3 &&& (7 : Int32))), .val (.int (p4 &&& (7 : Int32))), .val (.ref b107), .val (.ref b121), .unset, .unset] [])) (fun t k => XS.astore X121.here hx rfl (hb hby at_131) rfl rfl (l' := #[.val (.int p1), .val (.int p2), .val (.int p3), .val (.int p4), .val (.int (p1 &&& (3 : Int32))), .val (.int (p2 &&& (7 : Int32))), .val (.int (p3 &&& (7 : Int32))), .val (.int (p4 &&& (7 : Int32))), .val (.ref b107), .val (.ref b121), .unset, .unset]) rfl k) ?_
        obtain ⟨T124, h124, X124, e124, E124, A124, D124, -, st124⟩ := newO X121 hx hZ hown (hw _ (List.mem_of_getElem? (i := 1) rfl)) (hw _ (List.mem_of_getElem? (i := 2) rfl)) (hw _ (List.mem_of_getElem? (i := 3) rfl)) e121 (g := (mkF m 133 #[.val (.int p1), .val (.int p2), .val (.int p3), .val (.int p4), .val (.int (p1 &&& (3 : Int32))), .val (.int (p2 &&& (7 : Int32))), .val (.int (p3 &&& (7 : Int32))), .val (.int (p4 &&& (7 : Int32))), .val (.ref b107), .val (.ref b121), .unset, .unset] [])) rfl (hb hby at_133) (by decide) (by decide)
        obtain ⟨b124, g124⟩ : ∃ z, z = h121.size := ⟨_, rfl⟩
        rw [← g124] at A124 D124 st124
        have ne_b107_b124 : b107 ≠ b124 := by rw [g124]; exact Nat.ne_of_lt A123.lt
        have ne_b121_b124 : b121 ≠ b124 := by rw [g124]; exact Nat.ne_of_lt A121'.lt
        have Z125 : n0 ≤ h124.size := Nat.le_trans Z122 E124.1
        have ge_b124 : n0 ≤ b124 := by rw [g124]; exact Z122
        have A126 := A123.ext E124
        have A127 := A121'.ext E124
        have F_starts_b124 : Fld Z h124 b124 "com/example/lambro/lambro/IntRows" "starts" "[I" .null := D124 (Or.inr (hw _ (List.mem_of_getElem? (i := 11) rfl))) (ty := (.array .int)) (by decide)
        have F_values_b124 : Fld Z h124 b124 "com/example/lambro/lambro/IntRows" "values" "[I" .null := D124 (Or.inr (hw _ (List.mem_of_getElem? (i := 13) rfl))) (ty := (.array .int)) (by decide)
        refine go _ (T124.setTop (mkF m 136 #[.val (.int p1), .val (.int p2), .val (.int p3), .val (.int p4), .val (.int (p1 &&& (3 : Int32))), .val (.int (p2 &&& (7 : Int32))), .val (.int (p3 &&& (7 : Int32))), .val (.int (p4 &&& (7 : Int32))), .val (.ref b107), .val (.ref b121), .unset, .unset] [(.ref b124)])) (st124) ?_
        refine go _ (T124.setTop (mkF m 137 #[.val (.int p1), .val (.int p2), .val (.int p3), .val (.int p4), .val (.int (p1 &&& (3 : Int32))), .val (.int (p2 &&& (7 : Int32))), .val (.int (p3 &&& (7 : Int32))), .val (.int (p4 &&& (7 : Int32))), .val (.ref b107), .val (.ref b121), .unset, .unset] [(.ref b124), (.ref b124)])) (fun t k => XS.dup X124.here hx rfl (hb hby at_136) rfl rfl k) ?_
        refine go _ (T124.setTop (mkF m 139 #[.val (.int p1), .val (.int p2), .val (.int p3), .val (.int p4), .val (.int (p1 &&& (3 : Int32))), .val (.int (p2 &&& (7 : Int32))), .val (.int (p3 &&& (7 : Int32))), .val (.int (p4 &&& (7 : Int32))), .val (.ref b107), .val (.ref b121), .unset, .unset] [(.ref b107), (.ref b124), (.ref b124)])) (fun t k => XS.aload X124.here hx rfl (hb hby at_137) rfl rfl k) ?_
        refine go _ (T124.setTop (mkF m 141 #[.val (.int p1), .val (.int p2), .val (.int p3), .val (.int p4), .val (.int (p1 &&& (3 : Int32))), .val (.int (p2 &&& (7 : Int32))), .val (.int (p3 &&& (7 : Int32))), .val (.int (p4 &&& (7 : Int32))), .val (.ref b107), .val (.ref b121), .unset, .unset] [(.ref b121), (.ref b107), (.ref b124), (.ref b124)])) (fun t k => XS.aload X124.here hx rfl (hb hby at_139) rfl rfl k) ?_
        obtain ⟨_, _, ⟨T128, L128, k128, n128⟩, -, X128, ⟨Lc128, hQ128, l128, y128, z128⟩, st128⟩ := X124.specialBack hx (y := (⟨"com/example/lambro/lambro/IntRows", "<init>", "([I[I)V"⟩ : MethodName)) rfl hown (mvT hZ (hw _ (List.mem_of_getElem? (i := 4) rfl))) (mvT hZ (hw _ (List.mem_of_getElem? (i := 5) rfl))) (mvT hZ (hw _ (List.mem_of_getElem? (i := 6) rfl))) (by decide) (backOf (W := 1) (rm1 l Z a0 hw [] b124 b107 b121  h124 n0 Z125 A124 F_starts_b124 F_values_b124 ge_b124) hZ (hw _ (List.mem_of_getElem? (i := 6) rfl)) (hw _ (List.mem_of_getElem? (i := 3) rfl)) (by decide) (by decide)) (g := (mkF m 141 #[.val (.int p1), .val (.int p2), .val (.int p3), .val (.int p4), .val (.int (p1 &&& (3 : Int32))), .val (.int (p2 &&& (7 : Int32))), .val (.int (p3 &&& (7 : Int32))), .val (.int (p4 &&& (7 : Int32))), .val (.ref b107), .val (.ref b121), .unset, .unset] [(.ref b121), (.ref b107), (.ref b124), (.ref b124)])) rfl (by rw [hml]; rfl) (Steps.refl _) (a := b124) (argsL := [(.ref b107), (.ref b121)]) (rest := [(.ref b124)]) (lenOf pd_1 rfl) rfl (by show 2 * 0 + _ ≤ _; exact Nat.le_of_eq rfl) (hb hby at_141) (fun _ _ => ⟨rfl, e124, (by decide : 0 + 1 + 1 + 1 + 0 ≤ _), (by decide : 0 + 4 + 21 + 2 + 0 ≤ _)⟩)
        dsimp only [Pt.U, Pt.locs, Pt.cells, Pt.slots] at X128 l128 y128 z128 st128 hQ128
        subst l128 y128 z128
        obtain ⟨rfl, Nq128, Kq128, Eq128, Fs128, Fv128⟩ := hQ128
        have N129 := Fr.app N120 Nq128
        have Z130 : n0 ≤ T128.heap.size := Nat.le_trans Z125 Kq128.1
        have A131 := A126.keep Kq128 (ninS ne_b107_b124 nin0)
        have A132 := A127.keep Kq128 (ninS ne_b121_b124 nin0)
        refine go _ (T128.setTop (mkF m 144 #[.val (.int p1), .val (.int p2), .val (.int p3), .val (.int p4), .val (.int (p1 &&& (3 : Int32))), .val (.int (p2 &&& (7 : Int32))), .val (.int (p3 &&& (7 : Int32))), .val (.int (p4 &&& (7 : Int32))), .val (.ref b107), .val (.ref b121), .unset, .unset] [(.ref b124)])) (fun t k => st128.trans k) ?_
        refine go _ (T128.setTop (mkF m 146 #[.val (.int p1), .val (.int p2), .val (.int p3), .val (.int p4), .val (.int (p1 &&& (3 : Int32))), .val (.int (p2 &&& (7 : Int32))), .val (.int (p3 &&& (7 : Int32))), .val (.int (p4 &&& (7 : Int32))), .val (.ref b107), .val (.ref b121), .val (.ref b124), .unset] [])) (fun t k => XS.astore X128.here hx rfl (hb hby at_144) rfl rfl (l' := #[.val (.int p1), .val (.int p2), .val (.int p3), .val (.int p4), .val (.int (p1 &&& (3 : Int32))), .val (.int (p2 &&& (7 : Int32))), .val (.int (p3 &&& (7 : Int32))), .val (.int (p4 &&& (7 : Int32))), .val (.ref b107), .val (.ref b121), .val (.ref b124), .unset]) rfl k) ?_
        refine go _ (T128.setTop (mkF m 147 #[.val (.int p1), .val (.int p2), .val (.int p3), .val (.int p4), .val (.int (p1 &&& (3 : Int32))), .val (.int (p2 &&& (7 : Int32))), .val (.int (p3 &&& (7 : Int32))), .val (.int (p4 &&& (7 : Int32))), .val (.ref b107), .val (.ref b121), .val (.ref b124), .unset] [(.int (0 : Int32))])) (fun t k => XS.iconst X128.here hx rfl (hb hby at_146) k) ?_
        refine go _ (T128.setTop (mkF m 149 #[.val (.int p1), .val (.int p2), .val (.int p3), .val (.int p4), .val (.int (p1 &&& (3 : Int32))), .val (.int (p2 &&& (7 : Int32))), .val (.int (p3 &&& (7 : Int32))), .val (.int (p4 &&& (7 : Int32))), .val (.ref b107), .val (.ref b121), .val (.ref b124), .val (.int (0 : Int32))] [])) (fun t k => XS.istore X128.here hx rfl (hb hby at_147) rfl (l' := #[.val (.int p1), .val (.int p2), .val (.int p3), .val (.int p4), .val (.int (p1 &&& (3 : Int32))), .val (.int (p2 &&& (7 : Int32))), .val (.int (p3 &&& (7 : Int32))), .val (.int (p4 &&& (7 : Int32))), .val (.ref b107), .val (.ref b121), .val (.ref b124), .val (.int (0 : Int32))]) rfl k) ?_
        refine go _ (T128.setTop (mkF m 151 #[.val (.int p1), .val (.int p2), .val (.int p3), .val (.int p4), .val (.int (p1 &&& (3 : Int32))), .val (.int (p2 &&& (7 : Int32))), .val (.int (p3 &&& (7 : Int32))), .val (.int (p4 &&& (7 : Int32))), .val (.ref b107), .val (.ref b121), .val (.ref b124), .val (.int (0 : Int32))] [(.int (p1 &&& (3 : Int32)))])) (fun t k => XS.iload X128.here hx rfl (hb hby at_149) rfl k) ?_
        refine go _ (T128.setTop (mkF m 152 #[.val (.int p1), .val (.int p2), .val (.int p3), .val (.int p4), .val (.int (p1 &&& (3 : Int32))), .val (.int (p2 &&& (7 : Int32))), .val (.int (p3 &&& (7 : Int32))), .val (.int (p4 &&& (7 : Int32))), .val (.ref b107), .val (.ref b121), .val (.ref b124), .val (.int (0 : Int32))] [(.int (1 : Int32)), (.int (p1 &&& (3 : Int32)))])) (fun t k => XS.iconst X128.here hx rfl (hb hby at_151) k) ?_
        have heq3 := own_k3 p1 hc17 hc44 hc74
        have hc133 : ¬ ((p1 &&& (3 : Int32)) < (1 : Int32)) := (by rw [heq3]; decide)
        refine go _ (T128.setTop (mkF m 155 #[.val (.int p1), .val (.int p2), .val (.int p3), .val (.int p4), .val (.int (p1 &&& (3 : Int32))), .val (.int (p2 &&& (7 : Int32))), .val (.int (p3 &&& (7 : Int32))), .val (.int (p4 &&& (7 : Int32))), .val (.ref b107), .val (.ref b121), .val (.ref b124), .val (.int (0 : Int32))] [])) (fun t k => XS.icmpNo X128.here hx rfl (hb hby at_152) rfl (flt hc133).1 k) ?_
        refine go _ (T128.setTop (mkF m 157 #[.val (.int p1), .val (.int p2), .val (.int p3), .val (.int p4), .val (.int (p1 &&& (3 : Int32))), .val (.int (p2 &&& (7 : Int32))), .val (.int (p3 &&& (7 : Int32))), .val (.int (p4 &&& (7 : Int32))), .val (.ref b107), .val (.ref b121), .val (.ref b124), .val (.int (0 : Int32))] [(.int (0 : Int32))])) (fun t k => XS.iload X128.here hx rfl (hb hby at_155) rfl k) ?_
        refine go _ (T128.setTop (mkF m 159 #[.val (.int p1), .val (.int p2), .val (.int p3), .val (.int p4), .val (.int (p1 &&& (3 : Int32))), .val (.int (p2 &&& (7 : Int32))), .val (.int (p3 &&& (7 : Int32))), .val (.int (p4 &&& (7 : Int32))), .val (.ref b107), .val (.ref b121), .val (.ref b124), .val (.int (0 : Int32))] [(.int (p2 &&& (7 : Int32))), (.int (0 : Int32))])) (fun t k => XS.iload X128.here hx rfl (hb hby at_157) rfl k) ?_
        refine go _ (T128.setTop (mkF m 160 #[.val (.int p1), .val (.int p2), .val (.int p3), .val (.int p4), .val (.int (p1 &&& (3 : Int32))), .val (.int (p2 &&& (7 : Int32))), .val (.int (p3 &&& (7 : Int32))), .val (.int (p4 &&& (7 : Int32))), .val (.ref b107), .val (.ref b121), .val (.ref b124), .val (.int (0 : Int32))] [(.int ((0 : Int32) + (p2 &&& (7 : Int32))))])) (fun t k => XS.iadd X128.here hx rfl (hb hby at_159) rfl k) ?_
        refine go _ (T128.setTop (mkF m 162 #[.val (.int p1), .val (.int p2), .val (.int p3), .val (.int p4), .val (.int (p1 &&& (3 : Int32))), .val (.int (p2 &&& (7 : Int32))), .val (.int (p3 &&& (7 : Int32))), .val (.int (p4 &&& (7 : Int32))), .val (.ref b107), .val (.ref b121), .val (.ref b124), .val (.int ((0 : Int32) + (p2 &&& (7 : Int32))))] [])) (fun t k => XS.istore X128.here hx rfl (hb hby at_160) rfl (l' := #[.val (.int p1), .val (.int p2), .val (.int p3), .val (.int p4), .val (.int (p1 &&& (3 : Int32))), .val (.int (p2 &&& (7 : Int32))), .val (.int (p3 &&& (7 : Int32))), .val (.int (p4 &&& (7 : Int32))), .val (.ref b107), .val (.ref b121), .val (.ref b124), .val (.int ((0 : Int32) + (p2 &&& (7 : Int32))))]) rfl k) ?_
        refine go _ (T128.setTop (mkF m 164 #[.val (.int p1), .val (.int p2), .val (.int p3), .val (.int p4), .val (.int (p1 &&& (3 : Int32))), .val (.int (p2 &&& (7 : Int32))), .val (.int (p3 &&& (7 : Int32))), .val (.int (p4 &&& (7 : Int32))), .val (.ref b107), .val (.ref b121), .val (.ref b124), .val (.int ((0 : Int32) + (p2 &&& (7 : Int32))))] [(.int (p1 &&& (3 : Int32)))])) (fun t k => XS.iload X128.here hx rfl (hb hby at_162) rfl k) ?_
        refine go _ (T128.setTop (mkF m 165 #[.val (.int p1), .val (.int p2), .val (.int p3), .val (.int p4), .val (.int (p1 &&& (3 : Int32))), .val (.int (p2 &&& (7 : Int32))), .val (.int (p3 &&& (7 : Int32))), .val (.int (p4 &&& (7 : Int32))), .val (.ref b107), .val (.ref b121), .val (.ref b124), .val (.int ((0 : Int32) + (p2 &&& (7 : Int32))))] [(.int (2 : Int32)), (.int (p1 &&& (3 : Int32)))])) (fun t k => XS.iconst X128.here hx rfl (hb hby at_164) k) ?_
        have hc134 : ¬ ((p1 &&& (3 : Int32)) < (2 : Int32)) := (by rw [heq3]; decide)
        refine go _ (T128.setTop (mkF m 168 #[.val (.int p1), .val (.int p2), .val (.int p3), .val (.int p4), .val (.int (p1 &&& (3 : Int32))), .val (.int (p2 &&& (7 : Int32))), .val (.int (p3 &&& (7 : Int32))), .val (.int (p4 &&& (7 : Int32))), .val (.ref b107), .val (.ref b121), .val (.ref b124), .val (.int ((0 : Int32) + (p2 &&& (7 : Int32))))] [])) (fun t k => XS.icmpNo X128.here hx rfl (hb hby at_165) rfl (flt hc134).1 k) ?_
        refine go _ (T128.setTop (mkF m 170 #[.val (.int p1), .val (.int p2), .val (.int p3), .val (.int p4), .val (.int (p1 &&& (3 : Int32))), .val (.int (p2 &&& (7 : Int32))), .val (.int (p3 &&& (7 : Int32))), .val (.int (p4 &&& (7 : Int32))), .val (.ref b107), .val (.ref b121), .val (.ref b124), .val (.int ((0 : Int32) + (p2 &&& (7 : Int32))))] [(.int ((0 : Int32) + (p2 &&& (7 : Int32))))])) (fun t k => XS.iload X128.here hx rfl (hb hby at_168) rfl k) ?_
        refine go _ (T128.setTop (mkF m 172 #[.val (.int p1), .val (.int p2), .val (.int p3), .val (.int p4), .val (.int (p1 &&& (3 : Int32))), .val (.int (p2 &&& (7 : Int32))), .val (.int (p3 &&& (7 : Int32))), .val (.int (p4 &&& (7 : Int32))), .val (.ref b107), .val (.ref b121), .val (.ref b124), .val (.int ((0 : Int32) + (p2 &&& (7 : Int32))))] [(.int (p3 &&& (7 : Int32))), (.int ((0 : Int32) + (p2 &&& (7 : Int32))))])) (fun t k => XS.iload X128.here hx rfl (hb hby at_170) rfl k) ?_
        refine go _ (T128.setTop (mkF m 173 #[.val (.int p1), .val (.int p2), .val (.int p3), .val (.int p4), .val (.int (p1 &&& (3 : Int32))), .val (.int (p2 &&& (7 : Int32))), .val (.int (p3 &&& (7 : Int32))), .val (.int (p4 &&& (7 : Int32))), .val (.ref b107), .val (.ref b121), .val (.ref b124), .val (.int ((0 : Int32) + (p2 &&& (7 : Int32))))] [(.int (((0 : Int32) + (p2 &&& (7 : Int32))) + (p3 &&& (7 : Int32))))])) (fun t k => XS.iadd X128.here hx rfl (hb hby at_172) rfl k) ?_
        refine go _ (T128.setTop (mkF m 175 #[.val (.int p1), .val (.int p2), .val (.int p3), .val (.int p4), .val (.int (p1 &&& (3 : Int32))), .val (.int (p2 &&& (7 : Int32))), .val (.int (p3 &&& (7 : Int32))), .val (.int (p4 &&& (7 : Int32))), .val (.ref b107), .val (.ref b121), .val (.ref b124), .val (.int (((0 : Int32) + (p2 &&& (7 : Int32))) + (p3 &&& (7 : Int32))))] [])) (fun t k => XS.istore X128.here hx rfl (hb hby at_173) rfl (l' := #[.val (.int p1), .val (.int p2), .val (.int p3), .val (.int p4), .val (.int (p1 &&& (3 : Int32))), .val (.int (p2 &&& (7 : Int32))), .val (.int (p3 &&& (7 : Int32))), .val (.int (p4 &&& (7 : Int32))), .val (.ref b107), .val (.ref b121), .val (.ref b124), .val (.int (((0 : Int32) + (p2 &&& (7 : Int32))) + (p3 &&& (7 : Int32))))]) rfl k) ?_
        refine go _ (T128.setTop (mkF m 177 #[.val (.int p1), .val (.int p2), .val (.int p3), .val (.int p4), .val (.int (p1 &&& (3 : Int32))), .val (.int (p2 &&& (7 : Int32))), .val (.int (p3 &&& (7 : Int32))), .val (.int (p4 &&& (7 : Int32))), .val (.ref b107), .val (.ref b121), .val (.ref b124), .val (.int (((0 : Int32) + (p2 &&& (7 : Int32))) + (p3 &&& (7 : Int32))))] [(.int (p1 &&& (3 : Int32)))])) (fun t k => XS.iload X128.here hx rfl (hb hby at_175) rfl k) ?_
        refine go _ (T128.setTop (mkF m 178 #[.val (.int p1), .val (.int p2), .val (.int p3), .val (.int p4), .val (.int (p1 &&& (3 : Int32))), .val (.int (p2 &&& (7 : Int32))), .val (.int (p3 &&& (7 : Int32))), .val (.int (p4 &&& (7 : Int32))), .val (.ref b107), .val (.ref b121), .val (.ref b124), .val (.int (((0 : Int32) + (p2 &&& (7 : Int32))) + (p3 &&& (7 : Int32))))] [(.int (3 : Int32)), (.int (p1 &&& (3 : Int32)))])) (fun t k => XS.iconst X128.here hx rfl (hb hby at_177) k) ?_
        have hc135 : ¬ ((p1 &&& (3 : Int32)) < (3 : Int32)) := (by rw [heq3]; decide)
        refine go _ (T128.setTop (mkF m 181 #[.val (.int p1), .val (.int p2), .val (.int p3), .val (.int p4), .val (.int (p1 &&& (3 : Int32))), .val (.int (p2 &&& (7 : Int32))), .val (.int (p3 &&& (7 : Int32))), .val (.int (p4 &&& (7 : Int32))), .val (.ref b107), .val (.ref b121), .val (.ref b124), .val (.int (((0 : Int32) + (p2 &&& (7 : Int32))) + (p3 &&& (7 : Int32))))] [])) (fun t k => XS.icmpNo X128.here hx rfl (hb hby at_178) rfl (flt hc135).1 k) ?_
        refine go _ (T128.setTop (mkF m 183 #[.val (.int p1), .val (.int p2), .val (.int p3), .val (.int p4), .val (.int (p1 &&& (3 : Int32))), .val (.int (p2 &&& (7 : Int32))), .val (.int (p3 &&& (7 : Int32))), .val (.int (p4 &&& (7 : Int32))), .val (.ref b107), .val (.ref b121), .val (.ref b124), .val (.int (((0 : Int32) + (p2 &&& (7 : Int32))) + (p3 &&& (7 : Int32))))] [(.int (((0 : Int32) + (p2 &&& (7 : Int32))) + (p3 &&& (7 : Int32))))])) (fun t k => XS.iload X128.here hx rfl (hb hby at_181) rfl k) ?_
        refine go _ (T128.setTop (mkF m 185 #[.val (.int p1), .val (.int p2), .val (.int p3), .val (.int p4), .val (.int (p1 &&& (3 : Int32))), .val (.int (p2 &&& (7 : Int32))), .val (.int (p3 &&& (7 : Int32))), .val (.int (p4 &&& (7 : Int32))), .val (.ref b107), .val (.ref b121), .val (.ref b124), .val (.int (((0 : Int32) + (p2 &&& (7 : Int32))) + (p3 &&& (7 : Int32))))] [(.int (p4 &&& (7 : Int32))), (.int (((0 : Int32) + (p2 &&& (7 : Int32))) + (p3 &&& (7 : Int32))))])) (fun t k => XS.iload X128.here hx rfl (hb hby at_183) rfl k) ?_
        refine go _ (T128.setTop (mkF m 186 #[.val (.int p1), .val (.int p2), .val (.int p3), .val (.int p4), .val (.int (p1 &&& (3 : Int32))), .val (.int (p2 &&& (7 : Int32))), .val (.int (p3 &&& (7 : Int32))), .val (.int (p4 &&& (7 : Int32))), .val (.ref b107), .val (.ref b121), .val (.ref b124), .val (.int (((0 : Int32) + (p2 &&& (7 : Int32))) + (p3 &&& (7 : Int32))))] [(.int ((((0 : Int32) + (p2 &&& (7 : Int32))) + (p3 &&& (7 : Int32))) + (p4 &&& (7 : Int32))))])) (fun t k => XS.iadd X128.here hx rfl (hb hby at_185) rfl k) ?_
        refine go _ (T128.setTop (mkF m 188 #[.val (.int p1), .val (.int p2), .val (.int p3), .val (.int p4), .val (.int (p1 &&& (3 : Int32))), .val (.int (p2 &&& (7 : Int32))), .val (.int (p3 &&& (7 : Int32))), .val (.int (p4 &&& (7 : Int32))), .val (.ref b107), .val (.ref b121), .val (.ref b124), .val (.int ((((0 : Int32) + (p2 &&& (7 : Int32))) + (p3 &&& (7 : Int32))) + (p4 &&& (7 : Int32))))] [])) (fun t k => XS.istore X128.here hx rfl (hb hby at_186) rfl (l' := #[.val (.int p1), .val (.int p2), .val (.int p3), .val (.int p4), .val (.int (p1 &&& (3 : Int32))), .val (.int (p2 &&& (7 : Int32))), .val (.int (p3 &&& (7 : Int32))), .val (.int (p4 &&& (7 : Int32))), .val (.ref b107), .val (.ref b121), .val (.ref b124), .val (.int ((((0 : Int32) + (p2 &&& (7 : Int32))) + (p3 &&& (7 : Int32))) + (p4 &&& (7 : Int32))))]) rfl k) ?_
        refine go _ (T128.setTop (mkF m 190 #[.val (.int p1), .val (.int p2), .val (.int p3), .val (.int p4), .val (.int (p1 &&& (3 : Int32))), .val (.int (p2 &&& (7 : Int32))), .val (.int (p3 &&& (7 : Int32))), .val (.int (p4 &&& (7 : Int32))), .val (.ref b107), .val (.ref b121), .val (.ref b124), .val (.int ((((0 : Int32) + (p2 &&& (7 : Int32))) + (p3 &&& (7 : Int32))) + (p4 &&& (7 : Int32))))] [(.ref b124)])) (fun t k => XS.aload X128.here hx rfl (hb hby at_188) rfl rfl k) ?_
        obtain ⟨cq136, kq136, q136a, q136b, q136c⟩ := isOf hZ rfl Eq128
        obtain ⟨_, _, ⟨T136, L136, k136, n136⟩, -, X136, ⟨Lc136, hQ136, l136, y136, z136⟩, st136⟩ := X128.virtualBack hx (y := (⟨"com/example/lambro/lambro/IntRows", "rows", "()I"⟩ : MethodName)) (z := (⟨"com/example/lambro/lambro/IntRows", "rows", "()I"⟩ : MethodName)) hown (mvT hZ (hw _ (List.mem_of_getElem? (i := 14) rfl))) (mvT hZ (hw _ (List.mem_of_getElem? (i := 15) rfl))) (notFace_of_selects (args := #[]) (mvT hZ (hw _ (List.mem_of_getElem? (i := 17) rfl)))) (mvT hZ (hw _ (List.mem_of_getElem? (i := 17) rfl))) (mvT hZ (hw _ (List.mem_of_getElem? (i := 16) rfl))) (by decide) (backOf (W := 0) (rm3 l Z a0 hw [] b124 b107 4 _ T128.heap n0 Z130 Fs128 A131) hZ (hw _ (List.mem_of_getElem? (i := 18) rfl)) (hw _ (List.mem_of_getElem? (i := 3) rfl)) (by decide) (by decide)) q136a q136c (g := (mkF m 190 #[.val (.int p1), .val (.int p2), .val (.int p3), .val (.int p4), .val (.int (p1 &&& (3 : Int32))), .val (.int (p2 &&& (7 : Int32))), .val (.int (p3 &&& (7 : Int32))), .val (.int (p4 &&& (7 : Int32))), .val (.ref b107), .val (.ref b121), .val (.ref b124), .val (.int ((((0 : Int32) + (p2 &&& (7 : Int32))) + (p3 &&& (7 : Int32))) + (p4 &&& (7 : Int32))))] [(.ref b124)])) rfl (by rw [hml]; rfl) (Steps.refl _) (argsL := []) (rest := []) (lenOf pd_2 rfl) rfl (by show 2 * 0 + _ ≤ _; exact Nat.le_of_eq rfl) (hb hby at_190) (fun _ _ => ⟨rfl, rfl, (by decide : 0 + 1 + 1 + 1 + 0 ≤ _), (by decide : 0 + 4 + 21 + 2 + 0 ≤ _)⟩)
        dsimp only [Pt.U, Pt.locs, Pt.cells, Pt.slots] at X136 l136 y136 z136 st136 hQ136
        subst l136 y136 z136
        obtain ⟨rfl, Nq136, hh136⟩ := hQ136
        have N137 := Fr.app N129 Nq136
        refine go _ (T136.setTop (mkF m 193 #[.val (.int p1), .val (.int p2), .val (.int p3), .val (.int p4), .val (.int (p1 &&& (3 : Int32))), .val (.int (p2 &&& (7 : Int32))), .val (.int (p3 &&& (7 : Int32))), .val (.int (p4 &&& (7 : Int32))), .val (.ref b107), .val (.ref b121), .val (.ref b124), .val (.int ((((0 : Int32) + (p2 &&& (7 : Int32))) + (p3 &&& (7 : Int32))) + (p4 &&& (7 : Int32))))] [(.int (Int32.ofNat 4 - (1 : Int32)))])) (fun t k => st136.trans k) ?_
        refine go _ (T136.setTop (mkF m 195 #[.val (.int p1), .val (.int p2), .val (.int p3), .val (.int p4), .val (.int (p1 &&& (3 : Int32))), .val (.int (p2 &&& (7 : Int32))), .val (.int (p3 &&& (7 : Int32))), .val (.int (p4 &&& (7 : Int32))), .val (.ref b107), .val (.ref b121), .val (.ref b124), .val (.int ((((0 : Int32) + (p2 &&& (7 : Int32))) + (p3 &&& (7 : Int32))) + (p4 &&& (7 : Int32))))] [(.int (p1 &&& (3 : Int32))), (.int (Int32.ofNat 4 - (1 : Int32)))])) (fun t k => XS.iload X136.here hx rfl (hb hby at_193) rfl k) ?_
        have hc138 : ((Int32.ofNat 4 - (1 : Int32)) = (p1 &&& (3 : Int32))) := (by rw [heq3]; decide)
        refine go _ (T136.setTop (mkF m 198 #[.val (.int p1), .val (.int p2), .val (.int p3), .val (.int p4), .val (.int (p1 &&& (3 : Int32))), .val (.int (p2 &&& (7 : Int32))), .val (.int (p3 &&& (7 : Int32))), .val (.int (p4 &&& (7 : Int32))), .val (.ref b107), .val (.ref b121), .val (.ref b124), .val (.int ((((0 : Int32) + (p2 &&& (7 : Int32))) + (p3 &&& (7 : Int32))) + (p4 &&& (7 : Int32))))] [])) (fun t k => XS.icmpNo X136.here hx rfl (hb hby at_195) rfl (teq hc138).2 k) ?_
        refine go _ (T136.setTop (mkF m 200 #[.val (.int p1), .val (.int p2), .val (.int p3), .val (.int p4), .val (.int (p1 &&& (3 : Int32))), .val (.int (p2 &&& (7 : Int32))), .val (.int (p3 &&& (7 : Int32))), .val (.int (p4 &&& (7 : Int32))), .val (.ref b107), .val (.ref b121), .val (.ref b124), .val (.int ((((0 : Int32) + (p2 &&& (7 : Int32))) + (p3 &&& (7 : Int32))) + (p4 &&& (7 : Int32))))] [(.ref b124)])) (fun t k => XS.aload X136.here hx rfl (hb hby at_198) rfl rfl k) ?_
        obtain ⟨cq139, kq139, q139a, q139b, q139c⟩ := isOf hZ hh136 Eq128
        obtain ⟨_, _, ⟨T139, L139, k139, n139⟩, -, X139, ⟨Lc139, hQ139, l139, y139, z139⟩, st139⟩ := X136.virtualBack hx (y := (⟨"com/example/lambro/lambro/IntRows", "count", "()I"⟩ : MethodName)) (z := (⟨"com/example/lambro/lambro/IntRows", "count", "()I"⟩ : MethodName)) hown (mvT hZ (hw _ (List.mem_of_getElem? (i := 19) rfl))) (mvT hZ (hw _ (List.mem_of_getElem? (i := 20) rfl))) (notFace_of_selects (args := #[]) (mvT hZ (hw _ (List.mem_of_getElem? (i := 22) rfl)))) (mvT hZ (hw _ (List.mem_of_getElem? (i := 22) rfl))) (mvT hZ (hw _ (List.mem_of_getElem? (i := 21) rfl))) (by decide) (backOf (W := 0) (rm4 l Z a0 hw [] b124 b107 4 _ 3 (((p2 &&& (7 : Int32)) + (p3 &&& (7 : Int32))) + (p4 &&& (7 : Int32))) T128.heap n0 Z130 Fs128 A131 (by decide) (by decide) rfl) hZ (hw _ (List.mem_of_getElem? (i := 23) rfl)) (hw _ (List.mem_of_getElem? (i := 3) rfl)) (by decide) (by decide)) q139a q139c (g := (mkF m 200 #[.val (.int p1), .val (.int p2), .val (.int p3), .val (.int p4), .val (.int (p1 &&& (3 : Int32))), .val (.int (p2 &&& (7 : Int32))), .val (.int (p3 &&& (7 : Int32))), .val (.int (p4 &&& (7 : Int32))), .val (.ref b107), .val (.ref b121), .val (.ref b124), .val (.int ((((0 : Int32) + (p2 &&& (7 : Int32))) + (p3 &&& (7 : Int32))) + (p4 &&& (7 : Int32))))] [(.ref b124)])) rfl (by rw [hml]; rfl) (Steps.refl _) (argsL := []) (rest := []) (lenOf pd_2 rfl) rfl (by show 2 * 0 + _ ≤ _; exact Nat.le_of_eq rfl) (hb hby at_200) (fun _ _ => ⟨rfl, hh136, (by decide : 0 + 1 + 1 + 1 + 0 ≤ _), (by decide : 0 + 4 + 21 + 2 + 0 ≤ _)⟩)
        dsimp only [Pt.U, Pt.locs, Pt.cells, Pt.slots] at X139 l139 y139 z139 st139 hQ139
        subst l139 y139 z139
        obtain ⟨rfl, Nq139, hh139⟩ := hQ139
        have N140 := Fr.app N137 Nq139
        refine go _ (T139.setTop (mkF m 203 #[.val (.int p1), .val (.int p2), .val (.int p3), .val (.int p4), .val (.int (p1 &&& (3 : Int32))), .val (.int (p2 &&& (7 : Int32))), .val (.int (p3 &&& (7 : Int32))), .val (.int (p4 &&& (7 : Int32))), .val (.ref b107), .val (.ref b121), .val (.ref b124), .val (.int ((((0 : Int32) + (p2 &&& (7 : Int32))) + (p3 &&& (7 : Int32))) + (p4 &&& (7 : Int32))))] [(.int (((p2 &&& (7 : Int32)) + (p3 &&& (7 : Int32))) + (p4 &&& (7 : Int32))))])) (fun t k => st139.trans k) ?_
        refine go _ (T139.setTop (mkF m 205 #[.val (.int p1), .val (.int p2), .val (.int p3), .val (.int p4), .val (.int (p1 &&& (3 : Int32))), .val (.int (p2 &&& (7 : Int32))), .val (.int (p3 &&& (7 : Int32))), .val (.int (p4 &&& (7 : Int32))), .val (.ref b107), .val (.ref b121), .val (.ref b124), .val (.int ((((0 : Int32) + (p2 &&& (7 : Int32))) + (p3 &&& (7 : Int32))) + (p4 &&& (7 : Int32))))] [(.int ((((0 : Int32) + (p2 &&& (7 : Int32))) + (p3 &&& (7 : Int32))) + (p4 &&& (7 : Int32)))), (.int (((p2 &&& (7 : Int32)) + (p3 &&& (7 : Int32))) + (p4 &&& (7 : Int32))))])) (fun t k => XS.iload X139.here hx rfl (hb hby at_203) rfl k) ?_
        have hc141 : ((((p2 &&& (7 : Int32)) + (p3 &&& (7 : Int32))) + (p4 &&& (7 : Int32))) = ((((0 : Int32) + (p2 &&& (7 : Int32))) + (p3 &&& (7 : Int32))) + (p4 &&& (7 : Int32)))) := (by simp)
        refine go _ (T139.setTop (mkF m 208 #[.val (.int p1), .val (.int p2), .val (.int p3), .val (.int p4), .val (.int (p1 &&& (3 : Int32))), .val (.int (p2 &&& (7 : Int32))), .val (.int (p3 &&& (7 : Int32))), .val (.int (p4 &&& (7 : Int32))), .val (.ref b107), .val (.ref b121), .val (.ref b124), .val (.int ((((0 : Int32) + (p2 &&& (7 : Int32))) + (p3 &&& (7 : Int32))) + (p4 &&& (7 : Int32))))] [])) (fun t k => XS.icmpNo X139.here hx rfl (hb hby at_205) rfl (teq hc141).2 k) ?_
        refine go _ (T139.setTop (mkF m 209 #[.val (.int p1), .val (.int p2), .val (.int p3), .val (.int p4), .val (.int (p1 &&& (3 : Int32))), .val (.int (p2 &&& (7 : Int32))), .val (.int (p3 &&& (7 : Int32))), .val (.int (p4 &&& (7 : Int32))), .val (.ref b107), .val (.ref b121), .val (.ref b124), .val (.int ((((0 : Int32) + (p2 &&& (7 : Int32))) + (p3 &&& (7 : Int32))) + (p4 &&& (7 : Int32))))] [(.int (1 : Int32))])) (fun t k => XS.iconst X139.here hx rfl (hb hby at_208) k) ?_
        refine go _ (T139.setTop (mkF m 213 #[.val (.int p1), .val (.int p2), .val (.int p3), .val (.int p4), .val (.int (p1 &&& (3 : Int32))), .val (.int (p2 &&& (7 : Int32))), .val (.int (p3 &&& (7 : Int32))), .val (.int (p4 &&& (7 : Int32))), .val (.ref b107), .val (.ref b121), .val (.ref b124), .val (.int ((((0 : Int32) + (p2 &&& (7 : Int32))) + (p3 &&& (7 : Int32))) + (p4 &&& (7 : Int32))))] [(.int (1 : Int32))])) (fun t k => XS.goto X139.here hx rfl (pc0 := 209) (pc' := 213) rfl (hb hby at_209) (by decide) (by decide) k) ?_
        exact fin (some (.int (1 : Int32))) X139 (by decide) (by decide) (fun q => by cases q) (show Q_rm0 Z p1 p2 p3 p4 h0 n0 _ T139.heap _ from (by rw [hh139]; exact ⟨rfl, N140⟩)) (fun fs hr => retN X139 hx (t := .boolean) hret (by simp) (hb hby at_213) hr)
set_option maxRecDepth 65536 in
set_option maxHeartbeats 40000000 in
theorem comes_1 {Post : Tables → Env → Array Value → State → Outcome → State → Prop} (hpost : ∀ tb e args s v u, (limb_1_1.after args s (.returned v) u = true ∧ limb_1_2.after args s (.returned v) u = true ∧ True) → FrameEnd s (.returned v) u (Jvm.fieldLocs frame_1_writes args s ++ Jvm.arrayLocs frame_1_arrays args s ++ Jvm.staticLocs frame_1_statics s) 16 128 → Post tb e args s (.returned v) u) :
    ArmFor flags0 classFile x code maxLocals ret World_1 tables_1 room_1 Calls_1 rest_1 Pre_1 Post := by
  intro l hfl _ _ p e ha hc hk s m args below hf hA hF happ hP
  obtain ⟨hcalls, hrest, hpre⟩ := hP
  obtain ⟨-, -, -, hnamed, -, -, -, hat⟩ := (Spec.applies_iff hf).mp happ
  obtain ⟨hg, hn⟩ := and_e (Cond.before_iff.mp (show (Jvm.Cond.and given_1 narrow_1).before args s = true from hpre))
  obtain ⟨gc, g1⟩ := and_e hg
  obtain ⟨ga0, g2⟩ := and_e g1
  obtain ⟨ga1, g3⟩ := and_e g2
  obtain ⟨ga2, g4⟩ := and_e g3
  have ga3 := g4
  obtain ⟨w0, w1, w2, w3, rfl⟩ : ∃ w0 w1 w2 w3 : Value, args = #[w0, w1, w2, w3] := by
    have hs : args.size = 4 := by simpa [Cond.value, given_1] using gc
    obtain ⟨L⟩ := args
    match L, hs with
    | [w0, w1, w2, w3], _ => exact ⟨w0, w1, w2, w3, rfl⟩
  have hw := fun d (hd : d ∈ tables_1) => atoms_spec (ws := Jvm.Cond.code x code maxLocals ret :: tables_1) hat d (List.mem_cons_of_mem _ hd)
  obtain ⟨i0, ei0⟩ := is_v ga0
  obtain rfl : w0 = (.int i0) := Option.some.inj ei0
  obtain ⟨i1, ei1⟩ := is_v ga1
  obtain rfl : w1 = (.int i1) := Option.some.inj ei1
  obtain ⟨i2, ei2⟩ := is_v ga2
  obtain rfl : w2 = (.int i2) := Option.some.inj ei2
  obtain ⟨i3, ei3⟩ := is_v ga3
  obtain rfl : w3 = (.int i3) := Option.some.inj ei3
  obtain ⟨n, o, h1, h2, h3, _, L, rfl, ⟨rfl, N⟩, hq⟩ := rm0 l s _ hw tables_1 i0 i1 i2 i3 s.heap s.heap.size (Nat.le_refl _) p e ha hc hk s m _ below hf ((Spec.applies_iff_loose hf).mp happ).1 ⟨rfl, State.Warmed39.refl s, rfl⟩ trivial
  refine ⟨n, _, h1, h2, h3, hpost _ _ _ _ _ _ ⟨Cond.after_iff.mpr rfl, Cond.after_iff.mpr (eq_i res_at (Term.int_eval (1)) rfl), trivial⟩ ⟨hq.1, hq.2.1, (hq.2.2.sift fun y hy => Or.inr (N y hy)).mono (by decide) (by decide)⟩⟩
theorem main_1_1 : Claimed_1_1 := comes_1 fun _ _ _ _ _ _ h hF => ⟨h.1, hF⟩
theorem main_1_2 : Claimed_1_2 := comes_1 fun _ _ _ _ _ _ h hF => ⟨h.2.1, hF⟩
end Jvm.Pilot.@@N@@
namespace Jvm.Pilot.@@N@@
open Jvm Jvm.ClassFile Sem Op Lib Jvm.Free Jvm.Stand Jvm.Pilot.@@N@@.Jvm.D
/-! MADE BY PROGRAM (witnessworld.py) out of the Statement's table words and the real class files: 9 classes; the members and pool entries that the words name. The judged class is class 1, her method 1. -/
namespace start1
open Jvm.ClassFile
def u (s : String) : CpInfo := .utf8 (stringToUtf16 s)
/-- a pool by its gaps: so many unusable entries, then the entry; so many at the end -/
def gap : Nat → List CpInfo → List CpInfo
  | 0, r => r
  | n + 1, r => .unusable :: gap n r
def poolList (es : List (Nat × CpInfo)) (last : Nat) : List CpInfo := es.foldr (fun e r => gap e.1 (e.2 :: r)) (gap last [])
def pool (es : List (Nat × CpInfo)) (last : Nat) : Array CpInfo := ⟨poolList es last⟩
def fileOf (pool : Array CpInfo) (this : Nat) (attrs : Array Attribute := #[]) (ms : Array MethodInfo := #[]) (fl : Nat := 33) (sup : Nat := 0) (ifs : Array Nat := #[]) (fds : Array FieldInfo := #[]) : ClassFile where
  minorVersion := 0
  majorVersion := 65
  constantPool := pool
  accessFlags := fl
  thisClass := this
  superClass := sup
  interfaces := ifs
  fields := fds
  methods := ms
  attributes := attrs
def plain (name : String) (sup : Option ClassId) : Class where
  name := name
  kind := .ordinary
  loader := none
  accessFlags := 33
  super := sup
  interfaces := #[]
  cf := none
  fields := #[]
  methods := #[]
  instanceTypes := #[]
  staticTypes := #[]
  resolved := #[]
  callSites := []
  init := .initialized
  statics := none
  mirror := none

def pool0 : Array CpInfo := pool [(5, u "<init>"), (0, u "()V"), (1, .class_ 10), (1, u "java/lang/Object")] 113

def k0c0 : Code := { maxStack := 0, maxLocals := 1, code := object_method_1_code, exceptionTable := #[], attributes := #[] }
def k0m0 : Method := { name := "<init>", desc := "()V", sig := { parameters := [], returnType := none }, accessFlags := 1, code := some k0c0 }
/-- java/lang/Object -/
def k0 : Class := { plain "java/lang/Object" none with
  accessFlags := 33
  interfaces := #[]
  cf := some (fileOf pool0 8 #[] #[{ accessFlags := 1, nameIndex := 5, descriptorIndex := 6, attributes := #[] }] 33 0 #[] #[])
  fields := #[]
  methods := #[k0m0]
  instanceTypes := #[]
  staticTypes := #[]
  resolved := Array.replicate 124 none
  statics := none }

def pool1 : Array CpInfo := pool [(2, .class_ 4), (1, u "java/lang/Object"), (0, u "<init>"), (0, u "()V"), (0, .class_ 8), (0, u "com/example/lambro/lambro/IntRows"), (0, .methodref 7 10), (0, .nameAndType 5 11), (0, u "([I[I)V"), (0, .methodref 7 13), (0, .nameAndType 14 15), (0, u "rows"), (0, u "()I"), (0, .methodref 7 17), (0, .nameAndType 18 15), (0, u "count"), (0, .class_ 20), (0, u "com/example/lambro/lambro/IntRowsCountPinLaw"), (2, u "law"), (0, u "(IIII)Z")] 5

def k1m0 : Method := { name := "<init>", desc := "()V", sig := { parameters := [], returnType := none }, accessFlags := 1, code := none }
def k1c1 : Code := { maxStack := 5, maxLocals := 12, code := code, exceptionTable := #[], attributes := #[] }
def k1m1 : Method := { name := "law", desc := "(IIII)Z", sig := { parameters := [.int, .int, .int, .int], returnType := some .boolean }, accessFlags := 9, code := some k1c1 }
/-- com/example/lambro/lambro/IntRowsCountPinLaw -/
def k1 : Class := { plain "com/example/lambro/lambro/IntRowsCountPinLaw" (some 0) with
  accessFlags := 49
  interfaces := #[]
  cf := some (fileOf pool1 19 #[] #[{ accessFlags := 1, nameIndex := 5, descriptorIndex := 6, attributes := #[] }, { accessFlags := 9, nameIndex := 23, descriptorIndex := 24, attributes := #[] }] 49 2 #[] #[])
  fields := #[]
  methods := #[k1m0, k1m1]
  instanceTypes := #[]
  staticTypes := #[]
  resolved := Array.replicate 30 none
  statics := none }

def pool2 : Array CpInfo := pool [(1, .methodref 2 3), (0, .class_ 4), (0, .nameAndType 5 6), (0, u "java/lang/Object"), (0, u "<init>"), (0, u "()V"), (0, .fieldref 8 9), (0, .class_ 10), (0, .nameAndType 11 12), (0, u "com/example/lambro/lambro/IntRows"), (0, u "starts"), (0, u "[I"), (0, .fieldref 8 14), (0, .nameAndType 15 12), (0, u "values"), (8, u "count"), (0, u "()I"), (33, u "([I[I)V"), (11, u "rows")] 27

def k2c0 : Code := { maxStack := 2, maxLocals := 3, code := prog_31_method_1_code, exceptionTable := #[], attributes := #[] }
def k2m0 : Method := { name := "<init>", desc := "([I[I)V", sig := { parameters := [(.array .int), (.array .int)], returnType := none }, accessFlags := 0, code := some k2c0 }
def k2c1 : Code := { maxStack := 2, maxLocals := 1, code := prog_31_method_4_code, exceptionTable := #[], attributes := #[] }
def k2m1 : Method := { name := "rows", desc := "()I", sig := { parameters := [], returnType := some .int }, accessFlags := 0, code := some k2c1 }
def k2c2 : Code := { maxStack := 3, maxLocals := 1, code := prog_31_method_5_code, exceptionTable := #[], attributes := #[] }
def k2m2 : Method := { name := "count", desc := "()I", sig := { parameters := [], returnType := some .int }, accessFlags := 0, code := some k2c2 }
/-- com/example/lambro/lambro/IntRows -/
def k2 : Class := { plain "com/example/lambro/lambro/IntRows" (some 0) with
  accessFlags := 48
  interfaces := #[]
  cf := some (fileOf pool2 8 #[] #[{ accessFlags := 0, nameIndex := 5, descriptorIndex := 59, attributes := #[] }, { accessFlags := 0, nameIndex := 71, descriptorIndex := 25, attributes := #[] }, { accessFlags := 0, nameIndex := 24, descriptorIndex := 25, attributes := #[] }] 48 2 #[] #[{ accessFlags := 18, nameIndex := 11, descriptorIndex := 12, attributes := #[] }, { accessFlags := 18, nameIndex := 15, descriptorIndex := 12, attributes := #[] }])
  fields := #[{ name := "starts", type := (.array .int), accessFlags := 18, slot := 0, constantValue := 0 }, { name := "values", type := (.array .int), accessFlags := 18, slot := 1, constantValue := 0 }]
  methods := #[k2m0, k2m1, k2m2]
  instanceTypes := #[(.array .int), (.array .int)]
  staticTypes := #[]
  resolved := Array.replicate 99 none
  statics := none }

def pool3 : Array CpInfo := pool [(1, u "java/lang/Cloneable"), (0, .class_ 1), (0, u "java/lang/Object"), (0, .class_ 3)] 3

/-- java/lang/Cloneable -/
def k3 : Class := { plain "java/lang/Cloneable" (some 0) with
  accessFlags := 1537
  interfaces := #[]
  cf := some (fileOf pool3 2 #[] #[] 1537 4 #[] #[])
  fields := #[]
  methods := #[]
  instanceTypes := #[]
  staticTypes := #[]
  resolved := Array.replicate 8 none
  statics := none }

def pool4 : Array CpInfo := pool [(1, u "java/io/Serializable"), (0, .class_ 1), (0, u "java/lang/Object"), (0, .class_ 3)] 3

/-- java/io/Serializable -/
def k4 : Class := { plain "java/io/Serializable" (some 0) with
  accessFlags := 1537
  interfaces := #[]
  cf := some (fileOf pool4 2 #[] #[] 1537 4 #[] #[])
  fields := #[]
  methods := #[]
  instanceTypes := #[]
  staticTypes := #[]
  resolved := Array.replicate 8 none
  statics := none }

/-- the primitive byte -/
def k5 : Class := { plain "byte" none with kind := .primitive 'B', accessFlags := 0x411 }
/-- [B -/
def k6 : Class := { plain "[B" (some 0) with kind := .array 5 .byte, interfaces := #[3, 4], accessFlags := 1041 }

/-- the primitive int -/
def k7 : Class := { plain "int" none with kind := .primitive 'I', accessFlags := 0x411 }
/-- [I -/
def k8 : Class := { plain "[I" (some 0) with kind := .array 7 .int, interfaces := #[3, 4], accessFlags := 1041 }

def heap : Heap := #[]
def classes : Array Class := #[k0, k1, k2, k3, k4, k5, k6, k7, k8]
def interned : List (Array UInt16 × Addr) := []
def slotsUsed : Nat := 0
def theMethod : MethodId := ⟨1, 1⟩
def args0 : Array Value := #[.int 5, .int 61, .int 3, .int 9]
def aboutOver (below : List Frame) : State where
  vm := { classes := classes, interned := interned.toArray }
  heap := heap
  slotsUsed := slotsUsed
  threads := #[{ frames := .invoking theMethod args0 :: below }]
def below0 : List Frame := [.native { method := ⟨0, 0⟩, args := #[] }]
def about1 : State := aboutOver below0
def p0 : Program := .bare "" "" ""
def e0 : Env := launch0.env 0 0 0
theorem w_frames : about1.frames = Frame.invoking theMethod args0 :: below0 := rfl
set_option maxRecDepth 65536 in
theorem w_args : argsFit about1.vm theMethod args0 = true := by decide +kernel
set_option maxRecDepth 65536 in
theorem w_heap : heapFits about1 = true := by decide +kernel
set_option maxRecDepth 65536 in
theorem w_runnable : about1.curStatus? = some .runnable := by decide +kernel
set_option maxRecDepth 65536 in
theorem w_alone : about1.alone = true := by decide +kernel
set_option maxRecDepth 65536 in
theorem w_named : about1.methodNamed? x = some theMethod := by decide +kernel
set_option maxRecDepth 65536 in
theorem w_hears : about1.hears theMethod below0 = true := by decide +kernel
set_option maxRecDepth 65536 in
theorem w_ripe : about1.ripe theMethod args0 below0 = true := by decide +kernel
theorem w_running : about1.status = .running := rfl
set_option maxRecDepth 65536 in
theorem w_room : about1.hasRoom e0.platform room_1 = true :=
  launch0.hasRoom_least _ room_1 (by decide +kernel) (by decide +kernel) (by decide +kernel) (by decide +kernel) (by decide +kernel) (by decide +kernel)
theorem allAtoms_all (ts : List Jvm.Cond) (a : Array Jvm.Value) (st : Jvm.State) : (allAtoms ts).before a st = ts.all (fun c => c.before a st) := by
  induction ts with
  | nil => rfl
  | cons c t ih =>
    show (Jvm.Cond.and c (allAtoms t)).before a st = _
    rw [Jvm.Cond.before_and, ih, List.all_cons]
def words1 : List Jvm.Cond := Jvm.Cond.code x code maxLocals ret :: tables_1
/-- a 'code' word, met by the world's own term for the bytes: nothing is compared byte by byte -/
theorem code_word {y : MethodName} {bytes : ByteArray} {mx : Nat} {rt : Option FieldType} {a : Array Value} {s : State} {m : MethodId} {meth : Method} {c : Code} (h1 : s.methodNamed? y = some m) (h2 : s.vm.method? m = some meth) (h3 : meth.code = some c) (h4 : c.code = bytes)
    (h5 : (c.maxLocals == mx && c.exceptionTable.isEmpty && decide (c.maxStack ≤ mostOperands) && decide (meth.sig.returnType = rt) && !meth.locks && decide (parseMethodDescriptor y.desc = some meth.sig)) = true) : (Jvm.Cond.code y bytes mx rt).before a s = true := by
  simp only [Bool.and_eq_true, beq_iff_eq, Bool.not_eq_true', decide_eq_true_eq] at h5
  obtain ⟨⟨⟨⟨⟨g1, g2⟩, g3⟩, g4⟩, g5⟩, g6⟩ := h5
  simp [Cond.before, Cond.holds, Cond.value, h1, h2, h3, h4, g1, g2, g3, g4, g5, g6]
def isCode : Jvm.Cond → Bool
  | .code _ _ _ _ => true
  | _ => false
theorem all_split {L : List Jvm.Cond} {P : Jvm.Cond → Bool} (h1 : L.all (fun c => isCode c || P c) = true) (h2 : ∀ c ∈ L.filter isCode, P c = true) : L.all P = true := by
  refine List.all_eq_true.mpr fun c hc => ?_
  have h := List.all_eq_true.mp h1 c hc
  rcases Bool.eq_false_or_eq_true (isCode c) with hi | hi
  · exact h2 c (List.mem_filter.mpr ⟨hc, hi⟩)
  · simpa [hi] using h
set_option maxRecDepth 65536 in
theorem w_c0 : (Jvm.Cond.code x code maxLocals ret).before args0 about1 = true := code_word (m := ⟨1, 1⟩) (meth := k1m1) (c := k1c1) (by decide +kernel) rfl rfl rfl (by decide +kernel)
set_option maxRecDepth 65536 in
theorem w_c1 : (Jvm.Cond.code ({ cls := "com/example/lambro/lambro/IntRows", name := "<init>", desc := "([I[I)V" } : Jvm.MethodName) prog_31_method_1_code (3 : Nat) (Option.none : Option Jvm.ClassFile.FieldType)).before args0 about1 = true := code_word (m := ⟨2, 0⟩) (meth := k2m0) (c := k2c0) (by decide +kernel) rfl rfl rfl (by decide +kernel)
set_option maxRecDepth 65536 in
theorem w_c2 : (Jvm.Cond.code ({ cls := "java/lang/Object", name := "<init>", desc := "()V" } : Jvm.MethodName) object_method_1_code (1 : Nat) (Option.none : Option Jvm.ClassFile.FieldType)).before args0 about1 = true := code_word (m := ⟨0, 0⟩) (meth := k0m0) (c := k0c0) (by decide +kernel) rfl rfl rfl (by decide +kernel)
set_option maxRecDepth 65536 in
theorem w_c3 : (Jvm.Cond.code ({ cls := "com/example/lambro/lambro/IntRows", name := "rows", desc := "()I" } : Jvm.MethodName) prog_31_method_4_code (1 : Nat) (Option.some Jvm.ClassFile.FieldType.int)).before args0 about1 = true := code_word (m := ⟨2, 1⟩) (meth := k2m1) (c := k2c1) (by decide +kernel) rfl rfl rfl (by decide +kernel)
set_option maxRecDepth 65536 in
theorem w_c4 : (Jvm.Cond.code ({ cls := "com/example/lambro/lambro/IntRows", name := "count", desc := "()I" } : Jvm.MethodName) prog_31_method_5_code (1 : Nat) (Option.some Jvm.ClassFile.FieldType.int)).before args0 about1 = true := code_word (m := ⟨2, 2⟩) (meth := k2m2) (c := k2c2) (by decide +kernel) rfl rfl rfl (by decide +kernel)
def codes1 : List Jvm.Cond := [Jvm.Cond.code x code maxLocals ret, Jvm.Cond.code ({ cls := "com/example/lambro/lambro/IntRows", name := "<init>", desc := "([I[I)V" } : Jvm.MethodName) prog_31_method_1_code (3 : Nat) (Option.none : Option Jvm.ClassFile.FieldType), Jvm.Cond.code ({ cls := "java/lang/Object", name := "<init>", desc := "()V" } : Jvm.MethodName) object_method_1_code (1 : Nat) (Option.none : Option Jvm.ClassFile.FieldType), Jvm.Cond.code ({ cls := "com/example/lambro/lambro/IntRows", name := "rows", desc := "()I" } : Jvm.MethodName) prog_31_method_4_code (1 : Nat) (Option.some Jvm.ClassFile.FieldType.int), Jvm.Cond.code ({ cls := "com/example/lambro/lambro/IntRows", name := "count", desc := "()I" } : Jvm.MethodName) prog_31_method_5_code (1 : Nat) (Option.some Jvm.ClassFile.FieldType.int)]
set_option maxRecDepth 65536 in
theorem codes_eq : words1.filter isCode = codes1 := rfl
theorem w_codes : ∀ c ∈ words1.filter isCode, c.before args0 about1 = true := by
  rw [codes_eq]
  intro c hc
  simp only [codes1, List.mem_cons, List.not_mem_nil, or_false] at hc
  rcases hc with rfl | rfl | rfl | rfl | rfl
  · exact w_c0
  · exact w_c1
  · exact w_c2
  · exact w_c3
  · exact w_c4
set_option maxRecDepth 65536 in
theorem w_t1 : (words1.take 24).all (fun c => isCode c || c.before args0 about1) = true := by decide +kernel
set_option maxRecDepth 65536 in
theorem w_t2 : (words1.drop 24).all (fun c => isCode c || c.before args0 about1) = true := by decide +kernel
theorem w_tables : (allAtoms (Jvm.Cond.code x code maxLocals ret :: tables_1)).before args0 about1 = true := by
  rw [allAtoms_all]
  show words1.all (fun c => c.before args0 about1) = true
  refine all_split ?_ w_codes
  rw [← List.take_append_drop 24 words1, List.all_append, w_t1, w_t2]
  rfl
set_option maxRecDepth 65536 in
theorem w_case : (Jvm.Cond.and given_1 narrow_1).before args0 about1 = true := by decide +kernel
theorem w_applies : (headSpec (Jvm.Cond.code x code maxLocals ret :: tables_1) room_1).applies x e0.platform about1 = true :=
  (Spec.applies_iff w_frames).mpr ⟨w_running, w_runnable, w_alone, w_named, w_hears, w_ripe, w_room, w_tables⟩
theorem atStart : AtStart classFile x code maxLocals ret World_1 tables_1 room_1 Calls_1 rest_1 Pre_1 launch0 p0 e0 about1 theMethod args0 below0 :=
  ⟨lists_1, trivial, launch0.admits_env _ _ _, launch0.least_env, fairChoices_fair.cas, fairChoices_fair.clock, w_frames, w_args, w_heap, w_applies, trivial, trivial, w_case⟩
end start1
theorem witness_1 : WitnessClaimed_1 := ⟨start1.p0, start1.e0, start1.about1, start1.theMethod, start1.args0, start1.below0, start1.atStart⟩
end Jvm.Pilot.@@N@@
