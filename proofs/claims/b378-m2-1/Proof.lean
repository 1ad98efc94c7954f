import JvmDerived
import JvmDerived.Pilot.@@N@@Statement
import JvmDerived.Pilot.@@N@@Code
set_option linter.unusedVariables false
set_option linter.unusedSimpArgs false
namespace Jvm.RoadKit
open Sem ClassFile Op Lib Jvm.Stand Jvm.Free Jvm.LawKit
section New
variable {p : Program} {l : Launch} {e : Env} {R : Room} {s : State} {m : MethodId} {args : Array Value} {below : List Frame} {meth : Method} {c : Code} {T : State} {locs : List Loc} {cells slots : Nat}
theorem retI (X : Stand p l e R s m args below meth c T locs cells slots) (hx : p.tables.exec = Jvm.exec) {pc : Nat} {Ls : Array Slot} {z : Int32} {rest : List Value} (hret : meth.sig.returnType = some .int) (hd : decode c.code pc = .ok (.ireturn, 1)) {fs : List Frame}
    (hl : ∀ (f : JFrame) (acts : List Action), f.method = m → f.locked = none → f.entered = [] → (doReturn e (T.setTop f) acts (some (.int z))).1 = T.setFrames fs) : Steps p.tables e below (T.setTop (mkF m pc Ls (.int z :: rest))) (T.setFrames fs) := by
  have hm' : T.vm.method? m = some meth := X.method'
  have hn : narrow .int (.int z) = .int z := rfl
  show Steps p.tables e below (T.setTop { method := m, pc := pc, locals := Ls, stack := _ :: rest, locked := none }) _
  jvm_step X.here [X.here.top, hx, hd, hm', hret, hn]
  first | (intro acts; rw [hl _ acts rfl rfl rfl]) | rw [hl _ _ rfl rfl rfl]
  exact Steps.refl _
theorem retJ (X : Stand p l e R s m args below meth c T locs cells slots) (hx : p.tables.exec = Jvm.exec) {pc : Nat} {Ls : Array Slot} {z : Int64} {rest : List Value} (hret : meth.sig.returnType = some .long) (hd : decode c.code pc = .ok (.lreturn, 1)) {fs : List Frame}
    (hl : ∀ (f : JFrame) (acts : List Action), f.method = m → f.locked = none → f.entered = [] → (doReturn e (T.setTop f) acts (some (.long z))).1 = T.setFrames fs) : Steps p.tables e below (T.setTop (mkF m pc Ls (.long z :: rest))) (T.setFrames fs) :=
  retOut X hx hret rfl (Or.inr (Or.inl ⟨rfl, rfl, z, rfl⟩)) hd hl
theorem retA (X : Stand p l e R s m args below meth c T locs cells slots) (hx : p.tables.exec = Jvm.exec) {pc : Nat} {Ls : Array Slot} {a : Addr} {t : FieldType} {rest : List Value} (hret : meth.sig.returnType = some t) (ht : t.isReference = true) (hd : decode c.code pc = .ok (.areturn, 1)) {fs : List Frame}
    (hl : ∀ (f : JFrame) (acts : List Action), f.method = m → f.locked = none → f.entered = [] → (doReturn e (T.setTop f) acts (some (.ref a))).1 = T.setFrames fs) : Steps p.tables e below (T.setTop (mkF m pc Ls (.ref a :: rest))) (T.setFrames fs) :=
  retOut X hx hret (by cases t <;> first | rfl | (simp [FieldType.isReference] at ht)) (Or.inr (Or.inr (Or.inr (Or.inr ⟨rfl, ht, rfl⟩)))) hd hl
end New
end Jvm.RoadKit
namespace Jvm.Pilot.@@N@@
open Jvm Jvm.ClassFile Sem Op Lib Jvm.Free Jvm.Stand Jvm.LawKit Jvm.RoadKit Bundle Jvm.Pilot.@@N@@.Jvm.D
section OwnKit
variable {p : Program} {l : Launch} {e : Env} {R : Room} {s : State} {m : MethodId} {args : Array Value} {below : List Frame} {meth : Method} {c : Code} {T : State} {locs : List Loc} {cells slots : Nat} {Z : State} {h h' : Heap}
/-- one body's contract, with the walk's goal as a closed predicate K: 'go' takes a step, 'fin' leaves the method -/
theorem own_body {y : MethodName} {bytes : ByteArray} {maxL : Nat} {ret : Option FieldType} {ws : List Jvm.Cond} {rm : Room} {h0 : Heap} {Q : Option Value → Heap → List Loc → Prop} (hp : plainFor y = true)
    (body : ∀ (p : Program) (e : Env) (s : State) (m : MethodId) (below : List Frame) (meth : Method) (c : Code) (s₁ : State) (K : State → Prop),
      (∀ U U', (∀ t, Steps p.tables e below U' t → Steps p.tables e below U t) → K U' → K U) →
      (∀ {T : State} {locs : List Loc} {cells slots : Nat} {g : JFrame} (v : Option Value), Stand p l e rm s m args below meth c T locs cells slots → cells ≤ rm.cells → slots ≤ rm.slots → (ret = none → v = none) → Q v T.heap locs →
        (∀ fs, (∀ (f : JFrame) (acts : List Action), f.method = m → f.locked = none → f.entered = [] → (doReturn e (T.setTop f) acts v).1 = T.setFrames fs) → Steps p.tables e below (T.setTop g) (T.setFrames fs)) → K (T.setTop g)) →
      Stand p l e rm s m args below meth c s₁ [] 0 0 → p.tables.exec = Jvm.exec → c.code = bytes → c.maxLocals = maxL → s.vm.findClass y.cls = some m.cls → meth.name = y.name → meth.sig.returnType = ret → Z.Warmed39 s.vm → s₁.heap = h0 → K (s₁.setTop (entryFrame m args maxL))) :
    MetFree l y (head1 (Jvm.Cond.code y bytes maxL ret :: ws) rm) (fun a U => a = args ∧ Z.Warmed39 U.vm ∧ U.heap = h0) (fun _ _ _ _ _ => True) (fun _ U o U' => ∃ v L, o = .returned v ∧ Q v U'.heap L ∧ FrameEnd U o U' L rm.cells rm.slots) := by
  refine MetFree.of_bodySF hp hisR ?_
  intro p e s m args' below meth c s₁ Bd hml hP hK
  obtain ⟨rfl, hZ, hh⟩ := hP
  refine body p e s m below meth c s₁ (fun U => ∃ s₂ o, Steps p.tables e below U s₂ ∧ s₂.status = .running ∧ Ended s₂ below o ∧ ∃ v L, o = .returned v ∧ Q v s₂.heap L ∧ FrameEnd s o s₂ L rm.cells rm.slots) ?_ ?_ (Stand.of_body Bd) Bd.exec Bd.bytes hml (findClass_of_methodNamed Bd.named) (name_of_methodNamed Bd.named Bd.method).1 Bd.returns hZ (by rw [← hh, Bd.state]; rfl)
  · rintro U U' st ⟨s₂, o, h1, h2⟩
    exact ⟨s₂, o, st _ h1, h2⟩
  · intro T locs cells slots g v X hc hs hv hQ hst
    obtain ⟨fs, hr, hrun, hended, hW, hsame⟩ := X.leave (v := v) (fun q => hv (Bd.returns ▸ q))
    exact ⟨_, _, hst fs hr, hrun, hended, v, locs, rfl, hQ, ⟨_, rfl⟩, hW, hsame.mono hc hs⟩
/-! Java's shifts and the narrowing to a byte -/
def jushr (x y : Int32) : Int32 := (x.toUInt32 >>> (y &&& 31).toUInt32).toInt32
def jshl (x y : Int32) : Int32 := x <<< (y &&& 31)
def jshr (x y : Int32) : Int32 := x >>> (y &&& 31)
def jushrL (x : Int64) (y : Int32) : Int64 := (x.toUInt64 >>> (y &&& 0x3f).toInt64.toUInt64).toInt64
def jshlL (x : Int64) (y : Int32) : Int64 := x <<< (y &&& 0x3f).toInt64
def jshrL (x : Int64) (y : Int32) : Int64 := x >>> (y &&& 0x3f).toInt64
def jb (x : Int32) : Int32 := x.toInt8.toInt32
theorem own_lrem {g : JFrame} {target : State} (X : Stand p l e R s m args below meth c T locs cells slots) (hx : p.tables.exec = Jvm.exec) (hg : g.method = m) {x y : Int64} {rest : List Value} (hd : decode c.code g.pc = .ok (.lrem, 1)) (hs : g.stack = .long y :: .long x :: rest) (hy : y ≠ 0)
    (hr : Steps p.tables e below (T.setTop { g with pc := g.pc + 1, stack := .long (x % y) :: rest }) target) : Steps p.tables e below (T.setTop g) target :=
  XS.lrem X.here hx hg hd hs hy (by rw [lrem_mod]; exact hr)
theorem own_narb (x : Int32) : nar .byte (jb x) = jb x := by simp [nar, jb]
/-! an array by its length and what its places hold -/
def own_upd (f : Nat → Value) (i : Nat) (v : Value) : Nat → Value := fun j => if j = i then v else f j
theorem own_hit (f : Nat → Value) (i : Nat) (v : Value) : own_upd f i v i = v := if_pos rfl
theorem own_miss {f : Nat → Value} {i j : Nat} {v : Value} (q : j ≠ i) : own_upd f i v j = f j := if_neg q
def AF (Z : State) (h : Heap) (a : Addr) (ty : FieldType) (n : Nat) (f : Nat → Value) : Prop := n < 2 ^ 31 ∧ ∃ c : Cell, Arr Z h a c ty ∧ c.slots.size = n ∧ ∀ j, j < n → c.slots[j]? = some (f j)
theorem AF.lt {a : Addr} {ty : FieldType} {n : Nat} {f : Nat → Value} (A : AF Z h a ty n f) : a < h.size := by obtain ⟨-, c, A, -⟩ := A; exact A.lt
theorem AF.ext {a : Addr} {ty : FieldType} {n : Nat} {f : Nat → Value} (A : AF Z h a ty n f) (E : Ext h h') : AF Z h' a ty n f := by obtain ⟨q, c, A, r⟩ := A; exact ⟨q, c, A.ext E, r⟩
theorem AF.other {a b : Addr} {sl : Nat} {v : Value} {ty : FieldType} {n : Nat} {f : Nat → Value} (A : AF Z h b ty n f) (W : Wr h h' a sl v) (q : b ≠ a) : AF Z h' b ty n f := by obtain ⟨q1, c, A, r⟩ := A; exact ⟨q1, c, A.other W q, r⟩
theorem AF.keep {a : Addr} {ws : List Addr} {ty : FieldType} {n : Nat} {f : Nat → Value} (A : AF Z h a ty n f) (K : Keep h h' ws) (q : a ∉ ws) : AF Z h' a ty n f := by obtain ⟨q1, c, A, r⟩ := A; exact ⟨q1, c, ⟨K.2.1 a c A.1 q, A.2⟩, r⟩
theorem AF.congr {a : Addr} {ty : FieldType} {n : Nat} {f f' : Nat → Value} (A : AF Z h a ty n f) (q : ∀ j, j < n → f j = f' j) : AF Z h a ty n f' := by obtain ⟨q1, c, A, S, r⟩ := A; exact ⟨q1, c, A, S, fun j hj => by rw [← q j hj]; exact r j hj⟩
theorem AF.len {a : Addr} {ty : FieldType} {n : Nat} {f : Nat → Value} (A : AF Z h a ty n f) : n < 2 ^ 31 := A.1
theorem own_idx {j : Int32} {i : Nat} (hj : j.toInt = (i : Int)) : j.toNatClampNeg = i := by simp only [Int32.toNatClampNeg, hj]; omega
theorem own_in {j : Int32} {i n : Nat} {c : Cell} (S : c.slots.size = n) (hj : j.toInt = (i : Int)) (hi : i < n) : ¬ (j < 0 ∨ c.slots.size ≤ j.toNatClampNeg) := by
  rw [own_idx hj, S, Int32.lt_iff_toInt_lt, hj]
  simp only [Int32.toInt_zero]
  omega
theorem own_set {a : Addr} {ty : FieldType} {n i : Nat} {f : Nat → Value} {cl : Cell} {v : Value} (q1 : n < 2 ^ 31) (A : Arr Z h a cl ty) (S : cl.slots.size = n) (H : ∀ j, j < n → cl.slots[j]? = some (f j)) (W : Wr h h' a i v) (hi : i < n) : AF Z h' a ty n (own_upd f i v) := by
  refine ⟨q1, _, A.same W, by rw [sz_set]; exact S, fun j hj => ?_⟩
  simp only [Cell.setSlot, own_upd]
  by_cases q : j = i
  · subst q; rw [if_pos rfl]; simp [S, hj]
  · rw [if_neg q, Array.getElem?_setIfInBounds_ne (fun z => q z.symm)]; exact H j hj
theorem own_stI (X : Stand p l e R s m args below meth c T locs cells slots) (hx : p.tables.exec = Jvm.exec) (hZ : Z.Warmed39 s.vm) (eT : T.heap = h) {a : Addr} {n i : Nat} {f : Nat → Value} (A : AF Z h a .int n f) {j x : Int32} (hj : j.toInt = (i : Int)) (hi : i < n) {g : JFrame} (hg : g.method = m) {rest : List Value} (hs : g.stack = .int x :: .int j :: .ref a :: rest) (hd : decode c.code g.pc = .ok (.iastore, 1)) :
    ∃ T' h', Stand p l e R s m args below meth c T' (locs ++ [⟨a, i⟩]) cells slots ∧ T'.heap = h' ∧ Wr h h' a i (.int x) ∧ AF Z h' a .int n (own_upd f i (.int x)) ∧ ∀ target, Steps p.tables e below (T'.setTop { g with pc := g.pc + 1, stack := rest }) target → Steps p.tables e below (T.setTop g) target := by
  obtain ⟨q1, cl, Ar, S, H⟩ := A
  obtain ⟨T', h', X', e', W, st⟩ := stI X hx hZ eT Ar (j := j) (own_in S hj hi) hg hs hd
  rw [own_idx hj] at X' W
  exact ⟨T', h', X', e', W, own_set q1 Ar S H W hi, st⟩
theorem own_stJ (X : Stand p l e R s m args below meth c T locs cells slots) (hx : p.tables.exec = Jvm.exec) (hZ : Z.Warmed39 s.vm) (eT : T.heap = h) {a : Addr} {n i : Nat} {f : Nat → Value} (A : AF Z h a .long n f) {j : Int32} {x : Int64} (hj : j.toInt = (i : Int)) (hi : i < n) {g : JFrame} (hg : g.method = m) {rest : List Value} (hs : g.stack = .long x :: .int j :: .ref a :: rest) (hd : decode c.code g.pc = .ok (.lastore, 1)) :
    ∃ T' h', Stand p l e R s m args below meth c T' (locs ++ [⟨a, i⟩]) cells slots ∧ T'.heap = h' ∧ Wr h h' a i (.long x) ∧ AF Z h' a .long n (own_upd f i (.long x)) ∧ ∀ target, Steps p.tables e below (T'.setTop { g with pc := g.pc + 1, stack := rest }) target → Steps p.tables e below (T.setTop g) target := by
  obtain ⟨q1, cl, Ar, S, H⟩ := A
  obtain ⟨T', h', X', e', W, st⟩ := stJ X hx hZ eT Ar (j := j) (own_in S hj hi) hg hs hd
  rw [own_idx hj] at X' W
  exact ⟨T', h', X', e', W, own_set q1 Ar S H W hi, st⟩
theorem own_stB (X : Stand p l e R s m args below meth c T locs cells slots) (hx : p.tables.exec = Jvm.exec) (hZ : Z.Warmed39 s.vm) (eT : T.heap = h) {a : Addr} {n i : Nat} {f : Nat → Value} (A : AF Z h a .byte n f) {j x : Int32} (hj : j.toInt = (i : Int)) (hi : i < n) (hn : nar .byte x = x) {g : JFrame} (hg : g.method = m) {rest : List Value} (hs : g.stack = .int x :: .int j :: .ref a :: rest) (hd : decode c.code g.pc = .ok (.bastore, 1)) :
    ∃ T' h', Stand p l e R s m args below meth c T' (locs ++ [⟨a, i⟩]) cells slots ∧ T'.heap = h' ∧ Wr h h' a i (.int x) ∧ AF Z h' a .byte n (own_upd f i (.int x)) ∧ ∀ target, Steps p.tables e below (T'.setTop { g with pc := g.pc + 1, stack := rest }) target → Steps p.tables e below (T.setTop g) target := by
  obtain ⟨q1, cl, Ar, S, H⟩ := A
  obtain ⟨T', h', X', e', W, st⟩ := stB X hx hZ eT Ar (j := j) (own_in S hj hi) hg hs hd
  rw [own_idx hj] at X' W
  rw [hn] at W
  exact ⟨T', h', X', e', W, own_set q1 Ar S H W hi, st⟩
theorem own_new (X : Stand p l e R s m args below meth c T locs cells slots) (hx : p.tables.exec = Jvm.exec) (hZ : Z.Warmed39 s.vm) {a0 : Array Value} {aty : ArrayType} (w : (Cond.arrayClass (newarray.typeOf aty)).before a0 Z = true) (eT : T.heap = h) {g : JFrame} (hg : g.method = m) (hd : decode c.code g.pc = .ok (.newarray aty, 2)) {n : Int32} {rest : List Value} (hs : g.stack = .int n :: rest)
    {k : Nat} (hn : n.toInt = (k : Int)) (cap : Nat) (hcap : k ≤ cap) (hb : cap * 8 ≤ 536870912) (hc : cells + 1 ≤ R.cells) (hl : slots + cap ≤ R.slots) :
    ∃ T' h' a, Stand p l e R s m args below meth c T' locs (cells + 1) (slots + cap) ∧ T'.heap = h' ∧ Ext h h' ∧ a = h.size ∧ AF Z h' a (newarray.typeOf aty) k (fun _ => defaultValue (newarray.typeOf aty)) ∧
      ∀ target, Steps p.tables e below (T'.setTop { g with pc := g.pc + 2, stack := .ref a :: rest }) target → Steps p.tables e below (T.setTop g) target := by
  have hn0 : ¬ n < 0 := by rw [Int32.lt_iff_toInt_lt, hn]; simp only [Int32.toInt_zero]; omega
  have hk : n.toNatClampNeg = k := own_idx hn
  have hk31 : k < 2 ^ 31 := by have := n.toInt_lt; omega
  obtain ⟨T', h', cA, X', e', E, A, st⟩ := newP X hx hZ w eT hg hd hs hn0 (by rw [hk]; exact hcap) hb hc hl
  refine ⟨T', h', h.size, X', e', E, rfl, ⟨hk31, _, A, by rw [sz_new, hk], fun j hj => ?_⟩, st⟩
  simp [newA, hk, hj]
theorem own_ldI (X : Stand p l e R s m args below meth c T locs cells slots) (hx : p.tables.exec = Jvm.exec) (hZ : Z.Warmed39 s.vm) (eT : T.heap = h) {a : Addr} {n i : Nat} {f : Nat → Value} (A : AF Z h a .int n f) {j : Int32} (hj : j.toInt = (i : Int)) (hi : i < n) {g : JFrame} (hg : g.method = m) {rest : List Value} (hs : g.stack = .int j :: .ref a :: rest) (hd : decode c.code g.pc = .ok (.iaload, 1)) {v : Value} (hv : f i = v) (target : State)
    (hr : Steps p.tables e below (T.setTop { g with pc := g.pc + 1, stack := v :: rest }) target) : Steps p.tables e below (T.setTop g) target := by
  obtain ⟨-, cl, Ar, S, H⟩ := A
  exact X.iaload hx (j := j) (v := v) (by rw [eT]; exact Ar.1) (State.isArrayOf_alike hZ.alike Ar.2.1) Ar.2.2 (own_in S hj hi) (by rw [own_idx hj, ← hv]; exact H i hi) hg hs hd target hr
theorem own_ldJ (X : Stand p l e R s m args below meth c T locs cells slots) (hx : p.tables.exec = Jvm.exec) (hZ : Z.Warmed39 s.vm) (eT : T.heap = h) {a : Addr} {n i : Nat} {f : Nat → Value} (A : AF Z h a .long n f) {j : Int32} (hj : j.toInt = (i : Int)) (hi : i < n) {g : JFrame} (hg : g.method = m) {rest : List Value} (hs : g.stack = .int j :: .ref a :: rest) (hd : decode c.code g.pc = .ok (.laload, 1)) {v : Value} (hv : f i = v) (target : State)
    (hr : Steps p.tables e below (T.setTop { g with pc := g.pc + 1, stack := v :: rest }) target) : Steps p.tables e below (T.setTop g) target := by
  obtain ⟨-, cl, Ar, S, H⟩ := A
  exact X.laload hx (j := j) (v := v) (by rw [eT]; exact Ar.1) (State.isArrayOf_alike hZ.alike Ar.2.1) Ar.2.2 (own_in S hj hi) (by rw [own_idx hj, ← hv]; exact H i hi) hg hs hd target hr
theorem own_ldB (X : Stand p l e R s m args below meth c T locs cells slots) (hx : p.tables.exec = Jvm.exec) (hZ : Z.Warmed39 s.vm) (eT : T.heap = h) {a : Addr} {n i : Nat} {f : Nat → Value} (A : AF Z h a .byte n f) {j : Int32} (hj : j.toInt = (i : Int)) (hi : i < n) {g : JFrame} (hg : g.method = m) {rest : List Value} (hs : g.stack = .int j :: .ref a :: rest) (hd : decode c.code g.pc = .ok (.baload, 1)) {v : Value} (hv : f i = v) (target : State)
    (hr : Steps p.tables e below (T.setTop { g with pc := g.pc + 1, stack := v :: rest }) target) : Steps p.tables e below (T.setTop g) target := by
  obtain ⟨-, cl, Ar, S, H⟩ := A
  exact X.baloadBytes hx (j := j) (v := v) (by rw [eT]; exact Ar.1) (State.isArrayOf_alike hZ.alike Ar.2.1) Ar.2.2 (own_in S hj hi) (by rw [own_idx hj, ← hv]; exact H i hi) hg hs hd target hr
theorem own_len (X : Stand p l e R s m args below meth c T locs cells slots) (hx : p.tables.exec = Jvm.exec) (hZ : Z.Warmed39 s.vm) (eT : T.heap = h) {a : Addr} {ty : FieldType} {n : Nat} {f : Nat → Value} (A : AF Z h a ty n f) {g : JFrame} (hg : g.method = m) {rest : List Value} (hs : g.stack = .ref a :: rest) (hd : decode c.code g.pc = .ok (.arraylength, 1)) (target : State)
    (hr : Steps p.tables e below (T.setTop { g with pc := g.pc + 1, stack := .int (Int32.ofNat n) :: rest }) target) : Steps p.tables e below (T.setTop g) target := by
  obtain ⟨-, cl, Ar, S, H⟩ := A
  refine X.arraylength hx (by rw [eT]; exact Ar.1) (State.isArrayOf_alike hZ.alike Ar.2.1) hg hs hd target ?_
  rw [S]; exact hr
end OwnKit
theorem pd_1 : parseMethodDescriptor "(J)V" = some ⟨[.long], none⟩ := by decide +kernel
theorem pd_2 : parseMethodDescriptor "()J" = some ⟨[], some .long⟩ := by decide +kernel
theorem pd_3 : parseMethodDescriptor "(J)J" = some ⟨[.long], some .long⟩ := by decide +kernel
theorem d1_0 : decode prog_99_method_1_code 0 = .ok (.aload_n 0, 1) := by decide +kernel
theorem d1_1 : decode prog_99_method_1_code 1 = .ok (.invokespecial 1, 3) := by decide +kernel
theorem d1_4 : decode prog_99_method_1_code 4 = .ok (.aload_n 0, 1) := by decide +kernel
theorem d1_5 : decode prog_99_method_1_code 5 = .ok (.lload_n 1, 1) := by decide +kernel
theorem d1_6 : decode prog_99_method_1_code 6 = .ok (.putfield 7, 3) := by decide +kernel
theorem d1_9 : decode prog_99_method_1_code 9 = .ok (.return_, 1) := by decide +kernel
theorem pn_5 : plainName "com/example/bogus_tally/bogustally/generate/SeededRandom" = true := by first | (simp [plainName, overriddenIn]; done) | decide +kernel
theorem ef_rm1 (m : MethodId) (a1 : Addr) (q1 : Int64) : entryFrame m #[(.ref a1), (.long q1)] 3 = mkF m 0 #[.val (.ref a1), .val (.long q1), .second] [] := by first | (simp [entryFrame, mkF, argsToLocals, Value.category]; done) | rfl
def Q_rm1 (Z : State) (a1 : Addr) (q1 : Int64) (h0 : Heap) (n0 : Nat) (v : Option Value) (h : Heap) (L : List Loc) : Prop := v = none ∧ Fr n0 L ∧ Keep h0 h [a1] ∧ Exa Z h a1 "com/example/bogus_tally/bogustally/generate/SeededRandom" ∧ Fld Z h a1 "com/example/bogus_tally/bogustally/generate/SeededRandom" "state" "J" (.long q1)
set_option maxRecDepth 65536 in
set_option maxHeartbeats 40000000 in
theorem rm1 (l : Launch) (Z : State) (a0 : Array Value) (hw : ∀ d ∈ tables_1, d.before a0 Z = true) (ws : List Jvm.Cond) (a1 : Addr) (q1 : Int64) (h0 : Heap) (n0 : Nat) (Z0 : n0 ≤ h0.size) (F0 : Fld Z h0 a1 "com/example/bogus_tally/bogustally/generate/SeededRandom" "state" "J" (.long 0)) (E0 : Exa Z h0 a1 "com/example/bogus_tally/bogustally/generate/SeededRandom") (g0 : n0 ≤ a1) :
    MetFree l (⟨"com/example/bogus_tally/bogustally/generate/SeededRandom", "<init>", "(J)V"⟩ : MethodName) (head1 (Jvm.Cond.code (⟨"com/example/bogus_tally/bogustally/generate/SeededRandom", "<init>", "(J)V"⟩ : MethodName) prog_99_method_1_code 3 none :: ws) ({ frames := 1, cells := 0, slots := 0, locals := 12 } : Room)) (fun a U => a = #[(.ref a1), (.long q1)] ∧ Z.Warmed39 U.vm ∧ U.heap = h0) (fun _ _ _ _ _ => True) (fun _ U o U' => ∃ v L, o = .returned v ∧ Q_rm1 Z a1 q1 h0 n0 v U'.heap L ∧ FrameEnd U o U' L ({ frames := 1, cells := 0, slots := 0, locals := 12 } : Room).cells ({ frames := 1, cells := 0, slots := 0, locals := 12 } : Room).slots) := by
  refine own_body (Q := Q_rm1 Z a1 q1 h0 n0) (plainFor_of_name pn_5) ?_
  intro p e s m below meth c s₁ K go fin X0 hx hby hml hown hnm hret hZ e0
  have hown : s.vm.findClass "com/example/bogus_tally/bogustally/generate/SeededRandom" = some m.cls := hown
  have N0 := Fr.nil n0
  have K0 : Keep h0 h0 [a1] := Keep.refl h0 _
  refine go _ (s₁.setTop (mkF m 0 #[.val (.ref a1), .val (.long q1), .second] [])) (fun t k => castTop (ef_rm1 m a1 q1) k) ?_
  refine go _ (s₁.setTop (mkF m 1 #[.val (.ref a1), .val (.long q1), .second] [(.ref a1)])) (fun t k => XS.aloadN X0.here hx rfl (hb hby d1_0) rfl rfl k) ?_
  obtain ⟨T1, X1, e1, st1⟩ := initO X0 hx hZ hown (hw _ (List.mem_of_getElem? (i := 6) rfl)) (hw _ (List.mem_of_getElem? (i := 7) rfl)) (hw _ (List.mem_of_getElem? (i := 8) rfl)) e0 (g := (mkF m 1 #[.val (.ref a1), .val (.long q1), .second] [(.ref a1)])) rfl (by rw [hml]; rfl) rfl (hb hby d1_1) (by decide) (W := 0) (by show 2 * 0 + _ ≤ _; exact Nat.le_of_eq rfl) (by decide)
  refine go _ (T1.setTop (mkF m 4 #[.val (.ref a1), .val (.long q1), .second] [])) (st1) ?_
  refine go _ (T1.setTop (mkF m 5 #[.val (.ref a1), .val (.long q1), .second] [(.ref a1)])) (fun t k => XS.aloadN X1.here hx rfl (hb hby d1_4) rfl rfl k) ?_
  refine go _ (T1.setTop (mkF m 6 #[.val (.ref a1), .val (.long q1), .second] [(.long q1), (.ref a1)])) (fun t k => XS.lloadN X1.here hx rfl (hb hby d1_5) rfl k) ?_
  obtain ⟨T2, h2, X2, e2, W2, st2⟩ := putF X1 hx hZ hown (host := "") (Or.inl (hw _ (List.mem_of_getElem? (i := 9) rfl))) Via.refl e1 F0 E0 (Or.inl (hw _ (List.mem_of_getElem? (i := 10) rfl))) (hw _ (List.mem_of_getElem? (i := 1) rfl)) (ty := .long) (by decide) rfl rfl (g := (mkF m 6 #[.val (.ref a1), .val (.long q1), .second] [(.long q1), (.ref a1)])) rfl rfl (hb hby d1_6)
  have Fw2 := F0.same W2
  have B3 := E0.wr W2
  have Z4 : n0 ≤ h2.size := by rw [W2.size]; exact Z0
  have N5 := Fr.snoc X2 N0 g0
  have K6 := K0.wr W2 (Or.inl (by simp))
  refine go _ (T2.setTop (mkF m 9 #[.val (.ref a1), .val (.long q1), .second] [])) (st2) ?_
  exact fin none X2 (by decide) (by decide) (fun _ => rfl) (show Q_rm1 Z a1 q1 h0 n0 _ T2.heap _ from (by rw [e2]; exact ⟨rfl, N5, K6, B3, Fw2⟩)) (fun fs hr => X2.returnOut hx hret (hb hby d1_9) hr)
theorem d3_0 : decode prog_99_method_2_code 0 = .ok (.aload_n 0, 1) := by decide +kernel
theorem d3_1 : decode prog_99_method_2_code 1 = .ok (.dup, 1) := by decide +kernel
theorem d3_2 : decode prog_99_method_2_code 2 = .ok (.getfield 7, 3) := by decide +kernel
theorem d3_5 : decode prog_99_method_2_code 5 = .ok (.ldc2_w 13, 3) := by decide +kernel
theorem d3_8 : decode prog_99_method_2_code 8 = .ok (.ladd, 1) := by decide +kernel
theorem d3_9 : decode prog_99_method_2_code 9 = .ok (.putfield 7, 3) := by decide +kernel
theorem d3_12 : decode prog_99_method_2_code 12 = .ok (.aload_n 0, 1) := by decide +kernel
theorem d3_13 : decode prog_99_method_2_code 13 = .ok (.getfield 7, 3) := by decide +kernel
theorem d3_16 : decode prog_99_method_2_code 16 = .ok (.lstore_n 1, 1) := by decide +kernel
theorem d3_17 : decode prog_99_method_2_code 17 = .ok (.lload_n 1, 1) := by decide +kernel
theorem d3_18 : decode prog_99_method_2_code 18 = .ok (.lload_n 1, 1) := by decide +kernel
theorem d3_19 : decode prog_99_method_2_code 19 = .ok (.bipush 30, 2) := by decide +kernel
theorem d3_21 : decode prog_99_method_2_code 21 = .ok (.lushr, 1) := by decide +kernel
theorem d3_22 : decode prog_99_method_2_code 22 = .ok (.lxor, 1) := by decide +kernel
theorem d3_23 : decode prog_99_method_2_code 23 = .ok (.ldc2_w 15, 3) := by decide +kernel
theorem d3_26 : decode prog_99_method_2_code 26 = .ok (.lmul, 1) := by decide +kernel
theorem d3_27 : decode prog_99_method_2_code 27 = .ok (.lstore_n 1, 1) := by decide +kernel
theorem d3_28 : decode prog_99_method_2_code 28 = .ok (.lload_n 1, 1) := by decide +kernel
theorem d3_29 : decode prog_99_method_2_code 29 = .ok (.lload_n 1, 1) := by decide +kernel
theorem d3_30 : decode prog_99_method_2_code 30 = .ok (.bipush 27, 2) := by decide +kernel
theorem d3_32 : decode prog_99_method_2_code 32 = .ok (.lushr, 1) := by decide +kernel
theorem d3_33 : decode prog_99_method_2_code 33 = .ok (.lxor, 1) := by decide +kernel
theorem d3_34 : decode prog_99_method_2_code 34 = .ok (.ldc2_w 17, 3) := by decide +kernel
theorem d3_37 : decode prog_99_method_2_code 37 = .ok (.lmul, 1) := by decide +kernel
theorem d3_38 : decode prog_99_method_2_code 38 = .ok (.lstore_n 1, 1) := by decide +kernel
theorem d3_39 : decode prog_99_method_2_code 39 = .ok (.lload_n 1, 1) := by decide +kernel
theorem d3_40 : decode prog_99_method_2_code 40 = .ok (.lload_n 1, 1) := by decide +kernel
theorem d3_41 : decode prog_99_method_2_code 41 = .ok (.bipush 31, 2) := by decide +kernel
theorem d3_43 : decode prog_99_method_2_code 43 = .ok (.lushr, 1) := by decide +kernel
theorem d3_44 : decode prog_99_method_2_code 44 = .ok (.lxor, 1) := by decide +kernel
theorem d3_45 : decode prog_99_method_2_code 45 = .ok (.lreturn, 1) := by decide +kernel
theorem ef_rm3 (m : MethodId) (a1 : Addr) : entryFrame m #[(.ref a1)] 3 = mkF m 0 #[.val (.ref a1), .unset, .unset] [] := by first | (simp [entryFrame, mkF, argsToLocals, Value.category]; done) | rfl
def v_rm3_0 (q1 : Int64) : Int64 := (((q1 + (-7046029254386353131 : Int64)) ^^^ (jushrL (q1 + (-7046029254386353131 : Int64)) (30 : Int32))) * (-4658895280553007687 : Int64))
def v_rm3_1 (q1 : Int64) : Int64 := (((v_rm3_0 q1) ^^^ (jushrL (v_rm3_0 q1) (27 : Int32))) * (-7723592293110705685 : Int64))
def f_next (q1 : Int64) : Int64 := ((v_rm3_1 q1) ^^^ (jushrL (v_rm3_1 q1) (31 : Int32)))
def Q_rm3 (Z : State) (a1 : Addr) (q1 : Int64) (h0 : Heap) (n0 : Nat) (v : Option Value) (h : Heap) (L : List Loc) : Prop := v = some (.long (f_next q1)) ∧ Fr n0 L ∧ Keep h0 h [a1] ∧ Exa Z h a1 "com/example/bogus_tally/bogustally/generate/SeededRandom" ∧ Fld Z h a1 "com/example/bogus_tally/bogustally/generate/SeededRandom" "state" "J" (.long (q1 + (-7046029254386353131 : Int64)))
set_option maxRecDepth 65536 in
set_option maxHeartbeats 40000000 in
theorem rm3 (l : Launch) (Z : State) (a0 : Array Value) (hw : ∀ d ∈ tables_1, d.before a0 Z = true) (ws : List Jvm.Cond) (a1 : Addr) (q1 : Int64) (h0 : Heap) (n0 : Nat) (Z0 : n0 ≤ h0.size) (F0 : Fld Z h0 a1 "com/example/bogus_tally/bogustally/generate/SeededRandom" "state" "J" (.long q1)) (E0 : Exa Z h0 a1 "com/example/bogus_tally/bogustally/generate/SeededRandom") (g0 : n0 ≤ a1) :
    MetFree l (⟨"com/example/bogus_tally/bogustally/generate/SeededRandom", "nextLong", "()J"⟩ : MethodName) (head1 (Jvm.Cond.code (⟨"com/example/bogus_tally/bogustally/generate/SeededRandom", "nextLong", "()J"⟩ : MethodName) prog_99_method_2_code 3 (some .long) :: ws) ({ frames := 0, cells := 0, slots := 0, locals := 0 } : Room)) (fun a U => a = #[(.ref a1)] ∧ Z.Warmed39 U.vm ∧ U.heap = h0) (fun _ _ _ _ _ => True) (fun _ U o U' => ∃ v L, o = .returned v ∧ Q_rm3 Z a1 q1 h0 n0 v U'.heap L ∧ FrameEnd U o U' L ({ frames := 0, cells := 0, slots := 0, locals := 0 } : Room).cells ({ frames := 0, cells := 0, slots := 0, locals := 0 } : Room).slots) := by
  refine own_body (Q := Q_rm3 Z a1 q1 h0 n0) (plainFor_of_name pn_5) ?_
  intro p e s m below meth c s₁ K go fin X0 hx hby hml hown hnm hret hZ e0
  have hown : s.vm.findClass "com/example/bogus_tally/bogustally/generate/SeededRandom" = some m.cls := hown
  have N0 := Fr.nil n0
  have K0 : Keep h0 h0 [a1] := Keep.refl h0 _
  refine go _ (s₁.setTop (mkF m 0 #[.val (.ref a1), .unset, .unset] [])) (fun t k => castTop (ef_rm3 m a1) k) ?_
  refine go _ (s₁.setTop (mkF m 1 #[.val (.ref a1), .unset, .unset] [(.ref a1)])) (fun t k => XS.aloadN X0.here hx rfl (hb hby d3_0) rfl rfl k) ?_
  refine go _ (s₁.setTop (mkF m 2 #[.val (.ref a1), .unset, .unset] [(.ref a1), (.ref a1)])) (fun t k => XS.dup X0.here hx rfl (hb hby d3_1) rfl rfl k) ?_
  obtain ⟨T7, X7, e7, st7⟩ := getF X0 hx hZ hown (host := "") (Or.inl (hw _ (List.mem_of_getElem? (i := 9) rfl))) Via.refl e0 F0 (g := (mkF m 2 #[.val (.ref a1), .unset, .unset] [(.ref a1), (.ref a1)])) rfl rfl (hb hby d3_2)
  refine go _ (T7.setTop (mkF m 5 #[.val (.ref a1), .unset, .unset] [(.long q1), (.ref a1)])) (st7) ?_
  refine go _ (T7.setTop (mkF m 8 #[.val (.ref a1), .unset, .unset] [(.long (-7046029254386353131 : Int64)), (.long q1), (.ref a1)])) (X7.ldc2Long hx hown (mvT hZ (hw _ (List.mem_of_getElem? (i := 16) rfl))) (g := (mkF m 5 #[.val (.ref a1), .unset, .unset] [(.long q1), (.ref a1)])) rfl (hb hby d3_5)) ?_
  refine go _ (T7.setTop (mkF m 9 #[.val (.ref a1), .unset, .unset] [(.long (q1 + (-7046029254386353131 : Int64))), (.ref a1)])) (fun t k => XS.ladd X7.here hx rfl (hb hby d3_8) rfl k) ?_
  obtain ⟨T8, h8, X8, e8, W8, st8⟩ := putF X7 hx hZ hown (host := "") (Or.inl (hw _ (List.mem_of_getElem? (i := 9) rfl))) Via.refl e7 F0 E0 (Or.inl (hw _ (List.mem_of_getElem? (i := 10) rfl))) (hw _ (List.mem_of_getElem? (i := 1) rfl)) (ty := .long) (by decide) rfl rfl (g := (mkF m 9 #[.val (.ref a1), .unset, .unset] [(.long (q1 + (-7046029254386353131 : Int64))), (.ref a1)])) rfl rfl (hb hby d3_9)
  have Fw8 := F0.same W8
  have B9 := E0.wr W8
  have Z10 : n0 ≤ h8.size := by rw [W8.size]; exact Z0
  have N11 := Fr.snoc X8 N0 g0
  have K12 := K0.wr W8 (Or.inl (by simp))
  refine go _ (T8.setTop (mkF m 12 #[.val (.ref a1), .unset, .unset] [])) (st8) ?_
  refine go _ (T8.setTop (mkF m 13 #[.val (.ref a1), .unset, .unset] [(.ref a1)])) (fun t k => XS.aloadN X8.here hx rfl (hb hby d3_12) rfl rfl k) ?_
  obtain ⟨T13, X13, e13, st13⟩ := getF X8 hx hZ hown (host := "") (Or.inl (hw _ (List.mem_of_getElem? (i := 9) rfl))) Via.refl e8 Fw8 (g := (mkF m 13 #[.val (.ref a1), .unset, .unset] [(.ref a1)])) rfl rfl (hb hby d3_13)
  refine go _ (T13.setTop (mkF m 16 #[.val (.ref a1), .unset, .unset] [(.long (q1 + (-7046029254386353131 : Int64)))])) (st13) ?_
  refine go _ (T13.setTop (mkF m 17 #[.val (.ref a1), .val (.long (q1 + (-7046029254386353131 : Int64))), .second] [])) (fun t k => XS.lstoreN X13.here hx rfl (hb hby d3_16) rfl (l' := #[.val (.ref a1), .val (.long (q1 + (-7046029254386353131 : Int64))), .second]) rfl k) ?_
  refine go _ (T13.setTop (mkF m 18 #[.val (.ref a1), .val (.long (q1 + (-7046029254386353131 : Int64))), .second] [(.long (q1 + (-7046029254386353131 : Int64)))])) (fun t k => XS.lloadN X13.here hx rfl (hb hby d3_17) rfl k) ?_
  refine go _ (T13.setTop (mkF m 19 #[.val (.ref a1), .val (.long (q1 + (-7046029254386353131 : Int64))), .second] [(.long (q1 + (-7046029254386353131 : Int64))), (.long (q1 + (-7046029254386353131 : Int64)))])) (fun t k => XS.lloadN X13.here hx rfl (hb hby d3_18) rfl k) ?_
  refine go _ (T13.setTop (mkF m 21 #[.val (.ref a1), .val (.long (q1 + (-7046029254386353131 : Int64))), .second] [(.int (30 : Int32)), (.long (q1 + (-7046029254386353131 : Int64))), (.long (q1 + (-7046029254386353131 : Int64)))])) (fun t k => XS.bipush X13.here hx rfl (hb hby d3_19) k) ?_
  refine go _ (T13.setTop (mkF m 22 #[.val (.ref a1), .val (.long (q1 + (-7046029254386353131 : Int64))), .second] [(.long (jushrL (q1 + (-7046029254386353131 : Int64)) (30 : Int32))), (.long (q1 + (-7046029254386353131 : Int64)))])) (fun t k => XS.lushr X13.here hx rfl (hb hby d3_21) rfl k) ?_
  refine go _ (T13.setTop (mkF m 23 #[.val (.ref a1), .val (.long (q1 + (-7046029254386353131 : Int64))), .second] [(.long ((q1 + (-7046029254386353131 : Int64)) ^^^ (jushrL (q1 + (-7046029254386353131 : Int64)) (30 : Int32))))])) (fun t k => XS.lxor X13.here hx rfl (hb hby d3_22) rfl k) ?_
  refine go _ (T13.setTop (mkF m 26 #[.val (.ref a1), .val (.long (q1 + (-7046029254386353131 : Int64))), .second] [(.long (-4658895280553007687 : Int64)), (.long ((q1 + (-7046029254386353131 : Int64)) ^^^ (jushrL (q1 + (-7046029254386353131 : Int64)) (30 : Int32))))])) (X13.ldc2Long hx hown (mvT hZ (hw _ (List.mem_of_getElem? (i := 17) rfl))) (g := (mkF m 23 #[.val (.ref a1), .val (.long (q1 + (-7046029254386353131 : Int64))), .second] [(.long ((q1 + (-7046029254386353131 : Int64)) ^^^ (jushrL (q1 + (-7046029254386353131 : Int64)) (30 : Int32))))])) rfl (hb hby d3_23)) ?_
  refine go _ (T13.setTop (mkF m 27 #[.val (.ref a1), .val (.long (q1 + (-7046029254386353131 : Int64))), .second] [(.long (((q1 + (-7046029254386353131 : Int64)) ^^^ (jushrL (q1 + (-7046029254386353131 : Int64)) (30 : Int32))) * (-4658895280553007687 : Int64)))])) (fun t k => XS.lmul X13.here hx rfl (hb hby d3_26) rfl k) ?_
  refine go _ (T13.setTop (mkF m 28 #[.val (.ref a1), .val (.long (v_rm3_0 q1)), .second] [])) (fun t k => XS.lstoreN X13.here hx rfl (hb hby d3_27) rfl (l' := #[.val (.ref a1), .val (.long (v_rm3_0 q1)), .second]) rfl k) ?_
  refine go _ (T13.setTop (mkF m 29 #[.val (.ref a1), .val (.long (v_rm3_0 q1)), .second] [(.long (v_rm3_0 q1))])) (fun t k => XS.lloadN X13.here hx rfl (hb hby d3_28) rfl k) ?_
  refine go _ (T13.setTop (mkF m 30 #[.val (.ref a1), .val (.long (v_rm3_0 q1)), .second] [(.long (v_rm3_0 q1)), (.long (v_rm3_0 q1))])) (fun t k => XS.lloadN X13.here hx rfl (hb hby d3_29) rfl k) ?_
  refine go _ (T13.setTop (mkF m 32 #[.val (.ref a1), .val (.long (v_rm3_0 q1)), .second] [(.int (27 : Int32)), (.long (v_rm3_0 q1)), (.long (v_rm3_0 q1))])) (fun t k => XS.bipush X13.here hx rfl (hb hby d3_30) k) ?_
  refine go _ (T13.setTop (mkF m 33 #[.val (.ref a1), .val (.long (v_rm3_0 q1)), .second] [(.long (jushrL (v_rm3_0 q1) (27 : Int32))), (.long (v_rm3_0 q1))])) (fun t k => XS.lushr X13.here hx rfl (hb hby d3_32) rfl k) ?_
  refine go _ (T13.setTop (mkF m 34 #[.val (.ref a1), .val (.long (v_rm3_0 q1)), .second] [(.long ((v_rm3_0 q1) ^^^ (jushrL (v_rm3_0 q1) (27 : Int32))))])) (fun t k => XS.lxor X13.here hx rfl (hb hby d3_33) rfl k) ?_
  refine go _ (T13.setTop (mkF m 37 #[.val (.ref a1), .val (.long (v_rm3_0 q1)), .second] [(.long (-7723592293110705685 : Int64)), (.long ((v_rm3_0 q1) ^^^ (jushrL (v_rm3_0 q1) (27 : Int32))))])) (X13.ldc2Long hx hown (mvT hZ (hw _ (List.mem_of_getElem? (i := 18) rfl))) (g := (mkF m 34 #[.val (.ref a1), .val (.long (v_rm3_0 q1)), .second] [(.long ((v_rm3_0 q1) ^^^ (jushrL (v_rm3_0 q1) (27 : Int32))))])) rfl (hb hby d3_34)) ?_
  refine go _ (T13.setTop (mkF m 38 #[.val (.ref a1), .val (.long (v_rm3_0 q1)), .second] [(.long (((v_rm3_0 q1) ^^^ (jushrL (v_rm3_0 q1) (27 : Int32))) * (-7723592293110705685 : Int64)))])) (fun t k => XS.lmul X13.here hx rfl (hb hby d3_37) rfl k) ?_
  refine go _ (T13.setTop (mkF m 39 #[.val (.ref a1), .val (.long (v_rm3_1 q1)), .second] [])) (fun t k => XS.lstoreN X13.here hx rfl (hb hby d3_38) rfl (l' := #[.val (.ref a1), .val (.long (v_rm3_1 q1)), .second]) rfl k) ?_
  refine go _ (T13.setTop (mkF m 40 #[.val (.ref a1), .val (.long (v_rm3_1 q1)), .second] [(.long (v_rm3_1 q1))])) (fun t k => XS.lloadN X13.here hx rfl (hb hby d3_39) rfl k) ?_
  refine go _ (T13.setTop (mkF m 41 #[.val (.ref a1), .val (.long (v_rm3_1 q1)), .second] [(.long (v_rm3_1 q1)), (.long (v_rm3_1 q1))])) (fun t k => XS.lloadN X13.here hx rfl (hb hby d3_40) rfl k) ?_
  refine go _ (T13.setTop (mkF m 43 #[.val (.ref a1), .val (.long (v_rm3_1 q1)), .second] [(.int (31 : Int32)), (.long (v_rm3_1 q1)), (.long (v_rm3_1 q1))])) (fun t k => XS.bipush X13.here hx rfl (hb hby d3_41) k) ?_
  refine go _ (T13.setTop (mkF m 44 #[.val (.ref a1), .val (.long (v_rm3_1 q1)), .second] [(.long (jushrL (v_rm3_1 q1) (31 : Int32))), (.long (v_rm3_1 q1))])) (fun t k => XS.lushr X13.here hx rfl (hb hby d3_43) rfl k) ?_
  refine go _ (T13.setTop (mkF m 45 #[.val (.ref a1), .val (.long (v_rm3_1 q1)), .second] [(.long ((v_rm3_1 q1) ^^^ (jushrL (v_rm3_1 q1) (31 : Int32))))])) (fun t k => XS.lxor X13.here hx rfl (hb hby d3_44) rfl k) ?_
  exact fin (some (.long ((v_rm3_1 q1) ^^^ (jushrL (v_rm3_1 q1) (31 : Int32))))) X13 (by decide) (by decide) (fun q => by cases q) (show Q_rm3 Z a1 q1 h0 n0 _ T13.heap _ from (by rw [e13]; exact ⟨rfl, N11, K12, B9, Fw8⟩)) (fun fs hr => retJ X13 hx hret (hb hby d3_45) hr)
theorem d4_0 : decode method_2_code 0 = .ok (.lload_n 0, 1) := by decide +kernel
theorem d4_1 : decode method_2_code 1 = .ok (.lstore_n 2, 1) := by decide +kernel
theorem d4_2 : decode method_2_code 2 = .ok (.lload_n 2, 1) := by decide +kernel
theorem d4_3 : decode method_2_code 3 = .ok (.lload_n 2, 1) := by decide +kernel
theorem d4_4 : decode method_2_code 4 = .ok (.bipush 31, 2) := by decide +kernel
theorem d4_6 : decode method_2_code 6 = .ok (.lushr, 1) := by decide +kernel
theorem d4_7 : decode method_2_code 7 = .ok (.lxor, 1) := by decide +kernel
theorem d4_8 : decode method_2_code 8 = .ok (.lload_n 2, 1) := by decide +kernel
theorem d4_9 : decode method_2_code 9 = .ok (.bipush 62, 2) := by decide +kernel
theorem d4_11 : decode method_2_code 11 = .ok (.lushr, 1) := by decide +kernel
theorem d4_12 : decode method_2_code 12 = .ok (.lxor, 1) := by decide +kernel
theorem d4_13 : decode method_2_code 13 = .ok (.lstore_n 2, 1) := by decide +kernel
theorem d4_14 : decode method_2_code 14 = .ok (.lload_n 2, 1) := by decide +kernel
theorem d4_15 : decode method_2_code 15 = .ok (.ldc2_w 7, 3) := by decide +kernel
theorem d4_18 : decode method_2_code 18 = .ok (.lmul, 1) := by decide +kernel
theorem d4_19 : decode method_2_code 19 = .ok (.lstore_n 2, 1) := by decide +kernel
theorem d4_20 : decode method_2_code 20 = .ok (.lload_n 2, 1) := by decide +kernel
theorem d4_21 : decode method_2_code 21 = .ok (.lload_n 2, 1) := by decide +kernel
theorem d4_22 : decode method_2_code 22 = .ok (.bipush 27, 2) := by decide +kernel
theorem d4_24 : decode method_2_code 24 = .ok (.lushr, 1) := by decide +kernel
theorem d4_25 : decode method_2_code 25 = .ok (.lxor, 1) := by decide +kernel
theorem d4_26 : decode method_2_code 26 = .ok (.lload_n 2, 1) := by decide +kernel
theorem d4_27 : decode method_2_code 27 = .ok (.bipush 54, 2) := by decide +kernel
theorem d4_29 : decode method_2_code 29 = .ok (.lushr, 1) := by decide +kernel
theorem d4_30 : decode method_2_code 30 = .ok (.lxor, 1) := by decide +kernel
theorem d4_31 : decode method_2_code 31 = .ok (.lstore_n 2, 1) := by decide +kernel
theorem d4_32 : decode method_2_code 32 = .ok (.lload_n 2, 1) := by decide +kernel
theorem d4_33 : decode method_2_code 33 = .ok (.ldc2_w 9, 3) := by decide +kernel
theorem d4_36 : decode method_2_code 36 = .ok (.lmul, 1) := by decide +kernel
theorem d4_37 : decode method_2_code 37 = .ok (.lstore_n 2, 1) := by decide +kernel
theorem d4_38 : decode method_2_code 38 = .ok (.lload_n 2, 1) := by decide +kernel
theorem d4_39 : decode method_2_code 39 = .ok (.lload_n 2, 1) := by decide +kernel
theorem d4_40 : decode method_2_code 40 = .ok (.bipush 30, 2) := by decide +kernel
theorem d4_42 : decode method_2_code 42 = .ok (.lushr, 1) := by decide +kernel
theorem d4_43 : decode method_2_code 43 = .ok (.lxor, 1) := by decide +kernel
theorem d4_44 : decode method_2_code 44 = .ok (.lload_n 2, 1) := by decide +kernel
theorem d4_45 : decode method_2_code 45 = .ok (.bipush 60, 2) := by decide +kernel
theorem d4_47 : decode method_2_code 47 = .ok (.lushr, 1) := by decide +kernel
theorem d4_48 : decode method_2_code 48 = .ok (.lxor, 1) := by decide +kernel
theorem d4_49 : decode method_2_code 49 = .ok (.lstore_n 2, 1) := by decide +kernel
theorem d4_50 : decode method_2_code 50 = .ok (.lload_n 2, 1) := by decide +kernel
theorem d4_51 : decode method_2_code 51 = .ok (.lreturn, 1) := by decide +kernel
theorem pn_8 : plainName "com/example/bogus_tally/bogustally/generate/SeededRandomNextLongPinLaw" = true := by first | (simp [plainName, overriddenIn]; done) | decide +kernel
theorem ef_rm4 (m : MethodId) (q1 : Int64) : entryFrame m #[(.long q1)] 4 = mkF m 0 #[.val (.long q1), .second, .unset, .unset] [] := by first | (simp [entryFrame, mkF, argsToLocals, Value.category]; done) | rfl
def v_rm4_0 (q1 : Int64) : Int64 := ((q1 ^^^ (jushrL q1 (31 : Int32))) ^^^ (jushrL q1 (62 : Int32)))
def v_rm4_1 (q1 : Int64) : Int64 := ((v_rm4_0 q1) * (3573116690164977347 : Int64))
def v_rm4_2 (q1 : Int64) : Int64 := (((v_rm4_1 q1) ^^^ (jushrL (v_rm4_1 q1) (27 : Int32))) ^^^ (jushrL (v_rm4_1 q1) (54 : Int32)))
def v_rm4_3 (q1 : Int64) : Int64 := ((v_rm4_2 q1) * (-7575587736534282103 : Int64))
def v_rm4_4 (q1 : Int64) : Int64 := (((v_rm4_3 q1) ^^^ (jushrL (v_rm4_3 q1) (30 : Int32))) ^^^ (jushrL (v_rm4_3 q1) (60 : Int32)))
def f_rm4 (q1 : Int64) : Int64 := (v_rm4_4 q1)
def Q_rm4 (Z : State) (q1 : Int64) (h0 : Heap) (n0 : Nat) (v : Option Value) (h : Heap) (L : List Loc) : Prop := v = some (.long (f_rm4 q1)) ∧ Fr n0 L ∧ h = h0
set_option maxRecDepth 65536 in
set_option maxHeartbeats 40000000 in
theorem rm4 (l : Launch) (Z : State) (a0 : Array Value) (hw : ∀ d ∈ tables_1, d.before a0 Z = true) (ws : List Jvm.Cond) (q1 : Int64) (h0 : Heap) (n0 : Nat) (Z0 : n0 ≤ h0.size)  :
    MetFree l (⟨"com/example/bogus_tally/bogustally/generate/SeededRandomNextLongPinLaw", "unmix", "(J)J"⟩ : MethodName) (head1 (Jvm.Cond.code (⟨"com/example/bogus_tally/bogustally/generate/SeededRandomNextLongPinLaw", "unmix", "(J)J"⟩ : MethodName) method_2_code 4 (some .long) :: ws) ({ frames := 0, cells := 0, slots := 0, locals := 0 } : Room)) (fun a U => a = #[(.long q1)] ∧ Z.Warmed39 U.vm ∧ U.heap = h0) (fun _ _ _ _ _ => True) (fun _ U o U' => ∃ v L, o = .returned v ∧ Q_rm4 Z q1 h0 n0 v U'.heap L ∧ FrameEnd U o U' L ({ frames := 0, cells := 0, slots := 0, locals := 0 } : Room).cells ({ frames := 0, cells := 0, slots := 0, locals := 0 } : Room).slots) := by
  refine own_body (Q := Q_rm4 Z q1 h0 n0) (plainFor_of_name pn_8) ?_
  intro p e s m below meth c s₁ K go fin X0 hx hby hml hown hnm hret hZ e0
  have hown : s.vm.findClass "com/example/bogus_tally/bogustally/generate/SeededRandomNextLongPinLaw" = some m.cls := hown
  have N0 := Fr.nil n0
  refine go _ (s₁.setTop (mkF m 0 #[.val (.long q1), .second, .unset, .unset] [])) (fun t k => castTop (ef_rm4 m q1) k) ?_
  refine go _ (s₁.setTop (mkF m 1 #[.val (.long q1), .second, .unset, .unset] [(.long q1)])) (fun t k => XS.lloadN X0.here hx rfl (hb hby d4_0) rfl k) ?_
  refine go _ (s₁.setTop (mkF m 2 #[.val (.long q1), .second, .val (.long q1), .second] [])) (fun t k => XS.lstoreN X0.here hx rfl (hb hby d4_1) rfl (l' := #[.val (.long q1), .second, .val (.long q1), .second]) rfl k) ?_
  refine go _ (s₁.setTop (mkF m 3 #[.val (.long q1), .second, .val (.long q1), .second] [(.long q1)])) (fun t k => XS.lloadN X0.here hx rfl (hb hby d4_2) rfl k) ?_
  refine go _ (s₁.setTop (mkF m 4 #[.val (.long q1), .second, .val (.long q1), .second] [(.long q1), (.long q1)])) (fun t k => XS.lloadN X0.here hx rfl (hb hby d4_3) rfl k) ?_
  refine go _ (s₁.setTop (mkF m 6 #[.val (.long q1), .second, .val (.long q1), .second] [(.int (31 : Int32)), (.long q1), (.long q1)])) (fun t k => XS.bipush X0.here hx rfl (hb hby d4_4) k) ?_
  refine go _ (s₁.setTop (mkF m 7 #[.val (.long q1), .second, .val (.long q1), .second] [(.long (jushrL q1 (31 : Int32))), (.long q1)])) (fun t k => XS.lushr X0.here hx rfl (hb hby d4_6) rfl k) ?_
  refine go _ (s₁.setTop (mkF m 8 #[.val (.long q1), .second, .val (.long q1), .second] [(.long (q1 ^^^ (jushrL q1 (31 : Int32))))])) (fun t k => XS.lxor X0.here hx rfl (hb hby d4_7) rfl k) ?_
  refine go _ (s₁.setTop (mkF m 9 #[.val (.long q1), .second, .val (.long q1), .second] [(.long q1), (.long (q1 ^^^ (jushrL q1 (31 : Int32))))])) (fun t k => XS.lloadN X0.here hx rfl (hb hby d4_8) rfl k) ?_
  refine go _ (s₁.setTop (mkF m 11 #[.val (.long q1), .second, .val (.long q1), .second] [(.int (62 : Int32)), (.long q1), (.long (q1 ^^^ (jushrL q1 (31 : Int32))))])) (fun t k => XS.bipush X0.here hx rfl (hb hby d4_9) k) ?_
  refine go _ (s₁.setTop (mkF m 12 #[.val (.long q1), .second, .val (.long q1), .second] [(.long (jushrL q1 (62 : Int32))), (.long (q1 ^^^ (jushrL q1 (31 : Int32))))])) (fun t k => XS.lushr X0.here hx rfl (hb hby d4_11) rfl k) ?_
  refine go _ (s₁.setTop (mkF m 13 #[.val (.long q1), .second, .val (.long q1), .second] [(.long ((q1 ^^^ (jushrL q1 (31 : Int32))) ^^^ (jushrL q1 (62 : Int32))))])) (fun t k => XS.lxor X0.here hx rfl (hb hby d4_12) rfl k) ?_
  refine go _ (s₁.setTop (mkF m 14 #[.val (.long q1), .second, .val (.long (v_rm4_0 q1)), .second] [])) (fun t k => XS.lstoreN X0.here hx rfl (hb hby d4_13) rfl (l' := #[.val (.long q1), .second, .val (.long (v_rm4_0 q1)), .second]) rfl k) ?_
  refine go _ (s₁.setTop (mkF m 15 #[.val (.long q1), .second, .val (.long (v_rm4_0 q1)), .second] [(.long (v_rm4_0 q1))])) (fun t k => XS.lloadN X0.here hx rfl (hb hby d4_14) rfl k) ?_
  refine go _ (s₁.setTop (mkF m 18 #[.val (.long q1), .second, .val (.long (v_rm4_0 q1)), .second] [(.long (3573116690164977347 : Int64)), (.long (v_rm4_0 q1))])) (X0.ldc2Long hx hown (mvT hZ (hw _ (List.mem_of_getElem? (i := 23) rfl))) (g := (mkF m 15 #[.val (.long q1), .second, .val (.long (v_rm4_0 q1)), .second] [(.long (v_rm4_0 q1))])) rfl (hb hby d4_15)) ?_
  refine go _ (s₁.setTop (mkF m 19 #[.val (.long q1), .second, .val (.long (v_rm4_0 q1)), .second] [(.long ((v_rm4_0 q1) * (3573116690164977347 : Int64)))])) (fun t k => XS.lmul X0.here hx rfl (hb hby d4_18) rfl k) ?_
  refine go _ (s₁.setTop (mkF m 20 #[.val (.long q1), .second, .val (.long (v_rm4_1 q1)), .second] [])) (fun t k => XS.lstoreN X0.here hx rfl (hb hby d4_19) rfl (l' := #[.val (.long q1), .second, .val (.long (v_rm4_1 q1)), .second]) rfl k) ?_
  refine go _ (s₁.setTop (mkF m 21 #[.val (.long q1), .second, .val (.long (v_rm4_1 q1)), .second] [(.long (v_rm4_1 q1))])) (fun t k => XS.lloadN X0.here hx rfl (hb hby d4_20) rfl k) ?_
  refine go _ (s₁.setTop (mkF m 22 #[.val (.long q1), .second, .val (.long (v_rm4_1 q1)), .second] [(.long (v_rm4_1 q1)), (.long (v_rm4_1 q1))])) (fun t k => XS.lloadN X0.here hx rfl (hb hby d4_21) rfl k) ?_
  refine go _ (s₁.setTop (mkF m 24 #[.val (.long q1), .second, .val (.long (v_rm4_1 q1)), .second] [(.int (27 : Int32)), (.long (v_rm4_1 q1)), (.long (v_rm4_1 q1))])) (fun t k => XS.bipush X0.here hx rfl (hb hby d4_22) k) ?_
  refine go _ (s₁.setTop (mkF m 25 #[.val (.long q1), .second, .val (.long (v_rm4_1 q1)), .second] [(.long (jushrL (v_rm4_1 q1) (27 : Int32))), (.long (v_rm4_1 q1))])) (fun t k => XS.lushr X0.here hx rfl (hb hby d4_24) rfl k) ?_
  refine go _ (s₁.setTop (mkF m 26 #[.val (.long q1), .second, .val (.long (v_rm4_1 q1)), .second] [(.long ((v_rm4_1 q1) ^^^ (jushrL (v_rm4_1 q1) (27 : Int32))))])) (fun t k => XS.lxor X0.here hx rfl (hb hby d4_25) rfl k) ?_
  refine go _ (s₁.setTop (mkF m 27 #[.val (.long q1), .second, .val (.long (v_rm4_1 q1)), .second] [(.long (v_rm4_1 q1)), (.long ((v_rm4_1 q1) ^^^ (jushrL (v_rm4_1 q1) (27 : Int32))))])) (fun t k => XS.lloadN X0.here hx rfl (hb hby d4_26) rfl k) ?_
  refine go _ (s₁.setTop (mkF m 29 #[.val (.long q1), .second, .val (.long (v_rm4_1 q1)), .second] [(.int (54 : Int32)), (.long (v_rm4_1 q1)), (.long ((v_rm4_1 q1) ^^^ (jushrL (v_rm4_1 q1) (27 : Int32))))])) (fun t k => XS.bipush X0.here hx rfl (hb hby d4_27) k) ?_
  refine go _ (s₁.setTop (mkF m 30 #[.val (.long q1), .second, .val (.long (v_rm4_1 q1)), .second] [(.long (jushrL (v_rm4_1 q1) (54 : Int32))), (.long ((v_rm4_1 q1) ^^^ (jushrL (v_rm4_1 q1) (27 : Int32))))])) (fun t k => XS.lushr X0.here hx rfl (hb hby d4_29) rfl k) ?_
  refine go _ (s₁.setTop (mkF m 31 #[.val (.long q1), .second, .val (.long (v_rm4_1 q1)), .second] [(.long (((v_rm4_1 q1) ^^^ (jushrL (v_rm4_1 q1) (27 : Int32))) ^^^ (jushrL (v_rm4_1 q1) (54 : Int32))))])) (fun t k => XS.lxor X0.here hx rfl (hb hby d4_30) rfl k) ?_
  refine go _ (s₁.setTop (mkF m 32 #[.val (.long q1), .second, .val (.long (v_rm4_2 q1)), .second] [])) (fun t k => XS.lstoreN X0.here hx rfl (hb hby d4_31) rfl (l' := #[.val (.long q1), .second, .val (.long (v_rm4_2 q1)), .second]) rfl k) ?_
  refine go _ (s₁.setTop (mkF m 33 #[.val (.long q1), .second, .val (.long (v_rm4_2 q1)), .second] [(.long (v_rm4_2 q1))])) (fun t k => XS.lloadN X0.here hx rfl (hb hby d4_32) rfl k) ?_
  refine go _ (s₁.setTop (mkF m 36 #[.val (.long q1), .second, .val (.long (v_rm4_2 q1)), .second] [(.long (-7575587736534282103 : Int64)), (.long (v_rm4_2 q1))])) (X0.ldc2Long hx hown (mvT hZ (hw _ (List.mem_of_getElem? (i := 24) rfl))) (g := (mkF m 33 #[.val (.long q1), .second, .val (.long (v_rm4_2 q1)), .second] [(.long (v_rm4_2 q1))])) rfl (hb hby d4_33)) ?_
  refine go _ (s₁.setTop (mkF m 37 #[.val (.long q1), .second, .val (.long (v_rm4_2 q1)), .second] [(.long ((v_rm4_2 q1) * (-7575587736534282103 : Int64)))])) (fun t k => XS.lmul X0.here hx rfl (hb hby d4_36) rfl k) ?_
  refine go _ (s₁.setTop (mkF m 38 #[.val (.long q1), .second, .val (.long (v_rm4_3 q1)), .second] [])) (fun t k => XS.lstoreN X0.here hx rfl (hb hby d4_37) rfl (l' := #[.val (.long q1), .second, .val (.long (v_rm4_3 q1)), .second]) rfl k) ?_
  refine go _ (s₁.setTop (mkF m 39 #[.val (.long q1), .second, .val (.long (v_rm4_3 q1)), .second] [(.long (v_rm4_3 q1))])) (fun t k => XS.lloadN X0.here hx rfl (hb hby d4_38) rfl k) ?_
  refine go _ (s₁.setTop (mkF m 40 #[.val (.long q1), .second, .val (.long (v_rm4_3 q1)), .second] [(.long (v_rm4_3 q1)), (.long (v_rm4_3 q1))])) (fun t k => XS.lloadN X0.here hx rfl (hb hby d4_39) rfl k) ?_
  refine go _ (s₁.setTop (mkF m 42 #[.val (.long q1), .second, .val (.long (v_rm4_3 q1)), .second] [(.int (30 : Int32)), (.long (v_rm4_3 q1)), (.long (v_rm4_3 q1))])) (fun t k => XS.bipush X0.here hx rfl (hb hby d4_40) k) ?_
  refine go _ (s₁.setTop (mkF m 43 #[.val (.long q1), .second, .val (.long (v_rm4_3 q1)), .second] [(.long (jushrL (v_rm4_3 q1) (30 : Int32))), (.long (v_rm4_3 q1))])) (fun t k => XS.lushr X0.here hx rfl (hb hby d4_42) rfl k) ?_
  refine go _ (s₁.setTop (mkF m 44 #[.val (.long q1), .second, .val (.long (v_rm4_3 q1)), .second] [(.long ((v_rm4_3 q1) ^^^ (jushrL (v_rm4_3 q1) (30 : Int32))))])) (fun t k => XS.lxor X0.here hx rfl (hb hby d4_43) rfl k) ?_
  refine go _ (s₁.setTop (mkF m 45 #[.val (.long q1), .second, .val (.long (v_rm4_3 q1)), .second] [(.long (v_rm4_3 q1)), (.long ((v_rm4_3 q1) ^^^ (jushrL (v_rm4_3 q1) (30 : Int32))))])) (fun t k => XS.lloadN X0.here hx rfl (hb hby d4_44) rfl k) ?_
  refine go _ (s₁.setTop (mkF m 47 #[.val (.long q1), .second, .val (.long (v_rm4_3 q1)), .second] [(.int (60 : Int32)), (.long (v_rm4_3 q1)), (.long ((v_rm4_3 q1) ^^^ (jushrL (v_rm4_3 q1) (30 : Int32))))])) (fun t k => XS.bipush X0.here hx rfl (hb hby d4_45) k) ?_
  refine go _ (s₁.setTop (mkF m 48 #[.val (.long q1), .second, .val (.long (v_rm4_3 q1)), .second] [(.long (jushrL (v_rm4_3 q1) (60 : Int32))), (.long ((v_rm4_3 q1) ^^^ (jushrL (v_rm4_3 q1) (30 : Int32))))])) (fun t k => XS.lushr X0.here hx rfl (hb hby d4_47) rfl k) ?_
  refine go _ (s₁.setTop (mkF m 49 #[.val (.long q1), .second, .val (.long (v_rm4_3 q1)), .second] [(.long (((v_rm4_3 q1) ^^^ (jushrL (v_rm4_3 q1) (30 : Int32))) ^^^ (jushrL (v_rm4_3 q1) (60 : Int32))))])) (fun t k => XS.lxor X0.here hx rfl (hb hby d4_48) rfl k) ?_
  refine go _ (s₁.setTop (mkF m 50 #[.val (.long q1), .second, .val (.long (v_rm4_4 q1)), .second] [])) (fun t k => XS.lstoreN X0.here hx rfl (hb hby d4_49) rfl (l' := #[.val (.long q1), .second, .val (.long (v_rm4_4 q1)), .second]) rfl k) ?_
  refine go _ (s₁.setTop (mkF m 51 #[.val (.long q1), .second, .val (.long (v_rm4_4 q1)), .second] [(.long (v_rm4_4 q1))])) (fun t k => XS.lloadN X0.here hx rfl (hb hby d4_50) rfl k) ?_
  exact fin (some (.long (v_rm4_4 q1))) X0 (by decide) (by decide) (fun q => by cases q) (show Q_rm4 Z q1 h0 n0 _ s₁.heap _ from (by rw [e0]; exact ⟨congrArg some (congrArg Value.long (show (f_rm4 q1) = (v_rm4_4 q1) from rfl).symm), N0, rfl⟩)) (fun fs hr => retJ X0 hx hret (hb hby d4_51) hr)
section OwnBits
theorem own_xs2 {w : Nat} (k : Nat) (x : BitVec w) (hk : w ≤ k + k) : (x ^^^ (x >>> k)) ^^^ ((x ^^^ (x >>> k)) >>> k) = x := by
  apply BitVec.eq_of_getLsbD_eq
  intro i hi
  have h : x.getLsbD (k + (k + i)) = false := BitVec.getLsbD_of_ge _ _ (by omega)
  simp only [BitVec.getLsbD_xor, BitVec.getLsbD_ushiftRight, h]
  cases x.getLsbD i <;> cases x.getLsbD (k + i) <;> rfl
theorem own_xs3 {w : Nat} (k : Nat) (x : BitVec w) (hk : w ≤ k + k + k) : (x ^^^ (x >>> k)) ^^^ ((x ^^^ (x >>> k)) >>> k) ^^^ ((x ^^^ (x >>> k)) >>> (k + k)) = x := by
  apply BitVec.eq_of_getLsbD_eq
  intro i hi
  have h : x.getLsbD (k + (k + k + i)) = false := BitVec.getLsbD_of_ge _ _ (by omega)
  have h2 : k + k + i = k + (k + i) := by omega
  simp only [BitVec.getLsbD_xor, BitVec.getLsbD_ushiftRight, h]
  rw [h2]
  cases x.getLsbD i <;> cases x.getLsbD (k + i) <;> cases x.getLsbD (k + (k + i)) <;> rfl
theorem own_xs3' {w : Nat} (k : Nat) (x : BitVec w) (hk : w ≤ k + k + k) : (x ^^^ (x >>> k) ^^^ (x >>> (k + k))) ^^^ ((x ^^^ (x >>> k) ^^^ (x >>> (k + k))) >>> k) = x := by
  apply BitVec.eq_of_getLsbD_eq
  intro i hi
  have h : x.getLsbD (k + k + (k + i)) = false := BitVec.getLsbD_of_ge _ _ (by omega)
  have h2 : k + k + i = k + (k + i) := by omega
  simp only [BitVec.getLsbD_xor, BitVec.getLsbD_ushiftRight, h]
  rw [h2]
  cases x.getLsbD i <;> cases x.getLsbD (k + i) <;> cases x.getLsbD (k + (k + i)) <;> rfl
theorem own_ushrL (x : Int64) (y : Int32) (k : Nat) (h : ((y &&& 0x3f).toInt64.toUInt64 % 64).toBitVec.toNat = k) : (jushrL x y).toBitVec = x.toBitVec >>> k := by
  subst h; rfl
theorem own_ushr (x : Int32) (y : Int32) (k : Nat) (h : ((y &&& 31).toUInt32 % 32).toBitVec.toNat = k) : (jushr x y).toBitVec = x.toBitVec >>> k := by
  subst h; rfl
theorem own_xsL (x : Int64) (y : Int32) (k : Nat) (h : ((y &&& 0x3f).toInt64.toUInt64 % 64).toBitVec.toNat = k) (hk : 64 ≤ k + k) : (x ^^^ jushrL x y) ^^^ jushrL (x ^^^ jushrL x y) y = x := by
  apply Int64.toBitVec_inj.mp
  rw [Int64.toBitVec_xor, own_ushrL _ y k h, Int64.toBitVec_xor, own_ushrL _ y k h]
  exact own_xs2 k _ hk
end OwnBits
section OwnBits32
theorem own_xsI (x : Int32) (y : Int32) (k : Nat) (h : ((y &&& 31).toUInt32 % 32).toBitVec.toNat = k) (hk : 32 ≤ k + k) : (x ^^^ jushr x y) ^^^ jushr (x ^^^ jushr x y) y = x := by
  apply Int32.toBitVec_inj.mp
  rw [Int32.toBitVec_xor, own_ushr _ y k h, Int32.toBitVec_xor, own_ushr _ y k h]
  exact own_xs2 k _ hk
theorem own_xsI3 (x : Int32) (y z : Int32) (k : Nat) (h : ((y &&& 31).toUInt32 % 32).toBitVec.toNat = k) (h2 : ((z &&& 31).toUInt32 % 32).toBitVec.toNat = k + k) (hk : 32 ≤ k + k + k) : ((x ^^^ jushr x y) ^^^ jushr (x ^^^ jushr x y) y) ^^^ jushr (x ^^^ jushr x y) z = x := by
  apply Int32.toBitVec_inj.mp
  rw [Int32.toBitVec_xor, Int32.toBitVec_xor, own_ushr _ y k h, own_ushr _ z (k + k) h2, Int32.toBitVec_xor, own_ushr _ y k h]
  exact own_xs3 k _ hk
theorem own_xsI3' (x : Int32) (y z : Int32) (k : Nat) (h : ((y &&& 31).toUInt32 % 32).toBitVec.toNat = k) (h2 : ((z &&& 31).toUInt32 % 32).toBitVec.toNat = k + k) (hk : 32 ≤ k + k + k) : (x ^^^ jushr x y ^^^ jushr x z) ^^^ jushr (x ^^^ jushr x y ^^^ jushr x z) y = x := by
  apply Int32.toBitVec_inj.mp
  rw [Int32.toBitVec_xor, own_ushr _ y k h, Int32.toBitVec_xor, Int32.toBitVec_xor, own_ushr _ y k h, own_ushr _ z (k + k) h2]
  exact own_xs3' k _ hk
theorem own_xsL3 (x : Int64) (y z : Int32) (k : Nat) (h : ((y &&& 0x3f).toInt64.toUInt64 % 64).toBitVec.toNat = k) (h2 : ((z &&& 0x3f).toInt64.toUInt64 % 64).toBitVec.toNat = k + k) (hk : 64 ≤ k + k + k) : ((x ^^^ jushrL x y) ^^^ jushrL (x ^^^ jushrL x y) y) ^^^ jushrL (x ^^^ jushrL x y) z = x := by
  apply Int64.toBitVec_inj.mp
  rw [Int64.toBitVec_xor, Int64.toBitVec_xor, own_ushrL _ y k h, own_ushrL _ z (k + k) h2, Int64.toBitVec_xor, own_ushrL _ y k h]
  exact own_xs3 k _ hk
end OwnBits32
theorem own_law (q1 : Int64) : f_rm4 (f_next q1) = q1 + (-7046029254386353131 : Int64) := by
  have c2 : (-7723592293110705685 : Int64) * 3573116690164977347 = 1 := by decide +kernel
  have c1 : (-4658895280553007687 : Int64) * (-7575587736534282103) = 1 := by decide +kernel
  have a0 : v_rm4_0 (f_next q1) = v_rm3_1 q1 := own_xsL3 (v_rm3_1 q1) 31 62 31 (by decide +kernel) (by decide +kernel) (by decide)
  have a1 : v_rm4_1 (f_next q1) = v_rm3_0 q1 ^^^ jushrL (v_rm3_0 q1) 27 := by
    unfold v_rm4_1
    rw [a0]
    unfold v_rm3_1
    rw [Int64.mul_assoc, c2, Int64.mul_one]
  have a2 : v_rm4_2 (f_next q1) = v_rm3_0 q1 := by
    unfold v_rm4_2
    rw [a1]
    exact own_xsL3 (v_rm3_0 q1) 27 54 27 (by decide +kernel) (by decide +kernel) (by decide)
  have a3 : v_rm4_3 (f_next q1) = (q1 + (-7046029254386353131 : Int64)) ^^^ jushrL (q1 + (-7046029254386353131 : Int64)) 30 := by
    unfold v_rm4_3
    rw [a2]
    unfold v_rm3_0
    rw [Int64.mul_assoc, c1, Int64.mul_one]
  show v_rm4_4 (f_next q1) = _
  unfold v_rm4_4
  rw [a3]
  exact own_xsL3 (q1 + (-7046029254386353131 : Int64)) 30 60 30 (by decide +kernel) (by decide +kernel) (by decide)
theorem own_law2 (q1 : Int64) : f_rm4 (f_next (q1 + (-7046029254386353131 : Int64))) = q1 + (4354685564936845354 : Int64) := by
  have t : (-7046029254386353131 : Int64) + (-7046029254386353131 : Int64) = 4354685564936845354 := by decide +kernel
  rw [own_law, Int64.add_assoc, t]
theorem ef_rm0 (m : MethodId) (q1 : Int64) : entryFrame m #[(.long q1)] maxLocals = mkF m 0 #[.val (.long q1), .second, .unset, .unset, .unset, .unset, .unset] [] := by first | (simp [entryFrame, mkF, argsToLocals, Value.category, maxLocals]; done) | rfl
def Q_rm0 (Z : State) (q1 : Int64) (h0 : Heap) (n0 : Nat) (v : Option Value) (h : Heap) (L : List Loc) : Prop := v = some (.int (1 : Int32)) ∧ Fr n0 L
set_option maxRecDepth 65536 in
set_option maxHeartbeats 40000000 in
theorem rm0 (l : Launch) (Z : State) (a0 : Array Value) (hw : ∀ d ∈ tables_1, d.before a0 Z = true) (ws : List Jvm.Cond) (q1 : Int64) (h0 : Heap) (n0 : Nat) (Z0 : n0 ≤ h0.size)  :
    MetFree l x (head1 (Jvm.Cond.code x code maxLocals ret :: ws) room_1) (fun a U => a = #[(.long q1)] ∧ Z.Warmed39 U.vm ∧ U.heap = h0) (fun _ _ _ _ _ => True) (fun _ U o U' => ∃ v L, o = .returned v ∧ Q_rm0 Z q1 h0 n0 v U'.heap L ∧ FrameEnd U o U' L room_1.cells room_1.slots) := by
  refine own_body (Q := Q_rm0 Z q1 h0 n0) (plainFor_of_name pn_8) ?_
  intro p e s m below meth c s₁ K go fin X0 hx hby hml hown hnm hret hZ e0
  have hown : s.vm.findClass "com/example/bogus_tally/bogustally/generate/SeededRandomNextLongPinLaw" = some m.cls := hown
  have N0 := Fr.nil n0
  refine go _ (s₁.setTop (mkF m 0 #[.val (.long q1), .second, .unset, .unset, .unset, .unset, .unset] [])) (fun t k => castTop (ef_rm0 m q1) k) ?_
  obtain ⟨T14, h14, X14, e14, E14, A14, D14, -, st14⟩ := newO X0 hx hZ hown (hw _ (List.mem_of_getElem? (i := 0) rfl)) (hw _ (List.mem_of_getElem? (i := 1) rfl)) (hw _ (List.mem_of_getElem? (i := 2) rfl)) e0 (g := (mkF m 0 #[.val (.long q1), .second, .unset, .unset, .unset, .unset, .unset] [])) rfl (hb hby at_0) (by decide) (by decide)
  obtain ⟨b14, g14⟩ : ∃ z, z = h0.size := ⟨_, rfl⟩
  rw [← g14] at A14 D14 st14
  have Z15 : n0 ≤ h14.size := Nat.le_trans Z0 E14.1
  have ge_b14 : n0 ≤ b14 := by rw [g14]; exact Z0
  have F_state_b14 : Fld Z h14 b14 "com/example/bogus_tally/bogustally/generate/SeededRandom" "state" "J" (.long (0 : Int64)) := D14 (Or.inl (hw _ (List.mem_of_getElem? (i := 10) rfl))) (ty := .long) (by decide)
  refine go _ (T14.setTop (mkF m 3 #[.val (.long q1), .second, .unset, .unset, .unset, .unset, .unset] [(.ref b14)])) (st14) ?_
  refine go _ (T14.setTop (mkF m 4 #[.val (.long q1), .second, .unset, .unset, .unset, .unset, .unset] [(.ref b14), (.ref b14)])) (fun t k => XS.dup X14.here hx rfl (hb hby at_3) rfl rfl k) ?_
  refine go _ (T14.setTop (mkF m 5 #[.val (.long q1), .second, .unset, .unset, .unset, .unset, .unset] [(.long q1), (.ref b14), (.ref b14)])) (fun t k => XS.lloadN X14.here hx rfl (hb hby at_4) rfl k) ?_
  obtain ⟨_, _, ⟨T16, L16, k16, n16⟩, -, X16, ⟨Lc16, hQ16, l16, y16, z16⟩, st16⟩ := X14.specialBack hx (y := (⟨"com/example/bogus_tally/bogustally/generate/SeededRandom", "<init>", "(J)V"⟩ : MethodName)) rfl hown (mvT hZ (hw _ (List.mem_of_getElem? (i := 3) rfl))) (mvT hZ (hw _ (List.mem_of_getElem? (i := 4) rfl))) (mvT hZ (hw _ (List.mem_of_getElem? (i := 5) rfl))) (by decide) (backOf (W := 1) (rm1 l Z a0 hw [] b14 q1  h14 n0 Z15 F_state_b14 A14 ge_b14) hZ (hw _ (List.mem_of_getElem? (i := 5) rfl)) (hw _ (List.mem_of_getElem? (i := 2) rfl)) (by decide) (by decide)) (g := (mkF m 5 #[.val (.long q1), .second, .unset, .unset, .unset, .unset, .unset] [(.long q1), (.ref b14), (.ref b14)])) rfl (by rw [hml]; rfl) (Steps.refl _) (a := b14) (argsL := [(.long q1)]) (rest := [(.ref b14)]) (lenOf pd_1 rfl) rfl (by show 2 * 0 + _ ≤ _; exact Nat.le_of_eq rfl) (hb hby at_5) (fun _ _ => ⟨rfl, e14, (by decide : 0 + 1 + 0 ≤ _), (by decide : 0 + 1 + 0 ≤ _)⟩)
  dsimp only [Pt.U, Pt.locs, Pt.cells, Pt.slots] at X16 l16 y16 z16 st16 hQ16
  subst l16 y16 z16
  obtain ⟨rfl, Nq16, Kq16, Eq16, Fq16⟩ := hQ16
  have N17 := Fr.app N0 Nq16
  have Z18 : n0 ≤ T16.heap.size := Nat.le_trans Z15 Kq16.1
  refine go _ (T16.setTop (mkF m 8 #[.val (.long q1), .second, .unset, .unset, .unset, .unset, .unset] [(.ref b14)])) (fun t k => st16.trans k) ?_
  refine go _ (T16.setTop (mkF m 9 #[.val (.long q1), .second, .val (.ref b14), .unset, .unset, .unset, .unset] [])) (fun t k => XS.astoreN X16.here hx rfl (hb hby at_8) rfl rfl (l' := #[.val (.long q1), .second, .val (.ref b14), .unset, .unset, .unset, .unset]) rfl k) ?_
  refine go _ (T16.setTop (mkF m 10 #[.val (.long q1), .second, .val (.ref b14), .unset, .unset, .unset, .unset] [(.ref b14)])) (fun t k => XS.aloadN X16.here hx rfl (hb hby at_9) rfl rfl k) ?_
  obtain ⟨cq19, kq19, q19a, q19b, q19c⟩ := isOf hZ rfl Eq16
  obtain ⟨_, _, ⟨T19, L19, k19, n19⟩, -, X19, ⟨Lc19, hQ19, l19, y19, z19⟩, st19⟩ := X16.virtualBack hx (y := (⟨"com/example/bogus_tally/bogustally/generate/SeededRandom", "nextLong", "()J"⟩ : MethodName)) (z := (⟨"com/example/bogus_tally/bogustally/generate/SeededRandom", "nextLong", "()J"⟩ : MethodName)) hown (mvT hZ (hw _ (List.mem_of_getElem? (i := 11) rfl))) (mvT hZ (hw _ (List.mem_of_getElem? (i := 12) rfl))) (notFace_of_selects (args := #[]) (mvT hZ (hw _ (List.mem_of_getElem? (i := 14) rfl)))) (mvT hZ (hw _ (List.mem_of_getElem? (i := 14) rfl))) (mvT hZ (hw _ (List.mem_of_getElem? (i := 13) rfl))) (by decide) (backOf (W := 0) (rm3 l Z a0 hw [] b14 q1 T16.heap n0 Z18 Fq16 Eq16 ge_b14) hZ (hw _ (List.mem_of_getElem? (i := 15) rfl)) (hw _ (List.mem_of_getElem? (i := 2) rfl)) (by decide) (by decide)) q19a q19c (g := (mkF m 10 #[.val (.long q1), .second, .val (.ref b14), .unset, .unset, .unset, .unset] [(.ref b14)])) rfl (by rw [hml]; rfl) (Steps.refl _) (argsL := []) (rest := []) (lenOf pd_2 rfl) rfl (by show 2 * 0 + _ ≤ _; exact Nat.le_of_eq rfl) (hb hby at_10) (fun _ _ => ⟨rfl, rfl, (by decide : 0 + 1 + 0 ≤ _), (by decide : 0 + 1 + 0 ≤ _)⟩)
  dsimp only [Pt.U, Pt.locs, Pt.cells, Pt.slots] at X19 l19 y19 z19 st19 hQ19
  subst l19 y19 z19
  obtain ⟨rfl, Nq19, Kq19, Eq19, Fq19⟩ := hQ19
  have N20 := Fr.app N17 Nq19
  have Z21 : n0 ≤ T19.heap.size := Nat.le_trans Z18 Kq19.1
  refine go _ (T19.setTop (mkF m 13 #[.val (.long q1), .second, .val (.ref b14), .unset, .unset, .unset, .unset] [(.long (f_next q1))])) (fun t k => st19.trans k) ?_
  refine go _ (T19.setTop (mkF m 14 #[.val (.long q1), .second, .val (.ref b14), .val (.long (f_next q1)), .second, .unset, .unset] [])) (fun t k => XS.lstoreN X19.here hx rfl (hb hby at_13) rfl (l' := #[.val (.long q1), .second, .val (.ref b14), .val (.long (f_next q1)), .second, .unset, .unset]) rfl k) ?_
  refine go _ (T19.setTop (mkF m 15 #[.val (.long q1), .second, .val (.ref b14), .val (.long (f_next q1)), .second, .unset, .unset] [(.ref b14)])) (fun t k => XS.aloadN X19.here hx rfl (hb hby at_14) rfl rfl k) ?_
  obtain ⟨cq22, kq22, q22a, q22b, q22c⟩ := isOf hZ rfl Eq19
  obtain ⟨_, _, ⟨T22, L22, k22, n22⟩, -, X22, ⟨Lc22, hQ22, l22, y22, z22⟩, st22⟩ := X19.virtualBack hx (y := (⟨"com/example/bogus_tally/bogustally/generate/SeededRandom", "nextLong", "()J"⟩ : MethodName)) (z := (⟨"com/example/bogus_tally/bogustally/generate/SeededRandom", "nextLong", "()J"⟩ : MethodName)) hown (mvT hZ (hw _ (List.mem_of_getElem? (i := 11) rfl))) (mvT hZ (hw _ (List.mem_of_getElem? (i := 12) rfl))) (notFace_of_selects (args := #[]) (mvT hZ (hw _ (List.mem_of_getElem? (i := 14) rfl)))) (mvT hZ (hw _ (List.mem_of_getElem? (i := 14) rfl))) (mvT hZ (hw _ (List.mem_of_getElem? (i := 13) rfl))) (by decide) (backOf (W := 0) (rm3 l Z a0 hw [] b14 (q1 + (-7046029254386353131 : Int64)) T19.heap n0 Z21 Fq19 Eq19 ge_b14) hZ (hw _ (List.mem_of_getElem? (i := 15) rfl)) (hw _ (List.mem_of_getElem? (i := 2) rfl)) (by decide) (by decide)) q22a q22c (g := (mkF m 15 #[.val (.long q1), .second, .val (.ref b14), .val (.long (f_next q1)), .second, .unset, .unset] [(.ref b14)])) rfl (by rw [hml]; rfl) (Steps.refl _) (argsL := []) (rest := []) (lenOf pd_2 rfl) rfl (by show 2 * 0 + _ ≤ _; exact Nat.le_of_eq rfl) (hb hby at_15) (fun _ _ => ⟨rfl, rfl, (by decide : 0 + 1 + 0 ≤ _), (by decide : 0 + 1 + 0 ≤ _)⟩)
  dsimp only [Pt.U, Pt.locs, Pt.cells, Pt.slots] at X22 l22 y22 z22 st22 hQ22
  subst l22 y22 z22
  obtain ⟨rfl, Nq22, Kq22, Eq22, Fq22⟩ := hQ22
  have N23 := Fr.app N20 Nq22
  have Z24 : n0 ≤ T22.heap.size := Nat.le_trans Z21 Kq22.1
  refine go _ (T22.setTop (mkF m 18 #[.val (.long q1), .second, .val (.ref b14), .val (.long (f_next q1)), .second, .unset, .unset] [(.long (f_next (q1 + (-7046029254386353131 : Int64))))])) (fun t k => st22.trans k) ?_
  refine go _ (T22.setTop (mkF m 20 #[.val (.long q1), .second, .val (.ref b14), .val (.long (f_next q1)), .second, .val (.long (f_next (q1 + (-7046029254386353131 : Int64)))), .second] [])) (fun t k => XS.lstore X22.here hx rfl (hb hby at_18) rfl (l' := #[.val (.long q1), .second, .val (.ref b14), .val (.long (f_next q1)), .second, .val (.long (f_next (q1 + (-7046029254386353131 : Int64)))), .second]) rfl k) ?_
  refine go _ (T22.setTop (mkF m 21 #[.val (.long q1), .second, .val (.ref b14), .val (.long (f_next q1)), .second, .val (.long (f_next (q1 + (-7046029254386353131 : Int64)))), .second] [(.long (f_next q1))])) (fun t k => XS.lloadN X22.here hx rfl (hb hby at_20) rfl k) ?_
  obtain ⟨_, _, ⟨T25, L25, k25, n25⟩, -, X25, ⟨Lc25, hQ25, l25, y25, z25⟩, st25⟩ := Jvm.LawKit.callS X22 hx (y := (⟨"com/example/bogus_tally/bogustally/generate/SeededRandomNextLongPinLaw", "unmix", "(J)J"⟩ : MethodName)) hown (mvT hZ (hw _ (List.mem_of_getElem? (i := 19) rfl))) (mvT hZ (hw _ (List.mem_of_getElem? (i := 20) rfl))) (mvT hZ (hw _ (List.mem_of_getElem? (i := 21) rfl))) (mvT hZ (hw _ (List.mem_of_getElem? (i := 22) rfl))) (by decide) (backOf (W := 0) (rm4 l Z a0 hw [] (f_next q1)  T22.heap n0 Z24 ) hZ (hw _ (List.mem_of_getElem? (i := 22) rfl)) (hw _ (List.mem_of_getElem? (i := 21) rfl)) (by decide) (by decide)) (g := (mkF m 21 #[.val (.long q1), .second, .val (.ref b14), .val (.long (f_next q1)), .second, .val (.long (f_next (q1 + (-7046029254386353131 : Int64)))), .second] [(.long (f_next q1))])) rfl (by rw [hml]; rfl) (argsL := [(.long (f_next q1))]) (rest := []) (lenOf pd_3 rfl) rfl (by show 2 * 0 + _ ≤ _; exact Nat.le_of_eq rfl) (hb hby at_21) (fun _ _ => ⟨rfl, rfl, (by decide : 0 + 1 + 0 ≤ _), (by decide : 0 + 1 + 0 ≤ _)⟩)
  dsimp only [Pt.U, Pt.locs, Pt.cells, Pt.slots] at X25 l25 y25 z25 st25 hQ25
  subst l25 y25 z25
  obtain ⟨rfl, Nq25, hh25⟩ := hQ25
  have N26 := Fr.app N23 Nq25
  refine go _ (T25.setTop (mkF m 24 #[.val (.long q1), .second, .val (.ref b14), .val (.long (f_next q1)), .second, .val (.long (f_next (q1 + (-7046029254386353131 : Int64)))), .second] [(.long (f_rm4 (f_next q1)))])) (st25) ?_
  refine go _ (T25.setTop (mkF m 25 #[.val (.long q1), .second, .val (.ref b14), .val (.long (f_next q1)), .second, .val (.long (f_next (q1 + (-7046029254386353131 : Int64)))), .second] [(.long q1), (.long (f_rm4 (f_next q1)))])) (fun t k => XS.lloadN X25.here hx rfl (hb hby at_24) rfl k) ?_
  refine go _ (T25.setTop (mkF m 28 #[.val (.long q1), .second, .val (.ref b14), .val (.long (f_next q1)), .second, .val (.long (f_next (q1 + (-7046029254386353131 : Int64)))), .second] [(.long (-7046029254386353131 : Int64)), (.long q1), (.long (f_rm4 (f_next q1)))])) (X25.ldc2Long hx hown (mvT hZ (hw _ (List.mem_of_getElem? (i := 25) rfl))) (g := (mkF m 25 #[.val (.long q1), .second, .val (.ref b14), .val (.long (f_next q1)), .second, .val (.long (f_next (q1 + (-7046029254386353131 : Int64)))), .second] [(.long q1), (.long (f_rm4 (f_next q1)))])) rfl (hb hby at_25)) ?_
  refine go _ (T25.setTop (mkF m 29 #[.val (.long q1), .second, .val (.ref b14), .val (.long (f_next q1)), .second, .val (.long (f_next (q1 + (-7046029254386353131 : Int64)))), .second] [(.long (q1 + (-7046029254386353131 : Int64))), (.long (f_rm4 (f_next q1)))])) (fun t k => XS.ladd X25.here hx rfl (hb hby at_28) rfl k) ?_
  refine go _ (T25.setTop (mkF m 30 #[.val (.long q1), .second, .val (.ref b14), .val (.long (f_next q1)), .second, .val (.long (f_next (q1 + (-7046029254386353131 : Int64)))), .second] [(.int (lcmpW (f_rm4 (f_next q1)) (q1 + (-7046029254386353131 : Int64))))])) (fun t k => XS.lcmp X25.here hx rfl (hb hby at_29) rfl k) ?_
  have hc27 : ((f_rm4 (f_next q1)) = (q1 + (-7046029254386353131 : Int64))) := own_law q1
  refine go _ (T25.setTop (mkF m 33 #[.val (.long q1), .second, .val (.ref b14), .val (.long (f_next q1)), .second, .val (.long (f_next (q1 + (-7046029254386353131 : Int64)))), .second] [])) (fun t k => XS.ifNo X25.here hx rfl (hb hby at_30) rfl ((if0 _ _).trans (teq ((lw_eq (f_rm4 (f_next q1)) (q1 + (-7046029254386353131 : Int64))).mpr hc27)).2) k) ?_
  refine go _ (T25.setTop (mkF m 35 #[.val (.long q1), .second, .val (.ref b14), .val (.long (f_next q1)), .second, .val (.long (f_next (q1 + (-7046029254386353131 : Int64)))), .second] [(.long (f_next (q1 + (-7046029254386353131 : Int64))))])) (fun t k => XS.lload X25.here hx rfl (hb hby at_33) rfl k) ?_
  obtain ⟨_, _, ⟨T28, L28, k28, n28⟩, -, X28, ⟨Lc28, hQ28, l28, y28, z28⟩, st28⟩ := Jvm.LawKit.callS X25 hx (y := (⟨"com/example/bogus_tally/bogustally/generate/SeededRandomNextLongPinLaw", "unmix", "(J)J"⟩ : MethodName)) hown (mvT hZ (hw _ (List.mem_of_getElem? (i := 19) rfl))) (mvT hZ (hw _ (List.mem_of_getElem? (i := 20) rfl))) (mvT hZ (hw _ (List.mem_of_getElem? (i := 21) rfl))) (mvT hZ (hw _ (List.mem_of_getElem? (i := 22) rfl))) (by decide) (backOf (W := 0) (rm4 l Z a0 hw [] (f_next (q1 + (-7046029254386353131 : Int64)))  T22.heap n0 Z24 ) hZ (hw _ (List.mem_of_getElem? (i := 22) rfl)) (hw _ (List.mem_of_getElem? (i := 21) rfl)) (by decide) (by decide)) (g := (mkF m 35 #[.val (.long q1), .second, .val (.ref b14), .val (.long (f_next q1)), .second, .val (.long (f_next (q1 + (-7046029254386353131 : Int64)))), .second] [(.long (f_next (q1 + (-7046029254386353131 : Int64))))])) rfl (by rw [hml]; rfl) (argsL := [(.long (f_next (q1 + (-7046029254386353131 : Int64))))]) (rest := []) (lenOf pd_3 rfl) rfl (by show 2 * 0 + _ ≤ _; exact Nat.le_of_eq rfl) (hb hby at_35) (fun _ _ => ⟨rfl, hh25, (by decide : 0 + 1 + 0 ≤ _), (by decide : 0 + 1 + 0 ≤ _)⟩)
  dsimp only [Pt.U, Pt.locs, Pt.cells, Pt.slots] at X28 l28 y28 z28 st28 hQ28
  subst l28 y28 z28
  obtain ⟨rfl, Nq28, hh28⟩ := hQ28
  have N29 := Fr.app N26 Nq28
  refine go _ (T28.setTop (mkF m 38 #[.val (.long q1), .second, .val (.ref b14), .val (.long (f_next q1)), .second, .val (.long (f_next (q1 + (-7046029254386353131 : Int64)))), .second] [(.long (f_rm4 (f_next (q1 + (-7046029254386353131 : Int64)))))])) (st28) ?_
  refine go _ (T28.setTop (mkF m 39 #[.val (.long q1), .second, .val (.ref b14), .val (.long (f_next q1)), .second, .val (.long (f_next (q1 + (-7046029254386353131 : Int64)))), .second] [(.long q1), (.long (f_rm4 (f_next (q1 + (-7046029254386353131 : Int64)))))])) (fun t k => XS.lloadN X28.here hx rfl (hb hby at_38) rfl k) ?_
  refine go _ (T28.setTop (mkF m 42 #[.val (.long q1), .second, .val (.ref b14), .val (.long (f_next q1)), .second, .val (.long (f_next (q1 + (-7046029254386353131 : Int64)))), .second] [(.long (4354685564936845354 : Int64)), (.long q1), (.long (f_rm4 (f_next (q1 + (-7046029254386353131 : Int64)))))])) (X28.ldc2Long hx hown (mvT hZ (hw _ (List.mem_of_getElem? (i := 26) rfl))) (g := (mkF m 39 #[.val (.long q1), .second, .val (.ref b14), .val (.long (f_next q1)), .second, .val (.long (f_next (q1 + (-7046029254386353131 : Int64)))), .second] [(.long q1), (.long (f_rm4 (f_next (q1 + (-7046029254386353131 : Int64)))))])) rfl (hb hby at_39)) ?_
  refine go _ (T28.setTop (mkF m 43 #[.val (.long q1), .second, .val (.ref b14), .val (.long (f_next q1)), .second, .val (.long (f_next (q1 + (-7046029254386353131 : Int64)))), .second] [(.long (q1 + (4354685564936845354 : Int64))), (.long (f_rm4 (f_next (q1 + (-7046029254386353131 : Int64)))))])) (fun t k => XS.ladd X28.here hx rfl (hb hby at_42) rfl k) ?_
  refine go _ (T28.setTop (mkF m 44 #[.val (.long q1), .second, .val (.ref b14), .val (.long (f_next q1)), .second, .val (.long (f_next (q1 + (-7046029254386353131 : Int64)))), .second] [(.int (lcmpW (f_rm4 (f_next (q1 + (-7046029254386353131 : Int64)))) (q1 + (4354685564936845354 : Int64))))])) (fun t k => XS.lcmp X28.here hx rfl (hb hby at_43) rfl k) ?_
  have hc30 : ((f_rm4 (f_next (q1 + (-7046029254386353131 : Int64)))) = (q1 + (4354685564936845354 : Int64))) := own_law2 q1
  refine go _ (T28.setTop (mkF m 47 #[.val (.long q1), .second, .val (.ref b14), .val (.long (f_next q1)), .second, .val (.long (f_next (q1 + (-7046029254386353131 : Int64)))), .second] [])) (fun t k => XS.ifNo X28.here hx rfl (hb hby at_44) rfl ((if0 _ _).trans (teq ((lw_eq (f_rm4 (f_next (q1 + (-7046029254386353131 : Int64)))) (q1 + (4354685564936845354 : Int64))).mpr hc30)).2) k) ?_
  refine go _ (T28.setTop (mkF m 48 #[.val (.long q1), .second, .val (.ref b14), .val (.long (f_next q1)), .second, .val (.long (f_next (q1 + (-7046029254386353131 : Int64)))), .second] [(.int (1 : Int32))])) (fun t k => XS.iconst X28.here hx rfl (hb hby at_47) k) ?_
  refine go _ (T28.setTop (mkF m 52 #[.val (.long q1), .second, .val (.ref b14), .val (.long (f_next q1)), .second, .val (.long (f_next (q1 + (-7046029254386353131 : Int64)))), .second] [(.int (1 : Int32))])) (fun t k => XS.goto X28.here hx rfl (pc0 := 48) (pc' := 52) rfl (hb hby at_48) (by decide) (by decide) k) ?_
  exact fin (some (.int (1 : Int32))) X28 (by decide) (by decide) (fun q => by cases q) (show Q_rm0 Z q1 h0 n0 _ T28.heap _ from (by rw [hh28]; exact ⟨rfl, N29⟩)) (fun fs hr => retN X28 hx (t := .boolean) hret (by simp) (hb hby at_52) hr)
set_option maxRecDepth 65536 in
set_option maxHeartbeats 40000000 in
theorem comes_1 {Post : Tables → Env → Array Value → State → Outcome → State → Prop} (hpost : ∀ tb e args s v u, (limb_1_1.after args s (.returned v) u = true ∧ limb_1_2.after args s (.returned v) u = true ∧ True) → FrameEnd s (.returned v) u (Jvm.fieldLocs frame_1_writes args s ++ Jvm.arrayLocs frame_1_arrays args s ++ Jvm.staticLocs frame_1_statics s) 16 128 → Post tb e args s (.returned v) u) :
    ArmFor flags0 classFile x code maxLocals ret World_1 tables_1 room_1 Calls_1 rest_1 Pre_1 Post := by
  intro l hfl _ _ p e ha hc hk s m args below hf hA hF happ hP
  obtain ⟨hcalls, hrest, hpre⟩ := hP
  obtain ⟨-, -, -, hnamed, -, -, -, hat⟩ := (Spec.applies_iff hf).mp happ
  obtain ⟨hg, hn⟩ := and_e (Cond.before_iff.mp (show (Jvm.Cond.and given_1 narrow_1).before args s = true from hpre))
  obtain ⟨gc, g1⟩ := and_e hg
  have ga0 := g1
  obtain ⟨w0, rfl⟩ : ∃ w0 : Value, args = #[w0] := by
    have hs : args.size = 1 := by simpa [Cond.value, given_1] using gc
    obtain ⟨L⟩ := args
    match L, hs with
    | [w0], _ => exact ⟨w0, rfl⟩
  have hw := fun d (hd : d ∈ tables_1) => atoms_spec (ws := Jvm.Cond.code x code maxLocals ret :: tables_1) hat d (List.mem_cons_of_mem _ hd)
  obtain ⟨i0, ei0⟩ := isL_v ga0
  obtain rfl : w0 = (.long i0) := Option.some.inj ei0
  obtain ⟨n, o, h1, h2, h3, _, L, rfl, ⟨rfl, N⟩, hq⟩ := rm0 l s _ hw tables_1 i0 s.heap s.heap.size (Nat.le_refl _) p e ha hc hk s m _ below hf ((Spec.applies_iff_loose hf).mp happ).1 ⟨rfl, State.Warmed39.refl s, rfl⟩ trivial
  refine ⟨n, _, h1, h2, h3, hpost _ _ _ _ _ _ ⟨Cond.after_iff.mpr rfl, Cond.after_iff.mpr (eq_i res_at (Term.int_eval (1)) rfl), trivial⟩ ⟨hq.1, hq.2.1, (hq.2.2.sift fun y hy => Or.inr (N y hy)).mono (by decide) (by decide)⟩⟩
theorem main_1_1 : Claimed_1_1 := comes_1 fun _ _ _ _ _ _ h hF => ⟨h.1, hF⟩
theorem main_1_2 : Claimed_1_2 := comes_1 fun _ _ _ _ _ _ h hF => ⟨h.2.1, hF⟩
end Jvm.Pilot.@@N@@
namespace Jvm.Pilot.@@N@@
open Jvm Jvm.ClassFile Sem Op Lib Jvm.Free Jvm.Stand Jvm.Pilot.@@N@@.Jvm.D
/-! MADE BY PROGRAM (witnessworld.py) out of the Statement's table words and the real class files: 9 classes; the members and pool entries that the words name. The judged class is class 1, her method 2. -/
namespace start1
open Jvm.ClassFile
def u (s : String) : CpInfo := .utf8 (stringToUtf16 s)
/-- a pool by its gaps: so many unusable entries, then the entry; so many at the end -/
def gap : Nat → List CpInfo → List CpInfo
  | 0, r => r
  | n + 1, r => .unusable :: gap n r
def poolList (es : List (Nat × CpInfo)) (last : Nat) : List CpInfo := es.foldr (fun e r => gap e.1 (e.2 :: r)) (gap last [])
def pool (es : List (Nat × CpInfo)) (last : Nat) : Array CpInfo := ⟨poolList es last⟩
def fileOf (pool : Array CpInfo) (this : Nat) (attrs : Array Attribute := #[]) (ms : Array MethodInfo := #[]) (fl : Nat := 33) (sup : Nat := 0) (ifs : Array Nat := #[]) (fds : Array FieldInfo := #[]) : ClassFile where
  minorVersion := 0
  majorVersion := 65
  constantPool := pool
  accessFlags := fl
  thisClass := this
  superClass := sup
  interfaces := ifs
  fields := fds
  methods := ms
  attributes := attrs
def plain (name : String) (sup : Option ClassId) : Class where
  name := name
  kind := .ordinary
  loader := none
  accessFlags := 33
  super := sup
  interfaces := #[]
  cf := none
  fields := #[]
  methods := #[]
  instanceTypes := #[]
  staticTypes := #[]
  resolved := #[]
  callSites := []
  init := .initialized
  statics := none
  mirror := none

def pool0 : Array CpInfo := pool [(5, u "<init>"), (0, u "()V"), (1, .class_ 10), (1, u "java/lang/Object")] 113

def k0c0 : Code := { maxStack := 0, maxLocals := 1, code := object_method_1_code, exceptionTable := #[], attributes := #[] }
def k0m0 : Method := { name := "<init>", desc := "()V", sig := { parameters := [], returnType := none }, accessFlags := 1, code := some k0c0 }
/-- java/lang/Object -/
def k0 : Class := { plain "java/lang/Object" none with
  accessFlags := 33
  interfaces := #[]
  cf := some (fileOf pool0 8 #[] #[{ accessFlags := 1, nameIndex := 5, descriptorIndex := 6, attributes := #[] }] 33 0 #[] #[])
  fields := #[]
  methods := #[k0m0]
  instanceTypes := #[]
  staticTypes := #[]
  resolved := Array.replicate 124 none
  statics := none }

def pool1 : Array CpInfo := pool [(2, .class_ 4), (1, u "java/lang/Object"), (0, u "<init>"), (0, u "()V"), (0, .long 3573116690164977347), (1, .long 10871156337175269513), (1, .class_ 12), (0, u "com/example/bogus_tally/bogustally/generate/SeededRandom"), (0, .methodref 11 14), (0, .nameAndType 5 15), (0, u "(J)V"), (0, .methodref 11 17), (0, .nameAndType 18 19), (0, u "nextLong"), (0, u "()J"), (0, .methodref 21 22), (0, .class_ 23), (0, .nameAndType 24 25), (0, u "com/example/bogus_tally/bogustally/generate/SeededRandomNextLongPinLaw"), (0, u "unmix"), (0, u "(J)J"), (0, .long 11400714819323198485), (1, .long 4354685564936845354), (1, u "GAMMA"), (0, u "J"), (3, u "law"), (0, u "(J)Z")] 3

def k1m0 : Method := { name := "<init>", desc := "()V", sig := { parameters := [], returnType := none }, accessFlags := 1, code := none }
def k1c1 : Code := { maxStack := 5, maxLocals := 4, code := method_2_code, exceptionTable := #[], attributes := #[] }
def k1m1 : Method := { name := "unmix", desc := "(J)J", sig := { parameters := [.long], returnType := some .long }, accessFlags := 10, code := some k1c1 }
def k1c2 : Code := { maxStack := 6, maxLocals := 7, code := code, exceptionTable := #[], attributes := #[] }
def k1m2 : Method := { name := "law", desc := "(J)Z", sig := { parameters := [.long], returnType := some .boolean }, accessFlags := 9, code := some k1c2 }
/-- com/example/bogus_tally/bogustally/generate/SeededRandomNextLongPinLaw -/
def k1 : Class := { plain "com/example/bogus_tally/bogustally/generate/SeededRandomNextLongPinLaw" (some 0) with
  accessFlags := 49
  interfaces := #[]
  cf := some (fileOf pool1 21 #[] #[{ accessFlags := 1, nameIndex := 5, descriptorIndex := 6, attributes := #[] }, { accessFlags := 10, nameIndex := 24, descriptorIndex := 25, attributes := #[] }, { accessFlags := 9, nameIndex := 35, descriptorIndex := 36, attributes := #[] }] 49 2 #[] #[{ accessFlags := 26, nameIndex := 30, descriptorIndex := 31, attributes := #[] }])
  fields := #[{ name := "GAMMA", type := .long, accessFlags := 26, slot := 0, constantValue := 0 }]
  methods := #[k1m0, k1m1, k1m2]
  instanceTypes := #[]
  staticTypes := #[.long]
  resolved := Array.replicate 40 none
  statics := none }

def pool2 : Array CpInfo := pool [(1, .methodref 2 3), (0, .class_ 4), (0, .nameAndType 5 6), (0, u "java/lang/Object"), (0, u "<init>"), (0, u "()V"), (0, .fieldref 8 9), (0, .class_ 10), (0, .nameAndType 11 12), (0, u "com/example/bogus_tally/bogustally/generate/SeededRandom"), (0, u "state"), (0, u "J"), (0, .long 11400714819323198485), (1, .long 13787848793156543929), (1, .long 10723151780598845931), (18, u "nextLong"), (0, u "()J"), (6, u "GAMMA"), (1, u "DOUBLE_STEP"), (0, u "D"), (0, u "(J)V")] 23

def k2c0 : Code := { maxStack := 3, maxLocals := 3, code := prog_99_method_1_code, exceptionTable := #[], attributes := #[] }
def k2m0 : Method := { name := "<init>", desc := "(J)V", sig := { parameters := [.long], returnType := none }, accessFlags := 0, code := some k2c0 }
def k2c1 : Code := { maxStack := 5, maxLocals := 3, code := prog_99_method_2_code, exceptionTable := #[], attributes := #[] }
def k2m1 : Method := { name := "nextLong", desc := "()J", sig := { parameters := [], returnType := some .long }, accessFlags := 0, code := some k2c1 }
/-- com/example/bogus_tally/bogustally/generate/SeededRandom -/
def k2 : Class := { plain "com/example/bogus_tally/bogustally/generate/SeededRandom" (some 0) with
  accessFlags := 48
  interfaces := #[]
  cf := some (fileOf pool2 8 #[] #[{ accessFlags := 0, nameIndex := 5, descriptorIndex := 48, attributes := #[] }, { accessFlags := 0, nameIndex := 36, descriptorIndex := 37, attributes := #[] }] 48 2 #[] #[{ accessFlags := 26, nameIndex := 44, descriptorIndex := 12, attributes := #[] }, { accessFlags := 26, nameIndex := 46, descriptorIndex := 47, attributes := #[] }, { accessFlags := 2, nameIndex := 11, descriptorIndex := 12, attributes := #[] }])
  fields := #[{ name := "GAMMA", type := .long, accessFlags := 26, slot := 0, constantValue := 0 }, { name := "DOUBLE_STEP", type := .double, accessFlags := 26, slot := 1, constantValue := 0 }, { name := "state", type := .long, accessFlags := 2, slot := 0, constantValue := 0 }]
  methods := #[k2m0, k2m1]
  instanceTypes := #[.long]
  staticTypes := #[.long, .double]
  resolved := Array.replicate 72 none
  statics := none }

def pool3 : Array CpInfo := pool [(1, u "java/lang/Cloneable"), (0, .class_ 1), (0, u "java/lang/Object"), (0, .class_ 3)] 3

/-- java/lang/Cloneable -/
def k3 : Class := { plain "java/lang/Cloneable" (some 0) with
  accessFlags := 1537
  interfaces := #[]
  cf := some (fileOf pool3 2 #[] #[] 1537 4 #[] #[])
  fields := #[]
  methods := #[]
  instanceTypes := #[]
  staticTypes := #[]
  resolved := Array.replicate 8 none
  statics := none }

def pool4 : Array CpInfo := pool [(1, u "java/io/Serializable"), (0, .class_ 1), (0, u "java/lang/Object"), (0, .class_ 3)] 3

/-- java/io/Serializable -/
def k4 : Class := { plain "java/io/Serializable" (some 0) with
  accessFlags := 1537
  interfaces := #[]
  cf := some (fileOf pool4 2 #[] #[] 1537 4 #[] #[])
  fields := #[]
  methods := #[]
  instanceTypes := #[]
  staticTypes := #[]
  resolved := Array.replicate 8 none
  statics := none }

/-- the primitive byte -/
def k5 : Class := { plain "byte" none with kind := .primitive 'B', accessFlags := 0x411 }
/-- [B -/
def k6 : Class := { plain "[B" (some 0) with kind := .array 5 .byte, interfaces := #[3, 4], accessFlags := 1041 }

/-- the primitive int -/
def k7 : Class := { plain "int" none with kind := .primitive 'I', accessFlags := 0x411 }
/-- [I -/
def k8 : Class := { plain "[I" (some 0) with kind := .array 7 .int, interfaces := #[3, 4], accessFlags := 1041 }

def heap : Heap := #[]
def classes : Array Class := #[k0, k1, k2, k3, k4, k5, k6, k7, k8]
def interned : List (Array UInt16 × Addr) := []
def slotsUsed : Nat := 0
def theMethod : MethodId := ⟨1, 2⟩
def args0 : Array Value := #[.long 5]
def aboutOver (below : List Frame) : State where
  vm := { classes := classes, interned := interned.toArray }
  heap := heap
  slotsUsed := slotsUsed
  threads := #[{ frames := .invoking theMethod args0 :: below }]
def below0 : List Frame := [.native { method := ⟨0, 0⟩, args := #[] }]
def about1 : State := aboutOver below0
def p0 : Program := .bare "" "" ""
def e0 : Env := launch0.env 0 0 0
theorem w_frames : about1.frames = Frame.invoking theMethod args0 :: below0 := rfl
set_option maxRecDepth 65536 in
theorem w_args : argsFit about1.vm theMethod args0 = true := by decide +kernel
set_option maxRecDepth 65536 in
theorem w_heap : heapFits about1 = true := by decide +kernel
set_option maxRecDepth 65536 in
theorem w_runnable : about1.curStatus? = some .runnable := by decide +kernel
set_option maxRecDepth 65536 in
theorem w_alone : about1.alone = true := by decide +kernel
set_option maxRecDepth 65536 in
theorem w_named : about1.methodNamed? x = some theMethod := by decide +kernel
set_option maxRecDepth 65536 in
theorem w_hears : about1.hears theMethod below0 = true := by decide +kernel
set_option maxRecDepth 65536 in
theorem w_ripe : about1.ripe theMethod args0 below0 = true := by decide +kernel
theorem w_running : about1.status = .running := rfl
set_option maxRecDepth 65536 in
theorem w_room : about1.hasRoom e0.platform room_1 = true :=
  launch0.hasRoom_least _ room_1 (by decide +kernel) (by decide +kernel) (by decide +kernel) (by decide +kernel) (by decide +kernel) (by decide +kernel)
theorem allAtoms_all (ts : List Jvm.Cond) (a : Array Jvm.Value) (st : Jvm.State) : (allAtoms ts).before a st = ts.all (fun c => c.before a st) := by
  induction ts with
  | nil => rfl
  | cons c t ih =>
    show (Jvm.Cond.and c (allAtoms t)).before a st = _
    rw [Jvm.Cond.before_and, ih, List.all_cons]
def words1 : List Jvm.Cond := Jvm.Cond.code x code maxLocals ret :: tables_1
/-- a 'code' word, met by the world's own term for the bytes: nothing is compared byte by byte -/
theorem code_word {y : MethodName} {bytes : ByteArray} {mx : Nat} {rt : Option FieldType} {a : Array Value} {s : State} {m : MethodId} {meth : Method} {c : Code} (h1 : s.methodNamed? y = some m) (h2 : s.vm.method? m = some meth) (h3 : meth.code = some c) (h4 : c.code = bytes)
    (h5 : (c.maxLocals == mx && c.exceptionTable.isEmpty && decide (c.maxStack ≤ mostOperands) && decide (meth.sig.returnType = rt) && !meth.locks && decide (parseMethodDescriptor y.desc = some meth.sig)) = true) : (Jvm.Cond.code y bytes mx rt).before a s = true := by
  simp only [Bool.and_eq_true, beq_iff_eq, Bool.not_eq_true', decide_eq_true_eq] at h5
  obtain ⟨⟨⟨⟨⟨g1, g2⟩, g3⟩, g4⟩, g5⟩, g6⟩ := h5
  simp [Cond.before, Cond.holds, Cond.value, h1, h2, h3, h4, g1, g2, g3, g4, g5, g6]
def isCode : Jvm.Cond → Bool
  | .code _ _ _ _ => true
  | _ => false
theorem all_split {L : List Jvm.Cond} {P : Jvm.Cond → Bool} (h1 : L.all (fun c => isCode c || P c) = true) (h2 : ∀ c ∈ L.filter isCode, P c = true) : L.all P = true := by
  refine List.all_eq_true.mpr fun c hc => ?_
  have h := List.all_eq_true.mp h1 c hc
  rcases Bool.eq_false_or_eq_true (isCode c) with hi | hi
  · exact h2 c (List.mem_filter.mpr ⟨hc, hi⟩)
  · simpa [hi] using h
set_option maxRecDepth 65536 in
theorem w_c0 : (Jvm.Cond.code x code maxLocals ret).before args0 about1 = true := code_word (m := ⟨1, 2⟩) (meth := k1m2) (c := k1c2) (by decide +kernel) rfl rfl rfl (by decide +kernel)
set_option maxRecDepth 65536 in
theorem w_c1 : (Jvm.Cond.code ({ cls := "com/example/bogus_tally/bogustally/generate/SeededRandom", name := "<init>", desc := "(J)V" } : Jvm.MethodName) prog_99_method_1_code (3 : Nat) (Option.none : Option Jvm.ClassFile.FieldType)).before args0 about1 = true := code_word (m := ⟨2, 0⟩) (meth := k2m0) (c := k2c0) (by decide +kernel) rfl rfl rfl (by decide +kernel)
set_option maxRecDepth 65536 in
theorem w_c2 : (Jvm.Cond.code ({ cls := "java/lang/Object", name := "<init>", desc := "()V" } : Jvm.MethodName) object_method_1_code (1 : Nat) (Option.none : Option Jvm.ClassFile.FieldType)).before args0 about1 = true := code_word (m := ⟨0, 0⟩) (meth := k0m0) (c := k0c0) (by decide +kernel) rfl rfl rfl (by decide +kernel)
set_option maxRecDepth 65536 in
theorem w_c3 : (Jvm.Cond.code ({ cls := "com/example/bogus_tally/bogustally/generate/SeededRandom", name := "nextLong", desc := "()J" } : Jvm.MethodName) prog_99_method_2_code (3 : Nat) (Option.some Jvm.ClassFile.FieldType.long)).before args0 about1 = true := code_word (m := ⟨2, 1⟩) (meth := k2m1) (c := k2c1) (by decide +kernel) rfl rfl rfl (by decide +kernel)
set_option maxRecDepth 65536 in
theorem w_c4 : (Jvm.Cond.code ({ cls := "com/example/bogus_tally/bogustally/generate/SeededRandomNextLongPinLaw", name := "unmix", desc := "(J)J" } : Jvm.MethodName) method_2_code (4 : Nat) (Option.some Jvm.ClassFile.FieldType.long)).before args0 about1 = true := code_word (m := ⟨1, 1⟩) (meth := k1m1) (c := k1c1) (by decide +kernel) rfl rfl rfl (by decide +kernel)
def codes1 : List Jvm.Cond := [Jvm.Cond.code x code maxLocals ret, Jvm.Cond.code ({ cls := "com/example/bogus_tally/bogustally/generate/SeededRandom", name := "<init>", desc := "(J)V" } : Jvm.MethodName) prog_99_method_1_code (3 : Nat) (Option.none : Option Jvm.ClassFile.FieldType), Jvm.Cond.code ({ cls := "java/lang/Object", name := "<init>", desc := "()V" } : Jvm.MethodName) object_method_1_code (1 : Nat) (Option.none : Option Jvm.ClassFile.FieldType), Jvm.Cond.code ({ cls := "com/example/bogus_tally/bogustally/generate/SeededRandom", name := "nextLong", desc := "()J" } : Jvm.MethodName) prog_99_method_2_code (3 : Nat) (Option.some Jvm.ClassFile.FieldType.long), Jvm.Cond.code ({ cls := "com/example/bogus_tally/bogustally/generate/SeededRandomNextLongPinLaw", name := "unmix", desc := "(J)J" } : Jvm.MethodName) method_2_code (4 : Nat) (Option.some Jvm.ClassFile.FieldType.long)]
set_option maxRecDepth 65536 in
theorem codes_eq : words1.filter isCode = codes1 := rfl
theorem w_codes : ∀ c ∈ words1.filter isCode, c.before args0 about1 = true := by
  rw [codes_eq]
  intro c hc
  simp only [codes1, List.mem_cons, List.not_mem_nil, or_false] at hc
  rcases hc with rfl | rfl | rfl | rfl | rfl
  · exact w_c0
  · exact w_c1
  · exact w_c2
  · exact w_c3
  · exact w_c4
set_option maxRecDepth 65536 in
theorem w_t1 : (words1.take 24).all (fun c => isCode c || c.before args0 about1) = true := by decide +kernel
set_option maxRecDepth 65536 in
theorem w_t2 : (words1.drop 24).all (fun c => isCode c || c.before args0 about1) = true := by decide +kernel
theorem w_tables : (allAtoms (Jvm.Cond.code x code maxLocals ret :: tables_1)).before args0 about1 = true := by
  rw [allAtoms_all]
  show words1.all (fun c => c.before args0 about1) = true
  refine all_split ?_ w_codes
  rw [← List.take_append_drop 24 words1, List.all_append, w_t1, w_t2]
  rfl
set_option maxRecDepth 65536 in
theorem w_case : (Jvm.Cond.and given_1 narrow_1).before args0 about1 = true := by decide +kernel
theorem w_applies : (headSpec (Jvm.Cond.code x code maxLocals ret :: tables_1) room_1).applies x e0.platform about1 = true :=
  (Spec.applies_iff w_frames).mpr ⟨w_running, w_runnable, w_alone, w_named, w_hears, w_ripe, w_room, w_tables⟩
theorem atStart : AtStart classFile x code maxLocals ret World_1 tables_1 room_1 Calls_1 rest_1 Pre_1 launch0 p0 e0 about1 theMethod args0 below0 :=
  ⟨lists_1, trivial, launch0.admits_env _ _ _, launch0.least_env, fairChoices_fair.cas, fairChoices_fair.clock, w_frames, w_args, w_heap, w_applies, trivial, trivial, w_case⟩
end start1
theorem witness_1 : WitnessClaimed_1 := ⟨start1.p0, start1.e0, start1.about1, start1.theMethod, start1.args0, start1.below0, start1.atStart⟩
end Jvm.Pilot.@@N@@
