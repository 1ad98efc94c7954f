import JvmDerived
import JvmDerived.Pilot.@@N@@Statement
import JvmDerived.Pilot.@@N@@Code
set_option linter.unusedVariables false
set_option linter.unusedSimpArgs false
namespace Jvm.RoadKit
open Sem ClassFile Op Lib Jvm.Stand Jvm.Free Jvm.LawKit
section New
variable {p : Program} {l : Launch} {e : Env} {R : Room} {s : State} {m : MethodId} {args : Array Value} {below : List Frame} {meth : Method} {c : Code} {T : State} {locs : List Loc} {cells slots : Nat}
theorem retI (X : Stand p l e R s m args below meth c T locs cells slots) (hx : p.tables.exec = Jvm.exec) {pc : Nat} {Ls : Array Slot} {z : Int32} {rest : List Value} (hret : meth.sig.returnType = some .int) (hd : decode c.code pc = .ok (.ireturn, 1)) {fs : List Frame}
    (hl : ∀ (f : JFrame) (acts : List Action), f.method = m → f.locked = none → f.entered = [] → (doReturn e (T.setTop f) acts (some (.int z))).1 = T.setFrames fs) : Steps p.tables e below (T.setTop (mkF m pc Ls (.int z :: rest))) (T.setFrames fs) := by
  have hm' : T.vm.method? m = some meth := X.method'
  have hn : narrow .int (.int z) = .int z := rfl
  show Steps p.tables e below (T.setTop { method := m, pc := pc, locals := Ls, stack := _ :: rest, locked := none }) _
  jvm_step X.here [X.here.top, hx, hd, hm', hret, hn]
  first | (intro acts; rw [hl _ acts rfl rfl rfl]) | rw [hl _ _ rfl rfl rfl]
  exact Steps.refl _
theorem retJ (X : Stand p l e R s m args below meth c T locs cells slots) (hx : p.tables.exec = Jvm.exec) {pc : Nat} {Ls : Array Slot} {z : Int64} {rest : List Value} (hret : meth.sig.returnType = some .long) (hd : decode c.code pc = .ok (.lreturn, 1)) {fs : List Frame}
    (hl : ∀ (f : JFrame) (acts : List Action), f.method = m → f.locked = none → f.entered = [] → (doReturn e (T.setTop f) acts (some (.long z))).1 = T.setFrames fs) : Steps p.tables e below (T.setTop (mkF m pc Ls (.long z :: rest))) (T.setFrames fs) :=
  retOut X hx hret rfl (Or.inr (Or.inl ⟨rfl, rfl, z, rfl⟩)) hd hl
theorem retA (X : Stand p l e R s m args below meth c T locs cells slots) (hx : p.tables.exec = Jvm.exec) {pc : Nat} {Ls : Array Slot} {a : Addr} {t : FieldType} {rest : List Value} (hret : meth.sig.returnType = some t) (ht : t.isReference = true) (hd : decode c.code pc = .ok (.areturn, 1)) {fs : List Frame}
    (hl : ∀ (f : JFrame) (acts : List Action), f.method = m → f.locked = none → f.entered = [] → (doReturn e (T.setTop f) acts (some (.ref a))).1 = T.setFrames fs) : Steps p.tables e below (T.setTop (mkF m pc Ls (.ref a :: rest))) (T.setFrames fs) :=
  retOut X hx hret (by cases t <;> first | rfl | (simp [FieldType.isReference] at ht)) (Or.inr (Or.inr (Or.inr (Or.inr ⟨rfl, ht, rfl⟩)))) hd hl
end New
end Jvm.RoadKit
namespace Jvm.Pilot.@@N@@
open Jvm Jvm.ClassFile Sem Op Lib Jvm.Free Jvm.Stand Jvm.LawKit Jvm.RoadKit Bundle Jvm.Pilot.@@N@@.Jvm.D
section OwnKit
variable {p : Program} {l : Launch} {e : Env} {R : Room} {s : State} {m : MethodId} {args : Array Value} {below : List Frame} {meth : Method} {c : Code} {T : State} {locs : List Loc} {cells slots : Nat} {Z : State} {h h' : Heap}
/-- one body's contract, with the walk's goal as a closed predicate K: 'go' takes a step, 'fin' leaves the method -/
theorem own_body {y : MethodName} {bytes : ByteArray} {maxL : Nat} {ret : Option FieldType} {ws : List Jvm.Cond} {rm : Room} {h0 : Heap} {Q : Option Value → Heap → List Loc → Prop} (hp : plainFor y = true)
    (body : ∀ (p : Program) (e : Env) (s : State) (m : MethodId) (below : List Frame) (meth : Method) (c : Code) (s₁ : State) (K : State → Prop),
      (∀ U U', (∀ t, Steps p.tables e below U' t → Steps p.tables e below U t) → K U' → K U) →
      (∀ {T : State} {locs : List Loc} {cells slots : Nat} {g : JFrame} (v : Option Value), Stand p l e rm s m args below meth c T locs cells slots → cells ≤ rm.cells → slots ≤ rm.slots → (ret = none → v = none) → Q v T.heap locs →
        (∀ fs, (∀ (f : JFrame) (acts : List Action), f.method = m → f.locked = none → f.entered = [] → (doReturn e (T.setTop f) acts v).1 = T.setFrames fs) → Steps p.tables e below (T.setTop g) (T.setFrames fs)) → K (T.setTop g)) →
      Stand p l e rm s m args below meth c s₁ [] 0 0 → p.tables.exec = Jvm.exec → c.code = bytes → c.maxLocals = maxL → s.vm.findClass y.cls = some m.cls → meth.name = y.name → meth.sig.returnType = ret → Z.Warmed39 s.vm → s₁.heap = h0 → K (s₁.setTop (entryFrame m args maxL))) :
    MetFree l y (head1 (Jvm.Cond.code y bytes maxL ret :: ws) rm) (fun a U => a = args ∧ Z.Warmed39 U.vm ∧ U.heap = h0) (fun _ _ _ _ _ => True) (fun _ U o U' => ∃ v L, o = .returned v ∧ Q v U'.heap L ∧ FrameEnd U o U' L rm.cells rm.slots) := by
  refine MetFree.of_bodySF hp hisR ?_
  intro p e s m args' below meth c s₁ Bd hml hP hK
  obtain ⟨rfl, hZ, hh⟩ := hP
  refine body p e s m below meth c s₁ (fun U => ∃ s₂ o, Steps p.tables e below U s₂ ∧ s₂.status = .running ∧ Ended s₂ below o ∧ ∃ v L, o = .returned v ∧ Q v s₂.heap L ∧ FrameEnd s o s₂ L rm.cells rm.slots) ?_ ?_ (Stand.of_body Bd) Bd.exec Bd.bytes hml (findClass_of_methodNamed Bd.named) (name_of_methodNamed Bd.named Bd.method).1 Bd.returns hZ (by rw [← hh, Bd.state]; rfl)
  · rintro U U' st ⟨s₂, o, h1, h2⟩
    exact ⟨s₂, o, st _ h1, h2⟩
  · intro T locs cells slots g v X hc hs hv hQ hst
    obtain ⟨fs, hr, hrun, hended, hW, hsame⟩ := X.leave (v := v) (fun q => hv (Bd.returns ▸ q))
    exact ⟨_, _, hst fs hr, hrun, hended, v, locs, rfl, hQ, ⟨_, rfl⟩, hW, hsame.mono hc hs⟩
/-! Java's shifts and the narrowing to a byte -/
def jushr (x y : Int32) : Int32 := (x.toUInt32 >>> (y &&& 31).toUInt32).toInt32
def jshl (x y : Int32) : Int32 := x <<< (y &&& 31)
def jshr (x y : Int32) : Int32 := x >>> (y &&& 31)
def jushrL (x : Int64) (y : Int32) : Int64 := (x.toUInt64 >>> (y &&& 0x3f).toInt64.toUInt64).toInt64
def jshlL (x : Int64) (y : Int32) : Int64 := x <<< (y &&& 0x3f).toInt64
def jshrL (x : Int64) (y : Int32) : Int64 := x >>> (y &&& 0x3f).toInt64
def jb (x : Int32) : Int32 := x.toInt8.toInt32
theorem own_lrem {g : JFrame} {target : State} (X : Stand p l e R s m args below meth c T locs cells slots) (hx : p.tables.exec = Jvm.exec) (hg : g.method = m) {x y : Int64} {rest : List Value} (hd : decode c.code g.pc = .ok (.lrem, 1)) (hs : g.stack = .long y :: .long x :: rest) (hy : y ≠ 0)
    (hr : Steps p.tables e below (T.setTop { g with pc := g.pc + 1, stack := .long (x % y) :: rest }) target) : Steps p.tables e below (T.setTop g) target :=
  XS.lrem X.here hx hg hd hs hy (by rw [lrem_mod]; exact hr)
theorem own_narb (x : Int32) : nar .byte (jb x) = jb x := by simp [nar, jb]
/-! an array by its length and what its places hold -/
def own_upd (f : Nat → Value) (i : Nat) (v : Value) : Nat → Value := fun j => if j = i then v else f j
theorem own_hit (f : Nat → Value) (i : Nat) (v : Value) : own_upd f i v i = v := if_pos rfl
theorem own_miss {f : Nat → Value} {i j : Nat} {v : Value} (q : j ≠ i) : own_upd f i v j = f j := if_neg q
def AF (Z : State) (h : Heap) (a : Addr) (ty : FieldType) (n : Nat) (f : Nat → Value) : Prop := n < 2 ^ 31 ∧ ∃ c : Cell, Arr Z h a c ty ∧ c.slots.size = n ∧ ∀ j, j < n → c.slots[j]? = some (f j)
theorem AF.lt {a : Addr} {ty : FieldType} {n : Nat} {f : Nat → Value} (A : AF Z h a ty n f) : a < h.size := by obtain ⟨-, c, A, -⟩ := A; exact A.lt
theorem AF.ext {a : Addr} {ty : FieldType} {n : Nat} {f : Nat → Value} (A : AF Z h a ty n f) (E : Ext h h') : AF Z h' a ty n f := by obtain ⟨q, c, A, r⟩ := A; exact ⟨q, c, A.ext E, r⟩
theorem AF.other {a b : Addr} {sl : Nat} {v : Value} {ty : FieldType} {n : Nat} {f : Nat → Value} (A : AF Z h b ty n f) (W : Wr h h' a sl v) (q : b ≠ a) : AF Z h' b ty n f := by obtain ⟨q1, c, A, r⟩ := A; exact ⟨q1, c, A.other W q, r⟩
theorem AF.keep {a : Addr} {ws : List Addr} {ty : FieldType} {n : Nat} {f : Nat → Value} (A : AF Z h a ty n f) (K : Keep h h' ws) (q : a ∉ ws) : AF Z h' a ty n f := by obtain ⟨q1, c, A, r⟩ := A; exact ⟨q1, c, ⟨K.2.1 a c A.1 q, A.2⟩, r⟩
theorem AF.congr {a : Addr} {ty : FieldType} {n : Nat} {f f' : Nat → Value} (A : AF Z h a ty n f) (q : ∀ j, j < n → f j = f' j) : AF Z h a ty n f' := by obtain ⟨q1, c, A, S, r⟩ := A; exact ⟨q1, c, A, S, fun j hj => by rw [← q j hj]; exact r j hj⟩
theorem AF.len {a : Addr} {ty : FieldType} {n : Nat} {f : Nat → Value} (A : AF Z h a ty n f) : n < 2 ^ 31 := A.1
theorem own_idx {j : Int32} {i : Nat} (hj : j.toInt = (i : Int)) : j.toNatClampNeg = i := by simp only [Int32.toNatClampNeg, hj]; omega
theorem own_in {j : Int32} {i n : Nat} {c : Cell} (S : c.slots.size = n) (hj : j.toInt = (i : Int)) (hi : i < n) : ¬ (j < 0 ∨ c.slots.size ≤ j.toNatClampNeg) := by
  rw [own_idx hj, S, Int32.lt_iff_toInt_lt, hj]
  simp only [Int32.toInt_zero]
  omega
theorem own_set {a : Addr} {ty : FieldType} {n i : Nat} {f : Nat → Value} {cl : Cell} {v : Value} (q1 : n < 2 ^ 31) (A : Arr Z h a cl ty) (S : cl.slots.size = n) (H : ∀ j, j < n → cl.slots[j]? = some (f j)) (W : Wr h h' a i v) (hi : i < n) : AF Z h' a ty n (own_upd f i v) := by
  refine ⟨q1, _, A.same W, by rw [sz_set]; exact S, fun j hj => ?_⟩
  simp only [Cell.setSlot, own_upd]
  by_cases q : j = i
  · subst q; rw [if_pos rfl]; simp [S, hj]
  · rw [if_neg q, Array.getElem?_setIfInBounds_ne (fun z => q z.symm)]; exact H j hj
theorem own_stI (X : Stand p l e R s m args below meth c T locs cells slots) (hx : p.tables.exec = Jvm.exec) (hZ : Z.Warmed39 s.vm) (eT : T.heap = h) {a : Addr} {n i : Nat} {f : Nat → Value} (A : AF Z h a .int n f) {j x : Int32} (hj : j.toInt = (i : Int)) (hi : i < n) {g : JFrame} (hg : g.method = m) {rest : List Value} (hs : g.stack = .int x :: .int j :: .ref a :: rest) (hd : decode c.code g.pc = .ok (.iastore, 1)) :
    ∃ T' h', Stand p l e R s m args below meth c T' (locs ++ [⟨a, i⟩]) cells slots ∧ T'.heap = h' ∧ Wr h h' a i (.int x) ∧ AF Z h' a .int n (own_upd f i (.int x)) ∧ ∀ target, Steps p.tables e below (T'.setTop { g with pc := g.pc + 1, stack := rest }) target → Steps p.tables e below (T.setTop g) target := by
  obtain ⟨q1, cl, Ar, S, H⟩ := A
  obtain ⟨T', h', X', e', W, st⟩ := stI X hx hZ eT Ar (j := j) (own_in S hj hi) hg hs hd
  rw [own_idx hj] at X' W
  exact ⟨T', h', X', e', W, own_set q1 Ar S H W hi, st⟩
theorem own_stJ (X : Stand p l e R s m args below meth c T locs cells slots) (hx : p.tables.exec = Jvm.exec) (hZ : Z.Warmed39 s.vm) (eT : T.heap = h) {a : Addr} {n i : Nat} {f : Nat → Value} (A : AF Z h a .long n f) {j : Int32} {x : Int64} (hj : j.toInt = (i : Int)) (hi : i < n) {g : JFrame} (hg : g.method = m) {rest : List Value} (hs : g.stack = .long x :: .int j :: .ref a :: rest) (hd : decode c.code g.pc = .ok (.lastore, 1)) :
    ∃ T' h', Stand p l e R s m args below meth c T' (locs ++ [⟨a, i⟩]) cells slots ∧ T'.heap = h' ∧ Wr h h' a i (.long x) ∧ AF Z h' a .long n (own_upd f i (.long x)) ∧ ∀ target, Steps p.tables e below (T'.setTop { g with pc := g.pc + 1, stack := rest }) target → Steps p.tables e below (T.setTop g) target := by
  obtain ⟨q1, cl, Ar, S, H⟩ := A
  obtain ⟨T', h', X', e', W, st⟩ := stJ X hx hZ eT Ar (j := j) (own_in S hj hi) hg hs hd
  rw [own_idx hj] at X' W
  exact ⟨T', h', X', e', W, own_set q1 Ar S H W hi, st⟩
theorem own_stB (X : Stand p l e R s m args below meth c T locs cells slots) (hx : p.tables.exec = Jvm.exec) (hZ : Z.Warmed39 s.vm) (eT : T.heap = h) {a : Addr} {n i : Nat} {f : Nat → Value} (A : AF Z h a .byte n f) {j x : Int32} (hj : j.toInt = (i : Int)) (hi : i < n) (hn : nar .byte x = x) {g : JFrame} (hg : g.method = m) {rest : List Value} (hs : g.stack = .int x :: .int j :: .ref a :: rest) (hd : decode c.code g.pc = .ok (.bastore, 1)) :
    ∃ T' h', Stand p l e R s m args below meth c T' (locs ++ [⟨a, i⟩]) cells slots ∧ T'.heap = h' ∧ Wr h h' a i (.int x) ∧ AF Z h' a .byte n (own_upd f i (.int x)) ∧ ∀ target, Steps p.tables e below (T'.setTop { g with pc := g.pc + 1, stack := rest }) target → Steps p.tables e below (T.setTop g) target := by
  obtain ⟨q1, cl, Ar, S, H⟩ := A
  obtain ⟨T', h', X', e', W, st⟩ := stB X hx hZ eT Ar (j := j) (own_in S hj hi) hg hs hd
  rw [own_idx hj] at X' W
  rw [hn] at W
  exact ⟨T', h', X', e', W, own_set q1 Ar S H W hi, st⟩
theorem own_new (X : Stand p l e R s m args below meth c T locs cells slots) (hx : p.tables.exec = Jvm.exec) (hZ : Z.Warmed39 s.vm) {a0 : Array Value} {aty : ArrayType} (w : (Cond.arrayClass (newarray.typeOf aty)).before a0 Z = true) (eT : T.heap = h) {g : JFrame} (hg : g.method = m) (hd : decode c.code g.pc = .ok (.newarray aty, 2)) {n : Int32} {rest : List Value} (hs : g.stack = .int n :: rest)
    {k : Nat} (hn : n.toInt = (k : Int)) (cap : Nat) (hcap : k ≤ cap) (hb : cap * 8 ≤ 536870912) (hc : cells + 1 ≤ R.cells) (hl : slots + cap ≤ R.slots) :
    ∃ T' h' a, Stand p l e R s m args below meth c T' locs (cells + 1) (slots + cap) ∧ T'.heap = h' ∧ Ext h h' ∧ a = h.size ∧ AF Z h' a (newarray.typeOf aty) k (fun _ => defaultValue (newarray.typeOf aty)) ∧
      ∀ target, Steps p.tables e below (T'.setTop { g with pc := g.pc + 2, stack := .ref a :: rest }) target → Steps p.tables e below (T.setTop g) target := by
  have hn0 : ¬ n < 0 := by rw [Int32.lt_iff_toInt_lt, hn]; simp only [Int32.toInt_zero]; omega
  have hk : n.toNatClampNeg = k := own_idx hn
  have hk31 : k < 2 ^ 31 := by have := n.toInt_lt; omega
  obtain ⟨T', h', cA, X', e', E, A, st⟩ := newP X hx hZ w eT hg hd hs hn0 (by rw [hk]; exact hcap) hb hc hl
  refine ⟨T', h', h.size, X', e', E, rfl, ⟨hk31, _, A, by rw [sz_new, hk], fun j hj => ?_⟩, st⟩
  simp [newA, hk, hj]
theorem own_ldI (X : Stand p l e R s m args below meth c T locs cells slots) (hx : p.tables.exec = Jvm.exec) (hZ : Z.Warmed39 s.vm) (eT : T.heap = h) {a : Addr} {n i : Nat} {f : Nat → Value} (A : AF Z h a .int n f) {j : Int32} (hj : j.toInt = (i : Int)) (hi : i < n) {g : JFrame} (hg : g.method = m) {rest : List Value} (hs : g.stack = .int j :: .ref a :: rest) (hd : decode c.code g.pc = .ok (.iaload, 1)) {v : Value} (hv : f i = v) (target : State)
    (hr : Steps p.tables e below (T.setTop { g with pc := g.pc + 1, stack := v :: rest }) target) : Steps p.tables e below (T.setTop g) target := by
  obtain ⟨-, cl, Ar, S, H⟩ := A
  exact X.iaload hx (j := j) (v := v) (by rw [eT]; exact Ar.1) (State.isArrayOf_alike hZ.alike Ar.2.1) Ar.2.2 (own_in S hj hi) (by rw [own_idx hj, ← hv]; exact H i hi) hg hs hd target hr
theorem own_ldJ (X : Stand p l e R s m args below meth c T locs cells slots) (hx : p.tables.exec = Jvm.exec) (hZ : Z.Warmed39 s.vm) (eT : T.heap = h) {a : Addr} {n i : Nat} {f : Nat → Value} (A : AF Z h a .long n f) {j : Int32} (hj : j.toInt = (i : Int)) (hi : i < n) {g : JFrame} (hg : g.method = m) {rest : List Value} (hs : g.stack = .int j :: .ref a :: rest) (hd : decode c.code g.pc = .ok (.laload, 1)) {v : Value} (hv : f i = v) (target : State)
    (hr : Steps p.tables e below (T.setTop { g with pc := g.pc + 1, stack := v :: rest }) target) : Steps p.tables e below (T.setTop g) target := by
  obtain ⟨-, cl, Ar, S, H⟩ := A
  exact X.laload hx (j := j) (v := v) (by rw [eT]; exact Ar.1) (State.isArrayOf_alike hZ.alike Ar.2.1) Ar.2.2 (own_in S hj hi) (by rw [own_idx hj, ← hv]; exact H i hi) hg hs hd target hr
theorem own_ldB (X : Stand p l e R s m args below meth c T locs cells slots) (hx : p.tables.exec = Jvm.exec) (hZ : Z.Warmed39 s.vm) (eT : T.heap = h) {a : Addr} {n i : Nat} {f : Nat → Value} (A : AF Z h a .byte n f) {j : Int32} (hj : j.toInt = (i : Int)) (hi : i < n) {g : JFrame} (hg : g.method = m) {rest : List Value} (hs : g.stack = .int j :: .ref a :: rest) (hd : decode c.code g.pc = .ok (.baload, 1)) {v : Value} (hv : f i = v) (target : State)
    (hr : Steps p.tables e below (T.setTop { g with pc := g.pc + 1, stack := v :: rest }) target) : Steps p.tables e below (T.setTop g) target := by
  obtain ⟨-, cl, Ar, S, H⟩ := A
  exact X.baloadBytes hx (j := j) (v := v) (by rw [eT]; exact Ar.1) (State.isArrayOf_alike hZ.alike Ar.2.1) Ar.2.2 (own_in S hj hi) (by rw [own_idx hj, ← hv]; exact H i hi) hg hs hd target hr
theorem own_len (X : Stand p l e R s m args below meth c T locs cells slots) (hx : p.tables.exec = Jvm.exec) (hZ : Z.Warmed39 s.vm) (eT : T.heap = h) {a : Addr} {ty : FieldType} {n : Nat} {f : Nat → Value} (A : AF Z h a ty n f) {g : JFrame} (hg : g.method = m) {rest : List Value} (hs : g.stack = .ref a :: rest) (hd : decode c.code g.pc = .ok (.arraylength, 1)) (target : State)
    (hr : Steps p.tables e below (T.setTop { g with pc := g.pc + 1, stack := .int (Int32.ofNat n) :: rest }) target) : Steps p.tables e below (T.setTop g) target := by
  obtain ⟨-, cl, Ar, S, H⟩ := A
  refine X.arraylength hx (by rw [eT]; exact Ar.1) (State.isArrayOf_alike hZ.alike Ar.2.1) hg hs hd target ?_
  rw [S]; exact hr
end OwnKit
theorem pd_1 : parseMethodDescriptor "([JII)Z" = some ⟨[(.array .long), .int, .int], some .boolean⟩ := by decide +kernel
def own_holds (x : Int64) (p : Int32) : Int32 := if (x &&& jshlL (1 : Int64) (p % (64 : Int32))) = (0 : Int64) then (0 : Int32) else (1 : Int32)
theorem d1_0 : decode prog_65_method_15_code 0 = .ok (.aload_n 0, 1) := by decide +kernel
theorem d1_1 : decode prog_65_method_15_code 1 = .ok (.iload_n 1, 1) := by decide +kernel
theorem d1_2 : decode prog_65_method_15_code 2 = .ok (.iload_n 2, 1) := by decide +kernel
theorem d1_3 : decode prog_65_method_15_code 3 = .ok (.bipush 64, 2) := by decide +kernel
theorem d1_5 : decode prog_65_method_15_code 5 = .ok (.idiv, 1) := by decide +kernel
theorem d1_6 : decode prog_65_method_15_code 6 = .ok (.iadd, 1) := by decide +kernel
theorem d1_7 : decode prog_65_method_15_code 7 = .ok (.laload, 1) := by decide +kernel
theorem d1_8 : decode prog_65_method_15_code 8 = .ok (.lconst 1, 1) := by decide +kernel
theorem d1_9 : decode prog_65_method_15_code 9 = .ok (.iload_n 2, 1) := by decide +kernel
theorem d1_10 : decode prog_65_method_15_code 10 = .ok (.bipush 64, 2) := by decide +kernel
theorem d1_12 : decode prog_65_method_15_code 12 = .ok (.irem, 1) := by decide +kernel
theorem d1_13 : decode prog_65_method_15_code 13 = .ok (.lshl, 1) := by decide +kernel
theorem d1_14 : decode prog_65_method_15_code 14 = .ok (.land, 1) := by decide +kernel
theorem d1_15 : decode prog_65_method_15_code 15 = .ok (.lconst 0, 1) := by decide +kernel
theorem d1_16 : decode prog_65_method_15_code 16 = .ok (.lcmp, 1) := by decide +kernel
theorem d1_17 : decode prog_65_method_15_code 17 = .ok (.ifCond .eq 7, 3) := by decide +kernel
theorem d1_20 : decode prog_65_method_15_code 20 = .ok (.iconst 1, 1) := by decide +kernel
theorem d1_21 : decode prog_65_method_15_code 21 = .ok (.goto 4, 3) := by decide +kernel
theorem d1_24 : decode prog_65_method_15_code 24 = .ok (.iconst 0, 1) := by decide +kernel
theorem d1_25 : decode prog_65_method_15_code 25 = .ok (.ireturn, 1) := by decide +kernel
theorem pn_3 : plainName "com/example/bipartite_map/bipartitemap/order/GapPenalty" = true := by first | (simp [plainName, overriddenIn]; done) | decide +kernel
theorem ef_rm1 (m : MethodId) (a1 : Addr) (p1 : Int32) (p2 : Int32) : entryFrame m #[(.ref a1), (.int p1), (.int p2)] 3 = mkF m 0 #[.val (.ref a1), .val (.int p1), .val (.int p2)] [] := by first | (simp [entryFrame, mkF, argsToLocals, Value.category]; done) | rfl
def Q_rm1 (Z : State) (a1 : Addr) (p1 : Int32) (p2 : Int32) (f : Nat → Int64) (n : Nat) (i : Nat) (h0 : Heap) (n0 : Nat) (v : Option Value) (h : Heap) (L : List Loc) : Prop := v = some (.int (own_holds (f i) p2)) ∧ Fr n0 L ∧ h = h0
set_option maxRecDepth 65536 in
set_option maxHeartbeats 40000000 in
theorem rm1 (l : Launch) (Z : State) (a0 : Array Value) (hw : ∀ d ∈ tables_1, d.before a0 Z = true) (ws : List Jvm.Cond) (a1 : Addr) (p1 : Int32) (p2 : Int32) (f : Nat → Int64) (n : Nat) (i : Nat) (h0 : Heap) (n0 : Nat) (Z0 : n0 ≤ h0.size) (A0 : AF Z h0 a1 .long n (fun j => .long (f j))) (hj : (p1 + p2 / (64 : Int32)).toInt = (i : Int)) (hi : i < n) :
    MetFree l (⟨"com/example/bipartite_map/bipartitemap/order/GapPenalty", "holds", "([JII)Z"⟩ : MethodName) (head1 (Jvm.Cond.code (⟨"com/example/bipartite_map/bipartitemap/order/GapPenalty", "holds", "([JII)Z"⟩ : MethodName) prog_65_method_15_code 3 (some .boolean) :: ws) ({ frames := 0, cells := 0, slots := 0, locals := 0 } : Room)) (fun a U => a = #[(.ref a1), (.int p1), (.int p2)] ∧ Z.Warmed39 U.vm ∧ U.heap = h0) (fun _ _ _ _ _ => True) (fun _ U o U' => ∃ v L, o = .returned v ∧ Q_rm1 Z a1 p1 p2 f n i h0 n0 v U'.heap L ∧ FrameEnd U o U' L ({ frames := 0, cells := 0, slots := 0, locals := 0 } : Room).cells ({ frames := 0, cells := 0, slots := 0, locals := 0 } : Room).slots) := by
  refine own_body (Q := Q_rm1 Z a1 p1 p2 f n i h0 n0) (plainFor_of_name pn_3) ?_
  intro p e s m below meth c s₁ K go fin X0 hx hby hml hown hnm hret hZ e0
  have hown : s.vm.findClass "com/example/bipartite_map/bipartitemap/order/GapPenalty" = some m.cls := hown
  have N0 := Fr.nil n0
  refine go _ (s₁.setTop (mkF m 0 #[.val (.ref a1), .val (.int p1), .val (.int p2)] [])) (fun t k => castTop (ef_rm1 m a1 p1 p2) k) ?_
  refine go _ (s₁.setTop (mkF m 1 #[.val (.ref a1), .val (.int p1), .val (.int p2)] [(.ref a1)])) (fun t k => XS.aloadN X0.here hx rfl (hb hby d1_0) rfl rfl k) ?_
  refine go _ (s₁.setTop (mkF m 2 #[.val (.ref a1), .val (.int p1), .val (.int p2)] [(.int p1), (.ref a1)])) (fun t k => XS.iloadN X0.here hx rfl (hb hby d1_1) rfl k) ?_
  refine go _ (s₁.setTop (mkF m 3 #[.val (.ref a1), .val (.int p1), .val (.int p2)] [(.int p2), (.int p1), (.ref a1)])) (fun t k => XS.iloadN X0.here hx rfl (hb hby d1_2) rfl k) ?_
  refine go _ (s₁.setTop (mkF m 5 #[.val (.ref a1), .val (.int p1), .val (.int p2)] [(.int (64 : Int32)), (.int p2), (.int p1), (.ref a1)])) (fun t k => XS.bipush X0.here hx rfl (hb hby d1_3) k) ?_
  refine go _ (s₁.setTop (mkF m 6 #[.val (.ref a1), .val (.int p1), .val (.int p2)] [(.int (p2 / (64 : Int32))), (.int p1), (.ref a1)])) (fun t k => XS.idiv X0.here hx rfl (hb hby d1_5) rfl (by decide) k) ?_
  refine go _ (s₁.setTop (mkF m 7 #[.val (.ref a1), .val (.int p1), .val (.int p2)] [(.int (p1 + (p2 / (64 : Int32)))), (.ref a1)])) (fun t k => XS.iadd X0.here hx rfl (hb hby d1_6) rfl k) ?_
  refine go _ (s₁.setTop (mkF m 8 #[.val (.ref a1), .val (.int p1), .val (.int p2)] [(.long (f i))])) (own_ldJ X0 hx hZ e0 A0 (i := i) hj hi (g := (mkF m 7 #[.val (.ref a1), .val (.int p1), .val (.int p2)] [(.int (p1 + (p2 / (64 : Int32)))), (.ref a1)])) rfl rfl (hb hby d1_7) (v := (.long (f i))) rfl) ?_
  refine go _ (s₁.setTop (mkF m 9 #[.val (.ref a1), .val (.int p1), .val (.int p2)] [(.long (1 : Int64)), (.long (f i))])) (fun t k => XS.lconst X0.here hx rfl (hb hby d1_8) k) ?_
  refine go _ (s₁.setTop (mkF m 10 #[.val (.ref a1), .val (.int p1), .val (.int p2)] [(.int p2), (.long (1 : Int64)), (.long (f i))])) (fun t k => XS.iloadN X0.here hx rfl (hb hby d1_9) rfl k) ?_
  refine go _ (s₁.setTop (mkF m 12 #[.val (.ref a1), .val (.int p1), .val (.int p2)] [(.int (64 : Int32)), (.int p2), (.long (1 : Int64)), (.long (f i))])) (fun t k => XS.bipush X0.here hx rfl (hb hby d1_10) k) ?_
  refine go _ (s₁.setTop (mkF m 13 #[.val (.ref a1), .val (.int p1), .val (.int p2)] [(.int (p2 % (64 : Int32))), (.long (1 : Int64)), (.long (f i))])) (fun t k => iremM X0 hx rfl (hb hby d1_12) rfl (by decide) k) ?_
  refine go _ (s₁.setTop (mkF m 14 #[.val (.ref a1), .val (.int p1), .val (.int p2)] [(.long (jshlL (1 : Int64) (p2 % (64 : Int32)))), (.long (f i))])) (fun t k => XS.lshl X0.here hx rfl (hb hby d1_13) rfl k) ?_
  refine go _ (s₁.setTop (mkF m 15 #[.val (.ref a1), .val (.int p1), .val (.int p2)] [(.long ((f i) &&& (jshlL (1 : Int64) (p2 % (64 : Int32)))))])) (fun t k => XS.land X0.here hx rfl (hb hby d1_14) rfl k) ?_
  refine go _ (s₁.setTop (mkF m 16 #[.val (.ref a1), .val (.int p1), .val (.int p2)] [(.long (0 : Int64)), (.long ((f i) &&& (jshlL (1 : Int64) (p2 % (64 : Int32)))))])) (fun t k => XS.lconst X0.here hx rfl (hb hby d1_15) k) ?_
  refine go _ (s₁.setTop (mkF m 17 #[.val (.ref a1), .val (.int p1), .val (.int p2)] [(.int (lcmpW ((f i) &&& (jshlL (1 : Int64) (p2 % (64 : Int32)))) (0 : Int64)))])) (fun t k => XS.lcmp X0.here hx rfl (hb hby d1_16) rfl k) ?_
  by_cases hc1 : ((f i) &&& (jshlL (1 : Int64) (p2 % (64 : Int32)))) = (0 : Int64)
  · refine go _ (s₁.setTop (mkF m 24 #[.val (.ref a1), .val (.int p1), .val (.int p2)] [])) (fun t k => XS.ifYes X0.here hx rfl (pc0 := 17) (pc' := 24) rfl (hb hby d1_17) rfl ((if0 _ _).trans (teq ((lw_eq ((f i) &&& (jshlL (1 : Int64) (p2 % (64 : Int32)))) (0 : Int64)).mpr hc1)).1) (by decide) (by decide) k) ?_
    refine go _ (s₁.setTop (mkF m 25 #[.val (.ref a1), .val (.int p1), .val (.int p2)] [(.int (0 : Int32))])) (fun t k => XS.iconst X0.here hx rfl (hb hby d1_24) k) ?_
    exact fin (some (.int (0 : Int32))) X0 (by decide) (by decide) (fun q => by cases q) (show Q_rm1 Z a1 p1 p2 f n i h0 n0 _ s₁.heap _ from (by rw [e0]; exact ⟨congrArg some (congrArg Value.int (show (0 : Int32) = own_holds (f i) p2 from (by unfold own_holds; rw [if_pos hc1]))), N0, rfl⟩)) (fun fs hr => retN X0 hx (t := .boolean) hret (by simp) (hb hby d1_25) hr)
  · refine go _ (s₁.setTop (mkF m 20 #[.val (.ref a1), .val (.int p1), .val (.int p2)] [])) (fun t k => XS.ifNo X0.here hx rfl (hb hby d1_17) rfl ((if0 _ _).trans (feq (fun q => hc1 ((lw_eq ((f i) &&& (jshlL (1 : Int64) (p2 % (64 : Int32)))) (0 : Int64)).mp q))).1) k) ?_
    refine go _ (s₁.setTop (mkF m 21 #[.val (.ref a1), .val (.int p1), .val (.int p2)] [(.int (1 : Int32))])) (fun t k => XS.iconst X0.here hx rfl (hb hby d1_20) k) ?_
    refine go _ (s₁.setTop (mkF m 25 #[.val (.ref a1), .val (.int p1), .val (.int p2)] [(.int (1 : Int32))])) (fun t k => XS.goto X0.here hx rfl (pc0 := 21) (pc' := 25) rfl (hb hby d1_21) (by decide) (by decide) k) ?_
    exact fin (some (.int (1 : Int32))) X0 (by decide) (by decide) (fun q => by cases q) (show Q_rm1 Z a1 p1 p2 f n i h0 n0 _ s₁.heap _ from (by rw [e0]; exact ⟨congrArg some (congrArg Value.int (show (1 : Int32) = own_holds (f i) p2 from (by unfold own_holds; rw [if_neg hc1]))), N0, rfl⟩)) (fun fs hr => retN X0 hx (t := .boolean) hret (by simp) (hb hby d1_25) hr)
def own_b3 (a b c : Int64) (i : Nat) : Int64 := if i = 0 then a else if i = 1 then b else c
section OwnSh
theorem own_bvushr (x y : Int32) : (jushr x y).toBitVec = x.toBitVec >>> (y.toBitVec.toNat % 32) := by
  have e : (jushr x y).toBitVec = x.toBitVec >>> ((y &&& 31).toUInt32 % 32).toBitVec.toNat := rfl
  have t : ((y &&& 31).toUInt32 % 32).toBitVec.toNat = y.toBitVec.toNat % 32 := by
    show (y.toBitVec &&& 31#32).toNat % 32 = _
    rw [BitVec.toNat_and]
    show (y.toBitVec.toNat &&& (2 ^ 5 - 1)) % 32 = _
    rw [Nat.and_two_pow_sub_one_eq_mod]
    omega
  rw [e, t]
theorem own_bvshl (x y : Int32) : (jshl x y).toBitVec = x.toBitVec <<< (y.toBitVec.toNat % 32) := by
  have e : (jshl x y).toBitVec = x.toBitVec <<< ((y &&& 31).toBitVec.smod 32).toNat := rfl
  rw [e, sm32 y _ rfl]
theorem own_bvshr (x y : Int32) : (jshr x y).toBitVec = x.toBitVec.sshiftRight (y.toBitVec.toNat % 32) := by
  have e : (jshr x y).toBitVec = x.toBitVec.sshiftRight ((y &&& 31).toBitVec.smod 32).toNat := rfl
  rw [e, sm32 y _ rfl]
theorem own_bvushrL (x : Int64) (y : Int32) : (jushrL x y).toBitVec = x.toBitVec >>> (y.toBitVec.toNat % 64) := by
  have e : (jushrL x y).toBitVec = x.toBitVec >>> ((y &&& 0x3f).toInt64.toBitVec % 64#64).toNat := rfl
  obtain ⟨h1, h2⟩ := sm64 y _ rfl
  have t : ((y &&& 0x3f).toInt64.toBitVec % 64#64).toNat = y.toBitVec.toNat % 64 := by
    rw [h1, BitVec.toNat_umod, BitVec.toNat_ofNat, BitVec.toNat_ofNat]
    show y.toBitVec.toNat % 64 % 18446744073709551616 % 64 = _
    omega
  rw [e, t]
theorem own_bvshlL (x : Int64) (y : Int32) : (jshlL x y).toBitVec = x.toBitVec <<< (y.toBitVec.toNat % 64) := by
  have e : (jshlL x y).toBitVec = x.toBitVec <<< ((y &&& 0x3f).toInt64.toBitVec.smod 64).toNat := rfl
  obtain ⟨h1, h2⟩ := sm64 y _ rfl
  rw [e, h1, smod64 _ h2]
theorem own_nat32 (y : Int32) (k : Nat) (h : y.toInt = (k : Int)) : y.toBitVec.toNat = k := by
  have a1 : y.toInt = if 2 * y.toBitVec.toNat < 2 ^ 32 then (y.toBitVec.toNat : Int) else (y.toBitVec.toNat : Int) - ((2 ^ 32 : Nat) : Int) := BitVec.toInt_eq_toNat_cond y.toBitVec
  have b := y.toBitVec.isLt
  generalize y.toBitVec.toNat = n at *
  split at a1 <;> omega
end OwnSh
theorem pn_5 : plainName "com/example/bipartite_map/bipartitemap/order/GapPenaltyHoldsPinLaw" = true := by first | (simp [plainName, overriddenIn]; done) | decide +kernel
theorem ef_rm0 (m : MethodId) (q1 : Int64) (q2 : Int64) (q3 : Int64) (p1 : Int32) (p2 : Int32) : entryFrame m #[(.long q1), (.long q2), (.long q3), (.int p1), (.int p2)] maxLocals = mkF m 0 #[.val (.long q1), .second, .val (.long q2), .second, .val (.long q3), .second, .val (.int p1), .val (.int p2), .unset, .unset, .unset, .unset, .unset, .unset] [] := by first | (simp [entryFrame, mkF, argsToLocals, Value.category, maxLocals]; done) | rfl
def v_rm0_0 (p1 : Int32) : Int32 := ((p1 &&& (2147483647 : Int32)) % (3 : Int32))
def v_rm0_1 (p2 : Int32) (p1 : Int32) : Int32 := ((p2 &&& (2147483647 : Int32)) % ((64 : Int32) * ((3 : Int32) - (v_rm0_0 p1))))
theorem own_off (p1 : Int32) : 0 ≤ (v_rm0_0 p1).toInt ∧ (v_rm0_0 p1).toInt ≤ 2 := by
  have m := c_mask p1 2147483647 31 (by decide) (by decide +kernel)
  have q := c_irem (p1 &&& 2147483647) 3 3 (by decide)
  unfold v_rm0_0
  have q1 := q.1 (by omega)
  omega
theorem own_len3 (p1 : Int32) : ((64 : Int32) * ((3 : Int32) - (v_rm0_0 p1))).toInt = 64 * (3 - (v_rm0_0 p1).toInt) := by
  have r := own_off p1
  have e1 := c_isub 3 (v_rm0_0 p1)
  have e2 := c_imul 64 (3 - v_rm0_0 p1)
  have e3 : (3 : Int32).toInt = 3 := by decide
  have e4 : (64 : Int32).toInt = 64 := by decide
  have b1 := rng32 (3 - v_rm0_0 p1)
  have b2 := rng32 (64 * (3 - v_rm0_0 p1))
  rw [e3] at e1
  rw [e4] at e2
  generalize (v_rm0_0 p1).toInt = o at *
  generalize (64 * (3 - v_rm0_0 p1)).toInt = y at *
  generalize (3 - v_rm0_0 p1).toInt = x at *
  omega
theorem own_nz (p1 : Int32) : ((64 : Int32) * ((3 : Int32) - (v_rm0_0 p1))) ≠ 0 := fun h => by
  have e := own_len3 p1
  have r := own_off p1
  rw [h] at e
  have e0 : (0 : Int32).toInt = 0 := by decide
  omega
theorem own_pos (p1 p2 : Int32) : 0 ≤ (v_rm0_1 p2 p1).toInt ∧ (v_rm0_1 p2 p1).toInt < 64 * (3 - (v_rm0_0 p1).toInt) := by
  have m := c_mask p2 2147483647 31 (by decide) (by decide +kernel)
  have r := own_off p1
  have e := own_len3 p1
  have q := (c_iremV (p2 &&& 2147483647) ((64 : Int32) * ((3 : Int32) - (v_rm0_0 p1)))).1 (by omega) (by omega)
  unfold v_rm0_1
  omega
theorem own_div (p1 p2 : Int32) : (v_rm0_1 p2 p1 / (64 : Int32)).toInt = (v_rm0_1 p2 p1).toInt / 64 ∧ (v_rm0_1 p2 p1 % (64 : Int32)).toInt = (v_rm0_1 p2 p1).toInt % 64 := by
  have r := own_pos p1 p2
  exact ⟨(c_idiv _ 64 64 (by decide) (by decide)).1 r.1, (c_irem _ 64 64 (by decide)).1 r.1⟩
theorem own_cc (p1 p2 w : Int32) (z : Int) (hz : w.toInt = z) (h0 : 64 * z ≤ (v_rm0_1 p2 p1).toInt) (h1 : (v_rm0_1 p2 p1).toInt < 64 * z + 64) (h2 : 0 ≤ z) (b : Int32) (hb : b.toInt = (v_rm0_1 p2 p1).toInt - 64 * z) :
    ∃ i : Nat, i < 3 ∧ (v_rm0_0 p1 + w).toInt = (i : Int) ∧ (v_rm0_0 p1 + v_rm0_1 p2 p1 / (64 : Int32)).toInt = (i : Int) ∧ v_rm0_1 p2 p1 % (64 : Int32) = b ∧ 0 ≤ b.toInt ∧ b.toInt < 64 := by
  have r := own_off p1
  have s := own_pos p1 p2
  have d := own_div p1 p2
  have a1 := c_iadd (v_rm0_0 p1) w
  have a2 := c_iadd (v_rm0_0 p1) (v_rm0_1 p2 p1 / 64)
  have g1 := rng32 (v_rm0_0 p1 + w)
  have g2 := rng32 (v_rm0_0 p1 + v_rm0_1 p2 p1 / 64)
  refine ⟨((v_rm0_0 p1).toInt + z).toNat, ?_, ?_, ?_, ?_, ?_, ?_⟩
  · omega
  · omega
  · omega
  · rw [← Int32.toInt_inj, d.2, hb]; omega
  · omega
  · omega
theorem own_c1 (p1 p2 : Int32) (h : v_rm0_1 p2 p1 < (64 : Int32)) :
    ∃ i : Nat, i < 3 ∧ (v_rm0_0 p1 + (0 : Int32)).toInt = (i : Int) ∧ (v_rm0_0 p1 + v_rm0_1 p2 p1 / (64 : Int32)).toInt = (i : Int) ∧ v_rm0_1 p2 p1 % (64 : Int32) = v_rm0_1 p2 p1 ∧ 0 ≤ (v_rm0_1 p2 p1).toInt ∧ (v_rm0_1 p2 p1).toInt < 64 := by
  have s := own_pos p1 p2
  have e : (64 : Int32).toInt = 64 := by decide
  rw [Int32.lt_iff_toInt_lt] at h
  exact own_cc p1 p2 0 0 (by decide) (by omega) (by omega) (by omega) _ (by omega)
theorem own_c2 (p1 p2 : Int32) (h : ¬ v_rm0_1 p2 p1 < (64 : Int32)) (h2 : v_rm0_1 p2 p1 < (128 : Int32)) :
    ∃ i : Nat, i < 3 ∧ (v_rm0_0 p1 + (1 : Int32)).toInt = (i : Int) ∧ (v_rm0_0 p1 + v_rm0_1 p2 p1 / (64 : Int32)).toInt = (i : Int) ∧ v_rm0_1 p2 p1 % (64 : Int32) = v_rm0_1 p2 p1 - (64 : Int32) ∧ 0 ≤ (v_rm0_1 p2 p1 - (64 : Int32)).toInt ∧ (v_rm0_1 p2 p1 - (64 : Int32)).toInt < 64 := by
  have s := own_pos p1 p2
  have e : (64 : Int32).toInt = 64 := by decide
  have e' : (128 : Int32).toInt = 128 := by decide
  have a := c_isub (v_rm0_1 p2 p1) 64
  have g := rng32 (v_rm0_1 p2 p1 - 64)
  rw [Int32.lt_iff_toInt_lt] at h h2
  exact own_cc p1 p2 1 1 (by decide) (by omega) (by omega) (by omega) _ (by omega)
theorem own_c3 (p1 p2 : Int32) (h : ¬ v_rm0_1 p2 p1 < (64 : Int32)) (h2 : ¬ v_rm0_1 p2 p1 < (128 : Int32)) :
    ∃ i : Nat, i < 3 ∧ (v_rm0_0 p1 + (2 : Int32)).toInt = (i : Int) ∧ (v_rm0_0 p1 + v_rm0_1 p2 p1 / (64 : Int32)).toInt = (i : Int) ∧ v_rm0_1 p2 p1 % (64 : Int32) = v_rm0_1 p2 p1 - (128 : Int32) ∧ 0 ≤ (v_rm0_1 p2 p1 - (128 : Int32)).toInt ∧ (v_rm0_1 p2 p1 - (128 : Int32)).toInt < 64 := by
  have s := own_pos p1 p2
  have e : (64 : Int32).toInt = 64 := by decide
  have e' : (128 : Int32).toInt = 128 := by decide
  have a := c_isub (v_rm0_1 p2 p1) 128
  have g := rng32 (v_rm0_1 p2 p1 - 128)
  have r := own_off p1
  rw [Int32.lt_iff_toInt_lt] at h h2
  exact own_cc p1 p2 2 2 (by decide) (by omega) (by omega) (by omega) _ (by omega)
theorem own_bitA (x : BitVec 64) (k : Nat) : ((x >>> k) &&& 1#64 = 0#64) ↔ x.getLsbD k = false := by
  constructor
  · intro h
    have t := congrArg (fun z => z.getLsbD 0) h
    simpa using t
  · intro h
    apply BitVec.eq_of_getLsbD_eq
    intro i hi
    rw [BitVec.getLsbD_and, BitVec.getLsbD_ushiftRight]
    rcases i with _ | i
    · simp [h]
    · simp
theorem own_bitB (x : BitVec 64) (k : Nat) (hk : k < 64) : (x &&& (1#64 <<< k) = 0#64) ↔ x.getLsbD k = false := by
  constructor
  · intro h
    have t := congrArg (fun z => z.getLsbD k) h
    simpa [BitVec.getLsbD_and, BitVec.getLsbD_shiftLeft, hk] using t
  · intro h
    apply BitVec.eq_of_getLsbD_eq
    intro i hi
    rw [BitVec.getLsbD_and, BitVec.getLsbD_shiftLeft]
    by_cases q : i = k
    · subst q; simp [h]
    · by_cases q2 : i < k
      · simp [q2]
      · have : i - k ≠ 0 := by omega
        simp [q2, this]
theorem own_hold (x : Int64) (p b : Int32) (hm : p % (64 : Int32) = b) (h0 : 0 ≤ b.toInt) (h1 : b.toInt < 64) : ((jushrL x b &&& (1 : Int64)) = (0 : Int64)) ↔ ((x &&& jshlL (1 : Int64) (p % (64 : Int32))) = (0 : Int64)) := by
  rw [hm]
  have hk : b.toBitVec.toNat = b.toInt.toNat := own_nat32 b _ (by omega)
  rw [← Int64.toBitVec_inj, ← Int64.toBitVec_inj, Int64.toBitVec_and, Int64.toBitVec_and, own_bvushrL, own_bvshlL]
  exact (own_bitA _ _).trans (own_bitB _ _ (by omega)).symm
theorem own_hold0 (x : Int64) (p b : Int32) (hm : p % (64 : Int32) = b) (h0 : 0 ≤ b.toInt) (h1 : b.toInt < 64) (h : (jushrL x b &&& (1 : Int64)) = (0 : Int64)) : own_holds x p = (0 : Int32) := by
  unfold own_holds; rw [if_pos ((own_hold x p b hm h0 h1).mp h)]
theorem own_hold1 (x : Int64) (p b : Int32) (hm : p % (64 : Int32) = b) (h0 : 0 ≤ b.toInt) (h1 : b.toInt < 64) (h : ¬ (jushrL x b &&& (1 : Int64)) = (0 : Int64)) : own_holds x p = (1 : Int32) := by
  unfold own_holds; rw [if_neg fun q => h ((own_hold x p b hm h0 h1).mpr q)]
def Q_rm0 (Z : State) (q1 : Int64) (q2 : Int64) (q3 : Int64) (p1 : Int32) (p2 : Int32) (h0 : Heap) (n0 : Nat) (v : Option Value) (h : Heap) (L : List Loc) : Prop := v = some (.int (1 : Int32)) ∧ Fr n0 L
set_option maxRecDepth 65536 in
set_option maxHeartbeats 40000000 in
theorem rm0 (l : Launch) (Z : State) (a0 : Array Value) (hw : ∀ d ∈ tables_1, d.before a0 Z = true) (ws : List Jvm.Cond) (q1 : Int64) (q2 : Int64) (q3 : Int64) (p1 : Int32) (p2 : Int32) (h0 : Heap) (n0 : Nat) (Z0 : n0 ≤ h0.size)  :
    MetFree l x (head1 (Jvm.Cond.code x code maxLocals ret :: ws) room_1) (fun a U => a = #[(.long q1), (.long q2), (.long q3), (.int p1), (.int p2)] ∧ Z.Warmed39 U.vm ∧ U.heap = h0) (fun _ _ _ _ _ => True) (fun _ U o U' => ∃ v L, o = .returned v ∧ Q_rm0 Z q1 q2 q3 p1 p2 h0 n0 v U'.heap L ∧ FrameEnd U o U' L room_1.cells room_1.slots) := by
  refine own_body (Q := Q_rm0 Z q1 q2 q3 p1 p2 h0 n0) (plainFor_of_name pn_5) ?_
  intro p e s m below meth c s₁ K go fin X0 hx hby hml hown hnm hret hZ e0
  have hown : s.vm.findClass "com/example/bipartite_map/bipartitemap/order/GapPenaltyHoldsPinLaw" = some m.cls := hown
  have N0 := Fr.nil n0
  refine go _ (s₁.setTop (mkF m 0 #[.val (.long q1), .second, .val (.long q2), .second, .val (.long q3), .second, .val (.int p1), .val (.int p2), .unset, .unset, .unset, .unset, .unset, .unset] [])) (fun t k => castTop (ef_rm0 m q1 q2 q3 p1 p2) k) ?_
  refine go _ (s₁.setTop (mkF m 1 #[.val (.long q1), .second, .val (.long q2), .second, .val (.long q3), .second, .val (.int p1), .val (.int p2), .unset, .unset, .unset, .unset, .unset, .unset] [(.int (3 : Int32))])) (fun t k => XS.iconst X0.here hx rfl (hb hby at_0) k) ?_
  obtain ⟨T2, h2, b2, X2, e2, E2, g2, A2, st2⟩ := own_new X0 hx hZ (hw _ (List.mem_of_getElem? (i := 0) rfl)) e0 (g := (mkF m 1 #[.val (.long q1), .second, .val (.long q2), .second, .val (.long q3), .second, .val (.int p1), .val (.int p2), .unset, .unset, .unset, .unset, .unset, .unset] [(.int (3 : Int32))])) rfl (hb hby at_1) rfl (k := 3) (by decide) 3 (by decide) (by decide) (by decide) (by decide)
  have Z3 : n0 ≤ h2.size := Nat.le_trans Z0 E2.1
  have ge_b2 : n0 ≤ b2 := by rw [g2]; exact Z0
  have A2' : AF Z h2 b2 .long 3 (fun _ => .long 0) := A2
  refine go _ (T2.setTop (mkF m 3 #[.val (.long q1), .second, .val (.long q2), .second, .val (.long q3), .second, .val (.int p1), .val (.int p2), .unset, .unset, .unset, .unset, .unset, .unset] [(.ref b2)])) (st2) ?_
  refine go _ (T2.setTop (mkF m 4 #[.val (.long q1), .second, .val (.long q2), .second, .val (.long q3), .second, .val (.int p1), .val (.int p2), .unset, .unset, .unset, .unset, .unset, .unset] [(.ref b2), (.ref b2)])) (fun t k => XS.dup X2.here hx rfl (hb hby at_3) rfl rfl k) ?_
  refine go _ (T2.setTop (mkF m 5 #[.val (.long q1), .second, .val (.long q2), .second, .val (.long q3), .second, .val (.int p1), .val (.int p2), .unset, .unset, .unset, .unset, .unset, .unset] [(.int (0 : Int32)), (.ref b2), (.ref b2)])) (fun t k => XS.iconst X2.here hx rfl (hb hby at_4) k) ?_
  refine go _ (T2.setTop (mkF m 6 #[.val (.long q1), .second, .val (.long q2), .second, .val (.long q3), .second, .val (.int p1), .val (.int p2), .unset, .unset, .unset, .unset, .unset, .unset] [(.long q1), (.int (0 : Int32)), (.ref b2), (.ref b2)])) (fun t k => XS.lloadN X2.here hx rfl (hb hby at_5) rfl k) ?_
  obtain ⟨T4, h4, X4, e4, W4, A4, st4⟩ := own_stJ X2 hx hZ e2 A2' (i := 0) (by decide) (by decide) (g := (mkF m 6 #[.val (.long q1), .second, .val (.long q2), .second, .val (.long q3), .second, .val (.int p1), .val (.int p2), .unset, .unset, .unset, .unset, .unset, .unset] [(.long q1), (.int (0 : Int32)), (.ref b2), (.ref b2)])) rfl rfl (hb hby at_6)
  have Z5 : n0 ≤ h4.size := by rw [W4.size]; exact Z3
  have N6 := Fr.snoc X4 N0 ge_b2
  refine go _ (T4.setTop (mkF m 7 #[.val (.long q1), .second, .val (.long q2), .second, .val (.long q3), .second, .val (.int p1), .val (.int p2), .unset, .unset, .unset, .unset, .unset, .unset] [(.ref b2)])) (st4) ?_
  refine go _ (T4.setTop (mkF m 8 #[.val (.long q1), .second, .val (.long q2), .second, .val (.long q3), .second, .val (.int p1), .val (.int p2), .unset, .unset, .unset, .unset, .unset, .unset] [(.ref b2), (.ref b2)])) (fun t k => XS.dup X4.here hx rfl (hb hby at_7) rfl rfl k) ?_
  refine go _ (T4.setTop (mkF m 9 #[.val (.long q1), .second, .val (.long q2), .second, .val (.long q3), .second, .val (.int p1), .val (.int p2), .unset, .unset, .unset, .unset, .unset, .unset] [(.int (1 : Int32)), (.ref b2), (.ref b2)])) (fun t k => XS.iconst X4.here hx rfl (hb hby at_8) k) ?_
  refine go _ (T4.setTop (mkF m 10 #[.val (.long q1), .second, .val (.long q2), .second, .val (.long q3), .second, .val (.int p1), .val (.int p2), .unset, .unset, .unset, .unset, .unset, .unset] [(.long q2), (.int (1 : Int32)), (.ref b2), (.ref b2)])) (fun t k => XS.lloadN X4.here hx rfl (hb hby at_9) rfl k) ?_
  obtain ⟨T7, h7, X7, e7, W7, A7, st7⟩ := own_stJ X4 hx hZ e4 A4 (i := 1) (by decide) (by decide) (g := (mkF m 10 #[.val (.long q1), .second, .val (.long q2), .second, .val (.long q3), .second, .val (.int p1), .val (.int p2), .unset, .unset, .unset, .unset, .unset, .unset] [(.long q2), (.int (1 : Int32)), (.ref b2), (.ref b2)])) rfl rfl (hb hby at_10)
  have Z8 : n0 ≤ h7.size := by rw [W7.size]; exact Z5
  have N9 := Fr.snoc X7 N6 ge_b2
  refine go _ (T7.setTop (mkF m 11 #[.val (.long q1), .second, .val (.long q2), .second, .val (.long q3), .second, .val (.int p1), .val (.int p2), .unset, .unset, .unset, .unset, .unset, .unset] [(.ref b2)])) (st7) ?_
  refine go _ (T7.setTop (mkF m 12 #[.val (.long q1), .second, .val (.long q2), .second, .val (.long q3), .second, .val (.int p1), .val (.int p2), .unset, .unset, .unset, .unset, .unset, .unset] [(.ref b2), (.ref b2)])) (fun t k => XS.dup X7.here hx rfl (hb hby at_11) rfl rfl k) ?_
  refine go _ (T7.setTop (mkF m 13 #[.val (.long q1), .second, .val (.long q2), .second, .val (.long q3), .second, .val (.int p1), .val (.int p2), .unset, .unset, .unset, .unset, .unset, .unset] [(.int (2 : Int32)), (.ref b2), (.ref b2)])) (fun t k => XS.iconst X7.here hx rfl (hb hby at_12) k) ?_
  refine go _ (T7.setTop (mkF m 15 #[.val (.long q1), .second, .val (.long q2), .second, .val (.long q3), .second, .val (.int p1), .val (.int p2), .unset, .unset, .unset, .unset, .unset, .unset] [(.long q3), (.int (2 : Int32)), (.ref b2), (.ref b2)])) (fun t k => XS.lload X7.here hx rfl (hb hby at_13) rfl k) ?_
  obtain ⟨T10, h10, X10, e10, W10, A10, st10⟩ := own_stJ X7 hx hZ e7 A7 (i := 2) (by decide) (by decide) (g := (mkF m 15 #[.val (.long q1), .second, .val (.long q2), .second, .val (.long q3), .second, .val (.int p1), .val (.int p2), .unset, .unset, .unset, .unset, .unset, .unset] [(.long q3), (.int (2 : Int32)), (.ref b2), (.ref b2)])) rfl rfl (hb hby at_15)
  have Z11 : n0 ≤ h10.size := by rw [W10.size]; exact Z8
  have N12 := Fr.snoc X10 N9 ge_b2
  have A3 : AF Z h10 b2 .long 3 (fun j => .long (own_b3 q1 q2 q3 j)) := A10.congr (fun j hj => by rcases j with _ | _ | _ | j <;> first | rfl | omega)
  refine go _ (T10.setTop (mkF m 16 #[.val (.long q1), .second, .val (.long q2), .second, .val (.long q3), .second, .val (.int p1), .val (.int p2), .unset, .unset, .unset, .unset, .unset, .unset] [(.ref b2)])) (st10) ?_
  refine go _ (T10.setTop (mkF m 18 #[.val (.long q1), .second, .val (.long q2), .second, .val (.long q3), .second, .val (.int p1), .val (.int p2), .val (.ref b2), .unset, .unset, .unset, .unset, .unset] [])) (fun t k => XS.astore X10.here hx rfl (hb hby at_16) rfl rfl (l' := #[.val (.long q1), .second, .val (.long q2), .second, .val (.long q3), .second, .val (.int p1), .val (.int p2), .val (.ref b2), .unset, .unset, .unset, .unset, .unset]) rfl k) ?_
  refine go _ (T10.setTop (mkF m 20 #[.val (.long q1), .second, .val (.long q2), .second, .val (.long q3), .second, .val (.int p1), .val (.int p2), .val (.ref b2), .unset, .unset, .unset, .unset, .unset] [(.int p1)])) (fun t k => XS.iload X10.here hx rfl (hb hby at_18) rfl k) ?_
  refine go _ (T10.setTop (mkF m 22 #[.val (.long q1), .second, .val (.long q2), .second, .val (.long q3), .second, .val (.int p1), .val (.int p2), .val (.ref b2), .unset, .unset, .unset, .unset, .unset] [(.int (2147483647 : Int32)), (.int p1)])) (X10.ldcInt hx hown (mvT hZ (hw _ (List.mem_of_getElem? (i := 1) rfl))) (g := (mkF m 20 #[.val (.long q1), .second, .val (.long q2), .second, .val (.long q3), .second, .val (.int p1), .val (.int p2), .val (.ref b2), .unset, .unset, .unset, .unset, .unset] [(.int p1)])) rfl (hb hby at_20)) ?_
  refine go _ (T10.setTop (mkF m 23 #[.val (.long q1), .second, .val (.long q2), .second, .val (.long q3), .second, .val (.int p1), .val (.int p2), .val (.ref b2), .unset, .unset, .unset, .unset, .unset] [(.int (p1 &&& (2147483647 : Int32)))])) (fun t k => XS.iand X10.here hx rfl (hb hby at_22) rfl k) ?_
  refine go _ (T10.setTop (mkF m 24 #[.val (.long q1), .second, .val (.long q2), .second, .val (.long q3), .second, .val (.int p1), .val (.int p2), .val (.ref b2), .unset, .unset, .unset, .unset, .unset] [(.int (3 : Int32)), (.int (p1 &&& (2147483647 : Int32)))])) (fun t k => XS.iconst X10.here hx rfl (hb hby at_23) k) ?_
  refine go _ (T10.setTop (mkF m 25 #[.val (.long q1), .second, .val (.long q2), .second, .val (.long q3), .second, .val (.int p1), .val (.int p2), .val (.ref b2), .unset, .unset, .unset, .unset, .unset] [(.int ((p1 &&& (2147483647 : Int32)) % (3 : Int32)))])) (fun t k => iremM X10 hx rfl (hb hby at_24) rfl (by decide) k) ?_
  refine go _ (T10.setTop (mkF m 27 #[.val (.long q1), .second, .val (.long q2), .second, .val (.long q3), .second, .val (.int p1), .val (.int p2), .val (.ref b2), .val (.int (v_rm0_0 p1)), .unset, .unset, .unset, .unset] [])) (fun t k => XS.istore X10.here hx rfl (hb hby at_25) rfl (l' := #[.val (.long q1), .second, .val (.long q2), .second, .val (.long q3), .second, .val (.int p1), .val (.int p2), .val (.ref b2), .val (.int (v_rm0_0 p1)), .unset, .unset, .unset, .unset]) rfl k) ?_
  refine go _ (T10.setTop (mkF m 29 #[.val (.long q1), .second, .val (.long q2), .second, .val (.long q3), .second, .val (.int p1), .val (.int p2), .val (.ref b2), .val (.int (v_rm0_0 p1)), .unset, .unset, .unset, .unset] [(.int p2)])) (fun t k => XS.iload X10.here hx rfl (hb hby at_27) rfl k) ?_
  refine go _ (T10.setTop (mkF m 31 #[.val (.long q1), .second, .val (.long q2), .second, .val (.long q3), .second, .val (.int p1), .val (.int p2), .val (.ref b2), .val (.int (v_rm0_0 p1)), .unset, .unset, .unset, .unset] [(.int (2147483647 : Int32)), (.int p2)])) (X10.ldcInt hx hown (mvT hZ (hw _ (List.mem_of_getElem? (i := 1) rfl))) (g := (mkF m 29 #[.val (.long q1), .second, .val (.long q2), .second, .val (.long q3), .second, .val (.int p1), .val (.int p2), .val (.ref b2), .val (.int (v_rm0_0 p1)), .unset, .unset, .unset, .unset] [(.int p2)])) rfl (hb hby at_29)) ?_
  refine go _ (T10.setTop (mkF m 32 #[.val (.long q1), .second, .val (.long q2), .second, .val (.long q3), .second, .val (.int p1), .val (.int p2), .val (.ref b2), .val (.int (v_rm0_0 p1)), .unset, .unset, .unset, .unset] [(.int (p2 &&& (2147483647 : Int32)))])) (fun t k => XS.iand X10.here hx rfl (hb hby at_31) rfl k) ?_
  refine go _ (T10.setTop (mkF m 34 #[.val (.long q1), .second, .val (.long q2), .second, .val (.long q3), .second, .val (.int p1), .val (.int p2), .val (.ref b2), .val (.int (v_rm0_0 p1)), .unset, .unset, .unset, .unset] [(.int (64 : Int32)), (.int (p2 &&& (2147483647 : Int32)))])) (fun t k => XS.bipush X10.here hx rfl (hb hby at_32) k) ?_
  refine go _ (T10.setTop (mkF m 35 #[.val (.long q1), .second, .val (.long q2), .second, .val (.long q3), .second, .val (.int p1), .val (.int p2), .val (.ref b2), .val (.int (v_rm0_0 p1)), .unset, .unset, .unset, .unset] [(.int (3 : Int32)), (.int (64 : Int32)), (.int (p2 &&& (2147483647 : Int32)))])) (fun t k => XS.iconst X10.here hx rfl (hb hby at_34) k) ?_
  refine go _ (T10.setTop (mkF m 37 #[.val (.long q1), .second, .val (.long q2), .second, .val (.long q3), .second, .val (.int p1), .val (.int p2), .val (.ref b2), .val (.int (v_rm0_0 p1)), .unset, .unset, .unset, .unset] [(.int (v_rm0_0 p1)), (.int (3 : Int32)), (.int (64 : Int32)), (.int (p2 &&& (2147483647 : Int32)))])) (fun t k => XS.iload X10.here hx rfl (hb hby at_35) rfl k) ?_
  refine go _ (T10.setTop (mkF m 38 #[.val (.long q1), .second, .val (.long q2), .second, .val (.long q3), .second, .val (.int p1), .val (.int p2), .val (.ref b2), .val (.int (v_rm0_0 p1)), .unset, .unset, .unset, .unset] [(.int ((3 : Int32) - (v_rm0_0 p1))), (.int (64 : Int32)), (.int (p2 &&& (2147483647 : Int32)))])) (fun t k => XS.isub X10.here hx rfl (hb hby at_37) rfl k) ?_
  refine go _ (T10.setTop (mkF m 39 #[.val (.long q1), .second, .val (.long q2), .second, .val (.long q3), .second, .val (.int p1), .val (.int p2), .val (.ref b2), .val (.int (v_rm0_0 p1)), .unset, .unset, .unset, .unset] [(.int ((64 : Int32) * ((3 : Int32) - (v_rm0_0 p1)))), (.int (p2 &&& (2147483647 : Int32)))])) (fun t k => XS.imul X10.here hx rfl (hb hby at_38) rfl k) ?_
  refine go _ (T10.setTop (mkF m 40 #[.val (.long q1), .second, .val (.long q2), .second, .val (.long q3), .second, .val (.int p1), .val (.int p2), .val (.ref b2), .val (.int (v_rm0_0 p1)), .unset, .unset, .unset, .unset] [(.int ((p2 &&& (2147483647 : Int32)) % ((64 : Int32) * ((3 : Int32) - (v_rm0_0 p1)))))])) (fun t k => iremM X10 hx rfl (hb hby at_39) rfl (own_nz p1) k) ?_
  refine go _ (T10.setTop (mkF m 42 #[.val (.long q1), .second, .val (.long q2), .second, .val (.long q3), .second, .val (.int p1), .val (.int p2), .val (.ref b2), .val (.int (v_rm0_0 p1)), .val (.int (v_rm0_1 p2 p1)), .unset, .unset, .unset] [])) (fun t k => XS.istore X10.here hx rfl (hb hby at_40) rfl (l' := #[.val (.long q1), .second, .val (.long q2), .second, .val (.long q3), .second, .val (.int p1), .val (.int p2), .val (.ref b2), .val (.int (v_rm0_0 p1)), .val (.int (v_rm0_1 p2 p1)), .unset, .unset, .unset]) rfl k) ?_
  refine go _ (T10.setTop (mkF m 44 #[.val (.long q1), .second, .val (.long q2), .second, .val (.long q3), .second, .val (.int p1), .val (.int p2), .val (.ref b2), .val (.int (v_rm0_0 p1)), .val (.int (v_rm0_1 p2 p1)), .unset, .unset, .unset] [(.int (v_rm0_1 p2 p1))])) (fun t k => XS.iload X10.here hx rfl (hb hby at_42) rfl k) ?_
  refine go _ (T10.setTop (mkF m 46 #[.val (.long q1), .second, .val (.long q2), .second, .val (.long q3), .second, .val (.int p1), .val (.int p2), .val (.ref b2), .val (.int (v_rm0_0 p1)), .val (.int (v_rm0_1 p2 p1)), .unset, .unset, .unset] [(.int (64 : Int32)), (.int (v_rm0_1 p2 p1))])) (fun t k => XS.bipush X10.here hx rfl (hb hby at_44) k) ?_
  by_cases hc13 : (v_rm0_1 p2 p1) < (64 : Int32)
  · refine go _ (T10.setTop (mkF m 49 #[.val (.long q1), .second, .val (.long q2), .second, .val (.long q3), .second, .val (.int p1), .val (.int p2), .val (.ref b2), .val (.int (v_rm0_0 p1)), .val (.int (v_rm0_1 p2 p1)), .unset, .unset, .unset] [])) (fun t k => XS.icmpNo X10.here hx rfl (hb hby at_46) rfl (tlt hc13).2.1 k) ?_
    refine go _ (T10.setTop (mkF m 50 #[.val (.long q1), .second, .val (.long q2), .second, .val (.long q3), .second, .val (.int p1), .val (.int p2), .val (.ref b2), .val (.int (v_rm0_0 p1)), .val (.int (v_rm0_1 p2 p1)), .unset, .unset, .unset] [(.int (0 : Int32))])) (fun t k => XS.iconst X10.here hx rfl (hb hby at_49) k) ?_
    refine go _ (T10.setTop (mkF m 52 #[.val (.long q1), .second, .val (.long q2), .second, .val (.long q3), .second, .val (.int p1), .val (.int p2), .val (.ref b2), .val (.int (v_rm0_0 p1)), .val (.int (v_rm0_1 p2 p1)), .val (.int (0 : Int32)), .unset, .unset] [])) (fun t k => XS.istore X10.here hx rfl (hb hby at_50) rfl (l' := #[.val (.long q1), .second, .val (.long q2), .second, .val (.long q3), .second, .val (.int p1), .val (.int p2), .val (.ref b2), .val (.int (v_rm0_0 p1)), .val (.int (v_rm0_1 p2 p1)), .val (.int (0 : Int32)), .unset, .unset]) rfl k) ?_
    refine go _ (T10.setTop (mkF m 54 #[.val (.long q1), .second, .val (.long q2), .second, .val (.long q3), .second, .val (.int p1), .val (.int p2), .val (.ref b2), .val (.int (v_rm0_0 p1)), .val (.int (v_rm0_1 p2 p1)), .val (.int (0 : Int32)), .unset, .unset] [(.int (v_rm0_1 p2 p1))])) (fun t k => XS.iload X10.here hx rfl (hb hby at_52) rfl k) ?_
    refine go _ (T10.setTop (mkF m 56 #[.val (.long q1), .second, .val (.long q2), .second, .val (.long q3), .second, .val (.int p1), .val (.int p2), .val (.ref b2), .val (.int (v_rm0_0 p1)), .val (.int (v_rm0_1 p2 p1)), .val (.int (0 : Int32)), .val (.int (v_rm0_1 p2 p1)), .unset] [])) (fun t k => XS.istore X10.here hx rfl (hb hby at_54) rfl (l' := #[.val (.long q1), .second, .val (.long q2), .second, .val (.long q3), .second, .val (.int p1), .val (.int p2), .val (.ref b2), .val (.int (v_rm0_0 p1)), .val (.int (v_rm0_1 p2 p1)), .val (.int (0 : Int32)), .val (.int (v_rm0_1 p2 p1)), .unset]) rfl k) ?_
    refine go _ (T10.setTop (mkF m 91 #[.val (.long q1), .second, .val (.long q2), .second, .val (.long q3), .second, .val (.int p1), .val (.int p2), .val (.ref b2), .val (.int (v_rm0_0 p1)), .val (.int (v_rm0_1 p2 p1)), .val (.int (0 : Int32)), .val (.int (v_rm0_1 p2 p1)), .unset] [])) (fun t k => XS.goto X10.here hx rfl (pc0 := 56) (pc' := 91) rfl (hb hby at_56) (by decide) (by decide) k) ?_
    refine go _ (T10.setTop (mkF m 93 #[.val (.long q1), .second, .val (.long q2), .second, .val (.long q3), .second, .val (.int p1), .val (.int p2), .val (.ref b2), .val (.int (v_rm0_0 p1)), .val (.int (v_rm0_1 p2 p1)), .val (.int (0 : Int32)), .val (.int (v_rm0_1 p2 p1)), .unset] [(.ref b2)])) (fun t k => XS.aload X10.here hx rfl (hb hby at_91) rfl rfl k) ?_
    refine go _ (T10.setTop (mkF m 95 #[.val (.long q1), .second, .val (.long q2), .second, .val (.long q3), .second, .val (.int p1), .val (.int p2), .val (.ref b2), .val (.int (v_rm0_0 p1)), .val (.int (v_rm0_1 p2 p1)), .val (.int (0 : Int32)), .val (.int (v_rm0_1 p2 p1)), .unset] [(.int (v_rm0_0 p1)), (.ref b2)])) (fun t k => XS.iload X10.here hx rfl (hb hby at_93) rfl k) ?_
    refine go _ (T10.setTop (mkF m 97 #[.val (.long q1), .second, .val (.long q2), .second, .val (.long q3), .second, .val (.int p1), .val (.int p2), .val (.ref b2), .val (.int (v_rm0_0 p1)), .val (.int (v_rm0_1 p2 p1)), .val (.int (0 : Int32)), .val (.int (v_rm0_1 p2 p1)), .unset] [(.int (0 : Int32)), (.int (v_rm0_0 p1)), (.ref b2)])) (fun t k => XS.iload X10.here hx rfl (hb hby at_95) rfl k) ?_
    refine go _ (T10.setTop (mkF m 98 #[.val (.long q1), .second, .val (.long q2), .second, .val (.long q3), .second, .val (.int p1), .val (.int p2), .val (.ref b2), .val (.int (v_rm0_0 p1)), .val (.int (v_rm0_1 p2 p1)), .val (.int (0 : Int32)), .val (.int (v_rm0_1 p2 p1)), .unset] [(.int ((v_rm0_0 p1) + (0 : Int32))), (.ref b2)])) (fun t k => XS.iadd X10.here hx rfl (hb hby at_97) rfl k) ?_
    obtain ⟨i14, hii14, hji14, hki14, hmi14, hbi14, hBi14⟩ := own_c1 p1 p2 hc13
    refine go _ (T10.setTop (mkF m 99 #[.val (.long q1), .second, .val (.long q2), .second, .val (.long q3), .second, .val (.int p1), .val (.int p2), .val (.ref b2), .val (.int (v_rm0_0 p1)), .val (.int (v_rm0_1 p2 p1)), .val (.int (0 : Int32)), .val (.int (v_rm0_1 p2 p1)), .unset] [(.long (own_b3 q1 q2 q3 i14))])) (own_ldJ X10 hx hZ e10 A3 (i := i14) hji14 hii14 (g := (mkF m 98 #[.val (.long q1), .second, .val (.long q2), .second, .val (.long q3), .second, .val (.int p1), .val (.int p2), .val (.ref b2), .val (.int (v_rm0_0 p1)), .val (.int (v_rm0_1 p2 p1)), .val (.int (0 : Int32)), .val (.int (v_rm0_1 p2 p1)), .unset] [(.int ((v_rm0_0 p1) + (0 : Int32))), (.ref b2)])) rfl rfl (hb hby at_98) (v := (.long (own_b3 q1 q2 q3 i14))) rfl) ?_
    refine go _ (T10.setTop (mkF m 101 #[.val (.long q1), .second, .val (.long q2), .second, .val (.long q3), .second, .val (.int p1), .val (.int p2), .val (.ref b2), .val (.int (v_rm0_0 p1)), .val (.int (v_rm0_1 p2 p1)), .val (.int (0 : Int32)), .val (.int (v_rm0_1 p2 p1)), .unset] [(.int (v_rm0_1 p2 p1)), (.long (own_b3 q1 q2 q3 i14))])) (fun t k => XS.iload X10.here hx rfl (hb hby at_99) rfl k) ?_
    refine go _ (T10.setTop (mkF m 102 #[.val (.long q1), .second, .val (.long q2), .second, .val (.long q3), .second, .val (.int p1), .val (.int p2), .val (.ref b2), .val (.int (v_rm0_0 p1)), .val (.int (v_rm0_1 p2 p1)), .val (.int (0 : Int32)), .val (.int (v_rm0_1 p2 p1)), .unset] [(.long (jushrL (own_b3 q1 q2 q3 i14) (v_rm0_1 p2 p1)))])) (fun t k => XS.lushr X10.here hx rfl (hb hby at_101) rfl k) ?_
    refine go _ (T10.setTop (mkF m 103 #[.val (.long q1), .second, .val (.long q2), .second, .val (.long q3), .second, .val (.int p1), .val (.int p2), .val (.ref b2), .val (.int (v_rm0_0 p1)), .val (.int (v_rm0_1 p2 p1)), .val (.int (0 : Int32)), .val (.int (v_rm0_1 p2 p1)), .unset] [(.long (1 : Int64)), (.long (jushrL (own_b3 q1 q2 q3 i14) (v_rm0_1 p2 p1)))])) (fun t k => XS.lconst X10.here hx rfl (hb hby at_102) k) ?_
    refine go _ (T10.setTop (mkF m 104 #[.val (.long q1), .second, .val (.long q2), .second, .val (.long q3), .second, .val (.int p1), .val (.int p2), .val (.ref b2), .val (.int (v_rm0_0 p1)), .val (.int (v_rm0_1 p2 p1)), .val (.int (0 : Int32)), .val (.int (v_rm0_1 p2 p1)), .unset] [(.long ((jushrL (own_b3 q1 q2 q3 i14) (v_rm0_1 p2 p1)) &&& (1 : Int64)))])) (fun t k => XS.land X10.here hx rfl (hb hby at_103) rfl k) ?_
    refine go _ (T10.setTop (mkF m 105 #[.val (.long q1), .second, .val (.long q2), .second, .val (.long q3), .second, .val (.int p1), .val (.int p2), .val (.ref b2), .val (.int (v_rm0_0 p1)), .val (.int (v_rm0_1 p2 p1)), .val (.int (0 : Int32)), .val (.int (v_rm0_1 p2 p1)), .unset] [(.long (0 : Int64)), (.long ((jushrL (own_b3 q1 q2 q3 i14) (v_rm0_1 p2 p1)) &&& (1 : Int64)))])) (fun t k => XS.lconst X10.here hx rfl (hb hby at_104) k) ?_
    refine go _ (T10.setTop (mkF m 106 #[.val (.long q1), .second, .val (.long q2), .second, .val (.long q3), .second, .val (.int p1), .val (.int p2), .val (.ref b2), .val (.int (v_rm0_0 p1)), .val (.int (v_rm0_1 p2 p1)), .val (.int (0 : Int32)), .val (.int (v_rm0_1 p2 p1)), .unset] [(.int (lcmpW ((jushrL (own_b3 q1 q2 q3 i14) (v_rm0_1 p2 p1)) &&& (1 : Int64)) (0 : Int64)))])) (fun t k => XS.lcmp X10.here hx rfl (hb hby at_105) rfl k) ?_
    by_cases hc15 : ((jushrL (own_b3 q1 q2 q3 i14) (v_rm0_1 p2 p1)) &&& (1 : Int64)) = (0 : Int64)
    · refine go _ (T10.setTop (mkF m 113 #[.val (.long q1), .second, .val (.long q2), .second, .val (.long q3), .second, .val (.int p1), .val (.int p2), .val (.ref b2), .val (.int (v_rm0_0 p1)), .val (.int (v_rm0_1 p2 p1)), .val (.int (0 : Int32)), .val (.int (v_rm0_1 p2 p1)), .unset] [])) (fun t k => XS.ifYes X10.here hx rfl (pc0 := 106) (pc' := 113) rfl (hb hby at_106) rfl ((if0 _ _).trans (teq ((lw_eq ((jushrL (own_b3 q1 q2 q3 i14) (v_rm0_1 p2 p1)) &&& (1 : Int64)) (0 : Int64)).mpr hc15)).1) (by decide) (by decide) k) ?_
      refine go _ (T10.setTop (mkF m 114 #[.val (.long q1), .second, .val (.long q2), .second, .val (.long q3), .second, .val (.int p1), .val (.int p2), .val (.ref b2), .val (.int (v_rm0_0 p1)), .val (.int (v_rm0_1 p2 p1)), .val (.int (0 : Int32)), .val (.int (v_rm0_1 p2 p1)), .unset] [(.int (0 : Int32))])) (fun t k => XS.iconst X10.here hx rfl (hb hby at_113) k) ?_
      refine go _ (T10.setTop (mkF m 116 #[.val (.long q1), .second, .val (.long q2), .second, .val (.long q3), .second, .val (.int p1), .val (.int p2), .val (.ref b2), .val (.int (v_rm0_0 p1)), .val (.int (v_rm0_1 p2 p1)), .val (.int (0 : Int32)), .val (.int (v_rm0_1 p2 p1)), .val (.int (0 : Int32))] [])) (fun t k => XS.istore X10.here hx rfl (hb hby at_114) rfl (l' := #[.val (.long q1), .second, .val (.long q2), .second, .val (.long q3), .second, .val (.int p1), .val (.int p2), .val (.ref b2), .val (.int (v_rm0_0 p1)), .val (.int (v_rm0_1 p2 p1)), .val (.int (0 : Int32)), .val (.int (v_rm0_1 p2 p1)), .val (.int (0 : Int32))]) rfl k) ?_
      refine go _ (T10.setTop (mkF m 118 #[.val (.long q1), .second, .val (.long q2), .second, .val (.long q3), .second, .val (.int p1), .val (.int p2), .val (.ref b2), .val (.int (v_rm0_0 p1)), .val (.int (v_rm0_1 p2 p1)), .val (.int (0 : Int32)), .val (.int (v_rm0_1 p2 p1)), .val (.int (0 : Int32))] [(.ref b2)])) (fun t k => XS.aload X10.here hx rfl (hb hby at_116) rfl rfl k) ?_
      refine go _ (T10.setTop (mkF m 120 #[.val (.long q1), .second, .val (.long q2), .second, .val (.long q3), .second, .val (.int p1), .val (.int p2), .val (.ref b2), .val (.int (v_rm0_0 p1)), .val (.int (v_rm0_1 p2 p1)), .val (.int (0 : Int32)), .val (.int (v_rm0_1 p2 p1)), .val (.int (0 : Int32))] [(.int (v_rm0_0 p1)), (.ref b2)])) (fun t k => XS.iload X10.here hx rfl (hb hby at_118) rfl k) ?_
      refine go _ (T10.setTop (mkF m 122 #[.val (.long q1), .second, .val (.long q2), .second, .val (.long q3), .second, .val (.int p1), .val (.int p2), .val (.ref b2), .val (.int (v_rm0_0 p1)), .val (.int (v_rm0_1 p2 p1)), .val (.int (0 : Int32)), .val (.int (v_rm0_1 p2 p1)), .val (.int (0 : Int32))] [(.int (v_rm0_1 p2 p1)), (.int (v_rm0_0 p1)), (.ref b2)])) (fun t k => XS.iload X10.here hx rfl (hb hby at_120) rfl k) ?_
      obtain ⟨_, _, ⟨T16, L16, k16, n16⟩, -, X16, ⟨Lc16, hQ16, l16, y16, z16⟩, st16⟩ := Jvm.LawKit.callS X10 hx (y := (⟨"com/example/bipartite_map/bipartitemap/order/GapPenalty", "holds", "([JII)Z"⟩ : MethodName)) hown (mvT hZ (hw _ (List.mem_of_getElem? (i := 2) rfl))) (mvT hZ (hw _ (List.mem_of_getElem? (i := 3) rfl))) (mvT hZ (hw _ (List.mem_of_getElem? (i := 4) rfl))) (mvT hZ (hw _ (List.mem_of_getElem? (i := 5) rfl))) (by decide) (backOf (W := 0) (rm1 l Z a0 hw [] b2 (v_rm0_0 p1) (v_rm0_1 p2 p1) (own_b3 q1 q2 q3) 3 i14 h10 n0 Z11 A3 hki14 hii14) hZ (hw _ (List.mem_of_getElem? (i := 5) rfl)) (hw _ (List.mem_of_getElem? (i := 4) rfl)) (by decide) (by decide)) (g := (mkF m 122 #[.val (.long q1), .second, .val (.long q2), .second, .val (.long q3), .second, .val (.int p1), .val (.int p2), .val (.ref b2), .val (.int (v_rm0_0 p1)), .val (.int (v_rm0_1 p2 p1)), .val (.int (0 : Int32)), .val (.int (v_rm0_1 p2 p1)), .val (.int (0 : Int32))] [(.int (v_rm0_1 p2 p1)), (.int (v_rm0_0 p1)), (.ref b2)])) rfl (by rw [hml]; rfl) (argsL := [(.ref b2), (.int (v_rm0_0 p1)), (.int (v_rm0_1 p2 p1))]) (rest := []) (lenOf pd_1 rfl) rfl (by show 2 * 0 + _ ≤ _; exact Nat.le_of_eq rfl) (hb hby at_122) (fun _ _ => ⟨rfl, e10, (by decide : 0 + 1 + 0 ≤ _), (by decide : 0 + 3 + 0 ≤ _)⟩)
      dsimp only [Pt.U, Pt.locs, Pt.cells, Pt.slots] at X16 l16 y16 z16 st16 hQ16
      subst l16 y16 z16
      obtain ⟨rfl, Nq16, hh16⟩ := hQ16
      have N17 := Fr.app N12 Nq16
      refine go _ (T16.setTop (mkF m 125 #[.val (.long q1), .second, .val (.long q2), .second, .val (.long q3), .second, .val (.int p1), .val (.int p2), .val (.ref b2), .val (.int (v_rm0_0 p1)), .val (.int (v_rm0_1 p2 p1)), .val (.int (0 : Int32)), .val (.int (v_rm0_1 p2 p1)), .val (.int (0 : Int32))] [(.int (own_holds (own_b3 q1 q2 q3 i14) (v_rm0_1 p2 p1)))])) (st16) ?_
      refine go _ (T16.setTop (mkF m 127 #[.val (.long q1), .second, .val (.long q2), .second, .val (.long q3), .second, .val (.int p1), .val (.int p2), .val (.ref b2), .val (.int (v_rm0_0 p1)), .val (.int (v_rm0_1 p2 p1)), .val (.int (0 : Int32)), .val (.int (v_rm0_1 p2 p1)), .val (.int (0 : Int32))] [(.int (0 : Int32)), (.int (own_holds (own_b3 q1 q2 q3 i14) (v_rm0_1 p2 p1)))])) (fun t k => XS.iload X16.here hx rfl (hb hby at_125) rfl k) ?_
      have hc18 : ((own_holds (own_b3 q1 q2 q3 i14) (v_rm0_1 p2 p1)) = (0 : Int32)) := (own_hold0 _ _ _ hmi14 hbi14 hBi14 hc15)
      refine go _ (T16.setTop (mkF m 130 #[.val (.long q1), .second, .val (.long q2), .second, .val (.long q3), .second, .val (.int p1), .val (.int p2), .val (.ref b2), .val (.int (v_rm0_0 p1)), .val (.int (v_rm0_1 p2 p1)), .val (.int (0 : Int32)), .val (.int (v_rm0_1 p2 p1)), .val (.int (0 : Int32))] [])) (fun t k => XS.icmpNo X16.here hx rfl (hb hby at_127) rfl (teq hc18).2 k) ?_
      refine go _ (T16.setTop (mkF m 131 #[.val (.long q1), .second, .val (.long q2), .second, .val (.long q3), .second, .val (.int p1), .val (.int p2), .val (.ref b2), .val (.int (v_rm0_0 p1)), .val (.int (v_rm0_1 p2 p1)), .val (.int (0 : Int32)), .val (.int (v_rm0_1 p2 p1)), .val (.int (0 : Int32))] [(.int (1 : Int32))])) (fun t k => XS.iconst X16.here hx rfl (hb hby at_130) k) ?_
      refine go _ (T16.setTop (mkF m 135 #[.val (.long q1), .second, .val (.long q2), .second, .val (.long q3), .second, .val (.int p1), .val (.int p2), .val (.ref b2), .val (.int (v_rm0_0 p1)), .val (.int (v_rm0_1 p2 p1)), .val (.int (0 : Int32)), .val (.int (v_rm0_1 p2 p1)), .val (.int (0 : Int32))] [(.int (1 : Int32))])) (fun t k => XS.goto X16.here hx rfl (pc0 := 131) (pc' := 135) rfl (hb hby at_131) (by decide) (by decide) k) ?_
      exact fin (some (.int (1 : Int32))) X16 (by decide) (by decide) (fun q => by cases q) (show Q_rm0 Z q1 q2 q3 p1 p2 h0 n0 _ T16.heap _ from (by rw [hh16]; exact ⟨rfl, N17⟩)) (fun fs hr => retN X16 hx (t := .boolean) hret (by simp) (hb hby at_135) hr)
    · refine go _ (T10.setTop (mkF m 109 #[.val (.long q1), .second, .val (.long q2), .second, .val (.long q3), .second, .val (.int p1), .val (.int p2), .val (.ref b2), .val (.int (v_rm0_0 p1)), .val (.int (v_rm0_1 p2 p1)), .val (.int (0 : Int32)), .val (.int (v_rm0_1 p2 p1)), .unset] [])) (fun t k => XS.ifNo X10.here hx rfl (hb hby at_106) rfl ((if0 _ _).trans (feq (fun q => hc15 ((lw_eq ((jushrL (own_b3 q1 q2 q3 i14) (v_rm0_1 p2 p1)) &&& (1 : Int64)) (0 : Int64)).mp q))).1) k) ?_
      refine go _ (T10.setTop (mkF m 110 #[.val (.long q1), .second, .val (.long q2), .second, .val (.long q3), .second, .val (.int p1), .val (.int p2), .val (.ref b2), .val (.int (v_rm0_0 p1)), .val (.int (v_rm0_1 p2 p1)), .val (.int (0 : Int32)), .val (.int (v_rm0_1 p2 p1)), .unset] [(.int (1 : Int32))])) (fun t k => XS.iconst X10.here hx rfl (hb hby at_109) k) ?_
      refine go _ (T10.setTop (mkF m 114 #[.val (.long q1), .second, .val (.long q2), .second, .val (.long q3), .second, .val (.int p1), .val (.int p2), .val (.ref b2), .val (.int (v_rm0_0 p1)), .val (.int (v_rm0_1 p2 p1)), .val (.int (0 : Int32)), .val (.int (v_rm0_1 p2 p1)), .unset] [(.int (1 : Int32))])) (fun t k => XS.goto X10.here hx rfl (pc0 := 110) (pc' := 114) rfl (hb hby at_110) (by decide) (by decide) k) ?_
      refine go _ (T10.setTop (mkF m 116 #[.val (.long q1), .second, .val (.long q2), .second, .val (.long q3), .second, .val (.int p1), .val (.int p2), .val (.ref b2), .val (.int (v_rm0_0 p1)), .val (.int (v_rm0_1 p2 p1)), .val (.int (0 : Int32)), .val (.int (v_rm0_1 p2 p1)), .val (.int (1 : Int32))] [])) (fun t k => XS.istore X10.here hx rfl (hb hby at_114) rfl (l' := #[.val (.long q1), .second, .val (.long q2), .second, .val (.long q3), .second, .val (.int p1), .val (.int p2), .val (.ref b2), .val (.int (v_rm0_0 p1)), .val (.int (v_rm0_1 p2 p1)), .val (.int (0 : Int32)), .val (.int (v_rm0_1 p2 p1)), .val (.int (1 : Int32))]) rfl k) ?_
      refine go _ (T10.setTop (mkF m 118 #[.val (.long q1), .second, .val (.long q2), .second, .val (.long q3), .second, .val (.int p1), .val (.int p2), .val (.ref b2), .val (.int (v_rm0_0 p1)), .val (.int (v_rm0_1 p2 p1)), .val (.int (0 : Int32)), .val (.int (v_rm0_1 p2 p1)), .val (.int (1 : Int32))] [(.ref b2)])) (fun t k => XS.aload X10.here hx rfl (hb hby at_116) rfl rfl k) ?_
      refine go _ (T10.setTop (mkF m 120 #[.val (.long q1), .second, .val (.long q2), .second, .val (.long q3), .second, .val (.int p1), .val (.int p2), .val (.ref b2), .val (.int (v_rm0_0 p1)), .val (.int (v_rm0_1 p2 p1)), .val (.int (0 : Int32)), .val (.int (v_rm0_1 p2 p1)), .val (.int (1 : Int32))] [(.int (v_rm0_0 p1)), (.ref b2)])) (fun t k => XS.iload X10.here hx rfl (hb hby at_118) rfl k) ?_
      refine go _ (T10.setTop (mkF m 122 #[.val (.long q1), .second, .val (.long q2), .second, .val (.long q3), .second, .val (.int p1), .val (.int p2), .val (.ref b2), .val (.int (v_rm0_0 p1)), .val (.int (v_rm0_1 p2 p1)), .val (.int (0 : Int32)), .val (.int (v_rm0_1 p2 p1)), .val (.int (1 : Int32))] [(.int (v_rm0_1 p2 p1)), (.int (v_rm0_0 p1)), (.ref b2)])) (fun t k => XS.iload X10.here hx rfl (hb hby at_120) rfl k) ?_
      obtain ⟨_, _, ⟨T19, L19, k19, n19⟩, -, X19, ⟨Lc19, hQ19, l19, y19, z19⟩, st19⟩ := Jvm.LawKit.callS X10 hx (y := (⟨"com/example/bipartite_map/bipartitemap/order/GapPenalty", "holds", "([JII)Z"⟩ : MethodName)) hown (mvT hZ (hw _ (List.mem_of_getElem? (i := 2) rfl))) (mvT hZ (hw _ (List.mem_of_getElem? (i := 3) rfl))) (mvT hZ (hw _ (List.mem_of_getElem? (i := 4) rfl))) (mvT hZ (hw _ (List.mem_of_getElem? (i := 5) rfl))) (by decide) (backOf (W := 0) (rm1 l Z a0 hw [] b2 (v_rm0_0 p1) (v_rm0_1 p2 p1) (own_b3 q1 q2 q3) 3 i14 h10 n0 Z11 A3 hki14 hii14) hZ (hw _ (List.mem_of_getElem? (i := 5) rfl)) (hw _ (List.mem_of_getElem? (i := 4) rfl)) (by decide) (by decide)) (g := (mkF m 122 #[.val (.long q1), .second, .val (.long q2), .second, .val (.long q3), .second, .val (.int p1), .val (.int p2), .val (.ref b2), .val (.int (v_rm0_0 p1)), .val (.int (v_rm0_1 p2 p1)), .val (.int (0 : Int32)), .val (.int (v_rm0_1 p2 p1)), .val (.int (1 : Int32))] [(.int (v_rm0_1 p2 p1)), (.int (v_rm0_0 p1)), (.ref b2)])) rfl (by rw [hml]; rfl) (argsL := [(.ref b2), (.int (v_rm0_0 p1)), (.int (v_rm0_1 p2 p1))]) (rest := []) (lenOf pd_1 rfl) rfl (by show 2 * 0 + _ ≤ _; exact Nat.le_of_eq rfl) (hb hby at_122) (fun _ _ => ⟨rfl, e10, (by decide : 0 + 1 + 0 ≤ _), (by decide : 0 + 3 + 0 ≤ _)⟩)
      dsimp only [Pt.U, Pt.locs, Pt.cells, Pt.slots] at X19 l19 y19 z19 st19 hQ19
      subst l19 y19 z19
      obtain ⟨rfl, Nq19, hh19⟩ := hQ19
      have N20 := Fr.app N12 Nq19
      refine go _ (T19.setTop (mkF m 125 #[.val (.long q1), .second, .val (.long q2), .second, .val (.long q3), .second, .val (.int p1), .val (.int p2), .val (.ref b2), .val (.int (v_rm0_0 p1)), .val (.int (v_rm0_1 p2 p1)), .val (.int (0 : Int32)), .val (.int (v_rm0_1 p2 p1)), .val (.int (1 : Int32))] [(.int (own_holds (own_b3 q1 q2 q3 i14) (v_rm0_1 p2 p1)))])) (st19) ?_
      refine go _ (T19.setTop (mkF m 127 #[.val (.long q1), .second, .val (.long q2), .second, .val (.long q3), .second, .val (.int p1), .val (.int p2), .val (.ref b2), .val (.int (v_rm0_0 p1)), .val (.int (v_rm0_1 p2 p1)), .val (.int (0 : Int32)), .val (.int (v_rm0_1 p2 p1)), .val (.int (1 : Int32))] [(.int (1 : Int32)), (.int (own_holds (own_b3 q1 q2 q3 i14) (v_rm0_1 p2 p1)))])) (fun t k => XS.iload X19.here hx rfl (hb hby at_125) rfl k) ?_
      have hc21 : ((own_holds (own_b3 q1 q2 q3 i14) (v_rm0_1 p2 p1)) = (1 : Int32)) := (own_hold1 _ _ _ hmi14 hbi14 hBi14 hc15)
      refine go _ (T19.setTop (mkF m 130 #[.val (.long q1), .second, .val (.long q2), .second, .val (.long q3), .second, .val (.int p1), .val (.int p2), .val (.ref b2), .val (.int (v_rm0_0 p1)), .val (.int (v_rm0_1 p2 p1)), .val (.int (0 : Int32)), .val (.int (v_rm0_1 p2 p1)), .val (.int (1 : Int32))] [])) (fun t k => XS.icmpNo X19.here hx rfl (hb hby at_127) rfl (teq hc21).2 k) ?_
      refine go _ (T19.setTop (mkF m 131 #[.val (.long q1), .second, .val (.long q2), .second, .val (.long q3), .second, .val (.int p1), .val (.int p2), .val (.ref b2), .val (.int (v_rm0_0 p1)), .val (.int (v_rm0_1 p2 p1)), .val (.int (0 : Int32)), .val (.int (v_rm0_1 p2 p1)), .val (.int (1 : Int32))] [(.int (1 : Int32))])) (fun t k => XS.iconst X19.here hx rfl (hb hby at_130) k) ?_
      refine go _ (T19.setTop (mkF m 135 #[.val (.long q1), .second, .val (.long q2), .second, .val (.long q3), .second, .val (.int p1), .val (.int p2), .val (.ref b2), .val (.int (v_rm0_0 p1)), .val (.int (v_rm0_1 p2 p1)), .val (.int (0 : Int32)), .val (.int (v_rm0_1 p2 p1)), .val (.int (1 : Int32))] [(.int (1 : Int32))])) (fun t k => XS.goto X19.here hx rfl (pc0 := 131) (pc' := 135) rfl (hb hby at_131) (by decide) (by decide) k) ?_
      exact fin (some (.int (1 : Int32))) X19 (by decide) (by decide) (fun q => by cases q) (show Q_rm0 Z q1 q2 q3 p1 p2 h0 n0 _ T19.heap _ from (by rw [hh19]; exact ⟨rfl, N20⟩)) (fun fs hr => retN X19 hx (t := .boolean) hret (by simp) (hb hby at_135) hr)
  · refine go _ (T10.setTop (mkF m 59 #[.val (.long q1), .second, .val (.long q2), .second, .val (.long q3), .second, .val (.int p1), .val (.int p2), .val (.ref b2), .val (.int (v_rm0_0 p1)), .val (.int (v_rm0_1 p2 p1)), .unset, .unset, .unset] [])) (fun t k => XS.icmpYes X10.here hx rfl (pc0 := 46) (pc' := 59) rfl (hb hby at_46) rfl (flt hc13).2.1 (by decide) (by decide) k) ?_
    refine go _ (T10.setTop (mkF m 61 #[.val (.long q1), .second, .val (.long q2), .second, .val (.long q3), .second, .val (.int p1), .val (.int p2), .val (.ref b2), .val (.int (v_rm0_0 p1)), .val (.int (v_rm0_1 p2 p1)), .unset, .unset, .unset] [(.int (v_rm0_1 p2 p1))])) (fun t k => XS.iload X10.here hx rfl (hb hby at_59) rfl k) ?_
    refine go _ (T10.setTop (mkF m 64 #[.val (.long q1), .second, .val (.long q2), .second, .val (.long q3), .second, .val (.int p1), .val (.int p2), .val (.ref b2), .val (.int (v_rm0_0 p1)), .val (.int (v_rm0_1 p2 p1)), .unset, .unset, .unset] [(.int (128 : Int32)), (.int (v_rm0_1 p2 p1))])) (fun t k => XS.sipush X10.here hx rfl (hb hby at_61) k) ?_
    by_cases hc22 : (v_rm0_1 p2 p1) < (128 : Int32)
    · refine go _ (T10.setTop (mkF m 67 #[.val (.long q1), .second, .val (.long q2), .second, .val (.long q3), .second, .val (.int p1), .val (.int p2), .val (.ref b2), .val (.int (v_rm0_0 p1)), .val (.int (v_rm0_1 p2 p1)), .unset, .unset, .unset] [])) (fun t k => XS.icmpNo X10.here hx rfl (hb hby at_64) rfl (tlt hc22).2.1 k) ?_
      refine go _ (T10.setTop (mkF m 68 #[.val (.long q1), .second, .val (.long q2), .second, .val (.long q3), .second, .val (.int p1), .val (.int p2), .val (.ref b2), .val (.int (v_rm0_0 p1)), .val (.int (v_rm0_1 p2 p1)), .unset, .unset, .unset] [(.int (1 : Int32))])) (fun t k => XS.iconst X10.here hx rfl (hb hby at_67) k) ?_
      refine go _ (T10.setTop (mkF m 70 #[.val (.long q1), .second, .val (.long q2), .second, .val (.long q3), .second, .val (.int p1), .val (.int p2), .val (.ref b2), .val (.int (v_rm0_0 p1)), .val (.int (v_rm0_1 p2 p1)), .val (.int (1 : Int32)), .unset, .unset] [])) (fun t k => XS.istore X10.here hx rfl (hb hby at_68) rfl (l' := #[.val (.long q1), .second, .val (.long q2), .second, .val (.long q3), .second, .val (.int p1), .val (.int p2), .val (.ref b2), .val (.int (v_rm0_0 p1)), .val (.int (v_rm0_1 p2 p1)), .val (.int (1 : Int32)), .unset, .unset]) rfl k) ?_
      refine go _ (T10.setTop (mkF m 72 #[.val (.long q1), .second, .val (.long q2), .second, .val (.long q3), .second, .val (.int p1), .val (.int p2), .val (.ref b2), .val (.int (v_rm0_0 p1)), .val (.int (v_rm0_1 p2 p1)), .val (.int (1 : Int32)), .unset, .unset] [(.int (v_rm0_1 p2 p1))])) (fun t k => XS.iload X10.here hx rfl (hb hby at_70) rfl k) ?_
      refine go _ (T10.setTop (mkF m 74 #[.val (.long q1), .second, .val (.long q2), .second, .val (.long q3), .second, .val (.int p1), .val (.int p2), .val (.ref b2), .val (.int (v_rm0_0 p1)), .val (.int (v_rm0_1 p2 p1)), .val (.int (1 : Int32)), .unset, .unset] [(.int (64 : Int32)), (.int (v_rm0_1 p2 p1))])) (fun t k => XS.bipush X10.here hx rfl (hb hby at_72) k) ?_
      refine go _ (T10.setTop (mkF m 75 #[.val (.long q1), .second, .val (.long q2), .second, .val (.long q3), .second, .val (.int p1), .val (.int p2), .val (.ref b2), .val (.int (v_rm0_0 p1)), .val (.int (v_rm0_1 p2 p1)), .val (.int (1 : Int32)), .unset, .unset] [(.int ((v_rm0_1 p2 p1) - (64 : Int32)))])) (fun t k => XS.isub X10.here hx rfl (hb hby at_74) rfl k) ?_
      refine go _ (T10.setTop (mkF m 77 #[.val (.long q1), .second, .val (.long q2), .second, .val (.long q3), .second, .val (.int p1), .val (.int p2), .val (.ref b2), .val (.int (v_rm0_0 p1)), .val (.int (v_rm0_1 p2 p1)), .val (.int (1 : Int32)), .val (.int ((v_rm0_1 p2 p1) - (64 : Int32))), .unset] [])) (fun t k => XS.istore X10.here hx rfl (hb hby at_75) rfl (l' := #[.val (.long q1), .second, .val (.long q2), .second, .val (.long q3), .second, .val (.int p1), .val (.int p2), .val (.ref b2), .val (.int (v_rm0_0 p1)), .val (.int (v_rm0_1 p2 p1)), .val (.int (1 : Int32)), .val (.int ((v_rm0_1 p2 p1) - (64 : Int32))), .unset]) rfl k) ?_
      refine go _ (T10.setTop (mkF m 91 #[.val (.long q1), .second, .val (.long q2), .second, .val (.long q3), .second, .val (.int p1), .val (.int p2), .val (.ref b2), .val (.int (v_rm0_0 p1)), .val (.int (v_rm0_1 p2 p1)), .val (.int (1 : Int32)), .val (.int ((v_rm0_1 p2 p1) - (64 : Int32))), .unset] [])) (fun t k => XS.goto X10.here hx rfl (pc0 := 77) (pc' := 91) rfl (hb hby at_77) (by decide) (by decide) k) ?_
      refine go _ (T10.setTop (mkF m 93 #[.val (.long q1), .second, .val (.long q2), .second, .val (.long q3), .second, .val (.int p1), .val (.int p2), .val (.ref b2), .val (.int (v_rm0_0 p1)), .val (.int (v_rm0_1 p2 p1)), .val (.int (1 : Int32)), .val (.int ((v_rm0_1 p2 p1) - (64 : Int32))), .unset] [(.ref b2)])) (fun t k => XS.aload X10.here hx rfl (hb hby at_91) rfl rfl k) ?_
      refine go _ (T10.setTop (mkF m 95 #[.val (.long q1), .second, .val (.long q2), .second, .val (.long q3), .second, .val (.int p1), .val (.int p2), .val (.ref b2), .val (.int (v_rm0_0 p1)), .val (.int (v_rm0_1 p2 p1)), .val (.int (1 : Int32)), .val (.int ((v_rm0_1 p2 p1) - (64 : Int32))), .unset] [(.int (v_rm0_0 p1)), (.ref b2)])) (fun t k => XS.iload X10.here hx rfl (hb hby at_93) rfl k) ?_
      refine go _ (T10.setTop (mkF m 97 #[.val (.long q1), .second, .val (.long q2), .second, .val (.long q3), .second, .val (.int p1), .val (.int p2), .val (.ref b2), .val (.int (v_rm0_0 p1)), .val (.int (v_rm0_1 p2 p1)), .val (.int (1 : Int32)), .val (.int ((v_rm0_1 p2 p1) - (64 : Int32))), .unset] [(.int (1 : Int32)), (.int (v_rm0_0 p1)), (.ref b2)])) (fun t k => XS.iload X10.here hx rfl (hb hby at_95) rfl k) ?_
      refine go _ (T10.setTop (mkF m 98 #[.val (.long q1), .second, .val (.long q2), .second, .val (.long q3), .second, .val (.int p1), .val (.int p2), .val (.ref b2), .val (.int (v_rm0_0 p1)), .val (.int (v_rm0_1 p2 p1)), .val (.int (1 : Int32)), .val (.int ((v_rm0_1 p2 p1) - (64 : Int32))), .unset] [(.int ((v_rm0_0 p1) + (1 : Int32))), (.ref b2)])) (fun t k => XS.iadd X10.here hx rfl (hb hby at_97) rfl k) ?_
      obtain ⟨i23, hii23, hji23, hki23, hmi23, hbi23, hBi23⟩ := own_c2 p1 p2 hc13 hc22
      refine go _ (T10.setTop (mkF m 99 #[.val (.long q1), .second, .val (.long q2), .second, .val (.long q3), .second, .val (.int p1), .val (.int p2), .val (.ref b2), .val (.int (v_rm0_0 p1)), .val (.int (v_rm0_1 p2 p1)), .val (.int (1 : Int32)), .val (.int ((v_rm0_1 p2 p1) - (64 : Int32))), .unset] [(.long (own_b3 q1 q2 q3 i23))])) (own_ldJ X10 hx hZ e10 A3 (i := i23) hji23 hii23 (g := (mkF m 98 #[.val (.long q1), .second, .val (.long q2), .second, .val (.long q3), .second, .val (.int p1), .val (.int p2), .val (.ref b2), .val (.int (v_rm0_0 p1)), .val (.int (v_rm0_1 p2 p1)), .val (.int (1 : Int32)), .val (.int ((v_rm0_1 p2 p1) - (64 : Int32))), .unset] [(.int ((v_rm0_0 p1) + (1 : Int32))), (.ref b2)])) rfl rfl (hb hby at_98) (v := (.long (own_b3 q1 q2 q3 i23))) rfl) ?_
      refine go _ (T10.setTop (mkF m 101 #[.val (.long q1), .second, .val (.long q2), .second, .val (.long q3), .second, .val (.int p1), .val (.int p2), .val (.ref b2), .val (.int (v_rm0_0 p1)), .val (.int (v_rm0_1 p2 p1)), .val (.int (1 : Int32)), .val (.int ((v_rm0_1 p2 p1) - (64 : Int32))), .unset] [(.int ((v_rm0_1 p2 p1) - (64 : Int32))), (.long (own_b3 q1 q2 q3 i23))])) (fun t k => XS.iload X10.here hx rfl (hb hby at_99) rfl k) ?_
      refine go _ (T10.setTop (mkF m 102 #[.val (.long q1), .second, .val (.long q2), .second, .val (.long q3), .second, .val (.int p1), .val (.int p2), .val (.ref b2), .val (.int (v_rm0_0 p1)), .val (.int (v_rm0_1 p2 p1)), .val (.int (1 : Int32)), .val (.int ((v_rm0_1 p2 p1) - (64 : Int32))), .unset] [(.long (jushrL (own_b3 q1 q2 q3 i23) ((v_rm0_1 p2 p1) - (64 : Int32))))])) (fun t k => XS.lushr X10.here hx rfl (hb hby at_101) rfl k) ?_
      refine go _ (T10.setTop (mkF m 103 #[.val (.long q1), .second, .val (.long q2), .second, .val (.long q3), .second, .val (.int p1), .val (.int p2), .val (.ref b2), .val (.int (v_rm0_0 p1)), .val (.int (v_rm0_1 p2 p1)), .val (.int (1 : Int32)), .val (.int ((v_rm0_1 p2 p1) - (64 : Int32))), .unset] [(.long (1 : Int64)), (.long (jushrL (own_b3 q1 q2 q3 i23) ((v_rm0_1 p2 p1) - (64 : Int32))))])) (fun t k => XS.lconst X10.here hx rfl (hb hby at_102) k) ?_
      refine go _ (T10.setTop (mkF m 104 #[.val (.long q1), .second, .val (.long q2), .second, .val (.long q3), .second, .val (.int p1), .val (.int p2), .val (.ref b2), .val (.int (v_rm0_0 p1)), .val (.int (v_rm0_1 p2 p1)), .val (.int (1 : Int32)), .val (.int ((v_rm0_1 p2 p1) - (64 : Int32))), .unset] [(.long ((jushrL (own_b3 q1 q2 q3 i23) ((v_rm0_1 p2 p1) - (64 : Int32))) &&& (1 : Int64)))])) (fun t k => XS.land X10.here hx rfl (hb hby at_103) rfl k) ?_
      refine go _ (T10.setTop (mkF m 105 #[.val (.long q1), .second, .val (.long q2), .second, .val (.long q3), .second, .val (.int p1), .val (.int p2), .val (.ref b2), .val (.int (v_rm0_0 p1)), .val (.int (v_rm0_1 p2 p1)), .val (.int (1 : Int32)), .val (.int ((v_rm0_1 p2 p1) - (64 : Int32))), .unset] [(.long (0 : Int64)), (.long ((jushrL (own_b3 q1 q2 q3 i23) ((v_rm0_1 p2 p1) - (64 : Int32))) &&& (1 : Int64)))])) (fun t k => XS.lconst X10.here hx rfl (hb hby at_104) k) ?_
      refine go _ (T10.setTop (mkF m 106 #[.val (.long q1), .second, .val (.long q2), .second, .val (.long q3), .second, .val (.int p1), .val (.int p2), .val (.ref b2), .val (.int (v_rm0_0 p1)), .val (.int (v_rm0_1 p2 p1)), .val (.int (1 : Int32)), .val (.int ((v_rm0_1 p2 p1) - (64 : Int32))), .unset] [(.int (lcmpW ((jushrL (own_b3 q1 q2 q3 i23) ((v_rm0_1 p2 p1) - (64 : Int32))) &&& (1 : Int64)) (0 : Int64)))])) (fun t k => XS.lcmp X10.here hx rfl (hb hby at_105) rfl k) ?_
      by_cases hc24 : ((jushrL (own_b3 q1 q2 q3 i23) ((v_rm0_1 p2 p1) - (64 : Int32))) &&& (1 : Int64)) = (0 : Int64)
      · refine go _ (T10.setTop (mkF m 113 #[.val (.long q1), .second, .val (.long q2), .second, .val (.long q3), .second, .val (.int p1), .val (.int p2), .val (.ref b2), .val (.int (v_rm0_0 p1)), .val (.int (v_rm0_1 p2 p1)), .val (.int (1 : Int32)), .val (.int ((v_rm0_1 p2 p1) - (64 : Int32))), .unset] [])) (fun t k => XS.ifYes X10.here hx rfl (pc0 := 106) (pc' := 113) rfl (hb hby at_106) rfl ((if0 _ _).trans (teq ((lw_eq ((jushrL (own_b3 q1 q2 q3 i23) ((v_rm0_1 p2 p1) - (64 : Int32))) &&& (1 : Int64)) (0 : Int64)).mpr hc24)).1) (by decide) (by decide) k) ?_
        refine go _ (T10.setTop (mkF m 114 #[.val (.long q1), .second, .val (.long q2), .second, .val (.long q3), .second, .val (.int p1), .val (.int p2), .val (.ref b2), .val (.int (v_rm0_0 p1)), .val (.int (v_rm0_1 p2 p1)), .val (.int (1 : Int32)), .val (.int ((v_rm0_1 p2 p1) - (64 : Int32))), .unset] [(.int (0 : Int32))])) (fun t k => XS.iconst X10.here hx rfl (hb hby at_113) k) ?_
        refine go _ (T10.setTop (mkF m 116 #[.val (.long q1), .second, .val (.long q2), .second, .val (.long q3), .second, .val (.int p1), .val (.int p2), .val (.ref b2), .val (.int (v_rm0_0 p1)), .val (.int (v_rm0_1 p2 p1)), .val (.int (1 : Int32)), .val (.int ((v_rm0_1 p2 p1) - (64 : Int32))), .val (.int (0 : Int32))] [])) (fun t k => XS.istore X10.here hx rfl (hb hby at_114) rfl (l' := #[.val (.long q1), .second, .val (.long q2), .second, .val (.long q3), .second, .val (.int p1), .val (.int p2), .val (.ref b2), .val (.int (v_rm0_0 p1)), .val (.int (v_rm0_1 p2 p1)), .val (.int (1 : Int32)), .val (.int ((v_rm0_1 p2 p1) - (64 : Int32))), .val (.int (0 : Int32))]) rfl k) ?_
        refine go _ (T10.setTop (mkF m 118 #[.val (.long q1), .second, .val (.long q2), .second, .val (.long q3), .second, .val (.int p1), .val (.int p2), .val (.ref b2), .val (.int (v_rm0_0 p1)), .val (.int (v_rm0_1 p2 p1)), .val (.int (1 : Int32)), .val (.int ((v_rm0_1 p2 p1) - (64 : Int32))), .val (.int (0 : Int32))] [(.ref b2)])) (fun t k => XS.aload X10.here hx rfl (hb hby at_116) rfl rfl k) ?_
        refine go _ (T10.setTop (mkF m 120 #[.val (.long q1), .second, .val (.long q2), .second, .val (.long q3), .second, .val (.int p1), .val (.int p2), .val (.ref b2), .val (.int (v_rm0_0 p1)), .val (.int (v_rm0_1 p2 p1)), .val (.int (1 : Int32)), .val (.int ((v_rm0_1 p2 p1) - (64 : Int32))), .val (.int (0 : Int32))] [(.int (v_rm0_0 p1)), (.ref b2)])) (fun t k => XS.iload X10.here hx rfl (hb hby at_118) rfl k) ?_
        refine go _ (T10.setTop (mkF m 122 #[.val (.long q1), .second, .val (.long q2), .second, .val (.long q3), .second, .val (.int p1), .val (.int p2), .val (.ref b2), .val (.int (v_rm0_0 p1)), .val (.int (v_rm0_1 p2 p1)), .val (.int (1 : Int32)), .val (.int ((v_rm0_1 p2 p1) - (64 : Int32))), .val (.int (0 : Int32))] [(.int (v_rm0_1 p2 p1)), (.int (v_rm0_0 p1)), (.ref b2)])) (fun t k => XS.iload X10.here hx rfl (hb hby at_120) rfl k) ?_
        obtain ⟨_, _, ⟨T25, L25, k25, n25⟩, -, X25, ⟨Lc25, hQ25, l25, y25, z25⟩, st25⟩ := Jvm.LawKit.callS X10 hx (y := (⟨"com/example/bipartite_map/bipartitemap/order/GapPenalty", "holds", "([JII)Z"⟩ : MethodName)) hown (mvT hZ (hw _ (List.mem_of_getElem? (i := 2) rfl))) (mvT hZ (hw _ (List.mem_of_getElem? (i := 3) rfl))) (mvT hZ (hw _ (List.mem_of_getElem? (i := 4) rfl))) (mvT hZ (hw _ (List.mem_of_getElem? (i := 5) rfl))) (by decide) (backOf (W := 0) (rm1 l Z a0 hw [] b2 (v_rm0_0 p1) (v_rm0_1 p2 p1) (own_b3 q1 q2 q3) 3 i23 h10 n0 Z11 A3 hki23 hii23) hZ (hw _ (List.mem_of_getElem? (i := 5) rfl)) (hw _ (List.mem_of_getElem? (i := 4) rfl)) (by decide) (by decide)) (g := (mkF m 122 #[.val (.long q1), .second, .val (.long q2), .second, .val (.long q3), .second, .val (.int p1), .val (.int p2), .val (.ref b2), .val (.int (v_rm0_0 p1)), .val (.int (v_rm0_1 p2 p1)), .val (.int (1 : Int32)), .val (.int ((v_rm0_1 p2 p1) - (64 : Int32))), .val (.int (0 : Int32))] [(.int (v_rm0_1 p2 p1)), (.int (v_rm0_0 p1)), (.ref b2)])) rfl (by rw [hml]; rfl) (argsL := [(.ref b2), (.int (v_rm0_0 p1)), (.int (v_rm0_1 p2 p1))]) (rest := []) (lenOf pd_1 rfl) rfl (by show 2 * 0 + _ ≤ _; exact Nat.le_of_eq rfl) (hb hby at_122) (fun _ _ => ⟨rfl, e10, (by decide : 0 + 1 + 0 ≤ _), (by decide : 0 + 3 + 0 ≤ _)⟩)
        dsimp only [Pt.U, Pt.locs, Pt.cells, Pt.slots] at X25 l25 y25 z25 st25 hQ25
        subst l25 y25 z25
        obtain ⟨rfl, Nq25, hh25⟩ := hQ25
        have N26 := Fr.app N12 Nq25
        refine go _ (T25.setTop (mkF m 125 #[.val (.long q1), .second, .val (.long q2), .second, .val (.long q3), .second, .val (.int p1), .val (.int p2), .val (.ref b2), .val (.int (v_rm0_0 p1)), .val (.int (v_rm0_1 p2 p1)), .val (.int (1 : Int32)), .val (.int ((v_rm0_1 p2 p1) - (64 : Int32))), .val (.int (0 : Int32))] [(.int (own_holds (own_b3 q1 q2 q3 i23) (v_rm0_1 p2 p1)))])) (st25) ?_
        refine go _ (T25.setTop (mkF m 127 #[.val (.long q1), .second, .val (.long q2), .second, .val (.long q3), .second, .val (.int p1), .val (.int p2), .val (.ref b2), .val (.int (v_rm0_0 p1)), .val (.int (v_rm0_1 p2 p1)), .val (.int (1 : Int32)), .val (.int ((v_rm0_1 p2 p1) - (64 : Int32))), .val (.int (0 : Int32))] [(.int (0 : Int32)), (.int (own_holds (own_b3 q1 q2 q3 i23) (v_rm0_1 p2 p1)))])) (fun t k => XS.iload X25.here hx rfl (hb hby at_125) rfl k) ?_
        have hc27 : ((own_holds (own_b3 q1 q2 q3 i23) (v_rm0_1 p2 p1)) = (0 : Int32)) := (own_hold0 _ _ _ hmi23 hbi23 hBi23 hc24)
        refine go _ (T25.setTop (mkF m 130 #[.val (.long q1), .second, .val (.long q2), .second, .val (.long q3), .second, .val (.int p1), .val (.int p2), .val (.ref b2), .val (.int (v_rm0_0 p1)), .val (.int (v_rm0_1 p2 p1)), .val (.int (1 : Int32)), .val (.int ((v_rm0_1 p2 p1) - (64 : Int32))), .val (.int (0 : Int32))] [])) (fun t k => XS.icmpNo X25.here hx rfl (hb hby at_127) rfl (teq hc27).2 k) ?_
        refine go _ (T25.setTop (mkF m 131 #[.val (.long q1), .second, .val (.long q2), .second, .val (.long q3), .second, .val (.int p1), .val (.int p2), .val (.ref b2), .val (.int (v_rm0_0 p1)), .val (.int (v_rm0_1 p2 p1)), .val (.int (1 : Int32)), .val (.int ((v_rm0_1 p2 p1) - (64 : Int32))), .val (.int (0 : Int32))] [(.int (1 : Int32))])) (fun t k => XS.iconst X25.here hx rfl (hb hby at_130) k) ?_
        refine go _ (T25.setTop (mkF m 135 #[.val (.long q1), .second, .val (.long q2), .second, .val (.long q3), .second, .val (.int p1), .val (.int p2), .val (.ref b2), .val (.int (v_rm0_0 p1)), .val (.int (v_rm0_1 p2 p1)), .val (.int (1 : Int32)), .val (.int ((v_rm0_1 p2 p1) - (64 : Int32))), .val (.int (0 : Int32))] [(.int (1 : Int32))])) (fun t k => XS.goto X25.here hx rfl (pc0 := 131) (pc' := 135) rfl (hb hby at_131) (by decide) (by decide) k) ?_
        exact fin (some (.int (1 : Int32))) X25 (by decide) (by decide) (fun q => by cases q) (show Q_rm0 Z q1 q2 q3 p1 p2 h0 n0 _ T25.heap _ from (by rw [hh25]; exact ⟨rfl, N26⟩)) (fun fs hr => retN X25 hx (t := .boolean) hret (by simp) (hb hby at_135) hr)
      · refine go _ (T10.setTop (mkF m 109 #[.val (.long q1), .second, .val (.long q2), .second, .val (.long q3), .second, .val (.int p1), .val (.int p2), .val (.ref b2), .val (.int (v_rm0_0 p1)), .val (.int (v_rm0_1 p2 p1)), .val (.int (1 : Int32)), .val (.int ((v_rm0_1 p2 p1) - (64 : Int32))), .unset] [])) (fun t k => XS.ifNo X10.here hx rfl (hb hby at_106) rfl ((if0 _ _).trans (feq (fun q => hc24 ((lw_eq ((jushrL (own_b3 q1 q2 q3 i23) ((v_rm0_1 p2 p1) - (64 : Int32))) &&& (1 : Int64)) (0 : Int64)).mp q))).1) k) ?_
        refine go _ (T10.setTop (mkF m 110 #[.val (.long q1), .second, .val (.long q2), .second, .val (.long q3), .second, .val (.int p1), .val (.int p2), .val (.ref b2), .val (.int (v_rm0_0 p1)), .val (.int (v_rm0_1 p2 p1)), .val (.int (1 : Int32)), .val (.int ((v_rm0_1 p2 p1) - (64 : Int32))), .unset] [(.int (1 : Int32))])) (fun t k => XS.iconst X10.here hx rfl (hb hby at_109) k) ?_
        refine go _ (T10.setTop (mkF m 114 #[.val (.long q1), .second, .val (.long q2), .second, .val (.long q3), .second, .val (.int p1), .val (.int p2), .val (.ref b2), .val (.int (v_rm0_0 p1)), .val (.int (v_rm0_1 p2 p1)), .val (.int (1 : Int32)), .val (.int ((v_rm0_1 p2 p1) - (64 : Int32))), .unset] [(.int (1 : Int32))])) (fun t k => XS.goto X10.here hx rfl (pc0 := 110) (pc' := 114) rfl (hb hby at_110) (by decide) (by decide) k) ?_
        refine go _ (T10.setTop (mkF m 116 #[.val (.long q1), .second, .val (.long q2), .second, .val (.long q3), .second, .val (.int p1), .val (.int p2), .val (.ref b2), .val (.int (v_rm0_0 p1)), .val (.int (v_rm0_1 p2 p1)), .val (.int (1 : Int32)), .val (.int ((v_rm0_1 p2 p1) - (64 : Int32))), .val (.int (1 : Int32))] [])) (fun t k => XS.istore X10.here hx rfl (hb hby at_114) rfl (l' := #[.val (.long q1), .second, .val (.long q2), .second, .val (.long q3), .second, .val (.int p1), .val (.int p2), .val (.ref b2), .val (.int (v_rm0_0 p1)), .val (.int (v_rm0_1 p2 p1)), .val (.int (1 : Int32)), .val (.int ((v_rm0_1 p2 p1) - (64 : Int32))), .val (.int (1 : Int32))]) rfl k) ?_
        refine go _ (T10.setTop (mkF m 118 #[.val (.long q1), .second, .val (.long q2), .second, .val (.long q3), .second, .val (.int p1), .val (.int p2), .val (.ref b2), .val (.int (v_rm0_0 p1)), .val (.int (v_rm0_1 p2 p1)), .val (.int (1 : Int32)), .val (.int ((v_rm0_1 p2 p1) - (64 : Int32))), .val (.int (1 : Int32))] [(.ref b2)])) (fun t k => XS.aload X10.here hx rfl (hb hby at_116) rfl rfl k) ?_
        refine go _ (T10.setTop (mkF m 120 #[.val (.long q1), .second, .val (.long q2), .second, .val (.long q3), .second, .val (.int p1), .val (.int p2), .val (.ref b2), .val (.int (v_rm0_0 p1)), .val (.int (v_rm0_1 p2 p1)), .val (.int (1 : Int32)), .val (.int ((v_rm0_1 p2 p1) - (64 : Int32))), .val (.int (1 : Int32))] [(.int (v_rm0_0 p1)), (.ref b2)])) (fun t k => XS.iload X10.here hx rfl (hb hby at_118) rfl k) ?_
        refine go _ (T10.setTop (mkF m 122 #[.val (.long q1), .second, .val (.long q2), .second, .val (.long q3), .second, .val (.int p1), .val (.int p2), .val (.ref b2), .val (.int (v_rm0_0 p1)), .val (.int (v_rm0_1 p2 p1)), .val (.int (1 : Int32)), .val (.int ((v_rm0_1 p2 p1) - (64 : Int32))), .val (.int (1 : Int32))] [(.int (v_rm0_1 p2 p1)), (.int (v_rm0_0 p1)), (.ref b2)])) (fun t k => XS.iload X10.here hx rfl (hb hby at_120) rfl k) ?_
        obtain ⟨_, _, ⟨T28, L28, k28, n28⟩, -, X28, ⟨Lc28, hQ28, l28, y28, z28⟩, st28⟩ := Jvm.LawKit.callS X10 hx (y := (⟨"com/example/bipartite_map/bipartitemap/order/GapPenalty", "holds", "([JII)Z"⟩ : MethodName)) hown (mvT hZ (hw _ (List.mem_of_getElem? (i := 2) rfl))) (mvT hZ (hw _ (List.mem_of_getElem? (i := 3) rfl))) (mvT hZ (hw _ (List.mem_of_getElem? (i := 4) rfl))) (mvT hZ (hw _ (List.mem_of_getElem? (i := 5) rfl))) (by decide) (backOf (W := 0) (rm1 l Z a0 hw [] b2 (v_rm0_0 p1) (v_rm0_1 p2 p1) (own_b3 q1 q2 q3) 3 i23 h10 n0 Z11 A3 hki23 hii23) hZ (hw _ (List.mem_of_getElem? (i := 5) rfl)) (hw _ (List.mem_of_getElem? (i := 4) rfl)) (by decide) (by decide)) (g := (mkF m 122 #[.val (.long q1), .second, .val (.long q2), .second, .val (.long q3), .second, .val (.int p1), .val (.int p2), .val (.ref b2), .val (.int (v_rm0_0 p1)), .val (.int (v_rm0_1 p2 p1)), .val (.int (1 : Int32)), .val (.int ((v_rm0_1 p2 p1) - (64 : Int32))), .val (.int (1 : Int32))] [(.int (v_rm0_1 p2 p1)), (.int (v_rm0_0 p1)), (.ref b2)])) rfl (by rw [hml]; rfl) (argsL := [(.ref b2), (.int (v_rm0_0 p1)), (.int (v_rm0_1 p2 p1))]) (rest := []) (lenOf pd_1 rfl) rfl (by show 2 * 0 + _ ≤ _; exact Nat.le_of_eq rfl) (hb hby at_122) (fun _ _ => ⟨rfl, e10, (by decide : 0 + 1 + 0 ≤ _), (by decide : 0 + 3 + 0 ≤ _)⟩)
        dsimp only [Pt.U, Pt.locs, Pt.cells, Pt.slots] at X28 l28 y28 z28 st28 hQ28
        subst l28 y28 z28
        obtain ⟨rfl, Nq28, hh28⟩ := hQ28
        have N29 := Fr.app N12 Nq28
        refine go _ (T28.setTop (mkF m 125 #[.val (.long q1), .second, .val (.long q2), .second, .val (.long q3), .second, .val (.int p1), .val (.int p2), .val (.ref b2), .val (.int (v_rm0_0 p1)), .val (.int (v_rm0_1 p2 p1)), .val (.int (1 : Int32)), .val (.int ((v_rm0_1 p2 p1) - (64 : Int32))), .val (.int (1 : Int32))] [(.int (own_holds (own_b3 q1 q2 q3 i23) (v_rm0_1 p2 p1)))])) (st28) ?_
        refine go _ (T28.setTop (mkF m 127 #[.val (.long q1), .second, .val (.long q2), .second, .val (.long q3), .second, .val (.int p1), .val (.int p2), .val (.ref b2), .val (.int (v_rm0_0 p1)), .val (.int (v_rm0_1 p2 p1)), .val (.int (1 : Int32)), .val (.int ((v_rm0_1 p2 p1) - (64 : Int32))), .val (.int (1 : Int32))] [(.int (1 : Int32)), (.int (own_holds (own_b3 q1 q2 q3 i23) (v_rm0_1 p2 p1)))])) (fun t k => XS.iload X28.here hx rfl (hb hby at_125) rfl k) ?_
        have hc30 : ((own_holds (own_b3 q1 q2 q3 i23) (v_rm0_1 p2 p1)) = (1 : Int32)) := (own_hold1 _ _ _ hmi23 hbi23 hBi23 hc24)
        refine go _ (T28.setTop (mkF m 130 #[.val (.long q1), .second, .val (.long q2), .second, .val (.long q3), .second, .val (.int p1), .val (.int p2), .val (.ref b2), .val (.int (v_rm0_0 p1)), .val (.int (v_rm0_1 p2 p1)), .val (.int (1 : Int32)), .val (.int ((v_rm0_1 p2 p1) - (64 : Int32))), .val (.int (1 : Int32))] [])) (fun t k => XS.icmpNo X28.here hx rfl (hb hby at_127) rfl (teq hc30).2 k) ?_
        refine go _ (T28.setTop (mkF m 131 #[.val (.long q1), .second, .val (.long q2), .second, .val (.long q3), .second, .val (.int p1), .val (.int p2), .val (.ref b2), .val (.int (v_rm0_0 p1)), .val (.int (v_rm0_1 p2 p1)), .val (.int (1 : Int32)), .val (.int ((v_rm0_1 p2 p1) - (64 : Int32))), .val (.int (1 : Int32))] [(.int (1 : Int32))])) (fun t k => XS.iconst X28.here hx rfl (hb hby at_130) k) ?_
        refine go _ (T28.setTop (mkF m 135 #[.val (.long q1), .second, .val (.long q2), .second, .val (.long q3), .second, .val (.int p1), .val (.int p2), .val (.ref b2), .val (.int (v_rm0_0 p1)), .val (.int (v_rm0_1 p2 p1)), .val (.int (1 : Int32)), .val (.int ((v_rm0_1 p2 p1) - (64 : Int32))), .val (.int (1 : Int32))] [(.int (1 : Int32))])) (fun t k => XS.goto X28.here hx rfl (pc0 := 131) (pc' := 135) rfl (hb hby at_131) (by decide) (by decide) k) ?_
        exact fin (some (.int (1 : Int32))) X28 (by decide) (by decide) (fun q => by cases q) (show Q_rm0 Z q1 q2 q3 p1 p2 h0 n0 _ T28.heap _ from (by rw [hh28]; exact ⟨rfl, N29⟩)) (fun fs hr => retN X28 hx (t := .boolean) hret (by simp) (hb hby at_135) hr)
    · refine go _ (T10.setTop (mkF m 80 #[.val (.long q1), .second, .val (.long q2), .second, .val (.long q3), .second, .val (.int p1), .val (.int p2), .val (.ref b2), .val (.int (v_rm0_0 p1)), .val (.int (v_rm0_1 p2 p1)), .unset, .unset, .unset] [])) (fun t k => XS.icmpYes X10.here hx rfl (pc0 := 64) (pc' := 80) rfl (hb hby at_64) rfl (flt hc22).2.1 (by decide) (by decide) k) ?_
      refine go _ (T10.setTop (mkF m 81 #[.val (.long q1), .second, .val (.long q2), .second, .val (.long q3), .second, .val (.int p1), .val (.int p2), .val (.ref b2), .val (.int (v_rm0_0 p1)), .val (.int (v_rm0_1 p2 p1)), .unset, .unset, .unset] [(.int (2 : Int32))])) (fun t k => XS.iconst X10.here hx rfl (hb hby at_80) k) ?_
      refine go _ (T10.setTop (mkF m 83 #[.val (.long q1), .second, .val (.long q2), .second, .val (.long q3), .second, .val (.int p1), .val (.int p2), .val (.ref b2), .val (.int (v_rm0_0 p1)), .val (.int (v_rm0_1 p2 p1)), .val (.int (2 : Int32)), .unset, .unset] [])) (fun t k => XS.istore X10.here hx rfl (hb hby at_81) rfl (l' := #[.val (.long q1), .second, .val (.long q2), .second, .val (.long q3), .second, .val (.int p1), .val (.int p2), .val (.ref b2), .val (.int (v_rm0_0 p1)), .val (.int (v_rm0_1 p2 p1)), .val (.int (2 : Int32)), .unset, .unset]) rfl k) ?_
      refine go _ (T10.setTop (mkF m 85 #[.val (.long q1), .second, .val (.long q2), .second, .val (.long q3), .second, .val (.int p1), .val (.int p2), .val (.ref b2), .val (.int (v_rm0_0 p1)), .val (.int (v_rm0_1 p2 p1)), .val (.int (2 : Int32)), .unset, .unset] [(.int (v_rm0_1 p2 p1))])) (fun t k => XS.iload X10.here hx rfl (hb hby at_83) rfl k) ?_
      refine go _ (T10.setTop (mkF m 88 #[.val (.long q1), .second, .val (.long q2), .second, .val (.long q3), .second, .val (.int p1), .val (.int p2), .val (.ref b2), .val (.int (v_rm0_0 p1)), .val (.int (v_rm0_1 p2 p1)), .val (.int (2 : Int32)), .unset, .unset] [(.int (128 : Int32)), (.int (v_rm0_1 p2 p1))])) (fun t k => XS.sipush X10.here hx rfl (hb hby at_85) k) ?_
      refine go _ (T10.setTop (mkF m 89 #[.val (.long q1), .second, .val (.long q2), .second, .val (.long q3), .second, .val (.int p1), .val (.int p2), .val (.ref b2), .val (.int (v_rm0_0 p1)), .val (.int (v_rm0_1 p2 p1)), .val (.int (2 : Int32)), .unset, .unset] [(.int ((v_rm0_1 p2 p1) - (128 : Int32)))])) (fun t k => XS.isub X10.here hx rfl (hb hby at_88) rfl k) ?_
      refine go _ (T10.setTop (mkF m 91 #[.val (.long q1), .second, .val (.long q2), .second, .val (.long q3), .second, .val (.int p1), .val (.int p2), .val (.ref b2), .val (.int (v_rm0_0 p1)), .val (.int (v_rm0_1 p2 p1)), .val (.int (2 : Int32)), .val (.int ((v_rm0_1 p2 p1) - (128 : Int32))), .unset] [])) (fun t k => XS.istore X10.here hx rfl (hb hby at_89) rfl (l' := #[.val (.long q1), .second, .val (.long q2), .second, .val (.long q3), .second, .val (.int p1), .val (.int p2), .val (.ref b2), .val (.int (v_rm0_0 p1)), .val (.int (v_rm0_1 p2 p1)), .val (.int (2 : Int32)), .val (.int ((v_rm0_1 p2 p1) - (128 : Int32))), .unset]) rfl k) ?_
      refine go _ (T10.setTop (mkF m 93 #[.val (.long q1), .second, .val (.long q2), .second, .val (.long q3), .second, .val (.int p1), .val (.int p2), .val (.ref b2), .val (.int (v_rm0_0 p1)), .val (.int (v_rm0_1 p2 p1)), .val (.int (2 : Int32)), .val (.int ((v_rm0_1 p2 p1) - (128 : Int32))), .unset] [(.ref b2)])) (fun t k => XS.aload X10.here hx rfl (hb hby at_91) rfl rfl k) ?_
      refine go _ (T10.setTop (mkF m 95 #[.val (.long q1), .second, .val (.long q2), .second, .val (.long q3), .second, .val (.int p1), .val (.int p2), .val (.ref b2), .val (.int (v_rm0_0 p1)), .val (.int (v_rm0_1 p2 p1)), .val (.int (2 : Int32)), .val (.int ((v_rm0_1 p2 p1) - (128 : Int32))), .unset] [(.int (v_rm0_0 p1)), (.ref b2)])) (fun t k => XS.iload X10.here hx rfl (hb hby at_93) rfl k) ?_
      refine go _ (T10.setTop (mkF m 97 #[.val (.long q1), .second, .val (.long q2), .second, .val (.long q3), .second, .val (.int p1), .val (.int p2), .val (.ref b2), .val (.int (v_rm0_0 p1)), .val (.int (v_rm0_1 p2 p1)), .val (.int (2 : Int32)), .val (.int ((v_rm0_1 p2 p1) - (128 : Int32))), .unset] [(.int (2 : Int32)), (.int (v_rm0_0 p1)), (.ref b2)])) (fun t k => XS.iload X10.here hx rfl (hb hby at_95) rfl k) ?_
      refine go _ (T10.setTop (mkF m 98 #[.val (.long q1), .second, .val (.long q2), .second, .val (.long q3), .second, .val (.int p1), .val (.int p2), .val (.ref b2), .val (.int (v_rm0_0 p1)), .val (.int (v_rm0_1 p2 p1)), .val (.int (2 : Int32)), .val (.int ((v_rm0_1 p2 p1) - (128 : Int32))), .unset] [(.int ((v_rm0_0 p1) + (2 : Int32))), (.ref b2)])) (fun t k => XS.iadd X10.here hx rfl (hb hby at_97) rfl k) ?_
      obtain ⟨i31, hii31, hji31, hki31, hmi31, hbi31, hBi31⟩ := own_c3 p1 p2 hc13 hc22
      refine go _ (T10.setTop (mkF m 99 #[.val (.long q1), .second, .val (.long q2), .second, .val (.long q3), .second, .val (.int p1), .val (.int p2), .val (.ref b2), .val (.int (v_rm0_0 p1)), .val (.int (v_rm0_1 p2 p1)), .val (.int (2 : Int32)), .val (.int ((v_rm0_1 p2 p1) - (128 : Int32))), .unset] [(.long (own_b3 q1 q2 q3 i31))])) (own_ldJ X10 hx hZ e10 A3 (i := i31) hji31 hii31 (g := (mkF m 98 #[.val (.long q1), .second, .val (.long q2), .second, .val (.long q3), .second, .val (.int p1), .val (.int p2), .val (.ref b2), .val (.int (v_rm0_0 p1)), .val (.int (v_rm0_1 p2 p1)), .val (.int (2 : Int32)), .val (.int ((v_rm0_1 p2 p1) - (128 : Int32))), .unset] [(.int ((v_rm0_0 p1) + (2 : Int32))), (.ref b2)])) rfl rfl (hb hby at_98) (v := (.long (own_b3 q1 q2 q3 i31))) rfl) ?_
      refine go _ (T10.setTop (mkF m 101 #[.val (.long q1), .second, .val (.long q2), .second, .val (.long q3), .second, .val (.int p1), .val (.int p2), .val (.ref b2), .val (.int (v_rm0_0 p1)), .val (.int (v_rm0_1 p2 p1)), .val (.int (2 : Int32)), .val (.int ((v_rm0_1 p2 p1) - (128 : Int32))), .unset] [(.int ((v_rm0_1 p2 p1) - (128 : Int32))), (.long (own_b3 q1 q2 q3 i31))])) (fun t k => XS.iload X10.here hx rfl (hb hby at_99) rfl k) ?_
      refine go _ (T10.setTop (mkF m 102 #[.val (.long q1), .second, .val (.long q2), .second, .val (.long q3), .second, .val (.int p1), .val (.int p2), .val (.ref b2), .val (.int (v_rm0_0 p1)), .val (.int (v_rm0_1 p2 p1)), .val (.int (2 : Int32)), .val (.int ((v_rm0_1 p2 p1) - (128 : Int32))), .unset] [(.long (jushrL (own_b3 q1 q2 q3 i31) ((v_rm0_1 p2 p1) - (128 : Int32))))])) (fun t k => XS.lushr X10.here hx rfl (hb hby at_101) rfl k) ?_
      refine go _ (T10.setTop (mkF m 103 #[.val (.long q1), .second, .val (.long q2), .second, .val (.long q3), .second, .val (.int p1), .val (.int p2), .val (.ref b2), .val (.int (v_rm0_0 p1)), .val (.int (v_rm0_1 p2 p1)), .val (.int (2 : Int32)), .val (.int ((v_rm0_1 p2 p1) - (128 : Int32))), .unset] [(.long (1 : Int64)), (.long (jushrL (own_b3 q1 q2 q3 i31) ((v_rm0_1 p2 p1) - (128 : Int32))))])) (fun t k => XS.lconst X10.here hx rfl (hb hby at_102) k) ?_
      refine go _ (T10.setTop (mkF m 104 #[.val (.long q1), .second, .val (.long q2), .second, .val (.long q3), .second, .val (.int p1), .val (.int p2), .val (.ref b2), .val (.int (v_rm0_0 p1)), .val (.int (v_rm0_1 p2 p1)), .val (.int (2 : Int32)), .val (.int ((v_rm0_1 p2 p1) - (128 : Int32))), .unset] [(.long ((jushrL (own_b3 q1 q2 q3 i31) ((v_rm0_1 p2 p1) - (128 : Int32))) &&& (1 : Int64)))])) (fun t k => XS.land X10.here hx rfl (hb hby at_103) rfl k) ?_
      refine go _ (T10.setTop (mkF m 105 #[.val (.long q1), .second, .val (.long q2), .second, .val (.long q3), .second, .val (.int p1), .val (.int p2), .val (.ref b2), .val (.int (v_rm0_0 p1)), .val (.int (v_rm0_1 p2 p1)), .val (.int (2 : Int32)), .val (.int ((v_rm0_1 p2 p1) - (128 : Int32))), .unset] [(.long (0 : Int64)), (.long ((jushrL (own_b3 q1 q2 q3 i31) ((v_rm0_1 p2 p1) - (128 : Int32))) &&& (1 : Int64)))])) (fun t k => XS.lconst X10.here hx rfl (hb hby at_104) k) ?_
      refine go _ (T10.setTop (mkF m 106 #[.val (.long q1), .second, .val (.long q2), .second, .val (.long q3), .second, .val (.int p1), .val (.int p2), .val (.ref b2), .val (.int (v_rm0_0 p1)), .val (.int (v_rm0_1 p2 p1)), .val (.int (2 : Int32)), .val (.int ((v_rm0_1 p2 p1) - (128 : Int32))), .unset] [(.int (lcmpW ((jushrL (own_b3 q1 q2 q3 i31) ((v_rm0_1 p2 p1) - (128 : Int32))) &&& (1 : Int64)) (0 : Int64)))])) (fun t k => XS.lcmp X10.here hx rfl (hb hby at_105) rfl k) ?_
      by_cases hc32 : ((jushrL (own_b3 q1 q2 q3 i31) ((v_rm0_1 p2 p1) - (128 : Int32))) &&& (1 : Int64)) = (0 : Int64)
      · refine go _ (T10.setTop (mkF m 113 #[.val (.long q1), .second, .val (.long q2), .second, .val (.long q3), .second, .val (.int p1), .val (.int p2), .val (.ref b2), .val (.int (v_rm0_0 p1)), .val (.int (v_rm0_1 p2 p1)), .val (.int (2 : Int32)), .val (.int ((v_rm0_1 p2 p1) - (128 : Int32))), .unset] [])) (fun t k => XS.ifYes X10.here hx rfl (pc0 := 106) (pc' := 113) rfl (hb hby at_106) rfl ((if0 _ _).trans (teq ((lw_eq ((jushrL (own_b3 q1 q2 q3 i31) ((v_rm0_1 p2 p1) - (128 : Int32))) &&& (1 : Int64)) (0 : Int64)).mpr hc32)).1) (by decide) (by decide) k) ?_
        refine go _ (T10.setTop (mkF m 114 #[.val (.long q1), .second, .val (.long q2), .second, .val (.long q3), .second, .val (.int p1), .val (.int p2), .val (.ref b2), .val (.int (v_rm0_0 p1)), .val (.int (v_rm0_1 p2 p1)), .val (.int (2 : Int32)), .val (.int ((v_rm0_1 p2 p1) - (128 : Int32))), .unset] [(.int (0 : Int32))])) (fun t k => XS.iconst X10.here hx rfl (hb hby at_113) k) ?_
        refine go _ (T10.setTop (mkF m 116 #[.val (.long q1), .second, .val (.long q2), .second, .val (.long q3), .second, .val (.int p1), .val (.int p2), .val (.ref b2), .val (.int (v_rm0_0 p1)), .val (.int (v_rm0_1 p2 p1)), .val (.int (2 : Int32)), .val (.int ((v_rm0_1 p2 p1) - (128 : Int32))), .val (.int (0 : Int32))] [])) (fun t k => XS.istore X10.here hx rfl (hb hby at_114) rfl (l' := #[.val (.long q1), .second, .val (.long q2), .second, .val (.long q3), .second, .val (.int p1), .val (.int p2), .val (.ref b2), .val (.int (v_rm0_0 p1)), .val (.int (v_rm0_1 p2 p1)), .val (.int (2 : Int32)), .val (.int ((v_rm0_1 p2 p1) - (128 : Int32))), .val (.int (0 : Int32))]) rfl k) ?_
        refine go _ (T10.setTop (mkF m 118 #[.val (.long q1), .second, .val (.long q2), .second, .val (.long q3), .second, .val (.int p1), .val (.int p2), .val (.ref b2), .val (.int (v_rm0_0 p1)), .val (.int (v_rm0_1 p2 p1)), .val (.int (2 : Int32)), .val (.int ((v_rm0_1 p2 p1) - (128 : Int32))), .val (.int (0 : Int32))] [(.ref b2)])) (fun t k => XS.aload X10.here hx rfl (hb hby at_116) rfl rfl k) ?_
        refine go _ (T10.setTop (mkF m 120 #[.val (.long q1), .second, .val (.long q2), .second, .val (.long q3), .second, .val (.int p1), .val (.int p2), .val (.ref b2), .val (.int (v_rm0_0 p1)), .val (.int (v_rm0_1 p2 p1)), .val (.int (2 : Int32)), .val (.int ((v_rm0_1 p2 p1) - (128 : Int32))), .val (.int (0 : Int32))] [(.int (v_rm0_0 p1)), (.ref b2)])) (fun t k => XS.iload X10.here hx rfl (hb hby at_118) rfl k) ?_
        refine go _ (T10.setTop (mkF m 122 #[.val (.long q1), .second, .val (.long q2), .second, .val (.long q3), .second, .val (.int p1), .val (.int p2), .val (.ref b2), .val (.int (v_rm0_0 p1)), .val (.int (v_rm0_1 p2 p1)), .val (.int (2 : Int32)), .val (.int ((v_rm0_1 p2 p1) - (128 : Int32))), .val (.int (0 : Int32))] [(.int (v_rm0_1 p2 p1)), (.int (v_rm0_0 p1)), (.ref b2)])) (fun t k => XS.iload X10.here hx rfl (hb hby at_120) rfl k) ?_
        obtain ⟨_, _, ⟨T33, L33, k33, n33⟩, -, X33, ⟨Lc33, hQ33, l33, y33, z33⟩, st33⟩ := Jvm.LawKit.callS X10 hx (y := (⟨"com/example/bipartite_map/bipartitemap/order/GapPenalty", "holds", "([JII)Z"⟩ : MethodName)) hown (mvT hZ (hw _ (List.mem_of_getElem? (i := 2) rfl))) (mvT hZ (hw _ (List.mem_of_getElem? (i := 3) rfl))) (mvT hZ (hw _ (List.mem_of_getElem? (i := 4) rfl))) (mvT hZ (hw _ (List.mem_of_getElem? (i := 5) rfl))) (by decide) (backOf (W := 0) (rm1 l Z a0 hw [] b2 (v_rm0_0 p1) (v_rm0_1 p2 p1) (own_b3 q1 q2 q3) 3 i31 h10 n0 Z11 A3 hki31 hii31) hZ (hw _ (List.mem_of_getElem? (i := 5) rfl)) (hw _ (List.mem_of_getElem? (i := 4) rfl)) (by decide) (by decide)) (g := (mkF m 122 #[.val (.long q1), .second, .val (.long q2), .second, .val (.long q3), .second, .val (.int p1), .val (.int p2), .val (.ref b2), .val (.int (v_rm0_0 p1)), .val (.int (v_rm0_1 p2 p1)), .val (.int (2 : Int32)), .val (.int ((v_rm0_1 p2 p1) - (128 : Int32))), .val (.int (0 : Int32))] [(.int (v_rm0_1 p2 p1)), (.int (v_rm0_0 p1)), (.ref b2)])) rfl (by rw [hml]; rfl) (argsL := [(.ref b2), (.int (v_rm0_0 p1)), (.int (v_rm0_1 p2 p1))]) (rest := []) (lenOf pd_1 rfl) rfl (by show 2 * 0 + _ ≤ _; exact Nat.le_of_eq rfl) (hb hby at_122) (fun _ _ => ⟨rfl, e10, (by decide : 0 + 1 + 0 ≤ _), (by decide : 0 + 3 + 0 ≤ _)⟩)
        dsimp only [Pt.U, Pt.locs, Pt.cells, Pt.slots] at X33 l33 y33 z33 st33 hQ33
        subst l33 y33 z33
        obtain ⟨rfl, Nq33, hh33⟩ := hQ33
        have N34 := Fr.app N12 Nq33
        refine go _ (T33.setTop (mkF m 125 #[.val (.long q1), .second, .val (.long q2), .second, .val (.long q3), .second, .val (.int p1), .val (.int p2), .val (.ref b2), .val (.int (v_rm0_0 p1)), .val (.int (v_rm0_1 p2 p1)), .val (.int (2 : Int32)), .val (.int ((v_rm0_1 p2 p1) - (128 : Int32))), .val (.int (0 : Int32))] [(.int (own_holds (own_b3 q1 q2 q3 i31) (v_rm0_1 p2 p1)))])) (st33) ?_
        refine go _ (T33.setTop (mkF m 127 #[.val (.long q1), .second, .val (.long q2), .second, .val (.long q3), .second, .val (.int p1), .val (.int p2), .val (.ref b2), .val (.int (v_rm0_0 p1)), .val (.int (v_rm0_1 p2 p1)), .val (.int (2 : Int32)), .val (.int ((v_rm0_1 p2 p1) - (128 : Int32))), .val (.int (0 : Int32))] [(.int (0 : Int32)), (.int (own_holds (own_b3 q1 q2 q3 i31) (v_rm0_1 p2 p1)))])) (fun t k => XS.iload X33.here hx rfl (hb hby at_125) rfl k) ?_
        have hc35 : ((own_holds (own_b3 q1 q2 q3 i31) (v_rm0_1 p2 p1)) = (0 : Int32)) := (own_hold0 _ _ _ hmi31 hbi31 hBi31 hc32)
        refine go _ (T33.setTop (mkF m 130 #[.val (.long q1), .second, .val (.long q2), .second, .val (.long q3), .second, .val (.int p1), .val (.int p2), .val (.ref b2), .val (.int (v_rm0_0 p1)), .val (.int (v_rm0_1 p2 p1)), .val (.int (2 : Int32)), .val (.int ((v_rm0_1 p2 p1) - (128 : Int32))), .val (.int (0 : Int32))] [])) (fun t k => XS.icmpNo X33.here hx rfl (hb hby at_127) rfl (teq hc35).2 k) ?_
        refine go _ (T33.setTop (mkF m 131 #[.val (.long q1), .second, .val (.long q2), .second, .val (.long q3), .second, .val (.int p1), .val (.int p2), .val (.ref b2), .val (.int (v_rm0_0 p1)), .val (.int (v_rm0_1 p2 p1)), .val (.int (2 : Int32)), .val (.int ((v_rm0_1 p2 p1) - (128 : Int32))), .val (.int (0 : Int32))] [(.int (1 : Int32))])) (fun t k => XS.iconst X33.here hx rfl (hb hby at_130) k) ?_
        refine go _ (T33.setTop (mkF m 135 #[.val (.long q1), .second, .val (.long q2), .second, .val (.long q3), .second, .val (.int p1), .val (.int p2), .val (.ref b2), .val (.int (v_rm0_0 p1)), .val (.int (v_rm0_1 p2 p1)), .val (.int (2 : Int32)), .val (.int ((v_rm0_1 p2 p1) - (128 : Int32))), .val (.int (0 : Int32))] [(.int (1 : Int32))])) (fun t k => XS.goto X33.here hx rfl (pc0 := 131) (pc' := 135) rfl (hb hby at_131) (by decide) (by decide) k) ?_
        exact fin (some (.int (1 : Int32))) X33 (by decide) (by decide) (fun q => by cases q) (show Q_rm0 Z q1 q2 q3 p1 p2 h0 n0 _ T33.heap _ from (by rw [hh33]; exact ⟨rfl, N34⟩)) (fun fs hr => retN X33 hx (t := .boolean) hret (by simp) (hb hby at_135) hr)
      · refine go _ (T10.setTop (mkF m 109 #[.val (.long q1), .second, .val (.long q2), .second, .val (.long q3), .second, .val (.int p1), .val (.int p2), .val (.ref b2), .val (.int (v_rm0_0 p1)), .val (.int (v_rm0_1 p2 p1)), .val (.int (2 : Int32)), .val (.int ((v_rm0_1 p2 p1) - (128 : Int32))), .unset] [])) (fun t k => XS.ifNo X10.here hx rfl (hb hby at_106) rfl ((if0 _ _).trans (feq (fun q => hc32 ((lw_eq ((jushrL (own_b3 q1 q2 q3 i31) ((v_rm0_1 p2 p1) - (128 : Int32))) &&& (1 : Int64)) (0 : Int64)).mp q))).1) k) ?_
        refine go _ (T10.setTop (mkF m 110 #[.val (.long q1), .second, .val (.long q2), .second, .val (.long q3), .second, .val (.int p1), .val (.int p2), .val (.ref b2), .val (.int (v_rm0_0 p1)), .val (.int (v_rm0_1 p2 p1)), .val (.int (2 : Int32)), .val (.int ((v_rm0_1 p2 p1) - (128 : Int32))), .unset] [(.int (1 : Int32))])) (fun t k => XS.iconst X10.here hx rfl (hb hby at_109) k) ?_
        refine go _ (T10.setTop (mkF m 114 #[.val (.long q1), .second, .val (.long q2), .second, .val (.long q3), .second, .val (.int p1), .val (.int p2), .val (.ref b2), .val (.int (v_rm0_0 p1)), .val (.int (v_rm0_1 p2 p1)), .val (.int (2 : Int32)), .val (.int ((v_rm0_1 p2 p1) - (128 : Int32))), .unset] [(.int (1 : Int32))])) (fun t k => XS.goto X10.here hx rfl (pc0 := 110) (pc' := 114) rfl (hb hby at_110) (by decide) (by decide) k) ?_
        refine go _ (T10.setTop (mkF m 116 #[.val (.long q1), .second, .val (.long q2), .second, .val (.long q3), .second, .val (.int p1), .val (.int p2), .val (.ref b2), .val (.int (v_rm0_0 p1)), .val (.int (v_rm0_1 p2 p1)), .val (.int (2 : Int32)), .val (.int ((v_rm0_1 p2 p1) - (128 : Int32))), .val (.int (1 : Int32))] [])) (fun t k => XS.istore X10.here hx rfl (hb hby at_114) rfl (l' := #[.val (.long q1), .second, .val (.long q2), .second, .val (.long q3), .second, .val (.int p1), .val (.int p2), .val (.ref b2), .val (.int (v_rm0_0 p1)), .val (.int (v_rm0_1 p2 p1)), .val (.int (2 : Int32)), .val (.int ((v_rm0_1 p2 p1) - (128 : Int32))), .val (.int (1 : Int32))]) rfl k) ?_
        refine go _ (T10.setTop (mkF m 118 #[.val (.long q1), .second, .val (.long q2), .second, .val (.long q3), .second, .val (.int p1), .val (.int p2), .val (.ref b2), .val (.int (v_rm0_0 p1)), .val (.int (v_rm0_1 p2 p1)), .val (.int (2 : Int32)), .val (.int ((v_rm0_1 p2 p1) - (128 : Int32))), .val (.int (1 : Int32))] [(.ref b2)])) (fun t k => XS.aload X10.here hx rfl (hb hby at_116) rfl rfl k) ?_
        refine go _ (T10.setTop (mkF m 120 #[.val (.long q1), .second, .val (.long q2), .second, .val (.long q3), .second, .val (.int p1), .val (.int p2), .val (.ref b2), .val (.int (v_rm0_0 p1)), .val (.int (v_rm0_1 p2 p1)), .val (.int (2 : Int32)), .val (.int ((v_rm0_1 p2 p1) - (128 : Int32))), .val (.int (1 : Int32))] [(.int (v_rm0_0 p1)), (.ref b2)])) (fun t k => XS.iload X10.here hx rfl (hb hby at_118) rfl k) ?_
        refine go _ (T10.setTop (mkF m 122 #[.val (.long q1), .second, .val (.long q2), .second, .val (.long q3), .second, .val (.int p1), .val (.int p2), .val (.ref b2), .val (.int (v_rm0_0 p1)), .val (.int (v_rm0_1 p2 p1)), .val (.int (2 : Int32)), .val (.int ((v_rm0_1 p2 p1) - (128 : Int32))), .val (.int (1 : Int32))] [(.int (v_rm0_1 p2 p1)), (.int (v_rm0_0 p1)), (.ref b2)])) (fun t k => XS.iload X10.here hx rfl (hb hby at_120) rfl k) ?_
        obtain ⟨_, _, ⟨T36, L36, k36, n36⟩, -, X36, ⟨Lc36, hQ36, l36, y36, z36⟩, st36⟩ := Jvm.LawKit.callS X10 hx (y := (⟨"com/example/bipartite_map/bipartitemap/order/GapPenalty", "holds", "([JII)Z"⟩ : MethodName)) hown (mvT hZ (hw _ (List.mem_of_getElem? (i := 2) rfl))) (mvT hZ (hw _ (List.mem_of_getElem? (i := 3) rfl))) (mvT hZ (hw _ (List.mem_of_getElem? (i := 4) rfl))) (mvT hZ (hw _ (List.mem_of_getElem? (i := 5) rfl))) (by decide) (backOf (W := 0) (rm1 l Z a0 hw [] b2 (v_rm0_0 p1) (v_rm0_1 p2 p1) (own_b3 q1 q2 q3) 3 i31 h10 n0 Z11 A3 hki31 hii31) hZ (hw _ (List.mem_of_getElem? (i := 5) rfl)) (hw _ (List.mem_of_getElem? (i := 4) rfl)) (by decide) (by decide)) (g := (mkF m 122 #[.val (.long q1), .second, .val (.long q2), .second, .val (.long q3), .second, .val (.int p1), .val (.int p2), .val (.ref b2), .val (.int (v_rm0_0 p1)), .val (.int (v_rm0_1 p2 p1)), .val (.int (2 : Int32)), .val (.int ((v_rm0_1 p2 p1) - (128 : Int32))), .val (.int (1 : Int32))] [(.int (v_rm0_1 p2 p1)), (.int (v_rm0_0 p1)), (.ref b2)])) rfl (by rw [hml]; rfl) (argsL := [(.ref b2), (.int (v_rm0_0 p1)), (.int (v_rm0_1 p2 p1))]) (rest := []) (lenOf pd_1 rfl) rfl (by show 2 * 0 + _ ≤ _; exact Nat.le_of_eq rfl) (hb hby at_122) (fun _ _ => ⟨rfl, e10, (by decide : 0 + 1 + 0 ≤ _), (by decide : 0 + 3 + 0 ≤ _)⟩)
        dsimp only [Pt.U, Pt.locs, Pt.cells, Pt.slots] at X36 l36 y36 z36 st36 hQ36
        subst l36 y36 z36
        obtain ⟨rfl, Nq36, hh36⟩ := hQ36
        have N37 := Fr.app N12 Nq36
        refine go _ (T36.setTop (mkF m 125 #[.val (.long q1), .second, .val (.long q2), .second, .val (.long q3), .second, .val (.int p1), .val (.int p2), .val (.ref b2), .val (.int (v_rm0_0 p1)), .val (.int (v_rm0_1 p2 p1)), .val (.int (2 : Int32)), .val (.int ((v_rm0_1 p2 p1) - (128 : Int32))), .val (.int (1 : Int32))] [(.int (own_holds (own_b3 q1 q2 q3 i31) (v_rm0_1 p2 p1)))])) (st36) ?_
        refine go _ (T36.setTop (mkF m 127 #[.val (.long q1), .second, .val (.long q2), .second, .val (.long q3), .second, .val (.int p1), .val (.int p2), .val (.ref b2), .val (.int (v_rm0_0 p1)), .val (.int (v_rm0_1 p2 p1)), .val (.int (2 : Int32)), .val (.int ((v_rm0_1 p2 p1) - (128 : Int32))), .val (.int (1 : Int32))] [(.int (1 : Int32)), (.int (own_holds (own_b3 q1 q2 q3 i31) (v_rm0_1 p2 p1)))])) (fun t k => XS.iload X36.here hx rfl (hb hby at_125) rfl k) ?_
        have hc38 : ((own_holds (own_b3 q1 q2 q3 i31) (v_rm0_1 p2 p1)) = (1 : Int32)) := (own_hold1 _ _ _ hmi31 hbi31 hBi31 hc32)
        refine go _ (T36.setTop (mkF m 130 #[.val (.long q1), .second, .val (.long q2), .second, .val (.long q3), .second, .val (.int p1), .val (.int p2), .val (.ref b2), .val (.int (v_rm0_0 p1)), .val (.int (v_rm0_1 p2 p1)), .val (.int (2 : Int32)), .val (.int ((v_rm0_1 p2 p1) - (128 : Int32))), .val (.int (1 : Int32))] [])) (fun t k => XS.icmpNo X36.here hx rfl (hb hby at_127) rfl (teq hc38).2 k) ?_
        refine go _ (T36.setTop (mkF m 131 #[.val (.long q1), .second, .val (.long q2), .second, .val (.long q3), .second, .val (.int p1), .val (.int p2), .val (.ref b2), .val (.int (v_rm0_0 p1)), .val (.int (v_rm0_1 p2 p1)), .val (.int (2 : Int32)), .val (.int ((v_rm0_1 p2 p1) - (128 : Int32))), .val (.int (1 : Int32))] [(.int (1 : Int32))])) (fun t k => XS.iconst X36.here hx rfl (hb hby at_130) k) ?_
        refine go _ (T36.setTop (mkF m 135 #[.val (.long q1), .second, .val (.long q2), .second, .val (.long q3), .second, .val (.int p1), .val (.int p2), .val (.ref b2), .val (.int (v_rm0_0 p1)), .val (.int (v_rm0_1 p2 p1)), .val (.int (2 : Int32)), .val (.int ((v_rm0_1 p2 p1) - (128 : Int32))), .val (.int (1 : Int32))] [(.int (1 : Int32))])) (fun t k => XS.goto X36.here hx rfl (pc0 := 131) (pc' := 135) rfl (hb hby at_131) (by decide) (by decide) k) ?_
        exact fin (some (.int (1 : Int32))) X36 (by decide) (by decide) (fun q => by cases q) (show Q_rm0 Z q1 q2 q3 p1 p2 h0 n0 _ T36.heap _ from (by rw [hh36]; exact ⟨rfl, N37⟩)) (fun fs hr => retN X36 hx (t := .boolean) hret (by simp) (hb hby at_135) hr)
set_option maxRecDepth 65536 in
set_option maxHeartbeats 40000000 in
theorem comes_1 {Post : Tables → Env → Array Value → State → Outcome → State → Prop} (hpost : ∀ tb e args s v u, (limb_1_1.after args s (.returned v) u = true ∧ limb_1_2.after args s (.returned v) u = true ∧ True) → FrameEnd s (.returned v) u (Jvm.fieldLocs frame_1_writes args s ++ Jvm.arrayLocs frame_1_arrays args s ++ Jvm.staticLocs frame_1_statics s) 16 128 → Post tb e args s (.returned v) u) :
    ArmFor flags0 classFile x code maxLocals ret World_1 tables_1 room_1 Calls_1 rest_1 Pre_1 Post := by
  intro l hfl _ _ p e ha hc hk s m args below hf hA hF happ hP
  obtain ⟨hcalls, hrest, hpre⟩ := hP
  obtain ⟨-, -, -, hnamed, -, -, -, hat⟩ := (Spec.applies_iff hf).mp happ
  obtain ⟨hg, hn⟩ := and_e (Cond.before_iff.mp (show (Jvm.Cond.and given_1 narrow_1).before args s = true from hpre))
  obtain ⟨gc, g1⟩ := and_e hg
  obtain ⟨ga0, g2⟩ := and_e g1
  obtain ⟨ga1, g3⟩ := and_e g2
  obtain ⟨ga2, g4⟩ := and_e g3
  obtain ⟨ga3, g5⟩ := and_e g4
  have ga4 := g5
  obtain ⟨w0, w1, w2, w3, w4, rfl⟩ : ∃ w0 w1 w2 w3 w4 : Value, args = #[w0, w1, w2, w3, w4] := by
    have hs : args.size = 5 := by simpa [Cond.value, given_1] using gc
    obtain ⟨L⟩ := args
    match L, hs with
    | [w0, w1, w2, w3, w4], _ => exact ⟨w0, w1, w2, w3, w4, rfl⟩
  have hw := fun d (hd : d ∈ tables_1) => atoms_spec (ws := Jvm.Cond.code x code maxLocals ret :: tables_1) hat d (List.mem_cons_of_mem _ hd)
  obtain ⟨i0, ei0⟩ := isL_v ga0
  obtain rfl : w0 = (.long i0) := Option.some.inj ei0
  obtain ⟨i1, ei1⟩ := isL_v ga1
  obtain rfl : w1 = (.long i1) := Option.some.inj ei1
  obtain ⟨i2, ei2⟩ := isL_v ga2
  obtain rfl : w2 = (.long i2) := Option.some.inj ei2
  obtain ⟨i3, ei3⟩ := is_v ga3
  obtain rfl : w3 = (.int i3) := Option.some.inj ei3
  obtain ⟨i4, ei4⟩ := is_v ga4
  obtain rfl : w4 = (.int i4) := Option.some.inj ei4
  obtain ⟨n, o, h1, h2, h3, _, L, rfl, ⟨rfl, N⟩, hq⟩ := rm0 l s _ hw tables_1 i0 i1 i2 i3 i4 s.heap s.heap.size (Nat.le_refl _) p e ha hc hk s m _ below hf ((Spec.applies_iff_loose hf).mp happ).1 ⟨rfl, State.Warmed39.refl s, rfl⟩ trivial
  refine ⟨n, _, h1, h2, h3, hpost _ _ _ _ _ _ ⟨Cond.after_iff.mpr rfl, Cond.after_iff.mpr (eq_i res_at (Term.int_eval (1)) rfl), trivial⟩ ⟨hq.1, hq.2.1, (hq.2.2.sift fun y hy => Or.inr (N y hy)).mono (by decide) (by decide)⟩⟩
theorem main_1_1 : Claimed_1_1 := comes_1 fun _ _ _ _ _ _ h hF => ⟨h.1, hF⟩
theorem main_1_2 : Claimed_1_2 := comes_1 fun _ _ _ _ _ _ h hF => ⟨h.2.1, hF⟩
end Jvm.Pilot.@@N@@
namespace Jvm.Pilot.@@N@@
open Jvm Jvm.ClassFile Sem Op Lib Jvm.Free Jvm.Stand Jvm.Pilot.@@N@@.Jvm.D
/-! MADE BY PROGRAM (witnessworld.py) out of the Statement's table words and the real class files: 11 classes; the members and pool entries that the words name. The judged class is class 1, her method 1. -/
namespace start1
open Jvm.ClassFile
def u (s : String) : CpInfo := .utf8 (stringToUtf16 s)
/-- a pool by its gaps: so many unusable entries, then the entry; so many at the end -/
def gap : Nat → List CpInfo → List CpInfo
  | 0, r => r
  | n + 1, r => .unusable :: gap n r
def poolList (es : List (Nat × CpInfo)) (last : Nat) : List CpInfo := es.foldr (fun e r => gap e.1 (e.2 :: r)) (gap last [])
def pool (es : List (Nat × CpInfo)) (last : Nat) : Array CpInfo := ⟨poolList es last⟩
def fileOf (pool : Array CpInfo) (this : Nat) (attrs : Array Attribute := #[]) (ms : Array MethodInfo := #[]) (fl : Nat := 33) (sup : Nat := 0) (ifs : Array Nat := #[]) (fds : Array FieldInfo := #[]) : ClassFile where
  minorVersion := 0
  majorVersion := 65
  constantPool := pool
  accessFlags := fl
  thisClass := this
  superClass := sup
  interfaces := ifs
  fields := fds
  methods := ms
  attributes := attrs
def plain (name : String) (sup : Option ClassId) : Class where
  name := name
  kind := .ordinary
  loader := none
  accessFlags := 33
  super := sup
  interfaces := #[]
  cf := none
  fields := #[]
  methods := #[]
  instanceTypes := #[]
  staticTypes := #[]
  resolved := #[]
  callSites := []
  init := .initialized
  statics := none
  mirror := none

def pool0 : Array CpInfo := pool [(5, u "<init>"), (0, u "()V"), (1, .class_ 10), (1, u "java/lang/Object")] 113

def k0m0 : Method := { name := "<init>", desc := "()V", sig := { parameters := [], returnType := none }, accessFlags := 1, code := none }
/-- java/lang/Object -/
def k0 : Class := { plain "java/lang/Object" none with
  accessFlags := 33
  interfaces := #[]
  cf := some (fileOf pool0 8 #[] #[{ accessFlags := 1, nameIndex := 5, descriptorIndex := 6, attributes := #[] }] 33 0 #[] #[])
  fields := #[]
  methods := #[k0m0]
  instanceTypes := #[]
  staticTypes := #[]
  resolved := Array.replicate 124 none
  statics := none }

def pool1 : Array CpInfo := pool [(2, .class_ 4), (1, u "java/lang/Object"), (0, u "<init>"), (0, u "()V"), (0, .integer 2147483647), (0, .methodref 9 10), (0, .class_ 11), (0, .nameAndType 12 13), (0, u "com/example/bipartite_map/bipartitemap/order/GapPenalty"), (0, u "holds"), (0, u "([JII)Z"), (0, .class_ 15), (0, u "com/example/bipartite_map/bipartitemap/order/GapPenaltyHoldsPinLaw"), (2, u "law"), (0, u "(JJJII)Z")] 5

def k1m0 : Method := { name := "<init>", desc := "()V", sig := { parameters := [], returnType := none }, accessFlags := 1, code := none }
def k1c1 : Code := { maxStack := 5, maxLocals := 14, code := code, exceptionTable := #[], attributes := #[] }
def k1m1 : Method := { name := "law", desc := "(JJJII)Z", sig := { parameters := [.long, .long, .long, .int, .int], returnType := some .boolean }, accessFlags := 9, code := some k1c1 }
/-- com/example/bipartite_map/bipartitemap/order/GapPenaltyHoldsPinLaw -/
def k1 : Class := { plain "com/example/bipartite_map/bipartitemap/order/GapPenaltyHoldsPinLaw" (some 0) with
  accessFlags := 49
  interfaces := #[]
  cf := some (fileOf pool1 14 #[] #[{ accessFlags := 1, nameIndex := 5, descriptorIndex := 6, attributes := #[] }, { accessFlags := 9, nameIndex := 18, descriptorIndex := 19, attributes := #[] }] 49 2 #[] #[])
  fields := #[]
  methods := #[k1m0, k1m1]
  instanceTypes := #[]
  staticTypes := #[]
  resolved := Array.replicate 25 none
  statics := none }

def pool2 : Array CpInfo := pool [(2, .class_ 4), (1, u "java/lang/Object"), (13, .class_ 20), (1, u "com/example/bipartite_map/bipartitemap/order/GapPenalty"), (0, u "anchorCount"), (0, u "I"), (17, u "[I"), (58, u "firstTie"), (2, u "weights"), (0, u "[J"), (2, u "tiedAnchors"), (8, u "gapCosts"), (11, u "fits"), (0, u "Z"), (69, u "OVERFLOW"), (0, u "J"), (16, u "holds"), (0, u "([JII)Z")] 25

def k2c0 : Code := { maxStack := 6, maxLocals := 3, code := prog_65_method_15_code, exceptionTable := #[], attributes := #[] }
def k2m0 : Method := { name := "holds", desc := "([JII)Z", sig := { parameters := [(.array .long), .int, .int], returnType := some .boolean }, accessFlags := 8, code := some k2c0 }
/-- com/example/bipartite_map/bipartitemap/order/GapPenalty -/
def k2 : Class := { plain "com/example/bipartite_map/bipartitemap/order/GapPenalty" (some 0) with
  accessFlags := 33
  interfaces := #[]
  cf := some (fileOf pool2 18 #[] #[{ accessFlags := 8, nameIndex := 216, descriptorIndex := 217, attributes := #[] }] 33 2 #[] #[{ accessFlags := 26, nameIndex := 198, descriptorIndex := 199, attributes := #[] }, { accessFlags := 18, nameIndex := 21, descriptorIndex := 22, attributes := #[] }, { accessFlags := 18, nameIndex := 99, descriptorIndex := 40, attributes := #[] }, { accessFlags := 18, nameIndex := 106, descriptorIndex := 40, attributes := #[] }, { accessFlags := 18, nameIndex := 102, descriptorIndex := 103, attributes := #[] }, { accessFlags := 18, nameIndex := 115, descriptorIndex := 103, attributes := #[] }, { accessFlags := 18, nameIndex := 127, descriptorIndex := 128, attributes := #[] }])
  fields := #[{ name := "OVERFLOW", type := .long, accessFlags := 26, slot := 0, constantValue := 0 }, { name := "anchorCount", type := .int, accessFlags := 18, slot := 0, constantValue := 0 }, { name := "firstTie", type := (.array .int), accessFlags := 18, slot := 1, constantValue := 0 }, { name := "tiedAnchors", type := (.array .int), accessFlags := 18, slot := 2, constantValue := 0 }, { name := "weights", type := (.array .long), accessFlags := 18, slot := 3, constantValue := 0 }, { name := "gapCosts", type := (.array .long), accessFlags := 18, slot := 4, constantValue := 0 }, { name := "fits", type := .boolean, accessFlags := 18, slot := 5, constantValue := 0 }]
  methods := #[k2m0]
  instanceTypes := #[.int, (.array .int), (.array .int), (.array .long), (.array .long), .boolean]
  staticTypes := #[.long]
  resolved := Array.replicate 243 none
  statics := none }

def pool3 : Array CpInfo := pool [(1, u "java/lang/Cloneable"), (0, .class_ 1), (0, u "java/lang/Object"), (0, .class_ 3)] 3

/-- java/lang/Cloneable -/
def k3 : Class := { plain "java/lang/Cloneable" (some 0) with
  accessFlags := 1537
  interfaces := #[]
  cf := some (fileOf pool3 2 #[] #[] 1537 4 #[] #[])
  fields := #[]
  methods := #[]
  instanceTypes := #[]
  staticTypes := #[]
  resolved := Array.replicate 8 none
  statics := none }

def pool4 : Array CpInfo := pool [(1, u "java/io/Serializable"), (0, .class_ 1), (0, u "java/lang/Object"), (0, .class_ 3)] 3

/-- java/io/Serializable -/
def k4 : Class := { plain "java/io/Serializable" (some 0) with
  accessFlags := 1537
  interfaces := #[]
  cf := some (fileOf pool4 2 #[] #[] 1537 4 #[] #[])
  fields := #[]
  methods := #[]
  instanceTypes := #[]
  staticTypes := #[]
  resolved := Array.replicate 8 none
  statics := none }

/-- the primitive byte -/
def k5 : Class := { plain "byte" none with kind := .primitive 'B', accessFlags := 0x411 }
/-- [B -/
def k6 : Class := { plain "[B" (some 0) with kind := .array 5 .byte, interfaces := #[3, 4], accessFlags := 1041 }

/-- the primitive int -/
def k7 : Class := { plain "int" none with kind := .primitive 'I', accessFlags := 0x411 }
/-- [I -/
def k8 : Class := { plain "[I" (some 0) with kind := .array 7 .int, interfaces := #[3, 4], accessFlags := 1041 }

/-- the primitive long -/
def k9 : Class := { plain "long" none with kind := .primitive 'J', accessFlags := 0x411 }
/-- [J -/
def k10 : Class := { plain "[J" (some 0) with kind := .array 9 .long, interfaces := #[3, 4], accessFlags := 1041 }

def heap : Heap := #[]
def classes : Array Class := #[k0, k1, k2, k3, k4, k5, k6, k7, k8, k9, k10]
def interned : List (Array UInt16 × Addr) := []
def slotsUsed : Nat := 0
def theMethod : MethodId := ⟨1, 1⟩
def args0 : Array Value := #[.long 5, .long 6, .long 7, .int 1, .int 70]
def aboutOver (below : List Frame) : State where
  vm := { classes := classes, interned := interned.toArray }
  heap := heap
  slotsUsed := slotsUsed
  threads := #[{ frames := .invoking theMethod args0 :: below }]
def below0 : List Frame := [.native { method := ⟨0, 0⟩, args := #[] }]
def about1 : State := aboutOver below0
def p0 : Program := .bare "" "" ""
def e0 : Env := launch0.env 0 0 0
theorem w_frames : about1.frames = Frame.invoking theMethod args0 :: below0 := rfl
set_option maxRecDepth 65536 in
theorem w_args : argsFit about1.vm theMethod args0 = true := by decide +kernel
set_option maxRecDepth 65536 in
theorem w_heap : heapFits about1 = true := by decide +kernel
set_option maxRecDepth 65536 in
theorem w_runnable : about1.curStatus? = some .runnable := by decide +kernel
set_option maxRecDepth 65536 in
theorem w_alone : about1.alone = true := by decide +kernel
set_option maxRecDepth 65536 in
theorem w_named : about1.methodNamed? x = some theMethod := by decide +kernel
set_option maxRecDepth 65536 in
theorem w_hears : about1.hears theMethod below0 = true := by decide +kernel
set_option maxRecDepth 65536 in
theorem w_ripe : about1.ripe theMethod args0 below0 = true := by decide +kernel
theorem w_running : about1.status = .running := rfl
set_option maxRecDepth 65536 in
theorem w_room : about1.hasRoom e0.platform room_1 = true :=
  launch0.hasRoom_least _ room_1 (by decide +kernel) (by decide +kernel) (by decide +kernel) (by decide +kernel) (by decide +kernel) (by decide +kernel)
theorem allAtoms_all (ts : List Jvm.Cond) (a : Array Jvm.Value) (st : Jvm.State) : (allAtoms ts).before a st = ts.all (fun c => c.before a st) := by
  induction ts with
  | nil => rfl
  | cons c t ih =>
    show (Jvm.Cond.and c (allAtoms t)).before a st = _
    rw [Jvm.Cond.before_and, ih, List.all_cons]
def words1 : List Jvm.Cond := Jvm.Cond.code x code maxLocals ret :: tables_1
/-- a 'code' word, met by the world's own term for the bytes: nothing is compared byte by byte -/
theorem code_word {y : MethodName} {bytes : ByteArray} {mx : Nat} {rt : Option FieldType} {a : Array Value} {s : State} {m : MethodId} {meth : Method} {c : Code} (h1 : s.methodNamed? y = some m) (h2 : s.vm.method? m = some meth) (h3 : meth.code = some c) (h4 : c.code = bytes)
    (h5 : (c.maxLocals == mx && c.exceptionTable.isEmpty && decide (c.maxStack ≤ mostOperands) && decide (meth.sig.returnType = rt) && !meth.locks && decide (parseMethodDescriptor y.desc = some meth.sig)) = true) : (Jvm.Cond.code y bytes mx rt).before a s = true := by
  simp only [Bool.and_eq_true, beq_iff_eq, Bool.not_eq_true', decide_eq_true_eq] at h5
  obtain ⟨⟨⟨⟨⟨g1, g2⟩, g3⟩, g4⟩, g5⟩, g6⟩ := h5
  simp [Cond.before, Cond.holds, Cond.value, h1, h2, h3, h4, g1, g2, g3, g4, g5, g6]
def isCode : Jvm.Cond → Bool
  | .code _ _ _ _ => true
  | _ => false
theorem all_split {L : List Jvm.Cond} {P : Jvm.Cond → Bool} (h1 : L.all (fun c => isCode c || P c) = true) (h2 : ∀ c ∈ L.filter isCode, P c = true) : L.all P = true := by
  refine List.all_eq_true.mpr fun c hc => ?_
  have h := List.all_eq_true.mp h1 c hc
  rcases Bool.eq_false_or_eq_true (isCode c) with hi | hi
  · exact h2 c (List.mem_filter.mpr ⟨hc, hi⟩)
  · simpa [hi] using h
set_option maxRecDepth 65536 in
theorem w_c0 : (Jvm.Cond.code x code maxLocals ret).before args0 about1 = true := code_word (m := ⟨1, 1⟩) (meth := k1m1) (c := k1c1) (by decide +kernel) rfl rfl rfl (by decide +kernel)
set_option maxRecDepth 65536 in
theorem w_c1 : (Jvm.Cond.code ({ cls := "com/example/bipartite_map/bipartitemap/order/GapPenalty", name := "holds", desc := "([JII)Z" } : Jvm.MethodName) prog_65_method_15_code (3 : Nat) (Option.some Jvm.ClassFile.FieldType.boolean)).before args0 about1 = true := code_word (m := ⟨2, 0⟩) (meth := k2m0) (c := k2c0) (by decide +kernel) rfl rfl rfl (by decide +kernel)
def codes1 : List Jvm.Cond := [Jvm.Cond.code x code maxLocals ret, Jvm.Cond.code ({ cls := "com/example/bipartite_map/bipartitemap/order/GapPenalty", name := "holds", desc := "([JII)Z" } : Jvm.MethodName) prog_65_method_15_code (3 : Nat) (Option.some Jvm.ClassFile.FieldType.boolean)]
set_option maxRecDepth 65536 in
theorem codes_eq : words1.filter isCode = codes1 := rfl
theorem w_codes : ∀ c ∈ words1.filter isCode, c.before args0 about1 = true := by
  rw [codes_eq]
  intro c hc
  simp only [codes1, List.mem_cons, List.not_mem_nil, or_false] at hc
  rcases hc with rfl | rfl
  · exact w_c0
  · exact w_c1
set_option maxRecDepth 65536 in
theorem w_t1 : words1.all (fun c => isCode c || c.before args0 about1) = true := by decide +kernel
theorem w_tables : (allAtoms (Jvm.Cond.code x code maxLocals ret :: tables_1)).before args0 about1 = true := by
  rw [allAtoms_all]
  show words1.all (fun c => c.before args0 about1) = true
  refine all_split ?_ w_codes
  rw [w_t1]
set_option maxRecDepth 65536 in
theorem w_case : (Jvm.Cond.and given_1 narrow_1).before args0 about1 = true := by decide +kernel
theorem w_applies : (headSpec (Jvm.Cond.code x code maxLocals ret :: tables_1) room_1).applies x e0.platform about1 = true :=
  (Spec.applies_iff w_frames).mpr ⟨w_running, w_runnable, w_alone, w_named, w_hears, w_ripe, w_room, w_tables⟩
theorem atStart : AtStart classFile x code maxLocals ret World_1 tables_1 room_1 Calls_1 rest_1 Pre_1 launch0 p0 e0 about1 theMethod args0 below0 :=
  ⟨lists_1, trivial, launch0.admits_env _ _ _, launch0.least_env, fairChoices_fair.cas, fairChoices_fair.clock, w_frames, w_args, w_heap, w_applies, trivial, trivial, w_case⟩
end start1
theorem witness_1 : WitnessClaimed_1 := ⟨start1.p0, start1.e0, start1.about1, start1.theMethod, start1.args0, start1.below0, start1.atStart⟩
end Jvm.Pilot.@@N@@
