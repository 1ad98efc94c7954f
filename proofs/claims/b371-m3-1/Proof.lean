import JvmDerived
import JvmDerived.Pilot.@@N@@Statement
import JvmDerived.Pilot.@@N@@Code
set_option linter.unusedVariables false
set_option linter.unusedSimpArgs false
namespace Jvm.RoadKit
open Sem ClassFile Op Lib Jvm.Stand Jvm.Free Jvm.LawKit
section New
variable {p : Program} {l : Launch} {e : Env} {R : Room} {s : State} {m : MethodId} {args : Array Value} {below : List Frame} {meth : Method} {c : Code} {T : State} {locs : List Loc} {cells slots : Nat}
theorem retI (X : Stand p l e R s m args below meth c T locs cells slots) (hx : p.tables.exec = Jvm.exec) {pc : Nat} {Ls : Array Slot} {z : Int32} {rest : List Value} (hret : meth.sig.returnType = some .int) (hd : decode c.code pc = .ok (.ireturn, 1)) {fs : List Frame}
    (hl : ∀ (f : JFrame) (acts : List Action), f.method = m → f.locked = none → f.entered = [] → (doReturn e (T.setTop f) acts (some (.int z))).1 = T.setFrames fs) : Steps p.tables e below (T.setTop (mkF m pc Ls (.int z :: rest))) (T.setFrames fs) := by
  have hm' : T.vm.method? m = some meth := X.method'
  have hn : narrow .int (.int z) = .int z := rfl
  show Steps p.tables e below (T.setTop { method := m, pc := pc, locals := Ls, stack := _ :: rest, locked := none }) _
  jvm_step X.here [X.here.top, hx, hd, hm', hret, hn]
  first | (intro acts; rw [hl _ acts rfl rfl rfl]) | rw [hl _ _ rfl rfl rfl]
  exact Steps.refl _
theorem retJ (X : Stand p l e R s m args below meth c T locs cells slots) (hx : p.tables.exec = Jvm.exec) {pc : Nat} {Ls : Array Slot} {z : Int64} {rest : List Value} (hret : meth.sig.returnType = some .long) (hd : decode c.code pc = .ok (.lreturn, 1)) {fs : List Frame}
    (hl : ∀ (f : JFrame) (acts : List Action), f.method = m → f.locked = none → f.entered = [] → (doReturn e (T.setTop f) acts (some (.long z))).1 = T.setFrames fs) : Steps p.tables e below (T.setTop (mkF m pc Ls (.long z :: rest))) (T.setFrames fs) :=
  retOut X hx hret rfl (Or.inr (Or.inl ⟨rfl, rfl, z, rfl⟩)) hd hl
theorem retA (X : Stand p l e R s m args below meth c T locs cells slots) (hx : p.tables.exec = Jvm.exec) {pc : Nat} {Ls : Array Slot} {a : Addr} {t : FieldType} {rest : List Value} (hret : meth.sig.returnType = some t) (ht : t.isReference = true) (hd : decode c.code pc = .ok (.areturn, 1)) {fs : List Frame}
    (hl : ∀ (f : JFrame) (acts : List Action), f.method = m → f.locked = none → f.entered = [] → (doReturn e (T.setTop f) acts (some (.ref a))).1 = T.setFrames fs) : Steps p.tables e below (T.setTop (mkF m pc Ls (.ref a :: rest))) (T.setFrames fs) :=
  retOut X hx hret (by cases t <;> first | rfl | (simp [FieldType.isReference] at ht)) (Or.inr (Or.inr (Or.inr (Or.inr ⟨rfl, ht, rfl⟩)))) hd hl
end New
end Jvm.RoadKit
namespace Jvm.Pilot.@@N@@
open Jvm Jvm.ClassFile Sem Op Lib Jvm.Free Jvm.Stand Jvm.LawKit Jvm.RoadKit Bundle Jvm.Pilot.@@N@@.Jvm.D
section OwnKit
variable {p : Program} {l : Launch} {e : Env} {R : Room} {s : State} {m : MethodId} {args : Array Value} {below : List Frame} {meth : Method} {c : Code} {T : State} {locs : List Loc} {cells slots : Nat} {Z : State} {h h' : Heap}
/-- one body's contract, with the walk's goal as a closed predicate K: 'go' takes a step, 'fin' leaves the method -/
theorem own_body {y : MethodName} {bytes : ByteArray} {maxL : Nat} {ret : Option FieldType} {ws : List Jvm.Cond} {rm : Room} {h0 : Heap} {Q : Option Value → Heap → List Loc → Prop} (hp : plainFor y = true)
    (body : ∀ (p : Program) (e : Env) (s : State) (m : MethodId) (below : List Frame) (meth : Method) (c : Code) (s₁ : State) (K : State → Prop),
      (∀ U U', (∀ t, Steps p.tables e below U' t → Steps p.tables e below U t) → K U' → K U) →
      (∀ {T : State} {locs : List Loc} {cells slots : Nat} {g : JFrame} (v : Option Value), Stand p l e rm s m args below meth c T locs cells slots → cells ≤ rm.cells → slots ≤ rm.slots → (ret = none → v = none) → Q v T.heap locs →
        (∀ fs, (∀ (f : JFrame) (acts : List Action), f.method = m → f.locked = none → f.entered = [] → (doReturn e (T.setTop f) acts v).1 = T.setFrames fs) → Steps p.tables e below (T.setTop g) (T.setFrames fs)) → K (T.setTop g)) →
      Stand p l e rm s m args below meth c s₁ [] 0 0 → p.tables.exec = Jvm.exec → c.code = bytes → c.maxLocals = maxL → s.vm.findClass y.cls = some m.cls → meth.name = y.name → meth.sig.returnType = ret → Z.Warmed39 s.vm → s₁.heap = h0 → K (s₁.setTop (entryFrame m args maxL))) :
    MetFree l y (head1 (Jvm.Cond.code y bytes maxL ret :: ws) rm) (fun a U => a = args ∧ Z.Warmed39 U.vm ∧ U.heap = h0) (fun _ _ _ _ _ => True) (fun _ U o U' => ∃ v L, o = .returned v ∧ Q v U'.heap L ∧ FrameEnd U o U' L rm.cells rm.slots) := by
  refine MetFree.of_bodySF hp hisR ?_
  intro p e s m args' below meth c s₁ Bd hml hP hK
  obtain ⟨rfl, hZ, hh⟩ := hP
  refine body p e s m below meth c s₁ (fun U => ∃ s₂ o, Steps p.tables e below U s₂ ∧ s₂.status = .running ∧ Ended s₂ below o ∧ ∃ v L, o = .returned v ∧ Q v s₂.heap L ∧ FrameEnd s o s₂ L rm.cells rm.slots) ?_ ?_ (Stand.of_body Bd) Bd.exec Bd.bytes hml (findClass_of_methodNamed Bd.named) (name_of_methodNamed Bd.named Bd.method).1 Bd.returns hZ (by rw [← hh, Bd.state]; rfl)
  · rintro U U' st ⟨s₂, o, h1, h2⟩
    exact ⟨s₂, o, st _ h1, h2⟩
  · intro T locs cells slots g v X hc hs hv hQ hst
    obtain ⟨fs, hr, hrun, hended, hW, hsame⟩ := X.leave (v := v) (fun q => hv (Bd.returns ▸ q))
    exact ⟨_, _, hst fs hr, hrun, hended, v, locs, rfl, hQ, ⟨_, rfl⟩, hW, hsame.mono hc hs⟩
/-! Java's shifts and the narrowing to a byte -/
def jushr (x y : Int32) : Int32 := (x.toUInt32 >>> (y &&& 31).toUInt32).toInt32
def jshl (x y : Int32) : Int32 := x <<< (y &&& 31)
def jshr (x y : Int32) : Int32 := x >>> (y &&& 31)
def jushrL (x : Int64) (y : Int32) : Int64 := (x.toUInt64 >>> (y &&& 0x3f).toInt64.toUInt64).toInt64
def jshlL (x : Int64) (y : Int32) : Int64 := x <<< (y &&& 0x3f).toInt64
def jshrL (x : Int64) (y : Int32) : Int64 := x >>> (y &&& 0x3f).toInt64
def jb (x : Int32) : Int32 := x.toInt8.toInt32
theorem own_lrem {g : JFrame} {target : State} (X : Stand p l e R s m args below meth c T locs cells slots) (hx : p.tables.exec = Jvm.exec) (hg : g.method = m) {x y : Int64} {rest : List Value} (hd : decode c.code g.pc = .ok (.lrem, 1)) (hs : g.stack = .long y :: .long x :: rest) (hy : y ≠ 0)
    (hr : Steps p.tables e below (T.setTop { g with pc := g.pc + 1, stack := .long (x % y) :: rest }) target) : Steps p.tables e below (T.setTop g) target :=
  XS.lrem X.here hx hg hd hs hy (by rw [lrem_mod]; exact hr)
theorem own_narb (x : Int32) : nar .byte (jb x) = jb x := by simp [nar, jb]
/-! an array by its length and what its places hold -/
def own_upd (f : Nat → Value) (i : Nat) (v : Value) : Nat → Value := fun j => if j = i then v else f j
theorem own_hit (f : Nat → Value) (i : Nat) (v : Value) : own_upd f i v i = v := if_pos rfl
theorem own_miss {f : Nat → Value} {i j : Nat} {v : Value} (q : j ≠ i) : own_upd f i v j = f j := if_neg q
def AF (Z : State) (h : Heap) (a : Addr) (ty : FieldType) (n : Nat) (f : Nat → Value) : Prop := n < 2 ^ 31 ∧ ∃ c : Cell, Arr Z h a c ty ∧ c.slots.size = n ∧ ∀ j, j < n → c.slots[j]? = some (f j)
theorem AF.lt {a : Addr} {ty : FieldType} {n : Nat} {f : Nat → Value} (A : AF Z h a ty n f) : a < h.size := by obtain ⟨-, c, A, -⟩ := A; exact A.lt
theorem AF.ext {a : Addr} {ty : FieldType} {n : Nat} {f : Nat → Value} (A : AF Z h a ty n f) (E : Ext h h') : AF Z h' a ty n f := by obtain ⟨q, c, A, r⟩ := A; exact ⟨q, c, A.ext E, r⟩
theorem AF.other {a b : Addr} {sl : Nat} {v : Value} {ty : FieldType} {n : Nat} {f : Nat → Value} (A : AF Z h b ty n f) (W : Wr h h' a sl v) (q : b ≠ a) : AF Z h' b ty n f := by obtain ⟨q1, c, A, r⟩ := A; exact ⟨q1, c, A.other W q, r⟩
theorem AF.keep {a : Addr} {ws : List Addr} {ty : FieldType} {n : Nat} {f : Nat → Value} (A : AF Z h a ty n f) (K : Keep h h' ws) (q : a ∉ ws) : AF Z h' a ty n f := by obtain ⟨q1, c, A, r⟩ := A; exact ⟨q1, c, ⟨K.2.1 a c A.1 q, A.2⟩, r⟩
theorem AF.congr {a : Addr} {ty : FieldType} {n : Nat} {f f' : Nat → Value} (A : AF Z h a ty n f) (q : ∀ j, j < n → f j = f' j) : AF Z h a ty n f' := by obtain ⟨q1, c, A, S, r⟩ := A; exact ⟨q1, c, A, S, fun j hj => by rw [← q j hj]; exact r j hj⟩
theorem AF.len {a : Addr} {ty : FieldType} {n : Nat} {f : Nat → Value} (A : AF Z h a ty n f) : n < 2 ^ 31 := A.1
theorem own_idx {j : Int32} {i : Nat} (hj : j.toInt = (i : Int)) : j.toNatClampNeg = i := by simp only [Int32.toNatClampNeg, hj]; omega
theorem own_in {j : Int32} {i n : Nat} {c : Cell} (S : c.slots.size = n) (hj : j.toInt = (i : Int)) (hi : i < n) : ¬ (j < 0 ∨ c.slots.size ≤ j.toNatClampNeg) := by
  rw [own_idx hj, S, Int32.lt_iff_toInt_lt, hj]
  simp only [Int32.toInt_zero]
  omega
theorem own_set {a : Addr} {ty : FieldType} {n i : Nat} {f : Nat → Value} {cl : Cell} {v : Value} (q1 : n < 2 ^ 31) (A : Arr Z h a cl ty) (S : cl.slots.size = n) (H : ∀ j, j < n → cl.slots[j]? = some (f j)) (W : Wr h h' a i v) (hi : i < n) : AF Z h' a ty n (own_upd f i v) := by
  refine ⟨q1, _, A.same W, by rw [sz_set]; exact S, fun j hj => ?_⟩
  simp only [Cell.setSlot, own_upd]
  by_cases q : j = i
  · subst q; rw [if_pos rfl]; simp [S, hj]
  · rw [if_neg q, Array.getElem?_setIfInBounds_ne (fun z => q z.symm)]; exact H j hj
theorem own_stI (X : Stand p l e R s m args below meth c T locs cells slots) (hx : p.tables.exec = Jvm.exec) (hZ : Z.Warmed39 s.vm) (eT : T.heap = h) {a : Addr} {n i : Nat} {f : Nat → Value} (A : AF Z h a .int n f) {j x : Int32} (hj : j.toInt = (i : Int)) (hi : i < n) {g : JFrame} (hg : g.method = m) {rest : List Value} (hs : g.stack = .int x :: .int j :: .ref a :: rest) (hd : decode c.code g.pc = .ok (.iastore, 1)) :
    ∃ T' h', Stand p l e R s m args below meth c T' (locs ++ [⟨a, i⟩]) cells slots ∧ T'.heap = h' ∧ Wr h h' a i (.int x) ∧ AF Z h' a .int n (own_upd f i (.int x)) ∧ ∀ target, Steps p.tables e below (T'.setTop { g with pc := g.pc + 1, stack := rest }) target → Steps p.tables e below (T.setTop g) target := by
  obtain ⟨q1, cl, Ar, S, H⟩ := A
  obtain ⟨T', h', X', e', W, st⟩ := stI X hx hZ eT Ar (j := j) (own_in S hj hi) hg hs hd
  rw [own_idx hj] at X' W
  exact ⟨T', h', X', e', W, own_set q1 Ar S H W hi, st⟩
theorem own_stJ (X : Stand p l e R s m args below meth c T locs cells slots) (hx : p.tables.exec = Jvm.exec) (hZ : Z.Warmed39 s.vm) (eT : T.heap = h) {a : Addr} {n i : Nat} {f : Nat → Value} (A : AF Z h a .long n f) {j : Int32} {x : Int64} (hj : j.toInt = (i : Int)) (hi : i < n) {g : JFrame} (hg : g.method = m) {rest : List Value} (hs : g.stack = .long x :: .int j :: .ref a :: rest) (hd : decode c.code g.pc = .ok (.lastore, 1)) :
    ∃ T' h', Stand p l e R s m args below meth c T' (locs ++ [⟨a, i⟩]) cells slots ∧ T'.heap = h' ∧ Wr h h' a i (.long x) ∧ AF Z h' a .long n (own_upd f i (.long x)) ∧ ∀ target, Steps p.tables e below (T'.setTop { g with pc := g.pc + 1, stack := rest }) target → Steps p.tables e below (T.setTop g) target := by
  obtain ⟨q1, cl, Ar, S, H⟩ := A
  obtain ⟨T', h', X', e', W, st⟩ := stJ X hx hZ eT Ar (j := j) (own_in S hj hi) hg hs hd
  rw [own_idx hj] at X' W
  exact ⟨T', h', X', e', W, own_set q1 Ar S H W hi, st⟩
theorem own_stB (X : Stand p l e R s m args below meth c T locs cells slots) (hx : p.tables.exec = Jvm.exec) (hZ : Z.Warmed39 s.vm) (eT : T.heap = h) {a : Addr} {n i : Nat} {f : Nat → Value} (A : AF Z h a .byte n f) {j x : Int32} (hj : j.toInt = (i : Int)) (hi : i < n) (hn : nar .byte x = x) {g : JFrame} (hg : g.method = m) {rest : List Value} (hs : g.stack = .int x :: .int j :: .ref a :: rest) (hd : decode c.code g.pc = .ok (.bastore, 1)) :
    ∃ T' h', Stand p l e R s m args below meth c T' (locs ++ [⟨a, i⟩]) cells slots ∧ T'.heap = h' ∧ Wr h h' a i (.int x) ∧ AF Z h' a .byte n (own_upd f i (.int x)) ∧ ∀ target, Steps p.tables e below (T'.setTop { g with pc := g.pc + 1, stack := rest }) target → Steps p.tables e below (T.setTop g) target := by
  obtain ⟨q1, cl, Ar, S, H⟩ := A
  obtain ⟨T', h', X', e', W, st⟩ := stB X hx hZ eT Ar (j := j) (own_in S hj hi) hg hs hd
  rw [own_idx hj] at X' W
  rw [hn] at W
  exact ⟨T', h', X', e', W, own_set q1 Ar S H W hi, st⟩
theorem own_new (X : Stand p l e R s m args below meth c T locs cells slots) (hx : p.tables.exec = Jvm.exec) (hZ : Z.Warmed39 s.vm) {a0 : Array Value} {aty : ArrayType} (w : (Cond.arrayClass (newarray.typeOf aty)).before a0 Z = true) (eT : T.heap = h) {g : JFrame} (hg : g.method = m) (hd : decode c.code g.pc = .ok (.newarray aty, 2)) {n : Int32} {rest : List Value} (hs : g.stack = .int n :: rest)
    {k : Nat} (hn : n.toInt = (k : Int)) (cap : Nat) (hcap : k ≤ cap) (hb : cap * 8 ≤ 536870912) (hc : cells + 1 ≤ R.cells) (hl : slots + cap ≤ R.slots) :
    ∃ T' h' a, Stand p l e R s m args below meth c T' locs (cells + 1) (slots + cap) ∧ T'.heap = h' ∧ Ext h h' ∧ a = h.size ∧ AF Z h' a (newarray.typeOf aty) k (fun _ => defaultValue (newarray.typeOf aty)) ∧
      ∀ target, Steps p.tables e below (T'.setTop { g with pc := g.pc + 2, stack := .ref a :: rest }) target → Steps p.tables e below (T.setTop g) target := by
  have hn0 : ¬ n < 0 := by rw [Int32.lt_iff_toInt_lt, hn]; simp only [Int32.toInt_zero]; omega
  have hk : n.toNatClampNeg = k := own_idx hn
  have hk31 : k < 2 ^ 31 := by have := n.toInt_lt; omega
  obtain ⟨T', h', cA, X', e', E, A, st⟩ := newP X hx hZ w eT hg hd hs hn0 (by rw [hk]; exact hcap) hb hc hl
  refine ⟨T', h', h.size, X', e', E, rfl, ⟨hk31, _, A, by rw [sz_new, hk], fun j hj => ?_⟩, st⟩
  simp [newA, hk, hj]
theorem own_ldI (X : Stand p l e R s m args below meth c T locs cells slots) (hx : p.tables.exec = Jvm.exec) (hZ : Z.Warmed39 s.vm) (eT : T.heap = h) {a : Addr} {n i : Nat} {f : Nat → Value} (A : AF Z h a .int n f) {j : Int32} (hj : j.toInt = (i : Int)) (hi : i < n) {g : JFrame} (hg : g.method = m) {rest : List Value} (hs : g.stack = .int j :: .ref a :: rest) (hd : decode c.code g.pc = .ok (.iaload, 1)) {v : Value} (hv : f i = v) (target : State)
    (hr : Steps p.tables e below (T.setTop { g with pc := g.pc + 1, stack := v :: rest }) target) : Steps p.tables e below (T.setTop g) target := by
  obtain ⟨-, cl, Ar, S, H⟩ := A
  exact X.iaload hx (j := j) (v := v) (by rw [eT]; exact Ar.1) (State.isArrayOf_alike hZ.alike Ar.2.1) Ar.2.2 (own_in S hj hi) (by rw [own_idx hj, ← hv]; exact H i hi) hg hs hd target hr
theorem own_ldJ (X : Stand p l e R s m args below meth c T locs cells slots) (hx : p.tables.exec = Jvm.exec) (hZ : Z.Warmed39 s.vm) (eT : T.heap = h) {a : Addr} {n i : Nat} {f : Nat → Value} (A : AF Z h a .long n f) {j : Int32} (hj : j.toInt = (i : Int)) (hi : i < n) {g : JFrame} (hg : g.method = m) {rest : List Value} (hs : g.stack = .int j :: .ref a :: rest) (hd : decode c.code g.pc = .ok (.laload, 1)) {v : Value} (hv : f i = v) (target : State)
    (hr : Steps p.tables e below (T.setTop { g with pc := g.pc + 1, stack := v :: rest }) target) : Steps p.tables e below (T.setTop g) target := by
  obtain ⟨-, cl, Ar, S, H⟩ := A
  exact X.laload hx (j := j) (v := v) (by rw [eT]; exact Ar.1) (State.isArrayOf_alike hZ.alike Ar.2.1) Ar.2.2 (own_in S hj hi) (by rw [own_idx hj, ← hv]; exact H i hi) hg hs hd target hr
theorem own_ldB (X : Stand p l e R s m args below meth c T locs cells slots) (hx : p.tables.exec = Jvm.exec) (hZ : Z.Warmed39 s.vm) (eT : T.heap = h) {a : Addr} {n i : Nat} {f : Nat → Value} (A : AF Z h a .byte n f) {j : Int32} (hj : j.toInt = (i : Int)) (hi : i < n) {g : JFrame} (hg : g.method = m) {rest : List Value} (hs : g.stack = .int j :: .ref a :: rest) (hd : decode c.code g.pc = .ok (.baload, 1)) {v : Value} (hv : f i = v) (target : State)
    (hr : Steps p.tables e below (T.setTop { g with pc := g.pc + 1, stack := v :: rest }) target) : Steps p.tables e below (T.setTop g) target := by
  obtain ⟨-, cl, Ar, S, H⟩ := A
  exact X.baloadBytes hx (j := j) (v := v) (by rw [eT]; exact Ar.1) (State.isArrayOf_alike hZ.alike Ar.2.1) Ar.2.2 (own_in S hj hi) (by rw [own_idx hj, ← hv]; exact H i hi) hg hs hd target hr
theorem own_len (X : Stand p l e R s m args below meth c T locs cells slots) (hx : p.tables.exec = Jvm.exec) (hZ : Z.Warmed39 s.vm) (eT : T.heap = h) {a : Addr} {ty : FieldType} {n : Nat} {f : Nat → Value} (A : AF Z h a ty n f) {g : JFrame} (hg : g.method = m) {rest : List Value} (hs : g.stack = .ref a :: rest) (hd : decode c.code g.pc = .ok (.arraylength, 1)) (target : State)
    (hr : Steps p.tables e below (T.setTop { g with pc := g.pc + 1, stack := .int (Int32.ofNat n) :: rest }) target) : Steps p.tables e below (T.setTop g) target := by
  obtain ⟨-, cl, Ar, S, H⟩ := A
  refine X.arraylength hx (by rw [eT]; exact Ar.1) (State.isArrayOf_alike hZ.alike Ar.2.1) hg hs hd target ?_
  rw [S]; exact hr
end OwnKit
theorem pd_1 : parseMethodDescriptor "([BI)I" = some ⟨[(.array .byte), .int], some .int⟩ := by decide +kernel
theorem d1_0 : decode prog_4_method_59_code 0 = .ok (.aload_n 0, 1) := by decide +kernel
theorem d1_1 : decode prog_4_method_59_code 1 = .ok (.iload_n 1, 1) := by decide +kernel
theorem d1_2 : decode prog_4_method_59_code 2 = .ok (.iconst 3, 1) := by decide +kernel
theorem d1_3 : decode prog_4_method_59_code 3 = .ok (.ishr, 1) := by decide +kernel
theorem d1_4 : decode prog_4_method_59_code 4 = .ok (.baload, 1) := by decide +kernel
theorem d1_5 : decode prog_4_method_59_code 5 = .ok (.bipush 7, 2) := by decide +kernel
theorem d1_7 : decode prog_4_method_59_code 7 = .ok (.iload_n 1, 1) := by decide +kernel
theorem d1_8 : decode prog_4_method_59_code 8 = .ok (.bipush 7, 2) := by decide +kernel
theorem d1_10 : decode prog_4_method_59_code 10 = .ok (.iand, 1) := by decide +kernel
theorem d1_11 : decode prog_4_method_59_code 11 = .ok (.isub, 1) := by decide +kernel
theorem d1_12 : decode prog_4_method_59_code 12 = .ok (.ishr, 1) := by decide +kernel
theorem d1_13 : decode prog_4_method_59_code 13 = .ok (.iconst 1, 1) := by decide +kernel
theorem d1_14 : decode prog_4_method_59_code 14 = .ok (.iand, 1) := by decide +kernel
theorem d1_15 : decode prog_4_method_59_code 15 = .ok (.ireturn, 1) := by decide +kernel
theorem pn_3 : plainName "formlet/Display" = true := by first | (simp [plainName, overriddenIn]; done) | decide +kernel
theorem ef_rm1 (m : MethodId) (a1 : Addr) (p1 : Int32) : entryFrame m #[(.ref a1), (.int p1)] 2 = mkF m 0 #[.val (.ref a1), .val (.int p1)] [] := by first | (simp [entryFrame, mkF, argsToLocals, Value.category]; done) | rfl
def Q_rm1 (Z : State) (a1 : Addr) (p1 : Int32) (f : Nat → Int32) (n : Nat) (i : Nat) (h0 : Heap) (n0 : Nat) (v : Option Value) (h : Heap) (L : List Loc) : Prop := v = some (.int (jshr (f i) ((7 : Int32) - (p1 &&& (7 : Int32))) &&& (1 : Int32))) ∧ Fr n0 L ∧ h = h0
set_option maxRecDepth 65536 in
set_option maxHeartbeats 40000000 in
theorem rm1 (l : Launch) (Z : State) (a0 : Array Value) (hw : ∀ d ∈ tables_1, d.before a0 Z = true) (ws : List Jvm.Cond) (a1 : Addr) (p1 : Int32) (f : Nat → Int32) (n : Nat) (i : Nat) (h0 : Heap) (n0 : Nat) (Z0 : n0 ≤ h0.size) (A0 : AF Z h0 a1 .byte n (fun j => .int (f j))) (hj : (jshr p1 (3 : Int32)).toInt = (i : Int)) (hi : i < n) :
    MetFree l (⟨"formlet/Display", "bit", "([BI)I"⟩ : MethodName) (head1 (Jvm.Cond.code (⟨"formlet/Display", "bit", "([BI)I"⟩ : MethodName) prog_4_method_59_code 2 (some .int) :: ws) ({ frames := 0, cells := 0, slots := 0, locals := 0 } : Room)) (fun a U => a = #[(.ref a1), (.int p1)] ∧ Z.Warmed39 U.vm ∧ U.heap = h0) (fun _ _ _ _ _ => True) (fun _ U o U' => ∃ v L, o = .returned v ∧ Q_rm1 Z a1 p1 f n i h0 n0 v U'.heap L ∧ FrameEnd U o U' L ({ frames := 0, cells := 0, slots := 0, locals := 0 } : Room).cells ({ frames := 0, cells := 0, slots := 0, locals := 0 } : Room).slots) := by
  refine own_body (Q := Q_rm1 Z a1 p1 f n i h0 n0) (plainFor_of_name pn_3) ?_
  intro p e s m below meth c s₁ K go fin X0 hx hby hml hown hnm hret hZ e0
  have hown : s.vm.findClass "formlet/Display" = some m.cls := hown
  have N0 := Fr.nil n0
  refine go _ (s₁.setTop (mkF m 0 #[.val (.ref a1), .val (.int p1)] [])) (fun t k => castTop (ef_rm1 m a1 p1) k) ?_
  refine go _ (s₁.setTop (mkF m 1 #[.val (.ref a1), .val (.int p1)] [(.ref a1)])) (fun t k => XS.aloadN X0.here hx rfl (hb hby d1_0) rfl rfl k) ?_
  refine go _ (s₁.setTop (mkF m 2 #[.val (.ref a1), .val (.int p1)] [(.int p1), (.ref a1)])) (fun t k => XS.iloadN X0.here hx rfl (hb hby d1_1) rfl k) ?_
  refine go _ (s₁.setTop (mkF m 3 #[.val (.ref a1), .val (.int p1)] [(.int (3 : Int32)), (.int p1), (.ref a1)])) (fun t k => XS.iconst X0.here hx rfl (hb hby d1_2) k) ?_
  refine go _ (s₁.setTop (mkF m 4 #[.val (.ref a1), .val (.int p1)] [(.int (jshr p1 (3 : Int32))), (.ref a1)])) (fun t k => XS.ishr X0.here hx rfl (hb hby d1_3) rfl k) ?_
  refine go _ (s₁.setTop (mkF m 5 #[.val (.ref a1), .val (.int p1)] [(.int (f i))])) (own_ldB X0 hx hZ e0 A0 (i := i) hj hi (g := (mkF m 4 #[.val (.ref a1), .val (.int p1)] [(.int (jshr p1 (3 : Int32))), (.ref a1)])) rfl rfl (hb hby d1_4) (v := (.int (f i))) rfl) ?_
  refine go _ (s₁.setTop (mkF m 7 #[.val (.ref a1), .val (.int p1)] [(.int (7 : Int32)), (.int (f i))])) (fun t k => XS.bipush X0.here hx rfl (hb hby d1_5) k) ?_
  refine go _ (s₁.setTop (mkF m 8 #[.val (.ref a1), .val (.int p1)] [(.int p1), (.int (7 : Int32)), (.int (f i))])) (fun t k => XS.iloadN X0.here hx rfl (hb hby d1_7) rfl k) ?_
  refine go _ (s₁.setTop (mkF m 10 #[.val (.ref a1), .val (.int p1)] [(.int (7 : Int32)), (.int p1), (.int (7 : Int32)), (.int (f i))])) (fun t k => XS.bipush X0.here hx rfl (hb hby d1_8) k) ?_
  refine go _ (s₁.setTop (mkF m 11 #[.val (.ref a1), .val (.int p1)] [(.int (p1 &&& (7 : Int32))), (.int (7 : Int32)), (.int (f i))])) (fun t k => XS.iand X0.here hx rfl (hb hby d1_10) rfl k) ?_
  refine go _ (s₁.setTop (mkF m 12 #[.val (.ref a1), .val (.int p1)] [(.int ((7 : Int32) - (p1 &&& (7 : Int32)))), (.int (f i))])) (fun t k => XS.isub X0.here hx rfl (hb hby d1_11) rfl k) ?_
  refine go _ (s₁.setTop (mkF m 13 #[.val (.ref a1), .val (.int p1)] [(.int (jshr (f i) ((7 : Int32) - (p1 &&& (7 : Int32)))))])) (fun t k => XS.ishr X0.here hx rfl (hb hby d1_12) rfl k) ?_
  refine go _ (s₁.setTop (mkF m 14 #[.val (.ref a1), .val (.int p1)] [(.int (1 : Int32)), (.int (jshr (f i) ((7 : Int32) - (p1 &&& (7 : Int32)))))])) (fun t k => XS.iconst X0.here hx rfl (hb hby d1_13) k) ?_
  refine go _ (s₁.setTop (mkF m 15 #[.val (.ref a1), .val (.int p1)] [(.int ((jshr (f i) ((7 : Int32) - (p1 &&& (7 : Int32)))) &&& (1 : Int32)))])) (fun t k => XS.iand X0.here hx rfl (hb hby d1_14) rfl k) ?_
  exact fin (some (.int ((jshr (f i) ((7 : Int32) - (p1 &&& (7 : Int32)))) &&& (1 : Int32)))) X0 (by decide) (by decide) (fun q => by cases q) (show Q_rm1 Z a1 p1 f n i h0 n0 _ s₁.heap _ from (by rw [e0]; exact ⟨rfl, N0, rfl⟩)) (fun fs hr => retI X0 hx hret (hb hby d1_15) hr)
def own_byte (v : Int64) : Nat → Int32
  | 0 => jb ((jushrL v (56 : Int32)).toInt32)
  | 1 => jb ((jushrL v (48 : Int32)).toInt32)
  | 2 => jb ((jushrL v (40 : Int32)).toInt32)
  | 3 => jb ((jushrL v (32 : Int32)).toInt32)
  | 4 => jb ((jushrL v (24 : Int32)).toInt32)
  | 5 => jb ((jushrL v (16 : Int32)).toInt32)
  | 6 => jb ((jushrL v (8 : Int32)).toInt32)
  | 7 => jb (v.toInt32)
  | _ => 0
section OwnSh
theorem own_bvushr (x y : Int32) : (jushr x y).toBitVec = x.toBitVec >>> (y.toBitVec.toNat % 32) := by
  have e : (jushr x y).toBitVec = x.toBitVec >>> ((y &&& 31).toUInt32 % 32).toBitVec.toNat := rfl
  have t : ((y &&& 31).toUInt32 % 32).toBitVec.toNat = y.toBitVec.toNat % 32 := by
    show (y.toBitVec &&& 31#32).toNat % 32 = _
    rw [BitVec.toNat_and]
    show (y.toBitVec.toNat &&& (2 ^ 5 - 1)) % 32 = _
    rw [Nat.and_two_pow_sub_one_eq_mod]
    omega
  rw [e, t]
theorem own_bvshl (x y : Int32) : (jshl x y).toBitVec = x.toBitVec <<< (y.toBitVec.toNat % 32) := by
  have e : (jshl x y).toBitVec = x.toBitVec <<< ((y &&& 31).toBitVec.smod 32).toNat := rfl
  rw [e, sm32 y _ rfl]
theorem own_bvshr (x y : Int32) : (jshr x y).toBitVec = x.toBitVec.sshiftRight (y.toBitVec.toNat % 32) := by
  have e : (jshr x y).toBitVec = x.toBitVec.sshiftRight ((y &&& 31).toBitVec.smod 32).toNat := rfl
  rw [e, sm32 y _ rfl]
theorem own_bvushrL (x : Int64) (y : Int32) : (jushrL x y).toBitVec = x.toBitVec >>> (y.toBitVec.toNat % 64) := by
  have e : (jushrL x y).toBitVec = x.toBitVec >>> ((y &&& 0x3f).toInt64.toBitVec % 64#64).toNat := rfl
  obtain ⟨h1, h2⟩ := sm64 y _ rfl
  have t : ((y &&& 0x3f).toInt64.toBitVec % 64#64).toNat = y.toBitVec.toNat % 64 := by
    rw [h1, BitVec.toNat_umod, BitVec.toNat_ofNat, BitVec.toNat_ofNat]
    show y.toBitVec.toNat % 64 % 18446744073709551616 % 64 = _
    omega
  rw [e, t]
theorem own_bvshlL (x : Int64) (y : Int32) : (jshlL x y).toBitVec = x.toBitVec <<< (y.toBitVec.toNat % 64) := by
  have e : (jshlL x y).toBitVec = x.toBitVec <<< ((y &&& 0x3f).toInt64.toBitVec.smod 64).toNat := rfl
  obtain ⟨h1, h2⟩ := sm64 y _ rfl
  rw [e, h1, smod64 _ h2]
theorem own_nat32 (y : Int32) (k : Nat) (h : y.toInt = (k : Int)) : y.toBitVec.toNat = k := by
  have a1 : y.toInt = if 2 * y.toBitVec.toNat < 2 ^ 32 then (y.toBitVec.toNat : Int) else (y.toBitVec.toNat : Int) - ((2 ^ 32 : Nat) : Int) := BitVec.toInt_eq_toNat_cond y.toBitVec
  have b := y.toBitVec.isLt
  generalize y.toBitVec.toNat = n at *
  split at a1 <;> omega
end OwnSh
theorem pn_5 : plainName "formlet/DisplayBitPinLaw" = true := by first | (simp [plainName, overriddenIn]; done) | decide +kernel
theorem ef_rm0 (m : MethodId) (q1 : Int64) (p1 : Int32) : entryFrame m #[(.long q1), (.int p1)] maxLocals = mkF m 0 #[.val (.long q1), .second, .val (.int p1), .unset, .unset, .unset] [] := by first | (simp [entryFrame, mkF, argsToLocals, Value.category, maxLocals]; done) | rfl
def v_rm0_0 (q1 : Int64) (p1 : Int32) : Int32 := (((jushrL q1 ((63 : Int32) - (p1 &&& (63 : Int32)))) &&& (1 : Int64)).toInt32)
theorem own_jb_bit (w : Int32) (t : Nat) (ht : t < 8) : (jb w).toBitVec.getLsbD t = w.toBitVec.getLsbD t := by
  have e : (jb w).toBitVec = (w.toBitVec.signExtend 8).signExtend 32 := by simp [jb]
  have h1 : t < 32 := by omega
  rw [e, BitVec.getLsbD_signExtend, BitVec.getLsbD_signExtend]
  simp [h1, ht]
theorem own_lo_bit (w : Int64) (t : Nat) (ht : t < 32) : (w.toInt32).toBitVec.getLsbD t = w.toBitVec.getLsbD t := by
  have e : (w.toInt32).toBitVec = w.toBitVec.signExtend 32 := by simp
  have h1 : t < 64 := by omega
  rw [e, BitVec.getLsbD_signExtend]; simp [ht, h1]
theorem own_byte_bit (v : Int64) (j t : Nat) (hj : j < 8) (ht : t < 8) : (own_byte v j).toBitVec.getLsbD t = v.toBitVec.getLsbD (56 - 8 * j + t) := by
  rcases j with _ | _ | _ | _ | _ | _ | _ | _ | j
  · show (jb ((jushrL v (56 : Int32)).toInt32)).toBitVec.getLsbD t = _
    rw [own_jb_bit _ _ ht, own_lo_bit _ _ (by omega), own_bvushrL, BitVec.getLsbD_ushiftRight]; rfl
  · show (jb ((jushrL v (48 : Int32)).toInt32)).toBitVec.getLsbD t = _
    rw [own_jb_bit _ _ ht, own_lo_bit _ _ (by omega), own_bvushrL, BitVec.getLsbD_ushiftRight]; rfl
  · show (jb ((jushrL v (40 : Int32)).toInt32)).toBitVec.getLsbD t = _
    rw [own_jb_bit _ _ ht, own_lo_bit _ _ (by omega), own_bvushrL, BitVec.getLsbD_ushiftRight]; rfl
  · show (jb ((jushrL v (32 : Int32)).toInt32)).toBitVec.getLsbD t = _
    rw [own_jb_bit _ _ ht, own_lo_bit _ _ (by omega), own_bvushrL, BitVec.getLsbD_ushiftRight]; rfl
  · show (jb ((jushrL v (24 : Int32)).toInt32)).toBitVec.getLsbD t = _
    rw [own_jb_bit _ _ ht, own_lo_bit _ _ (by omega), own_bvushrL, BitVec.getLsbD_ushiftRight]; rfl
  · show (jb ((jushrL v (16 : Int32)).toInt32)).toBitVec.getLsbD t = _
    rw [own_jb_bit _ _ ht, own_lo_bit _ _ (by omega), own_bvushrL, BitVec.getLsbD_ushiftRight]; rfl
  · show (jb ((jushrL v (8 : Int32)).toInt32)).toBitVec.getLsbD t = _
    rw [own_jb_bit _ _ ht, own_lo_bit _ _ (by omega), own_bvushrL, BitVec.getLsbD_ushiftRight]; rfl
  · show (jb (v.toInt32)).toBitVec.getLsbD t = _
    rw [own_jb_bit _ _ ht, own_lo_bit _ _ (by omega)]
    congr 1; omega
  · exfalso; omega
theorem own_one (x : Int32) : x &&& (1 : Int32) = if x.toBitVec.getLsbD 0 then 1 else 0 := by
  apply Int32.toBitVec_inj.mp
  rw [Int32.toBitVec_and]
  apply BitVec.eq_of_getLsbD_eq
  intro i hi
  rw [BitVec.getLsbD_and]
  rcases i with _ | i
  · cases x.toBitVec.getLsbD 0 <;> rfl
  · have : (1 : Int32).toBitVec.getLsbD (i + 1) = false := by simp
    rw [this]
    cases x.toBitVec.getLsbD 0 <;> simp
theorem own_oneL (x : Int64) : (x &&& (1 : Int64)).toInt32 = if x.toBitVec.getLsbD 0 then 1 else 0 := by
  have h : x &&& (1 : Int64) = if x.toBitVec.getLsbD 0 then 1 else 0 := by
    apply Int64.toBitVec_inj.mp
    rw [Int64.toBitVec_and]
    apply BitVec.eq_of_getLsbD_eq
    intro i hi
    rw [BitVec.getLsbD_and]
    rcases i with _ | i
    · cases x.toBitVec.getLsbD 0 <;> rfl
    · have : (1 : Int64).toBitVec.getLsbD (i + 1) = false := by simp
      rw [this]
      cases x.toBitVec.getLsbD 0 <;> simp
  rw [h]
  cases x.toBitVec.getLsbD 0 <;> rfl
theorem own_law (q1 : Int64) (p1 : Int32) : ∃ i : Nat, i < 8 ∧ (jshr (p1 &&& (63 : Int32)) (3 : Int32)).toInt = (i : Int) ∧
    (jshr (own_byte q1 i) ((7 : Int32) - ((p1 &&& (63 : Int32)) &&& (7 : Int32))) &&& (1 : Int32)) = (((jushrL q1 ((63 : Int32) - (p1 &&& (63 : Int32)))) &&& (1 : Int64)).toInt32) := by
  have m := c_mask p1 63 6 (by decide) (by decide +kernel)
  generalize (p1 &&& (63 : Int32)) = P at *
  have m2 := c_mask P 7 3 (by decide) (by decide +kernel)
  have s1 := c_ishr P 3 3 (by decide +kernel)
  have s2 := c_isub 7 (P &&& 7)
  have s3 := c_isub 63 P
  have r2 := rng32 (7 - (P &&& 7))
  have r3 := rng32 (63 - P)
  have e7 : (7 : Int32).toInt = 7 := by decide
  have e63 : (63 : Int32).toInt = 63 := by decide
  have n2 : ((7 : Int32) - (P &&& 7)).toBitVec.toNat = (7 - P.toInt % 8).toNat := own_nat32 _ _ (by omega)
  have n3 : ((63 : Int32) - P).toBitVec.toNat = (63 - P.toInt).toNat := own_nat32 _ _ (by omega)
  refine ⟨(P.toInt / 8).toNat, by omega, ?_, ?_⟩
  · show (P >>> ((3 : Int32) &&& 31)).toInt = _
    rw [s1]; omega
  · rw [own_one, own_oneL]
    have b1 : (jshr (own_byte q1 (P.toInt / 8).toNat) ((7 : Int32) - (P &&& (7 : Int32)))).toBitVec.getLsbD 0 = q1.toBitVec.getLsbD (63 - P.toInt).toNat := by
      rw [own_bvshr, BitVec.getLsbD_sshiftRight, n2]
      have h1 : (7 - P.toInt % 8).toNat % 32 + 0 < 32 := by omega
      have h2 : ¬ (32 ≤ 0) := by omega
      rw [if_pos h1]
      simp only [Nat.add_zero, h2, decide_false, Bool.not_false, Bool.true_and]
      rw [own_byte_bit _ _ _ (by omega) (by omega)]
      congr 1
      omega
    have b2 : (jushrL q1 ((63 : Int32) - P)).toBitVec.getLsbD 0 = q1.toBitVec.getLsbD (63 - P.toInt).toNat := by
      rw [own_bvushrL, BitVec.getLsbD_ushiftRight, n3]
      congr 1
      omega
    rw [b1, b2]
def Q_rm0 (Z : State) (q1 : Int64) (p1 : Int32) (h0 : Heap) (n0 : Nat) (v : Option Value) (h : Heap) (L : List Loc) : Prop := v = some (.int (1 : Int32)) ∧ Fr n0 L
set_option maxRecDepth 65536 in
set_option maxHeartbeats 40000000 in
theorem rm0 (l : Launch) (Z : State) (a0 : Array Value) (hw : ∀ d ∈ tables_1, d.before a0 Z = true) (ws : List Jvm.Cond) (q1 : Int64) (p1 : Int32) (h0 : Heap) (n0 : Nat) (Z0 : n0 ≤ h0.size)  :
    MetFree l x (head1 (Jvm.Cond.code x code maxLocals ret :: ws) room_1) (fun a U => a = #[(.long q1), (.int p1)] ∧ Z.Warmed39 U.vm ∧ U.heap = h0) (fun _ _ _ _ _ => True) (fun _ U o U' => ∃ v L, o = .returned v ∧ Q_rm0 Z q1 p1 h0 n0 v U'.heap L ∧ FrameEnd U o U' L room_1.cells room_1.slots) := by
  refine own_body (Q := Q_rm0 Z q1 p1 h0 n0) (plainFor_of_name pn_5) ?_
  intro p e s m below meth c s₁ K go fin X0 hx hby hml hown hnm hret hZ e0
  have hown : s.vm.findClass "formlet/DisplayBitPinLaw" = some m.cls := hown
  have N0 := Fr.nil n0
  refine go _ (s₁.setTop (mkF m 0 #[.val (.long q1), .second, .val (.int p1), .unset, .unset, .unset] [])) (fun t k => castTop (ef_rm0 m q1 p1) k) ?_
  refine go _ (s₁.setTop (mkF m 2 #[.val (.long q1), .second, .val (.int p1), .unset, .unset, .unset] [(.int (8 : Int32))])) (fun t k => XS.bipush X0.here hx rfl (hb hby at_0) k) ?_
  obtain ⟨T1, h1, b1, X1, e1, E1, g1, A1, st1⟩ := own_new X0 hx hZ (hw _ (List.mem_of_getElem? (i := 0) rfl)) e0 (g := (mkF m 2 #[.val (.long q1), .second, .val (.int p1), .unset, .unset, .unset] [(.int (8 : Int32))])) rfl (hb hby at_2) rfl (k := 8) (by decide) 8 (by decide) (by decide) (by decide) (by decide)
  have Z2 : n0 ≤ h1.size := Nat.le_trans Z0 E1.1
  have ge_b1 : n0 ≤ b1 := by rw [g1]; exact Z0
  have A1' : AF Z h1 b1 .byte 8 (fun _ => .int 0) := A1
  refine go _ (T1.setTop (mkF m 4 #[.val (.long q1), .second, .val (.int p1), .unset, .unset, .unset] [(.ref b1)])) (st1) ?_
  refine go _ (T1.setTop (mkF m 5 #[.val (.long q1), .second, .val (.int p1), .val (.ref b1), .unset, .unset] [])) (fun t k => XS.astoreN X1.here hx rfl (hb hby at_4) rfl rfl (l' := #[.val (.long q1), .second, .val (.int p1), .val (.ref b1), .unset, .unset]) rfl k) ?_
  refine go _ (T1.setTop (mkF m 6 #[.val (.long q1), .second, .val (.int p1), .val (.ref b1), .unset, .unset] [(.ref b1)])) (fun t k => XS.aloadN X1.here hx rfl (hb hby at_5) rfl rfl k) ?_
  refine go _ (T1.setTop (mkF m 7 #[.val (.long q1), .second, .val (.int p1), .val (.ref b1), .unset, .unset] [(.int (0 : Int32)), (.ref b1)])) (fun t k => XS.iconst X1.here hx rfl (hb hby at_6) k) ?_
  refine go _ (T1.setTop (mkF m 8 #[.val (.long q1), .second, .val (.int p1), .val (.ref b1), .unset, .unset] [(.long q1), (.int (0 : Int32)), (.ref b1)])) (fun t k => XS.lloadN X1.here hx rfl (hb hby at_7) rfl k) ?_
  refine go _ (T1.setTop (mkF m 10 #[.val (.long q1), .second, .val (.int p1), .val (.ref b1), .unset, .unset] [(.int (56 : Int32)), (.long q1), (.int (0 : Int32)), (.ref b1)])) (fun t k => XS.bipush X1.here hx rfl (hb hby at_8) k) ?_
  refine go _ (T1.setTop (mkF m 11 #[.val (.long q1), .second, .val (.int p1), .val (.ref b1), .unset, .unset] [(.long (jushrL q1 (56 : Int32))), (.int (0 : Int32)), (.ref b1)])) (fun t k => XS.lushr X1.here hx rfl (hb hby at_10) rfl k) ?_
  refine go _ (T1.setTop (mkF m 12 #[.val (.long q1), .second, .val (.int p1), .val (.ref b1), .unset, .unset] [(.int ((jushrL q1 (56 : Int32)).toInt32)), (.int (0 : Int32)), (.ref b1)])) (fun t k => XS.l2i X1.here hx rfl (hb hby at_11) rfl k) ?_
  refine go _ (T1.setTop (mkF m 13 #[.val (.long q1), .second, .val (.int p1), .val (.ref b1), .unset, .unset] [(.int (jb ((jushrL q1 (56 : Int32)).toInt32))), (.int (0 : Int32)), (.ref b1)])) (fun t k => XS.i2b X1.here hx rfl (hb hby at_12) rfl k) ?_
  obtain ⟨T3, h3, X3, e3, W3, A3, st3⟩ := own_stB X1 hx hZ e1 A1' (i := 0) (by decide) (by decide) (own_narb ((jushrL q1 (56 : Int32)).toInt32)) (g := (mkF m 13 #[.val (.long q1), .second, .val (.int p1), .val (.ref b1), .unset, .unset] [(.int (jb ((jushrL q1 (56 : Int32)).toInt32))), (.int (0 : Int32)), (.ref b1)])) rfl rfl (hb hby at_13)
  have Z4 : n0 ≤ h3.size := by rw [W3.size]; exact Z2
  have N5 := Fr.snoc X3 N0 ge_b1
  refine go _ (T3.setTop (mkF m 14 #[.val (.long q1), .second, .val (.int p1), .val (.ref b1), .unset, .unset] [])) (st3) ?_
  refine go _ (T3.setTop (mkF m 15 #[.val (.long q1), .second, .val (.int p1), .val (.ref b1), .unset, .unset] [(.ref b1)])) (fun t k => XS.aloadN X3.here hx rfl (hb hby at_14) rfl rfl k) ?_
  refine go _ (T3.setTop (mkF m 16 #[.val (.long q1), .second, .val (.int p1), .val (.ref b1), .unset, .unset] [(.int (1 : Int32)), (.ref b1)])) (fun t k => XS.iconst X3.here hx rfl (hb hby at_15) k) ?_
  refine go _ (T3.setTop (mkF m 17 #[.val (.long q1), .second, .val (.int p1), .val (.ref b1), .unset, .unset] [(.long q1), (.int (1 : Int32)), (.ref b1)])) (fun t k => XS.lloadN X3.here hx rfl (hb hby at_16) rfl k) ?_
  refine go _ (T3.setTop (mkF m 19 #[.val (.long q1), .second, .val (.int p1), .val (.ref b1), .unset, .unset] [(.int (48 : Int32)), (.long q1), (.int (1 : Int32)), (.ref b1)])) (fun t k => XS.bipush X3.here hx rfl (hb hby at_17) k) ?_
  refine go _ (T3.setTop (mkF m 20 #[.val (.long q1), .second, .val (.int p1), .val (.ref b1), .unset, .unset] [(.long (jushrL q1 (48 : Int32))), (.int (1 : Int32)), (.ref b1)])) (fun t k => XS.lushr X3.here hx rfl (hb hby at_19) rfl k) ?_
  refine go _ (T3.setTop (mkF m 21 #[.val (.long q1), .second, .val (.int p1), .val (.ref b1), .unset, .unset] [(.int ((jushrL q1 (48 : Int32)).toInt32)), (.int (1 : Int32)), (.ref b1)])) (fun t k => XS.l2i X3.here hx rfl (hb hby at_20) rfl k) ?_
  refine go _ (T3.setTop (mkF m 22 #[.val (.long q1), .second, .val (.int p1), .val (.ref b1), .unset, .unset] [(.int (jb ((jushrL q1 (48 : Int32)).toInt32))), (.int (1 : Int32)), (.ref b1)])) (fun t k => XS.i2b X3.here hx rfl (hb hby at_21) rfl k) ?_
  obtain ⟨T6, h6, X6, e6, W6, A6, st6⟩ := own_stB X3 hx hZ e3 A3 (i := 1) (by decide) (by decide) (own_narb ((jushrL q1 (48 : Int32)).toInt32)) (g := (mkF m 22 #[.val (.long q1), .second, .val (.int p1), .val (.ref b1), .unset, .unset] [(.int (jb ((jushrL q1 (48 : Int32)).toInt32))), (.int (1 : Int32)), (.ref b1)])) rfl rfl (hb hby at_22)
  have Z7 : n0 ≤ h6.size := by rw [W6.size]; exact Z4
  have N8 := Fr.snoc X6 N5 ge_b1
  refine go _ (T6.setTop (mkF m 23 #[.val (.long q1), .second, .val (.int p1), .val (.ref b1), .unset, .unset] [])) (st6) ?_
  refine go _ (T6.setTop (mkF m 24 #[.val (.long q1), .second, .val (.int p1), .val (.ref b1), .unset, .unset] [(.ref b1)])) (fun t k => XS.aloadN X6.here hx rfl (hb hby at_23) rfl rfl k) ?_
  refine go _ (T6.setTop (mkF m 25 #[.val (.long q1), .second, .val (.int p1), .val (.ref b1), .unset, .unset] [(.int (2 : Int32)), (.ref b1)])) (fun t k => XS.iconst X6.here hx rfl (hb hby at_24) k) ?_
  refine go _ (T6.setTop (mkF m 26 #[.val (.long q1), .second, .val (.int p1), .val (.ref b1), .unset, .unset] [(.long q1), (.int (2 : Int32)), (.ref b1)])) (fun t k => XS.lloadN X6.here hx rfl (hb hby at_25) rfl k) ?_
  refine go _ (T6.setTop (mkF m 28 #[.val (.long q1), .second, .val (.int p1), .val (.ref b1), .unset, .unset] [(.int (40 : Int32)), (.long q1), (.int (2 : Int32)), (.ref b1)])) (fun t k => XS.bipush X6.here hx rfl (hb hby at_26) k) ?_
  refine go _ (T6.setTop (mkF m 29 #[.val (.long q1), .second, .val (.int p1), .val (.ref b1), .unset, .unset] [(.long (jushrL q1 (40 : Int32))), (.int (2 : Int32)), (.ref b1)])) (fun t k => XS.lushr X6.here hx rfl (hb hby at_28) rfl k) ?_
  refine go _ (T6.setTop (mkF m 30 #[.val (.long q1), .second, .val (.int p1), .val (.ref b1), .unset, .unset] [(.int ((jushrL q1 (40 : Int32)).toInt32)), (.int (2 : Int32)), (.ref b1)])) (fun t k => XS.l2i X6.here hx rfl (hb hby at_29) rfl k) ?_
  refine go _ (T6.setTop (mkF m 31 #[.val (.long q1), .second, .val (.int p1), .val (.ref b1), .unset, .unset] [(.int (jb ((jushrL q1 (40 : Int32)).toInt32))), (.int (2 : Int32)), (.ref b1)])) (fun t k => XS.i2b X6.here hx rfl (hb hby at_30) rfl k) ?_
  obtain ⟨T9, h9, X9, e9, W9, A9, st9⟩ := own_stB X6 hx hZ e6 A6 (i := 2) (by decide) (by decide) (own_narb ((jushrL q1 (40 : Int32)).toInt32)) (g := (mkF m 31 #[.val (.long q1), .second, .val (.int p1), .val (.ref b1), .unset, .unset] [(.int (jb ((jushrL q1 (40 : Int32)).toInt32))), (.int (2 : Int32)), (.ref b1)])) rfl rfl (hb hby at_31)
  have Z10 : n0 ≤ h9.size := by rw [W9.size]; exact Z7
  have N11 := Fr.snoc X9 N8 ge_b1
  refine go _ (T9.setTop (mkF m 32 #[.val (.long q1), .second, .val (.int p1), .val (.ref b1), .unset, .unset] [])) (st9) ?_
  refine go _ (T9.setTop (mkF m 33 #[.val (.long q1), .second, .val (.int p1), .val (.ref b1), .unset, .unset] [(.ref b1)])) (fun t k => XS.aloadN X9.here hx rfl (hb hby at_32) rfl rfl k) ?_
  refine go _ (T9.setTop (mkF m 34 #[.val (.long q1), .second, .val (.int p1), .val (.ref b1), .unset, .unset] [(.int (3 : Int32)), (.ref b1)])) (fun t k => XS.iconst X9.here hx rfl (hb hby at_33) k) ?_
  refine go _ (T9.setTop (mkF m 35 #[.val (.long q1), .second, .val (.int p1), .val (.ref b1), .unset, .unset] [(.long q1), (.int (3 : Int32)), (.ref b1)])) (fun t k => XS.lloadN X9.here hx rfl (hb hby at_34) rfl k) ?_
  refine go _ (T9.setTop (mkF m 37 #[.val (.long q1), .second, .val (.int p1), .val (.ref b1), .unset, .unset] [(.int (32 : Int32)), (.long q1), (.int (3 : Int32)), (.ref b1)])) (fun t k => XS.bipush X9.here hx rfl (hb hby at_35) k) ?_
  refine go _ (T9.setTop (mkF m 38 #[.val (.long q1), .second, .val (.int p1), .val (.ref b1), .unset, .unset] [(.long (jushrL q1 (32 : Int32))), (.int (3 : Int32)), (.ref b1)])) (fun t k => XS.lushr X9.here hx rfl (hb hby at_37) rfl k) ?_
  refine go _ (T9.setTop (mkF m 39 #[.val (.long q1), .second, .val (.int p1), .val (.ref b1), .unset, .unset] [(.int ((jushrL q1 (32 : Int32)).toInt32)), (.int (3 : Int32)), (.ref b1)])) (fun t k => XS.l2i X9.here hx rfl (hb hby at_38) rfl k) ?_
  refine go _ (T9.setTop (mkF m 40 #[.val (.long q1), .second, .val (.int p1), .val (.ref b1), .unset, .unset] [(.int (jb ((jushrL q1 (32 : Int32)).toInt32))), (.int (3 : Int32)), (.ref b1)])) (fun t k => XS.i2b X9.here hx rfl (hb hby at_39) rfl k) ?_
  obtain ⟨T12, h12, X12, e12, W12, A12, st12⟩ := own_stB X9 hx hZ e9 A9 (i := 3) (by decide) (by decide) (own_narb ((jushrL q1 (32 : Int32)).toInt32)) (g := (mkF m 40 #[.val (.long q1), .second, .val (.int p1), .val (.ref b1), .unset, .unset] [(.int (jb ((jushrL q1 (32 : Int32)).toInt32))), (.int (3 : Int32)), (.ref b1)])) rfl rfl (hb hby at_40)
  have Z13 : n0 ≤ h12.size := by rw [W12.size]; exact Z10
  have N14 := Fr.snoc X12 N11 ge_b1
  refine go _ (T12.setTop (mkF m 41 #[.val (.long q1), .second, .val (.int p1), .val (.ref b1), .unset, .unset] [])) (st12) ?_
  refine go _ (T12.setTop (mkF m 42 #[.val (.long q1), .second, .val (.int p1), .val (.ref b1), .unset, .unset] [(.ref b1)])) (fun t k => XS.aloadN X12.here hx rfl (hb hby at_41) rfl rfl k) ?_
  refine go _ (T12.setTop (mkF m 43 #[.val (.long q1), .second, .val (.int p1), .val (.ref b1), .unset, .unset] [(.int (4 : Int32)), (.ref b1)])) (fun t k => XS.iconst X12.here hx rfl (hb hby at_42) k) ?_
  refine go _ (T12.setTop (mkF m 44 #[.val (.long q1), .second, .val (.int p1), .val (.ref b1), .unset, .unset] [(.long q1), (.int (4 : Int32)), (.ref b1)])) (fun t k => XS.lloadN X12.here hx rfl (hb hby at_43) rfl k) ?_
  refine go _ (T12.setTop (mkF m 46 #[.val (.long q1), .second, .val (.int p1), .val (.ref b1), .unset, .unset] [(.int (24 : Int32)), (.long q1), (.int (4 : Int32)), (.ref b1)])) (fun t k => XS.bipush X12.here hx rfl (hb hby at_44) k) ?_
  refine go _ (T12.setTop (mkF m 47 #[.val (.long q1), .second, .val (.int p1), .val (.ref b1), .unset, .unset] [(.long (jushrL q1 (24 : Int32))), (.int (4 : Int32)), (.ref b1)])) (fun t k => XS.lushr X12.here hx rfl (hb hby at_46) rfl k) ?_
  refine go _ (T12.setTop (mkF m 48 #[.val (.long q1), .second, .val (.int p1), .val (.ref b1), .unset, .unset] [(.int ((jushrL q1 (24 : Int32)).toInt32)), (.int (4 : Int32)), (.ref b1)])) (fun t k => XS.l2i X12.here hx rfl (hb hby at_47) rfl k) ?_
  refine go _ (T12.setTop (mkF m 49 #[.val (.long q1), .second, .val (.int p1), .val (.ref b1), .unset, .unset] [(.int (jb ((jushrL q1 (24 : Int32)).toInt32))), (.int (4 : Int32)), (.ref b1)])) (fun t k => XS.i2b X12.here hx rfl (hb hby at_48) rfl k) ?_
  obtain ⟨T15, h15, X15, e15, W15, A15, st15⟩ := own_stB X12 hx hZ e12 A12 (i := 4) (by decide) (by decide) (own_narb ((jushrL q1 (24 : Int32)).toInt32)) (g := (mkF m 49 #[.val (.long q1), .second, .val (.int p1), .val (.ref b1), .unset, .unset] [(.int (jb ((jushrL q1 (24 : Int32)).toInt32))), (.int (4 : Int32)), (.ref b1)])) rfl rfl (hb hby at_49)
  have Z16 : n0 ≤ h15.size := by rw [W15.size]; exact Z13
  have N17 := Fr.snoc X15 N14 ge_b1
  refine go _ (T15.setTop (mkF m 50 #[.val (.long q1), .second, .val (.int p1), .val (.ref b1), .unset, .unset] [])) (st15) ?_
  refine go _ (T15.setTop (mkF m 51 #[.val (.long q1), .second, .val (.int p1), .val (.ref b1), .unset, .unset] [(.ref b1)])) (fun t k => XS.aloadN X15.here hx rfl (hb hby at_50) rfl rfl k) ?_
  refine go _ (T15.setTop (mkF m 52 #[.val (.long q1), .second, .val (.int p1), .val (.ref b1), .unset, .unset] [(.int (5 : Int32)), (.ref b1)])) (fun t k => XS.iconst X15.here hx rfl (hb hby at_51) k) ?_
  refine go _ (T15.setTop (mkF m 53 #[.val (.long q1), .second, .val (.int p1), .val (.ref b1), .unset, .unset] [(.long q1), (.int (5 : Int32)), (.ref b1)])) (fun t k => XS.lloadN X15.here hx rfl (hb hby at_52) rfl k) ?_
  refine go _ (T15.setTop (mkF m 55 #[.val (.long q1), .second, .val (.int p1), .val (.ref b1), .unset, .unset] [(.int (16 : Int32)), (.long q1), (.int (5 : Int32)), (.ref b1)])) (fun t k => XS.bipush X15.here hx rfl (hb hby at_53) k) ?_
  refine go _ (T15.setTop (mkF m 56 #[.val (.long q1), .second, .val (.int p1), .val (.ref b1), .unset, .unset] [(.long (jushrL q1 (16 : Int32))), (.int (5 : Int32)), (.ref b1)])) (fun t k => XS.lushr X15.here hx rfl (hb hby at_55) rfl k) ?_
  refine go _ (T15.setTop (mkF m 57 #[.val (.long q1), .second, .val (.int p1), .val (.ref b1), .unset, .unset] [(.int ((jushrL q1 (16 : Int32)).toInt32)), (.int (5 : Int32)), (.ref b1)])) (fun t k => XS.l2i X15.here hx rfl (hb hby at_56) rfl k) ?_
  refine go _ (T15.setTop (mkF m 58 #[.val (.long q1), .second, .val (.int p1), .val (.ref b1), .unset, .unset] [(.int (jb ((jushrL q1 (16 : Int32)).toInt32))), (.int (5 : Int32)), (.ref b1)])) (fun t k => XS.i2b X15.here hx rfl (hb hby at_57) rfl k) ?_
  obtain ⟨T18, h18, X18, e18, W18, A18, st18⟩ := own_stB X15 hx hZ e15 A15 (i := 5) (by decide) (by decide) (own_narb ((jushrL q1 (16 : Int32)).toInt32)) (g := (mkF m 58 #[.val (.long q1), .second, .val (.int p1), .val (.ref b1), .unset, .unset] [(.int (jb ((jushrL q1 (16 : Int32)).toInt32))), (.int (5 : Int32)), (.ref b1)])) rfl rfl (hb hby at_58)
  have Z19 : n0 ≤ h18.size := by rw [W18.size]; exact Z16
  have N20 := Fr.snoc X18 N17 ge_b1
  refine go _ (T18.setTop (mkF m 59 #[.val (.long q1), .second, .val (.int p1), .val (.ref b1), .unset, .unset] [])) (st18) ?_
  refine go _ (T18.setTop (mkF m 60 #[.val (.long q1), .second, .val (.int p1), .val (.ref b1), .unset, .unset] [(.ref b1)])) (fun t k => XS.aloadN X18.here hx rfl (hb hby at_59) rfl rfl k) ?_
  refine go _ (T18.setTop (mkF m 62 #[.val (.long q1), .second, .val (.int p1), .val (.ref b1), .unset, .unset] [(.int (6 : Int32)), (.ref b1)])) (fun t k => XS.bipush X18.here hx rfl (hb hby at_60) k) ?_
  refine go _ (T18.setTop (mkF m 63 #[.val (.long q1), .second, .val (.int p1), .val (.ref b1), .unset, .unset] [(.long q1), (.int (6 : Int32)), (.ref b1)])) (fun t k => XS.lloadN X18.here hx rfl (hb hby at_62) rfl k) ?_
  refine go _ (T18.setTop (mkF m 65 #[.val (.long q1), .second, .val (.int p1), .val (.ref b1), .unset, .unset] [(.int (8 : Int32)), (.long q1), (.int (6 : Int32)), (.ref b1)])) (fun t k => XS.bipush X18.here hx rfl (hb hby at_63) k) ?_
  refine go _ (T18.setTop (mkF m 66 #[.val (.long q1), .second, .val (.int p1), .val (.ref b1), .unset, .unset] [(.long (jushrL q1 (8 : Int32))), (.int (6 : Int32)), (.ref b1)])) (fun t k => XS.lushr X18.here hx rfl (hb hby at_65) rfl k) ?_
  refine go _ (T18.setTop (mkF m 67 #[.val (.long q1), .second, .val (.int p1), .val (.ref b1), .unset, .unset] [(.int ((jushrL q1 (8 : Int32)).toInt32)), (.int (6 : Int32)), (.ref b1)])) (fun t k => XS.l2i X18.here hx rfl (hb hby at_66) rfl k) ?_
  refine go _ (T18.setTop (mkF m 68 #[.val (.long q1), .second, .val (.int p1), .val (.ref b1), .unset, .unset] [(.int (jb ((jushrL q1 (8 : Int32)).toInt32))), (.int (6 : Int32)), (.ref b1)])) (fun t k => XS.i2b X18.here hx rfl (hb hby at_67) rfl k) ?_
  obtain ⟨T21, h21, X21, e21, W21, A21, st21⟩ := own_stB X18 hx hZ e18 A18 (i := 6) (by decide) (by decide) (own_narb ((jushrL q1 (8 : Int32)).toInt32)) (g := (mkF m 68 #[.val (.long q1), .second, .val (.int p1), .val (.ref b1), .unset, .unset] [(.int (jb ((jushrL q1 (8 : Int32)).toInt32))), (.int (6 : Int32)), (.ref b1)])) rfl rfl (hb hby at_68)
  have Z22 : n0 ≤ h21.size := by rw [W21.size]; exact Z19
  have N23 := Fr.snoc X21 N20 ge_b1
  refine go _ (T21.setTop (mkF m 69 #[.val (.long q1), .second, .val (.int p1), .val (.ref b1), .unset, .unset] [])) (st21) ?_
  refine go _ (T21.setTop (mkF m 70 #[.val (.long q1), .second, .val (.int p1), .val (.ref b1), .unset, .unset] [(.ref b1)])) (fun t k => XS.aloadN X21.here hx rfl (hb hby at_69) rfl rfl k) ?_
  refine go _ (T21.setTop (mkF m 72 #[.val (.long q1), .second, .val (.int p1), .val (.ref b1), .unset, .unset] [(.int (7 : Int32)), (.ref b1)])) (fun t k => XS.bipush X21.here hx rfl (hb hby at_70) k) ?_
  refine go _ (T21.setTop (mkF m 73 #[.val (.long q1), .second, .val (.int p1), .val (.ref b1), .unset, .unset] [(.long q1), (.int (7 : Int32)), (.ref b1)])) (fun t k => XS.lloadN X21.here hx rfl (hb hby at_72) rfl k) ?_
  refine go _ (T21.setTop (mkF m 74 #[.val (.long q1), .second, .val (.int p1), .val (.ref b1), .unset, .unset] [(.int (q1.toInt32)), (.int (7 : Int32)), (.ref b1)])) (fun t k => XS.l2i X21.here hx rfl (hb hby at_73) rfl k) ?_
  refine go _ (T21.setTop (mkF m 75 #[.val (.long q1), .second, .val (.int p1), .val (.ref b1), .unset, .unset] [(.int (jb (q1.toInt32))), (.int (7 : Int32)), (.ref b1)])) (fun t k => XS.i2b X21.here hx rfl (hb hby at_74) rfl k) ?_
  obtain ⟨T24, h24, X24, e24, W24, A24, st24⟩ := own_stB X21 hx hZ e21 A21 (i := 7) (by decide) (by decide) (own_narb (q1.toInt32)) (g := (mkF m 75 #[.val (.long q1), .second, .val (.int p1), .val (.ref b1), .unset, .unset] [(.int (jb (q1.toInt32))), (.int (7 : Int32)), (.ref b1)])) rfl rfl (hb hby at_75)
  have Z25 : n0 ≤ h24.size := by rw [W24.size]; exact Z22
  have N26 := Fr.snoc X24 N23 ge_b1
  have A3 : AF Z h24 b1 .byte 8 (fun j => .int (own_byte q1 j)) := A24.congr (fun j hj => by rcases j with _ | _ | _ | _ | _ | _ | _ | _ | j <;> first | rfl | omega)
  obtain ⟨i, hi, hj, hlaw⟩ := own_law q1 p1
  refine go _ (T24.setTop (mkF m 76 #[.val (.long q1), .second, .val (.int p1), .val (.ref b1), .unset, .unset] [])) (st24) ?_
  refine go _ (T24.setTop (mkF m 77 #[.val (.long q1), .second, .val (.int p1), .val (.ref b1), .unset, .unset] [(.int p1)])) (fun t k => XS.iloadN X24.here hx rfl (hb hby at_76) rfl k) ?_
  refine go _ (T24.setTop (mkF m 79 #[.val (.long q1), .second, .val (.int p1), .val (.ref b1), .unset, .unset] [(.int (63 : Int32)), (.int p1)])) (fun t k => XS.bipush X24.here hx rfl (hb hby at_77) k) ?_
  refine go _ (T24.setTop (mkF m 80 #[.val (.long q1), .second, .val (.int p1), .val (.ref b1), .unset, .unset] [(.int (p1 &&& (63 : Int32)))])) (fun t k => XS.iand X24.here hx rfl (hb hby at_79) rfl k) ?_
  refine go _ (T24.setTop (mkF m 82 #[.val (.long q1), .second, .val (.int p1), .val (.ref b1), .val (.int (p1 &&& (63 : Int32))), .unset] [])) (fun t k => XS.istore X24.here hx rfl (hb hby at_80) rfl (l' := #[.val (.long q1), .second, .val (.int p1), .val (.ref b1), .val (.int (p1 &&& (63 : Int32))), .unset]) rfl k) ?_
  refine go _ (T24.setTop (mkF m 83 #[.val (.long q1), .second, .val (.int p1), .val (.ref b1), .val (.int (p1 &&& (63 : Int32))), .unset] [(.long q1)])) (fun t k => XS.lloadN X24.here hx rfl (hb hby at_82) rfl k) ?_
  refine go _ (T24.setTop (mkF m 85 #[.val (.long q1), .second, .val (.int p1), .val (.ref b1), .val (.int (p1 &&& (63 : Int32))), .unset] [(.int (63 : Int32)), (.long q1)])) (fun t k => XS.bipush X24.here hx rfl (hb hby at_83) k) ?_
  refine go _ (T24.setTop (mkF m 87 #[.val (.long q1), .second, .val (.int p1), .val (.ref b1), .val (.int (p1 &&& (63 : Int32))), .unset] [(.int (p1 &&& (63 : Int32))), (.int (63 : Int32)), (.long q1)])) (fun t k => XS.iload X24.here hx rfl (hb hby at_85) rfl k) ?_
  refine go _ (T24.setTop (mkF m 88 #[.val (.long q1), .second, .val (.int p1), .val (.ref b1), .val (.int (p1 &&& (63 : Int32))), .unset] [(.int ((63 : Int32) - (p1 &&& (63 : Int32)))), (.long q1)])) (fun t k => XS.isub X24.here hx rfl (hb hby at_87) rfl k) ?_
  refine go _ (T24.setTop (mkF m 89 #[.val (.long q1), .second, .val (.int p1), .val (.ref b1), .val (.int (p1 &&& (63 : Int32))), .unset] [(.long (jushrL q1 ((63 : Int32) - (p1 &&& (63 : Int32)))))])) (fun t k => XS.lushr X24.here hx rfl (hb hby at_88) rfl k) ?_
  refine go _ (T24.setTop (mkF m 90 #[.val (.long q1), .second, .val (.int p1), .val (.ref b1), .val (.int (p1 &&& (63 : Int32))), .unset] [(.long (1 : Int64)), (.long (jushrL q1 ((63 : Int32) - (p1 &&& (63 : Int32)))))])) (fun t k => XS.lconst X24.here hx rfl (hb hby at_89) k) ?_
  refine go _ (T24.setTop (mkF m 91 #[.val (.long q1), .second, .val (.int p1), .val (.ref b1), .val (.int (p1 &&& (63 : Int32))), .unset] [(.long ((jushrL q1 ((63 : Int32) - (p1 &&& (63 : Int32)))) &&& (1 : Int64)))])) (fun t k => XS.land X24.here hx rfl (hb hby at_90) rfl k) ?_
  refine go _ (T24.setTop (mkF m 92 #[.val (.long q1), .second, .val (.int p1), .val (.ref b1), .val (.int (p1 &&& (63 : Int32))), .unset] [(.int (((jushrL q1 ((63 : Int32) - (p1 &&& (63 : Int32)))) &&& (1 : Int64)).toInt32))])) (fun t k => XS.l2i X24.here hx rfl (hb hby at_91) rfl k) ?_
  refine go _ (T24.setTop (mkF m 94 #[.val (.long q1), .second, .val (.int p1), .val (.ref b1), .val (.int (p1 &&& (63 : Int32))), .val (.int (v_rm0_0 q1 p1))] [])) (fun t k => XS.istore X24.here hx rfl (hb hby at_92) rfl (l' := #[.val (.long q1), .second, .val (.int p1), .val (.ref b1), .val (.int (p1 &&& (63 : Int32))), .val (.int (v_rm0_0 q1 p1))]) rfl k) ?_
  refine go _ (T24.setTop (mkF m 95 #[.val (.long q1), .second, .val (.int p1), .val (.ref b1), .val (.int (p1 &&& (63 : Int32))), .val (.int (v_rm0_0 q1 p1))] [(.ref b1)])) (fun t k => XS.aloadN X24.here hx rfl (hb hby at_94) rfl rfl k) ?_
  refine go _ (T24.setTop (mkF m 97 #[.val (.long q1), .second, .val (.int p1), .val (.ref b1), .val (.int (p1 &&& (63 : Int32))), .val (.int (v_rm0_0 q1 p1))] [(.int (p1 &&& (63 : Int32))), (.ref b1)])) (fun t k => XS.iload X24.here hx rfl (hb hby at_95) rfl k) ?_
  obtain ⟨_, _, ⟨T27, L27, k27, n27⟩, -, X27, ⟨Lc27, hQ27, l27, y27, z27⟩, st27⟩ := Jvm.LawKit.callS X24 hx (y := (⟨"formlet/Display", "bit", "([BI)I"⟩ : MethodName)) hown (mvT hZ (hw _ (List.mem_of_getElem? (i := 1) rfl))) (mvT hZ (hw _ (List.mem_of_getElem? (i := 2) rfl))) (mvT hZ (hw _ (List.mem_of_getElem? (i := 3) rfl))) (mvT hZ (hw _ (List.mem_of_getElem? (i := 4) rfl))) (by decide) (backOf (W := 0) (rm1 l Z a0 hw [] b1 (p1 &&& (63 : Int32)) (own_byte q1) 8 i h24 n0 Z25 A3 hj hi) hZ (hw _ (List.mem_of_getElem? (i := 4) rfl)) (hw _ (List.mem_of_getElem? (i := 3) rfl)) (by decide) (by decide)) (g := (mkF m 97 #[.val (.long q1), .second, .val (.int p1), .val (.ref b1), .val (.int (p1 &&& (63 : Int32))), .val (.int (v_rm0_0 q1 p1))] [(.int (p1 &&& (63 : Int32))), (.ref b1)])) rfl (by rw [hml]; rfl) (argsL := [(.ref b1), (.int (p1 &&& (63 : Int32)))]) (rest := []) (lenOf pd_1 rfl) rfl (by show 2 * 0 + _ ≤ _; exact Nat.le_of_eq rfl) (hb hby at_97) (fun _ _ => ⟨rfl, e24, (by decide : 0 + 1 + 0 ≤ _), (by decide : 0 + 8 + 0 ≤ _)⟩)
  dsimp only [Pt.U, Pt.locs, Pt.cells, Pt.slots] at X27 l27 y27 z27 st27 hQ27
  subst l27 y27 z27
  obtain ⟨rfl, Nq27, hh27⟩ := hQ27
  have N28 := Fr.app N26 Nq27
  refine go _ (T27.setTop (mkF m 100 #[.val (.long q1), .second, .val (.int p1), .val (.ref b1), .val (.int (p1 &&& (63 : Int32))), .val (.int (v_rm0_0 q1 p1))] [(.int (jshr (own_byte q1 i) ((7 : Int32) - ((p1 &&& (63 : Int32)) &&& (7 : Int32))) &&& (1 : Int32)))])) (st27) ?_
  refine go _ (T27.setTop (mkF m 102 #[.val (.long q1), .second, .val (.int p1), .val (.ref b1), .val (.int (p1 &&& (63 : Int32))), .val (.int (v_rm0_0 q1 p1))] [(.int (v_rm0_0 q1 p1)), (.int (jshr (own_byte q1 i) ((7 : Int32) - ((p1 &&& (63 : Int32)) &&& (7 : Int32))) &&& (1 : Int32)))])) (fun t k => XS.iload X27.here hx rfl (hb hby at_100) rfl k) ?_
  have hc29 : ((jshr (own_byte q1 i) ((7 : Int32) - ((p1 &&& (63 : Int32)) &&& (7 : Int32))) &&& (1 : Int32)) = (v_rm0_0 q1 p1)) := hlaw
  refine go _ (T27.setTop (mkF m 105 #[.val (.long q1), .second, .val (.int p1), .val (.ref b1), .val (.int (p1 &&& (63 : Int32))), .val (.int (v_rm0_0 q1 p1))] [])) (fun t k => XS.icmpNo X27.here hx rfl (hb hby at_102) rfl (teq hc29).2 k) ?_
  refine go _ (T27.setTop (mkF m 106 #[.val (.long q1), .second, .val (.int p1), .val (.ref b1), .val (.int (p1 &&& (63 : Int32))), .val (.int (v_rm0_0 q1 p1))] [(.int (1 : Int32))])) (fun t k => XS.iconst X27.here hx rfl (hb hby at_105) k) ?_
  refine go _ (T27.setTop (mkF m 110 #[.val (.long q1), .second, .val (.int p1), .val (.ref b1), .val (.int (p1 &&& (63 : Int32))), .val (.int (v_rm0_0 q1 p1))] [(.int (1 : Int32))])) (fun t k => XS.goto X27.here hx rfl (pc0 := 106) (pc' := 110) rfl (hb hby at_106) (by decide) (by decide) k) ?_
  exact fin (some (.int (1 : Int32))) X27 (by decide) (by decide) (fun q => by cases q) (show Q_rm0 Z q1 p1 h0 n0 _ T27.heap _ from (by rw [hh27]; exact ⟨rfl, N28⟩)) (fun fs hr => retN X27 hx (t := .boolean) hret (by simp) (hb hby at_110) hr)
set_option maxRecDepth 65536 in
set_option maxHeartbeats 40000000 in
theorem comes_1 {Post : Tables → Env → Array Value → State → Outcome → State → Prop} (hpost : ∀ tb e args s v u, (limb_1_1.after args s (.returned v) u = true ∧ limb_1_2.after args s (.returned v) u = true ∧ True) → FrameEnd s (.returned v) u (Jvm.fieldLocs frame_1_writes args s ++ Jvm.arrayLocs frame_1_arrays args s ++ Jvm.staticLocs frame_1_statics s) 16 128 → Post tb e args s (.returned v) u) :
    ArmFor flags0 classFile x code maxLocals ret World_1 tables_1 room_1 Calls_1 rest_1 Pre_1 Post := by
  intro l hfl _ _ p e ha hc hk s m args below hf hA hF happ hP
  obtain ⟨hcalls, hrest, hpre⟩ := hP
  obtain ⟨-, -, -, hnamed, -, -, -, hat⟩ := (Spec.applies_iff hf).mp happ
  obtain ⟨hg, hn⟩ := and_e (Cond.before_iff.mp (show (Jvm.Cond.and given_1 narrow_1).before args s = true from hpre))
  obtain ⟨gc, g1⟩ := and_e hg
  obtain ⟨ga0, g2⟩ := and_e g1
  have ga1 := g2
  obtain ⟨w0, w1, rfl⟩ : ∃ w0 w1 : Value, args = #[w0, w1] := by
    have hs : args.size = 2 := by simpa [Cond.value, given_1] using gc
    obtain ⟨L⟩ := args
    match L, hs with
    | [w0, w1], _ => exact ⟨w0, w1, rfl⟩
  have hw := fun d (hd : d ∈ tables_1) => atoms_spec (ws := Jvm.Cond.code x code maxLocals ret :: tables_1) hat d (List.mem_cons_of_mem _ hd)
  obtain ⟨i0, ei0⟩ := isL_v ga0
  obtain rfl : w0 = (.long i0) := Option.some.inj ei0
  obtain ⟨i1, ei1⟩ := is_v ga1
  obtain rfl : w1 = (.int i1) := Option.some.inj ei1
  obtain ⟨n, o, h1, h2, h3, _, L, rfl, ⟨rfl, N⟩, hq⟩ := rm0 l s _ hw tables_1 i0 i1 s.heap s.heap.size (Nat.le_refl _) p e ha hc hk s m _ below hf ((Spec.applies_iff_loose hf).mp happ).1 ⟨rfl, State.Warmed39.refl s, rfl⟩ trivial
  refine ⟨n, _, h1, h2, h3, hpost _ _ _ _ _ _ ⟨Cond.after_iff.mpr rfl, Cond.after_iff.mpr (eq_i res_at (Term.int_eval (1)) rfl), trivial⟩ ⟨hq.1, hq.2.1, (hq.2.2.sift fun y hy => Or.inr (N y hy)).mono (by decide) (by decide)⟩⟩
theorem main_1_1 : Claimed_1_1 := comes_1 fun _ _ _ _ _ _ h hF => ⟨h.1, hF⟩
theorem main_1_2 : Claimed_1_2 := comes_1 fun _ _ _ _ _ _ h hF => ⟨h.2.1, hF⟩
end Jvm.Pilot.@@N@@
namespace Jvm.Pilot.@@N@@
open Jvm Jvm.ClassFile Sem Op Lib Jvm.Free Jvm.Stand Jvm.Pilot.@@N@@.Jvm.D
/-! MADE BY PROGRAM (witnessworld.py) out of the Statement's table words and the real class files: 11 classes; the members and pool entries that the words name. The judged class is class 1, her method 1. -/
namespace start1
open Jvm.ClassFile
def u (s : String) : CpInfo := .utf8 (stringToUtf16 s)
/-- a pool by its gaps: so many unusable entries, then the entry; so many at the end -/
def gap : Nat → List CpInfo → List CpInfo
  | 0, r => r
  | n + 1, r => .unusable :: gap n r
def poolList (es : List (Nat × CpInfo)) (last : Nat) : List CpInfo := es.foldr (fun e r => gap e.1 (e.2 :: r)) (gap last [])
def pool (es : List (Nat × CpInfo)) (last : Nat) : Array CpInfo := ⟨poolList es last⟩
def fileOf (pool : Array CpInfo) (this : Nat) (attrs : Array Attribute := #[]) (ms : Array MethodInfo := #[]) (fl : Nat := 33) (sup : Nat := 0) (ifs : Array Nat := #[]) (fds : Array FieldInfo := #[]) : ClassFile where
  minorVersion := 0
  majorVersion := 65
  constantPool := pool
  accessFlags := fl
  thisClass := this
  superClass := sup
  interfaces := ifs
  fields := fds
  methods := ms
  attributes := attrs
def plain (name : String) (sup : Option ClassId) : Class where
  name := name
  kind := .ordinary
  loader := none
  accessFlags := 33
  super := sup
  interfaces := #[]
  cf := none
  fields := #[]
  methods := #[]
  instanceTypes := #[]
  staticTypes := #[]
  resolved := #[]
  callSites := []
  init := .initialized
  statics := none
  mirror := none

def pool0 : Array CpInfo := pool [(5, u "<init>"), (0, u "()V"), (1, .class_ 10), (1, u "java/lang/Object")] 113

def k0m0 : Method := { name := "<init>", desc := "()V", sig := { parameters := [], returnType := none }, accessFlags := 1, code := none }
/-- java/lang/Object -/
def k0 : Class := { plain "java/lang/Object" none with
  accessFlags := 33
  interfaces := #[]
  cf := some (fileOf pool0 8 #[] #[{ accessFlags := 1, nameIndex := 5, descriptorIndex := 6, attributes := #[] }] 33 0 #[] #[])
  fields := #[]
  methods := #[k0m0]
  instanceTypes := #[]
  staticTypes := #[]
  resolved := Array.replicate 124 none
  statics := none }

def pool1 : Array CpInfo := pool [(2, .class_ 4), (1, u "java/lang/Object"), (0, u "<init>"), (0, u "()V"), (0, .methodref 8 9), (0, .class_ 10), (0, .nameAndType 11 12), (0, u "formlet/Display"), (0, u "bit"), (0, u "([BI)I"), (0, .class_ 14), (0, u "formlet/DisplayBitPinLaw"), (2, u "law"), (0, u "(JI)Z")] 5

def k1m0 : Method := { name := "<init>", desc := "()V", sig := { parameters := [], returnType := none }, accessFlags := 1, code := none }
def k1c1 : Code := { maxStack := 5, maxLocals := 6, code := code, exceptionTable := #[], attributes := #[] }
def k1m1 : Method := { name := "law", desc := "(JI)Z", sig := { parameters := [.long, .int], returnType := some .boolean }, accessFlags := 9, code := some k1c1 }
/-- formlet/DisplayBitPinLaw -/
def k1 : Class := { plain "formlet/DisplayBitPinLaw" (some 0) with
  accessFlags := 49
  interfaces := #[]
  cf := some (fileOf pool1 13 #[] #[{ accessFlags := 1, nameIndex := 5, descriptorIndex := 6, attributes := #[] }, { accessFlags := 9, nameIndex := 17, descriptorIndex := 18, attributes := #[] }] 49 2 #[] #[])
  fields := #[]
  methods := #[k1m0, k1m1]
  instanceTypes := #[]
  staticTypes := #[]
  resolved := Array.replicate 24 none
  statics := none }

def pool2 : Array CpInfo := pool [(1, .class_ 2), (0, u "java/lang/AutoCloseable"), (0, .class_ 4), (0, u "java/lang/Object")] 7

/-- java/lang/AutoCloseable -/
def k2 : Class := { plain "java/lang/AutoCloseable" (some 0) with
  accessFlags := 1537
  interfaces := #[]
  cf := some (fileOf pool2 1 #[] #[] 1537 3 #[] #[])
  fields := #[]
  methods := #[]
  instanceTypes := #[]
  staticTypes := #[]
  resolved := Array.replicate 12 none
  statics := none }

def pool3 : Array CpInfo := pool [(1, .class_ 2), (0, u "formlet/Listener"), (0, .class_ 4), (0, u "java/lang/Object")] 6

/-- formlet/Listener -/
def k3 : Class := { plain "formlet/Listener" (some 0) with
  accessFlags := 1537
  interfaces := #[]
  cf := some (fileOf pool3 1 #[] #[] 1537 3 #[] #[])
  fields := #[]
  methods := #[]
  instanceTypes := #[]
  staticTypes := #[]
  resolved := Array.replicate 11 none
  statics := none }

def pool4 : Array CpInfo := pool [(2, .class_ 4), (1, u "java/lang/Object"), (6, .class_ 13), (1, u "formlet/Display"), (0, u "flushing"), (0, u "Ljava/lang/ThreadLocal;"), (2, u "width"), (0, u "I"), (2, u "height"), (2, u "format"), (0, u "Lformlet/PixelFormat;"), (7, u "pump"), (0, u "Lformlet/EventPump;"), (2, u "rowBytes"), (5, u "pixels"), (0, u "[B"), (12, u "framebuffer"), (0, u "Ljava/nio/ByteBuffer;"), (49, u "FIRST"), (0, u "Ljava/util/concurrent/atomic/AtomicReference;"), (24, u "flushListener"), (0, u "Lformlet/FlushListener;"), (4, u "errorHook"), (0, u "Ljava/util/function/Consumer;"), (9, u "changedLeft"), (2, u "changedRight"), (2, u "changedTop"), (2, u "changedBottom"), (199, u "([BI)I"), (17, u "bit"), (12, .class_ 393), (0, u "java/lang/AutoCloseable"), (0, .class_ 395), (0, u "formlet/Listener"), (0, u "MAX_SIZE"), (2, u "DEFAULT_QUEUE_CAPACITY"), (1, u "DEFAULT_TIME_BUDGET"), (1, u "MONO_ROWS"), (1, u "MONO_PAGES"), (1, u "RGB565_HIGH_FIRST"), (1, u "RGB565_LOW_FIRST"), (1, u "RGB_BYTES"), (3, u "END")] 65

def k4c0 : Code := { maxStack := 4, maxLocals := 2, code := prog_4_method_59_code, exceptionTable := #[], attributes := #[] }
def k4m0 : Method := { name := "bit", desc := "([BI)I", sig := { parameters := [(.array .byte), .int], returnType := some .int }, accessFlags := 8, code := some k4c0 }
/-- formlet/Display -/
def k4 : Class := { plain "formlet/Display" (some 0) with
  accessFlags := 49
  interfaces := #[2, 3]
  cf := some (fileOf pool4 11 #[] #[{ accessFlags := 8, nameIndex := 379, descriptorIndex := 361, attributes := #[] }] 49 2 #[392, 394] #[{ accessFlags := 25, nameIndex := 396, descriptorIndex := 19, attributes := #[] }, { accessFlags := 25, nameIndex := 399, descriptorIndex := 19, attributes := #[] }, { accessFlags := 25, nameIndex := 401, descriptorIndex := 19, attributes := #[] }, { accessFlags := 25, nameIndex := 403, descriptorIndex := 19, attributes := #[] }, { accessFlags := 25, nameIndex := 405, descriptorIndex := 19, attributes := #[] }, { accessFlags := 25, nameIndex := 407, descriptorIndex := 19, attributes := #[] }, { accessFlags := 25, nameIndex := 409, descriptorIndex := 19, attributes := #[] }, { accessFlags := 25, nameIndex := 411, descriptorIndex := 19, attributes := #[] }, { accessFlags := 26, nameIndex := 109, descriptorIndex := 110, attributes := #[] }, { accessFlags := 26, nameIndex := 415, descriptorIndex := 19, attributes := #[] }, { accessFlags := 18, nameIndex := 18, descriptorIndex := 19, attributes := #[] }, { accessFlags := 18, nameIndex := 22, descriptorIndex := 19, attributes := #[] }, { accessFlags := 18, nameIndex := 25, descriptorIndex := 26, attributes := #[] }, { accessFlags := 18, nameIndex := 44, descriptorIndex := 45, attributes := #[] }, { accessFlags := 18, nameIndex := 38, descriptorIndex := 19, attributes := #[] }, { accessFlags := 18, nameIndex := 58, descriptorIndex := 59, attributes := #[] }, { accessFlags := 16, nameIndex := 34, descriptorIndex := 35, attributes := #[] }, { accessFlags := 66, nameIndex := 135, descriptorIndex := 136, attributes := #[] }, { accessFlags := 18, nameIndex := 14, descriptorIndex := 15, attributes := #[] }, { accessFlags := 2, nameIndex := 152, descriptorIndex := 19, attributes := #[] }, { accessFlags := 2, nameIndex := 158, descriptorIndex := 19, attributes := #[] }, { accessFlags := 2, nameIndex := 155, descriptorIndex := 19, attributes := #[] }, { accessFlags := 2, nameIndex := 161, descriptorIndex := 19, attributes := #[] }, { accessFlags := 66, nameIndex := 141, descriptorIndex := 142, attributes := #[] }])
  fields := #[{ name := "MAX_SIZE", type := .int, accessFlags := 25, slot := 0, constantValue := 0 }, { name := "DEFAULT_QUEUE_CAPACITY", type := .int, accessFlags := 25, slot := 1, constantValue := 0 }, { name := "DEFAULT_TIME_BUDGET", type := .int, accessFlags := 25, slot := 2, constantValue := 0 }, { name := "MONO_ROWS", type := .int, accessFlags := 25, slot := 3, constantValue := 0 }, { name := "MONO_PAGES", type := .int, accessFlags := 25, slot := 4, constantValue := 0 }, { name := "RGB565_HIGH_FIRST", type := .int, accessFlags := 25, slot := 5, constantValue := 0 }, { name := "RGB565_LOW_FIRST", type := .int, accessFlags := 25, slot := 6, constantValue := 0 }, { name := "RGB_BYTES", type := .int, accessFlags := 25, slot := 7, constantValue := 0 }, { name := "FIRST", type := (.object "java/util/concurrent/atomic/AtomicReference"), accessFlags := 26, slot := 8, constantValue := 0 }, { name := "END", type := .int, accessFlags := 26, slot := 9, constantValue := 0 }, { name := "width", type := .int, accessFlags := 18, slot := 0, constantValue := 0 }, { name := "height", type := .int, accessFlags := 18, slot := 1, constantValue := 0 }, { name := "format", type := (.object "formlet/PixelFormat"), accessFlags := 18, slot := 2, constantValue := 0 }, { name := "pixels", type := (.array .byte), accessFlags := 18, slot := 3, constantValue := 0 }, { name := "rowBytes", type := .int, accessFlags := 18, slot := 4, constantValue := 0 }, { name := "framebuffer", type := (.object "java/nio/ByteBuffer"), accessFlags := 18, slot := 5, constantValue := 0 }, { name := "pump", type := (.object "formlet/EventPump"), accessFlags := 16, slot := 6, constantValue := 0 }, { name := "flushListener", type := (.object "formlet/FlushListener"), accessFlags := 66, slot := 7, constantValue := 0 }, { name := "flushing", type := (.object "java/lang/ThreadLocal"), accessFlags := 18, slot := 8, constantValue := 0 }, { name := "changedLeft", type := .int, accessFlags := 2, slot := 9, constantValue := 0 }, { name := "changedTop", type := .int, accessFlags := 2, slot := 10, constantValue := 0 }, { name := "changedRight", type := .int, accessFlags := 2, slot := 11, constantValue := 0 }, { name := "changedBottom", type := .int, accessFlags := 2, slot := 12, constantValue := 0 }, { name := "errorHook", type := (.object "java/util/function/Consumer"), accessFlags := 66, slot := 13, constantValue := 0 }]
  methods := #[k4m0]
  instanceTypes := #[.int, .int, (.object "formlet/PixelFormat"), (.array .byte), .int, (.object "java/nio/ByteBuffer"), (.object "formlet/EventPump"), (.object "formlet/FlushListener"), (.object "java/lang/ThreadLocal"), .int, .int, .int, .int, (.object "java/util/function/Consumer")]
  staticTypes := #[.int, .int, .int, .int, .int, .int, .int, .int, (.object "java/util/concurrent/atomic/AtomicReference"), .int]
  resolved := Array.replicate 481 none
  statics := none }

def pool5 : Array CpInfo := pool [(1, u "java/lang/Cloneable"), (0, .class_ 1), (0, u "java/lang/Object"), (0, .class_ 3)] 3

/-- java/lang/Cloneable -/
def k5 : Class := { plain "java/lang/Cloneable" (some 0) with
  accessFlags := 1537
  interfaces := #[]
  cf := some (fileOf pool5 2 #[] #[] 1537 4 #[] #[])
  fields := #[]
  methods := #[]
  instanceTypes := #[]
  staticTypes := #[]
  resolved := Array.replicate 8 none
  statics := none }

def pool6 : Array CpInfo := pool [(1, u "java/io/Serializable"), (0, .class_ 1), (0, u "java/lang/Object"), (0, .class_ 3)] 3

/-- java/io/Serializable -/
def k6 : Class := { plain "java/io/Serializable" (some 0) with
  accessFlags := 1537
  interfaces := #[]
  cf := some (fileOf pool6 2 #[] #[] 1537 4 #[] #[])
  fields := #[]
  methods := #[]
  instanceTypes := #[]
  staticTypes := #[]
  resolved := Array.replicate 8 none
  statics := none }

/-- the primitive byte -/
def k7 : Class := { plain "byte" none with kind := .primitive 'B', accessFlags := 0x411 }
/-- [B -/
def k8 : Class := { plain "[B" (some 0) with kind := .array 7 .byte, interfaces := #[5, 6], accessFlags := 1041 }

/-- the primitive int -/
def k9 : Class := { plain "int" none with kind := .primitive 'I', accessFlags := 0x411 }
/-- [I -/
def k10 : Class := { plain "[I" (some 0) with kind := .array 9 .int, interfaces := #[5, 6], accessFlags := 1041 }

def heap : Heap := #[]
def classes : Array Class := #[k0, k1, k2, k3, k4, k5, k6, k7, k8, k9, k10]
def interned : List (Array UInt16 × Addr) := []
def slotsUsed : Nat := 0
def theMethod : MethodId := ⟨1, 1⟩
def args0 : Array Value := #[.long 5, .int 61]
def aboutOver (below : List Frame) : State where
  vm := { classes := classes, interned := interned.toArray }
  heap := heap
  slotsUsed := slotsUsed
  threads := #[{ frames := .invoking theMethod args0 :: below }]
def below0 : List Frame := [.native { method := ⟨0, 0⟩, args := #[] }]
def about1 : State := aboutOver below0
def p0 : Program := .bare "" "" ""
def e0 : Env := launch0.env 0 0 0
theorem w_frames : about1.frames = Frame.invoking theMethod args0 :: below0 := rfl
set_option maxRecDepth 65536 in
theorem w_args : argsFit about1.vm theMethod args0 = true := by decide +kernel
set_option maxRecDepth 65536 in
theorem w_heap : heapFits about1 = true := by decide +kernel
set_option maxRecDepth 65536 in
theorem w_runnable : about1.curStatus? = some .runnable := by decide +kernel
set_option maxRecDepth 65536 in
theorem w_alone : about1.alone = true := by decide +kernel
set_option maxRecDepth 65536 in
theorem w_named : about1.methodNamed? x = some theMethod := by decide +kernel
set_option maxRecDepth 65536 in
theorem w_hears : about1.hears theMethod below0 = true := by decide +kernel
set_option maxRecDepth 65536 in
theorem w_ripe : about1.ripe theMethod args0 below0 = true := by decide +kernel
theorem w_running : about1.status = .running := rfl
set_option maxRecDepth 65536 in
theorem w_room : about1.hasRoom e0.platform room_1 = true :=
  launch0.hasRoom_least _ room_1 (by decide +kernel) (by decide +kernel) (by decide +kernel) (by decide +kernel) (by decide +kernel) (by decide +kernel)
theorem allAtoms_all (ts : List Jvm.Cond) (a : Array Jvm.Value) (st : Jvm.State) : (allAtoms ts).before a st = ts.all (fun c => c.before a st) := by
  induction ts with
  | nil => rfl
  | cons c t ih =>
    show (Jvm.Cond.and c (allAtoms t)).before a st = _
    rw [Jvm.Cond.before_and, ih, List.all_cons]
def words1 : List Jvm.Cond := Jvm.Cond.code x code maxLocals ret :: tables_1
/-- a 'code' word, met by the world's own term for the bytes: nothing is compared byte by byte -/
theorem code_word {y : MethodName} {bytes : ByteArray} {mx : Nat} {rt : Option FieldType} {a : Array Value} {s : State} {m : MethodId} {meth : Method} {c : Code} (h1 : s.methodNamed? y = some m) (h2 : s.vm.method? m = some meth) (h3 : meth.code = some c) (h4 : c.code = bytes)
    (h5 : (c.maxLocals == mx && c.exceptionTable.isEmpty && decide (c.maxStack ≤ mostOperands) && decide (meth.sig.returnType = rt) && !meth.locks && decide (parseMethodDescriptor y.desc = some meth.sig)) = true) : (Jvm.Cond.code y bytes mx rt).before a s = true := by
  simp only [Bool.and_eq_true, beq_iff_eq, Bool.not_eq_true', decide_eq_true_eq] at h5
  obtain ⟨⟨⟨⟨⟨g1, g2⟩, g3⟩, g4⟩, g5⟩, g6⟩ := h5
  simp [Cond.before, Cond.holds, Cond.value, h1, h2, h3, h4, g1, g2, g3, g4, g5, g6]
def isCode : Jvm.Cond → Bool
  | .code _ _ _ _ => true
  | _ => false
theorem all_split {L : List Jvm.Cond} {P : Jvm.Cond → Bool} (h1 : L.all (fun c => isCode c || P c) = true) (h2 : ∀ c ∈ L.filter isCode, P c = true) : L.all P = true := by
  refine List.all_eq_true.mpr fun c hc => ?_
  have h := List.all_eq_true.mp h1 c hc
  rcases Bool.eq_false_or_eq_true (isCode c) with hi | hi
  · exact h2 c (List.mem_filter.mpr ⟨hc, hi⟩)
  · simpa [hi] using h
set_option maxRecDepth 65536 in
theorem w_c0 : (Jvm.Cond.code x code maxLocals ret).before args0 about1 = true := code_word (m := ⟨1, 1⟩) (meth := k1m1) (c := k1c1) (by decide +kernel) rfl rfl rfl (by decide +kernel)
set_option maxRecDepth 65536 in
theorem w_c1 : (Jvm.Cond.code ({ cls := "formlet/Display", name := "bit", desc := "([BI)I" } : Jvm.MethodName) prog_4_method_59_code (2 : Nat) (Option.some Jvm.ClassFile.FieldType.int)).before args0 about1 = true := code_word (m := ⟨4, 0⟩) (meth := k4m0) (c := k4c0) (by decide +kernel) rfl rfl rfl (by decide +kernel)
def codes1 : List Jvm.Cond := [Jvm.Cond.code x code maxLocals ret, Jvm.Cond.code ({ cls := "formlet/Display", name := "bit", desc := "([BI)I" } : Jvm.MethodName) prog_4_method_59_code (2 : Nat) (Option.some Jvm.ClassFile.FieldType.int)]
set_option maxRecDepth 65536 in
theorem codes_eq : words1.filter isCode = codes1 := rfl
theorem w_codes : ∀ c ∈ words1.filter isCode, c.before args0 about1 = true := by
  rw [codes_eq]
  intro c hc
  simp only [codes1, List.mem_cons, List.not_mem_nil, or_false] at hc
  rcases hc with rfl | rfl
  · exact w_c0
  · exact w_c1
set_option maxRecDepth 65536 in
theorem w_t1 : words1.all (fun c => isCode c || c.before args0 about1) = true := by decide +kernel
theorem w_tables : (allAtoms (Jvm.Cond.code x code maxLocals ret :: tables_1)).before args0 about1 = true := by
  rw [allAtoms_all]
  show words1.all (fun c => c.before args0 about1) = true
  refine all_split ?_ w_codes
  rw [w_t1]
set_option maxRecDepth 65536 in
theorem w_case : (Jvm.Cond.and given_1 narrow_1).before args0 about1 = true := by decide +kernel
theorem w_applies : (headSpec (Jvm.Cond.code x code maxLocals ret :: tables_1) room_1).applies x e0.platform about1 = true :=
  (Spec.applies_iff w_frames).mpr ⟨w_running, w_runnable, w_alone, w_named, w_hears, w_ripe, w_room, w_tables⟩
theorem atStart : AtStart classFile x code maxLocals ret World_1 tables_1 room_1 Calls_1 rest_1 Pre_1 launch0 p0 e0 about1 theMethod args0 below0 :=
  ⟨lists_1, trivial, launch0.admits_env _ _ _, launch0.least_env, fairChoices_fair.cas, fairChoices_fair.clock, w_frames, w_args, w_heap, w_applies, trivial, trivial, w_case⟩
end start1
theorem witness_1 : WitnessClaimed_1 := ⟨start1.p0, start1.e0, start1.about1, start1.theMethod, start1.args0, start1.below0, start1.atStart⟩
end Jvm.Pilot.@@N@@
