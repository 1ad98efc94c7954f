import JvmDerived
import JvmDerived.Pilot.@@N@@Statement
import JvmDerived.Pilot.@@N@@Code
set_option linter.unusedVariables false
set_option linter.unusedSimpArgs false
namespace Jvm.RoadKit
open Sem ClassFile Op Lib Jvm.Stand Jvm.Free Jvm.LawKit
section New
variable {p : Program} {l : Launch} {e : Env} {R : Room} {s : State} {m : MethodId} {args : Array Value} {below : List Frame} {meth : Method} {c : Code} {T : State} {locs : List Loc} {cells slots : Nat}
theorem retI (X : Stand p l e R s m args below meth c T locs cells slots) (hx : p.tables.exec = Jvm.exec) {pc : Nat} {Ls : Array Slot} {z : Int32} {rest : List Value} (hret : meth.sig.returnType = some .int) (hd : decode c.code pc = .ok (.ireturn, 1)) {fs : List Frame}
    (hl : ∀ (f : JFrame) (acts : List Action), f.method = m → f.locked = none → f.entered = [] → (doReturn e (T.setTop f) acts (some (.int z))).1 = T.setFrames fs) : Steps p.tables e below (T.setTop (mkF m pc Ls (.int z :: rest))) (T.setFrames fs) := by
  have hm' : T.vm.method? m = some meth := X.method'
  have hn : narrow .int (.int z) = .int z := rfl
  show Steps p.tables e below (T.setTop { method := m, pc := pc, locals := Ls, stack := _ :: rest, locked := none }) _
  jvm_step X.here [X.here.top, hx, hd, hm', hret, hn]
  first | (intro acts; rw [hl _ acts rfl rfl rfl]) | rw [hl _ _ rfl rfl rfl]
  exact Steps.refl _
theorem retJ (X : Stand p l e R s m args below meth c T locs cells slots) (hx : p.tables.exec = Jvm.exec) {pc : Nat} {Ls : Array Slot} {z : Int64} {rest : List Value} (hret : meth.sig.returnType = some .long) (hd : decode c.code pc = .ok (.lreturn, 1)) {fs : List Frame}
    (hl : ∀ (f : JFrame) (acts : List Action), f.method = m → f.locked = none → f.entered = [] → (doReturn e (T.setTop f) acts (some (.long z))).1 = T.setFrames fs) : Steps p.tables e below (T.setTop (mkF m pc Ls (.long z :: rest))) (T.setFrames fs) :=
  retOut X hx hret rfl (Or.inr (Or.inl ⟨rfl, rfl, z, rfl⟩)) hd hl
theorem retA (X : Stand p l e R s m args below meth c T locs cells slots) (hx : p.tables.exec = Jvm.exec) {pc : Nat} {Ls : Array Slot} {a : Addr} {t : FieldType} {rest : List Value} (hret : meth.sig.returnType = some t) (ht : t.isReference = true) (hd : decode c.code pc = .ok (.areturn, 1)) {fs : List Frame}
    (hl : ∀ (f : JFrame) (acts : List Action), f.method = m → f.locked = none → f.entered = [] → (doReturn e (T.setTop f) acts (some (.ref a))).1 = T.setFrames fs) : Steps p.tables e below (T.setTop (mkF m pc Ls (.ref a :: rest))) (T.setFrames fs) :=
  retOut X hx hret (by cases t <;> first | rfl | (simp [FieldType.isReference] at ht)) (Or.inr (Or.inr (Or.inr (Or.inr ⟨rfl, ht, rfl⟩)))) hd hl
end New
end Jvm.RoadKit
namespace Jvm.Pilot.@@N@@
open Jvm Jvm.ClassFile Sem Op Lib Jvm.Free Jvm.Stand Jvm.LawKit Jvm.RoadKit Bundle Jvm.Pilot.@@N@@.Jvm.D
section OwnKit
variable {p : Program} {l : Launch} {e : Env} {R : Room} {s : State} {m : MethodId} {args : Array Value} {below : List Frame} {meth : Method} {c : Code} {T : State} {locs : List Loc} {cells slots : Nat} {Z : State} {h h' : Heap}
/-- one body's contract, with the walk's goal as a closed predicate K: 'go' takes a step, 'fin' leaves the method -/
theorem own_body {y : MethodName} {bytes : ByteArray} {maxL : Nat} {ret : Option FieldType} {ws : List Jvm.Cond} {rm : Room} {h0 : Heap} {Q : Option Value → Heap → List Loc → Prop} (hp : plainFor y = true)
    (body : ∀ (p : Program) (e : Env) (s : State) (m : MethodId) (below : List Frame) (meth : Method) (c : Code) (s₁ : State) (K : State → Prop),
      (∀ U U', (∀ t, Steps p.tables e below U' t → Steps p.tables e below U t) → K U' → K U) →
      (∀ {T : State} {locs : List Loc} {cells slots : Nat} {g : JFrame} (v : Option Value), Stand p l e rm s m args below meth c T locs cells slots → cells ≤ rm.cells → slots ≤ rm.slots → (ret = none → v = none) → Q v T.heap locs →
        (∀ fs, (∀ (f : JFrame) (acts : List Action), f.method = m → f.locked = none → f.entered = [] → (doReturn e (T.setTop f) acts v).1 = T.setFrames fs) → Steps p.tables e below (T.setTop g) (T.setFrames fs)) → K (T.setTop g)) →
      Stand p l e rm s m args below meth c s₁ [] 0 0 → p.tables.exec = Jvm.exec → c.code = bytes → c.maxLocals = maxL → s.vm.findClass y.cls = some m.cls → meth.name = y.name → meth.sig.returnType = ret → Z.Warmed39 s.vm → s₁.heap = h0 → K (s₁.setTop (entryFrame m args maxL))) :
    MetFree l y (head1 (Jvm.Cond.code y bytes maxL ret :: ws) rm) (fun a U => a = args ∧ Z.Warmed39 U.vm ∧ U.heap = h0) (fun _ _ _ _ _ => True) (fun _ U o U' => ∃ v L, o = .returned v ∧ Q v U'.heap L ∧ FrameEnd U o U' L rm.cells rm.slots) := by
  refine MetFree.of_bodySF hp hisR ?_
  intro p e s m args' below meth c s₁ Bd hml hP hK
  obtain ⟨rfl, hZ, hh⟩ := hP
  refine body p e s m below meth c s₁ (fun U => ∃ s₂ o, Steps p.tables e below U s₂ ∧ s₂.status = .running ∧ Ended s₂ below o ∧ ∃ v L, o = .returned v ∧ Q v s₂.heap L ∧ FrameEnd s o s₂ L rm.cells rm.slots) ?_ ?_ (Stand.of_body Bd) Bd.exec Bd.bytes hml (findClass_of_methodNamed Bd.named) (name_of_methodNamed Bd.named Bd.method).1 Bd.returns hZ (by rw [← hh, Bd.state]; rfl)
  · rintro U U' st ⟨s₂, o, h1, h2⟩
    exact ⟨s₂, o, st _ h1, h2⟩
  · intro T locs cells slots g v X hc hs hv hQ hst
    obtain ⟨fs, hr, hrun, hended, hW, hsame⟩ := X.leave (v := v) (fun q => hv (Bd.returns ▸ q))
    exact ⟨_, _, hst fs hr, hrun, hended, v, locs, rfl, hQ, ⟨_, rfl⟩, hW, hsame.mono hc hs⟩
/-! Java's shifts and the narrowing to a byte -/
def jushr (x y : Int32) : Int32 := (x.toUInt32 >>> (y &&& 31).toUInt32).toInt32
def jshl (x y : Int32) : Int32 := x <<< (y &&& 31)
def jshr (x y : Int32) : Int32 := x >>> (y &&& 31)
def jushrL (x : Int64) (y : Int32) : Int64 := (x.toUInt64 >>> (y &&& 0x3f).toInt64.toUInt64).toInt64
def jshlL (x : Int64) (y : Int32) : Int64 := x <<< (y &&& 0x3f).toInt64
def jshrL (x : Int64) (y : Int32) : Int64 := x >>> (y &&& 0x3f).toInt64
def jb (x : Int32) : Int32 := x.toInt8.toInt32
theorem own_lrem {g : JFrame} {target : State} (X : Stand p l e R s m args below meth c T locs cells slots) (hx : p.tables.exec = Jvm.exec) (hg : g.method = m) {x y : Int64} {rest : List Value} (hd : decode c.code g.pc = .ok (.lrem, 1)) (hs : g.stack = .long y :: .long x :: rest) (hy : y ≠ 0)
    (hr : Steps p.tables e below (T.setTop { g with pc := g.pc + 1, stack := .long (x % y) :: rest }) target) : Steps p.tables e below (T.setTop g) target :=
  XS.lrem X.here hx hg hd hs hy (by rw [lrem_mod]; exact hr)
theorem own_narb (x : Int32) : nar .byte (jb x) = jb x := by simp [nar, jb]
/-! an array by its length and what its places hold -/
def own_upd (f : Nat → Value) (i : Nat) (v : Value) : Nat → Value := fun j => if j = i then v else f j
theorem own_hit (f : Nat → Value) (i : Nat) (v : Value) : own_upd f i v i = v := if_pos rfl
theorem own_miss {f : Nat → Value} {i j : Nat} {v : Value} (q : j ≠ i) : own_upd f i v j = f j := if_neg q
def AF (Z : State) (h : Heap) (a : Addr) (ty : FieldType) (n : Nat) (f : Nat → Value) : Prop := n < 2 ^ 31 ∧ ∃ c : Cell, Arr Z h a c ty ∧ c.slots.size = n ∧ ∀ j, j < n → c.slots[j]? = some (f j)
theorem AF.lt {a : Addr} {ty : FieldType} {n : Nat} {f : Nat → Value} (A : AF Z h a ty n f) : a < h.size := by obtain ⟨-, c, A, -⟩ := A; exact A.lt
theorem AF.ext {a : Addr} {ty : FieldType} {n : Nat} {f : Nat → Value} (A : AF Z h a ty n f) (E : Ext h h') : AF Z h' a ty n f := by obtain ⟨q, c, A, r⟩ := A; exact ⟨q, c, A.ext E, r⟩
theorem AF.other {a b : Addr} {sl : Nat} {v : Value} {ty : FieldType} {n : Nat} {f : Nat → Value} (A : AF Z h b ty n f) (W : Wr h h' a sl v) (q : b ≠ a) : AF Z h' b ty n f := by obtain ⟨q1, c, A, r⟩ := A; exact ⟨q1, c, A.other W q, r⟩
theorem AF.keep {a : Addr} {ws : List Addr} {ty : FieldType} {n : Nat} {f : Nat → Value} (A : AF Z h a ty n f) (K : Keep h h' ws) (q : a ∉ ws) : AF Z h' a ty n f := by obtain ⟨q1, c, A, r⟩ := A; exact ⟨q1, c, ⟨K.2.1 a c A.1 q, A.2⟩, r⟩
theorem AF.congr {a : Addr} {ty : FieldType} {n : Nat} {f f' : Nat → Value} (A : AF Z h a ty n f) (q : ∀ j, j < n → f j = f' j) : AF Z h a ty n f' := by obtain ⟨q1, c, A, S, r⟩ := A; exact ⟨q1, c, A, S, fun j hj => by rw [← q j hj]; exact r j hj⟩
theorem AF.len {a : Addr} {ty : FieldType} {n : Nat} {f : Nat → Value} (A : AF Z h a ty n f) : n < 2 ^ 31 := A.1
theorem own_idx {j : Int32} {i : Nat} (hj : j.toInt = (i : Int)) : j.toNatClampNeg = i := by simp only [Int32.toNatClampNeg, hj]; omega
theorem own_in {j : Int32} {i n : Nat} {c : Cell} (S : c.slots.size = n) (hj : j.toInt = (i : Int)) (hi : i < n) : ¬ (j < 0 ∨ c.slots.size ≤ j.toNatClampNeg) := by
  rw [own_idx hj, S, Int32.lt_iff_toInt_lt, hj]
  simp only [Int32.toInt_zero]
  omega
theorem own_set {a : Addr} {ty : FieldType} {n i : Nat} {f : Nat → Value} {cl : Cell} {v : Value} (q1 : n < 2 ^ 31) (A : Arr Z h a cl ty) (S : cl.slots.size = n) (H : ∀ j, j < n → cl.slots[j]? = some (f j)) (W : Wr h h' a i v) (hi : i < n) : AF Z h' a ty n (own_upd f i v) := by
  refine ⟨q1, _, A.same W, by rw [sz_set]; exact S, fun j hj => ?_⟩
  simp only [Cell.setSlot, own_upd]
  by_cases q : j = i
  · subst q; rw [if_pos rfl]; simp [S, hj]
  · rw [if_neg q, Array.getElem?_setIfInBounds_ne (fun z => q z.symm)]; exact H j hj
theorem own_stI (X : Stand p l e R s m args below meth c T locs cells slots) (hx : p.tables.exec = Jvm.exec) (hZ : Z.Warmed39 s.vm) (eT : T.heap = h) {a : Addr} {n i : Nat} {f : Nat → Value} (A : AF Z h a .int n f) {j x : Int32} (hj : j.toInt = (i : Int)) (hi : i < n) {g : JFrame} (hg : g.method = m) {rest : List Value} (hs : g.stack = .int x :: .int j :: .ref a :: rest) (hd : decode c.code g.pc = .ok (.iastore, 1)) :
    ∃ T' h', Stand p l e R s m args below meth c T' (locs ++ [⟨a, i⟩]) cells slots ∧ T'.heap = h' ∧ Wr h h' a i (.int x) ∧ AF Z h' a .int n (own_upd f i (.int x)) ∧ ∀ target, Steps p.tables e below (T'.setTop { g with pc := g.pc + 1, stack := rest }) target → Steps p.tables e below (T.setTop g) target := by
  obtain ⟨q1, cl, Ar, S, H⟩ := A
  obtain ⟨T', h', X', e', W, st⟩ := stI X hx hZ eT Ar (j := j) (own_in S hj hi) hg hs hd
  rw [own_idx hj] at X' W
  exact ⟨T', h', X', e', W, own_set q1 Ar S H W hi, st⟩
theorem own_stJ (X : Stand p l e R s m args below meth c T locs cells slots) (hx : p.tables.exec = Jvm.exec) (hZ : Z.Warmed39 s.vm) (eT : T.heap = h) {a : Addr} {n i : Nat} {f : Nat → Value} (A : AF Z h a .long n f) {j : Int32} {x : Int64} (hj : j.toInt = (i : Int)) (hi : i < n) {g : JFrame} (hg : g.method = m) {rest : List Value} (hs : g.stack = .long x :: .int j :: .ref a :: rest) (hd : decode c.code g.pc = .ok (.lastore, 1)) :
    ∃ T' h', Stand p l e R s m args below meth c T' (locs ++ [⟨a, i⟩]) cells slots ∧ T'.heap = h' ∧ Wr h h' a i (.long x) ∧ AF Z h' a .long n (own_upd f i (.long x)) ∧ ∀ target, Steps p.tables e below (T'.setTop { g with pc := g.pc + 1, stack := rest }) target → Steps p.tables e below (T.setTop g) target := by
  obtain ⟨q1, cl, Ar, S, H⟩ := A
  obtain ⟨T', h', X', e', W, st⟩ := stJ X hx hZ eT Ar (j := j) (own_in S hj hi) hg hs hd
  rw [own_idx hj] at X' W
  exact ⟨T', h', X', e', W, own_set q1 Ar S H W hi, st⟩
theorem own_stB (X : Stand p l e R s m args below meth c T locs cells slots) (hx : p.tables.exec = Jvm.exec) (hZ : Z.Warmed39 s.vm) (eT : T.heap = h) {a : Addr} {n i : Nat} {f : Nat → Value} (A : AF Z h a .byte n f) {j x : Int32} (hj : j.toInt = (i : Int)) (hi : i < n) (hn : nar .byte x = x) {g : JFrame} (hg : g.method = m) {rest : List Value} (hs : g.stack = .int x :: .int j :: .ref a :: rest) (hd : decode c.code g.pc = .ok (.bastore, 1)) :
    ∃ T' h', Stand p l e R s m args below meth c T' (locs ++ [⟨a, i⟩]) cells slots ∧ T'.heap = h' ∧ Wr h h' a i (.int x) ∧ AF Z h' a .byte n (own_upd f i (.int x)) ∧ ∀ target, Steps p.tables e below (T'.setTop { g with pc := g.pc + 1, stack := rest }) target → Steps p.tables e below (T.setTop g) target := by
  obtain ⟨q1, cl, Ar, S, H⟩ := A
  obtain ⟨T', h', X', e', W, st⟩ := stB X hx hZ eT Ar (j := j) (own_in S hj hi) hg hs hd
  rw [own_idx hj] at X' W
  rw [hn] at W
  exact ⟨T', h', X', e', W, own_set q1 Ar S H W hi, st⟩
theorem own_new (X : Stand p l e R s m args below meth c T locs cells slots) (hx : p.tables.exec = Jvm.exec) (hZ : Z.Warmed39 s.vm) {a0 : Array Value} {aty : ArrayType} (w : (Cond.arrayClass (newarray.typeOf aty)).before a0 Z = true) (eT : T.heap = h) {g : JFrame} (hg : g.method = m) (hd : decode c.code g.pc = .ok (.newarray aty, 2)) {n : Int32} {rest : List Value} (hs : g.stack = .int n :: rest)
    {k : Nat} (hn : n.toInt = (k : Int)) (cap : Nat) (hcap : k ≤ cap) (hb : cap * 8 ≤ 536870912) (hc : cells + 1 ≤ R.cells) (hl : slots + cap ≤ R.slots) :
    ∃ T' h' a, Stand p l e R s m args below meth c T' locs (cells + 1) (slots + cap) ∧ T'.heap = h' ∧ Ext h h' ∧ a = h.size ∧ AF Z h' a (newarray.typeOf aty) k (fun _ => defaultValue (newarray.typeOf aty)) ∧
      ∀ target, Steps p.tables e below (T'.setTop { g with pc := g.pc + 2, stack := .ref a :: rest }) target → Steps p.tables e below (T.setTop g) target := by
  have hn0 : ¬ n < 0 := by rw [Int32.lt_iff_toInt_lt, hn]; simp only [Int32.toInt_zero]; omega
  have hk : n.toNatClampNeg = k := own_idx hn
  have hk31 : k < 2 ^ 31 := by have := n.toInt_lt; omega
  obtain ⟨T', h', cA, X', e', E, A, st⟩ := newP X hx hZ w eT hg hd hs hn0 (by rw [hk]; exact hcap) hb hc hl
  refine ⟨T', h', h.size, X', e', E, rfl, ⟨hk31, _, A, by rw [sz_new, hk], fun j hj => ?_⟩, st⟩
  simp [newA, hk, hj]
theorem own_ldI (X : Stand p l e R s m args below meth c T locs cells slots) (hx : p.tables.exec = Jvm.exec) (hZ : Z.Warmed39 s.vm) (eT : T.heap = h) {a : Addr} {n i : Nat} {f : Nat → Value} (A : AF Z h a .int n f) {j : Int32} (hj : j.toInt = (i : Int)) (hi : i < n) {g : JFrame} (hg : g.method = m) {rest : List Value} (hs : g.stack = .int j :: .ref a :: rest) (hd : decode c.code g.pc = .ok (.iaload, 1)) {v : Value} (hv : f i = v) (target : State)
    (hr : Steps p.tables e below (T.setTop { g with pc := g.pc + 1, stack := v :: rest }) target) : Steps p.tables e below (T.setTop g) target := by
  obtain ⟨-, cl, Ar, S, H⟩ := A
  exact X.iaload hx (j := j) (v := v) (by rw [eT]; exact Ar.1) (State.isArrayOf_alike hZ.alike Ar.2.1) Ar.2.2 (own_in S hj hi) (by rw [own_idx hj, ← hv]; exact H i hi) hg hs hd target hr
theorem own_ldJ (X : Stand p l e R s m args below meth c T locs cells slots) (hx : p.tables.exec = Jvm.exec) (hZ : Z.Warmed39 s.vm) (eT : T.heap = h) {a : Addr} {n i : Nat} {f : Nat → Value} (A : AF Z h a .long n f) {j : Int32} (hj : j.toInt = (i : Int)) (hi : i < n) {g : JFrame} (hg : g.method = m) {rest : List Value} (hs : g.stack = .int j :: .ref a :: rest) (hd : decode c.code g.pc = .ok (.laload, 1)) {v : Value} (hv : f i = v) (target : State)
    (hr : Steps p.tables e below (T.setTop { g with pc := g.pc + 1, stack := v :: rest }) target) : Steps p.tables e below (T.setTop g) target := by
  obtain ⟨-, cl, Ar, S, H⟩ := A
  exact X.laload hx (j := j) (v := v) (by rw [eT]; exact Ar.1) (State.isArrayOf_alike hZ.alike Ar.2.1) Ar.2.2 (own_in S hj hi) (by rw [own_idx hj, ← hv]; exact H i hi) hg hs hd target hr
theorem own_ldB (X : Stand p l e R s m args below meth c T locs cells slots) (hx : p.tables.exec = Jvm.exec) (hZ : Z.Warmed39 s.vm) (eT : T.heap = h) {a : Addr} {n i : Nat} {f : Nat → Value} (A : AF Z h a .byte n f) {j : Int32} (hj : j.toInt = (i : Int)) (hi : i < n) {g : JFrame} (hg : g.method = m) {rest : List Value} (hs : g.stack = .int j :: .ref a :: rest) (hd : decode c.code g.pc = .ok (.baload, 1)) {v : Value} (hv : f i = v) (target : State)
    (hr : Steps p.tables e below (T.setTop { g with pc := g.pc + 1, stack := v :: rest }) target) : Steps p.tables e below (T.setTop g) target := by
  obtain ⟨-, cl, Ar, S, H⟩ := A
  exact X.baloadBytes hx (j := j) (v := v) (by rw [eT]; exact Ar.1) (State.isArrayOf_alike hZ.alike Ar.2.1) Ar.2.2 (own_in S hj hi) (by rw [own_idx hj, ← hv]; exact H i hi) hg hs hd target hr
theorem own_len (X : Stand p l e R s m args below meth c T locs cells slots) (hx : p.tables.exec = Jvm.exec) (hZ : Z.Warmed39 s.vm) (eT : T.heap = h) {a : Addr} {ty : FieldType} {n : Nat} {f : Nat → Value} (A : AF Z h a ty n f) {g : JFrame} (hg : g.method = m) {rest : List Value} (hs : g.stack = .ref a :: rest) (hd : decode c.code g.pc = .ok (.arraylength, 1)) (target : State)
    (hr : Steps p.tables e below (T.setTop { g with pc := g.pc + 1, stack := .int (Int32.ofNat n) :: rest }) target) : Steps p.tables e below (T.setTop g) target := by
  obtain ⟨-, cl, Ar, S, H⟩ := A
  refine X.arraylength hx (by rw [eT]; exact Ar.1) (State.isArrayOf_alike hZ.alike Ar.2.1) hg hs hd target ?_
  rw [S]; exact hr
end OwnKit
theorem pd_1 : parseMethodDescriptor "(J)J" = some ⟨[.long], some .long⟩ := by decide +kernel
theorem d1_0 : decode prog_21_method_5_code 0 = .ok (.lload_n 0, 1) := by decide +kernel
theorem d1_1 : decode prog_21_method_5_code 1 = .ok (.lstore_n 2, 1) := by decide +kernel
theorem d1_2 : decode prog_21_method_5_code 2 = .ok (.lload_n 2, 1) := by decide +kernel
theorem d1_3 : decode prog_21_method_5_code 3 = .ok (.lload_n 2, 1) := by decide +kernel
theorem d1_4 : decode prog_21_method_5_code 4 = .ok (.bipush 33, 2) := by decide +kernel
theorem d1_6 : decode prog_21_method_5_code 6 = .ok (.lushr, 1) := by decide +kernel
theorem d1_7 : decode prog_21_method_5_code 7 = .ok (.lxor, 1) := by decide +kernel
theorem d1_8 : decode prog_21_method_5_code 8 = .ok (.ldc2_w 33, 3) := by decide +kernel
theorem d1_11 : decode prog_21_method_5_code 11 = .ok (.lmul, 1) := by decide +kernel
theorem d1_12 : decode prog_21_method_5_code 12 = .ok (.lstore_n 2, 1) := by decide +kernel
theorem d1_13 : decode prog_21_method_5_code 13 = .ok (.lload_n 2, 1) := by decide +kernel
theorem d1_14 : decode prog_21_method_5_code 14 = .ok (.lload_n 2, 1) := by decide +kernel
theorem d1_15 : decode prog_21_method_5_code 15 = .ok (.bipush 33, 2) := by decide +kernel
theorem d1_17 : decode prog_21_method_5_code 17 = .ok (.lushr, 1) := by decide +kernel
theorem d1_18 : decode prog_21_method_5_code 18 = .ok (.lxor, 1) := by decide +kernel
theorem d1_19 : decode prog_21_method_5_code 19 = .ok (.ldc2_w 35, 3) := by decide +kernel
theorem d1_22 : decode prog_21_method_5_code 22 = .ok (.lmul, 1) := by decide +kernel
theorem d1_23 : decode prog_21_method_5_code 23 = .ok (.lstore_n 2, 1) := by decide +kernel
theorem d1_24 : decode prog_21_method_5_code 24 = .ok (.lload_n 2, 1) := by decide +kernel
theorem d1_25 : decode prog_21_method_5_code 25 = .ok (.lload_n 2, 1) := by decide +kernel
theorem d1_26 : decode prog_21_method_5_code 26 = .ok (.bipush 33, 2) := by decide +kernel
theorem d1_28 : decode prog_21_method_5_code 28 = .ok (.lushr, 1) := by decide +kernel
theorem d1_29 : decode prog_21_method_5_code 29 = .ok (.lxor, 1) := by decide +kernel
theorem d1_30 : decode prog_21_method_5_code 30 = .ok (.lreturn, 1) := by decide +kernel
theorem pn_3 : plainName "com/example/lambro/lambro/Hashes" = true := by first | (simp [plainName, overriddenIn]; done) | decide +kernel
theorem ef_rm1 (m : MethodId) (q : Int64) : entryFrame m #[(.long q)] 4 = mkF m 0 #[.val (.long q), .second, .unset, .unset] [] := by first | (simp [entryFrame, mkF, argsToLocals, Value.category]; done) | rfl
def v_rm1_0 (q : Int64) : Int64 := ((q ^^^ (jushrL q (33 : Int32))) * (-49064778989728563 : Int64))
def v_rm1_1 (q : Int64) : Int64 := (((v_rm1_0 q) ^^^ (jushrL (v_rm1_0 q) (33 : Int32))) * (-4265267296055464877 : Int64))
def f_rm1 (q : Int64) : Int64 := ((v_rm1_1 q) ^^^ (jushrL (v_rm1_1 q) (33 : Int32)))
def Q_rm1 (Z : State) (q : Int64) (h0 : Heap) (n0 : Nat) (v : Option Value) (h : Heap) (L : List Loc) : Prop := v = some (.long (f_rm1 q)) ∧ Fr n0 L ∧ h = h0
set_option maxRecDepth 65536 in
set_option maxHeartbeats 40000000 in
theorem rm1 (l : Launch) (Z : State) (a0 : Array Value) (hw : ∀ d ∈ tables_1, d.before a0 Z = true) (ws : List Jvm.Cond) (q : Int64) (h0 : Heap) (n0 : Nat) (Z0 : n0 ≤ h0.size)  :
    MetFree l (⟨"com/example/lambro/lambro/Hashes", "spread", "(J)J"⟩ : MethodName) (head1 (Jvm.Cond.code (⟨"com/example/lambro/lambro/Hashes", "spread", "(J)J"⟩ : MethodName) prog_21_method_5_code 4 (some .long) :: ws) ({ frames := 0, cells := 0, slots := 0, locals := 0 } : Room)) (fun a U => a = #[(.long q)] ∧ Z.Warmed39 U.vm ∧ U.heap = h0) (fun _ _ _ _ _ => True) (fun _ U o U' => ∃ v L, o = .returned v ∧ Q_rm1 Z q h0 n0 v U'.heap L ∧ FrameEnd U o U' L ({ frames := 0, cells := 0, slots := 0, locals := 0 } : Room).cells ({ frames := 0, cells := 0, slots := 0, locals := 0 } : Room).slots) := by
  refine own_body (Q := Q_rm1 Z q h0 n0) (plainFor_of_name pn_3) ?_
  intro p e s m below meth c s₁ K go fin X0 hx hby hml hown hnm hret hZ e0
  have hown : s.vm.findClass "com/example/lambro/lambro/Hashes" = some m.cls := hown
  have N0 := Fr.nil n0
  refine go _ (s₁.setTop (mkF m 0 #[.val (.long q), .second, .unset, .unset] [])) (fun t k => castTop (ef_rm1 m q) k) ?_
  refine go _ (s₁.setTop (mkF m 1 #[.val (.long q), .second, .unset, .unset] [(.long q)])) (fun t k => XS.lloadN X0.here hx rfl (hb hby d1_0) rfl k) ?_
  refine go _ (s₁.setTop (mkF m 2 #[.val (.long q), .second, .val (.long q), .second] [])) (fun t k => XS.lstoreN X0.here hx rfl (hb hby d1_1) rfl (l' := #[.val (.long q), .second, .val (.long q), .second]) rfl k) ?_
  refine go _ (s₁.setTop (mkF m 3 #[.val (.long q), .second, .val (.long q), .second] [(.long q)])) (fun t k => XS.lloadN X0.here hx rfl (hb hby d1_2) rfl k) ?_
  refine go _ (s₁.setTop (mkF m 4 #[.val (.long q), .second, .val (.long q), .second] [(.long q), (.long q)])) (fun t k => XS.lloadN X0.here hx rfl (hb hby d1_3) rfl k) ?_
  refine go _ (s₁.setTop (mkF m 6 #[.val (.long q), .second, .val (.long q), .second] [(.int (33 : Int32)), (.long q), (.long q)])) (fun t k => XS.bipush X0.here hx rfl (hb hby d1_4) k) ?_
  refine go _ (s₁.setTop (mkF m 7 #[.val (.long q), .second, .val (.long q), .second] [(.long (jushrL q (33 : Int32))), (.long q)])) (fun t k => XS.lushr X0.here hx rfl (hb hby d1_6) rfl k) ?_
  refine go _ (s₁.setTop (mkF m 8 #[.val (.long q), .second, .val (.long q), .second] [(.long (q ^^^ (jushrL q (33 : Int32))))])) (fun t k => XS.lxor X0.here hx rfl (hb hby d1_7) rfl k) ?_
  refine go _ (s₁.setTop (mkF m 11 #[.val (.long q), .second, .val (.long q), .second] [(.long (-49064778989728563 : Int64)), (.long (q ^^^ (jushrL q (33 : Int32))))])) (X0.ldc2Long hx hown (mvT hZ (hw _ (List.mem_of_getElem? (i := 4) rfl))) (g := (mkF m 8 #[.val (.long q), .second, .val (.long q), .second] [(.long (q ^^^ (jushrL q (33 : Int32))))])) rfl (hb hby d1_8)) ?_
  refine go _ (s₁.setTop (mkF m 12 #[.val (.long q), .second, .val (.long q), .second] [(.long ((q ^^^ (jushrL q (33 : Int32))) * (-49064778989728563 : Int64)))])) (fun t k => XS.lmul X0.here hx rfl (hb hby d1_11) rfl k) ?_
  refine go _ (s₁.setTop (mkF m 13 #[.val (.long q), .second, .val (.long (v_rm1_0 q)), .second] [])) (fun t k => XS.lstoreN X0.here hx rfl (hb hby d1_12) rfl (l' := #[.val (.long q), .second, .val (.long (v_rm1_0 q)), .second]) rfl k) ?_
  refine go _ (s₁.setTop (mkF m 14 #[.val (.long q), .second, .val (.long (v_rm1_0 q)), .second] [(.long (v_rm1_0 q))])) (fun t k => XS.lloadN X0.here hx rfl (hb hby d1_13) rfl k) ?_
  refine go _ (s₁.setTop (mkF m 15 #[.val (.long q), .second, .val (.long (v_rm1_0 q)), .second] [(.long (v_rm1_0 q)), (.long (v_rm1_0 q))])) (fun t k => XS.lloadN X0.here hx rfl (hb hby d1_14) rfl k) ?_
  refine go _ (s₁.setTop (mkF m 17 #[.val (.long q), .second, .val (.long (v_rm1_0 q)), .second] [(.int (33 : Int32)), (.long (v_rm1_0 q)), (.long (v_rm1_0 q))])) (fun t k => XS.bipush X0.here hx rfl (hb hby d1_15) k) ?_
  refine go _ (s₁.setTop (mkF m 18 #[.val (.long q), .second, .val (.long (v_rm1_0 q)), .second] [(.long (jushrL (v_rm1_0 q) (33 : Int32))), (.long (v_rm1_0 q))])) (fun t k => XS.lushr X0.here hx rfl (hb hby d1_17) rfl k) ?_
  refine go _ (s₁.setTop (mkF m 19 #[.val (.long q), .second, .val (.long (v_rm1_0 q)), .second] [(.long ((v_rm1_0 q) ^^^ (jushrL (v_rm1_0 q) (33 : Int32))))])) (fun t k => XS.lxor X0.here hx rfl (hb hby d1_18) rfl k) ?_
  refine go _ (s₁.setTop (mkF m 22 #[.val (.long q), .second, .val (.long (v_rm1_0 q)), .second] [(.long (-4265267296055464877 : Int64)), (.long ((v_rm1_0 q) ^^^ (jushrL (v_rm1_0 q) (33 : Int32))))])) (X0.ldc2Long hx hown (mvT hZ (hw _ (List.mem_of_getElem? (i := 5) rfl))) (g := (mkF m 19 #[.val (.long q), .second, .val (.long (v_rm1_0 q)), .second] [(.long ((v_rm1_0 q) ^^^ (jushrL (v_rm1_0 q) (33 : Int32))))])) rfl (hb hby d1_19)) ?_
  refine go _ (s₁.setTop (mkF m 23 #[.val (.long q), .second, .val (.long (v_rm1_0 q)), .second] [(.long (((v_rm1_0 q) ^^^ (jushrL (v_rm1_0 q) (33 : Int32))) * (-4265267296055464877 : Int64)))])) (fun t k => XS.lmul X0.here hx rfl (hb hby d1_22) rfl k) ?_
  refine go _ (s₁.setTop (mkF m 24 #[.val (.long q), .second, .val (.long (v_rm1_1 q)), .second] [])) (fun t k => XS.lstoreN X0.here hx rfl (hb hby d1_23) rfl (l' := #[.val (.long q), .second, .val (.long (v_rm1_1 q)), .second]) rfl k) ?_
  refine go _ (s₁.setTop (mkF m 25 #[.val (.long q), .second, .val (.long (v_rm1_1 q)), .second] [(.long (v_rm1_1 q))])) (fun t k => XS.lloadN X0.here hx rfl (hb hby d1_24) rfl k) ?_
  refine go _ (s₁.setTop (mkF m 26 #[.val (.long q), .second, .val (.long (v_rm1_1 q)), .second] [(.long (v_rm1_1 q)), (.long (v_rm1_1 q))])) (fun t k => XS.lloadN X0.here hx rfl (hb hby d1_25) rfl k) ?_
  refine go _ (s₁.setTop (mkF m 28 #[.val (.long q), .second, .val (.long (v_rm1_1 q)), .second] [(.int (33 : Int32)), (.long (v_rm1_1 q)), (.long (v_rm1_1 q))])) (fun t k => XS.bipush X0.here hx rfl (hb hby d1_26) k) ?_
  refine go _ (s₁.setTop (mkF m 29 #[.val (.long q), .second, .val (.long (v_rm1_1 q)), .second] [(.long (jushrL (v_rm1_1 q) (33 : Int32))), (.long (v_rm1_1 q))])) (fun t k => XS.lushr X0.here hx rfl (hb hby d1_28) rfl k) ?_
  refine go _ (s₁.setTop (mkF m 30 #[.val (.long q), .second, .val (.long (v_rm1_1 q)), .second] [(.long ((v_rm1_1 q) ^^^ (jushrL (v_rm1_1 q) (33 : Int32))))])) (fun t k => XS.lxor X0.here hx rfl (hb hby d1_29) rfl k) ?_
  exact fin (some (.long ((v_rm1_1 q) ^^^ (jushrL (v_rm1_1 q) (33 : Int32))))) X0 (by decide) (by decide) (fun q => by cases q) (show Q_rm1 Z q h0 n0 _ s₁.heap _ from (by rw [e0]; exact ⟨congrArg some (congrArg Value.long (show (f_rm1 q) = ((v_rm1_1 q) ^^^ (jushrL (v_rm1_1 q) (33 : Int32))) from rfl).symm), N0, rfl⟩)) (fun fs hr => retJ X0 hx hret (hb hby d1_30) hr)
theorem d3_0 : decode method_2_code 0 = .ok (.lload_n 0, 1) := by decide +kernel
theorem d3_1 : decode method_2_code 1 = .ok (.lstore_n 2, 1) := by decide +kernel
theorem d3_2 : decode method_2_code 2 = .ok (.lload_n 2, 1) := by decide +kernel
theorem d3_3 : decode method_2_code 3 = .ok (.ldc2_w 7, 3) := by decide +kernel
theorem d3_6 : decode method_2_code 6 = .ok (.lload_n 0, 1) := by decide +kernel
theorem d3_7 : decode method_2_code 7 = .ok (.lload_n 2, 1) := by decide +kernel
theorem d3_8 : decode method_2_code 8 = .ok (.lmul, 1) := by decide +kernel
theorem d3_9 : decode method_2_code 9 = .ok (.lsub, 1) := by decide +kernel
theorem d3_10 : decode method_2_code 10 = .ok (.lmul, 1) := by decide +kernel
theorem d3_11 : decode method_2_code 11 = .ok (.lstore_n 2, 1) := by decide +kernel
theorem d3_12 : decode method_2_code 12 = .ok (.lload_n 2, 1) := by decide +kernel
theorem d3_13 : decode method_2_code 13 = .ok (.ldc2_w 7, 3) := by decide +kernel
theorem d3_16 : decode method_2_code 16 = .ok (.lload_n 0, 1) := by decide +kernel
theorem d3_17 : decode method_2_code 17 = .ok (.lload_n 2, 1) := by decide +kernel
theorem d3_18 : decode method_2_code 18 = .ok (.lmul, 1) := by decide +kernel
theorem d3_19 : decode method_2_code 19 = .ok (.lsub, 1) := by decide +kernel
theorem d3_20 : decode method_2_code 20 = .ok (.lmul, 1) := by decide +kernel
theorem d3_21 : decode method_2_code 21 = .ok (.lstore_n 2, 1) := by decide +kernel
theorem d3_22 : decode method_2_code 22 = .ok (.lload_n 2, 1) := by decide +kernel
theorem d3_23 : decode method_2_code 23 = .ok (.ldc2_w 7, 3) := by decide +kernel
theorem d3_26 : decode method_2_code 26 = .ok (.lload_n 0, 1) := by decide +kernel
theorem d3_27 : decode method_2_code 27 = .ok (.lload_n 2, 1) := by decide +kernel
theorem d3_28 : decode method_2_code 28 = .ok (.lmul, 1) := by decide +kernel
theorem d3_29 : decode method_2_code 29 = .ok (.lsub, 1) := by decide +kernel
theorem d3_30 : decode method_2_code 30 = .ok (.lmul, 1) := by decide +kernel
theorem d3_31 : decode method_2_code 31 = .ok (.lstore_n 2, 1) := by decide +kernel
theorem d3_32 : decode method_2_code 32 = .ok (.lload_n 2, 1) := by decide +kernel
theorem d3_33 : decode method_2_code 33 = .ok (.ldc2_w 7, 3) := by decide +kernel
theorem d3_36 : decode method_2_code 36 = .ok (.lload_n 0, 1) := by decide +kernel
theorem d3_37 : decode method_2_code 37 = .ok (.lload_n 2, 1) := by decide +kernel
theorem d3_38 : decode method_2_code 38 = .ok (.lmul, 1) := by decide +kernel
theorem d3_39 : decode method_2_code 39 = .ok (.lsub, 1) := by decide +kernel
theorem d3_40 : decode method_2_code 40 = .ok (.lmul, 1) := by decide +kernel
theorem d3_41 : decode method_2_code 41 = .ok (.lstore_n 2, 1) := by decide +kernel
theorem d3_42 : decode method_2_code 42 = .ok (.lload_n 2, 1) := by decide +kernel
theorem d3_43 : decode method_2_code 43 = .ok (.ldc2_w 7, 3) := by decide +kernel
theorem d3_46 : decode method_2_code 46 = .ok (.lload_n 0, 1) := by decide +kernel
theorem d3_47 : decode method_2_code 47 = .ok (.lload_n 2, 1) := by decide +kernel
theorem d3_48 : decode method_2_code 48 = .ok (.lmul, 1) := by decide +kernel
theorem d3_49 : decode method_2_code 49 = .ok (.lsub, 1) := by decide +kernel
theorem d3_50 : decode method_2_code 50 = .ok (.lmul, 1) := by decide +kernel
theorem d3_51 : decode method_2_code 51 = .ok (.lstore_n 2, 1) := by decide +kernel
theorem d3_52 : decode method_2_code 52 = .ok (.lload_n 2, 1) := by decide +kernel
theorem d3_53 : decode method_2_code 53 = .ok (.lreturn, 1) := by decide +kernel
theorem pn_5 : plainName "com/example/lambro/lambro/HashesSpreadPinLaw" = true := by first | (simp [plainName, overriddenIn]; done) | decide +kernel
theorem ef_rm3 (m : MethodId) (q : Int64) : entryFrame m #[(.long q)] 4 = mkF m 0 #[.val (.long q), .second, .unset, .unset] [] := by first | (simp [entryFrame, mkF, argsToLocals, Value.category]; done) | rfl
def v_rm3_0 (q : Int64) : Int64 := ((q * ((2 : Int64) - (q * q))) * ((2 : Int64) - (q * (q * ((2 : Int64) - (q * q))))))
def v_rm3_1 (q : Int64) : Int64 := ((v_rm3_0 q) * ((2 : Int64) - (q * (v_rm3_0 q))))
def v_rm3_2 (q : Int64) : Int64 := ((v_rm3_1 q) * ((2 : Int64) - (q * (v_rm3_1 q))))
def v_rm3_3 (q : Int64) : Int64 := ((v_rm3_2 q) * ((2 : Int64) - (q * (v_rm3_2 q))))
def f_rm3 (q : Int64) : Int64 := (v_rm3_3 q)
def Q_rm3 (Z : State) (q : Int64) (h0 : Heap) (n0 : Nat) (v : Option Value) (h : Heap) (L : List Loc) : Prop := v = some (.long (f_rm3 q)) ∧ Fr n0 L ∧ h = h0
set_option maxRecDepth 65536 in
set_option maxHeartbeats 40000000 in
theorem rm3 (l : Launch) (Z : State) (a0 : Array Value) (hw : ∀ d ∈ tables_1, d.before a0 Z = true) (ws : List Jvm.Cond) (q : Int64) (h0 : Heap) (n0 : Nat) (Z0 : n0 ≤ h0.size)  :
    MetFree l (⟨"com/example/lambro/lambro/HashesSpreadPinLaw", "inverse", "(J)J"⟩ : MethodName) (head1 (Jvm.Cond.code (⟨"com/example/lambro/lambro/HashesSpreadPinLaw", "inverse", "(J)J"⟩ : MethodName) method_2_code 4 (some .long) :: ws) ({ frames := 0, cells := 0, slots := 0, locals := 0 } : Room)) (fun a U => a = #[(.long q)] ∧ Z.Warmed39 U.vm ∧ U.heap = h0) (fun _ _ _ _ _ => True) (fun _ U o U' => ∃ v L, o = .returned v ∧ Q_rm3 Z q h0 n0 v U'.heap L ∧ FrameEnd U o U' L ({ frames := 0, cells := 0, slots := 0, locals := 0 } : Room).cells ({ frames := 0, cells := 0, slots := 0, locals := 0 } : Room).slots) := by
  refine own_body (Q := Q_rm3 Z q h0 n0) (plainFor_of_name pn_5) ?_
  intro p e s m below meth c s₁ K go fin X0 hx hby hml hown hnm hret hZ e0
  have hown : s.vm.findClass "com/example/lambro/lambro/HashesSpreadPinLaw" = some m.cls := hown
  have N0 := Fr.nil n0
  refine go _ (s₁.setTop (mkF m 0 #[.val (.long q), .second, .unset, .unset] [])) (fun t k => castTop (ef_rm3 m q) k) ?_
  refine go _ (s₁.setTop (mkF m 1 #[.val (.long q), .second, .unset, .unset] [(.long q)])) (fun t k => XS.lloadN X0.here hx rfl (hb hby d3_0) rfl k) ?_
  refine go _ (s₁.setTop (mkF m 2 #[.val (.long q), .second, .val (.long q), .second] [])) (fun t k => XS.lstoreN X0.here hx rfl (hb hby d3_1) rfl (l' := #[.val (.long q), .second, .val (.long q), .second]) rfl k) ?_
  refine go _ (s₁.setTop (mkF m 3 #[.val (.long q), .second, .val (.long q), .second] [(.long q)])) (fun t k => XS.lloadN X0.here hx rfl (hb hby d3_2) rfl k) ?_
  refine go _ (s₁.setTop (mkF m 6 #[.val (.long q), .second, .val (.long q), .second] [(.long (2 : Int64)), (.long q)])) (X0.ldc2Long hx hown (mvT hZ (hw _ (List.mem_of_getElem? (i := 14) rfl))) (g := (mkF m 3 #[.val (.long q), .second, .val (.long q), .second] [(.long q)])) rfl (hb hby d3_3)) ?_
  refine go _ (s₁.setTop (mkF m 7 #[.val (.long q), .second, .val (.long q), .second] [(.long q), (.long (2 : Int64)), (.long q)])) (fun t k => XS.lloadN X0.here hx rfl (hb hby d3_6) rfl k) ?_
  refine go _ (s₁.setTop (mkF m 8 #[.val (.long q), .second, .val (.long q), .second] [(.long q), (.long q), (.long (2 : Int64)), (.long q)])) (fun t k => XS.lloadN X0.here hx rfl (hb hby d3_7) rfl k) ?_
  refine go _ (s₁.setTop (mkF m 9 #[.val (.long q), .second, .val (.long q), .second] [(.long (q * q)), (.long (2 : Int64)), (.long q)])) (fun t k => XS.lmul X0.here hx rfl (hb hby d3_8) rfl k) ?_
  refine go _ (s₁.setTop (mkF m 10 #[.val (.long q), .second, .val (.long q), .second] [(.long ((2 : Int64) - (q * q))), (.long q)])) (fun t k => XS.lsub X0.here hx rfl (hb hby d3_9) rfl k) ?_
  refine go _ (s₁.setTop (mkF m 11 #[.val (.long q), .second, .val (.long q), .second] [(.long (q * ((2 : Int64) - (q * q))))])) (fun t k => XS.lmul X0.here hx rfl (hb hby d3_10) rfl k) ?_
  refine go _ (s₁.setTop (mkF m 12 #[.val (.long q), .second, .val (.long (q * ((2 : Int64) - (q * q)))), .second] [])) (fun t k => XS.lstoreN X0.here hx rfl (hb hby d3_11) rfl (l' := #[.val (.long q), .second, .val (.long (q * ((2 : Int64) - (q * q)))), .second]) rfl k) ?_
  refine go _ (s₁.setTop (mkF m 13 #[.val (.long q), .second, .val (.long (q * ((2 : Int64) - (q * q)))), .second] [(.long (q * ((2 : Int64) - (q * q))))])) (fun t k => XS.lloadN X0.here hx rfl (hb hby d3_12) rfl k) ?_
  refine go _ (s₁.setTop (mkF m 16 #[.val (.long q), .second, .val (.long (q * ((2 : Int64) - (q * q)))), .second] [(.long (2 : Int64)), (.long (q * ((2 : Int64) - (q * q))))])) (X0.ldc2Long hx hown (mvT hZ (hw _ (List.mem_of_getElem? (i := 14) rfl))) (g := (mkF m 13 #[.val (.long q), .second, .val (.long (q * ((2 : Int64) - (q * q)))), .second] [(.long (q * ((2 : Int64) - (q * q))))])) rfl (hb hby d3_13)) ?_
  refine go _ (s₁.setTop (mkF m 17 #[.val (.long q), .second, .val (.long (q * ((2 : Int64) - (q * q)))), .second] [(.long q), (.long (2 : Int64)), (.long (q * ((2 : Int64) - (q * q))))])) (fun t k => XS.lloadN X0.here hx rfl (hb hby d3_16) rfl k) ?_
  refine go _ (s₁.setTop (mkF m 18 #[.val (.long q), .second, .val (.long (q * ((2 : Int64) - (q * q)))), .second] [(.long (q * ((2 : Int64) - (q * q)))), (.long q), (.long (2 : Int64)), (.long (q * ((2 : Int64) - (q * q))))])) (fun t k => XS.lloadN X0.here hx rfl (hb hby d3_17) rfl k) ?_
  refine go _ (s₁.setTop (mkF m 19 #[.val (.long q), .second, .val (.long (q * ((2 : Int64) - (q * q)))), .second] [(.long (q * (q * ((2 : Int64) - (q * q))))), (.long (2 : Int64)), (.long (q * ((2 : Int64) - (q * q))))])) (fun t k => XS.lmul X0.here hx rfl (hb hby d3_18) rfl k) ?_
  refine go _ (s₁.setTop (mkF m 20 #[.val (.long q), .second, .val (.long (q * ((2 : Int64) - (q * q)))), .second] [(.long ((2 : Int64) - (q * (q * ((2 : Int64) - (q * q)))))), (.long (q * ((2 : Int64) - (q * q))))])) (fun t k => XS.lsub X0.here hx rfl (hb hby d3_19) rfl k) ?_
  refine go _ (s₁.setTop (mkF m 21 #[.val (.long q), .second, .val (.long (q * ((2 : Int64) - (q * q)))), .second] [(.long ((q * ((2 : Int64) - (q * q))) * ((2 : Int64) - (q * (q * ((2 : Int64) - (q * q)))))))])) (fun t k => XS.lmul X0.here hx rfl (hb hby d3_20) rfl k) ?_
  refine go _ (s₁.setTop (mkF m 22 #[.val (.long q), .second, .val (.long (v_rm3_0 q)), .second] [])) (fun t k => XS.lstoreN X0.here hx rfl (hb hby d3_21) rfl (l' := #[.val (.long q), .second, .val (.long (v_rm3_0 q)), .second]) rfl k) ?_
  refine go _ (s₁.setTop (mkF m 23 #[.val (.long q), .second, .val (.long (v_rm3_0 q)), .second] [(.long (v_rm3_0 q))])) (fun t k => XS.lloadN X0.here hx rfl (hb hby d3_22) rfl k) ?_
  refine go _ (s₁.setTop (mkF m 26 #[.val (.long q), .second, .val (.long (v_rm3_0 q)), .second] [(.long (2 : Int64)), (.long (v_rm3_0 q))])) (X0.ldc2Long hx hown (mvT hZ (hw _ (List.mem_of_getElem? (i := 14) rfl))) (g := (mkF m 23 #[.val (.long q), .second, .val (.long (v_rm3_0 q)), .second] [(.long (v_rm3_0 q))])) rfl (hb hby d3_23)) ?_
  refine go _ (s₁.setTop (mkF m 27 #[.val (.long q), .second, .val (.long (v_rm3_0 q)), .second] [(.long q), (.long (2 : Int64)), (.long (v_rm3_0 q))])) (fun t k => XS.lloadN X0.here hx rfl (hb hby d3_26) rfl k) ?_
  refine go _ (s₁.setTop (mkF m 28 #[.val (.long q), .second, .val (.long (v_rm3_0 q)), .second] [(.long (v_rm3_0 q)), (.long q), (.long (2 : Int64)), (.long (v_rm3_0 q))])) (fun t k => XS.lloadN X0.here hx rfl (hb hby d3_27) rfl k) ?_
  refine go _ (s₁.setTop (mkF m 29 #[.val (.long q), .second, .val (.long (v_rm3_0 q)), .second] [(.long (q * (v_rm3_0 q))), (.long (2 : Int64)), (.long (v_rm3_0 q))])) (fun t k => XS.lmul X0.here hx rfl (hb hby d3_28) rfl k) ?_
  refine go _ (s₁.setTop (mkF m 30 #[.val (.long q), .second, .val (.long (v_rm3_0 q)), .second] [(.long ((2 : Int64) - (q * (v_rm3_0 q)))), (.long (v_rm3_0 q))])) (fun t k => XS.lsub X0.here hx rfl (hb hby d3_29) rfl k) ?_
  refine go _ (s₁.setTop (mkF m 31 #[.val (.long q), .second, .val (.long (v_rm3_0 q)), .second] [(.long ((v_rm3_0 q) * ((2 : Int64) - (q * (v_rm3_0 q)))))])) (fun t k => XS.lmul X0.here hx rfl (hb hby d3_30) rfl k) ?_
  refine go _ (s₁.setTop (mkF m 32 #[.val (.long q), .second, .val (.long (v_rm3_1 q)), .second] [])) (fun t k => XS.lstoreN X0.here hx rfl (hb hby d3_31) rfl (l' := #[.val (.long q), .second, .val (.long (v_rm3_1 q)), .second]) rfl k) ?_
  refine go _ (s₁.setTop (mkF m 33 #[.val (.long q), .second, .val (.long (v_rm3_1 q)), .second] [(.long (v_rm3_1 q))])) (fun t k => XS.lloadN X0.here hx rfl (hb hby d3_32) rfl k) ?_
  refine go _ (s₁.setTop (mkF m 36 #[.val (.long q), .second, .val (.long (v_rm3_1 q)), .second] [(.long (2 : Int64)), (.long (v_rm3_1 q))])) (X0.ldc2Long hx hown (mvT hZ (hw _ (List.mem_of_getElem? (i := 14) rfl))) (g := (mkF m 33 #[.val (.long q), .second, .val (.long (v_rm3_1 q)), .second] [(.long (v_rm3_1 q))])) rfl (hb hby d3_33)) ?_
  refine go _ (s₁.setTop (mkF m 37 #[.val (.long q), .second, .val (.long (v_rm3_1 q)), .second] [(.long q), (.long (2 : Int64)), (.long (v_rm3_1 q))])) (fun t k => XS.lloadN X0.here hx rfl (hb hby d3_36) rfl k) ?_
  refine go _ (s₁.setTop (mkF m 38 #[.val (.long q), .second, .val (.long (v_rm3_1 q)), .second] [(.long (v_rm3_1 q)), (.long q), (.long (2 : Int64)), (.long (v_rm3_1 q))])) (fun t k => XS.lloadN X0.here hx rfl (hb hby d3_37) rfl k) ?_
  refine go _ (s₁.setTop (mkF m 39 #[.val (.long q), .second, .val (.long (v_rm3_1 q)), .second] [(.long (q * (v_rm3_1 q))), (.long (2 : Int64)), (.long (v_rm3_1 q))])) (fun t k => XS.lmul X0.here hx rfl (hb hby d3_38) rfl k) ?_
  refine go _ (s₁.setTop (mkF m 40 #[.val (.long q), .second, .val (.long (v_rm3_1 q)), .second] [(.long ((2 : Int64) - (q * (v_rm3_1 q)))), (.long (v_rm3_1 q))])) (fun t k => XS.lsub X0.here hx rfl (hb hby d3_39) rfl k) ?_
  refine go _ (s₁.setTop (mkF m 41 #[.val (.long q), .second, .val (.long (v_rm3_1 q)), .second] [(.long ((v_rm3_1 q) * ((2 : Int64) - (q * (v_rm3_1 q)))))])) (fun t k => XS.lmul X0.here hx rfl (hb hby d3_40) rfl k) ?_
  refine go _ (s₁.setTop (mkF m 42 #[.val (.long q), .second, .val (.long (v_rm3_2 q)), .second] [])) (fun t k => XS.lstoreN X0.here hx rfl (hb hby d3_41) rfl (l' := #[.val (.long q), .second, .val (.long (v_rm3_2 q)), .second]) rfl k) ?_
  refine go _ (s₁.setTop (mkF m 43 #[.val (.long q), .second, .val (.long (v_rm3_2 q)), .second] [(.long (v_rm3_2 q))])) (fun t k => XS.lloadN X0.here hx rfl (hb hby d3_42) rfl k) ?_
  refine go _ (s₁.setTop (mkF m 46 #[.val (.long q), .second, .val (.long (v_rm3_2 q)), .second] [(.long (2 : Int64)), (.long (v_rm3_2 q))])) (X0.ldc2Long hx hown (mvT hZ (hw _ (List.mem_of_getElem? (i := 14) rfl))) (g := (mkF m 43 #[.val (.long q), .second, .val (.long (v_rm3_2 q)), .second] [(.long (v_rm3_2 q))])) rfl (hb hby d3_43)) ?_
  refine go _ (s₁.setTop (mkF m 47 #[.val (.long q), .second, .val (.long (v_rm3_2 q)), .second] [(.long q), (.long (2 : Int64)), (.long (v_rm3_2 q))])) (fun t k => XS.lloadN X0.here hx rfl (hb hby d3_46) rfl k) ?_
  refine go _ (s₁.setTop (mkF m 48 #[.val (.long q), .second, .val (.long (v_rm3_2 q)), .second] [(.long (v_rm3_2 q)), (.long q), (.long (2 : Int64)), (.long (v_rm3_2 q))])) (fun t k => XS.lloadN X0.here hx rfl (hb hby d3_47) rfl k) ?_
  refine go _ (s₁.setTop (mkF m 49 #[.val (.long q), .second, .val (.long (v_rm3_2 q)), .second] [(.long (q * (v_rm3_2 q))), (.long (2 : Int64)), (.long (v_rm3_2 q))])) (fun t k => XS.lmul X0.here hx rfl (hb hby d3_48) rfl k) ?_
  refine go _ (s₁.setTop (mkF m 50 #[.val (.long q), .second, .val (.long (v_rm3_2 q)), .second] [(.long ((2 : Int64) - (q * (v_rm3_2 q)))), (.long (v_rm3_2 q))])) (fun t k => XS.lsub X0.here hx rfl (hb hby d3_49) rfl k) ?_
  refine go _ (s₁.setTop (mkF m 51 #[.val (.long q), .second, .val (.long (v_rm3_2 q)), .second] [(.long ((v_rm3_2 q) * ((2 : Int64) - (q * (v_rm3_2 q)))))])) (fun t k => XS.lmul X0.here hx rfl (hb hby d3_50) rfl k) ?_
  refine go _ (s₁.setTop (mkF m 52 #[.val (.long q), .second, .val (.long (v_rm3_3 q)), .second] [])) (fun t k => XS.lstoreN X0.here hx rfl (hb hby d3_51) rfl (l' := #[.val (.long q), .second, .val (.long (v_rm3_3 q)), .second]) rfl k) ?_
  refine go _ (s₁.setTop (mkF m 53 #[.val (.long q), .second, .val (.long (v_rm3_3 q)), .second] [(.long (v_rm3_3 q))])) (fun t k => XS.lloadN X0.here hx rfl (hb hby d3_52) rfl k) ?_
  exact fin (some (.long (v_rm3_3 q))) X0 (by decide) (by decide) (fun q => by cases q) (show Q_rm3 Z q h0 n0 _ s₁.heap _ from (by rw [e0]; exact ⟨congrArg some (congrArg Value.long (show (f_rm3 q) = (v_rm3_3 q) from rfl).symm), N0, rfl⟩)) (fun fs hr => retJ X0 hx hret (hb hby d3_53) hr)
theorem d2_0 : decode method_3_code 0 = .ok (.lload_n 0, 1) := by decide +kernel
theorem d2_1 : decode method_3_code 1 = .ok (.lstore_n 2, 1) := by decide +kernel
theorem d2_2 : decode method_3_code 2 = .ok (.lload_n 2, 1) := by decide +kernel
theorem d2_3 : decode method_3_code 3 = .ok (.lload_n 2, 1) := by decide +kernel
theorem d2_4 : decode method_3_code 4 = .ok (.bipush 33, 2) := by decide +kernel
theorem d2_6 : decode method_3_code 6 = .ok (.lushr, 1) := by decide +kernel
theorem d2_7 : decode method_3_code 7 = .ok (.lxor, 1) := by decide +kernel
theorem d2_8 : decode method_3_code 8 = .ok (.lstore_n 2, 1) := by decide +kernel
theorem d2_9 : decode method_3_code 9 = .ok (.lload_n 2, 1) := by decide +kernel
theorem d2_10 : decode method_3_code 10 = .ok (.ldc2_w 9, 3) := by decide +kernel
theorem d2_13 : decode method_3_code 13 = .ok (.invokestatic 11, 3) := by decide +kernel
theorem d2_16 : decode method_3_code 16 = .ok (.lmul, 1) := by decide +kernel
theorem d2_17 : decode method_3_code 17 = .ok (.lstore_n 2, 1) := by decide +kernel
theorem d2_18 : decode method_3_code 18 = .ok (.lload_n 2, 1) := by decide +kernel
theorem d2_19 : decode method_3_code 19 = .ok (.lload_n 2, 1) := by decide +kernel
theorem d2_20 : decode method_3_code 20 = .ok (.bipush 33, 2) := by decide +kernel
theorem d2_22 : decode method_3_code 22 = .ok (.lushr, 1) := by decide +kernel
theorem d2_23 : decode method_3_code 23 = .ok (.lxor, 1) := by decide +kernel
theorem d2_24 : decode method_3_code 24 = .ok (.lstore_n 2, 1) := by decide +kernel
theorem d2_25 : decode method_3_code 25 = .ok (.lload_n 2, 1) := by decide +kernel
theorem d2_26 : decode method_3_code 26 = .ok (.ldc2_w 17, 3) := by decide +kernel
theorem d2_29 : decode method_3_code 29 = .ok (.invokestatic 11, 3) := by decide +kernel
theorem d2_32 : decode method_3_code 32 = .ok (.lmul, 1) := by decide +kernel
theorem d2_33 : decode method_3_code 33 = .ok (.lstore_n 2, 1) := by decide +kernel
theorem d2_34 : decode method_3_code 34 = .ok (.lload_n 2, 1) := by decide +kernel
theorem d2_35 : decode method_3_code 35 = .ok (.lload_n 2, 1) := by decide +kernel
theorem d2_36 : decode method_3_code 36 = .ok (.bipush 33, 2) := by decide +kernel
theorem d2_38 : decode method_3_code 38 = .ok (.lushr, 1) := by decide +kernel
theorem d2_39 : decode method_3_code 39 = .ok (.lxor, 1) := by decide +kernel
theorem d2_40 : decode method_3_code 40 = .ok (.lstore_n 2, 1) := by decide +kernel
theorem d2_41 : decode method_3_code 41 = .ok (.lload_n 2, 1) := by decide +kernel
theorem d2_42 : decode method_3_code 42 = .ok (.lreturn, 1) := by decide +kernel
theorem ef_rm2 (m : MethodId) (q : Int64) : entryFrame m #[(.long q)] 4 = mkF m 0 #[.val (.long q), .second, .unset, .unset] [] := by first | (simp [entryFrame, mkF, argsToLocals, Value.category]; done) | rfl
def v_rm2_0 (q : Int64) : Int64 := ((q ^^^ (jushrL q (33 : Int32))) * (f_rm3 (-4265267296055464877 : Int64)))
def v_rm2_1 (q : Int64) : Int64 := ((v_rm2_0 q) ^^^ (jushrL (v_rm2_0 q) (33 : Int32)))
def v_rm2_2 (q : Int64) : Int64 := ((v_rm2_1 q) * (f_rm3 (-49064778989728563 : Int64)))
def v_rm2_3 (q : Int64) : Int64 := ((v_rm2_2 q) ^^^ (jushrL (v_rm2_2 q) (33 : Int32)))
def f_rm2 (q : Int64) : Int64 := (v_rm2_3 q)
def Q_rm2 (Z : State) (q : Int64) (h0 : Heap) (n0 : Nat) (v : Option Value) (h : Heap) (L : List Loc) : Prop := v = some (.long (f_rm2 q)) ∧ Fr n0 L ∧ h = h0
set_option maxRecDepth 65536 in
set_option maxHeartbeats 40000000 in
theorem rm2 (l : Launch) (Z : State) (a0 : Array Value) (hw : ∀ d ∈ tables_1, d.before a0 Z = true) (ws : List Jvm.Cond) (q : Int64) (h0 : Heap) (n0 : Nat) (Z0 : n0 ≤ h0.size)  :
    MetFree l (⟨"com/example/lambro/lambro/HashesSpreadPinLaw", "unspread", "(J)J"⟩ : MethodName) (head1 (Jvm.Cond.code (⟨"com/example/lambro/lambro/HashesSpreadPinLaw", "unspread", "(J)J"⟩ : MethodName) method_3_code 4 (some .long) :: ws) ({ frames := 1, cells := 0, slots := 0, locals := 17 } : Room)) (fun a U => a = #[(.long q)] ∧ Z.Warmed39 U.vm ∧ U.heap = h0) (fun _ _ _ _ _ => True) (fun _ U o U' => ∃ v L, o = .returned v ∧ Q_rm2 Z q h0 n0 v U'.heap L ∧ FrameEnd U o U' L ({ frames := 1, cells := 0, slots := 0, locals := 17 } : Room).cells ({ frames := 1, cells := 0, slots := 0, locals := 17 } : Room).slots) := by
  refine own_body (Q := Q_rm2 Z q h0 n0) (plainFor_of_name pn_5) ?_
  intro p e s m below meth c s₁ K go fin X0 hx hby hml hown hnm hret hZ e0
  have hown : s.vm.findClass "com/example/lambro/lambro/HashesSpreadPinLaw" = some m.cls := hown
  have N0 := Fr.nil n0
  refine go _ (s₁.setTop (mkF m 0 #[.val (.long q), .second, .unset, .unset] [])) (fun t k => castTop (ef_rm2 m q) k) ?_
  refine go _ (s₁.setTop (mkF m 1 #[.val (.long q), .second, .unset, .unset] [(.long q)])) (fun t k => XS.lloadN X0.here hx rfl (hb hby d2_0) rfl k) ?_
  refine go _ (s₁.setTop (mkF m 2 #[.val (.long q), .second, .val (.long q), .second] [])) (fun t k => XS.lstoreN X0.here hx rfl (hb hby d2_1) rfl (l' := #[.val (.long q), .second, .val (.long q), .second]) rfl k) ?_
  refine go _ (s₁.setTop (mkF m 3 #[.val (.long q), .second, .val (.long q), .second] [(.long q)])) (fun t k => XS.lloadN X0.here hx rfl (hb hby d2_2) rfl k) ?_
  refine go _ (s₁.setTop (mkF m 4 #[.val (.long q), .second, .val (.long q), .second] [(.long q), (.long q)])) (fun t k => XS.lloadN X0.here hx rfl (hb hby d2_3) rfl k) ?_
  refine go _ (s₁.setTop (mkF m 6 #[.val (.long q), .second, .val (.long q), .second] [(.int (33 : Int32)), (.long q), (.long q)])) (fun t k => XS.bipush X0.here hx rfl (hb hby d2_4) k) ?_
  refine go _ (s₁.setTop (mkF m 7 #[.val (.long q), .second, .val (.long q), .second] [(.long (jushrL q (33 : Int32))), (.long q)])) (fun t k => XS.lushr X0.here hx rfl (hb hby d2_6) rfl k) ?_
  refine go _ (s₁.setTop (mkF m 8 #[.val (.long q), .second, .val (.long q), .second] [(.long (q ^^^ (jushrL q (33 : Int32))))])) (fun t k => XS.lxor X0.here hx rfl (hb hby d2_7) rfl k) ?_
  refine go _ (s₁.setTop (mkF m 9 #[.val (.long q), .second, .val (.long (q ^^^ (jushrL q (33 : Int32)))), .second] [])) (fun t k => XS.lstoreN X0.here hx rfl (hb hby d2_8) rfl (l' := #[.val (.long q), .second, .val (.long (q ^^^ (jushrL q (33 : Int32)))), .second]) rfl k) ?_
  refine go _ (s₁.setTop (mkF m 10 #[.val (.long q), .second, .val (.long (q ^^^ (jushrL q (33 : Int32)))), .second] [(.long (q ^^^ (jushrL q (33 : Int32))))])) (fun t k => XS.lloadN X0.here hx rfl (hb hby d2_9) rfl k) ?_
  refine go _ (s₁.setTop (mkF m 13 #[.val (.long q), .second, .val (.long (q ^^^ (jushrL q (33 : Int32)))), .second] [(.long (-4265267296055464877 : Int64)), (.long (q ^^^ (jushrL q (33 : Int32))))])) (X0.ldc2Long hx hown (mvT hZ (hw _ (List.mem_of_getElem? (i := 10) rfl))) (g := (mkF m 10 #[.val (.long q), .second, .val (.long (q ^^^ (jushrL q (33 : Int32)))), .second] [(.long (q ^^^ (jushrL q (33 : Int32))))])) rfl (hb hby d2_10)) ?_
  obtain ⟨_, _, ⟨T1, L1, k1, n1⟩, -, X1, ⟨Lc1, hQ1, l1, y1, z1⟩, st1⟩ := Jvm.LawKit.callS X0 hx (y := (⟨"com/example/lambro/lambro/HashesSpreadPinLaw", "inverse", "(J)J"⟩ : MethodName)) hown (mvT hZ (hw _ (List.mem_of_getElem? (i := 11) rfl))) (mvT hZ (hw _ (List.mem_of_getElem? (i := 12) rfl))) (mvT hZ (hw _ (List.mem_of_getElem? (i := 8) rfl))) (mvT hZ (hw _ (List.mem_of_getElem? (i := 13) rfl))) (by decide) (backOf (W := 2) (rm3 l Z a0 hw [] (-4265267296055464877 : Int64)  h0 n0 Z0 ) hZ (hw _ (List.mem_of_getElem? (i := 13) rfl)) (hw _ (List.mem_of_getElem? (i := 8) rfl)) (by decide) (by decide)) (g := (mkF m 13 #[.val (.long q), .second, .val (.long (q ^^^ (jushrL q (33 : Int32)))), .second] [(.long (-4265267296055464877 : Int64)), (.long (q ^^^ (jushrL q (33 : Int32))))])) rfl (by rw [hml]; rfl) (argsL := [(.long (-4265267296055464877 : Int64))]) (rest := [(.long (q ^^^ (jushrL q (33 : Int32))))]) (lenOf pd_1 rfl) rfl (by show 2 * 0 + _ ≤ _; exact Nat.le_of_eq rfl) (hb hby d2_13) (fun _ _ => ⟨rfl, e0, (by decide : 0 + 0 ≤ _), (by decide : 0 + 0 ≤ _)⟩)
  dsimp only [Pt.U, Pt.locs, Pt.cells, Pt.slots] at X1 l1 y1 z1 st1 hQ1
  subst l1 y1 z1
  obtain ⟨rfl, Nq1, hh1⟩ := hQ1
  have N2 := Fr.app N0 Nq1
  refine go _ (T1.setTop (mkF m 16 #[.val (.long q), .second, .val (.long (q ^^^ (jushrL q (33 : Int32)))), .second] [(.long (f_rm3 (-4265267296055464877 : Int64))), (.long (q ^^^ (jushrL q (33 : Int32))))])) (st1) ?_
  refine go _ (T1.setTop (mkF m 17 #[.val (.long q), .second, .val (.long (q ^^^ (jushrL q (33 : Int32)))), .second] [(.long ((q ^^^ (jushrL q (33 : Int32))) * (f_rm3 (-4265267296055464877 : Int64))))])) (fun t k => XS.lmul X1.here hx rfl (hb hby d2_16) rfl k) ?_
  refine go _ (T1.setTop (mkF m 18 #[.val (.long q), .second, .val (.long (v_rm2_0 q)), .second] [])) (fun t k => XS.lstoreN X1.here hx rfl (hb hby d2_17) rfl (l' := #[.val (.long q), .second, .val (.long (v_rm2_0 q)), .second]) rfl k) ?_
  refine go _ (T1.setTop (mkF m 19 #[.val (.long q), .second, .val (.long (v_rm2_0 q)), .second] [(.long (v_rm2_0 q))])) (fun t k => XS.lloadN X1.here hx rfl (hb hby d2_18) rfl k) ?_
  refine go _ (T1.setTop (mkF m 20 #[.val (.long q), .second, .val (.long (v_rm2_0 q)), .second] [(.long (v_rm2_0 q)), (.long (v_rm2_0 q))])) (fun t k => XS.lloadN X1.here hx rfl (hb hby d2_19) rfl k) ?_
  refine go _ (T1.setTop (mkF m 22 #[.val (.long q), .second, .val (.long (v_rm2_0 q)), .second] [(.int (33 : Int32)), (.long (v_rm2_0 q)), (.long (v_rm2_0 q))])) (fun t k => XS.bipush X1.here hx rfl (hb hby d2_20) k) ?_
  refine go _ (T1.setTop (mkF m 23 #[.val (.long q), .second, .val (.long (v_rm2_0 q)), .second] [(.long (jushrL (v_rm2_0 q) (33 : Int32))), (.long (v_rm2_0 q))])) (fun t k => XS.lushr X1.here hx rfl (hb hby d2_22) rfl k) ?_
  refine go _ (T1.setTop (mkF m 24 #[.val (.long q), .second, .val (.long (v_rm2_0 q)), .second] [(.long ((v_rm2_0 q) ^^^ (jushrL (v_rm2_0 q) (33 : Int32))))])) (fun t k => XS.lxor X1.here hx rfl (hb hby d2_23) rfl k) ?_
  refine go _ (T1.setTop (mkF m 25 #[.val (.long q), .second, .val (.long (v_rm2_1 q)), .second] [])) (fun t k => XS.lstoreN X1.here hx rfl (hb hby d2_24) rfl (l' := #[.val (.long q), .second, .val (.long (v_rm2_1 q)), .second]) rfl k) ?_
  refine go _ (T1.setTop (mkF m 26 #[.val (.long q), .second, .val (.long (v_rm2_1 q)), .second] [(.long (v_rm2_1 q))])) (fun t k => XS.lloadN X1.here hx rfl (hb hby d2_25) rfl k) ?_
  refine go _ (T1.setTop (mkF m 29 #[.val (.long q), .second, .val (.long (v_rm2_1 q)), .second] [(.long (-49064778989728563 : Int64)), (.long (v_rm2_1 q))])) (X1.ldc2Long hx hown (mvT hZ (hw _ (List.mem_of_getElem? (i := 15) rfl))) (g := (mkF m 26 #[.val (.long q), .second, .val (.long (v_rm2_1 q)), .second] [(.long (v_rm2_1 q))])) rfl (hb hby d2_26)) ?_
  obtain ⟨_, _, ⟨T3, L3, k3, n3⟩, -, X3, ⟨Lc3, hQ3, l3, y3, z3⟩, st3⟩ := Jvm.LawKit.callS X1 hx (y := (⟨"com/example/lambro/lambro/HashesSpreadPinLaw", "inverse", "(J)J"⟩ : MethodName)) hown (mvT hZ (hw _ (List.mem_of_getElem? (i := 11) rfl))) (mvT hZ (hw _ (List.mem_of_getElem? (i := 12) rfl))) (mvT hZ (hw _ (List.mem_of_getElem? (i := 8) rfl))) (mvT hZ (hw _ (List.mem_of_getElem? (i := 13) rfl))) (by decide) (backOf (W := 2) (rm3 l Z a0 hw [] (-49064778989728563 : Int64)  h0 n0 Z0 ) hZ (hw _ (List.mem_of_getElem? (i := 13) rfl)) (hw _ (List.mem_of_getElem? (i := 8) rfl)) (by decide) (by decide)) (g := (mkF m 29 #[.val (.long q), .second, .val (.long (v_rm2_1 q)), .second] [(.long (-49064778989728563 : Int64)), (.long (v_rm2_1 q))])) rfl (by rw [hml]; rfl) (argsL := [(.long (-49064778989728563 : Int64))]) (rest := [(.long (v_rm2_1 q))]) (lenOf pd_1 rfl) rfl (by show 2 * 0 + _ ≤ _; exact Nat.le_of_eq rfl) (hb hby d2_29) (fun _ _ => ⟨rfl, hh1, (by decide : 0 + 0 ≤ _), (by decide : 0 + 0 ≤ _)⟩)
  dsimp only [Pt.U, Pt.locs, Pt.cells, Pt.slots] at X3 l3 y3 z3 st3 hQ3
  subst l3 y3 z3
  obtain ⟨rfl, Nq3, hh3⟩ := hQ3
  have N4 := Fr.app N2 Nq3
  refine go _ (T3.setTop (mkF m 32 #[.val (.long q), .second, .val (.long (v_rm2_1 q)), .second] [(.long (f_rm3 (-49064778989728563 : Int64))), (.long (v_rm2_1 q))])) (st3) ?_
  refine go _ (T3.setTop (mkF m 33 #[.val (.long q), .second, .val (.long (v_rm2_1 q)), .second] [(.long ((v_rm2_1 q) * (f_rm3 (-49064778989728563 : Int64))))])) (fun t k => XS.lmul X3.here hx rfl (hb hby d2_32) rfl k) ?_
  refine go _ (T3.setTop (mkF m 34 #[.val (.long q), .second, .val (.long (v_rm2_2 q)), .second] [])) (fun t k => XS.lstoreN X3.here hx rfl (hb hby d2_33) rfl (l' := #[.val (.long q), .second, .val (.long (v_rm2_2 q)), .second]) rfl k) ?_
  refine go _ (T3.setTop (mkF m 35 #[.val (.long q), .second, .val (.long (v_rm2_2 q)), .second] [(.long (v_rm2_2 q))])) (fun t k => XS.lloadN X3.here hx rfl (hb hby d2_34) rfl k) ?_
  refine go _ (T3.setTop (mkF m 36 #[.val (.long q), .second, .val (.long (v_rm2_2 q)), .second] [(.long (v_rm2_2 q)), (.long (v_rm2_2 q))])) (fun t k => XS.lloadN X3.here hx rfl (hb hby d2_35) rfl k) ?_
  refine go _ (T3.setTop (mkF m 38 #[.val (.long q), .second, .val (.long (v_rm2_2 q)), .second] [(.int (33 : Int32)), (.long (v_rm2_2 q)), (.long (v_rm2_2 q))])) (fun t k => XS.bipush X3.here hx rfl (hb hby d2_36) k) ?_
  refine go _ (T3.setTop (mkF m 39 #[.val (.long q), .second, .val (.long (v_rm2_2 q)), .second] [(.long (jushrL (v_rm2_2 q) (33 : Int32))), (.long (v_rm2_2 q))])) (fun t k => XS.lushr X3.here hx rfl (hb hby d2_38) rfl k) ?_
  refine go _ (T3.setTop (mkF m 40 #[.val (.long q), .second, .val (.long (v_rm2_2 q)), .second] [(.long ((v_rm2_2 q) ^^^ (jushrL (v_rm2_2 q) (33 : Int32))))])) (fun t k => XS.lxor X3.here hx rfl (hb hby d2_39) rfl k) ?_
  refine go _ (T3.setTop (mkF m 41 #[.val (.long q), .second, .val (.long (v_rm2_3 q)), .second] [])) (fun t k => XS.lstoreN X3.here hx rfl (hb hby d2_40) rfl (l' := #[.val (.long q), .second, .val (.long (v_rm2_3 q)), .second]) rfl k) ?_
  refine go _ (T3.setTop (mkF m 42 #[.val (.long q), .second, .val (.long (v_rm2_3 q)), .second] [(.long (v_rm2_3 q))])) (fun t k => XS.lloadN X3.here hx rfl (hb hby d2_41) rfl k) ?_
  exact fin (some (.long (v_rm2_3 q))) X3 (by decide) (by decide) (fun q => by cases q) (show Q_rm2 Z q h0 n0 _ T3.heap _ from (by rw [hh3]; exact ⟨congrArg some (congrArg Value.long (show (f_rm2 q) = (v_rm2_3 q) from rfl).symm), N4, rfl⟩)) (fun fs hr => retJ X3 hx hret (hb hby d2_42) hr)
section OwnBits
theorem own_xs2 {w : Nat} (k : Nat) (x : BitVec w) (hk : w ≤ k + k) : (x ^^^ (x >>> k)) ^^^ ((x ^^^ (x >>> k)) >>> k) = x := by
  apply BitVec.eq_of_getLsbD_eq
  intro i hi
  have h : x.getLsbD (k + (k + i)) = false := BitVec.getLsbD_of_ge _ _ (by omega)
  simp only [BitVec.getLsbD_xor, BitVec.getLsbD_ushiftRight, h]
  cases x.getLsbD i <;> cases x.getLsbD (k + i) <;> rfl
theorem own_xs3 {w : Nat} (k : Nat) (x : BitVec w) (hk : w ≤ k + k + k) : (x ^^^ (x >>> k)) ^^^ ((x ^^^ (x >>> k)) >>> k) ^^^ ((x ^^^ (x >>> k)) >>> (k + k)) = x := by
  apply BitVec.eq_of_getLsbD_eq
  intro i hi
  have h : x.getLsbD (k + (k + k + i)) = false := BitVec.getLsbD_of_ge _ _ (by omega)
  have h2 : k + k + i = k + (k + i) := by omega
  simp only [BitVec.getLsbD_xor, BitVec.getLsbD_ushiftRight, h]
  rw [h2]
  cases x.getLsbD i <;> cases x.getLsbD (k + i) <;> cases x.getLsbD (k + (k + i)) <;> rfl
theorem own_xs3' {w : Nat} (k : Nat) (x : BitVec w) (hk : w ≤ k + k + k) : (x ^^^ (x >>> k) ^^^ (x >>> (k + k))) ^^^ ((x ^^^ (x >>> k) ^^^ (x >>> (k + k))) >>> k) = x := by
  apply BitVec.eq_of_getLsbD_eq
  intro i hi
  have h : x.getLsbD (k + k + (k + i)) = false := BitVec.getLsbD_of_ge _ _ (by omega)
  have h2 : k + k + i = k + (k + i) := by omega
  simp only [BitVec.getLsbD_xor, BitVec.getLsbD_ushiftRight, h]
  rw [h2]
  cases x.getLsbD i <;> cases x.getLsbD (k + i) <;> cases x.getLsbD (k + (k + i)) <;> rfl
theorem own_ushrL (x : Int64) (y : Int32) (k : Nat) (h : ((y &&& 0x3f).toInt64.toUInt64 % 64).toBitVec.toNat = k) : (jushrL x y).toBitVec = x.toBitVec >>> k := by
  subst h; rfl
theorem own_ushr (x : Int32) (y : Int32) (k : Nat) (h : ((y &&& 31).toUInt32 % 32).toBitVec.toNat = k) : (jushr x y).toBitVec = x.toBitVec >>> k := by
  subst h; rfl
theorem own_xsL (x : Int64) (y : Int32) (k : Nat) (h : ((y &&& 0x3f).toInt64.toUInt64 % 64).toBitVec.toNat = k) (hk : 64 ≤ k + k) : (x ^^^ jushrL x y) ^^^ jushrL (x ^^^ jushrL x y) y = x := by
  apply Int64.toBitVec_inj.mp
  rw [Int64.toBitVec_xor, own_ushrL _ y k h, Int64.toBitVec_xor, own_ushrL _ y k h]
  exact own_xs2 k _ hk
end OwnBits
section OwnBits32
theorem own_xsI (x : Int32) (y : Int32) (k : Nat) (h : ((y &&& 31).toUInt32 % 32).toBitVec.toNat = k) (hk : 32 ≤ k + k) : (x ^^^ jushr x y) ^^^ jushr (x ^^^ jushr x y) y = x := by
  apply Int32.toBitVec_inj.mp
  rw [Int32.toBitVec_xor, own_ushr _ y k h, Int32.toBitVec_xor, own_ushr _ y k h]
  exact own_xs2 k _ hk
theorem own_xsI3 (x : Int32) (y z : Int32) (k : Nat) (h : ((y &&& 31).toUInt32 % 32).toBitVec.toNat = k) (h2 : ((z &&& 31).toUInt32 % 32).toBitVec.toNat = k + k) (hk : 32 ≤ k + k + k) : ((x ^^^ jushr x y) ^^^ jushr (x ^^^ jushr x y) y) ^^^ jushr (x ^^^ jushr x y) z = x := by
  apply Int32.toBitVec_inj.mp
  rw [Int32.toBitVec_xor, Int32.toBitVec_xor, own_ushr _ y k h, own_ushr _ z (k + k) h2, Int32.toBitVec_xor, own_ushr _ y k h]
  exact own_xs3 k _ hk
theorem own_xsI3' (x : Int32) (y z : Int32) (k : Nat) (h : ((y &&& 31).toUInt32 % 32).toBitVec.toNat = k) (h2 : ((z &&& 31).toUInt32 % 32).toBitVec.toNat = k + k) (hk : 32 ≤ k + k + k) : (x ^^^ jushr x y ^^^ jushr x z) ^^^ jushr (x ^^^ jushr x y ^^^ jushr x z) y = x := by
  apply Int32.toBitVec_inj.mp
  rw [Int32.toBitVec_xor, own_ushr _ y k h, Int32.toBitVec_xor, Int32.toBitVec_xor, own_ushr _ y k h, own_ushr _ z (k + k) h2]
  exact own_xs3' k _ hk
theorem own_xsL3 (x : Int64) (y z : Int32) (k : Nat) (h : ((y &&& 0x3f).toInt64.toUInt64 % 64).toBitVec.toNat = k) (h2 : ((z &&& 0x3f).toInt64.toUInt64 % 64).toBitVec.toNat = k + k) (hk : 64 ≤ k + k + k) : ((x ^^^ jushrL x y) ^^^ jushrL (x ^^^ jushrL x y) y) ^^^ jushrL (x ^^^ jushrL x y) z = x := by
  apply Int64.toBitVec_inj.mp
  rw [Int64.toBitVec_xor, Int64.toBitVec_xor, own_ushrL _ y k h, own_ushrL _ z (k + k) h2, Int64.toBitVec_xor, own_ushrL _ y k h]
  exact own_xs3 k _ hk
end OwnBits32
theorem own_law (q : Int64) : f_rm2 (f_rm1 q) = q := by
  have c1 : (-49064778989728563 : Int64) * f_rm3 (-49064778989728563) = 1 := by decide +kernel
  have c2 : (-4265267296055464877 : Int64) * f_rm3 (-4265267296055464877) = 1 := by decide +kernel
  have a1 : v_rm2_0 (f_rm1 q) = v_rm1_0 q ^^^ jushrL (v_rm1_0 q) 33 := by
    have t : f_rm1 q ^^^ jushrL (f_rm1 q) 33 = v_rm1_1 q := own_xsL (v_rm1_1 q) 33 33 (by decide +kernel) (by decide)
    unfold v_rm2_0
    rw [t]
    unfold v_rm1_1
    rw [Int64.mul_assoc, c2, Int64.mul_one]
  have a2 : v_rm2_1 (f_rm1 q) = v_rm1_0 q := by
    unfold v_rm2_1
    rw [a1]
    exact own_xsL (v_rm1_0 q) 33 33 (by decide +kernel) (by decide)
  have a3 : v_rm2_2 (f_rm1 q) = q ^^^ jushrL q 33 := by
    unfold v_rm2_2
    rw [a2]
    unfold v_rm1_0
    rw [Int64.mul_assoc, c1, Int64.mul_one]
  show v_rm2_3 (f_rm1 q) = q
  unfold v_rm2_3
  rw [a3]
  exact own_xsL q 33 33 (by decide +kernel) (by decide)
theorem ef_rm0 (m : MethodId) (q : Int64) : entryFrame m #[(.long q)] maxLocals = mkF m 0 #[.val (.long q), .second, .unset, .unset] [] := by first | (simp [entryFrame, mkF, argsToLocals, Value.category, maxLocals]; done) | rfl
def Q_rm0 (Z : State) (q : Int64) (h0 : Heap) (n0 : Nat) (v : Option Value) (h : Heap) (L : List Loc) : Prop := v = some (.int (1 : Int32)) ∧ Fr n0 L
set_option maxRecDepth 65536 in
set_option maxHeartbeats 40000000 in
theorem rm0 (l : Launch) (Z : State) (a0 : Array Value) (hw : ∀ d ∈ tables_1, d.before a0 Z = true) (ws : List Jvm.Cond) (q : Int64) (h0 : Heap) (n0 : Nat) (Z0 : n0 ≤ h0.size)  :
    MetFree l x (head1 (Jvm.Cond.code x code maxLocals ret :: ws) room_1) (fun a U => a = #[(.long q)] ∧ Z.Warmed39 U.vm ∧ U.heap = h0) (fun _ _ _ _ _ => True) (fun _ U o U' => ∃ v L, o = .returned v ∧ Q_rm0 Z q h0 n0 v U'.heap L ∧ FrameEnd U o U' L room_1.cells room_1.slots) := by
  refine own_body (Q := Q_rm0 Z q h0 n0) (plainFor_of_name pn_5) ?_
  intro p e s m below meth c s₁ K go fin X0 hx hby hml hown hnm hret hZ e0
  have hown : s.vm.findClass "com/example/lambro/lambro/HashesSpreadPinLaw" = some m.cls := hown
  have N0 := Fr.nil n0
  refine go _ (s₁.setTop (mkF m 0 #[.val (.long q), .second, .unset, .unset] [])) (fun t k => castTop (ef_rm0 m q) k) ?_
  refine go _ (s₁.setTop (mkF m 1 #[.val (.long q), .second, .unset, .unset] [(.long q)])) (fun t k => XS.lloadN X0.here hx rfl (hb hby at_0) rfl k) ?_
  obtain ⟨_, _, ⟨T5, L5, k5, n5⟩, -, X5, ⟨Lc5, hQ5, l5, y5, z5⟩, st5⟩ := Jvm.LawKit.callS X0 hx (y := (⟨"com/example/lambro/lambro/Hashes", "spread", "(J)J"⟩ : MethodName)) hown (mvT hZ (hw _ (List.mem_of_getElem? (i := 0) rfl))) (mvT hZ (hw _ (List.mem_of_getElem? (i := 1) rfl))) (mvT hZ (hw _ (List.mem_of_getElem? (i := 2) rfl))) (mvT hZ (hw _ (List.mem_of_getElem? (i := 3) rfl))) (by decide) (backOf (W := 0) (rm1 l Z a0 hw [] q  h0 n0 Z0 ) hZ (hw _ (List.mem_of_getElem? (i := 3) rfl)) (hw _ (List.mem_of_getElem? (i := 2) rfl)) (by decide) (by decide)) (g := (mkF m 1 #[.val (.long q), .second, .unset, .unset] [(.long q)])) rfl (by rw [hml]; rfl) (argsL := [(.long q)]) (rest := []) (lenOf pd_1 rfl) rfl (by show 2 * 0 + _ ≤ _; exact Nat.le_of_eq rfl) (hb hby at_1) (fun _ _ => ⟨rfl, e0, (by decide : 0 + 0 ≤ _), (by decide : 0 + 0 ≤ _)⟩)
  dsimp only [Pt.U, Pt.locs, Pt.cells, Pt.slots] at X5 l5 y5 z5 st5 hQ5
  subst l5 y5 z5
  obtain ⟨rfl, Nq5, hh5⟩ := hQ5
  have N6 := Fr.app N0 Nq5
  refine go _ (T5.setTop (mkF m 4 #[.val (.long q), .second, .unset, .unset] [(.long (f_rm1 q))])) (st5) ?_
  refine go _ (T5.setTop (mkF m 5 #[.val (.long q), .second, .val (.long (f_rm1 q)), .second] [])) (fun t k => XS.lstoreN X5.here hx rfl (hb hby at_4) rfl (l' := #[.val (.long q), .second, .val (.long (f_rm1 q)), .second]) rfl k) ?_
  refine go _ (T5.setTop (mkF m 6 #[.val (.long q), .second, .val (.long (f_rm1 q)), .second] [(.long (f_rm1 q))])) (fun t k => XS.lloadN X5.here hx rfl (hb hby at_5) rfl k) ?_
  obtain ⟨_, _, ⟨T7, L7, k7, n7⟩, -, X7, ⟨Lc7, hQ7, l7, y7, z7⟩, st7⟩ := Jvm.LawKit.callS X5 hx (y := (⟨"com/example/lambro/lambro/HashesSpreadPinLaw", "unspread", "(J)J"⟩ : MethodName)) hown (mvT hZ (hw _ (List.mem_of_getElem? (i := 6) rfl))) (mvT hZ (hw _ (List.mem_of_getElem? (i := 7) rfl))) (mvT hZ (hw _ (List.mem_of_getElem? (i := 8) rfl))) (mvT hZ (hw _ (List.mem_of_getElem? (i := 9) rfl))) (by decide) (backOf (W := 0) (rm2 l Z a0 hw [] (f_rm1 q)  h0 n0 Z0 ) hZ (hw _ (List.mem_of_getElem? (i := 9) rfl)) (hw _ (List.mem_of_getElem? (i := 8) rfl)) (by decide) (by decide)) (g := (mkF m 6 #[.val (.long q), .second, .val (.long (f_rm1 q)), .second] [(.long (f_rm1 q))])) rfl (by rw [hml]; rfl) (argsL := [(.long (f_rm1 q))]) (rest := []) (lenOf pd_1 rfl) rfl (by show 2 * 0 + _ ≤ _; exact Nat.le_of_eq rfl) (hb hby at_6) (fun _ _ => ⟨rfl, hh5, (by decide : 0 + 0 ≤ _), (by decide : 0 + 0 ≤ _)⟩)
  dsimp only [Pt.U, Pt.locs, Pt.cells, Pt.slots] at X7 l7 y7 z7 st7 hQ7
  subst l7 y7 z7
  obtain ⟨rfl, Nq7, hh7⟩ := hQ7
  have N8 := Fr.app N6 Nq7
  refine go _ (T7.setTop (mkF m 9 #[.val (.long q), .second, .val (.long (f_rm1 q)), .second] [(.long (f_rm2 (f_rm1 q)))])) (st7) ?_
  refine go _ (T7.setTop (mkF m 10 #[.val (.long q), .second, .val (.long (f_rm1 q)), .second] [(.long q), (.long (f_rm2 (f_rm1 q)))])) (fun t k => XS.lloadN X7.here hx rfl (hb hby at_9) rfl k) ?_
  refine go _ (T7.setTop (mkF m 11 #[.val (.long q), .second, .val (.long (f_rm1 q)), .second] [(.int (lcmpW (f_rm2 (f_rm1 q)) q))])) (fun t k => XS.lcmp X7.here hx rfl (hb hby at_10) rfl k) ?_
  have hc9 : ((f_rm2 (f_rm1 q)) = q) := own_law q
  refine go _ (T7.setTop (mkF m 14 #[.val (.long q), .second, .val (.long (f_rm1 q)), .second] [])) (fun t k => XS.ifNo X7.here hx rfl (hb hby at_11) rfl ((if0 _ _).trans (teq ((lw_eq (f_rm2 (f_rm1 q)) q).mpr hc9)).2) k) ?_
  refine go _ (T7.setTop (mkF m 15 #[.val (.long q), .second, .val (.long (f_rm1 q)), .second] [(.int (1 : Int32))])) (fun t k => XS.iconst X7.here hx rfl (hb hby at_14) k) ?_
  refine go _ (T7.setTop (mkF m 19 #[.val (.long q), .second, .val (.long (f_rm1 q)), .second] [(.int (1 : Int32))])) (fun t k => XS.goto X7.here hx rfl (pc0 := 15) (pc' := 19) rfl (hb hby at_15) (by decide) (by decide) k) ?_
  exact fin (some (.int (1 : Int32))) X7 (by decide) (by decide) (fun q => by cases q) (show Q_rm0 Z q h0 n0 _ T7.heap _ from (by rw [hh7]; exact ⟨rfl, N8⟩)) (fun fs hr => retN X7 hx (t := .boolean) hret (by simp) (hb hby at_19) hr)
set_option maxRecDepth 65536 in
set_option maxHeartbeats 40000000 in
theorem comes_1 {Post : Tables → Env → Array Value → State → Outcome → State → Prop} (hpost : ∀ tb e args s v u, (limb_1_1.after args s (.returned v) u = true ∧ limb_1_2.after args s (.returned v) u = true ∧ True) → FrameEnd s (.returned v) u (Jvm.fieldLocs frame_1_writes args s ++ Jvm.arrayLocs frame_1_arrays args s ++ Jvm.staticLocs frame_1_statics s) 0 0 → Post tb e args s (.returned v) u) :
    ArmFor flags0 classFile x code maxLocals ret World_1 tables_1 room_1 Calls_1 rest_1 Pre_1 Post := by
  intro l hfl _ _ p e ha hc hk s m args below hf hA hF happ hP
  obtain ⟨hcalls, hrest, hpre⟩ := hP
  obtain ⟨-, -, -, hnamed, -, -, -, hat⟩ := (Spec.applies_iff hf).mp happ
  obtain ⟨hg, hn⟩ := and_e (Cond.before_iff.mp (show (Jvm.Cond.and given_1 narrow_1).before args s = true from hpre))
  obtain ⟨gc, g1⟩ := and_e hg
  have ga0 := g1
  obtain ⟨w0, rfl⟩ : ∃ w0 : Value, args = #[w0] := by
    have hs : args.size = 1 := by simpa [Cond.value, given_1] using gc
    obtain ⟨L⟩ := args
    match L, hs with
    | [w0], _ => exact ⟨w0, rfl⟩
  have hw := fun d (hd : d ∈ tables_1) => atoms_spec (ws := Jvm.Cond.code x code maxLocals ret :: tables_1) hat d (List.mem_cons_of_mem _ hd)
  obtain ⟨i0, ei0⟩ := isL_v ga0
  obtain rfl : w0 = (.long i0) := Option.some.inj ei0
  obtain ⟨n, o, h1, h2, h3, _, L, rfl, ⟨rfl, N⟩, hq⟩ := rm0 l s _ hw tables_1 i0 s.heap s.heap.size (Nat.le_refl _) p e ha hc hk s m _ below hf ((Spec.applies_iff_loose hf).mp happ).1 ⟨rfl, State.Warmed39.refl s, rfl⟩ trivial
  refine ⟨n, _, h1, h2, h3, hpost _ _ _ _ _ _ ⟨Cond.after_iff.mpr rfl, Cond.after_iff.mpr (eq_i res_at (Term.int_eval (1)) rfl), trivial⟩ ⟨hq.1, hq.2.1, (hq.2.2.sift fun y hy => Or.inr (N y hy)).mono (by decide) (by decide)⟩⟩
theorem main_1_1 : Claimed_1_1 := comes_1 fun _ _ _ _ _ _ h hF => ⟨h.1, hF⟩
theorem main_1_2 : Claimed_1_2 := comes_1 fun _ _ _ _ _ _ h hF => ⟨h.2.1, hF⟩
end Jvm.Pilot.@@N@@
namespace Jvm.Pilot.@@N@@
open Jvm Jvm.ClassFile Sem Op Lib Jvm.Free Jvm.Stand Jvm.Pilot.@@N@@.Jvm.D
/-! MADE BY PROGRAM (witnessworld.py) out of the Statement's table words and the real class files: 9 classes; the members and pool entries that the words name. The judged class is class 1, her method 3. -/
namespace start1
open Jvm.ClassFile
def u (s : String) : CpInfo := .utf8 (stringToUtf16 s)
/-- a pool by its gaps: so many unusable entries, then the entry; so many at the end -/
def gap : Nat → List CpInfo → List CpInfo
  | 0, r => r
  | n + 1, r => .unusable :: gap n r
def poolList (es : List (Nat × CpInfo)) (last : Nat) : List CpInfo := es.foldr (fun e r => gap e.1 (e.2 :: r)) (gap last [])
def pool (es : List (Nat × CpInfo)) (last : Nat) : Array CpInfo := ⟨poolList es last⟩
def fileOf (pool : Array CpInfo) (this : Nat) (attrs : Array Attribute := #[]) (ms : Array MethodInfo := #[]) (fl : Nat := 33) (sup : Nat := 0) (ifs : Array Nat := #[]) (fds : Array FieldInfo := #[]) : ClassFile where
  minorVersion := 0
  majorVersion := 65
  constantPool := pool
  accessFlags := fl
  thisClass := this
  superClass := sup
  interfaces := ifs
  fields := fds
  methods := ms
  attributes := attrs
def plain (name : String) (sup : Option ClassId) : Class where
  name := name
  kind := .ordinary
  loader := none
  accessFlags := 33
  super := sup
  interfaces := #[]
  cf := none
  fields := #[]
  methods := #[]
  instanceTypes := #[]
  staticTypes := #[]
  resolved := #[]
  callSites := []
  init := .initialized
  statics := none
  mirror := none

def pool0 : Array CpInfo := pool [(5, u "<init>"), (0, u "()V"), (1, .class_ 10), (1, u "java/lang/Object")] 113

def k0m0 : Method := { name := "<init>", desc := "()V", sig := { parameters := [], returnType := none }, accessFlags := 1, code := none }
/-- java/lang/Object -/
def k0 : Class := { plain "java/lang/Object" none with
  accessFlags := 33
  interfaces := #[]
  cf := some (fileOf pool0 8 #[] #[{ accessFlags := 1, nameIndex := 5, descriptorIndex := 6, attributes := #[] }] 33 0 #[] #[])
  fields := #[]
  methods := #[k0m0]
  instanceTypes := #[]
  staticTypes := #[]
  resolved := Array.replicate 124 none
  statics := none }

def pool1 : Array CpInfo := pool [(2, .class_ 4), (1, u "java/lang/Object"), (0, u "<init>"), (0, u "()V"), (0, .long 2), (1, .long 14181476777654086739), (1, .methodref 12 13), (0, .class_ 14), (0, .nameAndType 15 16), (0, u "com/example/lambro/lambro/HashesSpreadPinLaw"), (0, u "inverse"), (0, u "(J)J"), (0, .long 18397679294719823053), (1, .methodref 20 21), (0, .class_ 22), (0, .nameAndType 23 16), (0, u "com/example/lambro/lambro/Hashes"), (0, u "spread"), (0, .methodref 12 25), (0, .nameAndType 26 16), (0, u "unspread"), (2, u "law"), (0, u "(J)Z")] 3

def k1m0 : Method := { name := "<init>", desc := "()V", sig := { parameters := [], returnType := none }, accessFlags := 2, code := none }
def k1c1 : Code := { maxStack := 8, maxLocals := 4, code := method_2_code, exceptionTable := #[], attributes := #[] }
def k1m1 : Method := { name := "inverse", desc := "(J)J", sig := { parameters := [.long], returnType := some .long }, accessFlags := 10, code := some k1c1 }
def k1c2 : Code := { maxStack := 5, maxLocals := 4, code := method_3_code, exceptionTable := #[], attributes := #[] }
def k1m2 : Method := { name := "unspread", desc := "(J)J", sig := { parameters := [.long], returnType := some .long }, accessFlags := 10, code := some k1c2 }
def k1c3 : Code := { maxStack := 4, maxLocals := 4, code := code, exceptionTable := #[], attributes := #[] }
def k1m3 : Method := { name := "law", desc := "(J)Z", sig := { parameters := [.long], returnType := some .boolean }, accessFlags := 9, code := some k1c3 }
/-- com/example/lambro/lambro/HashesSpreadPinLaw -/
def k1 : Class := { plain "com/example/lambro/lambro/HashesSpreadPinLaw" (some 0) with
  accessFlags := 49
  interfaces := #[]
  cf := some (fileOf pool1 12 #[] #[{ accessFlags := 2, nameIndex := 5, descriptorIndex := 6, attributes := #[] }, { accessFlags := 10, nameIndex := 15, descriptorIndex := 16, attributes := #[] }, { accessFlags := 10, nameIndex := 26, descriptorIndex := 16, attributes := #[] }, { accessFlags := 9, nameIndex := 29, descriptorIndex := 30, attributes := #[] }] 49 2 #[] #[])
  fields := #[]
  methods := #[k1m0, k1m1, k1m2, k1m3]
  instanceTypes := #[]
  staticTypes := #[]
  resolved := Array.replicate 34 none
  statics := none }

def pool2 : Array CpInfo := pool [(2, .class_ 4), (1, u "java/lang/Object"), (0, u "<init>"), (0, u "()V"), (8, .class_ 16), (0, u "com/example/lambro/lambro/Hashes"), (16, .long 18397679294719823053), (1, .long 14181476777654086739), (1, u "PRIME"), (0, u "J"), (8, u "spread"), (0, u "(J)J")] 2

def k2m0 : Method := { name := "<init>", desc := "()V", sig := { parameters := [], returnType := none }, accessFlags := 2, code := none }
def k2c1 : Code := { maxStack := 5, maxLocals := 4, code := prog_21_method_5_code, exceptionTable := #[], attributes := #[] }
def k2m1 : Method := { name := "spread", desc := "(J)J", sig := { parameters := [.long], returnType := some .long }, accessFlags := 8, code := some k2c1 }
/-- com/example/lambro/lambro/Hashes -/
def k2 : Class := { plain "com/example/lambro/lambro/Hashes" (some 0) with
  accessFlags := 48
  interfaces := #[]
  cf := some (fileOf pool2 15 #[] #[{ accessFlags := 2, nameIndex := 5, descriptorIndex := 6, attributes := #[] }, { accessFlags := 8, nameIndex := 47, descriptorIndex := 48, attributes := #[] }] 48 2 #[] #[{ accessFlags := 26, nameIndex := 37, descriptorIndex := 38, attributes := #[] }])
  fields := #[{ name := "PRIME", type := .long, accessFlags := 26, slot := 0, constantValue := 0 }]
  methods := #[k2m0, k2m1]
  instanceTypes := #[]
  staticTypes := #[.long]
  resolved := Array.replicate 51 none
  statics := none }

def pool3 : Array CpInfo := pool [(1, u "java/lang/Cloneable"), (0, .class_ 1), (0, u "java/lang/Object"), (0, .class_ 3)] 3

/-- java/lang/Cloneable -/
def k3 : Class := { plain "java/lang/Cloneable" (some 0) with
  accessFlags := 1537
  interfaces := #[]
  cf := some (fileOf pool3 2 #[] #[] 1537 4 #[] #[])
  fields := #[]
  methods := #[]
  instanceTypes := #[]
  staticTypes := #[]
  resolved := Array.replicate 8 none
  statics := none }

def pool4 : Array CpInfo := pool [(1, u "java/io/Serializable"), (0, .class_ 1), (0, u "java/lang/Object"), (0, .class_ 3)] 3

/-- java/io/Serializable -/
def k4 : Class := { plain "java/io/Serializable" (some 0) with
  accessFlags := 1537
  interfaces := #[]
  cf := some (fileOf pool4 2 #[] #[] 1537 4 #[] #[])
  fields := #[]
  methods := #[]
  instanceTypes := #[]
  staticTypes := #[]
  resolved := Array.replicate 8 none
  statics := none }

/-- the primitive byte -/
def k5 : Class := { plain "byte" none with kind := .primitive 'B', accessFlags := 0x411 }
/-- [B -/
def k6 : Class := { plain "[B" (some 0) with kind := .array 5 .byte, interfaces := #[3, 4], accessFlags := 1041 }

/-- the primitive int -/
def k7 : Class := { plain "int" none with kind := .primitive 'I', accessFlags := 0x411 }
/-- [I -/
def k8 : Class := { plain "[I" (some 0) with kind := .array 7 .int, interfaces := #[3, 4], accessFlags := 1041 }

def heap : Heap := #[]
def classes : Array Class := #[k0, k1, k2, k3, k4, k5, k6, k7, k8]
def interned : List (Array UInt16 × Addr) := []
def slotsUsed : Nat := 0
def theMethod : MethodId := ⟨1, 3⟩
def args0 : Array Value := #[.long 5]
def aboutOver (below : List Frame) : State where
  vm := { classes := classes, interned := interned.toArray }
  heap := heap
  slotsUsed := slotsUsed
  threads := #[{ frames := .invoking theMethod args0 :: below }]
def below0 : List Frame := [.native { method := ⟨0, 0⟩, args := #[] }]
def about1 : State := aboutOver below0
def p0 : Program := .bare "" "" ""
def e0 : Env := launch0.env 0 0 0
theorem w_frames : about1.frames = Frame.invoking theMethod args0 :: below0 := rfl
set_option maxRecDepth 65536 in
theorem w_args : argsFit about1.vm theMethod args0 = true := by decide +kernel
set_option maxRecDepth 65536 in
theorem w_heap : heapFits about1 = true := by decide +kernel
set_option maxRecDepth 65536 in
theorem w_runnable : about1.curStatus? = some .runnable := by decide +kernel
set_option maxRecDepth 65536 in
theorem w_alone : about1.alone = true := by decide +kernel
set_option maxRecDepth 65536 in
theorem w_named : about1.methodNamed? x = some theMethod := by decide +kernel
set_option maxRecDepth 65536 in
theorem w_hears : about1.hears theMethod below0 = true := by decide +kernel
set_option maxRecDepth 65536 in
theorem w_ripe : about1.ripe theMethod args0 below0 = true := by decide +kernel
theorem w_running : about1.status = .running := rfl
set_option maxRecDepth 65536 in
theorem w_room : about1.hasRoom e0.platform room_1 = true :=
  launch0.hasRoom_least _ room_1 (by decide +kernel) (by decide +kernel) (by decide +kernel) (by decide +kernel) (by decide +kernel) (by decide +kernel)
theorem allAtoms_all (ts : List Jvm.Cond) (a : Array Jvm.Value) (st : Jvm.State) : (allAtoms ts).before a st = ts.all (fun c => c.before a st) := by
  induction ts with
  | nil => rfl
  | cons c t ih =>
    show (Jvm.Cond.and c (allAtoms t)).before a st = _
    rw [Jvm.Cond.before_and, ih, List.all_cons]
def words1 : List Jvm.Cond := Jvm.Cond.code x code maxLocals ret :: tables_1
/-- a 'code' word, met by the world's own term for the bytes: nothing is compared byte by byte -/
theorem code_word {y : MethodName} {bytes : ByteArray} {mx : Nat} {rt : Option FieldType} {a : Array Value} {s : State} {m : MethodId} {meth : Method} {c : Code} (h1 : s.methodNamed? y = some m) (h2 : s.vm.method? m = some meth) (h3 : meth.code = some c) (h4 : c.code = bytes)
    (h5 : (c.maxLocals == mx && c.exceptionTable.isEmpty && decide (c.maxStack ≤ mostOperands) && decide (meth.sig.returnType = rt) && !meth.locks && decide (parseMethodDescriptor y.desc = some meth.sig)) = true) : (Jvm.Cond.code y bytes mx rt).before a s = true := by
  simp only [Bool.and_eq_true, beq_iff_eq, Bool.not_eq_true', decide_eq_true_eq] at h5
  obtain ⟨⟨⟨⟨⟨g1, g2⟩, g3⟩, g4⟩, g5⟩, g6⟩ := h5
  simp [Cond.before, Cond.holds, Cond.value, h1, h2, h3, h4, g1, g2, g3, g4, g5, g6]
def isCode : Jvm.Cond → Bool
  | .code _ _ _ _ => true
  | _ => false
theorem all_split {L : List Jvm.Cond} {P : Jvm.Cond → Bool} (h1 : L.all (fun c => isCode c || P c) = true) (h2 : ∀ c ∈ L.filter isCode, P c = true) : L.all P = true := by
  refine List.all_eq_true.mpr fun c hc => ?_
  have h := List.all_eq_true.mp h1 c hc
  rcases Bool.eq_false_or_eq_true (isCode c) with hi | hi
  · exact h2 c (List.mem_filter.mpr ⟨hc, hi⟩)
  · simpa [hi] using h
set_option maxRecDepth 65536 in
theorem w_c0 : (Jvm.Cond.code x code maxLocals ret).before args0 about1 = true := code_word (m := ⟨1, 3⟩) (meth := k1m3) (c := k1c3) (by decide +kernel) rfl rfl rfl (by decide +kernel)
set_option maxRecDepth 65536 in
theorem w_c1 : (Jvm.Cond.code ({ cls := "com/example/lambro/lambro/Hashes", name := "spread", desc := "(J)J" } : Jvm.MethodName) prog_21_method_5_code (4 : Nat) (Option.some Jvm.ClassFile.FieldType.long)).before args0 about1 = true := code_word (m := ⟨2, 1⟩) (meth := k2m1) (c := k2c1) (by decide +kernel) rfl rfl rfl (by decide +kernel)
set_option maxRecDepth 65536 in
theorem w_c2 : (Jvm.Cond.code ({ cls := "com/example/lambro/lambro/HashesSpreadPinLaw", name := "unspread", desc := "(J)J" } : Jvm.MethodName) method_3_code (4 : Nat) (Option.some Jvm.ClassFile.FieldType.long)).before args0 about1 = true := code_word (m := ⟨1, 2⟩) (meth := k1m2) (c := k1c2) (by decide +kernel) rfl rfl rfl (by decide +kernel)
set_option maxRecDepth 65536 in
theorem w_c3 : (Jvm.Cond.code ({ cls := "com/example/lambro/lambro/HashesSpreadPinLaw", name := "inverse", desc := "(J)J" } : Jvm.MethodName) method_2_code (4 : Nat) (Option.some Jvm.ClassFile.FieldType.long)).before args0 about1 = true := code_word (m := ⟨1, 1⟩) (meth := k1m1) (c := k1c1) (by decide +kernel) rfl rfl rfl (by decide +kernel)
def codes1 : List Jvm.Cond := [Jvm.Cond.code x code maxLocals ret, Jvm.Cond.code ({ cls := "com/example/lambro/lambro/Hashes", name := "spread", desc := "(J)J" } : Jvm.MethodName) prog_21_method_5_code (4 : Nat) (Option.some Jvm.ClassFile.FieldType.long), Jvm.Cond.code ({ cls := "com/example/lambro/lambro/HashesSpreadPinLaw", name := "unspread", desc := "(J)J" } : Jvm.MethodName) method_3_code (4 : Nat) (Option.some Jvm.ClassFile.FieldType.long), Jvm.Cond.code ({ cls := "com/example/lambro/lambro/HashesSpreadPinLaw", name := "inverse", desc := "(J)J" } : Jvm.MethodName) method_2_code (4 : Nat) (Option.some Jvm.ClassFile.FieldType.long)]
set_option maxRecDepth 65536 in
theorem codes_eq : words1.filter isCode = codes1 := rfl
theorem w_codes : ∀ c ∈ words1.filter isCode, c.before args0 about1 = true := by
  rw [codes_eq]
  intro c hc
  simp only [codes1, List.mem_cons, List.not_mem_nil, or_false] at hc
  rcases hc with rfl | rfl | rfl | rfl
  · exact w_c0
  · exact w_c1
  · exact w_c2
  · exact w_c3
set_option maxRecDepth 65536 in
theorem w_t1 : words1.all (fun c => isCode c || c.before args0 about1) = true := by decide +kernel
theorem w_tables : (allAtoms (Jvm.Cond.code x code maxLocals ret :: tables_1)).before args0 about1 = true := by
  rw [allAtoms_all]
  show words1.all (fun c => c.before args0 about1) = true
  refine all_split ?_ w_codes
  rw [w_t1]
set_option maxRecDepth 65536 in
theorem w_case : (Jvm.Cond.and given_1 narrow_1).before args0 about1 = true := by decide +kernel
theorem w_applies : (headSpec (Jvm.Cond.code x code maxLocals ret :: tables_1) room_1).applies x e0.platform about1 = true :=
  (Spec.applies_iff w_frames).mpr ⟨w_running, w_runnable, w_alone, w_named, w_hears, w_ripe, w_room, w_tables⟩
theorem atStart : AtStart classFile x code maxLocals ret World_1 tables_1 room_1 Calls_1 rest_1 Pre_1 launch0 p0 e0 about1 theMethod args0 below0 :=
  ⟨lists_1, trivial, launch0.admits_env _ _ _, launch0.least_env, fairChoices_fair.cas, fairChoices_fair.clock, w_frames, w_args, w_heap, w_applies, trivial, trivial, w_case⟩
end start1
theorem witness_1 : WitnessClaimed_1 := ⟨start1.p0, start1.e0, start1.about1, start1.theMethod, start1.args0, start1.below0, start1.atStart⟩
end Jvm.Pilot.@@N@@
