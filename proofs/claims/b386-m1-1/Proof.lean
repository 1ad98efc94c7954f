import JvmDerived
import JvmDerived.Pilot.@@N@@Statement
import JvmDerived.Pilot.@@N@@Code
set_option linter.unusedVariables false
set_option linter.unusedSimpArgs false
namespace Jvm.RoadKit
open Sem ClassFile Op Lib Jvm.Stand Jvm.Free Jvm.LawKit
section New
variable {p : Program} {l : Launch} {e : Env} {R : Room} {s : State} {m : MethodId} {args : Array Value} {below : List Frame} {meth : Method} {c : Code} {T : State} {locs : List Loc} {cells slots : Nat}
theorem retI (X : Stand p l e R s m args below meth c T locs cells slots) (hx : p.tables.exec = Jvm.exec) {pc : Nat} {Ls : Array Slot} {z : Int32} {rest : List Value} (hret : meth.sig.returnType = some .int) (hd : decode c.code pc = .ok (.ireturn, 1)) {fs : List Frame}
    (hl : ∀ (f : JFrame) (acts : List Action), f.method = m → f.locked = none → f.entered = [] → (doReturn e (T.setTop f) acts (some (.int z))).1 = T.setFrames fs) : Steps p.tables e below (T.setTop (mkF m pc Ls (.int z :: rest))) (T.setFrames fs) := by
  have hm' : T.vm.method? m = some meth := X.method'
  have hn : narrow .int (.int z) = .int z := rfl
  show Steps p.tables e below (T.setTop { method := m, pc := pc, locals := Ls, stack := _ :: rest, locked := none }) _
  jvm_step X.here [X.here.top, hx, hd, hm', hret, hn]
  first | (intro acts; rw [hl _ acts rfl rfl rfl]) | rw [hl _ _ rfl rfl rfl]
  exact Steps.refl _
theorem retJ (X : Stand p l e R s m args below meth c T locs cells slots) (hx : p.tables.exec = Jvm.exec) {pc : Nat} {Ls : Array Slot} {z : Int64} {rest : List Value} (hret : meth.sig.returnType = some .long) (hd : decode c.code pc = .ok (.lreturn, 1)) {fs : List Frame}
    (hl : ∀ (f : JFrame) (acts : List Action), f.method = m → f.locked = none → f.entered = [] → (doReturn e (T.setTop f) acts (some (.long z))).1 = T.setFrames fs) : Steps p.tables e below (T.setTop (mkF m pc Ls (.long z :: rest))) (T.setFrames fs) :=
  retOut X hx hret rfl (Or.inr (Or.inl ⟨rfl, rfl, z, rfl⟩)) hd hl
theorem retA (X : Stand p l e R s m args below meth c T locs cells slots) (hx : p.tables.exec = Jvm.exec) {pc : Nat} {Ls : Array Slot} {a : Addr} {t : FieldType} {rest : List Value} (hret : meth.sig.returnType = some t) (ht : t.isReference = true) (hd : decode c.code pc = .ok (.areturn, 1)) {fs : List Frame}
    (hl : ∀ (f : JFrame) (acts : List Action), f.method = m → f.locked = none → f.entered = [] → (doReturn e (T.setTop f) acts (some (.ref a))).1 = T.setFrames fs) : Steps p.tables e below (T.setTop (mkF m pc Ls (.ref a :: rest))) (T.setFrames fs) :=
  retOut X hx hret (by cases t <;> first | rfl | (simp [FieldType.isReference] at ht)) (Or.inr (Or.inr (Or.inr (Or.inr ⟨rfl, ht, rfl⟩)))) hd hl
end New
end Jvm.RoadKit
namespace Jvm.Pilot.@@N@@
open Jvm Jvm.ClassFile Sem Op Lib Jvm.Free Jvm.Stand Jvm.LawKit Jvm.RoadKit Bundle Jvm.Pilot.@@N@@.Jvm.D
section OwnKit
variable {p : Program} {l : Launch} {e : Env} {R : Room} {s : State} {m : MethodId} {args : Array Value} {below : List Frame} {meth : Method} {c : Code} {T : State} {locs : List Loc} {cells slots : Nat} {Z : State} {h h' : Heap}
/-- one body's contract, with the walk's goal as a closed predicate K: 'go' takes a step, 'fin' leaves the method -/
theorem own_body {y : MethodName} {bytes : ByteArray} {maxL : Nat} {ret : Option FieldType} {ws : List Jvm.Cond} {rm : Room} {h0 : Heap} {Q : Option Value → Heap → List Loc → Prop} (hp : plainFor y = true)
    (body : ∀ (p : Program) (e : Env) (s : State) (m : MethodId) (below : List Frame) (meth : Method) (c : Code) (s₁ : State) (K : State → Prop),
      (∀ U U', (∀ t, Steps p.tables e below U' t → Steps p.tables e below U t) → K U' → K U) →
      (∀ {T : State} {locs : List Loc} {cells slots : Nat} {g : JFrame} (v : Option Value), Stand p l e rm s m args below meth c T locs cells slots → cells ≤ rm.cells → slots ≤ rm.slots → (ret = none → v = none) → Q v T.heap locs →
        (∀ fs, (∀ (f : JFrame) (acts : List Action), f.method = m → f.locked = none → f.entered = [] → (doReturn e (T.setTop f) acts v).1 = T.setFrames fs) → Steps p.tables e below (T.setTop g) (T.setFrames fs)) → K (T.setTop g)) →
      Stand p l e rm s m args below meth c s₁ [] 0 0 → p.tables.exec = Jvm.exec → c.code = bytes → c.maxLocals = maxL → s.vm.findClass y.cls = some m.cls → meth.name = y.name → meth.sig.returnType = ret → Z.Warmed39 s.vm → s₁.heap = h0 → K (s₁.setTop (entryFrame m args maxL))) :
    MetFree l y (head1 (Jvm.Cond.code y bytes maxL ret :: ws) rm) (fun a U => a = args ∧ Z.Warmed39 U.vm ∧ U.heap = h0) (fun _ _ _ _ _ => True) (fun _ U o U' => ∃ v L, o = .returned v ∧ Q v U'.heap L ∧ FrameEnd U o U' L rm.cells rm.slots) := by
  refine MetFree.of_bodySF hp hisR ?_
  intro p e s m args' below meth c s₁ Bd hml hP hK
  obtain ⟨rfl, hZ, hh⟩ := hP
  refine body p e s m below meth c s₁ (fun U => ∃ s₂ o, Steps p.tables e below U s₂ ∧ s₂.status = .running ∧ Ended s₂ below o ∧ ∃ v L, o = .returned v ∧ Q v s₂.heap L ∧ FrameEnd s o s₂ L rm.cells rm.slots) ?_ ?_ (Stand.of_body Bd) Bd.exec Bd.bytes hml (findClass_of_methodNamed Bd.named) (name_of_methodNamed Bd.named Bd.method).1 Bd.returns hZ (by rw [← hh, Bd.state]; rfl)
  · rintro U U' st ⟨s₂, o, h1, h2⟩
    exact ⟨s₂, o, st _ h1, h2⟩
  · intro T locs cells slots g v X hc hs hv hQ hst
    obtain ⟨fs, hr, hrun, hended, hW, hsame⟩ := X.leave (v := v) (fun q => hv (Bd.returns ▸ q))
    exact ⟨_, _, hst fs hr, hrun, hended, v, locs, rfl, hQ, ⟨_, rfl⟩, hW, hsame.mono hc hs⟩
/-! Java's shifts and the narrowing to a byte -/
def jushr (x y : Int32) : Int32 := (x.toUInt32 >>> (y &&& 31).toUInt32).toInt32
def jshl (x y : Int32) : Int32 := x <<< (y &&& 31)
def jshr (x y : Int32) : Int32 := x >>> (y &&& 31)
def jushrL (x : Int64) (y : Int32) : Int64 := (x.toUInt64 >>> (y &&& 0x3f).toInt64.toUInt64).toInt64
def jshlL (x : Int64) (y : Int32) : Int64 := x <<< (y &&& 0x3f).toInt64
def jshrL (x : Int64) (y : Int32) : Int64 := x >>> (y &&& 0x3f).toInt64
def jb (x : Int32) : Int32 := x.toInt8.toInt32
theorem own_lrem {g : JFrame} {target : State} (X : Stand p l e R s m args below meth c T locs cells slots) (hx : p.tables.exec = Jvm.exec) (hg : g.method = m) {x y : Int64} {rest : List Value} (hd : decode c.code g.pc = .ok (.lrem, 1)) (hs : g.stack = .long y :: .long x :: rest) (hy : y ≠ 0)
    (hr : Steps p.tables e below (T.setTop { g with pc := g.pc + 1, stack := .long (x % y) :: rest }) target) : Steps p.tables e below (T.setTop g) target :=
  XS.lrem X.here hx hg hd hs hy (by rw [lrem_mod]; exact hr)
theorem own_narb (x : Int32) : nar .byte (jb x) = jb x := by simp [nar, jb]
/-! an array by its length and what its places hold -/
def own_upd (f : Nat → Value) (i : Nat) (v : Value) : Nat → Value := fun j => if j = i then v else f j
theorem own_hit (f : Nat → Value) (i : Nat) (v : Value) : own_upd f i v i = v := if_pos rfl
theorem own_miss {f : Nat → Value} {i j : Nat} {v : Value} (q : j ≠ i) : own_upd f i v j = f j := if_neg q
def AF (Z : State) (h : Heap) (a : Addr) (ty : FieldType) (n : Nat) (f : Nat → Value) : Prop := n < 2 ^ 31 ∧ ∃ c : Cell, Arr Z h a c ty ∧ c.slots.size = n ∧ ∀ j, j < n → c.slots[j]? = some (f j)
theorem AF.lt {a : Addr} {ty : FieldType} {n : Nat} {f : Nat → Value} (A : AF Z h a ty n f) : a < h.size := by obtain ⟨-, c, A, -⟩ := A; exact A.lt
theorem AF.ext {a : Addr} {ty : FieldType} {n : Nat} {f : Nat → Value} (A : AF Z h a ty n f) (E : Ext h h') : AF Z h' a ty n f := by obtain ⟨q, c, A, r⟩ := A; exact ⟨q, c, A.ext E, r⟩
theorem AF.other {a b : Addr} {sl : Nat} {v : Value} {ty : FieldType} {n : Nat} {f : Nat → Value} (A : AF Z h b ty n f) (W : Wr h h' a sl v) (q : b ≠ a) : AF Z h' b ty n f := by obtain ⟨q1, c, A, r⟩ := A; exact ⟨q1, c, A.other W q, r⟩
theorem AF.keep {a : Addr} {ws : List Addr} {ty : FieldType} {n : Nat} {f : Nat → Value} (A : AF Z h a ty n f) (K : Keep h h' ws) (q : a ∉ ws) : AF Z h' a ty n f := by obtain ⟨q1, c, A, r⟩ := A; exact ⟨q1, c, ⟨K.2.1 a c A.1 q, A.2⟩, r⟩
theorem AF.congr {a : Addr} {ty : FieldType} {n : Nat} {f f' : Nat → Value} (A : AF Z h a ty n f) (q : ∀ j, j < n → f j = f' j) : AF Z h a ty n f' := by obtain ⟨q1, c, A, S, r⟩ := A; exact ⟨q1, c, A, S, fun j hj => by rw [← q j hj]; exact r j hj⟩
theorem AF.len {a : Addr} {ty : FieldType} {n : Nat} {f : Nat → Value} (A : AF Z h a ty n f) : n < 2 ^ 31 := A.1
theorem own_idx {j : Int32} {i : Nat} (hj : j.toInt = (i : Int)) : j.toNatClampNeg = i := by simp only [Int32.toNatClampNeg, hj]; omega
theorem own_in {j : Int32} {i n : Nat} {c : Cell} (S : c.slots.size = n) (hj : j.toInt = (i : Int)) (hi : i < n) : ¬ (j < 0 ∨ c.slots.size ≤ j.toNatClampNeg) := by
  rw [own_idx hj, S, Int32.lt_iff_toInt_lt, hj]
  simp only [Int32.toInt_zero]
  omega
theorem own_set {a : Addr} {ty : FieldType} {n i : Nat} {f : Nat → Value} {cl : Cell} {v : Value} (q1 : n < 2 ^ 31) (A : Arr Z h a cl ty) (S : cl.slots.size = n) (H : ∀ j, j < n → cl.slots[j]? = some (f j)) (W : Wr h h' a i v) (hi : i < n) : AF Z h' a ty n (own_upd f i v) := by
  refine ⟨q1, _, A.same W, by rw [sz_set]; exact S, fun j hj => ?_⟩
  simp only [Cell.setSlot, own_upd]
  by_cases q : j = i
  · subst q; rw [if_pos rfl]; simp [S, hj]
  · rw [if_neg q, Array.getElem?_setIfInBounds_ne (fun z => q z.symm)]; exact H j hj
theorem own_stI (X : Stand p l e R s m args below meth c T locs cells slots) (hx : p.tables.exec = Jvm.exec) (hZ : Z.Warmed39 s.vm) (eT : T.heap = h) {a : Addr} {n i : Nat} {f : Nat → Value} (A : AF Z h a .int n f) {j x : Int32} (hj : j.toInt = (i : Int)) (hi : i < n) {g : JFrame} (hg : g.method = m) {rest : List Value} (hs : g.stack = .int x :: .int j :: .ref a :: rest) (hd : decode c.code g.pc = .ok (.iastore, 1)) :
    ∃ T' h', Stand p l e R s m args below meth c T' (locs ++ [⟨a, i⟩]) cells slots ∧ T'.heap = h' ∧ Wr h h' a i (.int x) ∧ AF Z h' a .int n (own_upd f i (.int x)) ∧ ∀ target, Steps p.tables e below (T'.setTop { g with pc := g.pc + 1, stack := rest }) target → Steps p.tables e below (T.setTop g) target := by
  obtain ⟨q1, cl, Ar, S, H⟩ := A
  obtain ⟨T', h', X', e', W, st⟩ := stI X hx hZ eT Ar (j := j) (own_in S hj hi) hg hs hd
  rw [own_idx hj] at X' W
  exact ⟨T', h', X', e', W, own_set q1 Ar S H W hi, st⟩
theorem own_stJ (X : Stand p l e R s m args below meth c T locs cells slots) (hx : p.tables.exec = Jvm.exec) (hZ : Z.Warmed39 s.vm) (eT : T.heap = h) {a : Addr} {n i : Nat} {f : Nat → Value} (A : AF Z h a .long n f) {j : Int32} {x : Int64} (hj : j.toInt = (i : Int)) (hi : i < n) {g : JFrame} (hg : g.method = m) {rest : List Value} (hs : g.stack = .long x :: .int j :: .ref a :: rest) (hd : decode c.code g.pc = .ok (.lastore, 1)) :
    ∃ T' h', Stand p l e R s m args below meth c T' (locs ++ [⟨a, i⟩]) cells slots ∧ T'.heap = h' ∧ Wr h h' a i (.long x) ∧ AF Z h' a .long n (own_upd f i (.long x)) ∧ ∀ target, Steps p.tables e below (T'.setTop { g with pc := g.pc + 1, stack := rest }) target → Steps p.tables e below (T.setTop g) target := by
  obtain ⟨q1, cl, Ar, S, H⟩ := A
  obtain ⟨T', h', X', e', W, st⟩ := stJ X hx hZ eT Ar (j := j) (own_in S hj hi) hg hs hd
  rw [own_idx hj] at X' W
  exact ⟨T', h', X', e', W, own_set q1 Ar S H W hi, st⟩
theorem own_stB (X : Stand p l e R s m args below meth c T locs cells slots) (hx : p.tables.exec = Jvm.exec) (hZ : Z.Warmed39 s.vm) (eT : T.heap = h) {a : Addr} {n i : Nat} {f : Nat → Value} (A : AF Z h a .byte n f) {j x : Int32} (hj : j.toInt = (i : Int)) (hi : i < n) (hn : nar .byte x = x) {g : JFrame} (hg : g.method = m) {rest : List Value} (hs : g.stack = .int x :: .int j :: .ref a :: rest) (hd : decode c.code g.pc = .ok (.bastore, 1)) :
    ∃ T' h', Stand p l e R s m args below meth c T' (locs ++ [⟨a, i⟩]) cells slots ∧ T'.heap = h' ∧ Wr h h' a i (.int x) ∧ AF Z h' a .byte n (own_upd f i (.int x)) ∧ ∀ target, Steps p.tables e below (T'.setTop { g with pc := g.pc + 1, stack := rest }) target → Steps p.tables e below (T.setTop g) target := by
  obtain ⟨q1, cl, Ar, S, H⟩ := A
  obtain ⟨T', h', X', e', W, st⟩ := stB X hx hZ eT Ar (j := j) (own_in S hj hi) hg hs hd
  rw [own_idx hj] at X' W
  rw [hn] at W
  exact ⟨T', h', X', e', W, own_set q1 Ar S H W hi, st⟩
theorem own_new (X : Stand p l e R s m args below meth c T locs cells slots) (hx : p.tables.exec = Jvm.exec) (hZ : Z.Warmed39 s.vm) {a0 : Array Value} {aty : ArrayType} (w : (Cond.arrayClass (newarray.typeOf aty)).before a0 Z = true) (eT : T.heap = h) {g : JFrame} (hg : g.method = m) (hd : decode c.code g.pc = .ok (.newarray aty, 2)) {n : Int32} {rest : List Value} (hs : g.stack = .int n :: rest)
    {k : Nat} (hn : n.toInt = (k : Int)) (cap : Nat) (hcap : k ≤ cap) (hb : cap * 8 ≤ 536870912) (hc : cells + 1 ≤ R.cells) (hl : slots + cap ≤ R.slots) :
    ∃ T' h' a, Stand p l e R s m args below meth c T' locs (cells + 1) (slots + cap) ∧ T'.heap = h' ∧ Ext h h' ∧ a = h.size ∧ AF Z h' a (newarray.typeOf aty) k (fun _ => defaultValue (newarray.typeOf aty)) ∧
      ∀ target, Steps p.tables e below (T'.setTop { g with pc := g.pc + 2, stack := .ref a :: rest }) target → Steps p.tables e below (T.setTop g) target := by
  have hn0 : ¬ n < 0 := by rw [Int32.lt_iff_toInt_lt, hn]; simp only [Int32.toInt_zero]; omega
  have hk : n.toNatClampNeg = k := own_idx hn
  have hk31 : k < 2 ^ 31 := by have := n.toInt_lt; omega
  obtain ⟨T', h', cA, X', e', E, A, st⟩ := newP X hx hZ w eT hg hd hs hn0 (by rw [hk]; exact hcap) hb hc hl
  refine ⟨T', h', h.size, X', e', E, rfl, ⟨hk31, _, A, by rw [sz_new, hk], fun j hj => ?_⟩, st⟩
  simp [newA, hk, hj]
theorem own_ldI (X : Stand p l e R s m args below meth c T locs cells slots) (hx : p.tables.exec = Jvm.exec) (hZ : Z.Warmed39 s.vm) (eT : T.heap = h) {a : Addr} {n i : Nat} {f : Nat → Value} (A : AF Z h a .int n f) {j : Int32} (hj : j.toInt = (i : Int)) (hi : i < n) {g : JFrame} (hg : g.method = m) {rest : List Value} (hs : g.stack = .int j :: .ref a :: rest) (hd : decode c.code g.pc = .ok (.iaload, 1)) {v : Value} (hv : f i = v) (target : State)
    (hr : Steps p.tables e below (T.setTop { g with pc := g.pc + 1, stack := v :: rest }) target) : Steps p.tables e below (T.setTop g) target := by
  obtain ⟨-, cl, Ar, S, H⟩ := A
  exact X.iaload hx (j := j) (v := v) (by rw [eT]; exact Ar.1) (State.isArrayOf_alike hZ.alike Ar.2.1) Ar.2.2 (own_in S hj hi) (by rw [own_idx hj, ← hv]; exact H i hi) hg hs hd target hr
theorem own_ldJ (X : Stand p l e R s m args below meth c T locs cells slots) (hx : p.tables.exec = Jvm.exec) (hZ : Z.Warmed39 s.vm) (eT : T.heap = h) {a : Addr} {n i : Nat} {f : Nat → Value} (A : AF Z h a .long n f) {j : Int32} (hj : j.toInt = (i : Int)) (hi : i < n) {g : JFrame} (hg : g.method = m) {rest : List Value} (hs : g.stack = .int j :: .ref a :: rest) (hd : decode c.code g.pc = .ok (.laload, 1)) {v : Value} (hv : f i = v) (target : State)
    (hr : Steps p.tables e below (T.setTop { g with pc := g.pc + 1, stack := v :: rest }) target) : Steps p.tables e below (T.setTop g) target := by
  obtain ⟨-, cl, Ar, S, H⟩ := A
  exact X.laload hx (j := j) (v := v) (by rw [eT]; exact Ar.1) (State.isArrayOf_alike hZ.alike Ar.2.1) Ar.2.2 (own_in S hj hi) (by rw [own_idx hj, ← hv]; exact H i hi) hg hs hd target hr
theorem own_ldB (X : Stand p l e R s m args below meth c T locs cells slots) (hx : p.tables.exec = Jvm.exec) (hZ : Z.Warmed39 s.vm) (eT : T.heap = h) {a : Addr} {n i : Nat} {f : Nat → Value} (A : AF Z h a .byte n f) {j : Int32} (hj : j.toInt = (i : Int)) (hi : i < n) {g : JFrame} (hg : g.method = m) {rest : List Value} (hs : g.stack = .int j :: .ref a :: rest) (hd : decode c.code g.pc = .ok (.baload, 1)) {v : Value} (hv : f i = v) (target : State)
    (hr : Steps p.tables e below (T.setTop { g with pc := g.pc + 1, stack := v :: rest }) target) : Steps p.tables e below (T.setTop g) target := by
  obtain ⟨-, cl, Ar, S, H⟩ := A
  exact X.baloadBytes hx (j := j) (v := v) (by rw [eT]; exact Ar.1) (State.isArrayOf_alike hZ.alike Ar.2.1) Ar.2.2 (own_in S hj hi) (by rw [own_idx hj, ← hv]; exact H i hi) hg hs hd target hr
theorem own_len (X : Stand p l e R s m args below meth c T locs cells slots) (hx : p.tables.exec = Jvm.exec) (hZ : Z.Warmed39 s.vm) (eT : T.heap = h) {a : Addr} {ty : FieldType} {n : Nat} {f : Nat → Value} (A : AF Z h a ty n f) {g : JFrame} (hg : g.method = m) {rest : List Value} (hs : g.stack = .ref a :: rest) (hd : decode c.code g.pc = .ok (.arraylength, 1)) (target : State)
    (hr : Steps p.tables e below (T.setTop { g with pc := g.pc + 1, stack := .int (Int32.ofNat n) :: rest }) target) : Steps p.tables e below (T.setTop g) target := by
  obtain ⟨-, cl, Ar, S, H⟩ := A
  refine X.arraylength hx (by rw [eT]; exact Ar.1) (State.isArrayOf_alike hZ.alike Ar.2.1) hg hs hd target ?_
  rw [S]; exact hr
end OwnKit
theorem pd_1 : parseMethodDescriptor "(I)I" = some ⟨[.int], some .int⟩ := by decide +kernel
theorem d1_0 : decode prog_6_method_14_code 0 = .ok (.iload_n 0, 1) := by decide +kernel
theorem d1_1 : decode prog_6_method_14_code 1 = .ok (.bipush 24, 2) := by decide +kernel
theorem d1_3 : decode prog_6_method_14_code 3 = .ok (.if_icmp .lt 9, 3) := by decide +kernel
theorem d1_6 : decode prog_6_method_14_code 6 = .ok (.iload_n 0, 1) := by decide +kernel
theorem d1_7 : decode prog_6_method_14_code 7 = .ok (.bipush 31, 2) := by decide +kernel
theorem d1_9 : decode prog_6_method_14_code 9 = .ok (.if_icmp .ne 5, 3) := by decide +kernel
theorem d1_12 : decode prog_6_method_14_code 12 = .ok (.iconst 1, 1) := by decide +kernel
theorem d1_13 : decode prog_6_method_14_code 13 = .ok (.ireturn, 1) := by decide +kernel
theorem d1_14 : decode prog_6_method_14_code 14 = .ok (.iconst 1, 1) := by decide +kernel
theorem d1_15 : decode prog_6_method_14_code 15 = .ok (.iconst 1, 1) := by decide +kernel
theorem d1_16 : decode prog_6_method_14_code 16 = .ok (.iload_n 0, 1) := by decide +kernel
theorem d1_17 : decode prog_6_method_14_code 17 = .ok (.bipush 24, 2) := by decide +kernel
theorem d1_19 : decode prog_6_method_14_code 19 = .ok (.isub, 1) := by decide +kernel
theorem d1_20 : decode prog_6_method_14_code 20 = .ok (.ishl, 1) := by decide +kernel
theorem d1_21 : decode prog_6_method_14_code 21 = .ok (.iadd, 1) := by decide +kernel
theorem d1_22 : decode prog_6_method_14_code 22 = .ok (.ireturn, 1) := by decide +kernel
theorem pn_3 : plainName "com/example/countermark/countermark/cbor/CborReader" = true := by first | (simp [plainName, overriddenIn]; done) | decide +kernel
theorem ef_rm1 (m : MethodId) (p1 : Int32) : entryFrame m #[(.int p1)] 1 = mkF m 0 #[.val (.int p1)] [] := by first | (simp [entryFrame, mkF, argsToLocals, Value.category]; done) | rfl
def f_rm1 (p1 : Int32) : Int32 := (if p1 < (24 : Int32) then (1 : Int32) else (if p1 = (31 : Int32) then (1 : Int32) else ((1 : Int32) + (jshl (1 : Int32) (p1 - (24 : Int32))))))
def Q_rm1 (Z : State) (p1 : Int32) (h0 : Heap) (n0 : Nat) (v : Option Value) (h : Heap) (L : List Loc) : Prop := v = some (.int (f_rm1 p1)) ∧ Fr n0 L ∧ h = h0
set_option maxRecDepth 65536 in
set_option maxHeartbeats 40000000 in
theorem rm1 (l : Launch) (Z : State) (a0 : Array Value) (hw : ∀ d ∈ tables_1, d.before a0 Z = true) (ws : List Jvm.Cond) (p1 : Int32) (h0 : Heap) (n0 : Nat) (Z0 : n0 ≤ h0.size)  :
    MetFree l (⟨"com/example/countermark/countermark/cbor/CborReader", "headLength", "(I)I"⟩ : MethodName) (head1 (Jvm.Cond.code (⟨"com/example/countermark/countermark/cbor/CborReader", "headLength", "(I)I"⟩ : MethodName) prog_6_method_14_code 1 (some .int) :: ws) ({ frames := 0, cells := 0, slots := 0, locals := 0 } : Room)) (fun a U => a = #[(.int p1)] ∧ Z.Warmed39 U.vm ∧ U.heap = h0) (fun _ _ _ _ _ => True) (fun _ U o U' => ∃ v L, o = .returned v ∧ Q_rm1 Z p1 h0 n0 v U'.heap L ∧ FrameEnd U o U' L ({ frames := 0, cells := 0, slots := 0, locals := 0 } : Room).cells ({ frames := 0, cells := 0, slots := 0, locals := 0 } : Room).slots) := by
  refine own_body (Q := Q_rm1 Z p1 h0 n0) (plainFor_of_name pn_3) ?_
  intro p e s m below meth c s₁ K go fin X0 hx hby hml hown hnm hret hZ e0
  have hown : s.vm.findClass "com/example/countermark/countermark/cbor/CborReader" = some m.cls := hown
  have N0 := Fr.nil n0
  refine go _ (s₁.setTop (mkF m 0 #[.val (.int p1)] [])) (fun t k => castTop (ef_rm1 m p1) k) ?_
  refine go _ (s₁.setTop (mkF m 1 #[.val (.int p1)] [(.int p1)])) (fun t k => XS.iloadN X0.here hx rfl (hb hby d1_0) rfl k) ?_
  refine go _ (s₁.setTop (mkF m 3 #[.val (.int p1)] [(.int (24 : Int32)), (.int p1)])) (fun t k => XS.bipush X0.here hx rfl (hb hby d1_1) k) ?_
  by_cases hc1 : p1 < (24 : Int32)
  · refine go _ (s₁.setTop (mkF m 12 #[.val (.int p1)] [])) (fun t k => XS.icmpYes X0.here hx rfl (pc0 := 3) (pc' := 12) rfl (hb hby d1_3) rfl (tlt hc1).1 (by decide) (by decide) k) ?_
    refine go _ (s₁.setTop (mkF m 13 #[.val (.int p1)] [(.int (1 : Int32))])) (fun t k => XS.iconst X0.here hx rfl (hb hby d1_12) k) ?_
    exact fin (some (.int (1 : Int32))) X0 (by decide) (by decide) (fun q => by cases q) (show Q_rm1 Z p1 h0 n0 _ s₁.heap _ from (by rw [e0]; exact ⟨congrArg some (congrArg Value.int (show (f_rm1 p1) = (1 : Int32) from (by unfold f_rm1; rw [if_pos hc1])).symm), N0, rfl⟩)) (fun fs hr => retI X0 hx hret (hb hby d1_13) hr)
  · refine go _ (s₁.setTop (mkF m 6 #[.val (.int p1)] [])) (fun t k => XS.icmpNo X0.here hx rfl (hb hby d1_3) rfl (flt hc1).1 k) ?_
    refine go _ (s₁.setTop (mkF m 7 #[.val (.int p1)] [(.int p1)])) (fun t k => XS.iloadN X0.here hx rfl (hb hby d1_6) rfl k) ?_
    refine go _ (s₁.setTop (mkF m 9 #[.val (.int p1)] [(.int (31 : Int32)), (.int p1)])) (fun t k => XS.bipush X0.here hx rfl (hb hby d1_7) k) ?_
    by_cases hc2 : p1 = (31 : Int32)
    · refine go _ (s₁.setTop (mkF m 12 #[.val (.int p1)] [])) (fun t k => XS.icmpNo X0.here hx rfl (hb hby d1_9) rfl (teq hc2).2 k) ?_
      refine go _ (s₁.setTop (mkF m 13 #[.val (.int p1)] [(.int (1 : Int32))])) (fun t k => XS.iconst X0.here hx rfl (hb hby d1_12) k) ?_
      exact fin (some (.int (1 : Int32))) X0 (by decide) (by decide) (fun q => by cases q) (show Q_rm1 Z p1 h0 n0 _ s₁.heap _ from (by rw [e0]; exact ⟨congrArg some (congrArg Value.int (show (f_rm1 p1) = (1 : Int32) from (by unfold f_rm1; rw [if_neg hc1, if_pos hc2])).symm), N0, rfl⟩)) (fun fs hr => retI X0 hx hret (hb hby d1_13) hr)
    · refine go _ (s₁.setTop (mkF m 14 #[.val (.int p1)] [])) (fun t k => XS.icmpYes X0.here hx rfl (pc0 := 9) (pc' := 14) rfl (hb hby d1_9) rfl (feq hc2).2 (by decide) (by decide) k) ?_
      refine go _ (s₁.setTop (mkF m 15 #[.val (.int p1)] [(.int (1 : Int32))])) (fun t k => XS.iconst X0.here hx rfl (hb hby d1_14) k) ?_
      refine go _ (s₁.setTop (mkF m 16 #[.val (.int p1)] [(.int (1 : Int32)), (.int (1 : Int32))])) (fun t k => XS.iconst X0.here hx rfl (hb hby d1_15) k) ?_
      refine go _ (s₁.setTop (mkF m 17 #[.val (.int p1)] [(.int p1), (.int (1 : Int32)), (.int (1 : Int32))])) (fun t k => XS.iloadN X0.here hx rfl (hb hby d1_16) rfl k) ?_
      refine go _ (s₁.setTop (mkF m 19 #[.val (.int p1)] [(.int (24 : Int32)), (.int p1), (.int (1 : Int32)), (.int (1 : Int32))])) (fun t k => XS.bipush X0.here hx rfl (hb hby d1_17) k) ?_
      refine go _ (s₁.setTop (mkF m 20 #[.val (.int p1)] [(.int (p1 - (24 : Int32))), (.int (1 : Int32)), (.int (1 : Int32))])) (fun t k => XS.isub X0.here hx rfl (hb hby d1_19) rfl k) ?_
      refine go _ (s₁.setTop (mkF m 21 #[.val (.int p1)] [(.int (jshl (1 : Int32) (p1 - (24 : Int32)))), (.int (1 : Int32))])) (fun t k => XS.ishl X0.here hx rfl (hb hby d1_20) rfl k) ?_
      refine go _ (s₁.setTop (mkF m 22 #[.val (.int p1)] [(.int ((1 : Int32) + (jshl (1 : Int32) (p1 - (24 : Int32)))))])) (fun t k => XS.iadd X0.here hx rfl (hb hby d1_21) rfl k) ?_
      exact fin (some (.int ((1 : Int32) + (jshl (1 : Int32) (p1 - (24 : Int32)))))) X0 (by decide) (by decide) (fun q => by cases q) (show Q_rm1 Z p1 h0 n0 _ s₁.heap _ from (by rw [e0]; exact ⟨congrArg some (congrArg Value.int (show (f_rm1 p1) = ((1 : Int32) + (jshl (1 : Int32) (p1 - (24 : Int32)))) from (by unfold f_rm1; rw [if_neg hc1, if_neg hc2])).symm), N0, rfl⟩)) (fun fs hr => retI X0 hx hret (hb hby d1_22) hr)
theorem pn_5 : plainName "com/example/countermark/countermark/cbor/CborReaderHeadLengthPinLaw" = true := by first | (simp [plainName, overriddenIn]; done) | decide +kernel
theorem ef_rm0 (m : MethodId) (p1 : Int32) : entryFrame m #[(.int p1)] maxLocals = mkF m 0 #[.val (.int p1), .unset, .unset] [] := by first | (simp [entryFrame, mkF, argsToLocals, Value.category, maxLocals]; done) | rfl
theorem own_lt24 (x : Int32) (h : x < (24 : Int32)) : f_rm1 x = (1 : Int32) := by
  unfold f_rm1; rw [if_pos h]
theorem own_else (y : Int32) (a : ¬ ((y &&& (31 : Int32)) < (24 : Int32))) (b : ¬ ((y &&& (31 : Int32)) = (24 : Int32))) (c : ¬ ((y &&& (31 : Int32)) = (25 : Int32))) (d : ¬ ((y &&& (31 : Int32)) = (26 : Int32))) (e : ¬ ((y &&& (31 : Int32)) = (27 : Int32)))
    (f : (y &&& (31 : Int32)) < (28 : Int32) ∨ (30 : Int32) < (y &&& (31 : Int32))) : f_rm1 (y &&& (31 : Int32)) = (1 : Int32) := by
  have m := c_mask y 31 5 (by decide) (by decide +kernel)
  have q : (y &&& (31 : Int32)) = 31 := by
    generalize (y &&& (31 : Int32)) = x at *
    have e24 : (24 : Int32).toInt = 24 := by decide
    have e25 : (25 : Int32).toInt = 25 := by decide
    have e26 : (26 : Int32).toInt = 26 := by decide
    have e27 : (27 : Int32).toInt = 27 := by decide
    have e28 : (28 : Int32).toInt = 28 := by decide
    have e30 : (30 : Int32).toInt = 30 := by decide
    have e31 : (31 : Int32).toInt = 31 := by decide
    rw [Int32.lt_iff_toInt_lt] at a f
    rw [Int32.lt_iff_toInt_lt] at f
    rw [← Int32.toInt_inj] at b c d e ⊢
    omega
  rw [q]; decide +kernel
def Q_rm0 (Z : State) (p1 : Int32) (h0 : Heap) (n0 : Nat) (v : Option Value) (h : Heap) (L : List Loc) : Prop := v = some (.int (1 : Int32)) ∧ Fr n0 L
set_option maxRecDepth 65536 in
set_option maxHeartbeats 40000000 in
theorem rm0 (l : Launch) (Z : State) (a0 : Array Value) (hw : ∀ d ∈ tables_1, d.before a0 Z = true) (ws : List Jvm.Cond) (p1 : Int32) (h0 : Heap) (n0 : Nat) (Z0 : n0 ≤ h0.size)  :
    MetFree l x (head1 (Jvm.Cond.code x code maxLocals ret :: ws) room_1) (fun a U => a = #[(.int p1)] ∧ Z.Warmed39 U.vm ∧ U.heap = h0) (fun _ _ _ _ _ => True) (fun _ U o U' => ∃ v L, o = .returned v ∧ Q_rm0 Z p1 h0 n0 v U'.heap L ∧ FrameEnd U o U' L room_1.cells room_1.slots) := by
  refine own_body (Q := Q_rm0 Z p1 h0 n0) (plainFor_of_name pn_5) ?_
  intro p e s m below meth c s₁ K go fin X0 hx hby hml hown hnm hret hZ e0
  have hown : s.vm.findClass "com/example/countermark/countermark/cbor/CborReaderHeadLengthPinLaw" = some m.cls := hown
  have N0 := Fr.nil n0
  refine go _ (s₁.setTop (mkF m 0 #[.val (.int p1), .unset, .unset] [])) (fun t k => castTop (ef_rm0 m p1) k) ?_
  refine go _ (s₁.setTop (mkF m 1 #[.val (.int p1), .unset, .unset] [(.int p1)])) (fun t k => XS.iloadN X0.here hx rfl (hb hby at_0) rfl k) ?_
  refine go _ (s₁.setTop (mkF m 3 #[.val (.int p1), .unset, .unset] [(.int (31 : Int32)), (.int p1)])) (fun t k => XS.bipush X0.here hx rfl (hb hby at_1) k) ?_
  refine go _ (s₁.setTop (mkF m 4 #[.val (.int p1), .unset, .unset] [(.int (p1 &&& (31 : Int32)))])) (fun t k => XS.iand X0.here hx rfl (hb hby at_3) rfl k) ?_
  refine go _ (s₁.setTop (mkF m 5 #[.val (.int p1), .val (.int (p1 &&& (31 : Int32))), .unset] [])) (fun t k => XS.istoreN X0.here hx rfl (hb hby at_4) rfl (l' := #[.val (.int p1), .val (.int (p1 &&& (31 : Int32))), .unset]) rfl k) ?_
  refine go _ (s₁.setTop (mkF m 6 #[.val (.int p1), .val (.int (p1 &&& (31 : Int32))), .unset] [(.int (p1 &&& (31 : Int32)))])) (fun t k => XS.iloadN X0.here hx rfl (hb hby at_5) rfl k) ?_
  refine go _ (s₁.setTop (mkF m 8 #[.val (.int p1), .val (.int (p1 &&& (31 : Int32))), .unset] [(.int (28 : Int32)), (.int (p1 &&& (31 : Int32)))])) (fun t k => XS.bipush X0.here hx rfl (hb hby at_6) k) ?_
  by_cases hc3 : (p1 &&& (31 : Int32)) < (28 : Int32)
  · refine go _ (s₁.setTop (mkF m 19 #[.val (.int p1), .val (.int (p1 &&& (31 : Int32))), .unset] [])) (fun t k => XS.icmpYes X0.here hx rfl (pc0 := 8) (pc' := 19) rfl (hb hby at_8) rfl (tlt hc3).1 (by decide) (by decide) k) ?_
    refine go _ (s₁.setTop (mkF m 20 #[.val (.int p1), .val (.int (p1 &&& (31 : Int32))), .unset] [(.int (p1 &&& (31 : Int32)))])) (fun t k => XS.iloadN X0.here hx rfl (hb hby at_19) rfl k) ?_
    refine go _ (s₁.setTop (mkF m 22 #[.val (.int p1), .val (.int (p1 &&& (31 : Int32))), .unset] [(.int (24 : Int32)), (.int (p1 &&& (31 : Int32)))])) (fun t k => XS.bipush X0.here hx rfl (hb hby at_20) k) ?_
    by_cases hc4 : (p1 &&& (31 : Int32)) < (24 : Int32)
    · refine go _ (s₁.setTop (mkF m 25 #[.val (.int p1), .val (.int (p1 &&& (31 : Int32))), .unset] [])) (fun t k => XS.icmpNo X0.here hx rfl (hb hby at_22) rfl (tlt hc4).2.1 k) ?_
      refine go _ (s₁.setTop (mkF m 26 #[.val (.int p1), .val (.int (p1 &&& (31 : Int32))), .unset] [(.int (1 : Int32))])) (fun t k => XS.iconst X0.here hx rfl (hb hby at_25) k) ?_
      refine go _ (s₁.setTop (mkF m 27 #[.val (.int p1), .val (.int (p1 &&& (31 : Int32))), .val (.int (1 : Int32))] [])) (fun t k => XS.istoreN X0.here hx rfl (hb hby at_26) rfl (l' := #[.val (.int p1), .val (.int (p1 &&& (31 : Int32))), .val (.int (1 : Int32))]) rfl k) ?_
      refine go _ (s₁.setTop (mkF m 77 #[.val (.int p1), .val (.int (p1 &&& (31 : Int32))), .val (.int (1 : Int32))] [])) (fun t k => XS.goto X0.here hx rfl (pc0 := 27) (pc' := 77) rfl (hb hby at_27) (by decide) (by decide) k) ?_
      refine go _ (s₁.setTop (mkF m 78 #[.val (.int p1), .val (.int (p1 &&& (31 : Int32))), .val (.int (1 : Int32))] [(.int (p1 &&& (31 : Int32)))])) (fun t k => XS.iloadN X0.here hx rfl (hb hby at_77) rfl k) ?_
      obtain ⟨_, _, ⟨T5, L5, k5, n5⟩, -, X5, ⟨Lc5, hQ5, l5, y5, z5⟩, st5⟩ := Jvm.LawKit.callS X0 hx (y := (⟨"com/example/countermark/countermark/cbor/CborReader", "headLength", "(I)I"⟩ : MethodName)) hown (mvT hZ (hw _ (List.mem_of_getElem? (i := 0) rfl))) (mvT hZ (hw _ (List.mem_of_getElem? (i := 1) rfl))) (mvT hZ (hw _ (List.mem_of_getElem? (i := 2) rfl))) (mvT hZ (hw _ (List.mem_of_getElem? (i := 3) rfl))) (by decide) (backOf (W := 0) (rm1 l Z a0 hw [] (p1 &&& (31 : Int32))  h0 n0 Z0 ) hZ (hw _ (List.mem_of_getElem? (i := 3) rfl)) (hw _ (List.mem_of_getElem? (i := 2) rfl)) (by decide) (by decide)) (g := (mkF m 78 #[.val (.int p1), .val (.int (p1 &&& (31 : Int32))), .val (.int (1 : Int32))] [(.int (p1 &&& (31 : Int32)))])) rfl (by rw [hml]; rfl) (argsL := [(.int (p1 &&& (31 : Int32)))]) (rest := []) (lenOf pd_1 rfl) rfl (by show 2 * 0 + _ ≤ _; exact Nat.le_of_eq rfl) (hb hby at_78) (fun _ _ => ⟨rfl, e0, (by decide : 0 + 0 ≤ _), (by decide : 0 + 0 ≤ _)⟩)
      dsimp only [Pt.U, Pt.locs, Pt.cells, Pt.slots] at X5 l5 y5 z5 st5 hQ5
      subst l5 y5 z5
      obtain ⟨rfl, Nq5, hh5⟩ := hQ5
      have N6 := Fr.app N0 Nq5
      refine go _ (T5.setTop (mkF m 81 #[.val (.int p1), .val (.int (p1 &&& (31 : Int32))), .val (.int (1 : Int32))] [(.int (f_rm1 (p1 &&& (31 : Int32))))])) (st5) ?_
      refine go _ (T5.setTop (mkF m 82 #[.val (.int p1), .val (.int (p1 &&& (31 : Int32))), .val (.int (1 : Int32))] [(.int (1 : Int32)), (.int (f_rm1 (p1 &&& (31 : Int32))))])) (fun t k => XS.iloadN X5.here hx rfl (hb hby at_81) rfl k) ?_
      have hc7 : ((f_rm1 (p1 &&& (31 : Int32))) = (1 : Int32)) := own_lt24 _ hc4
      refine go _ (T5.setTop (mkF m 85 #[.val (.int p1), .val (.int (p1 &&& (31 : Int32))), .val (.int (1 : Int32))] [])) (fun t k => XS.icmpNo X5.here hx rfl (hb hby at_82) rfl (teq hc7).2 k) ?_
      refine go _ (T5.setTop (mkF m 86 #[.val (.int p1), .val (.int (p1 &&& (31 : Int32))), .val (.int (1 : Int32))] [(.int (1 : Int32))])) (fun t k => XS.iconst X5.here hx rfl (hb hby at_85) k) ?_
      refine go _ (T5.setTop (mkF m 90 #[.val (.int p1), .val (.int (p1 &&& (31 : Int32))), .val (.int (1 : Int32))] [(.int (1 : Int32))])) (fun t k => XS.goto X5.here hx rfl (pc0 := 86) (pc' := 90) rfl (hb hby at_86) (by decide) (by decide) k) ?_
      exact fin (some (.int (1 : Int32))) X5 (by decide) (by decide) (fun q => by cases q) (show Q_rm0 Z p1 h0 n0 _ T5.heap _ from (by rw [hh5]; exact ⟨rfl, N6⟩)) (fun fs hr => retN X5 hx (t := .boolean) hret (by simp) (hb hby at_90) hr)
    · refine go _ (s₁.setTop (mkF m 30 #[.val (.int p1), .val (.int (p1 &&& (31 : Int32))), .unset] [])) (fun t k => XS.icmpYes X0.here hx rfl (pc0 := 22) (pc' := 30) rfl (hb hby at_22) rfl (flt hc4).2.1 (by decide) (by decide) k) ?_
      refine go _ (s₁.setTop (mkF m 31 #[.val (.int p1), .val (.int (p1 &&& (31 : Int32))), .unset] [(.int (p1 &&& (31 : Int32)))])) (fun t k => XS.iloadN X0.here hx rfl (hb hby at_30) rfl k) ?_
      refine go _ (s₁.setTop (mkF m 33 #[.val (.int p1), .val (.int (p1 &&& (31 : Int32))), .unset] [(.int (24 : Int32)), (.int (p1 &&& (31 : Int32)))])) (fun t k => XS.bipush X0.here hx rfl (hb hby at_31) k) ?_
      by_cases hc8 : (p1 &&& (31 : Int32)) = (24 : Int32)
      · refine go _ (s₁.setTop (mkF m 36 #[.val (.int p1), .val (.int (p1 &&& (31 : Int32))), .unset] [])) (fun t k => XS.icmpNo X0.here hx rfl (hb hby at_33) rfl (teq hc8).2 k) ?_
        refine go _ (s₁.setTop (mkF m 37 #[.val (.int p1), .val (.int (p1 &&& (31 : Int32))), .unset] [(.int (2 : Int32))])) (fun t k => XS.iconst X0.here hx rfl (hb hby at_36) k) ?_
        refine go _ (s₁.setTop (mkF m 38 #[.val (.int p1), .val (.int (p1 &&& (31 : Int32))), .val (.int (2 : Int32))] [])) (fun t k => XS.istoreN X0.here hx rfl (hb hby at_37) rfl (l' := #[.val (.int p1), .val (.int (p1 &&& (31 : Int32))), .val (.int (2 : Int32))]) rfl k) ?_
        refine go _ (s₁.setTop (mkF m 77 #[.val (.int p1), .val (.int (p1 &&& (31 : Int32))), .val (.int (2 : Int32))] [])) (fun t k => XS.goto X0.here hx rfl (pc0 := 38) (pc' := 77) rfl (hb hby at_38) (by decide) (by decide) k) ?_
        refine go _ (s₁.setTop (mkF m 78 #[.val (.int p1), .val (.int (p1 &&& (31 : Int32))), .val (.int (2 : Int32))] [(.int (p1 &&& (31 : Int32)))])) (fun t k => XS.iloadN X0.here hx rfl (hb hby at_77) rfl k) ?_
        obtain ⟨_, _, ⟨T9, L9, k9, n9⟩, -, X9, ⟨Lc9, hQ9, l9, y9, z9⟩, st9⟩ := Jvm.LawKit.callS X0 hx (y := (⟨"com/example/countermark/countermark/cbor/CborReader", "headLength", "(I)I"⟩ : MethodName)) hown (mvT hZ (hw _ (List.mem_of_getElem? (i := 0) rfl))) (mvT hZ (hw _ (List.mem_of_getElem? (i := 1) rfl))) (mvT hZ (hw _ (List.mem_of_getElem? (i := 2) rfl))) (mvT hZ (hw _ (List.mem_of_getElem? (i := 3) rfl))) (by decide) (backOf (W := 0) (rm1 l Z a0 hw [] (p1 &&& (31 : Int32))  h0 n0 Z0 ) hZ (hw _ (List.mem_of_getElem? (i := 3) rfl)) (hw _ (List.mem_of_getElem? (i := 2) rfl)) (by decide) (by decide)) (g := (mkF m 78 #[.val (.int p1), .val (.int (p1 &&& (31 : Int32))), .val (.int (2 : Int32))] [(.int (p1 &&& (31 : Int32)))])) rfl (by rw [hml]; rfl) (argsL := [(.int (p1 &&& (31 : Int32)))]) (rest := []) (lenOf pd_1 rfl) rfl (by show 2 * 0 + _ ≤ _; exact Nat.le_of_eq rfl) (hb hby at_78) (fun _ _ => ⟨rfl, e0, (by decide : 0 + 0 ≤ _), (by decide : 0 + 0 ≤ _)⟩)
        dsimp only [Pt.U, Pt.locs, Pt.cells, Pt.slots] at X9 l9 y9 z9 st9 hQ9
        subst l9 y9 z9
        obtain ⟨rfl, Nq9, hh9⟩ := hQ9
        have N10 := Fr.app N0 Nq9
        refine go _ (T9.setTop (mkF m 81 #[.val (.int p1), .val (.int (p1 &&& (31 : Int32))), .val (.int (2 : Int32))] [(.int (f_rm1 (p1 &&& (31 : Int32))))])) (st9) ?_
        refine go _ (T9.setTop (mkF m 82 #[.val (.int p1), .val (.int (p1 &&& (31 : Int32))), .val (.int (2 : Int32))] [(.int (2 : Int32)), (.int (f_rm1 (p1 &&& (31 : Int32))))])) (fun t k => XS.iloadN X9.here hx rfl (hb hby at_81) rfl k) ?_
        have hc11 : ((f_rm1 (p1 &&& (31 : Int32))) = (2 : Int32)) := (by rw [hc8]; decide +kernel)
        refine go _ (T9.setTop (mkF m 85 #[.val (.int p1), .val (.int (p1 &&& (31 : Int32))), .val (.int (2 : Int32))] [])) (fun t k => XS.icmpNo X9.here hx rfl (hb hby at_82) rfl (teq hc11).2 k) ?_
        refine go _ (T9.setTop (mkF m 86 #[.val (.int p1), .val (.int (p1 &&& (31 : Int32))), .val (.int (2 : Int32))] [(.int (1 : Int32))])) (fun t k => XS.iconst X9.here hx rfl (hb hby at_85) k) ?_
        refine go _ (T9.setTop (mkF m 90 #[.val (.int p1), .val (.int (p1 &&& (31 : Int32))), .val (.int (2 : Int32))] [(.int (1 : Int32))])) (fun t k => XS.goto X9.here hx rfl (pc0 := 86) (pc' := 90) rfl (hb hby at_86) (by decide) (by decide) k) ?_
        exact fin (some (.int (1 : Int32))) X9 (by decide) (by decide) (fun q => by cases q) (show Q_rm0 Z p1 h0 n0 _ T9.heap _ from (by rw [hh9]; exact ⟨rfl, N10⟩)) (fun fs hr => retN X9 hx (t := .boolean) hret (by simp) (hb hby at_90) hr)
      · refine go _ (s₁.setTop (mkF m 41 #[.val (.int p1), .val (.int (p1 &&& (31 : Int32))), .unset] [])) (fun t k => XS.icmpYes X0.here hx rfl (pc0 := 33) (pc' := 41) rfl (hb hby at_33) rfl (feq hc8).2 (by decide) (by decide) k) ?_
        refine go _ (s₁.setTop (mkF m 42 #[.val (.int p1), .val (.int (p1 &&& (31 : Int32))), .unset] [(.int (p1 &&& (31 : Int32)))])) (fun t k => XS.iloadN X0.here hx rfl (hb hby at_41) rfl k) ?_
        refine go _ (s₁.setTop (mkF m 44 #[.val (.int p1), .val (.int (p1 &&& (31 : Int32))), .unset] [(.int (25 : Int32)), (.int (p1 &&& (31 : Int32)))])) (fun t k => XS.bipush X0.here hx rfl (hb hby at_42) k) ?_
        by_cases hc12 : (p1 &&& (31 : Int32)) = (25 : Int32)
        · refine go _ (s₁.setTop (mkF m 47 #[.val (.int p1), .val (.int (p1 &&& (31 : Int32))), .unset] [])) (fun t k => XS.icmpNo X0.here hx rfl (hb hby at_44) rfl (teq hc12).2 k) ?_
          refine go _ (s₁.setTop (mkF m 48 #[.val (.int p1), .val (.int (p1 &&& (31 : Int32))), .unset] [(.int (3 : Int32))])) (fun t k => XS.iconst X0.here hx rfl (hb hby at_47) k) ?_
          refine go _ (s₁.setTop (mkF m 49 #[.val (.int p1), .val (.int (p1 &&& (31 : Int32))), .val (.int (3 : Int32))] [])) (fun t k => XS.istoreN X0.here hx rfl (hb hby at_48) rfl (l' := #[.val (.int p1), .val (.int (p1 &&& (31 : Int32))), .val (.int (3 : Int32))]) rfl k) ?_
          refine go _ (s₁.setTop (mkF m 77 #[.val (.int p1), .val (.int (p1 &&& (31 : Int32))), .val (.int (3 : Int32))] [])) (fun t k => XS.goto X0.here hx rfl (pc0 := 49) (pc' := 77) rfl (hb hby at_49) (by decide) (by decide) k) ?_
          refine go _ (s₁.setTop (mkF m 78 #[.val (.int p1), .val (.int (p1 &&& (31 : Int32))), .val (.int (3 : Int32))] [(.int (p1 &&& (31 : Int32)))])) (fun t k => XS.iloadN X0.here hx rfl (hb hby at_77) rfl k) ?_
          obtain ⟨_, _, ⟨T13, L13, k13, n13⟩, -, X13, ⟨Lc13, hQ13, l13, y13, z13⟩, st13⟩ := Jvm.LawKit.callS X0 hx (y := (⟨"com/example/countermark/countermark/cbor/CborReader", "headLength", "(I)I"⟩ : MethodName)) hown (mvT hZ (hw _ (List.mem_of_getElem? (i := 0) rfl))) (mvT hZ (hw _ (List.mem_of_getElem? (i := 1) rfl))) (mvT hZ (hw _ (List.mem_of_getElem? (i := 2) rfl))) (mvT hZ (hw _ (List.mem_of_getElem? (i := 3) rfl))) (by decide) (backOf (W := 0) (rm1 l Z a0 hw [] (p1 &&& (31 : Int32))  h0 n0 Z0 ) hZ (hw _ (List.mem_of_getElem? (i := 3) rfl)) (hw _ (List.mem_of_getElem? (i := 2) rfl)) (by decide) (by decide)) (g := (mkF m 78 #[.val (.int p1), .val (.int (p1 &&& (31 : Int32))), .val (.int (3 : Int32))] [(.int (p1 &&& (31 : Int32)))])) rfl (by rw [hml]; rfl) (argsL := [(.int (p1 &&& (31 : Int32)))]) (rest := []) (lenOf pd_1 rfl) rfl (by show 2 * 0 + _ ≤ _; exact Nat.le_of_eq rfl) (hb hby at_78) (fun _ _ => ⟨rfl, e0, (by decide : 0 + 0 ≤ _), (by decide : 0 + 0 ≤ _)⟩)
          dsimp only [Pt.U, Pt.locs, Pt.cells, Pt.slots] at X13 l13 y13 z13 st13 hQ13
          subst l13 y13 z13
          obtain ⟨rfl, Nq13, hh13⟩ := hQ13
          have N14 := Fr.app N0 Nq13
          refine go _ (T13.setTop (mkF m 81 #[.val (.int p1), .val (.int (p1 &&& (31 : Int32))), .val (.int (3 : Int32))] [(.int (f_rm1 (p1 &&& (31 : Int32))))])) (st13) ?_
          refine go _ (T13.setTop (mkF m 82 #[.val (.int p1), .val (.int (p1 &&& (31 : Int32))), .val (.int (3 : Int32))] [(.int (3 : Int32)), (.int (f_rm1 (p1 &&& (31 : Int32))))])) (fun t k => XS.iloadN X13.here hx rfl (hb hby at_81) rfl k) ?_
          have hc15 : ((f_rm1 (p1 &&& (31 : Int32))) = (3 : Int32)) := (by rw [hc12]; decide +kernel)
          refine go _ (T13.setTop (mkF m 85 #[.val (.int p1), .val (.int (p1 &&& (31 : Int32))), .val (.int (3 : Int32))] [])) (fun t k => XS.icmpNo X13.here hx rfl (hb hby at_82) rfl (teq hc15).2 k) ?_
          refine go _ (T13.setTop (mkF m 86 #[.val (.int p1), .val (.int (p1 &&& (31 : Int32))), .val (.int (3 : Int32))] [(.int (1 : Int32))])) (fun t k => XS.iconst X13.here hx rfl (hb hby at_85) k) ?_
          refine go _ (T13.setTop (mkF m 90 #[.val (.int p1), .val (.int (p1 &&& (31 : Int32))), .val (.int (3 : Int32))] [(.int (1 : Int32))])) (fun t k => XS.goto X13.here hx rfl (pc0 := 86) (pc' := 90) rfl (hb hby at_86) (by decide) (by decide) k) ?_
          exact fin (some (.int (1 : Int32))) X13 (by decide) (by decide) (fun q => by cases q) (show Q_rm0 Z p1 h0 n0 _ T13.heap _ from (by rw [hh13]; exact ⟨rfl, N14⟩)) (fun fs hr => retN X13 hx (t := .boolean) hret (by simp) (hb hby at_90) hr)
        · refine go _ (s₁.setTop (mkF m 52 #[.val (.int p1), .val (.int (p1 &&& (31 : Int32))), .unset] [])) (fun t k => XS.icmpYes X0.here hx rfl (pc0 := 44) (pc' := 52) rfl (hb hby at_44) rfl (feq hc12).2 (by decide) (by decide) k) ?_
          refine go _ (s₁.setTop (mkF m 53 #[.val (.int p1), .val (.int (p1 &&& (31 : Int32))), .unset] [(.int (p1 &&& (31 : Int32)))])) (fun t k => XS.iloadN X0.here hx rfl (hb hby at_52) rfl k) ?_
          refine go _ (s₁.setTop (mkF m 55 #[.val (.int p1), .val (.int (p1 &&& (31 : Int32))), .unset] [(.int (26 : Int32)), (.int (p1 &&& (31 : Int32)))])) (fun t k => XS.bipush X0.here hx rfl (hb hby at_53) k) ?_
          by_cases hc16 : (p1 &&& (31 : Int32)) = (26 : Int32)
          · refine go _ (s₁.setTop (mkF m 58 #[.val (.int p1), .val (.int (p1 &&& (31 : Int32))), .unset] [])) (fun t k => XS.icmpNo X0.here hx rfl (hb hby at_55) rfl (teq hc16).2 k) ?_
            refine go _ (s₁.setTop (mkF m 59 #[.val (.int p1), .val (.int (p1 &&& (31 : Int32))), .unset] [(.int (5 : Int32))])) (fun t k => XS.iconst X0.here hx rfl (hb hby at_58) k) ?_
            refine go _ (s₁.setTop (mkF m 60 #[.val (.int p1), .val (.int (p1 &&& (31 : Int32))), .val (.int (5 : Int32))] [])) (fun t k => XS.istoreN X0.here hx rfl (hb hby at_59) rfl (l' := #[.val (.int p1), .val (.int (p1 &&& (31 : Int32))), .val (.int (5 : Int32))]) rfl k) ?_
            refine go _ (s₁.setTop (mkF m 77 #[.val (.int p1), .val (.int (p1 &&& (31 : Int32))), .val (.int (5 : Int32))] [])) (fun t k => XS.goto X0.here hx rfl (pc0 := 60) (pc' := 77) rfl (hb hby at_60) (by decide) (by decide) k) ?_
            refine go _ (s₁.setTop (mkF m 78 #[.val (.int p1), .val (.int (p1 &&& (31 : Int32))), .val (.int (5 : Int32))] [(.int (p1 &&& (31 : Int32)))])) (fun t k => XS.iloadN X0.here hx rfl (hb hby at_77) rfl k) ?_
            obtain ⟨_, _, ⟨T17, L17, k17, n17⟩, -, X17, ⟨Lc17, hQ17, l17, y17, z17⟩, st17⟩ := Jvm.LawKit.callS X0 hx (y := (⟨"com/example/countermark/countermark/cbor/CborReader", "headLength", "(I)I"⟩ : MethodName)) hown (mvT hZ (hw _ (List.mem_of_getElem? (i := 0) rfl))) (mvT hZ (hw _ (List.mem_of_getElem? (i := 1) rfl))) (mvT hZ (hw _ (List.mem_of_getElem? (i := 2) rfl))) (mvT hZ (hw _ (List.mem_of_getElem? (i := 3) rfl))) (by decide) (backOf (W := 0) (rm1 l Z a0 hw [] (p1 &&& (31 : Int32))  h0 n0 Z0 ) hZ (hw _ (List.mem_of_getElem? (i := 3) rfl)) (hw _ (List.mem_of_getElem? (i := 2) rfl)) (by decide) (by decide)) (g := (mkF m 78 #[.val (.int p1), .val (.int (p1 &&& (31 : Int32))), .val (.int (5 : Int32))] [(.int (p1 &&& (31 : Int32)))])) rfl (by rw [hml]; rfl) (argsL := [(.int (p1 &&& (31 : Int32)))]) (rest := []) (lenOf pd_1 rfl) rfl (by show 2 * 0 + _ ≤ _; exact Nat.le_of_eq rfl) (hb hby at_78) (fun _ _ => ⟨rfl, e0, (by decide : 0 + 0 ≤ _), (by decide : 0 + 0 ≤ _)⟩)
            dsimp only [Pt.U, Pt.locs, Pt.cells, Pt.slots] at X17 l17 y17 z17 st17 hQ17
            subst l17 y17 z17
            obtain ⟨rfl, Nq17, hh17⟩ := hQ17
            have N18 := Fr.app N0 Nq17
            refine go _ (T17.setTop (mkF m 81 #[.val (.int p1), .val (.int (p1 &&& (31 : Int32))), .val (.int (5 : Int32))] [(.int (f_rm1 (p1 &&& (31 : Int32))))])) (st17) ?_
            refine go _ (T17.setTop (mkF m 82 #[.val (.int p1), .val (.int (p1 &&& (31 : Int32))), .val (.int (5 : Int32))] [(.int (5 : Int32)), (.int (f_rm1 (p1 &&& (31 : Int32))))])) (fun t k => XS.iloadN X17.here hx rfl (hb hby at_81) rfl k) ?_
            have hc19 : ((f_rm1 (p1 &&& (31 : Int32))) = (5 : Int32)) := (by rw [hc16]; decide +kernel)
            refine go _ (T17.setTop (mkF m 85 #[.val (.int p1), .val (.int (p1 &&& (31 : Int32))), .val (.int (5 : Int32))] [])) (fun t k => XS.icmpNo X17.here hx rfl (hb hby at_82) rfl (teq hc19).2 k) ?_
            refine go _ (T17.setTop (mkF m 86 #[.val (.int p1), .val (.int (p1 &&& (31 : Int32))), .val (.int (5 : Int32))] [(.int (1 : Int32))])) (fun t k => XS.iconst X17.here hx rfl (hb hby at_85) k) ?_
            refine go _ (T17.setTop (mkF m 90 #[.val (.int p1), .val (.int (p1 &&& (31 : Int32))), .val (.int (5 : Int32))] [(.int (1 : Int32))])) (fun t k => XS.goto X17.here hx rfl (pc0 := 86) (pc' := 90) rfl (hb hby at_86) (by decide) (by decide) k) ?_
            exact fin (some (.int (1 : Int32))) X17 (by decide) (by decide) (fun q => by cases q) (show Q_rm0 Z p1 h0 n0 _ T17.heap _ from (by rw [hh17]; exact ⟨rfl, N18⟩)) (fun fs hr => retN X17 hx (t := .boolean) hret (by simp) (hb hby at_90) hr)
          · refine go _ (s₁.setTop (mkF m 63 #[.val (.int p1), .val (.int (p1 &&& (31 : Int32))), .unset] [])) (fun t k => XS.icmpYes X0.here hx rfl (pc0 := 55) (pc' := 63) rfl (hb hby at_55) rfl (feq hc16).2 (by decide) (by decide) k) ?_
            refine go _ (s₁.setTop (mkF m 64 #[.val (.int p1), .val (.int (p1 &&& (31 : Int32))), .unset] [(.int (p1 &&& (31 : Int32)))])) (fun t k => XS.iloadN X0.here hx rfl (hb hby at_63) rfl k) ?_
            refine go _ (s₁.setTop (mkF m 66 #[.val (.int p1), .val (.int (p1 &&& (31 : Int32))), .unset] [(.int (27 : Int32)), (.int (p1 &&& (31 : Int32)))])) (fun t k => XS.bipush X0.here hx rfl (hb hby at_64) k) ?_
            by_cases hc20 : (p1 &&& (31 : Int32)) = (27 : Int32)
            · refine go _ (s₁.setTop (mkF m 69 #[.val (.int p1), .val (.int (p1 &&& (31 : Int32))), .unset] [])) (fun t k => XS.icmpNo X0.here hx rfl (hb hby at_66) rfl (teq hc20).2 k) ?_
              refine go _ (s₁.setTop (mkF m 71 #[.val (.int p1), .val (.int (p1 &&& (31 : Int32))), .unset] [(.int (9 : Int32))])) (fun t k => XS.bipush X0.here hx rfl (hb hby at_69) k) ?_
              refine go _ (s₁.setTop (mkF m 72 #[.val (.int p1), .val (.int (p1 &&& (31 : Int32))), .val (.int (9 : Int32))] [])) (fun t k => XS.istoreN X0.here hx rfl (hb hby at_71) rfl (l' := #[.val (.int p1), .val (.int (p1 &&& (31 : Int32))), .val (.int (9 : Int32))]) rfl k) ?_
              refine go _ (s₁.setTop (mkF m 77 #[.val (.int p1), .val (.int (p1 &&& (31 : Int32))), .val (.int (9 : Int32))] [])) (fun t k => XS.goto X0.here hx rfl (pc0 := 72) (pc' := 77) rfl (hb hby at_72) (by decide) (by decide) k) ?_
              refine go _ (s₁.setTop (mkF m 78 #[.val (.int p1), .val (.int (p1 &&& (31 : Int32))), .val (.int (9 : Int32))] [(.int (p1 &&& (31 : Int32)))])) (fun t k => XS.iloadN X0.here hx rfl (hb hby at_77) rfl k) ?_
              obtain ⟨_, _, ⟨T21, L21, k21, n21⟩, -, X21, ⟨Lc21, hQ21, l21, y21, z21⟩, st21⟩ := Jvm.LawKit.callS X0 hx (y := (⟨"com/example/countermark/countermark/cbor/CborReader", "headLength", "(I)I"⟩ : MethodName)) hown (mvT hZ (hw _ (List.mem_of_getElem? (i := 0) rfl))) (mvT hZ (hw _ (List.mem_of_getElem? (i := 1) rfl))) (mvT hZ (hw _ (List.mem_of_getElem? (i := 2) rfl))) (mvT hZ (hw _ (List.mem_of_getElem? (i := 3) rfl))) (by decide) (backOf (W := 0) (rm1 l Z a0 hw [] (p1 &&& (31 : Int32))  h0 n0 Z0 ) hZ (hw _ (List.mem_of_getElem? (i := 3) rfl)) (hw _ (List.mem_of_getElem? (i := 2) rfl)) (by decide) (by decide)) (g := (mkF m 78 #[.val (.int p1), .val (.int (p1 &&& (31 : Int32))), .val (.int (9 : Int32))] [(.int (p1 &&& (31 : Int32)))])) rfl (by rw [hml]; rfl) (argsL := [(.int (p1 &&& (31 : Int32)))]) (rest := []) (lenOf pd_1 rfl) rfl (by show 2 * 0 + _ ≤ _; exact Nat.le_of_eq rfl) (hb hby at_78) (fun _ _ => ⟨rfl, e0, (by decide : 0 + 0 ≤ _), (by decide : 0 + 0 ≤ _)⟩)
              dsimp only [Pt.U, Pt.locs, Pt.cells, Pt.slots] at X21 l21 y21 z21 st21 hQ21
              subst l21 y21 z21
              obtain ⟨rfl, Nq21, hh21⟩ := hQ21
              have N22 := Fr.app N0 Nq21
              refine go _ (T21.setTop (mkF m 81 #[.val (.int p1), .val (.int (p1 &&& (31 : Int32))), .val (.int (9 : Int32))] [(.int (f_rm1 (p1 &&& (31 : Int32))))])) (st21) ?_
              refine go _ (T21.setTop (mkF m 82 #[.val (.int p1), .val (.int (p1 &&& (31 : Int32))), .val (.int (9 : Int32))] [(.int (9 : Int32)), (.int (f_rm1 (p1 &&& (31 : Int32))))])) (fun t k => XS.iloadN X21.here hx rfl (hb hby at_81) rfl k) ?_
              have hc23 : ((f_rm1 (p1 &&& (31 : Int32))) = (9 : Int32)) := (by rw [hc20]; decide +kernel)
              refine go _ (T21.setTop (mkF m 85 #[.val (.int p1), .val (.int (p1 &&& (31 : Int32))), .val (.int (9 : Int32))] [])) (fun t k => XS.icmpNo X21.here hx rfl (hb hby at_82) rfl (teq hc23).2 k) ?_
              refine go _ (T21.setTop (mkF m 86 #[.val (.int p1), .val (.int (p1 &&& (31 : Int32))), .val (.int (9 : Int32))] [(.int (1 : Int32))])) (fun t k => XS.iconst X21.here hx rfl (hb hby at_85) k) ?_
              refine go _ (T21.setTop (mkF m 90 #[.val (.int p1), .val (.int (p1 &&& (31 : Int32))), .val (.int (9 : Int32))] [(.int (1 : Int32))])) (fun t k => XS.goto X21.here hx rfl (pc0 := 86) (pc' := 90) rfl (hb hby at_86) (by decide) (by decide) k) ?_
              exact fin (some (.int (1 : Int32))) X21 (by decide) (by decide) (fun q => by cases q) (show Q_rm0 Z p1 h0 n0 _ T21.heap _ from (by rw [hh21]; exact ⟨rfl, N22⟩)) (fun fs hr => retN X21 hx (t := .boolean) hret (by simp) (hb hby at_90) hr)
            · refine go _ (s₁.setTop (mkF m 75 #[.val (.int p1), .val (.int (p1 &&& (31 : Int32))), .unset] [])) (fun t k => XS.icmpYes X0.here hx rfl (pc0 := 66) (pc' := 75) rfl (hb hby at_66) rfl (feq hc20).2 (by decide) (by decide) k) ?_
              refine go _ (s₁.setTop (mkF m 76 #[.val (.int p1), .val (.int (p1 &&& (31 : Int32))), .unset] [(.int (1 : Int32))])) (fun t k => XS.iconst X0.here hx rfl (hb hby at_75) k) ?_
              refine go _ (s₁.setTop (mkF m 77 #[.val (.int p1), .val (.int (p1 &&& (31 : Int32))), .val (.int (1 : Int32))] [])) (fun t k => XS.istoreN X0.here hx rfl (hb hby at_76) rfl (l' := #[.val (.int p1), .val (.int (p1 &&& (31 : Int32))), .val (.int (1 : Int32))]) rfl k) ?_
              refine go _ (s₁.setTop (mkF m 78 #[.val (.int p1), .val (.int (p1 &&& (31 : Int32))), .val (.int (1 : Int32))] [(.int (p1 &&& (31 : Int32)))])) (fun t k => XS.iloadN X0.here hx rfl (hb hby at_77) rfl k) ?_
              obtain ⟨_, _, ⟨T24, L24, k24, n24⟩, -, X24, ⟨Lc24, hQ24, l24, y24, z24⟩, st24⟩ := Jvm.LawKit.callS X0 hx (y := (⟨"com/example/countermark/countermark/cbor/CborReader", "headLength", "(I)I"⟩ : MethodName)) hown (mvT hZ (hw _ (List.mem_of_getElem? (i := 0) rfl))) (mvT hZ (hw _ (List.mem_of_getElem? (i := 1) rfl))) (mvT hZ (hw _ (List.mem_of_getElem? (i := 2) rfl))) (mvT hZ (hw _ (List.mem_of_getElem? (i := 3) rfl))) (by decide) (backOf (W := 0) (rm1 l Z a0 hw [] (p1 &&& (31 : Int32))  h0 n0 Z0 ) hZ (hw _ (List.mem_of_getElem? (i := 3) rfl)) (hw _ (List.mem_of_getElem? (i := 2) rfl)) (by decide) (by decide)) (g := (mkF m 78 #[.val (.int p1), .val (.int (p1 &&& (31 : Int32))), .val (.int (1 : Int32))] [(.int (p1 &&& (31 : Int32)))])) rfl (by rw [hml]; rfl) (argsL := [(.int (p1 &&& (31 : Int32)))]) (rest := []) (lenOf pd_1 rfl) rfl (by show 2 * 0 + _ ≤ _; exact Nat.le_of_eq rfl) (hb hby at_78) (fun _ _ => ⟨rfl, e0, (by decide : 0 + 0 ≤ _), (by decide : 0 + 0 ≤ _)⟩)
              dsimp only [Pt.U, Pt.locs, Pt.cells, Pt.slots] at X24 l24 y24 z24 st24 hQ24
              subst l24 y24 z24
              obtain ⟨rfl, Nq24, hh24⟩ := hQ24
              have N25 := Fr.app N0 Nq24
              refine go _ (T24.setTop (mkF m 81 #[.val (.int p1), .val (.int (p1 &&& (31 : Int32))), .val (.int (1 : Int32))] [(.int (f_rm1 (p1 &&& (31 : Int32))))])) (st24) ?_
              refine go _ (T24.setTop (mkF m 82 #[.val (.int p1), .val (.int (p1 &&& (31 : Int32))), .val (.int (1 : Int32))] [(.int (1 : Int32)), (.int (f_rm1 (p1 &&& (31 : Int32))))])) (fun t k => XS.iloadN X24.here hx rfl (hb hby at_81) rfl k) ?_
              have hc26 : ((f_rm1 (p1 &&& (31 : Int32))) = (1 : Int32)) := own_else p1 hc4 hc8 hc12 hc16 hc20 (Or.inl hc3)
              refine go _ (T24.setTop (mkF m 85 #[.val (.int p1), .val (.int (p1 &&& (31 : Int32))), .val (.int (1 : Int32))] [])) (fun t k => XS.icmpNo X24.here hx rfl (hb hby at_82) rfl (teq hc26).2 k) ?_
              refine go _ (T24.setTop (mkF m 86 #[.val (.int p1), .val (.int (p1 &&& (31 : Int32))), .val (.int (1 : Int32))] [(.int (1 : Int32))])) (fun t k => XS.iconst X24.here hx rfl (hb hby at_85) k) ?_
              refine go _ (T24.setTop (mkF m 90 #[.val (.int p1), .val (.int (p1 &&& (31 : Int32))), .val (.int (1 : Int32))] [(.int (1 : Int32))])) (fun t k => XS.goto X24.here hx rfl (pc0 := 86) (pc' := 90) rfl (hb hby at_86) (by decide) (by decide) k) ?_
              exact fin (some (.int (1 : Int32))) X24 (by decide) (by decide) (fun q => by cases q) (show Q_rm0 Z p1 h0 n0 _ T24.heap _ from (by rw [hh24]; exact ⟨rfl, N25⟩)) (fun fs hr => retN X24 hx (t := .boolean) hret (by simp) (hb hby at_90) hr)
  · refine go _ (s₁.setTop (mkF m 11 #[.val (.int p1), .val (.int (p1 &&& (31 : Int32))), .unset] [])) (fun t k => XS.icmpNo X0.here hx rfl (hb hby at_8) rfl (flt hc3).1 k) ?_
    refine go _ (s₁.setTop (mkF m 12 #[.val (.int p1), .val (.int (p1 &&& (31 : Int32))), .unset] [(.int (p1 &&& (31 : Int32)))])) (fun t k => XS.iloadN X0.here hx rfl (hb hby at_11) rfl k) ?_
    refine go _ (s₁.setTop (mkF m 14 #[.val (.int p1), .val (.int (p1 &&& (31 : Int32))), .unset] [(.int (30 : Int32)), (.int (p1 &&& (31 : Int32)))])) (fun t k => XS.bipush X0.here hx rfl (hb hby at_12) k) ?_
    by_cases hc27 : (30 : Int32) < (p1 &&& (31 : Int32))
    · refine go _ (s₁.setTop (mkF m 19 #[.val (.int p1), .val (.int (p1 &&& (31 : Int32))), .unset] [])) (fun t k => XS.icmpYes X0.here hx rfl (pc0 := 14) (pc' := 19) rfl (hb hby at_14) rfl (tlt hc27).2.2.1 (by decide) (by decide) k) ?_
      refine go _ (s₁.setTop (mkF m 20 #[.val (.int p1), .val (.int (p1 &&& (31 : Int32))), .unset] [(.int (p1 &&& (31 : Int32)))])) (fun t k => XS.iloadN X0.here hx rfl (hb hby at_19) rfl k) ?_
      refine go _ (s₁.setTop (mkF m 22 #[.val (.int p1), .val (.int (p1 &&& (31 : Int32))), .unset] [(.int (24 : Int32)), (.int (p1 &&& (31 : Int32)))])) (fun t k => XS.bipush X0.here hx rfl (hb hby at_20) k) ?_
      by_cases hc28 : (p1 &&& (31 : Int32)) < (24 : Int32)
      · refine go _ (s₁.setTop (mkF m 25 #[.val (.int p1), .val (.int (p1 &&& (31 : Int32))), .unset] [])) (fun t k => XS.icmpNo X0.here hx rfl (hb hby at_22) rfl (tlt hc28).2.1 k) ?_
        refine go _ (s₁.setTop (mkF m 26 #[.val (.int p1), .val (.int (p1 &&& (31 : Int32))), .unset] [(.int (1 : Int32))])) (fun t k => XS.iconst X0.here hx rfl (hb hby at_25) k) ?_
        refine go _ (s₁.setTop (mkF m 27 #[.val (.int p1), .val (.int (p1 &&& (31 : Int32))), .val (.int (1 : Int32))] [])) (fun t k => XS.istoreN X0.here hx rfl (hb hby at_26) rfl (l' := #[.val (.int p1), .val (.int (p1 &&& (31 : Int32))), .val (.int (1 : Int32))]) rfl k) ?_
        refine go _ (s₁.setTop (mkF m 77 #[.val (.int p1), .val (.int (p1 &&& (31 : Int32))), .val (.int (1 : Int32))] [])) (fun t k => XS.goto X0.here hx rfl (pc0 := 27) (pc' := 77) rfl (hb hby at_27) (by decide) (by decide) k) ?_
        refine go _ (s₁.setTop (mkF m 78 #[.val (.int p1), .val (.int (p1 &&& (31 : Int32))), .val (.int (1 : Int32))] [(.int (p1 &&& (31 : Int32)))])) (fun t k => XS.iloadN X0.here hx rfl (hb hby at_77) rfl k) ?_
        obtain ⟨_, _, ⟨T29, L29, k29, n29⟩, -, X29, ⟨Lc29, hQ29, l29, y29, z29⟩, st29⟩ := Jvm.LawKit.callS X0 hx (y := (⟨"com/example/countermark/countermark/cbor/CborReader", "headLength", "(I)I"⟩ : MethodName)) hown (mvT hZ (hw _ (List.mem_of_getElem? (i := 0) rfl))) (mvT hZ (hw _ (List.mem_of_getElem? (i := 1) rfl))) (mvT hZ (hw _ (List.mem_of_getElem? (i := 2) rfl))) (mvT hZ (hw _ (List.mem_of_getElem? (i := 3) rfl))) (by decide) (backOf (W := 0) (rm1 l Z a0 hw [] (p1 &&& (31 : Int32))  h0 n0 Z0 ) hZ (hw _ (List.mem_of_getElem? (i := 3) rfl)) (hw _ (List.mem_of_getElem? (i := 2) rfl)) (by decide) (by decide)) (g := (mkF m 78 #[.val (.int p1), .val (.int (p1 &&& (31 : Int32))), .val (.int (1 : Int32))] [(.int (p1 &&& (31 : Int32)))])) rfl (by rw [hml]; rfl) (argsL := [(.int (p1 &&& (31 : Int32)))]) (rest := []) (lenOf pd_1 rfl) rfl (by show 2 * 0 + _ ≤ _; exact Nat.le_of_eq rfl) (hb hby at_78) (fun _ _ => ⟨rfl, e0, (by decide : 0 + 0 ≤ _), (by decide : 0 + 0 ≤ _)⟩)
        dsimp only [Pt.U, Pt.locs, Pt.cells, Pt.slots] at X29 l29 y29 z29 st29 hQ29
        subst l29 y29 z29
        obtain ⟨rfl, Nq29, hh29⟩ := hQ29
        have N30 := Fr.app N0 Nq29
        refine go _ (T29.setTop (mkF m 81 #[.val (.int p1), .val (.int (p1 &&& (31 : Int32))), .val (.int (1 : Int32))] [(.int (f_rm1 (p1 &&& (31 : Int32))))])) (st29) ?_
        refine go _ (T29.setTop (mkF m 82 #[.val (.int p1), .val (.int (p1 &&& (31 : Int32))), .val (.int (1 : Int32))] [(.int (1 : Int32)), (.int (f_rm1 (p1 &&& (31 : Int32))))])) (fun t k => XS.iloadN X29.here hx rfl (hb hby at_81) rfl k) ?_
        have hc31 : ((f_rm1 (p1 &&& (31 : Int32))) = (1 : Int32)) := own_lt24 _ hc28
        refine go _ (T29.setTop (mkF m 85 #[.val (.int p1), .val (.int (p1 &&& (31 : Int32))), .val (.int (1 : Int32))] [])) (fun t k => XS.icmpNo X29.here hx rfl (hb hby at_82) rfl (teq hc31).2 k) ?_
        refine go _ (T29.setTop (mkF m 86 #[.val (.int p1), .val (.int (p1 &&& (31 : Int32))), .val (.int (1 : Int32))] [(.int (1 : Int32))])) (fun t k => XS.iconst X29.here hx rfl (hb hby at_85) k) ?_
        refine go _ (T29.setTop (mkF m 90 #[.val (.int p1), .val (.int (p1 &&& (31 : Int32))), .val (.int (1 : Int32))] [(.int (1 : Int32))])) (fun t k => XS.goto X29.here hx rfl (pc0 := 86) (pc' := 90) rfl (hb hby at_86) (by decide) (by decide) k) ?_
        exact fin (some (.int (1 : Int32))) X29 (by decide) (by decide) (fun q => by cases q) (show Q_rm0 Z p1 h0 n0 _ T29.heap _ from (by rw [hh29]; exact ⟨rfl, N30⟩)) (fun fs hr => retN X29 hx (t := .boolean) hret (by simp) (hb hby at_90) hr)
      · refine go _ (s₁.setTop (mkF m 30 #[.val (.int p1), .val (.int (p1 &&& (31 : Int32))), .unset] [])) (fun t k => XS.icmpYes X0.here hx rfl (pc0 := 22) (pc' := 30) rfl (hb hby at_22) rfl (flt hc28).2.1 (by decide) (by decide) k) ?_
        refine go _ (s₁.setTop (mkF m 31 #[.val (.int p1), .val (.int (p1 &&& (31 : Int32))), .unset] [(.int (p1 &&& (31 : Int32)))])) (fun t k => XS.iloadN X0.here hx rfl (hb hby at_30) rfl k) ?_
        refine go _ (s₁.setTop (mkF m 33 #[.val (.int p1), .val (.int (p1 &&& (31 : Int32))), .unset] [(.int (24 : Int32)), (.int (p1 &&& (31 : Int32)))])) (fun t k => XS.bipush X0.here hx rfl (hb hby at_31) k) ?_
        by_cases hc32 : (p1 &&& (31 : Int32)) = (24 : Int32)
        · refine go _ (s₁.setTop (mkF m 36 #[.val (.int p1), .val (.int (p1 &&& (31 : Int32))), .unset] [])) (fun t k => XS.icmpNo X0.here hx rfl (hb hby at_33) rfl (teq hc32).2 k) ?_
          refine go _ (s₁.setTop (mkF m 37 #[.val (.int p1), .val (.int (p1 &&& (31 : Int32))), .unset] [(.int (2 : Int32))])) (fun t k => XS.iconst X0.here hx rfl (hb hby at_36) k) ?_
          refine go _ (s₁.setTop (mkF m 38 #[.val (.int p1), .val (.int (p1 &&& (31 : Int32))), .val (.int (2 : Int32))] [])) (fun t k => XS.istoreN X0.here hx rfl (hb hby at_37) rfl (l' := #[.val (.int p1), .val (.int (p1 &&& (31 : Int32))), .val (.int (2 : Int32))]) rfl k) ?_
          refine go _ (s₁.setTop (mkF m 77 #[.val (.int p1), .val (.int (p1 &&& (31 : Int32))), .val (.int (2 : Int32))] [])) (fun t k => XS.goto X0.here hx rfl (pc0 := 38) (pc' := 77) rfl (hb hby at_38) (by decide) (by decide) k) ?_
          refine go _ (s₁.setTop (mkF m 78 #[.val (.int p1), .val (.int (p1 &&& (31 : Int32))), .val (.int (2 : Int32))] [(.int (p1 &&& (31 : Int32)))])) (fun t k => XS.iloadN X0.here hx rfl (hb hby at_77) rfl k) ?_
          obtain ⟨_, _, ⟨T33, L33, k33, n33⟩, -, X33, ⟨Lc33, hQ33, l33, y33, z33⟩, st33⟩ := Jvm.LawKit.callS X0 hx (y := (⟨"com/example/countermark/countermark/cbor/CborReader", "headLength", "(I)I"⟩ : MethodName)) hown (mvT hZ (hw _ (List.mem_of_getElem? (i := 0) rfl))) (mvT hZ (hw _ (List.mem_of_getElem? (i := 1) rfl))) (mvT hZ (hw _ (List.mem_of_getElem? (i := 2) rfl))) (mvT hZ (hw _ (List.mem_of_getElem? (i := 3) rfl))) (by decide) (backOf (W := 0) (rm1 l Z a0 hw [] (p1 &&& (31 : Int32))  h0 n0 Z0 ) hZ (hw _ (List.mem_of_getElem? (i := 3) rfl)) (hw _ (List.mem_of_getElem? (i := 2) rfl)) (by decide) (by decide)) (g := (mkF m 78 #[.val (.int p1), .val (.int (p1 &&& (31 : Int32))), .val (.int (2 : Int32))] [(.int (p1 &&& (31 : Int32)))])) rfl (by rw [hml]; rfl) (argsL := [(.int (p1 &&& (31 : Int32)))]) (rest := []) (lenOf pd_1 rfl) rfl (by show 2 * 0 + _ ≤ _; exact Nat.le_of_eq rfl) (hb hby at_78) (fun _ _ => ⟨rfl, e0, (by decide : 0 + 0 ≤ _), (by decide : 0 + 0 ≤ _)⟩)
          dsimp only [Pt.U, Pt.locs, Pt.cells, Pt.slots] at X33 l33 y33 z33 st33 hQ33
          subst l33 y33 z33
          obtain ⟨rfl, Nq33, hh33⟩ := hQ33
          have N34 := Fr.app N0 Nq33
          refine go _ (T33.setTop (mkF m 81 #[.val (.int p1), .val (.int (p1 &&& (31 : Int32))), .val (.int (2 : Int32))] [(.int (f_rm1 (p1 &&& (31 : Int32))))])) (st33) ?_
          refine go _ (T33.setTop (mkF m 82 #[.val (.int p1), .val (.int (p1 &&& (31 : Int32))), .val (.int (2 : Int32))] [(.int (2 : Int32)), (.int (f_rm1 (p1 &&& (31 : Int32))))])) (fun t k => XS.iloadN X33.here hx rfl (hb hby at_81) rfl k) ?_
          have hc35 : ((f_rm1 (p1 &&& (31 : Int32))) = (2 : Int32)) := (by rw [hc32]; decide +kernel)
          refine go _ (T33.setTop (mkF m 85 #[.val (.int p1), .val (.int (p1 &&& (31 : Int32))), .val (.int (2 : Int32))] [])) (fun t k => XS.icmpNo X33.here hx rfl (hb hby at_82) rfl (teq hc35).2 k) ?_
          refine go _ (T33.setTop (mkF m 86 #[.val (.int p1), .val (.int (p1 &&& (31 : Int32))), .val (.int (2 : Int32))] [(.int (1 : Int32))])) (fun t k => XS.iconst X33.here hx rfl (hb hby at_85) k) ?_
          refine go _ (T33.setTop (mkF m 90 #[.val (.int p1), .val (.int (p1 &&& (31 : Int32))), .val (.int (2 : Int32))] [(.int (1 : Int32))])) (fun t k => XS.goto X33.here hx rfl (pc0 := 86) (pc' := 90) rfl (hb hby at_86) (by decide) (by decide) k) ?_
          exact fin (some (.int (1 : Int32))) X33 (by decide) (by decide) (fun q => by cases q) (show Q_rm0 Z p1 h0 n0 _ T33.heap _ from (by rw [hh33]; exact ⟨rfl, N34⟩)) (fun fs hr => retN X33 hx (t := .boolean) hret (by simp) (hb hby at_90) hr)
        · refine go _ (s₁.setTop (mkF m 41 #[.val (.int p1), .val (.int (p1 &&& (31 : Int32))), .unset] [])) (fun t k => XS.icmpYes X0.here hx rfl (pc0 := 33) (pc' := 41) rfl (hb hby at_33) rfl (feq hc32).2 (by decide) (by decide) k) ?_
          refine go _ (s₁.setTop (mkF m 42 #[.val (.int p1), .val (.int (p1 &&& (31 : Int32))), .unset] [(.int (p1 &&& (31 : Int32)))])) (fun t k => XS.iloadN X0.here hx rfl (hb hby at_41) rfl k) ?_
          refine go _ (s₁.setTop (mkF m 44 #[.val (.int p1), .val (.int (p1 &&& (31 : Int32))), .unset] [(.int (25 : Int32)), (.int (p1 &&& (31 : Int32)))])) (fun t k => XS.bipush X0.here hx rfl (hb hby at_42) k) ?_
          by_cases hc36 : (p1 &&& (31 : Int32)) = (25 : Int32)
          · refine go _ (s₁.setTop (mkF m 47 #[.val (.int p1), .val (.int (p1 &&& (31 : Int32))), .unset] [])) (fun t k => XS.icmpNo X0.here hx rfl (hb hby at_44) rfl (teq hc36).2 k) ?_
            refine go _ (s₁.setTop (mkF m 48 #[.val (.int p1), .val (.int (p1 &&& (31 : Int32))), .unset] [(.int (3 : Int32))])) (fun t k => XS.iconst X0.here hx rfl (hb hby at_47) k) ?_
            refine go _ (s₁.setTop (mkF m 49 #[.val (.int p1), .val (.int (p1 &&& (31 : Int32))), .val (.int (3 : Int32))] [])) (fun t k => XS.istoreN X0.here hx rfl (hb hby at_48) rfl (l' := #[.val (.int p1), .val (.int (p1 &&& (31 : Int32))), .val (.int (3 : Int32))]) rfl k) ?_
            refine go _ (s₁.setTop (mkF m 77 #[.val (.int p1), .val (.int (p1 &&& (31 : Int32))), .val (.int (3 : Int32))] [])) (fun t k => XS.goto X0.here hx rfl (pc0 := 49) (pc' := 77) rfl (hb hby at_49) (by decide) (by decide) k) ?_
            refine go _ (s₁.setTop (mkF m 78 #[.val (.int p1), .val (.int (p1 &&& (31 : Int32))), .val (.int (3 : Int32))] [(.int (p1 &&& (31 : Int32)))])) (fun t k => XS.iloadN X0.here hx rfl (hb hby at_77) rfl k) ?_
            obtain ⟨_, _, ⟨T37, L37, k37, n37⟩, -, X37, ⟨Lc37, hQ37, l37, y37, z37⟩, st37⟩ := Jvm.LawKit.callS X0 hx (y := (⟨"com/example/countermark/countermark/cbor/CborReader", "headLength", "(I)I"⟩ : MethodName)) hown (mvT hZ (hw _ (List.mem_of_getElem? (i := 0) rfl))) (mvT hZ (hw _ (List.mem_of_getElem? (i := 1) rfl))) (mvT hZ (hw _ (List.mem_of_getElem? (i := 2) rfl))) (mvT hZ (hw _ (List.mem_of_getElem? (i := 3) rfl))) (by decide) (backOf (W := 0) (rm1 l Z a0 hw [] (p1 &&& (31 : Int32))  h0 n0 Z0 ) hZ (hw _ (List.mem_of_getElem? (i := 3) rfl)) (hw _ (List.mem_of_getElem? (i := 2) rfl)) (by decide) (by decide)) (g := (mkF m 78 #[.val (.int p1), .val (.int (p1 &&& (31 : Int32))), .val (.int (3 : Int32))] [(.int (p1 &&& (31 : Int32)))])) rfl (by rw [hml]; rfl) (argsL := [(.int (p1 &&& (31 : Int32)))]) (rest := []) (lenOf pd_1 rfl) rfl (by show 2 * 0 + _ ≤ _; exact Nat.le_of_eq rfl) (hb hby at_78) (fun _ _ => ⟨rfl, e0, (by decide : 0 + 0 ≤ _), (by decide : 0 + 0 ≤ _)⟩)
            dsimp only [Pt.U, Pt.locs, Pt.cells, Pt.slots] at X37 l37 y37 z37 st37 hQ37
            subst l37 y37 z37
            obtain ⟨rfl, Nq37, hh37⟩ := hQ37
            have N38 := Fr.app N0 Nq37
            refine go _ (T37.setTop (mkF m 81 #[.val (.int p1), .val (.int (p1 &&& (31 : Int32))), .val (.int (3 : Int32))] [(.int (f_rm1 (p1 &&& (31 : Int32))))])) (st37) ?_
            refine go _ (T37.setTop (mkF m 82 #[.val (.int p1), .val (.int (p1 &&& (31 : Int32))), .val (.int (3 : Int32))] [(.int (3 : Int32)), (.int (f_rm1 (p1 &&& (31 : Int32))))])) (fun t k => XS.iloadN X37.here hx rfl (hb hby at_81) rfl k) ?_
            have hc39 : ((f_rm1 (p1 &&& (31 : Int32))) = (3 : Int32)) := (by rw [hc36]; decide +kernel)
            refine go _ (T37.setTop (mkF m 85 #[.val (.int p1), .val (.int (p1 &&& (31 : Int32))), .val (.int (3 : Int32))] [])) (fun t k => XS.icmpNo X37.here hx rfl (hb hby at_82) rfl (teq hc39).2 k) ?_
            refine go _ (T37.setTop (mkF m 86 #[.val (.int p1), .val (.int (p1 &&& (31 : Int32))), .val (.int (3 : Int32))] [(.int (1 : Int32))])) (fun t k => XS.iconst X37.here hx rfl (hb hby at_85) k) ?_
            refine go _ (T37.setTop (mkF m 90 #[.val (.int p1), .val (.int (p1 &&& (31 : Int32))), .val (.int (3 : Int32))] [(.int (1 : Int32))])) (fun t k => XS.goto X37.here hx rfl (pc0 := 86) (pc' := 90) rfl (hb hby at_86) (by decide) (by decide) k) ?_
            exact fin (some (.int (1 : Int32))) X37 (by decide) (by decide) (fun q => by cases q) (show Q_rm0 Z p1 h0 n0 _ T37.heap _ from (by rw [hh37]; exact ⟨rfl, N38⟩)) (fun fs hr => retN X37 hx (t := .boolean) hret (by simp) (hb hby at_90) hr)
          · refine go _ (s₁.setTop (mkF m 52 #[.val (.int p1), .val (.int (p1 &&& (31 : Int32))), .unset] [])) (fun t k => XS.icmpYes X0.here hx rfl (pc0 := 44) (pc' := 52) rfl (hb hby at_44) rfl (feq hc36).2 (by decide) (by decide) k) ?_
            refine go _ (s₁.setTop (mkF m 53 #[.val (.int p1), .val (.int (p1 &&& (31 : Int32))), .unset] [(.int (p1 &&& (31 : Int32)))])) (fun t k => XS.iloadN X0.here hx rfl (hb hby at_52) rfl k) ?_
            refine go _ (s₁.setTop (mkF m 55 #[.val (.int p1), .val (.int (p1 &&& (31 : Int32))), .unset] [(.int (26 : Int32)), (.int (p1 &&& (31 : Int32)))])) (fun t k => XS.bipush X0.here hx rfl (hb hby at_53) k) ?_
            by_cases hc40 : (p1 &&& (31 : Int32)) = (26 : Int32)
            · refine go _ (s₁.setTop (mkF m 58 #[.val (.int p1), .val (.int (p1 &&& (31 : Int32))), .unset] [])) (fun t k => XS.icmpNo X0.here hx rfl (hb hby at_55) rfl (teq hc40).2 k) ?_
              refine go _ (s₁.setTop (mkF m 59 #[.val (.int p1), .val (.int (p1 &&& (31 : Int32))), .unset] [(.int (5 : Int32))])) (fun t k => XS.iconst X0.here hx rfl (hb hby at_58) k) ?_
              refine go _ (s₁.setTop (mkF m 60 #[.val (.int p1), .val (.int (p1 &&& (31 : Int32))), .val (.int (5 : Int32))] [])) (fun t k => XS.istoreN X0.here hx rfl (hb hby at_59) rfl (l' := #[.val (.int p1), .val (.int (p1 &&& (31 : Int32))), .val (.int (5 : Int32))]) rfl k) ?_
              refine go _ (s₁.setTop (mkF m 77 #[.val (.int p1), .val (.int (p1 &&& (31 : Int32))), .val (.int (5 : Int32))] [])) (fun t k => XS.goto X0.here hx rfl (pc0 := 60) (pc' := 77) rfl (hb hby at_60) (by decide) (by decide) k) ?_
              refine go _ (s₁.setTop (mkF m 78 #[.val (.int p1), .val (.int (p1 &&& (31 : Int32))), .val (.int (5 : Int32))] [(.int (p1 &&& (31 : Int32)))])) (fun t k => XS.iloadN X0.here hx rfl (hb hby at_77) rfl k) ?_
              obtain ⟨_, _, ⟨T41, L41, k41, n41⟩, -, X41, ⟨Lc41, hQ41, l41, y41, z41⟩, st41⟩ := Jvm.LawKit.callS X0 hx (y := (⟨"com/example/countermark/countermark/cbor/CborReader", "headLength", "(I)I"⟩ : MethodName)) hown (mvT hZ (hw _ (List.mem_of_getElem? (i := 0) rfl))) (mvT hZ (hw _ (List.mem_of_getElem? (i := 1) rfl))) (mvT hZ (hw _ (List.mem_of_getElem? (i := 2) rfl))) (mvT hZ (hw _ (List.mem_of_getElem? (i := 3) rfl))) (by decide) (backOf (W := 0) (rm1 l Z a0 hw [] (p1 &&& (31 : Int32))  h0 n0 Z0 ) hZ (hw _ (List.mem_of_getElem? (i := 3) rfl)) (hw _ (List.mem_of_getElem? (i := 2) rfl)) (by decide) (by decide)) (g := (mkF m 78 #[.val (.int p1), .val (.int (p1 &&& (31 : Int32))), .val (.int (5 : Int32))] [(.int (p1 &&& (31 : Int32)))])) rfl (by rw [hml]; rfl) (argsL := [(.int (p1 &&& (31 : Int32)))]) (rest := []) (lenOf pd_1 rfl) rfl (by show 2 * 0 + _ ≤ _; exact Nat.le_of_eq rfl) (hb hby at_78) (fun _ _ => ⟨rfl, e0, (by decide : 0 + 0 ≤ _), (by decide : 0 + 0 ≤ _)⟩)
              dsimp only [Pt.U, Pt.locs, Pt.cells, Pt.slots] at X41 l41 y41 z41 st41 hQ41
              subst l41 y41 z41
              obtain ⟨rfl, Nq41, hh41⟩ := hQ41
              have N42 := Fr.app N0 Nq41
              refine go _ (T41.setTop (mkF m 81 #[.val (.int p1), .val (.int (p1 &&& (31 : Int32))), .val (.int (5 : Int32))] [(.int (f_rm1 (p1 &&& (31 : Int32))))])) (st41) ?_
              refine go _ (T41.setTop (mkF m 82 #[.val (.int p1), .val (.int (p1 &&& (31 : Int32))), .val (.int (5 : Int32))] [(.int (5 : Int32)), (.int (f_rm1 (p1 &&& (31 : Int32))))])) (fun t k => XS.iloadN X41.here hx rfl (hb hby at_81) rfl k) ?_
              have hc43 : ((f_rm1 (p1 &&& (31 : Int32))) = (5 : Int32)) := (by rw [hc40]; decide +kernel)
              refine go _ (T41.setTop (mkF m 85 #[.val (.int p1), .val (.int (p1 &&& (31 : Int32))), .val (.int (5 : Int32))] [])) (fun t k => XS.icmpNo X41.here hx rfl (hb hby at_82) rfl (teq hc43).2 k) ?_
              refine go _ (T41.setTop (mkF m 86 #[.val (.int p1), .val (.int (p1 &&& (31 : Int32))), .val (.int (5 : Int32))] [(.int (1 : Int32))])) (fun t k => XS.iconst X41.here hx rfl (hb hby at_85) k) ?_
              refine go _ (T41.setTop (mkF m 90 #[.val (.int p1), .val (.int (p1 &&& (31 : Int32))), .val (.int (5 : Int32))] [(.int (1 : Int32))])) (fun t k => XS.goto X41.here hx rfl (pc0 := 86) (pc' := 90) rfl (hb hby at_86) (by decide) (by decide) k) ?_
              exact fin (some (.int (1 : Int32))) X41 (by decide) (by decide) (fun q => by cases q) (show Q_rm0 Z p1 h0 n0 _ T41.heap _ from (by rw [hh41]; exact ⟨rfl, N42⟩)) (fun fs hr => retN X41 hx (t := .boolean) hret (by simp) (hb hby at_90) hr)
            · refine go _ (s₁.setTop (mkF m 63 #[.val (.int p1), .val (.int (p1 &&& (31 : Int32))), .unset] [])) (fun t k => XS.icmpYes X0.here hx rfl (pc0 := 55) (pc' := 63) rfl (hb hby at_55) rfl (feq hc40).2 (by decide) (by decide) k) ?_
              refine go _ (s₁.setTop (mkF m 64 #[.val (.int p1), .val (.int (p1 &&& (31 : Int32))), .unset] [(.int (p1 &&& (31 : Int32)))])) (fun t k => XS.iloadN X0.here hx rfl (hb hby at_63) rfl k) ?_
              refine go _ (s₁.setTop (mkF m 66 #[.val (.int p1), .val (.int (p1 &&& (31 : Int32))), .unset] [(.int (27 : Int32)), (.int (p1 &&& (31 : Int32)))])) (fun t k => XS.bipush X0.here hx rfl (hb hby at_64) k) ?_
              by_cases hc44 : (p1 &&& (31 : Int32)) = (27 : Int32)
              · refine go _ (s₁.setTop (mkF m 69 #[.val (.int p1), .val (.int (p1 &&& (31 : Int32))), .unset] [])) (fun t k => XS.icmpNo X0.here hx rfl (hb hby at_66) rfl (teq hc44).2 k) ?_
                refine go _ (s₁.setTop (mkF m 71 #[.val (.int p1), .val (.int (p1 &&& (31 : Int32))), .unset] [(.int (9 : Int32))])) (fun t k => XS.bipush X0.here hx rfl (hb hby at_69) k) ?_
                refine go _ (s₁.setTop (mkF m 72 #[.val (.int p1), .val (.int (p1 &&& (31 : Int32))), .val (.int (9 : Int32))] [])) (fun t k => XS.istoreN X0.here hx rfl (hb hby at_71) rfl (l' := #[.val (.int p1), .val (.int (p1 &&& (31 : Int32))), .val (.int (9 : Int32))]) rfl k) ?_
                refine go _ (s₁.setTop (mkF m 77 #[.val (.int p1), .val (.int (p1 &&& (31 : Int32))), .val (.int (9 : Int32))] [])) (fun t k => XS.goto X0.here hx rfl (pc0 := 72) (pc' := 77) rfl (hb hby at_72) (by decide) (by decide) k) ?_
                refine go _ (s₁.setTop (mkF m 78 #[.val (.int p1), .val (.int (p1 &&& (31 : Int32))), .val (.int (9 : Int32))] [(.int (p1 &&& (31 : Int32)))])) (fun t k => XS.iloadN X0.here hx rfl (hb hby at_77) rfl k) ?_
                obtain ⟨_, _, ⟨T45, L45, k45, n45⟩, -, X45, ⟨Lc45, hQ45, l45, y45, z45⟩, st45⟩ := Jvm.LawKit.callS X0 hx (y := (⟨"com/example/countermark/countermark/cbor/CborReader", "headLength", "(I)I"⟩ : MethodName)) hown (mvT hZ (hw _ (List.mem_of_getElem? (i := 0) rfl))) (mvT hZ (hw _ (List.mem_of_getElem? (i := 1) rfl))) (mvT hZ (hw _ (List.mem_of_getElem? (i := 2) rfl))) (mvT hZ (hw _ (List.mem_of_getElem? (i := 3) rfl))) (by decide) (backOf (W := 0) (rm1 l Z a0 hw [] (p1 &&& (31 : Int32))  h0 n0 Z0 ) hZ (hw _ (List.mem_of_getElem? (i := 3) rfl)) (hw _ (List.mem_of_getElem? (i := 2) rfl)) (by decide) (by decide)) (g := (mkF m 78 #[.val (.int p1), .val (.int (p1 &&& (31 : Int32))), .val (.int (9 : Int32))] [(.int (p1 &&& (31 : Int32)))])) rfl (by rw [hml]; rfl) (argsL := [(.int (p1 &&& (31 : Int32)))]) (rest := []) (lenOf pd_1 rfl) rfl (by show 2 * 0 + _ ≤ _; exact Nat.le_of_eq rfl) (hb hby at_78) (fun _ _ => ⟨rfl, e0, (by decide : 0 + 0 ≤ _), (by decide : 0 + 0 ≤ _)⟩)
                dsimp only [Pt.U, Pt.locs, Pt.cells, Pt.slots] at X45 l45 y45 z45 st45 hQ45
                subst l45 y45 z45
                obtain ⟨rfl, Nq45, hh45⟩ := hQ45
                have N46 := Fr.app N0 Nq45
                refine go _ (T45.setTop (mkF m 81 #[.val (.int p1), .val (.int (p1 &&& (31 : Int32))), .val (.int (9 : Int32))] [(.int (f_rm1 (p1 &&& (31 : Int32))))])) (st45) ?_
                refine go _ (T45.setTop (mkF m 82 #[.val (.int p1), .val (.int (p1 &&& (31 : Int32))), .val (.int (9 : Int32))] [(.int (9 : Int32)), (.int (f_rm1 (p1 &&& (31 : Int32))))])) (fun t k => XS.iloadN X45.here hx rfl (hb hby at_81) rfl k) ?_
                have hc47 : ((f_rm1 (p1 &&& (31 : Int32))) = (9 : Int32)) := (by rw [hc44]; decide +kernel)
                refine go _ (T45.setTop (mkF m 85 #[.val (.int p1), .val (.int (p1 &&& (31 : Int32))), .val (.int (9 : Int32))] [])) (fun t k => XS.icmpNo X45.here hx rfl (hb hby at_82) rfl (teq hc47).2 k) ?_
                refine go _ (T45.setTop (mkF m 86 #[.val (.int p1), .val (.int (p1 &&& (31 : Int32))), .val (.int (9 : Int32))] [(.int (1 : Int32))])) (fun t k => XS.iconst X45.here hx rfl (hb hby at_85) k) ?_
                refine go _ (T45.setTop (mkF m 90 #[.val (.int p1), .val (.int (p1 &&& (31 : Int32))), .val (.int (9 : Int32))] [(.int (1 : Int32))])) (fun t k => XS.goto X45.here hx rfl (pc0 := 86) (pc' := 90) rfl (hb hby at_86) (by decide) (by decide) k) ?_
                exact fin (some (.int (1 : Int32))) X45 (by decide) (by decide) (fun q => by cases q) (show Q_rm0 Z p1 h0 n0 _ T45.heap _ from (by rw [hh45]; exact ⟨rfl, N46⟩)) (fun fs hr => retN X45 hx (t := .boolean) hret (by simp) (hb hby at_90) hr)
              · refine go _ (s₁.setTop (mkF m 75 #[.val (.int p1), .val (.int (p1 &&& (31 : Int32))), .unset] [])) (fun t k => XS.icmpYes X0.here hx rfl (pc0 := 66) (pc' := 75) rfl (hb hby at_66) rfl (feq hc44).2 (by decide) (by decide) k) ?_
                refine go _ (s₁.setTop (mkF m 76 #[.val (.int p1), .val (.int (p1 &&& (31 : Int32))), .unset] [(.int (1 : Int32))])) (fun t k => XS.iconst X0.here hx rfl (hb hby at_75) k) ?_
                refine go _ (s₁.setTop (mkF m 77 #[.val (.int p1), .val (.int (p1 &&& (31 : Int32))), .val (.int (1 : Int32))] [])) (fun t k => XS.istoreN X0.here hx rfl (hb hby at_76) rfl (l' := #[.val (.int p1), .val (.int (p1 &&& (31 : Int32))), .val (.int (1 : Int32))]) rfl k) ?_
                refine go _ (s₁.setTop (mkF m 78 #[.val (.int p1), .val (.int (p1 &&& (31 : Int32))), .val (.int (1 : Int32))] [(.int (p1 &&& (31 : Int32)))])) (fun t k => XS.iloadN X0.here hx rfl (hb hby at_77) rfl k) ?_
                obtain ⟨_, _, ⟨T48, L48, k48, n48⟩, -, X48, ⟨Lc48, hQ48, l48, y48, z48⟩, st48⟩ := Jvm.LawKit.callS X0 hx (y := (⟨"com/example/countermark/countermark/cbor/CborReader", "headLength", "(I)I"⟩ : MethodName)) hown (mvT hZ (hw _ (List.mem_of_getElem? (i := 0) rfl))) (mvT hZ (hw _ (List.mem_of_getElem? (i := 1) rfl))) (mvT hZ (hw _ (List.mem_of_getElem? (i := 2) rfl))) (mvT hZ (hw _ (List.mem_of_getElem? (i := 3) rfl))) (by decide) (backOf (W := 0) (rm1 l Z a0 hw [] (p1 &&& (31 : Int32))  h0 n0 Z0 ) hZ (hw _ (List.mem_of_getElem? (i := 3) rfl)) (hw _ (List.mem_of_getElem? (i := 2) rfl)) (by decide) (by decide)) (g := (mkF m 78 #[.val (.int p1), .val (.int (p1 &&& (31 : Int32))), .val (.int (1 : Int32))] [(.int (p1 &&& (31 : Int32)))])) rfl (by rw [hml]; rfl) (argsL := [(.int (p1 &&& (31 : Int32)))]) (rest := []) (lenOf pd_1 rfl) rfl (by show 2 * 0 + _ ≤ _; exact Nat.le_of_eq rfl) (hb hby at_78) (fun _ _ => ⟨rfl, e0, (by decide : 0 + 0 ≤ _), (by decide : 0 + 0 ≤ _)⟩)
                dsimp only [Pt.U, Pt.locs, Pt.cells, Pt.slots] at X48 l48 y48 z48 st48 hQ48
                subst l48 y48 z48
                obtain ⟨rfl, Nq48, hh48⟩ := hQ48
                have N49 := Fr.app N0 Nq48
                refine go _ (T48.setTop (mkF m 81 #[.val (.int p1), .val (.int (p1 &&& (31 : Int32))), .val (.int (1 : Int32))] [(.int (f_rm1 (p1 &&& (31 : Int32))))])) (st48) ?_
                refine go _ (T48.setTop (mkF m 82 #[.val (.int p1), .val (.int (p1 &&& (31 : Int32))), .val (.int (1 : Int32))] [(.int (1 : Int32)), (.int (f_rm1 (p1 &&& (31 : Int32))))])) (fun t k => XS.iloadN X48.here hx rfl (hb hby at_81) rfl k) ?_
                have hc50 : ((f_rm1 (p1 &&& (31 : Int32))) = (1 : Int32)) := own_else p1 hc28 hc32 hc36 hc40 hc44 (Or.inr hc27)
                refine go _ (T48.setTop (mkF m 85 #[.val (.int p1), .val (.int (p1 &&& (31 : Int32))), .val (.int (1 : Int32))] [])) (fun t k => XS.icmpNo X48.here hx rfl (hb hby at_82) rfl (teq hc50).2 k) ?_
                refine go _ (T48.setTop (mkF m 86 #[.val (.int p1), .val (.int (p1 &&& (31 : Int32))), .val (.int (1 : Int32))] [(.int (1 : Int32))])) (fun t k => XS.iconst X48.here hx rfl (hb hby at_85) k) ?_
                refine go _ (T48.setTop (mkF m 90 #[.val (.int p1), .val (.int (p1 &&& (31 : Int32))), .val (.int (1 : Int32))] [(.int (1 : Int32))])) (fun t k => XS.goto X48.here hx rfl (pc0 := 86) (pc' := 90) rfl (hb hby at_86) (by decide) (by decide) k) ?_
                exact fin (some (.int (1 : Int32))) X48 (by decide) (by decide) (fun q => by cases q) (show Q_rm0 Z p1 h0 n0 _ T48.heap _ from (by rw [hh48]; exact ⟨rfl, N49⟩)) (fun fs hr => retN X48 hx (t := .boolean) hret (by simp) (hb hby at_90) hr)
    · refine go _ (s₁.setTop (mkF m 17 #[.val (.int p1), .val (.int (p1 &&& (31 : Int32))), .unset] [])) (fun t k => XS.icmpNo X0.here hx rfl (hb hby at_14) rfl (flt hc27).2.2.1 k) ?_
      refine go _ (s₁.setTop (mkF m 18 #[.val (.int p1), .val (.int (p1 &&& (31 : Int32))), .unset] [(.int (1 : Int32))])) (fun t k => XS.iconst X0.here hx rfl (hb hby at_17) k) ?_
      exact fin (some (.int (1 : Int32))) X0 (by decide) (by decide) (fun q => by cases q) (show Q_rm0 Z p1 h0 n0 _ s₁.heap _ from (by rw [e0]; exact ⟨rfl, N0⟩)) (fun fs hr => retN X0 hx (t := .boolean) hret (by simp) (hb hby at_18) hr)
set_option maxRecDepth 65536 in
set_option maxHeartbeats 40000000 in
theorem comes_1 {Post : Tables → Env → Array Value → State → Outcome → State → Prop} (hpost : ∀ tb e args s v u, (limb_1_1.after args s (.returned v) u = true ∧ limb_1_2.after args s (.returned v) u = true ∧ True) → FrameEnd s (.returned v) u (Jvm.fieldLocs frame_1_writes args s ++ Jvm.arrayLocs frame_1_arrays args s ++ Jvm.staticLocs frame_1_statics s) 0 0 → Post tb e args s (.returned v) u) :
    ArmFor flags0 classFile x code maxLocals ret World_1 tables_1 room_1 Calls_1 rest_1 Pre_1 Post := by
  intro l hfl _ _ p e ha hc hk s m args below hf hA hF happ hP
  obtain ⟨hcalls, hrest, hpre⟩ := hP
  obtain ⟨-, -, -, hnamed, -, -, -, hat⟩ := (Spec.applies_iff hf).mp happ
  obtain ⟨hg, hn⟩ := and_e (Cond.before_iff.mp (show (Jvm.Cond.and given_1 narrow_1).before args s = true from hpre))
  obtain ⟨gc, g1⟩ := and_e hg
  have ga0 := g1
  obtain ⟨w0, rfl⟩ : ∃ w0 : Value, args = #[w0] := by
    have hs : args.size = 1 := by simpa [Cond.value, given_1] using gc
    obtain ⟨L⟩ := args
    match L, hs with
    | [w0], _ => exact ⟨w0, rfl⟩
  have hw := fun d (hd : d ∈ tables_1) => atoms_spec (ws := Jvm.Cond.code x code maxLocals ret :: tables_1) hat d (List.mem_cons_of_mem _ hd)
  obtain ⟨i0, ei0⟩ := is_v ga0
  obtain rfl : w0 = (.int i0) := Option.some.inj ei0
  obtain ⟨n, o, h1, h2, h3, _, L, rfl, ⟨rfl, N⟩, hq⟩ := rm0 l s _ hw tables_1 i0 s.heap s.heap.size (Nat.le_refl _) p e ha hc hk s m _ below hf ((Spec.applies_iff_loose hf).mp happ).1 ⟨rfl, State.Warmed39.refl s, rfl⟩ trivial
  refine ⟨n, _, h1, h2, h3, hpost _ _ _ _ _ _ ⟨Cond.after_iff.mpr rfl, Cond.after_iff.mpr (eq_i res_at (Term.int_eval (1)) rfl), trivial⟩ ⟨hq.1, hq.2.1, (hq.2.2.sift fun y hy => Or.inr (N y hy)).mono (by decide) (by decide)⟩⟩
theorem main_1_1 : Claimed_1_1 := comes_1 fun _ _ _ _ _ _ h hF => ⟨h.1, hF⟩
theorem main_1_2 : Claimed_1_2 := comes_1 fun _ _ _ _ _ _ h hF => ⟨h.2.1, hF⟩
end Jvm.Pilot.@@N@@
namespace Jvm.Pilot.@@N@@
open Jvm Jvm.ClassFile Sem Op Lib Jvm.Free Jvm.Stand Jvm.Pilot.@@N@@.Jvm.D
/-! MADE BY PROGRAM (witnessworld.py) out of the Statement's table words and the real class files: 9 classes; the members and pool entries that the words name. The judged class is class 1, her method 1. -/
namespace start1
open Jvm.ClassFile
def u (s : String) : CpInfo := .utf8 (stringToUtf16 s)
/-- a pool by its gaps: so many unusable entries, then the entry; so many at the end -/
def gap : Nat → List CpInfo → List CpInfo
  | 0, r => r
  | n + 1, r => .unusable :: gap n r
def poolList (es : List (Nat × CpInfo)) (last : Nat) : List CpInfo := es.foldr (fun e r => gap e.1 (e.2 :: r)) (gap last [])
def pool (es : List (Nat × CpInfo)) (last : Nat) : Array CpInfo := ⟨poolList es last⟩
def fileOf (pool : Array CpInfo) (this : Nat) (attrs : Array Attribute := #[]) (ms : Array MethodInfo := #[]) (fl : Nat := 33) (sup : Nat := 0) (ifs : Array Nat := #[]) (fds : Array FieldInfo := #[]) : ClassFile where
  minorVersion := 0
  majorVersion := 65
  constantPool := pool
  accessFlags := fl
  thisClass := this
  superClass := sup
  interfaces := ifs
  fields := fds
  methods := ms
  attributes := attrs
def plain (name : String) (sup : Option ClassId) : Class where
  name := name
  kind := .ordinary
  loader := none
  accessFlags := 33
  super := sup
  interfaces := #[]
  cf := none
  fields := #[]
  methods := #[]
  instanceTypes := #[]
  staticTypes := #[]
  resolved := #[]
  callSites := []
  init := .initialized
  statics := none
  mirror := none

def pool0 : Array CpInfo := pool [(5, u "<init>"), (0, u "()V"), (1, .class_ 10), (1, u "java/lang/Object")] 113

def k0m0 : Method := { name := "<init>", desc := "()V", sig := { parameters := [], returnType := none }, accessFlags := 1, code := none }
/-- java/lang/Object -/
def k0 : Class := { plain "java/lang/Object" none with
  accessFlags := 33
  interfaces := #[]
  cf := some (fileOf pool0 8 #[] #[{ accessFlags := 1, nameIndex := 5, descriptorIndex := 6, attributes := #[] }] 33 0 #[] #[])
  fields := #[]
  methods := #[k0m0]
  instanceTypes := #[]
  staticTypes := #[]
  resolved := Array.replicate 124 none
  statics := none }

def pool1 : Array CpInfo := pool [(2, .class_ 4), (1, u "java/lang/Object"), (0, u "<init>"), (0, u "()V"), (0, .methodref 8 9), (0, .class_ 10), (0, .nameAndType 11 12), (0, u "com/example/countermark/countermark/cbor/CborReader"), (0, u "headLength"), (0, u "(I)I"), (0, .class_ 14), (0, u "com/example/countermark/countermark/cbor/CborReaderHeadLengthPinLaw"), (2, u "law"), (0, u "(I)Z")] 3

def k1m0 : Method := { name := "<init>", desc := "()V", sig := { parameters := [], returnType := none }, accessFlags := 1, code := none }
def k1c1 : Code := { maxStack := 2, maxLocals := 3, code := code, exceptionTable := #[], attributes := #[] }
def k1m1 : Method := { name := "law", desc := "(I)Z", sig := { parameters := [.int], returnType := some .boolean }, accessFlags := 9, code := some k1c1 }
/-- com/example/countermark/countermark/cbor/CborReaderHeadLengthPinLaw -/
def k1 : Class := { plain "com/example/countermark/countermark/cbor/CborReaderHeadLengthPinLaw" (some 0) with
  accessFlags := 49
  interfaces := #[]
  cf := some (fileOf pool1 13 #[] #[{ accessFlags := 1, nameIndex := 5, descriptorIndex := 6, attributes := #[] }, { accessFlags := 9, nameIndex := 17, descriptorIndex := 18, attributes := #[] }] 49 2 #[] #[])
  fields := #[]
  methods := #[k1m0, k1m1]
  instanceTypes := #[]
  staticTypes := #[]
  resolved := Array.replicate 22 none
  statics := none }

def pool2 : Array CpInfo := pool [(6, .class_ 8), (1, u "java/lang/Object"), (3, .class_ 14), (1, u "com/example/countermark/countermark/cbor/CborReader"), (0, u "input"), (0, u "[B"), (2, u "position"), (0, u "I"), (2, u "end"), (7, u "index"), (0, u "Lcom/example/countermark/countermark/cbor/CborIndex;"), (47, u "(I)I"), (81, u "headLength"), (86, u "MAX_NESTING"), (2, u "MAX_ENTRIES"), (0, u "MAX_INPUT_LENGTH"), (1, u "UTF8_CHECK_CHARS")] 35

def k2c0 : Code := { maxStack := 4, maxLocals := 1, code := prog_6_method_14_code, exceptionTable := #[], attributes := #[] }
def k2m0 : Method := { name := "headLength", desc := "(I)I", sig := { parameters := [.int], returnType := some .int }, accessFlags := 8, code := some k2c0 }
/-- com/example/countermark/countermark/cbor/CborReader -/
def k2 : Class := { plain "com/example/countermark/countermark/cbor/CborReader" (some 0) with
  accessFlags := 49
  interfaces := #[]
  cf := some (fileOf pool2 12 #[] #[{ accessFlags := 8, nameIndex := 162, descriptorIndex := 80, attributes := #[] }] 49 6 #[] #[{ accessFlags := 25, nameIndex := 249, descriptorIndex := 20, attributes := #[] }, { accessFlags := 25, nameIndex := 252, descriptorIndex := 20, attributes := #[] }, { accessFlags := 25, nameIndex := 253, descriptorIndex := 20, attributes := #[] }, { accessFlags := 26, nameIndex := 255, descriptorIndex := 20, attributes := #[] }, { accessFlags := 18, nameIndex := 15, descriptorIndex := 16, attributes := #[] }, { accessFlags := 18, nameIndex := 23, descriptorIndex := 20, attributes := #[] }, { accessFlags := 18, nameIndex := 31, descriptorIndex := 32, attributes := #[] }, { accessFlags := 2, nameIndex := 19, descriptorIndex := 20, attributes := #[] }])
  fields := #[{ name := "MAX_NESTING", type := .int, accessFlags := 25, slot := 0, constantValue := 0 }, { name := "MAX_ENTRIES", type := .int, accessFlags := 25, slot := 1, constantValue := 0 }, { name := "MAX_INPUT_LENGTH", type := .int, accessFlags := 25, slot := 2, constantValue := 0 }, { name := "UTF8_CHECK_CHARS", type := .int, accessFlags := 26, slot := 3, constantValue := 0 }, { name := "input", type := (.array .byte), accessFlags := 18, slot := 0, constantValue := 0 }, { name := "end", type := .int, accessFlags := 18, slot := 1, constantValue := 0 }, { name := "index", type := (.object "com/example/countermark/countermark/cbor/CborIndex"), accessFlags := 18, slot := 2, constantValue := 0 }, { name := "position", type := .int, accessFlags := 2, slot := 3, constantValue := 0 }]
  methods := #[k2m0]
  instanceTypes := #[(.array .byte), .int, (.object "com/example/countermark/countermark/cbor/CborIndex"), .int]
  staticTypes := #[.int, .int, .int, .int]
  resolved := Array.replicate 291 none
  statics := none }

def pool3 : Array CpInfo := pool [(1, u "java/lang/Cloneable"), (0, .class_ 1), (0, u "java/lang/Object"), (0, .class_ 3)] 3

/-- java/lang/Cloneable -/
def k3 : Class := { plain "java/lang/Cloneable" (some 0) with
  accessFlags := 1537
  interfaces := #[]
  cf := some (fileOf pool3 2 #[] #[] 1537 4 #[] #[])
  fields := #[]
  methods := #[]
  instanceTypes := #[]
  staticTypes := #[]
  resolved := Array.replicate 8 none
  statics := none }

def pool4 : Array CpInfo := pool [(1, u "java/io/Serializable"), (0, .class_ 1), (0, u "java/lang/Object"), (0, .class_ 3)] 3

/-- java/io/Serializable -/
def k4 : Class := { plain "java/io/Serializable" (some 0) with
  accessFlags := 1537
  interfaces := #[]
  cf := some (fileOf pool4 2 #[] #[] 1537 4 #[] #[])
  fields := #[]
  methods := #[]
  instanceTypes := #[]
  staticTypes := #[]
  resolved := Array.replicate 8 none
  statics := none }

/-- the primitive byte -/
def k5 : Class := { plain "byte" none with kind := .primitive 'B', accessFlags := 0x411 }
/-- [B -/
def k6 : Class := { plain "[B" (some 0) with kind := .array 5 .byte, interfaces := #[3, 4], accessFlags := 1041 }

/-- the primitive int -/
def k7 : Class := { plain "int" none with kind := .primitive 'I', accessFlags := 0x411 }
/-- [I -/
def k8 : Class := { plain "[I" (some 0) with kind := .array 7 .int, interfaces := #[3, 4], accessFlags := 1041 }

def heap : Heap := #[]
def classes : Array Class := #[k0, k1, k2, k3, k4, k5, k6, k7, k8]
def interned : List (Array UInt16 × Addr) := []
def slotsUsed : Nat := 0
def theMethod : MethodId := ⟨1, 1⟩
def args0 : Array Value := #[.int 5]
def aboutOver (below : List Frame) : State where
  vm := { classes := classes, interned := interned.toArray }
  heap := heap
  slotsUsed := slotsUsed
  threads := #[{ frames := .invoking theMethod args0 :: below }]
def below0 : List Frame := [.native { method := ⟨0, 0⟩, args := #[] }]
def about1 : State := aboutOver below0
def p0 : Program := .bare "" "" ""
def e0 : Env := launch0.env 0 0 0
theorem w_frames : about1.frames = Frame.invoking theMethod args0 :: below0 := rfl
set_option maxRecDepth 65536 in
theorem w_args : argsFit about1.vm theMethod args0 = true := by decide +kernel
set_option maxRecDepth 65536 in
theorem w_heap : heapFits about1 = true := by decide +kernel
set_option maxRecDepth 65536 in
theorem w_runnable : about1.curStatus? = some .runnable := by decide +kernel
set_option maxRecDepth 65536 in
theorem w_alone : about1.alone = true := by decide +kernel
set_option maxRecDepth 65536 in
theorem w_named : about1.methodNamed? x = some theMethod := by decide +kernel
set_option maxRecDepth 65536 in
theorem w_hears : about1.hears theMethod below0 = true := by decide +kernel
set_option maxRecDepth 65536 in
theorem w_ripe : about1.ripe theMethod args0 below0 = true := by decide +kernel
theorem w_running : about1.status = .running := rfl
set_option maxRecDepth 65536 in
theorem w_room : about1.hasRoom e0.platform room_1 = true :=
  launch0.hasRoom_least _ room_1 (by decide +kernel) (by decide +kernel) (by decide +kernel) (by decide +kernel) (by decide +kernel) (by decide +kernel)
theorem allAtoms_all (ts : List Jvm.Cond) (a : Array Jvm.Value) (st : Jvm.State) : (allAtoms ts).before a st = ts.all (fun c => c.before a st) := by
  induction ts with
  | nil => rfl
  | cons c t ih =>
    show (Jvm.Cond.and c (allAtoms t)).before a st = _
    rw [Jvm.Cond.before_and, ih, List.all_cons]
def words1 : List Jvm.Cond := Jvm.Cond.code x code maxLocals ret :: tables_1
/-- a 'code' word, met by the world's own term for the bytes: nothing is compared byte by byte -/
theorem code_word {y : MethodName} {bytes : ByteArray} {mx : Nat} {rt : Option FieldType} {a : Array Value} {s : State} {m : MethodId} {meth : Method} {c : Code} (h1 : s.methodNamed? y = some m) (h2 : s.vm.method? m = some meth) (h3 : meth.code = some c) (h4 : c.code = bytes)
    (h5 : (c.maxLocals == mx && c.exceptionTable.isEmpty && decide (c.maxStack ≤ mostOperands) && decide (meth.sig.returnType = rt) && !meth.locks && decide (parseMethodDescriptor y.desc = some meth.sig)) = true) : (Jvm.Cond.code y bytes mx rt).before a s = true := by
  simp only [Bool.and_eq_true, beq_iff_eq, Bool.not_eq_true', decide_eq_true_eq] at h5
  obtain ⟨⟨⟨⟨⟨g1, g2⟩, g3⟩, g4⟩, g5⟩, g6⟩ := h5
  simp [Cond.before, Cond.holds, Cond.value, h1, h2, h3, h4, g1, g2, g3, g4, g5, g6]
def isCode : Jvm.Cond → Bool
  | .code _ _ _ _ => true
  | _ => false
theorem all_split {L : List Jvm.Cond} {P : Jvm.Cond → Bool} (h1 : L.all (fun c => isCode c || P c) = true) (h2 : ∀ c ∈ L.filter isCode, P c = true) : L.all P = true := by
  refine List.all_eq_true.mpr fun c hc => ?_
  have h := List.all_eq_true.mp h1 c hc
  rcases Bool.eq_false_or_eq_true (isCode c) with hi | hi
  · exact h2 c (List.mem_filter.mpr ⟨hc, hi⟩)
  · simpa [hi] using h
set_option maxRecDepth 65536 in
theorem w_c0 : (Jvm.Cond.code x code maxLocals ret).before args0 about1 = true := code_word (m := ⟨1, 1⟩) (meth := k1m1) (c := k1c1) (by decide +kernel) rfl rfl rfl (by decide +kernel)
set_option maxRecDepth 65536 in
theorem w_c1 : (Jvm.Cond.code ({ cls := "com/example/countermark/countermark/cbor/CborReader", name := "headLength", desc := "(I)I" } : Jvm.MethodName) prog_6_method_14_code (1 : Nat) (Option.some Jvm.ClassFile.FieldType.int)).before args0 about1 = true := code_word (m := ⟨2, 0⟩) (meth := k2m0) (c := k2c0) (by decide +kernel) rfl rfl rfl (by decide +kernel)
def codes1 : List Jvm.Cond := [Jvm.Cond.code x code maxLocals ret, Jvm.Cond.code ({ cls := "com/example/countermark/countermark/cbor/CborReader", name := "headLength", desc := "(I)I" } : Jvm.MethodName) prog_6_method_14_code (1 : Nat) (Option.some Jvm.ClassFile.FieldType.int)]
set_option maxRecDepth 65536 in
theorem codes_eq : words1.filter isCode = codes1 := rfl
theorem w_codes : ∀ c ∈ words1.filter isCode, c.before args0 about1 = true := by
  rw [codes_eq]
  intro c hc
  simp only [codes1, List.mem_cons, List.not_mem_nil, or_false] at hc
  rcases hc with rfl | rfl
  · exact w_c0
  · exact w_c1
set_option maxRecDepth 65536 in
theorem w_t1 : words1.all (fun c => isCode c || c.before args0 about1) = true := by decide +kernel
theorem w_tables : (allAtoms (Jvm.Cond.code x code maxLocals ret :: tables_1)).before args0 about1 = true := by
  rw [allAtoms_all]
  show words1.all (fun c => c.before args0 about1) = true
  refine all_split ?_ w_codes
  rw [w_t1]
set_option maxRecDepth 65536 in
theorem w_case : (Jvm.Cond.and given_1 narrow_1).before args0 about1 = true := by decide +kernel
theorem w_applies : (headSpec (Jvm.Cond.code x code maxLocals ret :: tables_1) room_1).applies x e0.platform about1 = true :=
  (Spec.applies_iff w_frames).mpr ⟨w_running, w_runnable, w_alone, w_named, w_hears, w_ripe, w_room, w_tables⟩
theorem atStart : AtStart classFile x code maxLocals ret World_1 tables_1 room_1 Calls_1 rest_1 Pre_1 launch0 p0 e0 about1 theMethod args0 below0 :=
  ⟨lists_1, trivial, launch0.admits_env _ _ _, launch0.least_env, fairChoices_fair.cas, fairChoices_fair.clock, w_frames, w_args, w_heap, w_applies, trivial, trivial, w_case⟩
end start1
theorem witness_1 : WitnessClaimed_1 := ⟨start1.p0, start1.e0, start1.about1, start1.theMethod, start1.args0, start1.below0, start1.atStart⟩
end Jvm.Pilot.@@N@@
