import JvmDerived
import JvmDerived.Pilot.@@N@@Statement
import JvmDerived.Pilot.@@N@@Code
set_option linter.unusedVariables false
set_option linter.unusedSimpArgs false
namespace Jvm.RoadKit
open Sem ClassFile Op Lib Jvm.Stand Jvm.Free Jvm.LawKit
section New
variable {p : Program} {l : Launch} {e : Env} {R : Room} {s : State} {m : MethodId} {args : Array Value} {below : List Frame} {meth : Method} {c : Code} {T : State} {locs : List Loc} {cells slots : Nat}
theorem retI (X : Stand p l e R s m args below meth c T locs cells slots) (hx : p.tables.exec = Jvm.exec) {pc : Nat} {Ls : Array Slot} {z : Int32} {rest : List Value} (hret : meth.sig.returnType = some .int) (hd : decode c.code pc = .ok (.ireturn, 1)) {fs : List Frame}
    (hl : ∀ (f : JFrame) (acts : List Action), f.method = m → f.locked = none → f.entered = [] → (doReturn e (T.setTop f) acts (some (.int z))).1 = T.setFrames fs) : Steps p.tables e below (T.setTop (mkF m pc Ls (.int z :: rest))) (T.setFrames fs) := by
  have hm' : T.vm.method? m = some meth := X.method'
  have hn : narrow .int (.int z) = .int z := rfl
  show Steps p.tables e below (T.setTop { method := m, pc := pc, locals := Ls, stack := _ :: rest, locked := none }) _
  jvm_step X.here [X.here.top, hx, hd, hm', hret, hn]
  first | (intro acts; rw [hl _ acts rfl rfl rfl]) | rw [hl _ _ rfl rfl rfl]
  exact Steps.refl _
theorem retJ (X : Stand p l e R s m args below meth c T locs cells slots) (hx : p.tables.exec = Jvm.exec) {pc : Nat} {Ls : Array Slot} {z : Int64} {rest : List Value} (hret : meth.sig.returnType = some .long) (hd : decode c.code pc = .ok (.lreturn, 1)) {fs : List Frame}
    (hl : ∀ (f : JFrame) (acts : List Action), f.method = m → f.locked = none → f.entered = [] → (doReturn e (T.setTop f) acts (some (.long z))).1 = T.setFrames fs) : Steps p.tables e below (T.setTop (mkF m pc Ls (.long z :: rest))) (T.setFrames fs) :=
  retOut X hx hret rfl (Or.inr (Or.inl ⟨rfl, rfl, z, rfl⟩)) hd hl
theorem retA (X : Stand p l e R s m args below meth c T locs cells slots) (hx : p.tables.exec = Jvm.exec) {pc : Nat} {Ls : Array Slot} {a : Addr} {t : FieldType} {rest : List Value} (hret : meth.sig.returnType = some t) (ht : t.isReference = true) (hd : decode c.code pc = .ok (.areturn, 1)) {fs : List Frame}
    (hl : ∀ (f : JFrame) (acts : List Action), f.method = m → f.locked = none → f.entered = [] → (doReturn e (T.setTop f) acts (some (.ref a))).1 = T.setFrames fs) : Steps p.tables e below (T.setTop (mkF m pc Ls (.ref a :: rest))) (T.setFrames fs) :=
  retOut X hx hret (by cases t <;> first | rfl | (simp [FieldType.isReference] at ht)) (Or.inr (Or.inr (Or.inr (Or.inr ⟨rfl, ht, rfl⟩)))) hd hl
end New
end Jvm.RoadKit
namespace Jvm.Pilot.@@N@@
open Jvm Jvm.ClassFile Sem Op Lib Jvm.Free Jvm.Stand Jvm.LawKit Jvm.RoadKit Bundle Jvm.Pilot.@@N@@.Jvm.D
section OwnKit
variable {p : Program} {l : Launch} {e : Env} {R : Room} {s : State} {m : MethodId} {args : Array Value} {below : List Frame} {meth : Method} {c : Code} {T : State} {locs : List Loc} {cells slots : Nat} {Z : State} {h h' : Heap}
/-- one body's contract, with the walk's goal as a closed predicate K: 'go' takes a step, 'fin' leaves the method -/
theorem own_body {y : MethodName} {bytes : ByteArray} {maxL : Nat} {ret : Option FieldType} {ws : List Jvm.Cond} {rm : Room} {h0 : Heap} {Q : Option Value → Heap → List Loc → Prop} (hp : plainFor y = true)
    (body : ∀ (p : Program) (e : Env) (s : State) (m : MethodId) (below : List Frame) (meth : Method) (c : Code) (s₁ : State) (K : State → Prop),
      (∀ U U', (∀ t, Steps p.tables e below U' t → Steps p.tables e below U t) → K U' → K U) →
      (∀ {T : State} {locs : List Loc} {cells slots : Nat} {g : JFrame} (v : Option Value), Stand p l e rm s m args below meth c T locs cells slots → cells ≤ rm.cells → slots ≤ rm.slots → (ret = none → v = none) → Q v T.heap locs →
        (∀ fs, (∀ (f : JFrame) (acts : List Action), f.method = m → f.locked = none → f.entered = [] → (doReturn e (T.setTop f) acts v).1 = T.setFrames fs) → Steps p.tables e below (T.setTop g) (T.setFrames fs)) → K (T.setTop g)) →
      Stand p l e rm s m args below meth c s₁ [] 0 0 → p.tables.exec = Jvm.exec → c.code = bytes → c.maxLocals = maxL → s.vm.findClass y.cls = some m.cls → meth.name = y.name → meth.sig.returnType = ret → Z.Warmed39 s.vm → s₁.heap = h0 → K (s₁.setTop (entryFrame m args maxL))) :
    MetFree l y (head1 (Jvm.Cond.code y bytes maxL ret :: ws) rm) (fun a U => a = args ∧ Z.Warmed39 U.vm ∧ U.heap = h0) (fun _ _ _ _ _ => True) (fun _ U o U' => ∃ v L, o = .returned v ∧ Q v U'.heap L ∧ FrameEnd U o U' L rm.cells rm.slots) := by
  refine MetFree.of_bodySF hp hisR ?_
  intro p e s m args' below meth c s₁ Bd hml hP hK
  obtain ⟨rfl, hZ, hh⟩ := hP
  refine body p e s m below meth c s₁ (fun U => ∃ s₂ o, Steps p.tables e below U s₂ ∧ s₂.status = .running ∧ Ended s₂ below o ∧ ∃ v L, o = .returned v ∧ Q v s₂.heap L ∧ FrameEnd s o s₂ L rm.cells rm.slots) ?_ ?_ (Stand.of_body Bd) Bd.exec Bd.bytes hml (findClass_of_methodNamed Bd.named) (name_of_methodNamed Bd.named Bd.method).1 Bd.returns hZ (by rw [← hh, Bd.state]; rfl)
  · rintro U U' st ⟨s₂, o, h1, h2⟩
    exact ⟨s₂, o, st _ h1, h2⟩
  · intro T locs cells slots g v X hc hs hv hQ hst
    obtain ⟨fs, hr, hrun, hended, hW, hsame⟩ := X.leave (v := v) (fun q => hv (Bd.returns ▸ q))
    exact ⟨_, _, hst fs hr, hrun, hended, v, locs, rfl, hQ, ⟨_, rfl⟩, hW, hsame.mono hc hs⟩
/-! Java's shifts and the narrowing to a byte -/
def jushr (x y : Int32) : Int32 := (x.toUInt32 >>> (y &&& 31).toUInt32).toInt32
def jshl (x y : Int32) : Int32 := x <<< (y &&& 31)
def jshr (x y : Int32) : Int32 := x >>> (y &&& 31)
def jushrL (x : Int64) (y : Int32) : Int64 := (x.toUInt64 >>> (y &&& 0x3f).toInt64.toUInt64).toInt64
def jshlL (x : Int64) (y : Int32) : Int64 := x <<< (y &&& 0x3f).toInt64
def jshrL (x : Int64) (y : Int32) : Int64 := x >>> (y &&& 0x3f).toInt64
def jb (x : Int32) : Int32 := x.toInt8.toInt32
theorem own_lrem {g : JFrame} {target : State} (X : Stand p l e R s m args below meth c T locs cells slots) (hx : p.tables.exec = Jvm.exec) (hg : g.method = m) {x y : Int64} {rest : List Value} (hd : decode c.code g.pc = .ok (.lrem, 1)) (hs : g.stack = .long y :: .long x :: rest) (hy : y ≠ 0)
    (hr : Steps p.tables e below (T.setTop { g with pc := g.pc + 1, stack := .long (x % y) :: rest }) target) : Steps p.tables e below (T.setTop g) target :=
  XS.lrem X.here hx hg hd hs hy (by rw [lrem_mod]; exact hr)
theorem own_narb (x : Int32) : nar .byte (jb x) = jb x := by simp [nar, jb]
/-! an array by its length and what its places hold -/
def own_upd (f : Nat → Value) (i : Nat) (v : Value) : Nat → Value := fun j => if j = i then v else f j
theorem own_hit (f : Nat → Value) (i : Nat) (v : Value) : own_upd f i v i = v := if_pos rfl
theorem own_miss {f : Nat → Value} {i j : Nat} {v : Value} (q : j ≠ i) : own_upd f i v j = f j := if_neg q
def AF (Z : State) (h : Heap) (a : Addr) (ty : FieldType) (n : Nat) (f : Nat → Value) : Prop := n < 2 ^ 31 ∧ ∃ c : Cell, Arr Z h a c ty ∧ c.slots.size = n ∧ ∀ j, j < n → c.slots[j]? = some (f j)
theorem AF.lt {a : Addr} {ty : FieldType} {n : Nat} {f : Nat → Value} (A : AF Z h a ty n f) : a < h.size := by obtain ⟨-, c, A, -⟩ := A; exact A.lt
theorem AF.ext {a : Addr} {ty : FieldType} {n : Nat} {f : Nat → Value} (A : AF Z h a ty n f) (E : Ext h h') : AF Z h' a ty n f := by obtain ⟨q, c, A, r⟩ := A; exact ⟨q, c, A.ext E, r⟩
theorem AF.other {a b : Addr} {sl : Nat} {v : Value} {ty : FieldType} {n : Nat} {f : Nat → Value} (A : AF Z h b ty n f) (W : Wr h h' a sl v) (q : b ≠ a) : AF Z h' b ty n f := by obtain ⟨q1, c, A, r⟩ := A; exact ⟨q1, c, A.other W q, r⟩
theorem AF.keep {a : Addr} {ws : List Addr} {ty : FieldType} {n : Nat} {f : Nat → Value} (A : AF Z h a ty n f) (K : Keep h h' ws) (q : a ∉ ws) : AF Z h' a ty n f := by obtain ⟨q1, c, A, r⟩ := A; exact ⟨q1, c, ⟨K.2.1 a c A.1 q, A.2⟩, r⟩
theorem AF.congr {a : Addr} {ty : FieldType} {n : Nat} {f f' : Nat → Value} (A : AF Z h a ty n f) (q : ∀ j, j < n → f j = f' j) : AF Z h a ty n f' := by obtain ⟨q1, c, A, S, r⟩ := A; exact ⟨q1, c, A, S, fun j hj => by rw [← q j hj]; exact r j hj⟩
theorem AF.len {a : Addr} {ty : FieldType} {n : Nat} {f : Nat → Value} (A : AF Z h a ty n f) : n < 2 ^ 31 := A.1
theorem own_idx {j : Int32} {i : Nat} (hj : j.toInt = (i : Int)) : j.toNatClampNeg = i := by simp only [Int32.toNatClampNeg, hj]; omega
theorem own_in {j : Int32} {i n : Nat} {c : Cell} (S : c.slots.size = n) (hj : j.toInt = (i : Int)) (hi : i < n) : ¬ (j < 0 ∨ c.slots.size ≤ j.toNatClampNeg) := by
  rw [own_idx hj, S, Int32.lt_iff_toInt_lt, hj]
  simp only [Int32.toInt_zero]
  omega
theorem own_set {a : Addr} {ty : FieldType} {n i : Nat} {f : Nat → Value} {cl : Cell} {v : Value} (q1 : n < 2 ^ 31) (A : Arr Z h a cl ty) (S : cl.slots.size = n) (H : ∀ j, j < n → cl.slots[j]? = some (f j)) (W : Wr h h' a i v) (hi : i < n) : AF Z h' a ty n (own_upd f i v) := by
  refine ⟨q1, _, A.same W, by rw [sz_set]; exact S, fun j hj => ?_⟩
  simp only [Cell.setSlot, own_upd]
  by_cases q : j = i
  · subst q; rw [if_pos rfl]; simp [S, hj]
  · rw [if_neg q, Array.getElem?_setIfInBounds_ne (fun z => q z.symm)]; exact H j hj
theorem own_stI (X : Stand p l e R s m args below meth c T locs cells slots) (hx : p.tables.exec = Jvm.exec) (hZ : Z.Warmed39 s.vm) (eT : T.heap = h) {a : Addr} {n i : Nat} {f : Nat → Value} (A : AF Z h a .int n f) {j x : Int32} (hj : j.toInt = (i : Int)) (hi : i < n) {g : JFrame} (hg : g.method = m) {rest : List Value} (hs : g.stack = .int x :: .int j :: .ref a :: rest) (hd : decode c.code g.pc = .ok (.iastore, 1)) :
    ∃ T' h', Stand p l e R s m args below meth c T' (locs ++ [⟨a, i⟩]) cells slots ∧ T'.heap = h' ∧ Wr h h' a i (.int x) ∧ AF Z h' a .int n (own_upd f i (.int x)) ∧ ∀ target, Steps p.tables e below (T'.setTop { g with pc := g.pc + 1, stack := rest }) target → Steps p.tables e below (T.setTop g) target := by
  obtain ⟨q1, cl, Ar, S, H⟩ := A
  obtain ⟨T', h', X', e', W, st⟩ := stI X hx hZ eT Ar (j := j) (own_in S hj hi) hg hs hd
  rw [own_idx hj] at X' W
  exact ⟨T', h', X', e', W, own_set q1 Ar S H W hi, st⟩
theorem own_stJ (X : Stand p l e R s m args below meth c T locs cells slots) (hx : p.tables.exec = Jvm.exec) (hZ : Z.Warmed39 s.vm) (eT : T.heap = h) {a : Addr} {n i : Nat} {f : Nat → Value} (A : AF Z h a .long n f) {j : Int32} {x : Int64} (hj : j.toInt = (i : Int)) (hi : i < n) {g : JFrame} (hg : g.method = m) {rest : List Value} (hs : g.stack = .long x :: .int j :: .ref a :: rest) (hd : decode c.code g.pc = .ok (.lastore, 1)) :
    ∃ T' h', Stand p l e R s m args below meth c T' (locs ++ [⟨a, i⟩]) cells slots ∧ T'.heap = h' ∧ Wr h h' a i (.long x) ∧ AF Z h' a .long n (own_upd f i (.long x)) ∧ ∀ target, Steps p.tables e below (T'.setTop { g with pc := g.pc + 1, stack := rest }) target → Steps p.tables e below (T.setTop g) target := by
  obtain ⟨q1, cl, Ar, S, H⟩ := A
  obtain ⟨T', h', X', e', W, st⟩ := stJ X hx hZ eT Ar (j := j) (own_in S hj hi) hg hs hd
  rw [own_idx hj] at X' W
  exact ⟨T', h', X', e', W, own_set q1 Ar S H W hi, st⟩
theorem own_stB (X : Stand p l e R s m args below meth c T locs cells slots) (hx : p.tables.exec = Jvm.exec) (hZ : Z.Warmed39 s.vm) (eT : T.heap = h) {a : Addr} {n i : Nat} {f : Nat → Value} (A : AF Z h a .byte n f) {j x : Int32} (hj : j.toInt = (i : Int)) (hi : i < n) (hn : nar .byte x = x) {g : JFrame} (hg : g.method = m) {rest : List Value} (hs : g.stack = .int x :: .int j :: .ref a :: rest) (hd : decode c.code g.pc = .ok (.bastore, 1)) :
    ∃ T' h', Stand p l e R s m args below meth c T' (locs ++ [⟨a, i⟩]) cells slots ∧ T'.heap = h' ∧ Wr h h' a i (.int x) ∧ AF Z h' a .byte n (own_upd f i (.int x)) ∧ ∀ target, Steps p.tables e below (T'.setTop { g with pc := g.pc + 1, stack := rest }) target → Steps p.tables e below (T.setTop g) target := by
  obtain ⟨q1, cl, Ar, S, H⟩ := A
  obtain ⟨T', h', X', e', W, st⟩ := stB X hx hZ eT Ar (j := j) (own_in S hj hi) hg hs hd
  rw [own_idx hj] at X' W
  rw [hn] at W
  exact ⟨T', h', X', e', W, own_set q1 Ar S H W hi, st⟩
theorem own_new (X : Stand p l e R s m args below meth c T locs cells slots) (hx : p.tables.exec = Jvm.exec) (hZ : Z.Warmed39 s.vm) {a0 : Array Value} {aty : ArrayType} (w : (Cond.arrayClass (newarray.typeOf aty)).before a0 Z = true) (eT : T.heap = h) {g : JFrame} (hg : g.method = m) (hd : decode c.code g.pc = .ok (.newarray aty, 2)) {n : Int32} {rest : List Value} (hs : g.stack = .int n :: rest)
    {k : Nat} (hn : n.toInt = (k : Int)) (cap : Nat) (hcap : k ≤ cap) (hb : cap * 8 ≤ 536870912) (hc : cells + 1 ≤ R.cells) (hl : slots + cap ≤ R.slots) :
    ∃ T' h' a, Stand p l e R s m args below meth c T' locs (cells + 1) (slots + cap) ∧ T'.heap = h' ∧ Ext h h' ∧ a = h.size ∧ AF Z h' a (newarray.typeOf aty) k (fun _ => defaultValue (newarray.typeOf aty)) ∧
      ∀ target, Steps p.tables e below (T'.setTop { g with pc := g.pc + 2, stack := .ref a :: rest }) target → Steps p.tables e below (T.setTop g) target := by
  have hn0 : ¬ n < 0 := by rw [Int32.lt_iff_toInt_lt, hn]; simp only [Int32.toInt_zero]; omega
  have hk : n.toNatClampNeg = k := own_idx hn
  have hk31 : k < 2 ^ 31 := by have := n.toInt_lt; omega
  obtain ⟨T', h', cA, X', e', E, A, st⟩ := newP X hx hZ w eT hg hd hs hn0 (by rw [hk]; exact hcap) hb hc hl
  refine ⟨T', h', h.size, X', e', E, rfl, ⟨hk31, _, A, by rw [sz_new, hk], fun j hj => ?_⟩, st⟩
  simp [newA, hk, hj]
theorem own_ldI (X : Stand p l e R s m args below meth c T locs cells slots) (hx : p.tables.exec = Jvm.exec) (hZ : Z.Warmed39 s.vm) (eT : T.heap = h) {a : Addr} {n i : Nat} {f : Nat → Value} (A : AF Z h a .int n f) {j : Int32} (hj : j.toInt = (i : Int)) (hi : i < n) {g : JFrame} (hg : g.method = m) {rest : List Value} (hs : g.stack = .int j :: .ref a :: rest) (hd : decode c.code g.pc = .ok (.iaload, 1)) {v : Value} (hv : f i = v) (target : State)
    (hr : Steps p.tables e below (T.setTop { g with pc := g.pc + 1, stack := v :: rest }) target) : Steps p.tables e below (T.setTop g) target := by
  obtain ⟨-, cl, Ar, S, H⟩ := A
  exact X.iaload hx (j := j) (v := v) (by rw [eT]; exact Ar.1) (State.isArrayOf_alike hZ.alike Ar.2.1) Ar.2.2 (own_in S hj hi) (by rw [own_idx hj, ← hv]; exact H i hi) hg hs hd target hr
theorem own_ldJ (X : Stand p l e R s m args below meth c T locs cells slots) (hx : p.tables.exec = Jvm.exec) (hZ : Z.Warmed39 s.vm) (eT : T.heap = h) {a : Addr} {n i : Nat} {f : Nat → Value} (A : AF Z h a .long n f) {j : Int32} (hj : j.toInt = (i : Int)) (hi : i < n) {g : JFrame} (hg : g.method = m) {rest : List Value} (hs : g.stack = .int j :: .ref a :: rest) (hd : decode c.code g.pc = .ok (.laload, 1)) {v : Value} (hv : f i = v) (target : State)
    (hr : Steps p.tables e below (T.setTop { g with pc := g.pc + 1, stack := v :: rest }) target) : Steps p.tables e below (T.setTop g) target := by
  obtain ⟨-, cl, Ar, S, H⟩ := A
  exact X.laload hx (j := j) (v := v) (by rw [eT]; exact Ar.1) (State.isArrayOf_alike hZ.alike Ar.2.1) Ar.2.2 (own_in S hj hi) (by rw [own_idx hj, ← hv]; exact H i hi) hg hs hd target hr
theorem own_ldB (X : Stand p l e R s m args below meth c T locs cells slots) (hx : p.tables.exec = Jvm.exec) (hZ : Z.Warmed39 s.vm) (eT : T.heap = h) {a : Addr} {n i : Nat} {f : Nat → Value} (A : AF Z h a .byte n f) {j : Int32} (hj : j.toInt = (i : Int)) (hi : i < n) {g : JFrame} (hg : g.method = m) {rest : List Value} (hs : g.stack = .int j :: .ref a :: rest) (hd : decode c.code g.pc = .ok (.baload, 1)) {v : Value} (hv : f i = v) (target : State)
    (hr : Steps p.tables e below (T.setTop { g with pc := g.pc + 1, stack := v :: rest }) target) : Steps p.tables e below (T.setTop g) target := by
  obtain ⟨-, cl, Ar, S, H⟩ := A
  exact X.baloadBytes hx (j := j) (v := v) (by rw [eT]; exact Ar.1) (State.isArrayOf_alike hZ.alike Ar.2.1) Ar.2.2 (own_in S hj hi) (by rw [own_idx hj, ← hv]; exact H i hi) hg hs hd target hr
theorem own_len (X : Stand p l e R s m args below meth c T locs cells slots) (hx : p.tables.exec = Jvm.exec) (hZ : Z.Warmed39 s.vm) (eT : T.heap = h) {a : Addr} {ty : FieldType} {n : Nat} {f : Nat → Value} (A : AF Z h a ty n f) {g : JFrame} (hg : g.method = m) {rest : List Value} (hs : g.stack = .ref a :: rest) (hd : decode c.code g.pc = .ok (.arraylength, 1)) (target : State)
    (hr : Steps p.tables e below (T.setTop { g with pc := g.pc + 1, stack := .int (Int32.ofNat n) :: rest }) target) : Steps p.tables e below (T.setTop g) target := by
  obtain ⟨-, cl, Ar, S, H⟩ := A
  refine X.arraylength hx (by rw [eT]; exact Ar.1) (State.isArrayOf_alike hZ.alike Ar.2.1) hg hs hd target ?_
  rw [S]; exact hr
end OwnKit
theorem pd_1 : parseMethodDescriptor "(I)I" = some ⟨[.int], some .int⟩ := by decide +kernel
theorem pd_2 : parseMethodDescriptor "([BI)I" = some ⟨[(.array .byte), .int], some .int⟩ := by decide +kernel
theorem d2_0 : decode prog_6_method_14_code 0 = .ok (.iload_n 0, 1) := by decide +kernel
theorem d2_1 : decode prog_6_method_14_code 1 = .ok (.bipush 24, 2) := by decide +kernel
theorem d2_3 : decode prog_6_method_14_code 3 = .ok (.if_icmp .lt 9, 3) := by decide +kernel
theorem d2_6 : decode prog_6_method_14_code 6 = .ok (.iload_n 0, 1) := by decide +kernel
theorem d2_7 : decode prog_6_method_14_code 7 = .ok (.bipush 31, 2) := by decide +kernel
theorem d2_9 : decode prog_6_method_14_code 9 = .ok (.if_icmp .ne 5, 3) := by decide +kernel
theorem d2_12 : decode prog_6_method_14_code 12 = .ok (.iconst 1, 1) := by decide +kernel
theorem d2_13 : decode prog_6_method_14_code 13 = .ok (.ireturn, 1) := by decide +kernel
theorem d2_14 : decode prog_6_method_14_code 14 = .ok (.iconst 1, 1) := by decide +kernel
theorem d2_15 : decode prog_6_method_14_code 15 = .ok (.iconst 1, 1) := by decide +kernel
theorem d2_16 : decode prog_6_method_14_code 16 = .ok (.iload_n 0, 1) := by decide +kernel
theorem d2_17 : decode prog_6_method_14_code 17 = .ok (.bipush 24, 2) := by decide +kernel
theorem d2_19 : decode prog_6_method_14_code 19 = .ok (.isub, 1) := by decide +kernel
theorem d2_20 : decode prog_6_method_14_code 20 = .ok (.ishl, 1) := by decide +kernel
theorem d2_21 : decode prog_6_method_14_code 21 = .ok (.iadd, 1) := by decide +kernel
theorem d2_22 : decode prog_6_method_14_code 22 = .ok (.ireturn, 1) := by decide +kernel
theorem pn_4 : plainName "com/example/countermark/countermark/cbor/CborReader" = true := by first | (simp [plainName, overriddenIn]; done) | decide +kernel
theorem ef_rm2 (m : MethodId) (p1 : Int32) : entryFrame m #[(.int p1)] 1 = mkF m 0 #[.val (.int p1)] [] := by first | (simp [entryFrame, mkF, argsToLocals, Value.category]; done) | rfl
def f_rm2 (p1 : Int32) : Int32 := (if p1 < (24 : Int32) then (1 : Int32) else (if p1 = (31 : Int32) then (1 : Int32) else ((1 : Int32) + (jshl (1 : Int32) (p1 - (24 : Int32))))))
def Q_rm2 (Z : State) (p1 : Int32) (h0 : Heap) (n0 : Nat) (v : Option Value) (h : Heap) (L : List Loc) : Prop := v = some (.int (f_rm2 p1)) ∧ Fr n0 L ∧ h = h0
set_option maxRecDepth 65536 in
set_option maxHeartbeats 40000000 in
theorem rm2 (l : Launch) (Z : State) (a0 : Array Value) (hw : ∀ d ∈ tables_1, d.before a0 Z = true) (ws : List Jvm.Cond) (p1 : Int32) (h0 : Heap) (n0 : Nat) (Z0 : n0 ≤ h0.size)  :
    MetFree l (⟨"com/example/countermark/countermark/cbor/CborReader", "headLength", "(I)I"⟩ : MethodName) (head1 (Jvm.Cond.code (⟨"com/example/countermark/countermark/cbor/CborReader", "headLength", "(I)I"⟩ : MethodName) prog_6_method_14_code 1 (some .int) :: ws) ({ frames := 0, cells := 0, slots := 0, locals := 0 } : Room)) (fun a U => a = #[(.int p1)] ∧ Z.Warmed39 U.vm ∧ U.heap = h0) (fun _ _ _ _ _ => True) (fun _ U o U' => ∃ v L, o = .returned v ∧ Q_rm2 Z p1 h0 n0 v U'.heap L ∧ FrameEnd U o U' L ({ frames := 0, cells := 0, slots := 0, locals := 0 } : Room).cells ({ frames := 0, cells := 0, slots := 0, locals := 0 } : Room).slots) := by
  refine own_body (Q := Q_rm2 Z p1 h0 n0) (plainFor_of_name pn_4) ?_
  intro p e s m below meth c s₁ K go fin X0 hx hby hml hown hnm hret hZ e0
  have hown : s.vm.findClass "com/example/countermark/countermark/cbor/CborReader" = some m.cls := hown
  have N0 := Fr.nil n0
  refine go _ (s₁.setTop (mkF m 0 #[.val (.int p1)] [])) (fun t k => castTop (ef_rm2 m p1) k) ?_
  refine go _ (s₁.setTop (mkF m 1 #[.val (.int p1)] [(.int p1)])) (fun t k => XS.iloadN X0.here hx rfl (hb hby d2_0) rfl k) ?_
  refine go _ (s₁.setTop (mkF m 3 #[.val (.int p1)] [(.int (24 : Int32)), (.int p1)])) (fun t k => XS.bipush X0.here hx rfl (hb hby d2_1) k) ?_
  by_cases hc1 : p1 < (24 : Int32)
  · refine go _ (s₁.setTop (mkF m 12 #[.val (.int p1)] [])) (fun t k => XS.icmpYes X0.here hx rfl (pc0 := 3) (pc' := 12) rfl (hb hby d2_3) rfl (tlt hc1).1 (by decide) (by decide) k) ?_
    refine go _ (s₁.setTop (mkF m 13 #[.val (.int p1)] [(.int (1 : Int32))])) (fun t k => XS.iconst X0.here hx rfl (hb hby d2_12) k) ?_
    exact fin (some (.int (1 : Int32))) X0 (by decide) (by decide) (fun q => by cases q) (show Q_rm2 Z p1 h0 n0 _ s₁.heap _ from (by rw [e0]; exact ⟨congrArg some (congrArg Value.int (show (f_rm2 p1) = (1 : Int32) from (by unfold f_rm2; rw [if_pos hc1])).symm), N0, rfl⟩)) (fun fs hr => retI X0 hx hret (hb hby d2_13) hr)
  · refine go _ (s₁.setTop (mkF m 6 #[.val (.int p1)] [])) (fun t k => XS.icmpNo X0.here hx rfl (hb hby d2_3) rfl (flt hc1).1 k) ?_
    refine go _ (s₁.setTop (mkF m 7 #[.val (.int p1)] [(.int p1)])) (fun t k => XS.iloadN X0.here hx rfl (hb hby d2_6) rfl k) ?_
    refine go _ (s₁.setTop (mkF m 9 #[.val (.int p1)] [(.int (31 : Int32)), (.int p1)])) (fun t k => XS.bipush X0.here hx rfl (hb hby d2_7) k) ?_
    by_cases hc2 : p1 = (31 : Int32)
    · refine go _ (s₁.setTop (mkF m 12 #[.val (.int p1)] [])) (fun t k => XS.icmpNo X0.here hx rfl (hb hby d2_9) rfl (teq hc2).2 k) ?_
      refine go _ (s₁.setTop (mkF m 13 #[.val (.int p1)] [(.int (1 : Int32))])) (fun t k => XS.iconst X0.here hx rfl (hb hby d2_12) k) ?_
      exact fin (some (.int (1 : Int32))) X0 (by decide) (by decide) (fun q => by cases q) (show Q_rm2 Z p1 h0 n0 _ s₁.heap _ from (by rw [e0]; exact ⟨congrArg some (congrArg Value.int (show (f_rm2 p1) = (1 : Int32) from (by unfold f_rm2; rw [if_neg hc1, if_pos hc2])).symm), N0, rfl⟩)) (fun fs hr => retI X0 hx hret (hb hby d2_13) hr)
    · refine go _ (s₁.setTop (mkF m 14 #[.val (.int p1)] [])) (fun t k => XS.icmpYes X0.here hx rfl (pc0 := 9) (pc' := 14) rfl (hb hby d2_9) rfl (feq hc2).2 (by decide) (by decide) k) ?_
      refine go _ (s₁.setTop (mkF m 15 #[.val (.int p1)] [(.int (1 : Int32))])) (fun t k => XS.iconst X0.here hx rfl (hb hby d2_14) k) ?_
      refine go _ (s₁.setTop (mkF m 16 #[.val (.int p1)] [(.int (1 : Int32)), (.int (1 : Int32))])) (fun t k => XS.iconst X0.here hx rfl (hb hby d2_15) k) ?_
      refine go _ (s₁.setTop (mkF m 17 #[.val (.int p1)] [(.int p1), (.int (1 : Int32)), (.int (1 : Int32))])) (fun t k => XS.iloadN X0.here hx rfl (hb hby d2_16) rfl k) ?_
      refine go _ (s₁.setTop (mkF m 19 #[.val (.int p1)] [(.int (24 : Int32)), (.int p1), (.int (1 : Int32)), (.int (1 : Int32))])) (fun t k => XS.bipush X0.here hx rfl (hb hby d2_17) k) ?_
      refine go _ (s₁.setTop (mkF m 20 #[.val (.int p1)] [(.int (p1 - (24 : Int32))), (.int (1 : Int32)), (.int (1 : Int32))])) (fun t k => XS.isub X0.here hx rfl (hb hby d2_19) rfl k) ?_
      refine go _ (s₁.setTop (mkF m 21 #[.val (.int p1)] [(.int (jshl (1 : Int32) (p1 - (24 : Int32)))), (.int (1 : Int32))])) (fun t k => XS.ishl X0.here hx rfl (hb hby d2_20) rfl k) ?_
      refine go _ (s₁.setTop (mkF m 22 #[.val (.int p1)] [(.int ((1 : Int32) + (jshl (1 : Int32) (p1 - (24 : Int32)))))])) (fun t k => XS.iadd X0.here hx rfl (hb hby d2_21) rfl k) ?_
      exact fin (some (.int ((1 : Int32) + (jshl (1 : Int32) (p1 - (24 : Int32)))))) X0 (by decide) (by decide) (fun q => by cases q) (show Q_rm2 Z p1 h0 n0 _ s₁.heap _ from (by rw [e0]; exact ⟨congrArg some (congrArg Value.int (show (f_rm2 p1) = ((1 : Int32) + (jshl (1 : Int32) (p1 - (24 : Int32)))) from (by unfold f_rm2; rw [if_neg hc1, if_neg hc2])).symm), N0, rfl⟩)) (fun fs hr => retI X0 hx hret (hb hby d2_22) hr)
theorem d3_0 : decode method_2_code 0 = .ok (.iload_n 0, 1) := by decide +kernel
theorem d3_1 : decode method_2_code 1 = .ok (.bipush 24, 2) := by decide +kernel
theorem d3_3 : decode method_2_code 3 = .ok (.if_icmp .ge 5, 3) := by decide +kernel
theorem d3_6 : decode method_2_code 6 = .ok (.iconst 1, 1) := by decide +kernel
theorem d3_7 : decode method_2_code 7 = .ok (.ireturn, 1) := by decide +kernel
theorem d3_8 : decode method_2_code 8 = .ok (.iload_n 0, 1) := by decide +kernel
theorem d3_9 : decode method_2_code 9 = .ok (.bipush 24, 2) := by decide +kernel
theorem d3_11 : decode method_2_code 11 = .ok (.if_icmp .ne 5, 3) := by decide +kernel
theorem d3_14 : decode method_2_code 14 = .ok (.iconst 2, 1) := by decide +kernel
theorem d3_15 : decode method_2_code 15 = .ok (.ireturn, 1) := by decide +kernel
theorem d3_16 : decode method_2_code 16 = .ok (.iload_n 0, 1) := by decide +kernel
theorem d3_17 : decode method_2_code 17 = .ok (.bipush 25, 2) := by decide +kernel
theorem d3_19 : decode method_2_code 19 = .ok (.if_icmp .ne 5, 3) := by decide +kernel
theorem d3_22 : decode method_2_code 22 = .ok (.iconst 3, 1) := by decide +kernel
theorem d3_23 : decode method_2_code 23 = .ok (.ireturn, 1) := by decide +kernel
theorem d3_24 : decode method_2_code 24 = .ok (.iload_n 0, 1) := by decide +kernel
theorem d3_25 : decode method_2_code 25 = .ok (.bipush 26, 2) := by decide +kernel
theorem d3_27 : decode method_2_code 27 = .ok (.if_icmp .ne 5, 3) := by decide +kernel
theorem d3_30 : decode method_2_code 30 = .ok (.iconst 5, 1) := by decide +kernel
theorem d3_31 : decode method_2_code 31 = .ok (.ireturn, 1) := by decide +kernel
theorem d3_32 : decode method_2_code 32 = .ok (.bipush 9, 2) := by decide +kernel
theorem d3_34 : decode method_2_code 34 = .ok (.ireturn, 1) := by decide +kernel
theorem pn_6 : plainName "com/example/countermark/countermark/cbor/CborReaderContentStartPinLaw" = true := by first | (simp [plainName, overriddenIn]; done) | decide +kernel
theorem ef_rm3 (m : MethodId) (p1 : Int32) : entryFrame m #[(.int p1)] 1 = mkF m 0 #[.val (.int p1)] [] := by first | (simp [entryFrame, mkF, argsToLocals, Value.category]; done) | rfl
def f_rm3 (p1 : Int32) : Int32 := (if p1 < (24 : Int32) then (1 : Int32) else (if p1 = (24 : Int32) then (2 : Int32) else (if p1 = (25 : Int32) then (3 : Int32) else (if p1 = (26 : Int32) then (5 : Int32) else (9 : Int32)))))
def Q_rm3 (Z : State) (p1 : Int32) (h0 : Heap) (n0 : Nat) (v : Option Value) (h : Heap) (L : List Loc) : Prop := v = some (.int (f_rm3 p1)) ∧ Fr n0 L ∧ h = h0
set_option maxRecDepth 65536 in
set_option maxHeartbeats 40000000 in
theorem rm3 (l : Launch) (Z : State) (a0 : Array Value) (hw : ∀ d ∈ tables_1, d.before a0 Z = true) (ws : List Jvm.Cond) (p1 : Int32) (h0 : Heap) (n0 : Nat) (Z0 : n0 ≤ h0.size)  :
    MetFree l (⟨"com/example/countermark/countermark/cbor/CborReaderContentStartPinLaw", "expectedHead", "(I)I"⟩ : MethodName) (head1 (Jvm.Cond.code (⟨"com/example/countermark/countermark/cbor/CborReaderContentStartPinLaw", "expectedHead", "(I)I"⟩ : MethodName) method_2_code 1 (some .int) :: ws) ({ frames := 0, cells := 0, slots := 0, locals := 0 } : Room)) (fun a U => a = #[(.int p1)] ∧ Z.Warmed39 U.vm ∧ U.heap = h0) (fun _ _ _ _ _ => True) (fun _ U o U' => ∃ v L, o = .returned v ∧ Q_rm3 Z p1 h0 n0 v U'.heap L ∧ FrameEnd U o U' L ({ frames := 0, cells := 0, slots := 0, locals := 0 } : Room).cells ({ frames := 0, cells := 0, slots := 0, locals := 0 } : Room).slots) := by
  refine own_body (Q := Q_rm3 Z p1 h0 n0) (plainFor_of_name pn_6) ?_
  intro p e s m below meth c s₁ K go fin X0 hx hby hml hown hnm hret hZ e0
  have hown : s.vm.findClass "com/example/countermark/countermark/cbor/CborReaderContentStartPinLaw" = some m.cls := hown
  have N0 := Fr.nil n0
  refine go _ (s₁.setTop (mkF m 0 #[.val (.int p1)] [])) (fun t k => castTop (ef_rm3 m p1) k) ?_
  refine go _ (s₁.setTop (mkF m 1 #[.val (.int p1)] [(.int p1)])) (fun t k => XS.iloadN X0.here hx rfl (hb hby d3_0) rfl k) ?_
  refine go _ (s₁.setTop (mkF m 3 #[.val (.int p1)] [(.int (24 : Int32)), (.int p1)])) (fun t k => XS.bipush X0.here hx rfl (hb hby d3_1) k) ?_
  by_cases hc3 : p1 < (24 : Int32)
  · refine go _ (s₁.setTop (mkF m 6 #[.val (.int p1)] [])) (fun t k => XS.icmpNo X0.here hx rfl (hb hby d3_3) rfl (tlt hc3).2.1 k) ?_
    refine go _ (s₁.setTop (mkF m 7 #[.val (.int p1)] [(.int (1 : Int32))])) (fun t k => XS.iconst X0.here hx rfl (hb hby d3_6) k) ?_
    exact fin (some (.int (1 : Int32))) X0 (by decide) (by decide) (fun q => by cases q) (show Q_rm3 Z p1 h0 n0 _ s₁.heap _ from (by rw [e0]; exact ⟨congrArg some (congrArg Value.int (show (f_rm3 p1) = (1 : Int32) from (by unfold f_rm3; rw [if_pos hc3])).symm), N0, rfl⟩)) (fun fs hr => retI X0 hx hret (hb hby d3_7) hr)
  · refine go _ (s₁.setTop (mkF m 8 #[.val (.int p1)] [])) (fun t k => XS.icmpYes X0.here hx rfl (pc0 := 3) (pc' := 8) rfl (hb hby d3_3) rfl (flt hc3).2.1 (by decide) (by decide) k) ?_
    refine go _ (s₁.setTop (mkF m 9 #[.val (.int p1)] [(.int p1)])) (fun t k => XS.iloadN X0.here hx rfl (hb hby d3_8) rfl k) ?_
    refine go _ (s₁.setTop (mkF m 11 #[.val (.int p1)] [(.int (24 : Int32)), (.int p1)])) (fun t k => XS.bipush X0.here hx rfl (hb hby d3_9) k) ?_
    by_cases hc4 : p1 = (24 : Int32)
    · refine go _ (s₁.setTop (mkF m 14 #[.val (.int p1)] [])) (fun t k => XS.icmpNo X0.here hx rfl (hb hby d3_11) rfl (teq hc4).2 k) ?_
      refine go _ (s₁.setTop (mkF m 15 #[.val (.int p1)] [(.int (2 : Int32))])) (fun t k => XS.iconst X0.here hx rfl (hb hby d3_14) k) ?_
      exact fin (some (.int (2 : Int32))) X0 (by decide) (by decide) (fun q => by cases q) (show Q_rm3 Z p1 h0 n0 _ s₁.heap _ from (by rw [e0]; exact ⟨congrArg some (congrArg Value.int (show (f_rm3 p1) = (2 : Int32) from (by unfold f_rm3; rw [if_neg hc3, if_pos hc4])).symm), N0, rfl⟩)) (fun fs hr => retI X0 hx hret (hb hby d3_15) hr)
    · refine go _ (s₁.setTop (mkF m 16 #[.val (.int p1)] [])) (fun t k => XS.icmpYes X0.here hx rfl (pc0 := 11) (pc' := 16) rfl (hb hby d3_11) rfl (feq hc4).2 (by decide) (by decide) k) ?_
      refine go _ (s₁.setTop (mkF m 17 #[.val (.int p1)] [(.int p1)])) (fun t k => XS.iloadN X0.here hx rfl (hb hby d3_16) rfl k) ?_
      refine go _ (s₁.setTop (mkF m 19 #[.val (.int p1)] [(.int (25 : Int32)), (.int p1)])) (fun t k => XS.bipush X0.here hx rfl (hb hby d3_17) k) ?_
      by_cases hc5 : p1 = (25 : Int32)
      · refine go _ (s₁.setTop (mkF m 22 #[.val (.int p1)] [])) (fun t k => XS.icmpNo X0.here hx rfl (hb hby d3_19) rfl (teq hc5).2 k) ?_
        refine go _ (s₁.setTop (mkF m 23 #[.val (.int p1)] [(.int (3 : Int32))])) (fun t k => XS.iconst X0.here hx rfl (hb hby d3_22) k) ?_
        exact fin (some (.int (3 : Int32))) X0 (by decide) (by decide) (fun q => by cases q) (show Q_rm3 Z p1 h0 n0 _ s₁.heap _ from (by rw [e0]; exact ⟨congrArg some (congrArg Value.int (show (f_rm3 p1) = (3 : Int32) from (by unfold f_rm3; rw [if_neg hc3, if_neg hc4, if_pos hc5])).symm), N0, rfl⟩)) (fun fs hr => retI X0 hx hret (hb hby d3_23) hr)
      · refine go _ (s₁.setTop (mkF m 24 #[.val (.int p1)] [])) (fun t k => XS.icmpYes X0.here hx rfl (pc0 := 19) (pc' := 24) rfl (hb hby d3_19) rfl (feq hc5).2 (by decide) (by decide) k) ?_
        refine go _ (s₁.setTop (mkF m 25 #[.val (.int p1)] [(.int p1)])) (fun t k => XS.iloadN X0.here hx rfl (hb hby d3_24) rfl k) ?_
        refine go _ (s₁.setTop (mkF m 27 #[.val (.int p1)] [(.int (26 : Int32)), (.int p1)])) (fun t k => XS.bipush X0.here hx rfl (hb hby d3_25) k) ?_
        by_cases hc6 : p1 = (26 : Int32)
        · refine go _ (s₁.setTop (mkF m 30 #[.val (.int p1)] [])) (fun t k => XS.icmpNo X0.here hx rfl (hb hby d3_27) rfl (teq hc6).2 k) ?_
          refine go _ (s₁.setTop (mkF m 31 #[.val (.int p1)] [(.int (5 : Int32))])) (fun t k => XS.iconst X0.here hx rfl (hb hby d3_30) k) ?_
          exact fin (some (.int (5 : Int32))) X0 (by decide) (by decide) (fun q => by cases q) (show Q_rm3 Z p1 h0 n0 _ s₁.heap _ from (by rw [e0]; exact ⟨congrArg some (congrArg Value.int (show (f_rm3 p1) = (5 : Int32) from (by unfold f_rm3; rw [if_neg hc3, if_neg hc4, if_neg hc5, if_pos hc6])).symm), N0, rfl⟩)) (fun fs hr => retI X0 hx hret (hb hby d3_31) hr)
        · refine go _ (s₁.setTop (mkF m 32 #[.val (.int p1)] [])) (fun t k => XS.icmpYes X0.here hx rfl (pc0 := 27) (pc' := 32) rfl (hb hby d3_27) rfl (feq hc6).2 (by decide) (by decide) k) ?_
          refine go _ (s₁.setTop (mkF m 34 #[.val (.int p1)] [(.int (9 : Int32))])) (fun t k => XS.bipush X0.here hx rfl (hb hby d3_32) k) ?_
          exact fin (some (.int (9 : Int32))) X0 (by decide) (by decide) (fun q => by cases q) (show Q_rm3 Z p1 h0 n0 _ s₁.heap _ from (by rw [e0]; exact ⟨congrArg some (congrArg Value.int (show (f_rm3 p1) = (9 : Int32) from (by unfold f_rm3; rw [if_neg hc3, if_neg hc4, if_neg hc5, if_neg hc6])).symm), N0, rfl⟩)) (fun fs hr => retI X0 hx hret (hb hby d3_34) hr)
theorem d1_0 : decode prog_6_method_16_code 0 = .ok (.iload_n 1, 1) := by decide +kernel
theorem d1_1 : decode prog_6_method_16_code 1 = .ok (.aload_n 0, 1) := by decide +kernel
theorem d1_2 : decode prog_6_method_16_code 2 = .ok (.iload_n 1, 1) := by decide +kernel
theorem d1_3 : decode prog_6_method_16_code 3 = .ok (.baload, 1) := by decide +kernel
theorem d1_4 : decode prog_6_method_16_code 4 = .ok (.bipush 31, 2) := by decide +kernel
theorem d1_6 : decode prog_6_method_16_code 6 = .ok (.iand, 1) := by decide +kernel
theorem d1_7 : decode prog_6_method_16_code 7 = .ok (.invokestatic 160, 3) := by decide +kernel
theorem d1_10 : decode prog_6_method_16_code 10 = .ok (.iadd, 1) := by decide +kernel
theorem d1_11 : decode prog_6_method_16_code 11 = .ok (.ireturn, 1) := by decide +kernel
theorem ef_rm1 (m : MethodId) (a1 : Addr) (p1 : Int32) : entryFrame m #[(.ref a1), (.int p1)] 2 = mkF m 0 #[.val (.ref a1), .val (.int p1)] [] := by first | (simp [entryFrame, mkF, argsToLocals, Value.category]; done) | rfl
def Q_rm1 (Z : State) (a1 : Addr) (p1 : Int32) (f : Nat → Value) (n : Nat) (i : Nat) (y : Int32) (h0 : Heap) (n0 : Nat) (v : Option Value) (h : Heap) (L : List Loc) : Prop := v = some (.int (p1 + f_rm2 (y &&& (31 : Int32)))) ∧ Fr n0 L ∧ h = h0
set_option maxRecDepth 65536 in
set_option maxHeartbeats 40000000 in
theorem rm1 (l : Launch) (Z : State) (a0 : Array Value) (hw : ∀ d ∈ tables_1, d.before a0 Z = true) (ws : List Jvm.Cond) (a1 : Addr) (p1 : Int32) (f : Nat → Value) (n : Nat) (i : Nat) (y : Int32) (h0 : Heap) (n0 : Nat) (Z0 : n0 ≤ h0.size) (A0 : AF Z h0 a1 .byte n f) (hj : p1.toInt = (i : Int)) (hi : i < n) (hv : f i = .int y) :
    MetFree l (⟨"com/example/countermark/countermark/cbor/CborReader", "contentStart", "([BI)I"⟩ : MethodName) (head1 (Jvm.Cond.code (⟨"com/example/countermark/countermark/cbor/CborReader", "contentStart", "([BI)I"⟩ : MethodName) prog_6_method_16_code 2 (some .int) :: ws) ({ frames := 1, cells := 0, slots := 0, locals := 13 } : Room)) (fun a U => a = #[(.ref a1), (.int p1)] ∧ Z.Warmed39 U.vm ∧ U.heap = h0) (fun _ _ _ _ _ => True) (fun _ U o U' => ∃ v L, o = .returned v ∧ Q_rm1 Z a1 p1 f n i y h0 n0 v U'.heap L ∧ FrameEnd U o U' L ({ frames := 1, cells := 0, slots := 0, locals := 13 } : Room).cells ({ frames := 1, cells := 0, slots := 0, locals := 13 } : Room).slots) := by
  refine own_body (Q := Q_rm1 Z a1 p1 f n i y h0 n0) (plainFor_of_name pn_4) ?_
  intro p e s m below meth c s₁ K go fin X0 hx hby hml hown hnm hret hZ e0
  have hown : s.vm.findClass "com/example/countermark/countermark/cbor/CborReader" = some m.cls := hown
  have N0 := Fr.nil n0
  refine go _ (s₁.setTop (mkF m 0 #[.val (.ref a1), .val (.int p1)] [])) (fun t k => castTop (ef_rm1 m a1 p1) k) ?_
  refine go _ (s₁.setTop (mkF m 1 #[.val (.ref a1), .val (.int p1)] [(.int p1)])) (fun t k => XS.iloadN X0.here hx rfl (hb hby d1_0) rfl k) ?_
  refine go _ (s₁.setTop (mkF m 2 #[.val (.ref a1), .val (.int p1)] [(.ref a1), (.int p1)])) (fun t k => XS.aloadN X0.here hx rfl (hb hby d1_1) rfl rfl k) ?_
  refine go _ (s₁.setTop (mkF m 3 #[.val (.ref a1), .val (.int p1)] [(.int p1), (.ref a1), (.int p1)])) (fun t k => XS.iloadN X0.here hx rfl (hb hby d1_2) rfl k) ?_
  refine go _ (s₁.setTop (mkF m 4 #[.val (.ref a1), .val (.int p1)] [(.int y), (.int p1)])) (own_ldB X0 hx hZ e0 A0 (i := i) hj hi (g := (mkF m 3 #[.val (.ref a1), .val (.int p1)] [(.int p1), (.ref a1), (.int p1)])) rfl rfl (hb hby d1_3) (v := (.int y)) hv) ?_
  refine go _ (s₁.setTop (mkF m 6 #[.val (.ref a1), .val (.int p1)] [(.int (31 : Int32)), (.int y), (.int p1)])) (fun t k => XS.bipush X0.here hx rfl (hb hby d1_4) k) ?_
  refine go _ (s₁.setTop (mkF m 7 #[.val (.ref a1), .val (.int p1)] [(.int (y &&& (31 : Int32))), (.int p1)])) (fun t k => XS.iand X0.here hx rfl (hb hby d1_6) rfl k) ?_
  obtain ⟨_, _, ⟨T7, L7, k7, n7⟩, -, X7, ⟨Lc7, hQ7, l7, y7, z7⟩, st7⟩ := Jvm.LawKit.callS X0 hx (y := (⟨"com/example/countermark/countermark/cbor/CborReader", "headLength", "(I)I"⟩ : MethodName)) hown (mvT hZ (hw _ (List.mem_of_getElem? (i := 5) rfl))) (mvT hZ (hw _ (List.mem_of_getElem? (i := 6) rfl))) (mvT hZ (hw _ (List.mem_of_getElem? (i := 3) rfl))) (mvT hZ (hw _ (List.mem_of_getElem? (i := 7) rfl))) (by decide) (backOf (W := 1) (rm2 l Z a0 hw [] (y &&& (31 : Int32))  h0 n0 Z0 ) hZ (hw _ (List.mem_of_getElem? (i := 7) rfl)) (hw _ (List.mem_of_getElem? (i := 3) rfl)) (by decide) (by decide)) (g := (mkF m 7 #[.val (.ref a1), .val (.int p1)] [(.int (y &&& (31 : Int32))), (.int p1)])) rfl (by rw [hml]; rfl) (argsL := [(.int (y &&& (31 : Int32)))]) (rest := [(.int p1)]) (lenOf pd_1 rfl) rfl (by show 2 * 0 + _ ≤ _; exact Nat.le_of_eq rfl) (hb hby d1_7) (fun _ _ => ⟨rfl, e0, (by decide : 0 + 0 ≤ _), (by decide : 0 + 0 ≤ _)⟩)
  dsimp only [Pt.U, Pt.locs, Pt.cells, Pt.slots] at X7 l7 y7 z7 st7 hQ7
  subst l7 y7 z7
  obtain ⟨rfl, Nq7, hh7⟩ := hQ7
  have N8 := Fr.app N0 Nq7
  refine go _ (T7.setTop (mkF m 10 #[.val (.ref a1), .val (.int p1)] [(.int (f_rm2 (y &&& (31 : Int32)))), (.int p1)])) (st7) ?_
  refine go _ (T7.setTop (mkF m 11 #[.val (.ref a1), .val (.int p1)] [(.int (p1 + (f_rm2 (y &&& (31 : Int32)))))])) (fun t k => XS.iadd X7.here hx rfl (hb hby d1_10) rfl k) ?_
  exact fin (some (.int (p1 + (f_rm2 (y &&& (31 : Int32)))))) X7 (by decide) (by decide) (fun q => by cases q) (show Q_rm1 Z a1 p1 f n i y h0 n0 _ T7.heap _ from (by rw [hh7]; exact ⟨rfl, N8, rfl⟩)) (fun fs hr => retI X7 hx hret (hb hby d1_11) hr)
theorem ef_rm0 (m : MethodId) (p1 : Int32) (p2 : Int32) (p3 : Int32) : entryFrame m #[(.int p1), (.int p2), (.int p3)] maxLocals = mkF m 0 #[.val (.int p1), .val (.int p2), .val (.int p3), .unset, .unset, .unset, .unset, .unset] [] := by first | (simp [entryFrame, mkF, argsToLocals, Value.category, maxLocals]; done) | rfl
def v_rm0_0 (p1 : Int32) : Int32 := ((p1 &&& (31 : Int32)) % (28 : Int32))
def v_rm0_1 (p1 : Int32) : Int32 := ((2 : Int32) + ((jushr p1 (5 : Int32)) &&& (1 : Int32)))
def v_rm0_2 (p2 : Int32) (p1 : Int32) : Int32 := ((p2 &&& (7 : Int32)) + f_rm2 ((jb ((jshl (v_rm0_1 p1) (5 : Int32)) ||| (v_rm0_0 p1))) &&& (31 : Int32)))
def v_rm0_3 (p2 : Int32) (p1 : Int32) : Int32 := ((p2 &&& (7 : Int32)) + f_rm2 ((jb ((jshl (v_rm0_1 p1) (5 : Int32)) ||| (v_rm0_0 p1))) &&& (31 : Int32)))
theorem own_ix (p2 : Int32) : ∃ i : Nat, i ≤ 7 ∧ (p2 &&& (7 : Int32)).toInt = (i : Int) ∧ ((p2 &&& (7 : Int32)) + (1 : Int32)).toInt = ((i + 1 : Nat) : Int) ∧ ((0 : Int32) < (p2 &&& (7 : Int32)) → ((p2 &&& (7 : Int32)) - (1 : Int32)).toInt = ((i - 1 : Nat) : Int)) := by
  have m := c_mask p2 7 3 (by decide) (by decide +kernel)
  generalize (p2 &&& (7 : Int32)) = P at *
  have a := c_iadd P 1
  have s := c_isub P 1
  have r1 := rng32 (P + 1)
  have r2 := rng32 (P - 1)
  have e1 : (1 : Int32).toInt = 1 := by decide
  have e0 : (0 : Int32).toInt = 0 := by decide
  refine ⟨P.toInt.toNat, by omega, by omega, by omega, fun h => ?_⟩
  rw [Int32.lt_iff_toInt_lt] at h
  omega
theorem own_ai (p1 : Int32) : 0 ≤ (v_rm0_0 p1).toInt ∧ (v_rm0_0 p1).toInt ≤ 27 := by
  have m := c_mask p1 31 5 (by decide) (by decide +kernel)
  have q := (c_irem (p1 &&& 31) 28 28 (by decide)).1 (by omega)
  unfold v_rm0_0
  omega
theorem own_same (x : Int32) (h0 : 0 ≤ x.toInt) (h1 : x.toInt ≤ 27) : f_rm2 x = f_rm3 x := by
  by_cases h : x < (24 : Int32)
  · unfold f_rm2 f_rm3; rw [if_pos h, if_pos h]
  · have e24 : (24 : Int32).toInt = 24 := by decide
    have h2 := h
    rw [Int32.lt_iff_toInt_lt] at h2
    have c : x = 24 ∨ x = 25 ∨ x = 26 ∨ x = 27 := by
      have e25 : (25 : Int32).toInt = 25 := by decide
      have e26 : (26 : Int32).toInt = 26 := by decide
      have e27 : (27 : Int32).toInt = 27 := by decide
      simp only [← Int32.toInt_inj]
      omega
    rcases c with rfl | rfl | rfl | rfl <;> decide +kernel
theorem own_lo5 (M x : Int32) (h0 : 0 ≤ x.toInt) (h1 : x.toInt ≤ 27) : (jb ((jshl M (5 : Int32)) ||| x) &&& (31 : Int32)) = x := by
  have s := c_ishl M 5 5 (by decide +kernel)
  have hs : (jshl M (5 : Int32)).toInt % 32 = 0 := by
    show (M <<< ((5 : Int32) &&& 31)).toInt % 32 = 0
    omega
  have o := c_or (jshl M (5 : Int32)) x 5 (by decide) 32 rfl hs h0 (by omega)
  have b := (c_i2b ((jshl M (5 : Int32)) ||| x)).1
  have m := c_mask (jb ((jshl M (5 : Int32)) ||| x)) 31 5 (by decide) (by decide +kernel)
  have e : (jb ((jshl M (5 : Int32)) ||| x)).toInt = ((jshl M (5 : Int32)) ||| x).toInt8.toInt32.toInt := rfl
  rw [← Int32.toInt_inj, m, e]
  omega
theorem own_law (p1 p2 : Int32) : ((p2 &&& (7 : Int32)) + f_rm2 ((jb ((jshl (v_rm0_1 p1) (5 : Int32)) ||| (v_rm0_0 p1))) &&& (31 : Int32))) = ((p2 &&& (7 : Int32)) + (f_rm3 (v_rm0_0 p1))) := by
  have h := own_ai p1
  rw [own_lo5 _ _ h.1 h.2, own_same _ h.1 h.2]
def Q_rm0 (Z : State) (p1 : Int32) (p2 : Int32) (p3 : Int32) (h0 : Heap) (n0 : Nat) (v : Option Value) (h : Heap) (L : List Loc) : Prop := v = some (.int (1 : Int32)) ∧ Fr n0 L
set_option maxRecDepth 65536 in
set_option maxHeartbeats 40000000 in
theorem rm0 (l : Launch) (Z : State) (a0 : Array Value) (hw : ∀ d ∈ tables_1, d.before a0 Z = true) (ws : List Jvm.Cond) (p1 : Int32) (p2 : Int32) (p3 : Int32) (h0 : Heap) (n0 : Nat) (Z0 : n0 ≤ h0.size)  :
    MetFree l x (head1 (Jvm.Cond.code x code maxLocals ret :: ws) room_1) (fun a U => a = #[(.int p1), (.int p2), (.int p3)] ∧ Z.Warmed39 U.vm ∧ U.heap = h0) (fun _ _ _ _ _ => True) (fun _ U o U' => ∃ v L, o = .returned v ∧ Q_rm0 Z p1 p2 p3 h0 n0 v U'.heap L ∧ FrameEnd U o U' L room_1.cells room_1.slots) := by
  refine own_body (Q := Q_rm0 Z p1 p2 p3 h0 n0) (plainFor_of_name pn_6) ?_
  intro p e s m below meth c s₁ K go fin X0 hx hby hml hown hnm hret hZ e0
  have hown : s.vm.findClass "com/example/countermark/countermark/cbor/CborReaderContentStartPinLaw" = some m.cls := hown
  have N0 := Fr.nil n0
  refine go _ (s₁.setTop (mkF m 0 #[.val (.int p1), .val (.int p2), .val (.int p3), .unset, .unset, .unset, .unset, .unset] [])) (fun t k => castTop (ef_rm0 m p1 p2 p3) k) ?_
  obtain ⟨i, hi, hj, hj1, hjm⟩ := own_ix p2
  refine go _ (s₁.setTop (mkF m 1 #[.val (.int p1), .val (.int p2), .val (.int p3), .unset, .unset, .unset, .unset, .unset] [(.int p1)])) (fun t k => XS.iloadN X0.here hx rfl (hb hby at_0) rfl k) ?_
  refine go _ (s₁.setTop (mkF m 3 #[.val (.int p1), .val (.int p2), .val (.int p3), .unset, .unset, .unset, .unset, .unset] [(.int (31 : Int32)), (.int p1)])) (fun t k => XS.bipush X0.here hx rfl (hb hby at_1) k) ?_
  refine go _ (s₁.setTop (mkF m 4 #[.val (.int p1), .val (.int p2), .val (.int p3), .unset, .unset, .unset, .unset, .unset] [(.int (p1 &&& (31 : Int32)))])) (fun t k => XS.iand X0.here hx rfl (hb hby at_3) rfl k) ?_
  refine go _ (s₁.setTop (mkF m 6 #[.val (.int p1), .val (.int p2), .val (.int p3), .unset, .unset, .unset, .unset, .unset] [(.int (28 : Int32)), (.int (p1 &&& (31 : Int32)))])) (fun t k => XS.bipush X0.here hx rfl (hb hby at_4) k) ?_
  refine go _ (s₁.setTop (mkF m 7 #[.val (.int p1), .val (.int p2), .val (.int p3), .unset, .unset, .unset, .unset, .unset] [(.int ((p1 &&& (31 : Int32)) % (28 : Int32)))])) (fun t k => iremM X0 hx rfl (hb hby at_6) rfl (by decide) k) ?_
  refine go _ (s₁.setTop (mkF m 8 #[.val (.int p1), .val (.int p2), .val (.int p3), .val (.int (v_rm0_0 p1)), .unset, .unset, .unset, .unset] [])) (fun t k => XS.istoreN X0.here hx rfl (hb hby at_7) rfl (l' := #[.val (.int p1), .val (.int p2), .val (.int p3), .val (.int (v_rm0_0 p1)), .unset, .unset, .unset, .unset]) rfl k) ?_
  refine go _ (s₁.setTop (mkF m 9 #[.val (.int p1), .val (.int p2), .val (.int p3), .val (.int (v_rm0_0 p1)), .unset, .unset, .unset, .unset] [(.int (2 : Int32))])) (fun t k => XS.iconst X0.here hx rfl (hb hby at_8) k) ?_
  refine go _ (s₁.setTop (mkF m 10 #[.val (.int p1), .val (.int p2), .val (.int p3), .val (.int (v_rm0_0 p1)), .unset, .unset, .unset, .unset] [(.int p1), (.int (2 : Int32))])) (fun t k => XS.iloadN X0.here hx rfl (hb hby at_9) rfl k) ?_
  refine go _ (s₁.setTop (mkF m 11 #[.val (.int p1), .val (.int p2), .val (.int p3), .val (.int (v_rm0_0 p1)), .unset, .unset, .unset, .unset] [(.int (5 : Int32)), (.int p1), (.int (2 : Int32))])) (fun t k => XS.iconst X0.here hx rfl (hb hby at_10) k) ?_
  refine go _ (s₁.setTop (mkF m 12 #[.val (.int p1), .val (.int p2), .val (.int p3), .val (.int (v_rm0_0 p1)), .unset, .unset, .unset, .unset] [(.int (jushr p1 (5 : Int32))), (.int (2 : Int32))])) (fun t k => XS.iushr X0.here hx rfl (hb hby at_11) rfl k) ?_
  refine go _ (s₁.setTop (mkF m 13 #[.val (.int p1), .val (.int p2), .val (.int p3), .val (.int (v_rm0_0 p1)), .unset, .unset, .unset, .unset] [(.int (1 : Int32)), (.int (jushr p1 (5 : Int32))), (.int (2 : Int32))])) (fun t k => XS.iconst X0.here hx rfl (hb hby at_12) k) ?_
  refine go _ (s₁.setTop (mkF m 14 #[.val (.int p1), .val (.int p2), .val (.int p3), .val (.int (v_rm0_0 p1)), .unset, .unset, .unset, .unset] [(.int ((jushr p1 (5 : Int32)) &&& (1 : Int32))), (.int (2 : Int32))])) (fun t k => XS.iand X0.here hx rfl (hb hby at_13) rfl k) ?_
  refine go _ (s₁.setTop (mkF m 15 #[.val (.int p1), .val (.int p2), .val (.int p3), .val (.int (v_rm0_0 p1)), .unset, .unset, .unset, .unset] [(.int ((2 : Int32) + ((jushr p1 (5 : Int32)) &&& (1 : Int32))))])) (fun t k => XS.iadd X0.here hx rfl (hb hby at_14) rfl k) ?_
  refine go _ (s₁.setTop (mkF m 17 #[.val (.int p1), .val (.int p2), .val (.int p3), .val (.int (v_rm0_0 p1)), .val (.int (v_rm0_1 p1)), .unset, .unset, .unset] [])) (fun t k => XS.istore X0.here hx rfl (hb hby at_15) rfl (l' := #[.val (.int p1), .val (.int p2), .val (.int p3), .val (.int (v_rm0_0 p1)), .val (.int (v_rm0_1 p1)), .unset, .unset, .unset]) rfl k) ?_
  refine go _ (s₁.setTop (mkF m 18 #[.val (.int p1), .val (.int p2), .val (.int p3), .val (.int (v_rm0_0 p1)), .val (.int (v_rm0_1 p1)), .unset, .unset, .unset] [(.int p2)])) (fun t k => XS.iloadN X0.here hx rfl (hb hby at_17) rfl k) ?_
  refine go _ (s₁.setTop (mkF m 20 #[.val (.int p1), .val (.int p2), .val (.int p3), .val (.int (v_rm0_0 p1)), .val (.int (v_rm0_1 p1)), .unset, .unset, .unset] [(.int (7 : Int32)), (.int p2)])) (fun t k => XS.bipush X0.here hx rfl (hb hby at_18) k) ?_
  refine go _ (s₁.setTop (mkF m 21 #[.val (.int p1), .val (.int p2), .val (.int p3), .val (.int (v_rm0_0 p1)), .val (.int (v_rm0_1 p1)), .unset, .unset, .unset] [(.int (p2 &&& (7 : Int32)))])) (fun t k => XS.iand X0.here hx rfl (hb hby at_20) rfl k) ?_
  refine go _ (s₁.setTop (mkF m 23 #[.val (.int p1), .val (.int p2), .val (.int p3), .val (.int (v_rm0_0 p1)), .val (.int (v_rm0_1 p1)), .val (.int (p2 &&& (7 : Int32))), .unset, .unset] [])) (fun t k => XS.istore X0.here hx rfl (hb hby at_21) rfl (l' := #[.val (.int p1), .val (.int p2), .val (.int p3), .val (.int (v_rm0_0 p1)), .val (.int (v_rm0_1 p1)), .val (.int (p2 &&& (7 : Int32))), .unset, .unset]) rfl k) ?_
  refine go _ (s₁.setTop (mkF m 25 #[.val (.int p1), .val (.int p2), .val (.int p3), .val (.int (v_rm0_0 p1)), .val (.int (v_rm0_1 p1)), .val (.int (p2 &&& (7 : Int32))), .unset, .unset] [(.int (16 : Int32))])) (fun t k => XS.bipush X0.here hx rfl (hb hby at_23) k) ?_
  obtain ⟨T9, h9, b9, X9, e9, E9, g9, A9, st9⟩ := own_new X0 hx hZ (hw _ (List.mem_of_getElem? (i := 0) rfl)) e0 (g := (mkF m 25 #[.val (.int p1), .val (.int p2), .val (.int p3), .val (.int (v_rm0_0 p1)), .val (.int (v_rm0_1 p1)), .val (.int (p2 &&& (7 : Int32))), .unset, .unset] [(.int (16 : Int32))])) rfl (hb hby at_25) rfl (k := 16) (by decide) 16 (by decide) (by decide) (by decide) (by decide)
  have Z10 : n0 ≤ h9.size := Nat.le_trans Z0 E9.1
  have ge_b9 : n0 ≤ b9 := by rw [g9]; exact Z0
  have A9' : AF Z h9 b9 .byte 16 (fun _ => .int 0) := A9
  refine go _ (T9.setTop (mkF m 27 #[.val (.int p1), .val (.int p2), .val (.int p3), .val (.int (v_rm0_0 p1)), .val (.int (v_rm0_1 p1)), .val (.int (p2 &&& (7 : Int32))), .unset, .unset] [(.ref b9)])) (st9) ?_
  refine go _ (T9.setTop (mkF m 29 #[.val (.int p1), .val (.int p2), .val (.int p3), .val (.int (v_rm0_0 p1)), .val (.int (v_rm0_1 p1)), .val (.int (p2 &&& (7 : Int32))), .val (.ref b9), .unset] [])) (fun t k => XS.astore X9.here hx rfl (hb hby at_27) rfl rfl (l' := #[.val (.int p1), .val (.int p2), .val (.int p3), .val (.int (v_rm0_0 p1)), .val (.int (v_rm0_1 p1)), .val (.int (p2 &&& (7 : Int32))), .val (.ref b9), .unset]) rfl k) ?_
  refine go _ (T9.setTop (mkF m 31 #[.val (.int p1), .val (.int p2), .val (.int p3), .val (.int (v_rm0_0 p1)), .val (.int (v_rm0_1 p1)), .val (.int (p2 &&& (7 : Int32))), .val (.ref b9), .unset] [(.ref b9)])) (fun t k => XS.aload X9.here hx rfl (hb hby at_29) rfl rfl k) ?_
  refine go _ (T9.setTop (mkF m 33 #[.val (.int p1), .val (.int p2), .val (.int p3), .val (.int (v_rm0_0 p1)), .val (.int (v_rm0_1 p1)), .val (.int (p2 &&& (7 : Int32))), .val (.ref b9), .unset] [(.int (p2 &&& (7 : Int32))), (.ref b9)])) (fun t k => XS.iload X9.here hx rfl (hb hby at_31) rfl k) ?_
  refine go _ (T9.setTop (mkF m 34 #[.val (.int p1), .val (.int p2), .val (.int p3), .val (.int (v_rm0_0 p1)), .val (.int (v_rm0_1 p1)), .val (.int (p2 &&& (7 : Int32))), .val (.ref b9), .unset] [(.int (1 : Int32)), (.int (p2 &&& (7 : Int32))), (.ref b9)])) (fun t k => XS.iconst X9.here hx rfl (hb hby at_33) k) ?_
  refine go _ (T9.setTop (mkF m 35 #[.val (.int p1), .val (.int p2), .val (.int p3), .val (.int (v_rm0_0 p1)), .val (.int (v_rm0_1 p1)), .val (.int (p2 &&& (7 : Int32))), .val (.ref b9), .unset] [(.int ((p2 &&& (7 : Int32)) + (1 : Int32))), (.ref b9)])) (fun t k => XS.iadd X9.here hx rfl (hb hby at_34) rfl k) ?_
  refine go _ (T9.setTop (mkF m 36 #[.val (.int p1), .val (.int p2), .val (.int p3), .val (.int (v_rm0_0 p1)), .val (.int (v_rm0_1 p1)), .val (.int (p2 &&& (7 : Int32))), .val (.ref b9), .unset] [(.int p3), (.int ((p2 &&& (7 : Int32)) + (1 : Int32))), (.ref b9)])) (fun t k => XS.iloadN X9.here hx rfl (hb hby at_35) rfl k) ?_
  refine go _ (T9.setTop (mkF m 37 #[.val (.int p1), .val (.int p2), .val (.int p3), .val (.int (v_rm0_0 p1)), .val (.int (v_rm0_1 p1)), .val (.int (p2 &&& (7 : Int32))), .val (.ref b9), .unset] [(.int (jb p3)), (.int ((p2 &&& (7 : Int32)) + (1 : Int32))), (.ref b9)])) (fun t k => XS.i2b X9.here hx rfl (hb hby at_36) rfl k) ?_
  obtain ⟨T11, h11, X11, e11, W11, A11, st11⟩ := own_stB X9 hx hZ e9 A9' (i := (i + 1)) hj1 (by omega) (own_narb p3) (g := (mkF m 37 #[.val (.int p1), .val (.int p2), .val (.int p3), .val (.int (v_rm0_0 p1)), .val (.int (v_rm0_1 p1)), .val (.int (p2 &&& (7 : Int32))), .val (.ref b9), .unset] [(.int (jb p3)), (.int ((p2 &&& (7 : Int32)) + (1 : Int32))), (.ref b9)])) rfl rfl (hb hby at_37)
  have Z12 : n0 ≤ h11.size := by rw [W11.size]; exact Z10
  have N13 := Fr.snoc X11 N0 ge_b9
  refine go _ (T11.setTop (mkF m 38 #[.val (.int p1), .val (.int p2), .val (.int p3), .val (.int (v_rm0_0 p1)), .val (.int (v_rm0_1 p1)), .val (.int (p2 &&& (7 : Int32))), .val (.ref b9), .unset] [])) (st11) ?_
  refine go _ (T11.setTop (mkF m 40 #[.val (.int p1), .val (.int p2), .val (.int p3), .val (.int (v_rm0_0 p1)), .val (.int (v_rm0_1 p1)), .val (.int (p2 &&& (7 : Int32))), .val (.ref b9), .unset] [(.int (p2 &&& (7 : Int32)))])) (fun t k => XS.iload X11.here hx rfl (hb hby at_38) rfl k) ?_
  by_cases hc14 : (0 : Int32) < (p2 &&& (7 : Int32))
  · refine go _ (T11.setTop (mkF m 43 #[.val (.int p1), .val (.int p2), .val (.int p3), .val (.int (v_rm0_0 p1)), .val (.int (v_rm0_1 p1)), .val (.int (p2 &&& (7 : Int32))), .val (.ref b9), .unset] [])) (fun t k => XS.ifNo X11.here hx rfl (hb hby at_40) rfl ((if0 _ _).trans (tlt hc14).2.2.2) k) ?_
    refine go _ (T11.setTop (mkF m 45 #[.val (.int p1), .val (.int p2), .val (.int p3), .val (.int (v_rm0_0 p1)), .val (.int (v_rm0_1 p1)), .val (.int (p2 &&& (7 : Int32))), .val (.ref b9), .unset] [(.ref b9)])) (fun t k => XS.aload X11.here hx rfl (hb hby at_43) rfl rfl k) ?_
    refine go _ (T11.setTop (mkF m 47 #[.val (.int p1), .val (.int p2), .val (.int p3), .val (.int (v_rm0_0 p1)), .val (.int (v_rm0_1 p1)), .val (.int (p2 &&& (7 : Int32))), .val (.ref b9), .unset] [(.int (p2 &&& (7 : Int32))), (.ref b9)])) (fun t k => XS.iload X11.here hx rfl (hb hby at_45) rfl k) ?_
    refine go _ (T11.setTop (mkF m 48 #[.val (.int p1), .val (.int p2), .val (.int p3), .val (.int (v_rm0_0 p1)), .val (.int (v_rm0_1 p1)), .val (.int (p2 &&& (7 : Int32))), .val (.ref b9), .unset] [(.int (1 : Int32)), (.int (p2 &&& (7 : Int32))), (.ref b9)])) (fun t k => XS.iconst X11.here hx rfl (hb hby at_47) k) ?_
    refine go _ (T11.setTop (mkF m 49 #[.val (.int p1), .val (.int p2), .val (.int p3), .val (.int (v_rm0_0 p1)), .val (.int (v_rm0_1 p1)), .val (.int (p2 &&& (7 : Int32))), .val (.ref b9), .unset] [(.int ((p2 &&& (7 : Int32)) - (1 : Int32))), (.ref b9)])) (fun t k => XS.isub X11.here hx rfl (hb hby at_48) rfl k) ?_
    refine go _ (T11.setTop (mkF m 50 #[.val (.int p1), .val (.int p2), .val (.int p3), .val (.int (v_rm0_0 p1)), .val (.int (v_rm0_1 p1)), .val (.int (p2 &&& (7 : Int32))), .val (.ref b9), .unset] [(.int p3), (.int ((p2 &&& (7 : Int32)) - (1 : Int32))), (.ref b9)])) (fun t k => XS.iloadN X11.here hx rfl (hb hby at_49) rfl k) ?_
    refine go _ (T11.setTop (mkF m 51 #[.val (.int p1), .val (.int p2), .val (.int p3), .val (.int (v_rm0_0 p1)), .val (.int (v_rm0_1 p1)), .val (.int (p2 &&& (7 : Int32))), .val (.ref b9), .unset] [(.int (jb p3)), (.int ((p2 &&& (7 : Int32)) - (1 : Int32))), (.ref b9)])) (fun t k => XS.i2b X11.here hx rfl (hb hby at_50) rfl k) ?_
    obtain ⟨T15, h15, X15, e15, W15, A15, st15⟩ := own_stB X11 hx hZ e11 A11 (i := (i - 1)) (hjm hc14) (by omega) (own_narb p3) (g := (mkF m 51 #[.val (.int p1), .val (.int p2), .val (.int p3), .val (.int (v_rm0_0 p1)), .val (.int (v_rm0_1 p1)), .val (.int (p2 &&& (7 : Int32))), .val (.ref b9), .unset] [(.int (jb p3)), (.int ((p2 &&& (7 : Int32)) - (1 : Int32))), (.ref b9)])) rfl rfl (hb hby at_51)
    have Z16 : n0 ≤ h15.size := by rw [W15.size]; exact Z12
    have N17 := Fr.snoc X15 N13 ge_b9
    refine go _ (T15.setTop (mkF m 52 #[.val (.int p1), .val (.int p2), .val (.int p3), .val (.int (v_rm0_0 p1)), .val (.int (v_rm0_1 p1)), .val (.int (p2 &&& (7 : Int32))), .val (.ref b9), .unset] [])) (st15) ?_
    refine go _ (T15.setTop (mkF m 54 #[.val (.int p1), .val (.int p2), .val (.int p3), .val (.int (v_rm0_0 p1)), .val (.int (v_rm0_1 p1)), .val (.int (p2 &&& (7 : Int32))), .val (.ref b9), .unset] [(.ref b9)])) (fun t k => XS.aload X15.here hx rfl (hb hby at_52) rfl rfl k) ?_
    refine go _ (T15.setTop (mkF m 56 #[.val (.int p1), .val (.int p2), .val (.int p3), .val (.int (v_rm0_0 p1)), .val (.int (v_rm0_1 p1)), .val (.int (p2 &&& (7 : Int32))), .val (.ref b9), .unset] [(.int (p2 &&& (7 : Int32))), (.ref b9)])) (fun t k => XS.iload X15.here hx rfl (hb hby at_54) rfl k) ?_
    refine go _ (T15.setTop (mkF m 58 #[.val (.int p1), .val (.int p2), .val (.int p3), .val (.int (v_rm0_0 p1)), .val (.int (v_rm0_1 p1)), .val (.int (p2 &&& (7 : Int32))), .val (.ref b9), .unset] [(.int (v_rm0_1 p1)), (.int (p2 &&& (7 : Int32))), (.ref b9)])) (fun t k => XS.iload X15.here hx rfl (hb hby at_56) rfl k) ?_
    refine go _ (T15.setTop (mkF m 59 #[.val (.int p1), .val (.int p2), .val (.int p3), .val (.int (v_rm0_0 p1)), .val (.int (v_rm0_1 p1)), .val (.int (p2 &&& (7 : Int32))), .val (.ref b9), .unset] [(.int (5 : Int32)), (.int (v_rm0_1 p1)), (.int (p2 &&& (7 : Int32))), (.ref b9)])) (fun t k => XS.iconst X15.here hx rfl (hb hby at_58) k) ?_
    refine go _ (T15.setTop (mkF m 60 #[.val (.int p1), .val (.int p2), .val (.int p3), .val (.int (v_rm0_0 p1)), .val (.int (v_rm0_1 p1)), .val (.int (p2 &&& (7 : Int32))), .val (.ref b9), .unset] [(.int (jshl (v_rm0_1 p1) (5 : Int32))), (.int (p2 &&& (7 : Int32))), (.ref b9)])) (fun t k => XS.ishl X15.here hx rfl (hb hby at_59) rfl k) ?_
    refine go _ (T15.setTop (mkF m 61 #[.val (.int p1), .val (.int p2), .val (.int p3), .val (.int (v_rm0_0 p1)), .val (.int (v_rm0_1 p1)), .val (.int (p2 &&& (7 : Int32))), .val (.ref b9), .unset] [(.int (v_rm0_0 p1)), (.int (jshl (v_rm0_1 p1) (5 : Int32))), (.int (p2 &&& (7 : Int32))), (.ref b9)])) (fun t k => XS.iloadN X15.here hx rfl (hb hby at_60) rfl k) ?_
    refine go _ (T15.setTop (mkF m 62 #[.val (.int p1), .val (.int p2), .val (.int p3), .val (.int (v_rm0_0 p1)), .val (.int (v_rm0_1 p1)), .val (.int (p2 &&& (7 : Int32))), .val (.ref b9), .unset] [(.int ((jshl (v_rm0_1 p1) (5 : Int32)) ||| (v_rm0_0 p1))), (.int (p2 &&& (7 : Int32))), (.ref b9)])) (fun t k => XS.ior X15.here hx rfl (hb hby at_61) rfl k) ?_
    refine go _ (T15.setTop (mkF m 63 #[.val (.int p1), .val (.int p2), .val (.int p3), .val (.int (v_rm0_0 p1)), .val (.int (v_rm0_1 p1)), .val (.int (p2 &&& (7 : Int32))), .val (.ref b9), .unset] [(.int (jb ((jshl (v_rm0_1 p1) (5 : Int32)) ||| (v_rm0_0 p1)))), (.int (p2 &&& (7 : Int32))), (.ref b9)])) (fun t k => XS.i2b X15.here hx rfl (hb hby at_62) rfl k) ?_
    obtain ⟨T18, h18, X18, e18, W18, A18, st18⟩ := own_stB X15 hx hZ e15 A15 (i := i) hj (by omega) (own_narb ((jshl (v_rm0_1 p1) (5 : Int32)) ||| (v_rm0_0 p1))) (g := (mkF m 63 #[.val (.int p1), .val (.int p2), .val (.int p3), .val (.int (v_rm0_0 p1)), .val (.int (v_rm0_1 p1)), .val (.int (p2 &&& (7 : Int32))), .val (.ref b9), .unset] [(.int (jb ((jshl (v_rm0_1 p1) (5 : Int32)) ||| (v_rm0_0 p1)))), (.int (p2 &&& (7 : Int32))), (.ref b9)])) rfl rfl (hb hby at_63)
    have Z19 : n0 ≤ h18.size := by rw [W18.size]; exact Z16
    have N20 := Fr.snoc X18 N17 ge_b9
    refine go _ (T18.setTop (mkF m 64 #[.val (.int p1), .val (.int p2), .val (.int p3), .val (.int (v_rm0_0 p1)), .val (.int (v_rm0_1 p1)), .val (.int (p2 &&& (7 : Int32))), .val (.ref b9), .unset] [])) (st18) ?_
    refine go _ (T18.setTop (mkF m 66 #[.val (.int p1), .val (.int p2), .val (.int p3), .val (.int (v_rm0_0 p1)), .val (.int (v_rm0_1 p1)), .val (.int (p2 &&& (7 : Int32))), .val (.ref b9), .unset] [(.ref b9)])) (fun t k => XS.aload X18.here hx rfl (hb hby at_64) rfl rfl k) ?_
    refine go _ (T18.setTop (mkF m 68 #[.val (.int p1), .val (.int p2), .val (.int p3), .val (.int (v_rm0_0 p1)), .val (.int (v_rm0_1 p1)), .val (.int (p2 &&& (7 : Int32))), .val (.ref b9), .unset] [(.int (p2 &&& (7 : Int32))), (.ref b9)])) (fun t k => XS.iload X18.here hx rfl (hb hby at_66) rfl k) ?_
    obtain ⟨_, _, ⟨T21, L21, k21, n21⟩, -, X21, ⟨Lc21, hQ21, l21, y21, z21⟩, st21⟩ := Jvm.LawKit.callS X18 hx (y := (⟨"com/example/countermark/countermark/cbor/CborReader", "contentStart", "([BI)I"⟩ : MethodName)) hown (mvT hZ (hw _ (List.mem_of_getElem? (i := 1) rfl))) (mvT hZ (hw _ (List.mem_of_getElem? (i := 2) rfl))) (mvT hZ (hw _ (List.mem_of_getElem? (i := 3) rfl))) (mvT hZ (hw _ (List.mem_of_getElem? (i := 4) rfl))) (by decide) (backOf (W := 0) (rm1 l Z a0 hw [] b9 (p2 &&& (7 : Int32)) _ 16 i (jb ((jshl (v_rm0_1 p1) (5 : Int32)) ||| (v_rm0_0 p1))) h18 n0 Z19 A18 hj (by omega) (own_hit _ _ _)) hZ (hw _ (List.mem_of_getElem? (i := 4) rfl)) (hw _ (List.mem_of_getElem? (i := 3) rfl)) (by decide) (by decide)) (g := (mkF m 68 #[.val (.int p1), .val (.int p2), .val (.int p3), .val (.int (v_rm0_0 p1)), .val (.int (v_rm0_1 p1)), .val (.int (p2 &&& (7 : Int32))), .val (.ref b9), .unset] [(.int (p2 &&& (7 : Int32))), (.ref b9)])) rfl (by rw [hml]; rfl) (argsL := [(.ref b9), (.int (p2 &&& (7 : Int32)))]) (rest := []) (lenOf pd_2 rfl) rfl (by show 2 * 0 + _ ≤ _; exact Nat.le_of_eq rfl) (hb hby at_68) (fun _ _ => ⟨rfl, e18, (by decide : 0 + 1 + 0 ≤ _), (by decide : 0 + 16 + 0 ≤ _)⟩)
    dsimp only [Pt.U, Pt.locs, Pt.cells, Pt.slots] at X21 l21 y21 z21 st21 hQ21
    subst l21 y21 z21
    obtain ⟨rfl, Nq21, hh21⟩ := hQ21
    have N22 := Fr.app N20 Nq21
    refine go _ (T21.setTop (mkF m 71 #[.val (.int p1), .val (.int p2), .val (.int p3), .val (.int (v_rm0_0 p1)), .val (.int (v_rm0_1 p1)), .val (.int (p2 &&& (7 : Int32))), .val (.ref b9), .unset] [(.int ((p2 &&& (7 : Int32)) + f_rm2 ((jb ((jshl (v_rm0_1 p1) (5 : Int32)) ||| (v_rm0_0 p1))) &&& (31 : Int32))))])) (st21) ?_
    refine go _ (T21.setTop (mkF m 73 #[.val (.int p1), .val (.int p2), .val (.int p3), .val (.int (v_rm0_0 p1)), .val (.int (v_rm0_1 p1)), .val (.int (p2 &&& (7 : Int32))), .val (.ref b9), .val (.int (v_rm0_2 p2 p1))] [])) (fun t k => XS.istore X21.here hx rfl (hb hby at_71) rfl (l' := #[.val (.int p1), .val (.int p2), .val (.int p3), .val (.int (v_rm0_0 p1)), .val (.int (v_rm0_1 p1)), .val (.int (p2 &&& (7 : Int32))), .val (.ref b9), .val (.int (v_rm0_2 p2 p1))]) rfl k) ?_
    refine go _ (T21.setTop (mkF m 75 #[.val (.int p1), .val (.int p2), .val (.int p3), .val (.int (v_rm0_0 p1)), .val (.int (v_rm0_1 p1)), .val (.int (p2 &&& (7 : Int32))), .val (.ref b9), .val (.int (v_rm0_2 p2 p1))] [(.int (v_rm0_2 p2 p1))])) (fun t k => XS.iload X21.here hx rfl (hb hby at_73) rfl k) ?_
    refine go _ (T21.setTop (mkF m 77 #[.val (.int p1), .val (.int p2), .val (.int p3), .val (.int (v_rm0_0 p1)), .val (.int (v_rm0_1 p1)), .val (.int (p2 &&& (7 : Int32))), .val (.ref b9), .val (.int (v_rm0_2 p2 p1))] [(.int (p2 &&& (7 : Int32))), (.int (v_rm0_2 p2 p1))])) (fun t k => XS.iload X21.here hx rfl (hb hby at_75) rfl k) ?_
    refine go _ (T21.setTop (mkF m 78 #[.val (.int p1), .val (.int p2), .val (.int p3), .val (.int (v_rm0_0 p1)), .val (.int (v_rm0_1 p1)), .val (.int (p2 &&& (7 : Int32))), .val (.ref b9), .val (.int (v_rm0_2 p2 p1))] [(.int (v_rm0_0 p1)), (.int (p2 &&& (7 : Int32))), (.int (v_rm0_2 p2 p1))])) (fun t k => XS.iloadN X21.here hx rfl (hb hby at_77) rfl k) ?_
    obtain ⟨_, _, ⟨T23, L23, k23, n23⟩, -, X23, ⟨Lc23, hQ23, l23, y23, z23⟩, st23⟩ := Jvm.LawKit.callS X21 hx (y := (⟨"com/example/countermark/countermark/cbor/CborReaderContentStartPinLaw", "expectedHead", "(I)I"⟩ : MethodName)) hown (mvT hZ (hw _ (List.mem_of_getElem? (i := 8) rfl))) (mvT hZ (hw _ (List.mem_of_getElem? (i := 9) rfl))) (mvT hZ (hw _ (List.mem_of_getElem? (i := 10) rfl))) (mvT hZ (hw _ (List.mem_of_getElem? (i := 11) rfl))) (by decide) (backOf (W := 2) (rm3 l Z a0 hw [] (v_rm0_0 p1)  h18 n0 Z19 ) hZ (hw _ (List.mem_of_getElem? (i := 11) rfl)) (hw _ (List.mem_of_getElem? (i := 10) rfl)) (by decide) (by decide)) (g := (mkF m 78 #[.val (.int p1), .val (.int p2), .val (.int p3), .val (.int (v_rm0_0 p1)), .val (.int (v_rm0_1 p1)), .val (.int (p2 &&& (7 : Int32))), .val (.ref b9), .val (.int (v_rm0_2 p2 p1))] [(.int (v_rm0_0 p1)), (.int (p2 &&& (7 : Int32))), (.int (v_rm0_2 p2 p1))])) rfl (by rw [hml]; rfl) (argsL := [(.int (v_rm0_0 p1))]) (rest := [(.int (p2 &&& (7 : Int32))), (.int (v_rm0_2 p2 p1))]) (lenOf pd_1 rfl) rfl (by show 2 * 0 + _ ≤ _; exact Nat.le_of_eq rfl) (hb hby at_78) (fun _ _ => ⟨rfl, hh21, (by decide : 0 + 1 + 0 ≤ _), (by decide : 0 + 16 + 0 ≤ _)⟩)
    dsimp only [Pt.U, Pt.locs, Pt.cells, Pt.slots] at X23 l23 y23 z23 st23 hQ23
    subst l23 y23 z23
    obtain ⟨rfl, Nq23, hh23⟩ := hQ23
    have N24 := Fr.app N22 Nq23
    refine go _ (T23.setTop (mkF m 81 #[.val (.int p1), .val (.int p2), .val (.int p3), .val (.int (v_rm0_0 p1)), .val (.int (v_rm0_1 p1)), .val (.int (p2 &&& (7 : Int32))), .val (.ref b9), .val (.int (v_rm0_2 p2 p1))] [(.int (f_rm3 (v_rm0_0 p1))), (.int (p2 &&& (7 : Int32))), (.int (v_rm0_2 p2 p1))])) (st23) ?_
    refine go _ (T23.setTop (mkF m 82 #[.val (.int p1), .val (.int p2), .val (.int p3), .val (.int (v_rm0_0 p1)), .val (.int (v_rm0_1 p1)), .val (.int (p2 &&& (7 : Int32))), .val (.ref b9), .val (.int (v_rm0_2 p2 p1))] [(.int ((p2 &&& (7 : Int32)) + (f_rm3 (v_rm0_0 p1)))), (.int (v_rm0_2 p2 p1))])) (fun t k => XS.iadd X23.here hx rfl (hb hby at_81) rfl k) ?_
    have hc25 : ((v_rm0_2 p2 p1) = ((p2 &&& (7 : Int32)) + (f_rm3 (v_rm0_0 p1)))) := own_law p1 p2
    refine go _ (T23.setTop (mkF m 85 #[.val (.int p1), .val (.int p2), .val (.int p3), .val (.int (v_rm0_0 p1)), .val (.int (v_rm0_1 p1)), .val (.int (p2 &&& (7 : Int32))), .val (.ref b9), .val (.int (v_rm0_2 p2 p1))] [])) (fun t k => XS.icmpNo X23.here hx rfl (hb hby at_82) rfl (teq hc25).2 k) ?_
    refine go _ (T23.setTop (mkF m 86 #[.val (.int p1), .val (.int p2), .val (.int p3), .val (.int (v_rm0_0 p1)), .val (.int (v_rm0_1 p1)), .val (.int (p2 &&& (7 : Int32))), .val (.ref b9), .val (.int (v_rm0_2 p2 p1))] [(.int (1 : Int32))])) (fun t k => XS.iconst X23.here hx rfl (hb hby at_85) k) ?_
    refine go _ (T23.setTop (mkF m 90 #[.val (.int p1), .val (.int p2), .val (.int p3), .val (.int (v_rm0_0 p1)), .val (.int (v_rm0_1 p1)), .val (.int (p2 &&& (7 : Int32))), .val (.ref b9), .val (.int (v_rm0_2 p2 p1))] [(.int (1 : Int32))])) (fun t k => XS.goto X23.here hx rfl (pc0 := 86) (pc' := 90) rfl (hb hby at_86) (by decide) (by decide) k) ?_
    exact fin (some (.int (1 : Int32))) X23 (by decide) (by decide) (fun q => by cases q) (show Q_rm0 Z p1 p2 p3 h0 n0 _ T23.heap _ from (by rw [hh23]; exact ⟨rfl, N24⟩)) (fun fs hr => retN X23 hx (t := .boolean) hret (by simp) (hb hby at_90) hr)
  · refine go _ (T11.setTop (mkF m 52 #[.val (.int p1), .val (.int p2), .val (.int p3), .val (.int (v_rm0_0 p1)), .val (.int (v_rm0_1 p1)), .val (.int (p2 &&& (7 : Int32))), .val (.ref b9), .unset] [])) (fun t k => XS.ifYes X11.here hx rfl (pc0 := 40) (pc' := 52) rfl (hb hby at_40) rfl ((if0 _ _).trans (flt hc14).2.2.2) (by decide) (by decide) k) ?_
    refine go _ (T11.setTop (mkF m 54 #[.val (.int p1), .val (.int p2), .val (.int p3), .val (.int (v_rm0_0 p1)), .val (.int (v_rm0_1 p1)), .val (.int (p2 &&& (7 : Int32))), .val (.ref b9), .unset] [(.ref b9)])) (fun t k => XS.aload X11.here hx rfl (hb hby at_52) rfl rfl k) ?_
    refine go _ (T11.setTop (mkF m 56 #[.val (.int p1), .val (.int p2), .val (.int p3), .val (.int (v_rm0_0 p1)), .val (.int (v_rm0_1 p1)), .val (.int (p2 &&& (7 : Int32))), .val (.ref b9), .unset] [(.int (p2 &&& (7 : Int32))), (.ref b9)])) (fun t k => XS.iload X11.here hx rfl (hb hby at_54) rfl k) ?_
    refine go _ (T11.setTop (mkF m 58 #[.val (.int p1), .val (.int p2), .val (.int p3), .val (.int (v_rm0_0 p1)), .val (.int (v_rm0_1 p1)), .val (.int (p2 &&& (7 : Int32))), .val (.ref b9), .unset] [(.int (v_rm0_1 p1)), (.int (p2 &&& (7 : Int32))), (.ref b9)])) (fun t k => XS.iload X11.here hx rfl (hb hby at_56) rfl k) ?_
    refine go _ (T11.setTop (mkF m 59 #[.val (.int p1), .val (.int p2), .val (.int p3), .val (.int (v_rm0_0 p1)), .val (.int (v_rm0_1 p1)), .val (.int (p2 &&& (7 : Int32))), .val (.ref b9), .unset] [(.int (5 : Int32)), (.int (v_rm0_1 p1)), (.int (p2 &&& (7 : Int32))), (.ref b9)])) (fun t k => XS.iconst X11.here hx rfl (hb hby at_58) k) ?_
    refine go _ (T11.setTop (mkF m 60 #[.val (.int p1), .val (.int p2), .val (.int p3), .val (.int (v_rm0_0 p1)), .val (.int (v_rm0_1 p1)), .val (.int (p2 &&& (7 : Int32))), .val (.ref b9), .unset] [(.int (jshl (v_rm0_1 p1) (5 : Int32))), (.int (p2 &&& (7 : Int32))), (.ref b9)])) (fun t k => XS.ishl X11.here hx rfl (hb hby at_59) rfl k) ?_
    refine go _ (T11.setTop (mkF m 61 #[.val (.int p1), .val (.int p2), .val (.int p3), .val (.int (v_rm0_0 p1)), .val (.int (v_rm0_1 p1)), .val (.int (p2 &&& (7 : Int32))), .val (.ref b9), .unset] [(.int (v_rm0_0 p1)), (.int (jshl (v_rm0_1 p1) (5 : Int32))), (.int (p2 &&& (7 : Int32))), (.ref b9)])) (fun t k => XS.iloadN X11.here hx rfl (hb hby at_60) rfl k) ?_
    refine go _ (T11.setTop (mkF m 62 #[.val (.int p1), .val (.int p2), .val (.int p3), .val (.int (v_rm0_0 p1)), .val (.int (v_rm0_1 p1)), .val (.int (p2 &&& (7 : Int32))), .val (.ref b9), .unset] [(.int ((jshl (v_rm0_1 p1) (5 : Int32)) ||| (v_rm0_0 p1))), (.int (p2 &&& (7 : Int32))), (.ref b9)])) (fun t k => XS.ior X11.here hx rfl (hb hby at_61) rfl k) ?_
    refine go _ (T11.setTop (mkF m 63 #[.val (.int p1), .val (.int p2), .val (.int p3), .val (.int (v_rm0_0 p1)), .val (.int (v_rm0_1 p1)), .val (.int (p2 &&& (7 : Int32))), .val (.ref b9), .unset] [(.int (jb ((jshl (v_rm0_1 p1) (5 : Int32)) ||| (v_rm0_0 p1)))), (.int (p2 &&& (7 : Int32))), (.ref b9)])) (fun t k => XS.i2b X11.here hx rfl (hb hby at_62) rfl k) ?_
    obtain ⟨T26, h26, X26, e26, W26, A26, st26⟩ := own_stB X11 hx hZ e11 A11 (i := i) hj (by omega) (own_narb ((jshl (v_rm0_1 p1) (5 : Int32)) ||| (v_rm0_0 p1))) (g := (mkF m 63 #[.val (.int p1), .val (.int p2), .val (.int p3), .val (.int (v_rm0_0 p1)), .val (.int (v_rm0_1 p1)), .val (.int (p2 &&& (7 : Int32))), .val (.ref b9), .unset] [(.int (jb ((jshl (v_rm0_1 p1) (5 : Int32)) ||| (v_rm0_0 p1)))), (.int (p2 &&& (7 : Int32))), (.ref b9)])) rfl rfl (hb hby at_63)
    have Z27 : n0 ≤ h26.size := by rw [W26.size]; exact Z12
    have N28 := Fr.snoc X26 N13 ge_b9
    refine go _ (T26.setTop (mkF m 64 #[.val (.int p1), .val (.int p2), .val (.int p3), .val (.int (v_rm0_0 p1)), .val (.int (v_rm0_1 p1)), .val (.int (p2 &&& (7 : Int32))), .val (.ref b9), .unset] [])) (st26) ?_
    refine go _ (T26.setTop (mkF m 66 #[.val (.int p1), .val (.int p2), .val (.int p3), .val (.int (v_rm0_0 p1)), .val (.int (v_rm0_1 p1)), .val (.int (p2 &&& (7 : Int32))), .val (.ref b9), .unset] [(.ref b9)])) (fun t k => XS.aload X26.here hx rfl (hb hby at_64) rfl rfl k) ?_
    refine go _ (T26.setTop (mkF m 68 #[.val (.int p1), .val (.int p2), .val (.int p3), .val (.int (v_rm0_0 p1)), .val (.int (v_rm0_1 p1)), .val (.int (p2 &&& (7 : Int32))), .val (.ref b9), .unset] [(.int (p2 &&& (7 : Int32))), (.ref b9)])) (fun t k => XS.iload X26.here hx rfl (hb hby at_66) rfl k) ?_
    obtain ⟨_, _, ⟨T29, L29, k29, n29⟩, -, X29, ⟨Lc29, hQ29, l29, y29, z29⟩, st29⟩ := Jvm.LawKit.callS X26 hx (y := (⟨"com/example/countermark/countermark/cbor/CborReader", "contentStart", "([BI)I"⟩ : MethodName)) hown (mvT hZ (hw _ (List.mem_of_getElem? (i := 1) rfl))) (mvT hZ (hw _ (List.mem_of_getElem? (i := 2) rfl))) (mvT hZ (hw _ (List.mem_of_getElem? (i := 3) rfl))) (mvT hZ (hw _ (List.mem_of_getElem? (i := 4) rfl))) (by decide) (backOf (W := 0) (rm1 l Z a0 hw [] b9 (p2 &&& (7 : Int32)) _ 16 i (jb ((jshl (v_rm0_1 p1) (5 : Int32)) ||| (v_rm0_0 p1))) h26 n0 Z27 A26 hj (by omega) (own_hit _ _ _)) hZ (hw _ (List.mem_of_getElem? (i := 4) rfl)) (hw _ (List.mem_of_getElem? (i := 3) rfl)) (by decide) (by decide)) (g := (mkF m 68 #[.val (.int p1), .val (.int p2), .val (.int p3), .val (.int (v_rm0_0 p1)), .val (.int (v_rm0_1 p1)), .val (.int (p2 &&& (7 : Int32))), .val (.ref b9), .unset] [(.int (p2 &&& (7 : Int32))), (.ref b9)])) rfl (by rw [hml]; rfl) (argsL := [(.ref b9), (.int (p2 &&& (7 : Int32)))]) (rest := []) (lenOf pd_2 rfl) rfl (by show 2 * 0 + _ ≤ _; exact Nat.le_of_eq rfl) (hb hby at_68) (fun _ _ => ⟨rfl, e26, (by decide : 0 + 1 + 0 ≤ _), (by decide : 0 + 16 + 0 ≤ _)⟩)
    dsimp only [Pt.U, Pt.locs, Pt.cells, Pt.slots] at X29 l29 y29 z29 st29 hQ29
    subst l29 y29 z29
    obtain ⟨rfl, Nq29, hh29⟩ := hQ29
    have N30 := Fr.app N28 Nq29
    refine go _ (T29.setTop (mkF m 71 #[.val (.int p1), .val (.int p2), .val (.int p3), .val (.int (v_rm0_0 p1)), .val (.int (v_rm0_1 p1)), .val (.int (p2 &&& (7 : Int32))), .val (.ref b9), .unset] [(.int ((p2 &&& (7 : Int32)) + f_rm2 ((jb ((jshl (v_rm0_1 p1) (5 : Int32)) ||| (v_rm0_0 p1))) &&& (31 : Int32))))])) (st29) ?_
    refine go _ (T29.setTop (mkF m 73 #[.val (.int p1), .val (.int p2), .val (.int p3), .val (.int (v_rm0_0 p1)), .val (.int (v_rm0_1 p1)), .val (.int (p2 &&& (7 : Int32))), .val (.ref b9), .val (.int (v_rm0_3 p2 p1))] [])) (fun t k => XS.istore X29.here hx rfl (hb hby at_71) rfl (l' := #[.val (.int p1), .val (.int p2), .val (.int p3), .val (.int (v_rm0_0 p1)), .val (.int (v_rm0_1 p1)), .val (.int (p2 &&& (7 : Int32))), .val (.ref b9), .val (.int (v_rm0_3 p2 p1))]) rfl k) ?_
    refine go _ (T29.setTop (mkF m 75 #[.val (.int p1), .val (.int p2), .val (.int p3), .val (.int (v_rm0_0 p1)), .val (.int (v_rm0_1 p1)), .val (.int (p2 &&& (7 : Int32))), .val (.ref b9), .val (.int (v_rm0_3 p2 p1))] [(.int (v_rm0_3 p2 p1))])) (fun t k => XS.iload X29.here hx rfl (hb hby at_73) rfl k) ?_
    refine go _ (T29.setTop (mkF m 77 #[.val (.int p1), .val (.int p2), .val (.int p3), .val (.int (v_rm0_0 p1)), .val (.int (v_rm0_1 p1)), .val (.int (p2 &&& (7 : Int32))), .val (.ref b9), .val (.int (v_rm0_3 p2 p1))] [(.int (p2 &&& (7 : Int32))), (.int (v_rm0_3 p2 p1))])) (fun t k => XS.iload X29.here hx rfl (hb hby at_75) rfl k) ?_
    refine go _ (T29.setTop (mkF m 78 #[.val (.int p1), .val (.int p2), .val (.int p3), .val (.int (v_rm0_0 p1)), .val (.int (v_rm0_1 p1)), .val (.int (p2 &&& (7 : Int32))), .val (.ref b9), .val (.int (v_rm0_3 p2 p1))] [(.int (v_rm0_0 p1)), (.int (p2 &&& (7 : Int32))), (.int (v_rm0_3 p2 p1))])) (fun t k => XS.iloadN X29.here hx rfl (hb hby at_77) rfl k) ?_
    obtain ⟨_, _, ⟨T31, L31, k31, n31⟩, -, X31, ⟨Lc31, hQ31, l31, y31, z31⟩, st31⟩ := Jvm.LawKit.callS X29 hx (y := (⟨"com/example/countermark/countermark/cbor/CborReaderContentStartPinLaw", "expectedHead", "(I)I"⟩ : MethodName)) hown (mvT hZ (hw _ (List.mem_of_getElem? (i := 8) rfl))) (mvT hZ (hw _ (List.mem_of_getElem? (i := 9) rfl))) (mvT hZ (hw _ (List.mem_of_getElem? (i := 10) rfl))) (mvT hZ (hw _ (List.mem_of_getElem? (i := 11) rfl))) (by decide) (backOf (W := 2) (rm3 l Z a0 hw [] (v_rm0_0 p1)  h26 n0 Z27 ) hZ (hw _ (List.mem_of_getElem? (i := 11) rfl)) (hw _ (List.mem_of_getElem? (i := 10) rfl)) (by decide) (by decide)) (g := (mkF m 78 #[.val (.int p1), .val (.int p2), .val (.int p3), .val (.int (v_rm0_0 p1)), .val (.int (v_rm0_1 p1)), .val (.int (p2 &&& (7 : Int32))), .val (.ref b9), .val (.int (v_rm0_3 p2 p1))] [(.int (v_rm0_0 p1)), (.int (p2 &&& (7 : Int32))), (.int (v_rm0_3 p2 p1))])) rfl (by rw [hml]; rfl) (argsL := [(.int (v_rm0_0 p1))]) (rest := [(.int (p2 &&& (7 : Int32))), (.int (v_rm0_3 p2 p1))]) (lenOf pd_1 rfl) rfl (by show 2 * 0 + _ ≤ _; exact Nat.le_of_eq rfl) (hb hby at_78) (fun _ _ => ⟨rfl, hh29, (by decide : 0 + 1 + 0 ≤ _), (by decide : 0 + 16 + 0 ≤ _)⟩)
    dsimp only [Pt.U, Pt.locs, Pt.cells, Pt.slots] at X31 l31 y31 z31 st31 hQ31
    subst l31 y31 z31
    obtain ⟨rfl, Nq31, hh31⟩ := hQ31
    have N32 := Fr.app N30 Nq31
    refine go _ (T31.setTop (mkF m 81 #[.val (.int p1), .val (.int p2), .val (.int p3), .val (.int (v_rm0_0 p1)), .val (.int (v_rm0_1 p1)), .val (.int (p2 &&& (7 : Int32))), .val (.ref b9), .val (.int (v_rm0_3 p2 p1))] [(.int (f_rm3 (v_rm0_0 p1))), (.int (p2 &&& (7 : Int32))), (.int (v_rm0_3 p2 p1))])) (st31) ?_
    refine go _ (T31.setTop (mkF m 82 #[.val (.int p1), .val (.int p2), .val (.int p3), .val (.int (v_rm0_0 p1)), .val (.int (v_rm0_1 p1)), .val (.int (p2 &&& (7 : Int32))), .val (.ref b9), .val (.int (v_rm0_3 p2 p1))] [(.int ((p2 &&& (7 : Int32)) + (f_rm3 (v_rm0_0 p1)))), (.int (v_rm0_3 p2 p1))])) (fun t k => XS.iadd X31.here hx rfl (hb hby at_81) rfl k) ?_
    have hc33 : ((v_rm0_3 p2 p1) = ((p2 &&& (7 : Int32)) + (f_rm3 (v_rm0_0 p1)))) := own_law p1 p2
    refine go _ (T31.setTop (mkF m 85 #[.val (.int p1), .val (.int p2), .val (.int p3), .val (.int (v_rm0_0 p1)), .val (.int (v_rm0_1 p1)), .val (.int (p2 &&& (7 : Int32))), .val (.ref b9), .val (.int (v_rm0_3 p2 p1))] [])) (fun t k => XS.icmpNo X31.here hx rfl (hb hby at_82) rfl (teq hc33).2 k) ?_
    refine go _ (T31.setTop (mkF m 86 #[.val (.int p1), .val (.int p2), .val (.int p3), .val (.int (v_rm0_0 p1)), .val (.int (v_rm0_1 p1)), .val (.int (p2 &&& (7 : Int32))), .val (.ref b9), .val (.int (v_rm0_3 p2 p1))] [(.int (1 : Int32))])) (fun t k => XS.iconst X31.here hx rfl (hb hby at_85) k) ?_
    refine go _ (T31.setTop (mkF m 90 #[.val (.int p1), .val (.int p2), .val (.int p3), .val (.int (v_rm0_0 p1)), .val (.int (v_rm0_1 p1)), .val (.int (p2 &&& (7 : Int32))), .val (.ref b9), .val (.int (v_rm0_3 p2 p1))] [(.int (1 : Int32))])) (fun t k => XS.goto X31.here hx rfl (pc0 := 86) (pc' := 90) rfl (hb hby at_86) (by decide) (by decide) k) ?_
    exact fin (some (.int (1 : Int32))) X31 (by decide) (by decide) (fun q => by cases q) (show Q_rm0 Z p1 p2 p3 h0 n0 _ T31.heap _ from (by rw [hh31]; exact ⟨rfl, N32⟩)) (fun fs hr => retN X31 hx (t := .boolean) hret (by simp) (hb hby at_90) hr)
set_option maxRecDepth 65536 in
set_option maxHeartbeats 40000000 in
theorem comes_1 {Post : Tables → Env → Array Value → State → Outcome → State → Prop} (hpost : ∀ tb e args s v u, (limb_1_1.after args s (.returned v) u = true ∧ limb_1_2.after args s (.returned v) u = true ∧ True) → FrameEnd s (.returned v) u (Jvm.fieldLocs frame_1_writes args s ++ Jvm.arrayLocs frame_1_arrays args s ++ Jvm.staticLocs frame_1_statics s) 16 128 → Post tb e args s (.returned v) u) :
    ArmFor flags0 classFile x code maxLocals ret World_1 tables_1 room_1 Calls_1 rest_1 Pre_1 Post := by
  intro l hfl _ _ p e ha hc hk s m args below hf hA hF happ hP
  obtain ⟨hcalls, hrest, hpre⟩ := hP
  obtain ⟨-, -, -, hnamed, -, -, -, hat⟩ := (Spec.applies_iff hf).mp happ
  obtain ⟨hg, hn⟩ := and_e (Cond.before_iff.mp (show (Jvm.Cond.and given_1 narrow_1).before args s = true from hpre))
  obtain ⟨gc, g1⟩ := and_e hg
  obtain ⟨ga0, g2⟩ := and_e g1
  obtain ⟨ga1, g3⟩ := and_e g2
  have ga2 := g3
  obtain ⟨w0, w1, w2, rfl⟩ : ∃ w0 w1 w2 : Value, args = #[w0, w1, w2] := by
    have hs : args.size = 3 := by simpa [Cond.value, given_1] using gc
    obtain ⟨L⟩ := args
    match L, hs with
    | [w0, w1, w2], _ => exact ⟨w0, w1, w2, rfl⟩
  have hw := fun d (hd : d ∈ tables_1) => atoms_spec (ws := Jvm.Cond.code x code maxLocals ret :: tables_1) hat d (List.mem_cons_of_mem _ hd)
  obtain ⟨i0, ei0⟩ := is_v ga0
  obtain rfl : w0 = (.int i0) := Option.some.inj ei0
  obtain ⟨i1, ei1⟩ := is_v ga1
  obtain rfl : w1 = (.int i1) := Option.some.inj ei1
  obtain ⟨i2, ei2⟩ := is_v ga2
  obtain rfl : w2 = (.int i2) := Option.some.inj ei2
  obtain ⟨n, o, h1, h2, h3, _, L, rfl, ⟨rfl, N⟩, hq⟩ := rm0 l s _ hw tables_1 i0 i1 i2 s.heap s.heap.size (Nat.le_refl _) p e ha hc hk s m _ below hf ((Spec.applies_iff_loose hf).mp happ).1 ⟨rfl, State.Warmed39.refl s, rfl⟩ trivial
  refine ⟨n, _, h1, h2, h3, hpost _ _ _ _ _ _ ⟨Cond.after_iff.mpr rfl, Cond.after_iff.mpr (eq_i res_at (Term.int_eval (1)) rfl), trivial⟩ ⟨hq.1, hq.2.1, (hq.2.2.sift fun y hy => Or.inr (N y hy)).mono (by decide) (by decide)⟩⟩
theorem main_1_1 : Claimed_1_1 := comes_1 fun _ _ _ _ _ _ h hF => ⟨h.1, hF⟩
theorem main_1_2 : Claimed_1_2 := comes_1 fun _ _ _ _ _ _ h hF => ⟨h.2.1, hF⟩
end Jvm.Pilot.@@N@@
namespace Jvm.Pilot.@@N@@
open Jvm Jvm.ClassFile Sem Op Lib Jvm.Free Jvm.Stand Jvm.Pilot.@@N@@.Jvm.D
/-! MADE BY PROGRAM (witnessworld.py) out of the Statement's table words and the real class files: 9 classes; the members and pool entries that the words name. The judged class is class 1, her method 2. -/
namespace start1
open Jvm.ClassFile
def u (s : String) : CpInfo := .utf8 (stringToUtf16 s)
/-- a pool by its gaps: so many unusable entries, then the entry; so many at the end -/
def gap : Nat → List CpInfo → List CpInfo
  | 0, r => r
  | n + 1, r => .unusable :: gap n r
def poolList (es : List (Nat × CpInfo)) (last : Nat) : List CpInfo := es.foldr (fun e r => gap e.1 (e.2 :: r)) (gap last [])
def pool (es : List (Nat × CpInfo)) (last : Nat) : Array CpInfo := ⟨poolList es last⟩
def fileOf (pool : Array CpInfo) (this : Nat) (attrs : Array Attribute := #[]) (ms : Array MethodInfo := #[]) (fl : Nat := 33) (sup : Nat := 0) (ifs : Array Nat := #[]) (fds : Array FieldInfo := #[]) : ClassFile where
  minorVersion := 0
  majorVersion := 65
  constantPool := pool
  accessFlags := fl
  thisClass := this
  superClass := sup
  interfaces := ifs
  fields := fds
  methods := ms
  attributes := attrs
def plain (name : String) (sup : Option ClassId) : Class where
  name := name
  kind := .ordinary
  loader := none
  accessFlags := 33
  super := sup
  interfaces := #[]
  cf := none
  fields := #[]
  methods := #[]
  instanceTypes := #[]
  staticTypes := #[]
  resolved := #[]
  callSites := []
  init := .initialized
  statics := none
  mirror := none

def pool0 : Array CpInfo := pool [(5, u "<init>"), (0, u "()V"), (1, .class_ 10), (1, u "java/lang/Object")] 113

def k0m0 : Method := { name := "<init>", desc := "()V", sig := { parameters := [], returnType := none }, accessFlags := 1, code := none }
/-- java/lang/Object -/
def k0 : Class := { plain "java/lang/Object" none with
  accessFlags := 33
  interfaces := #[]
  cf := some (fileOf pool0 8 #[] #[{ accessFlags := 1, nameIndex := 5, descriptorIndex := 6, attributes := #[] }] 33 0 #[] #[])
  fields := #[]
  methods := #[k0m0]
  instanceTypes := #[]
  staticTypes := #[]
  resolved := Array.replicate 124 none
  statics := none }

def pool1 : Array CpInfo := pool [(2, .class_ 4), (1, u "java/lang/Object"), (0, u "<init>"), (0, u "()V"), (0, .methodref 8 9), (0, .class_ 10), (0, .nameAndType 11 12), (0, u "com/example/countermark/countermark/cbor/CborReader"), (0, u "contentStart"), (0, u "([BI)I"), (0, .methodref 14 15), (0, .class_ 16), (0, .nameAndType 17 18), (0, u "com/example/countermark/countermark/cbor/CborReaderContentStartPinLaw"), (0, u "expectedHead"), (0, u "(I)I"), (3, u "law"), (0, u "(III)Z")] 4

def k1m0 : Method := { name := "<init>", desc := "()V", sig := { parameters := [], returnType := none }, accessFlags := 2, code := none }
def k1c1 : Code := { maxStack := 2, maxLocals := 1, code := method_2_code, exceptionTable := #[], attributes := #[] }
def k1m1 : Method := { name := "expectedHead", desc := "(I)I", sig := { parameters := [.int], returnType := some .int }, accessFlags := 10, code := some k1c1 }
def k1c2 : Code := { maxStack := 4, maxLocals := 8, code := code, exceptionTable := #[], attributes := #[] }
def k1m2 : Method := { name := "law", desc := "(III)Z", sig := { parameters := [.int, .int, .int], returnType := some .boolean }, accessFlags := 9, code := some k1c2 }
/-- com/example/countermark/countermark/cbor/CborReaderContentStartPinLaw -/
def k1 : Class := { plain "com/example/countermark/countermark/cbor/CborReaderContentStartPinLaw" (some 0) with
  accessFlags := 49
  interfaces := #[]
  cf := some (fileOf pool1 14 #[] #[{ accessFlags := 2, nameIndex := 5, descriptorIndex := 6, attributes := #[] }, { accessFlags := 10, nameIndex := 17, descriptorIndex := 18, attributes := #[] }, { accessFlags := 9, nameIndex := 22, descriptorIndex := 23, attributes := #[] }] 49 2 #[] #[])
  fields := #[]
  methods := #[k1m0, k1m1, k1m2]
  instanceTypes := #[]
  staticTypes := #[]
  resolved := Array.replicate 28 none
  statics := none }

def pool2 : Array CpInfo := pool [(6, .class_ 8), (1, u "java/lang/Object"), (3, .class_ 14), (1, u "com/example/countermark/countermark/cbor/CborReader"), (0, u "input"), (0, u "[B"), (2, u "position"), (0, u "I"), (2, u "end"), (7, u "index"), (0, u "Lcom/example/countermark/countermark/cbor/CborIndex;"), (47, u "(I)I"), (79, .methodref 12 161), (0, .nameAndType 162 80), (0, u "headLength"), (86, u "MAX_NESTING"), (2, u "MAX_ENTRIES"), (0, u "MAX_INPUT_LENGTH"), (1, u "UTF8_CHECK_CHARS"), (8, u "contentStart"), (0, u "([BI)I")] 25

def k2c0 : Code := { maxStack := 4, maxLocals := 1, code := prog_6_method_14_code, exceptionTable := #[], attributes := #[] }
def k2m0 : Method := { name := "headLength", desc := "(I)I", sig := { parameters := [.int], returnType := some .int }, accessFlags := 8, code := some k2c0 }
def k2c1 : Code := { maxStack := 3, maxLocals := 2, code := prog_6_method_16_code, exceptionTable := #[], attributes := #[] }
def k2m1 : Method := { name := "contentStart", desc := "([BI)I", sig := { parameters := [(.array .byte), .int], returnType := some .int }, accessFlags := 8, code := some k2c1 }
/-- com/example/countermark/countermark/cbor/CborReader -/
def k2 : Class := { plain "com/example/countermark/countermark/cbor/CborReader" (some 0) with
  accessFlags := 49
  interfaces := #[]
  cf := some (fileOf pool2 12 #[] #[{ accessFlags := 8, nameIndex := 162, descriptorIndex := 80, attributes := #[] }, { accessFlags := 8, nameIndex := 264, descriptorIndex := 265, attributes := #[] }] 49 6 #[] #[{ accessFlags := 25, nameIndex := 249, descriptorIndex := 20, attributes := #[] }, { accessFlags := 25, nameIndex := 252, descriptorIndex := 20, attributes := #[] }, { accessFlags := 25, nameIndex := 253, descriptorIndex := 20, attributes := #[] }, { accessFlags := 26, nameIndex := 255, descriptorIndex := 20, attributes := #[] }, { accessFlags := 18, nameIndex := 15, descriptorIndex := 16, attributes := #[] }, { accessFlags := 18, nameIndex := 23, descriptorIndex := 20, attributes := #[] }, { accessFlags := 18, nameIndex := 31, descriptorIndex := 32, attributes := #[] }, { accessFlags := 2, nameIndex := 19, descriptorIndex := 20, attributes := #[] }])
  fields := #[{ name := "MAX_NESTING", type := .int, accessFlags := 25, slot := 0, constantValue := 0 }, { name := "MAX_ENTRIES", type := .int, accessFlags := 25, slot := 1, constantValue := 0 }, { name := "MAX_INPUT_LENGTH", type := .int, accessFlags := 25, slot := 2, constantValue := 0 }, { name := "UTF8_CHECK_CHARS", type := .int, accessFlags := 26, slot := 3, constantValue := 0 }, { name := "input", type := (.array .byte), accessFlags := 18, slot := 0, constantValue := 0 }, { name := "end", type := .int, accessFlags := 18, slot := 1, constantValue := 0 }, { name := "index", type := (.object "com/example/countermark/countermark/cbor/CborIndex"), accessFlags := 18, slot := 2, constantValue := 0 }, { name := "position", type := .int, accessFlags := 2, slot := 3, constantValue := 0 }]
  methods := #[k2m0, k2m1]
  instanceTypes := #[(.array .byte), .int, (.object "com/example/countermark/countermark/cbor/CborIndex"), .int]
  staticTypes := #[.int, .int, .int, .int]
  resolved := Array.replicate 291 none
  statics := none }

def pool3 : Array CpInfo := pool [(1, u "java/lang/Cloneable"), (0, .class_ 1), (0, u "java/lang/Object"), (0, .class_ 3)] 3

/-- java/lang/Cloneable -/
def k3 : Class := { plain "java/lang/Cloneable" (some 0) with
  accessFlags := 1537
  interfaces := #[]
  cf := some (fileOf pool3 2 #[] #[] 1537 4 #[] #[])
  fields := #[]
  methods := #[]
  instanceTypes := #[]
  staticTypes := #[]
  resolved := Array.replicate 8 none
  statics := none }

def pool4 : Array CpInfo := pool [(1, u "java/io/Serializable"), (0, .class_ 1), (0, u "java/lang/Object"), (0, .class_ 3)] 3

/-- java/io/Serializable -/
def k4 : Class := { plain "java/io/Serializable" (some 0) with
  accessFlags := 1537
  interfaces := #[]
  cf := some (fileOf pool4 2 #[] #[] 1537 4 #[] #[])
  fields := #[]
  methods := #[]
  instanceTypes := #[]
  staticTypes := #[]
  resolved := Array.replicate 8 none
  statics := none }

/-- the primitive byte -/
def k5 : Class := { plain "byte" none with kind := .primitive 'B', accessFlags := 0x411 }
/-- [B -/
def k6 : Class := { plain "[B" (some 0) with kind := .array 5 .byte, interfaces := #[3, 4], accessFlags := 1041 }

/-- the primitive int -/
def k7 : Class := { plain "int" none with kind := .primitive 'I', accessFlags := 0x411 }
/-- [I -/
def k8 : Class := { plain "[I" (some 0) with kind := .array 7 .int, interfaces := #[3, 4], accessFlags := 1041 }

def heap : Heap := #[]
def classes : Array Class := #[k0, k1, k2, k3, k4, k5, k6, k7, k8]
def interned : List (Array UInt16 × Addr) := []
def slotsUsed : Nat := 0
def theMethod : MethodId := ⟨1, 2⟩
def args0 : Array Value := #[.int 5, .int 61, .int 3]
def aboutOver (below : List Frame) : State where
  vm := { classes := classes, interned := interned.toArray }
  heap := heap
  slotsUsed := slotsUsed
  threads := #[{ frames := .invoking theMethod args0 :: below }]
def below0 : List Frame := [.native { method := ⟨0, 0⟩, args := #[] }]
def about1 : State := aboutOver below0
def p0 : Program := .bare "" "" ""
def e0 : Env := launch0.env 0 0 0
theorem w_frames : about1.frames = Frame.invoking theMethod args0 :: below0 := rfl
set_option maxRecDepth 65536 in
theorem w_args : argsFit about1.vm theMethod args0 = true := by decide +kernel
set_option maxRecDepth 65536 in
theorem w_heap : heapFits about1 = true := by decide +kernel
set_option maxRecDepth 65536 in
theorem w_runnable : about1.curStatus? = some .runnable := by decide +kernel
set_option maxRecDepth 65536 in
theorem w_alone : about1.alone = true := by decide +kernel
set_option maxRecDepth 65536 in
theorem w_named : about1.methodNamed? x = some theMethod := by decide +kernel
set_option maxRecDepth 65536 in
theorem w_hears : about1.hears theMethod below0 = true := by decide +kernel
set_option maxRecDepth 65536 in
theorem w_ripe : about1.ripe theMethod args0 below0 = true := by decide +kernel
theorem w_running : about1.status = .running := rfl
set_option maxRecDepth 65536 in
theorem w_room : about1.hasRoom e0.platform room_1 = true :=
  launch0.hasRoom_least _ room_1 (by decide +kernel) (by decide +kernel) (by decide +kernel) (by decide +kernel) (by decide +kernel) (by decide +kernel)
theorem allAtoms_all (ts : List Jvm.Cond) (a : Array Jvm.Value) (st : Jvm.State) : (allAtoms ts).before a st = ts.all (fun c => c.before a st) := by
  induction ts with
  | nil => rfl
  | cons c t ih =>
    show (Jvm.Cond.and c (allAtoms t)).before a st = _
    rw [Jvm.Cond.before_and, ih, List.all_cons]
def words1 : List Jvm.Cond := Jvm.Cond.code x code maxLocals ret :: tables_1
/-- a 'code' word, met by the world's own term for the bytes: nothing is compared byte by byte -/
theorem code_word {y : MethodName} {bytes : ByteArray} {mx : Nat} {rt : Option FieldType} {a : Array Value} {s : State} {m : MethodId} {meth : Method} {c : Code} (h1 : s.methodNamed? y = some m) (h2 : s.vm.method? m = some meth) (h3 : meth.code = some c) (h4 : c.code = bytes)
    (h5 : (c.maxLocals == mx && c.exceptionTable.isEmpty && decide (c.maxStack ≤ mostOperands) && decide (meth.sig.returnType = rt) && !meth.locks && decide (parseMethodDescriptor y.desc = some meth.sig)) = true) : (Jvm.Cond.code y bytes mx rt).before a s = true := by
  simp only [Bool.and_eq_true, beq_iff_eq, Bool.not_eq_true', decide_eq_true_eq] at h5
  obtain ⟨⟨⟨⟨⟨g1, g2⟩, g3⟩, g4⟩, g5⟩, g6⟩ := h5
  simp [Cond.before, Cond.holds, Cond.value, h1, h2, h3, h4, g1, g2, g3, g4, g5, g6]
def isCode : Jvm.Cond → Bool
  | .code _ _ _ _ => true
  | _ => false
theorem all_split {L : List Jvm.Cond} {P : Jvm.Cond → Bool} (h1 : L.all (fun c => isCode c || P c) = true) (h2 : ∀ c ∈ L.filter isCode, P c = true) : L.all P = true := by
  refine List.all_eq_true.mpr fun c hc => ?_
  have h := List.all_eq_true.mp h1 c hc
  rcases Bool.eq_false_or_eq_true (isCode c) with hi | hi
  · exact h2 c (List.mem_filter.mpr ⟨hc, hi⟩)
  · simpa [hi] using h
set_option maxRecDepth 65536 in
theorem w_c0 : (Jvm.Cond.code x code maxLocals ret).before args0 about1 = true := code_word (m := ⟨1, 2⟩) (meth := k1m2) (c := k1c2) (by decide +kernel) rfl rfl rfl (by decide +kernel)
set_option maxRecDepth 65536 in
theorem w_c1 : (Jvm.Cond.code ({ cls := "com/example/countermark/countermark/cbor/CborReader", name := "contentStart", desc := "([BI)I" } : Jvm.MethodName) prog_6_method_16_code (2 : Nat) (Option.some Jvm.ClassFile.FieldType.int)).before args0 about1 = true := code_word (m := ⟨2, 1⟩) (meth := k2m1) (c := k2c1) (by decide +kernel) rfl rfl rfl (by decide +kernel)
set_option maxRecDepth 65536 in
theorem w_c2 : (Jvm.Cond.code ({ cls := "com/example/countermark/countermark/cbor/CborReader", name := "headLength", desc := "(I)I" } : Jvm.MethodName) prog_6_method_14_code (1 : Nat) (Option.some Jvm.ClassFile.FieldType.int)).before args0 about1 = true := code_word (m := ⟨2, 0⟩) (meth := k2m0) (c := k2c0) (by decide +kernel) rfl rfl rfl (by decide +kernel)
set_option maxRecDepth 65536 in
theorem w_c3 : (Jvm.Cond.code ({ cls := "com/example/countermark/countermark/cbor/CborReaderContentStartPinLaw", name := "expectedHead", desc := "(I)I" } : Jvm.MethodName) method_2_code (1 : Nat) (Option.some Jvm.ClassFile.FieldType.int)).before args0 about1 = true := code_word (m := ⟨1, 1⟩) (meth := k1m1) (c := k1c1) (by decide +kernel) rfl rfl rfl (by decide +kernel)
def codes1 : List Jvm.Cond := [Jvm.Cond.code x code maxLocals ret, Jvm.Cond.code ({ cls := "com/example/countermark/countermark/cbor/CborReader", name := "contentStart", desc := "([BI)I" } : Jvm.MethodName) prog_6_method_16_code (2 : Nat) (Option.some Jvm.ClassFile.FieldType.int), Jvm.Cond.code ({ cls := "com/example/countermark/countermark/cbor/CborReader", name := "headLength", desc := "(I)I" } : Jvm.MethodName) prog_6_method_14_code (1 : Nat) (Option.some Jvm.ClassFile.FieldType.int), Jvm.Cond.code ({ cls := "com/example/countermark/countermark/cbor/CborReaderContentStartPinLaw", name := "expectedHead", desc := "(I)I" } : Jvm.MethodName) method_2_code (1 : Nat) (Option.some Jvm.ClassFile.FieldType.int)]
set_option maxRecDepth 65536 in
theorem codes_eq : words1.filter isCode = codes1 := rfl
theorem w_codes : ∀ c ∈ words1.filter isCode, c.before args0 about1 = true := by
  rw [codes_eq]
  intro c hc
  simp only [codes1, List.mem_cons, List.not_mem_nil, or_false] at hc
  rcases hc with rfl | rfl | rfl | rfl
  · exact w_c0
  · exact w_c1
  · exact w_c2
  · exact w_c3
set_option maxRecDepth 65536 in
theorem w_t1 : words1.all (fun c => isCode c || c.before args0 about1) = true := by decide +kernel
theorem w_tables : (allAtoms (Jvm.Cond.code x code maxLocals ret :: tables_1)).before args0 about1 = true := by
  rw [allAtoms_all]
  show words1.all (fun c => c.before args0 about1) = true
  refine all_split ?_ w_codes
  rw [w_t1]
set_option maxRecDepth 65536 in
theorem w_case : (Jvm.Cond.and given_1 narrow_1).before args0 about1 = true := by decide +kernel
theorem w_applies : (headSpec (Jvm.Cond.code x code maxLocals ret :: tables_1) room_1).applies x e0.platform about1 = true :=
  (Spec.applies_iff w_frames).mpr ⟨w_running, w_runnable, w_alone, w_named, w_hears, w_ripe, w_room, w_tables⟩
theorem atStart : AtStart classFile x code maxLocals ret World_1 tables_1 room_1 Calls_1 rest_1 Pre_1 launch0 p0 e0 about1 theMethod args0 below0 :=
  ⟨lists_1, trivial, launch0.admits_env _ _ _, launch0.least_env, fairChoices_fair.cas, fairChoices_fair.clock, w_frames, w_args, w_heap, w_applies, trivial, trivial, w_case⟩
end start1
theorem witness_1 : WitnessClaimed_1 := ⟨start1.p0, start1.e0, start1.about1, start1.theMethod, start1.args0, start1.below0, start1.atStart⟩
end Jvm.Pilot.@@N@@
