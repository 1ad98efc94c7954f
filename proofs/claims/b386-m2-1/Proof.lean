import JvmDerived
import JvmDerived.Pilot.@@N@@Statement
import JvmDerived.Pilot.@@N@@Code
set_option linter.unusedVariables false
set_option linter.unusedSimpArgs false
namespace Jvm.RoadKit
open Sem ClassFile Op Lib Jvm.Stand Jvm.Free Jvm.LawKit
section New
variable {p : Program} {l : Launch} {e : Env} {R : Room} {s : State} {m : MethodId} {args : Array Value} {below : List Frame} {meth : Method} {c : Code} {T : State} {locs : List Loc} {cells slots : Nat}
theorem retI (X : Stand p l e R s m args below meth c T locs cells slots) (hx : p.tables.exec = Jvm.exec) {pc : Nat} {Ls : Array Slot} {z : Int32} {rest : List Value} (hret : meth.sig.returnType = some .int) (hd : decode c.code pc = .ok (.ireturn, 1)) {fs : List Frame}
    (hl : ∀ (f : JFrame) (acts : List Action), f.method = m → f.locked = none → f.entered = [] → (doReturn e (T.setTop f) acts (some (.int z))).1 = T.setFrames fs) : Steps p.tables e below (T.setTop (mkF m pc Ls (.int z :: rest))) (T.setFrames fs) := by
  have hm' : T.vm.method? m = some meth := X.method'
  have hn : narrow .int (.int z) = .int z := rfl
  show Steps p.tables e below (T.setTop { method := m, pc := pc, locals := Ls, stack := _ :: rest, locked := none }) _
  jvm_step X.here [X.here.top, hx, hd, hm', hret, hn]
  first | (intro acts; rw [hl _ acts rfl rfl rfl]) | rw [hl _ _ rfl rfl rfl]
  exact Steps.refl _
theorem retJ (X : Stand p l e R s m args below meth c T locs cells slots) (hx : p.tables.exec = Jvm.exec) {pc : Nat} {Ls : Array Slot} {z : Int64} {rest : List Value} (hret : meth.sig.returnType = some .long) (hd : decode c.code pc = .ok (.lreturn, 1)) {fs : List Frame}
    (hl : ∀ (f : JFrame) (acts : List Action), f.method = m → f.locked = none → f.entered = [] → (doReturn e (T.setTop f) acts (some (.long z))).1 = T.setFrames fs) : Steps p.tables e below (T.setTop (mkF m pc Ls (.long z :: rest))) (T.setFrames fs) :=
  retOut X hx hret rfl (Or.inr (Or.inl ⟨rfl, rfl, z, rfl⟩)) hd hl
theorem retA (X : Stand p l e R s m args below meth c T locs cells slots) (hx : p.tables.exec = Jvm.exec) {pc : Nat} {Ls : Array Slot} {a : Addr} {t : FieldType} {rest : List Value} (hret : meth.sig.returnType = some t) (ht : t.isReference = true) (hd : decode c.code pc = .ok (.areturn, 1)) {fs : List Frame}
    (hl : ∀ (f : JFrame) (acts : List Action), f.method = m → f.locked = none → f.entered = [] → (doReturn e (T.setTop f) acts (some (.ref a))).1 = T.setFrames fs) : Steps p.tables e below (T.setTop (mkF m pc Ls (.ref a :: rest))) (T.setFrames fs) :=
  retOut X hx hret (by cases t <;> first | rfl | (simp [FieldType.isReference] at ht)) (Or.inr (Or.inr (Or.inr (Or.inr ⟨rfl, ht, rfl⟩)))) hd hl
end New
end Jvm.RoadKit
namespace Jvm.Pilot.@@N@@
open Jvm Jvm.ClassFile Sem Op Lib Jvm.Free Jvm.Stand Jvm.LawKit Jvm.RoadKit Bundle Jvm.Pilot.@@N@@.Jvm.D
section OwnKit
variable {p : Program} {l : Launch} {e : Env} {R : Room} {s : State} {m : MethodId} {args : Array Value} {below : List Frame} {meth : Method} {c : Code} {T : State} {locs : List Loc} {cells slots : Nat} {Z : State} {h h' : Heap}
/-- one body's contract, with the walk's goal as a closed predicate K: 'go' takes a step, 'fin' leaves the method -/
theorem own_body {y : MethodName} {bytes : ByteArray} {maxL : Nat} {ret : Option FieldType} {ws : List Jvm.Cond} {rm : Room} {h0 : Heap} {Q : Option Value → Heap → List Loc → Prop} (hp : plainFor y = true)
    (body : ∀ (p : Program) (e : Env) (s : State) (m : MethodId) (below : List Frame) (meth : Method) (c : Code) (s₁ : State) (K : State → Prop),
      (∀ U U', (∀ t, Steps p.tables e below U' t → Steps p.tables e below U t) → K U' → K U) →
      (∀ {T : State} {locs : List Loc} {cells slots : Nat} {g : JFrame} (v : Option Value), Stand p l e rm s m args below meth c T locs cells slots → cells ≤ rm.cells → slots ≤ rm.slots → (ret = none → v = none) → Q v T.heap locs →
        (∀ fs, (∀ (f : JFrame) (acts : List Action), f.method = m → f.locked = none → f.entered = [] → (doReturn e (T.setTop f) acts v).1 = T.setFrames fs) → Steps p.tables e below (T.setTop g) (T.setFrames fs)) → K (T.setTop g)) →
      Stand p l e rm s m args below meth c s₁ [] 0 0 → p.tables.exec = Jvm.exec → c.code = bytes → c.maxLocals = maxL → s.vm.findClass y.cls = some m.cls → meth.name = y.name → meth.sig.returnType = ret → Z.Warmed39 s.vm → s₁.heap = h0 → K (s₁.setTop (entryFrame m args maxL))) :
    MetFree l y (head1 (Jvm.Cond.code y bytes maxL ret :: ws) rm) (fun a U => a = args ∧ Z.Warmed39 U.vm ∧ U.heap = h0) (fun _ _ _ _ _ => True) (fun _ U o U' => ∃ v L, o = .returned v ∧ Q v U'.heap L ∧ FrameEnd U o U' L rm.cells rm.slots) := by
  refine MetFree.of_bodySF hp hisR ?_
  intro p e s m args' below meth c s₁ Bd hml hP hK
  obtain ⟨rfl, hZ, hh⟩ := hP
  refine body p e s m below meth c s₁ (fun U => ∃ s₂ o, Steps p.tables e below U s₂ ∧ s₂.status = .running ∧ Ended s₂ below o ∧ ∃ v L, o = .returned v ∧ Q v s₂.heap L ∧ FrameEnd s o s₂ L rm.cells rm.slots) ?_ ?_ (Stand.of_body Bd) Bd.exec Bd.bytes hml (findClass_of_methodNamed Bd.named) (name_of_methodNamed Bd.named Bd.method).1 Bd.returns hZ (by rw [← hh, Bd.state]; rfl)
  · rintro U U' st ⟨s₂, o, h1, h2⟩
    exact ⟨s₂, o, st _ h1, h2⟩
  · intro T locs cells slots g v X hc hs hv hQ hst
    obtain ⟨fs, hr, hrun, hended, hW, hsame⟩ := X.leave (v := v) (fun q => hv (Bd.returns ▸ q))
    exact ⟨_, _, hst fs hr, hrun, hended, v, locs, rfl, hQ, ⟨_, rfl⟩, hW, hsame.mono hc hs⟩
/-! Java's shifts and the narrowing to a byte -/
def jushr (x y : Int32) : Int32 := (x.toUInt32 >>> (y &&& 31).toUInt32).toInt32
def jshl (x y : Int32) : Int32 := x <<< (y &&& 31)
def jshr (x y : Int32) : Int32 := x >>> (y &&& 31)
def jushrL (x : Int64) (y : Int32) : Int64 := (x.toUInt64 >>> (y &&& 0x3f).toInt64.toUInt64).toInt64
def jshlL (x : Int64) (y : Int32) : Int64 := x <<< (y &&& 0x3f).toInt64
def jshrL (x : Int64) (y : Int32) : Int64 := x >>> (y &&& 0x3f).toInt64
def jb (x : Int32) : Int32 := x.toInt8.toInt32
theorem own_lrem {g : JFrame} {target : State} (X : Stand p l e R s m args below meth c T locs cells slots) (hx : p.tables.exec = Jvm.exec) (hg : g.method = m) {x y : Int64} {rest : List Value} (hd : decode c.code g.pc = .ok (.lrem, 1)) (hs : g.stack = .long y :: .long x :: rest) (hy : y ≠ 0)
    (hr : Steps p.tables e below (T.setTop { g with pc := g.pc + 1, stack := .long (x % y) :: rest }) target) : Steps p.tables e below (T.setTop g) target :=
  XS.lrem X.here hx hg hd hs hy (by rw [lrem_mod]; exact hr)
theorem own_narb (x : Int32) : nar .byte (jb x) = jb x := by simp [nar, jb]
/-! an array by its length and what its places hold -/
def own_upd (f : Nat → Value) (i : Nat) (v : Value) : Nat → Value := fun j => if j = i then v else f j
theorem own_hit (f : Nat → Value) (i : Nat) (v : Value) : own_upd f i v i = v := if_pos rfl
theorem own_miss {f : Nat → Value} {i j : Nat} {v : Value} (q : j ≠ i) : own_upd f i v j = f j := if_neg q
def AF (Z : State) (h : Heap) (a : Addr) (ty : FieldType) (n : Nat) (f : Nat → Value) : Prop := n < 2 ^ 31 ∧ ∃ c : Cell, Arr Z h a c ty ∧ c.slots.size = n ∧ ∀ j, j < n → c.slots[j]? = some (f j)
theorem AF.lt {a : Addr} {ty : FieldType} {n : Nat} {f : Nat → Value} (A : AF Z h a ty n f) : a < h.size := by obtain ⟨-, c, A, -⟩ := A; exact A.lt
theorem AF.ext {a : Addr} {ty : FieldType} {n : Nat} {f : Nat → Value} (A : AF Z h a ty n f) (E : Ext h h') : AF Z h' a ty n f := by obtain ⟨q, c, A, r⟩ := A; exact ⟨q, c, A.ext E, r⟩
theorem AF.other {a b : Addr} {sl : Nat} {v : Value} {ty : FieldType} {n : Nat} {f : Nat → Value} (A : AF Z h b ty n f) (W : Wr h h' a sl v) (q : b ≠ a) : AF Z h' b ty n f := by obtain ⟨q1, c, A, r⟩ := A; exact ⟨q1, c, A.other W q, r⟩
theorem AF.keep {a : Addr} {ws : List Addr} {ty : FieldType} {n : Nat} {f : Nat → Value} (A : AF Z h a ty n f) (K : Keep h h' ws) (q : a ∉ ws) : AF Z h' a ty n f := by obtain ⟨q1, c, A, r⟩ := A; exact ⟨q1, c, ⟨K.2.1 a c A.1 q, A.2⟩, r⟩
theorem AF.congr {a : Addr} {ty : FieldType} {n : Nat} {f f' : Nat → Value} (A : AF Z h a ty n f) (q : ∀ j, j < n → f j = f' j) : AF Z h a ty n f' := by obtain ⟨q1, c, A, S, r⟩ := A; exact ⟨q1, c, A, S, fun j hj => by rw [← q j hj]; exact r j hj⟩
theorem AF.len {a : Addr} {ty : FieldType} {n : Nat} {f : Nat → Value} (A : AF Z h a ty n f) : n < 2 ^ 31 := A.1
theorem own_idx {j : Int32} {i : Nat} (hj : j.toInt = (i : Int)) : j.toNatClampNeg = i := by simp only [Int32.toNatClampNeg, hj]; omega
theorem own_in {j : Int32} {i n : Nat} {c : Cell} (S : c.slots.size = n) (hj : j.toInt = (i : Int)) (hi : i < n) : ¬ (j < 0 ∨ c.slots.size ≤ j.toNatClampNeg) := by
  rw [own_idx hj, S, Int32.lt_iff_toInt_lt, hj]
  simp only [Int32.toInt_zero]
  omega
theorem own_set {a : Addr} {ty : FieldType} {n i : Nat} {f : Nat → Value} {cl : Cell} {v : Value} (q1 : n < 2 ^ 31) (A : Arr Z h a cl ty) (S : cl.slots.size = n) (H : ∀ j, j < n → cl.slots[j]? = some (f j)) (W : Wr h h' a i v) (hi : i < n) : AF Z h' a ty n (own_upd f i v) := by
  refine ⟨q1, _, A.same W, by rw [sz_set]; exact S, fun j hj => ?_⟩
  simp only [Cell.setSlot, own_upd]
  by_cases q : j = i
  · subst q; rw [if_pos rfl]; simp [S, hj]
  · rw [if_neg q, Array.getElem?_setIfInBounds_ne (fun z => q z.symm)]; exact H j hj
theorem own_stI (X : Stand p l e R s m args below meth c T locs cells slots) (hx : p.tables.exec = Jvm.exec) (hZ : Z.Warmed39 s.vm) (eT : T.heap = h) {a : Addr} {n i : Nat} {f : Nat → Value} (A : AF Z h a .int n f) {j x : Int32} (hj : j.toInt = (i : Int)) (hi : i < n) {g : JFrame} (hg : g.method = m) {rest : List Value} (hs : g.stack = .int x :: .int j :: .ref a :: rest) (hd : decode c.code g.pc = .ok (.iastore, 1)) :
    ∃ T' h', Stand p l e R s m args below meth c T' (locs ++ [⟨a, i⟩]) cells slots ∧ T'.heap = h' ∧ Wr h h' a i (.int x) ∧ AF Z h' a .int n (own_upd f i (.int x)) ∧ ∀ target, Steps p.tables e below (T'.setTop { g with pc := g.pc + 1, stack := rest }) target → Steps p.tables e below (T.setTop g) target := by
  obtain ⟨q1, cl, Ar, S, H⟩ := A
  obtain ⟨T', h', X', e', W, st⟩ := stI X hx hZ eT Ar (j := j) (own_in S hj hi) hg hs hd
  rw [own_idx hj] at X' W
  exact ⟨T', h', X', e', W, own_set q1 Ar S H W hi, st⟩
theorem own_stJ (X : Stand p l e R s m args below meth c T locs cells slots) (hx : p.tables.exec = Jvm.exec) (hZ : Z.Warmed39 s.vm) (eT : T.heap = h) {a : Addr} {n i : Nat} {f : Nat → Value} (A : AF Z h a .long n f) {j : Int32} {x : Int64} (hj : j.toInt = (i : Int)) (hi : i < n) {g : JFrame} (hg : g.method = m) {rest : List Value} (hs : g.stack = .long x :: .int j :: .ref a :: rest) (hd : decode c.code g.pc = .ok (.lastore, 1)) :
    ∃ T' h', Stand p l e R s m args below meth c T' (locs ++ [⟨a, i⟩]) cells slots ∧ T'.heap = h' ∧ Wr h h' a i (.long x) ∧ AF Z h' a .long n (own_upd f i (.long x)) ∧ ∀ target, Steps p.tables e below (T'.setTop { g with pc := g.pc + 1, stack := rest }) target → Steps p.tables e below (T.setTop g) target := by
  obtain ⟨q1, cl, Ar, S, H⟩ := A
  obtain ⟨T', h', X', e', W, st⟩ := stJ X hx hZ eT Ar (j := j) (own_in S hj hi) hg hs hd
  rw [own_idx hj] at X' W
  exact ⟨T', h', X', e', W, own_set q1 Ar S H W hi, st⟩
theorem own_stB (X : Stand p l e R s m args below meth c T locs cells slots) (hx : p.tables.exec = Jvm.exec) (hZ : Z.Warmed39 s.vm) (eT : T.heap = h) {a : Addr} {n i : Nat} {f : Nat → Value} (A : AF Z h a .byte n f) {j x : Int32} (hj : j.toInt = (i : Int)) (hi : i < n) (hn : nar .byte x = x) {g : JFrame} (hg : g.method = m) {rest : List Value} (hs : g.stack = .int x :: .int j :: .ref a :: rest) (hd : decode c.code g.pc = .ok (.bastore, 1)) :
    ∃ T' h', Stand p l e R s m args below meth c T' (locs ++ [⟨a, i⟩]) cells slots ∧ T'.heap = h' ∧ Wr h h' a i (.int x) ∧ AF Z h' a .byte n (own_upd f i (.int x)) ∧ ∀ target, Steps p.tables e below (T'.setTop { g with pc := g.pc + 1, stack := rest }) target → Steps p.tables e below (T.setTop g) target := by
  obtain ⟨q1, cl, Ar, S, H⟩ := A
  obtain ⟨T', h', X', e', W, st⟩ := stB X hx hZ eT Ar (j := j) (own_in S hj hi) hg hs hd
  rw [own_idx hj] at X' W
  rw [hn] at W
  exact ⟨T', h', X', e', W, own_set q1 Ar S H W hi, st⟩
theorem own_new (X : Stand p l e R s m args below meth c T locs cells slots) (hx : p.tables.exec = Jvm.exec) (hZ : Z.Warmed39 s.vm) {a0 : Array Value} {aty : ArrayType} (w : (Cond.arrayClass (newarray.typeOf aty)).before a0 Z = true) (eT : T.heap = h) {g : JFrame} (hg : g.method = m) (hd : decode c.code g.pc = .ok (.newarray aty, 2)) {n : Int32} {rest : List Value} (hs : g.stack = .int n :: rest)
    {k : Nat} (hn : n.toInt = (k : Int)) (cap : Nat) (hcap : k ≤ cap) (hb : cap * 8 ≤ 536870912) (hc : cells + 1 ≤ R.cells) (hl : slots + cap ≤ R.slots) :
    ∃ T' h' a, Stand p l e R s m args below meth c T' locs (cells + 1) (slots + cap) ∧ T'.heap = h' ∧ Ext h h' ∧ a = h.size ∧ AF Z h' a (newarray.typeOf aty) k (fun _ => defaultValue (newarray.typeOf aty)) ∧
      ∀ target, Steps p.tables e below (T'.setTop { g with pc := g.pc + 2, stack := .ref a :: rest }) target → Steps p.tables e below (T.setTop g) target := by
  have hn0 : ¬ n < 0 := by rw [Int32.lt_iff_toInt_lt, hn]; simp only [Int32.toInt_zero]; omega
  have hk : n.toNatClampNeg = k := own_idx hn
  have hk31 : k < 2 ^ 31 := by have := n.toInt_lt; omega
  obtain ⟨T', h', cA, X', e', E, A, st⟩ := newP X hx hZ w eT hg hd hs hn0 (by rw [hk]; exact hcap) hb hc hl
  refine ⟨T', h', h.size, X', e', E, rfl, ⟨hk31, _, A, by rw [sz_new, hk], fun j hj => ?_⟩, st⟩
  simp [newA, hk, hj]
theorem own_ldI (X : Stand p l e R s m args below meth c T locs cells slots) (hx : p.tables.exec = Jvm.exec) (hZ : Z.Warmed39 s.vm) (eT : T.heap = h) {a : Addr} {n i : Nat} {f : Nat → Value} (A : AF Z h a .int n f) {j : Int32} (hj : j.toInt = (i : Int)) (hi : i < n) {g : JFrame} (hg : g.method = m) {rest : List Value} (hs : g.stack = .int j :: .ref a :: rest) (hd : decode c.code g.pc = .ok (.iaload, 1)) {v : Value} (hv : f i = v) (target : State)
    (hr : Steps p.tables e below (T.setTop { g with pc := g.pc + 1, stack := v :: rest }) target) : Steps p.tables e below (T.setTop g) target := by
  obtain ⟨-, cl, Ar, S, H⟩ := A
  exact X.iaload hx (j := j) (v := v) (by rw [eT]; exact Ar.1) (State.isArrayOf_alike hZ.alike Ar.2.1) Ar.2.2 (own_in S hj hi) (by rw [own_idx hj, ← hv]; exact H i hi) hg hs hd target hr
theorem own_ldJ (X : Stand p l e R s m args below meth c T locs cells slots) (hx : p.tables.exec = Jvm.exec) (hZ : Z.Warmed39 s.vm) (eT : T.heap = h) {a : Addr} {n i : Nat} {f : Nat → Value} (A : AF Z h a .long n f) {j : Int32} (hj : j.toInt = (i : Int)) (hi : i < n) {g : JFrame} (hg : g.method = m) {rest : List Value} (hs : g.stack = .int j :: .ref a :: rest) (hd : decode c.code g.pc = .ok (.laload, 1)) {v : Value} (hv : f i = v) (target : State)
    (hr : Steps p.tables e below (T.setTop { g with pc := g.pc + 1, stack := v :: rest }) target) : Steps p.tables e below (T.setTop g) target := by
  obtain ⟨-, cl, Ar, S, H⟩ := A
  exact X.laload hx (j := j) (v := v) (by rw [eT]; exact Ar.1) (State.isArrayOf_alike hZ.alike Ar.2.1) Ar.2.2 (own_in S hj hi) (by rw [own_idx hj, ← hv]; exact H i hi) hg hs hd target hr
theorem own_ldB (X : Stand p l e R s m args below meth c T locs cells slots) (hx : p.tables.exec = Jvm.exec) (hZ : Z.Warmed39 s.vm) (eT : T.heap = h) {a : Addr} {n i : Nat} {f : Nat → Value} (A : AF Z h a .byte n f) {j : Int32} (hj : j.toInt = (i : Int)) (hi : i < n) {g : JFrame} (hg : g.method = m) {rest : List Value} (hs : g.stack = .int j :: .ref a :: rest) (hd : decode c.code g.pc = .ok (.baload, 1)) {v : Value} (hv : f i = v) (target : State)
    (hr : Steps p.tables e below (T.setTop { g with pc := g.pc + 1, stack := v :: rest }) target) : Steps p.tables e below (T.setTop g) target := by
  obtain ⟨-, cl, Ar, S, H⟩ := A
  exact X.baloadBytes hx (j := j) (v := v) (by rw [eT]; exact Ar.1) (State.isArrayOf_alike hZ.alike Ar.2.1) Ar.2.2 (own_in S hj hi) (by rw [own_idx hj, ← hv]; exact H i hi) hg hs hd target hr
theorem own_len (X : Stand p l e R s m args below meth c T locs cells slots) (hx : p.tables.exec = Jvm.exec) (hZ : Z.Warmed39 s.vm) (eT : T.heap = h) {a : Addr} {ty : FieldType} {n : Nat} {f : Nat → Value} (A : AF Z h a ty n f) {g : JFrame} (hg : g.method = m) {rest : List Value} (hs : g.stack = .ref a :: rest) (hd : decode c.code g.pc = .ok (.arraylength, 1)) (target : State)
    (hr : Steps p.tables e below (T.setTop { g with pc := g.pc + 1, stack := .int (Int32.ofNat n) :: rest }) target) : Steps p.tables e below (T.setTop g) target := by
  obtain ⟨-, cl, Ar, S, H⟩ := A
  refine X.arraylength hx (by rw [eT]; exact Ar.1) (State.isArrayOf_alike hZ.alike Ar.2.1) hg hs hd target ?_
  rw [S]; exact hr
end OwnKit
theorem pd_1 : parseMethodDescriptor "(I)I" = some ⟨[.int], some .int⟩ := by decide +kernel
theorem pd_2 : parseMethodDescriptor "([BI)J" = some ⟨[(.array .byte), .int], some .long⟩ := by decide +kernel
theorem d2_0 : decode prog_6_method_14_code 0 = .ok (.iload_n 0, 1) := by decide +kernel
theorem d2_1 : decode prog_6_method_14_code 1 = .ok (.bipush 24, 2) := by decide +kernel
theorem d2_3 : decode prog_6_method_14_code 3 = .ok (.if_icmp .lt 9, 3) := by decide +kernel
theorem d2_6 : decode prog_6_method_14_code 6 = .ok (.iload_n 0, 1) := by decide +kernel
theorem d2_7 : decode prog_6_method_14_code 7 = .ok (.bipush 31, 2) := by decide +kernel
theorem d2_9 : decode prog_6_method_14_code 9 = .ok (.if_icmp .ne 5, 3) := by decide +kernel
theorem d2_12 : decode prog_6_method_14_code 12 = .ok (.iconst 1, 1) := by decide +kernel
theorem d2_13 : decode prog_6_method_14_code 13 = .ok (.ireturn, 1) := by decide +kernel
theorem d2_14 : decode prog_6_method_14_code 14 = .ok (.iconst 1, 1) := by decide +kernel
theorem d2_15 : decode prog_6_method_14_code 15 = .ok (.iconst 1, 1) := by decide +kernel
theorem d2_16 : decode prog_6_method_14_code 16 = .ok (.iload_n 0, 1) := by decide +kernel
theorem d2_17 : decode prog_6_method_14_code 17 = .ok (.bipush 24, 2) := by decide +kernel
theorem d2_19 : decode prog_6_method_14_code 19 = .ok (.isub, 1) := by decide +kernel
theorem d2_20 : decode prog_6_method_14_code 20 = .ok (.ishl, 1) := by decide +kernel
theorem d2_21 : decode prog_6_method_14_code 21 = .ok (.iadd, 1) := by decide +kernel
theorem d2_22 : decode prog_6_method_14_code 22 = .ok (.ireturn, 1) := by decide +kernel
theorem pn_4 : plainName "com/example/countermark/countermark/cbor/CborReader" = true := by first | (simp [plainName, overriddenIn]; done) | decide +kernel
theorem ef_rm2 (m : MethodId) (p1 : Int32) : entryFrame m #[(.int p1)] 1 = mkF m 0 #[.val (.int p1)] [] := by first | (simp [entryFrame, mkF, argsToLocals, Value.category]; done) | rfl
def f_rm2 (p1 : Int32) : Int32 := (if p1 < (24 : Int32) then (1 : Int32) else (if p1 = (31 : Int32) then (1 : Int32) else ((1 : Int32) + (jshl (1 : Int32) (p1 - (24 : Int32))))))
def Q_rm2 (Z : State) (p1 : Int32) (h0 : Heap) (n0 : Nat) (v : Option Value) (h : Heap) (L : List Loc) : Prop := v = some (.int (f_rm2 p1)) ∧ Fr n0 L ∧ h = h0
set_option maxRecDepth 65536 in
set_option maxHeartbeats 40000000 in
theorem rm2 (l : Launch) (Z : State) (a0 : Array Value) (hw : ∀ d ∈ tables_1, d.before a0 Z = true) (ws : List Jvm.Cond) (p1 : Int32) (h0 : Heap) (n0 : Nat) (Z0 : n0 ≤ h0.size)  :
    MetFree l (⟨"com/example/countermark/countermark/cbor/CborReader", "headLength", "(I)I"⟩ : MethodName) (head1 (Jvm.Cond.code (⟨"com/example/countermark/countermark/cbor/CborReader", "headLength", "(I)I"⟩ : MethodName) prog_6_method_14_code 1 (some .int) :: ws) ({ frames := 0, cells := 0, slots := 0, locals := 0 } : Room)) (fun a U => a = #[(.int p1)] ∧ Z.Warmed39 U.vm ∧ U.heap = h0) (fun _ _ _ _ _ => True) (fun _ U o U' => ∃ v L, o = .returned v ∧ Q_rm2 Z p1 h0 n0 v U'.heap L ∧ FrameEnd U o U' L ({ frames := 0, cells := 0, slots := 0, locals := 0 } : Room).cells ({ frames := 0, cells := 0, slots := 0, locals := 0 } : Room).slots) := by
  refine own_body (Q := Q_rm2 Z p1 h0 n0) (plainFor_of_name pn_4) ?_
  intro p e s m below meth c s₁ K go fin X0 hx hby hml hown hnm hret hZ e0
  have hown : s.vm.findClass "com/example/countermark/countermark/cbor/CborReader" = some m.cls := hown
  have N0 := Fr.nil n0
  refine go _ (s₁.setTop (mkF m 0 #[.val (.int p1)] [])) (fun t k => castTop (ef_rm2 m p1) k) ?_
  refine go _ (s₁.setTop (mkF m 1 #[.val (.int p1)] [(.int p1)])) (fun t k => XS.iloadN X0.here hx rfl (hb hby d2_0) rfl k) ?_
  refine go _ (s₁.setTop (mkF m 3 #[.val (.int p1)] [(.int (24 : Int32)), (.int p1)])) (fun t k => XS.bipush X0.here hx rfl (hb hby d2_1) k) ?_
  by_cases hc1 : p1 < (24 : Int32)
  · refine go _ (s₁.setTop (mkF m 12 #[.val (.int p1)] [])) (fun t k => XS.icmpYes X0.here hx rfl (pc0 := 3) (pc' := 12) rfl (hb hby d2_3) rfl (tlt hc1).1 (by decide) (by decide) k) ?_
    refine go _ (s₁.setTop (mkF m 13 #[.val (.int p1)] [(.int (1 : Int32))])) (fun t k => XS.iconst X0.here hx rfl (hb hby d2_12) k) ?_
    exact fin (some (.int (1 : Int32))) X0 (by decide) (by decide) (fun q => by cases q) (show Q_rm2 Z p1 h0 n0 _ s₁.heap _ from (by rw [e0]; exact ⟨congrArg some (congrArg Value.int (show (f_rm2 p1) = (1 : Int32) from (by unfold f_rm2; rw [if_pos hc1])).symm), N0, rfl⟩)) (fun fs hr => retI X0 hx hret (hb hby d2_13) hr)
  · refine go _ (s₁.setTop (mkF m 6 #[.val (.int p1)] [])) (fun t k => XS.icmpNo X0.here hx rfl (hb hby d2_3) rfl (flt hc1).1 k) ?_
    refine go _ (s₁.setTop (mkF m 7 #[.val (.int p1)] [(.int p1)])) (fun t k => XS.iloadN X0.here hx rfl (hb hby d2_6) rfl k) ?_
    refine go _ (s₁.setTop (mkF m 9 #[.val (.int p1)] [(.int (31 : Int32)), (.int p1)])) (fun t k => XS.bipush X0.here hx rfl (hb hby d2_7) k) ?_
    by_cases hc2 : p1 = (31 : Int32)
    · refine go _ (s₁.setTop (mkF m 12 #[.val (.int p1)] [])) (fun t k => XS.icmpNo X0.here hx rfl (hb hby d2_9) rfl (teq hc2).2 k) ?_
      refine go _ (s₁.setTop (mkF m 13 #[.val (.int p1)] [(.int (1 : Int32))])) (fun t k => XS.iconst X0.here hx rfl (hb hby d2_12) k) ?_
      exact fin (some (.int (1 : Int32))) X0 (by decide) (by decide) (fun q => by cases q) (show Q_rm2 Z p1 h0 n0 _ s₁.heap _ from (by rw [e0]; exact ⟨congrArg some (congrArg Value.int (show (f_rm2 p1) = (1 : Int32) from (by unfold f_rm2; rw [if_neg hc1, if_pos hc2])).symm), N0, rfl⟩)) (fun fs hr => retI X0 hx hret (hb hby d2_13) hr)
    · refine go _ (s₁.setTop (mkF m 14 #[.val (.int p1)] [])) (fun t k => XS.icmpYes X0.here hx rfl (pc0 := 9) (pc' := 14) rfl (hb hby d2_9) rfl (feq hc2).2 (by decide) (by decide) k) ?_
      refine go _ (s₁.setTop (mkF m 15 #[.val (.int p1)] [(.int (1 : Int32))])) (fun t k => XS.iconst X0.here hx rfl (hb hby d2_14) k) ?_
      refine go _ (s₁.setTop (mkF m 16 #[.val (.int p1)] [(.int (1 : Int32)), (.int (1 : Int32))])) (fun t k => XS.iconst X0.here hx rfl (hb hby d2_15) k) ?_
      refine go _ (s₁.setTop (mkF m 17 #[.val (.int p1)] [(.int p1), (.int (1 : Int32)), (.int (1 : Int32))])) (fun t k => XS.iloadN X0.here hx rfl (hb hby d2_16) rfl k) ?_
      refine go _ (s₁.setTop (mkF m 19 #[.val (.int p1)] [(.int (24 : Int32)), (.int p1), (.int (1 : Int32)), (.int (1 : Int32))])) (fun t k => XS.bipush X0.here hx rfl (hb hby d2_17) k) ?_
      refine go _ (s₁.setTop (mkF m 20 #[.val (.int p1)] [(.int (p1 - (24 : Int32))), (.int (1 : Int32)), (.int (1 : Int32))])) (fun t k => XS.isub X0.here hx rfl (hb hby d2_19) rfl k) ?_
      refine go _ (s₁.setTop (mkF m 21 #[.val (.int p1)] [(.int (jshl (1 : Int32) (p1 - (24 : Int32)))), (.int (1 : Int32))])) (fun t k => XS.ishl X0.here hx rfl (hb hby d2_20) rfl k) ?_
      refine go _ (s₁.setTop (mkF m 22 #[.val (.int p1)] [(.int ((1 : Int32) + (jshl (1 : Int32) (p1 - (24 : Int32)))))])) (fun t k => XS.iadd X0.here hx rfl (hb hby d2_21) rfl k) ?_
      exact fin (some (.int ((1 : Int32) + (jshl (1 : Int32) (p1 - (24 : Int32)))))) X0 (by decide) (by decide) (fun q => by cases q) (show Q_rm2 Z p1 h0 n0 _ s₁.heap _ from (by rw [e0]; exact ⟨congrArg some (congrArg Value.int (show (f_rm2 p1) = ((1 : Int32) + (jshl (1 : Int32) (p1 - (24 : Int32)))) from (by unfold f_rm2; rw [if_neg hc1, if_neg hc2])).symm), N0, rfl⟩)) (fun fs hr => retI X0 hx hret (hb hby d2_22) hr)
def own_be (g : Nat → Int32) : Nat → Int64
  | 0 => (0 : Int64)
  | t + 1 => (jshlL (own_be g t) (8 : Int32)) ||| ((g t &&& (255 : Int32)).toInt64)
def own_arg (y : Int32) (g : Nat → Int32) (mm : Nat) : Int64 := if (y &&& (31 : Int32)) < (24 : Int32) then (y &&& (31 : Int32)).toInt64 else own_be g mm
theorem own_succ {x : Int32} {i : Nat} (h : x.toInt = (i : Int)) (hi : i + 1 < 2 ^ 31) : (x + (1 : Int32)).toInt = ((i + 1 : Nat) : Int) := by
  have a := c_iadd x 1
  have r := rng32 (x + 1)
  have e1 : (1 : Int32).toInt = 1 := by decide
  omega
theorem own_bound {p1 z : Int32} {i mm : Nat} (hj : p1.toInt = (i : Int)) (hm : z = Int32.ofNat (mm + 1)) (h : i + mm + 1 < 2 ^ 31) : (p1 + z).toInt = ((i + mm + 1 : Nat) : Int) := by
  have a := c_iadd p1 z
  have r := rng32 (p1 + z)
  have e : z.toInt = ((mm + 1 : Nat) : Int) := by rw [hm]; exact Int32.toInt_ofNat_small (by omega)
  omega
theorem own_no {p1 z j5 : Int32} {i mm t : Nat} (hj : p1.toInt = (i : Int)) (h5 : j5.toInt = ((i + 1 + t : Nat) : Int)) (hm : z = Int32.ofNat (mm + 1)) (h : i + mm + 1 < 2 ^ 31) (ht : t = mm) : ¬ (j5 < p1 + z) := by
  rw [Int32.lt_iff_toInt_lt, own_bound hj hm h, h5]
  omega
theorem own_yes {p1 z j5 : Int32} {i mm t : Nat} (hj : p1.toInt = (i : Int)) (h5 : j5.toInt = ((i + 1 + t : Nat) : Int)) (hm : z = Int32.ofNat (mm + 1)) (h : i + mm + 1 < 2 ^ 31) (ht : t < mm) : j5 < p1 + z := by
  rw [Int32.lt_iff_toInt_lt, own_bound hj hm h, h5]
  omega
theorem d1_0 : decode prog_6_method_15_code 0 = .ok (.aload_n 0, 1) := by decide +kernel
theorem d1_1 : decode prog_6_method_15_code 1 = .ok (.iload_n 1, 1) := by decide +kernel
theorem d1_2 : decode prog_6_method_15_code 2 = .ok (.baload, 1) := by decide +kernel
theorem d1_3 : decode prog_6_method_15_code 3 = .ok (.bipush 31, 2) := by decide +kernel
theorem d1_5 : decode prog_6_method_15_code 5 = .ok (.iand, 1) := by decide +kernel
theorem d1_6 : decode prog_6_method_15_code 6 = .ok (.istore_n 2, 1) := by decide +kernel
theorem d1_7 : decode prog_6_method_15_code 7 = .ok (.iload_n 2, 1) := by decide +kernel
theorem d1_8 : decode prog_6_method_15_code 8 = .ok (.bipush 24, 2) := by decide +kernel
theorem d1_10 : decode prog_6_method_15_code 10 = .ok (.if_icmp .ge 6, 3) := by decide +kernel
theorem d1_13 : decode prog_6_method_15_code 13 = .ok (.iload_n 2, 1) := by decide +kernel
theorem d1_14 : decode prog_6_method_15_code 14 = .ok (.i2l, 1) := by decide +kernel
theorem d1_15 : decode prog_6_method_15_code 15 = .ok (.lreturn, 1) := by decide +kernel
theorem d1_16 : decode prog_6_method_15_code 16 = .ok (.lconst 0, 1) := by decide +kernel
theorem d1_17 : decode prog_6_method_15_code 17 = .ok (.lstore_n 3, 1) := by decide +kernel
theorem d1_18 : decode prog_6_method_15_code 18 = .ok (.iload_n 1, 1) := by decide +kernel
theorem d1_19 : decode prog_6_method_15_code 19 = .ok (.iconst 1, 1) := by decide +kernel
theorem d1_20 : decode prog_6_method_15_code 20 = .ok (.iadd, 1) := by decide +kernel
theorem d1_21 : decode prog_6_method_15_code 21 = .ok (.istore 5, 2) := by decide +kernel
theorem d1_23 : decode prog_6_method_15_code 23 = .ok (.iload 5, 2) := by decide +kernel
theorem d1_25 : decode prog_6_method_15_code 25 = .ok (.iload_n 1, 1) := by decide +kernel
theorem d1_26 : decode prog_6_method_15_code 26 = .ok (.iload_n 2, 1) := by decide +kernel
theorem d1_27 : decode prog_6_method_15_code 27 = .ok (.invokestatic 160, 3) := by decide +kernel
theorem d1_30 : decode prog_6_method_15_code 30 = .ok (.iadd, 1) := by decide +kernel
theorem d1_31 : decode prog_6_method_15_code 31 = .ok (.if_icmp .ge 24, 3) := by decide +kernel
theorem d1_34 : decode prog_6_method_15_code 34 = .ok (.lload_n 3, 1) := by decide +kernel
theorem d1_35 : decode prog_6_method_15_code 35 = .ok (.bipush 8, 2) := by decide +kernel
theorem d1_37 : decode prog_6_method_15_code 37 = .ok (.lshl, 1) := by decide +kernel
theorem d1_38 : decode prog_6_method_15_code 38 = .ok (.aload_n 0, 1) := by decide +kernel
theorem d1_39 : decode prog_6_method_15_code 39 = .ok (.iload 5, 2) := by decide +kernel
theorem d1_41 : decode prog_6_method_15_code 41 = .ok (.baload, 1) := by decide +kernel
theorem d1_42 : decode prog_6_method_15_code 42 = .ok (.sipush 255, 3) := by decide +kernel
theorem d1_45 : decode prog_6_method_15_code 45 = .ok (.iand, 1) := by decide +kernel
theorem d1_46 : decode prog_6_method_15_code 46 = .ok (.i2l, 1) := by decide +kernel
theorem d1_47 : decode prog_6_method_15_code 47 = .ok (.lor, 1) := by decide +kernel
theorem d1_48 : decode prog_6_method_15_code 48 = .ok (.lstore_n 3, 1) := by decide +kernel
theorem d1_49 : decode prog_6_method_15_code 49 = .ok (.iinc 5 1, 3) := by decide +kernel
theorem d1_52 : decode prog_6_method_15_code 52 = .ok (.goto (-29), 3) := by decide +kernel
theorem d1_55 : decode prog_6_method_15_code 55 = .ok (.lload_n 3, 1) := by decide +kernel
theorem d1_56 : decode prog_6_method_15_code 56 = .ok (.lreturn, 1) := by decide +kernel
theorem ef_rm1 (m : MethodId) (a1 : Addr) (p1 : Int32) : entryFrame m #[(.ref a1), (.int p1)] 6 = mkF m 0 #[.val (.ref a1), .val (.int p1), .unset, .unset, .unset, .unset] [] := by first | (simp [entryFrame, mkF, argsToLocals, Value.category]; done) | rfl
def Q_rm1 (Z : State) (a1 : Addr) (p1 : Int32) (f : Nat → Value) (n : Nat) (i : Nat) (y : Int32) (g : Nat → Int32) (mm : Nat) (h0 : Heap) (n0 : Nat) (v : Option Value) (h : Heap) (L : List Loc) : Prop := v = some (.long (own_arg y g mm)) ∧ Fr n0 L ∧ h = h0
set_option maxRecDepth 65536 in
set_option maxHeartbeats 40000000 in
theorem rm1 (l : Launch) (Z : State) (a0 : Array Value) (hw : ∀ d ∈ tables_1, d.before a0 Z = true) (ws : List Jvm.Cond) (a1 : Addr) (p1 : Int32) (f : Nat → Value) (n : Nat) (i : Nat) (y : Int32) (g : Nat → Int32) (mm : Nat) (h0 : Heap) (n0 : Nat) (Z0 : n0 ≤ h0.size) (A0 : AF Z h0 a1 .byte n f) (hj : p1.toInt = (i : Int)) (hi : i + mm < n) (hv : f i = .int y) (hg : ∀ t, t < mm → f (i + 1 + t) = .int (g t)) (hm0 : ¬ ((y &&& (31 : Int32)) < (24 : Int32)) → f_rm2 (y &&& (31 : Int32)) = Int32.ofNat (mm + 1)) (hm8 : mm ≤ 8) :
    MetFree l (⟨"com/example/countermark/countermark/cbor/CborReader", "argument", "([BI)J"⟩ : MethodName) (head1 (Jvm.Cond.code (⟨"com/example/countermark/countermark/cbor/CborReader", "argument", "([BI)J"⟩ : MethodName) prog_6_method_15_code 6 (some .long) :: ws) ({ frames := 1, cells := 0, slots := 0, locals := 14 } : Room)) (fun a U => a = #[(.ref a1), (.int p1)] ∧ Z.Warmed39 U.vm ∧ U.heap = h0) (fun _ _ _ _ _ => True) (fun _ U o U' => ∃ v L, o = .returned v ∧ Q_rm1 Z a1 p1 f n i y g mm h0 n0 v U'.heap L ∧ FrameEnd U o U' L ({ frames := 1, cells := 0, slots := 0, locals := 14 } : Room).cells ({ frames := 1, cells := 0, slots := 0, locals := 14 } : Room).slots) := by
  refine own_body (Q := Q_rm1 Z a1 p1 f n i y g mm h0 n0) (plainFor_of_name pn_4) ?_
  intro p e s m below meth c s₁ K go fin X0 hx hby hml hown hnm hret hZ e0
  have hown : s.vm.findClass "com/example/countermark/countermark/cbor/CborReader" = some m.cls := hown
  have N0 := Fr.nil n0
  refine go _ (s₁.setTop (mkF m 0 #[.val (.ref a1), .val (.int p1), .unset, .unset, .unset, .unset] [])) (fun t k => castTop (ef_rm1 m a1 p1) k) ?_
  have hn := A0.1
  refine go _ (s₁.setTop (mkF m 1 #[.val (.ref a1), .val (.int p1), .unset, .unset, .unset, .unset] [(.ref a1)])) (fun t k => XS.aloadN X0.here hx rfl (hb hby d1_0) rfl rfl k) ?_
  refine go _ (s₁.setTop (mkF m 2 #[.val (.ref a1), .val (.int p1), .unset, .unset, .unset, .unset] [(.int p1), (.ref a1)])) (fun t k => XS.iloadN X0.here hx rfl (hb hby d1_1) rfl k) ?_
  refine go _ (s₁.setTop (mkF m 3 #[.val (.ref a1), .val (.int p1), .unset, .unset, .unset, .unset] [(.int y)])) (own_ldB X0 hx hZ e0 A0 (i := i) hj (by omega) (g := (mkF m 2 #[.val (.ref a1), .val (.int p1), .unset, .unset, .unset, .unset] [(.int p1), (.ref a1)])) rfl rfl (hb hby d1_2) (v := (.int y)) hv) ?_
  refine go _ (s₁.setTop (mkF m 5 #[.val (.ref a1), .val (.int p1), .unset, .unset, .unset, .unset] [(.int (31 : Int32)), (.int y)])) (fun t k => XS.bipush X0.here hx rfl (hb hby d1_3) k) ?_
  refine go _ (s₁.setTop (mkF m 6 #[.val (.ref a1), .val (.int p1), .unset, .unset, .unset, .unset] [(.int (y &&& (31 : Int32)))])) (fun t k => XS.iand X0.here hx rfl (hb hby d1_5) rfl k) ?_
  refine go _ (s₁.setTop (mkF m 7 #[.val (.ref a1), .val (.int p1), .val (.int (y &&& (31 : Int32))), .unset, .unset, .unset] [])) (fun t k => XS.istoreN X0.here hx rfl (hb hby d1_6) rfl (l' := #[.val (.ref a1), .val (.int p1), .val (.int (y &&& (31 : Int32))), .unset, .unset, .unset]) rfl k) ?_
  refine go _ (s₁.setTop (mkF m 8 #[.val (.ref a1), .val (.int p1), .val (.int (y &&& (31 : Int32))), .unset, .unset, .unset] [(.int (y &&& (31 : Int32)))])) (fun t k => XS.iloadN X0.here hx rfl (hb hby d1_7) rfl k) ?_
  refine go _ (s₁.setTop (mkF m 10 #[.val (.ref a1), .val (.int p1), .val (.int (y &&& (31 : Int32))), .unset, .unset, .unset] [(.int (24 : Int32)), (.int (y &&& (31 : Int32)))])) (fun t k => XS.bipush X0.here hx rfl (hb hby d1_8) k) ?_
  by_cases hc3 : (y &&& (31 : Int32)) < (24 : Int32)
  · refine go _ (s₁.setTop (mkF m 13 #[.val (.ref a1), .val (.int p1), .val (.int (y &&& (31 : Int32))), .unset, .unset, .unset] [])) (fun t k => XS.icmpNo X0.here hx rfl (hb hby d1_10) rfl (tlt hc3).2.1 k) ?_
    refine go _ (s₁.setTop (mkF m 14 #[.val (.ref a1), .val (.int p1), .val (.int (y &&& (31 : Int32))), .unset, .unset, .unset] [(.int (y &&& (31 : Int32)))])) (fun t k => XS.iloadN X0.here hx rfl (hb hby d1_13) rfl k) ?_
    refine go _ (s₁.setTop (mkF m 15 #[.val (.ref a1), .val (.int p1), .val (.int (y &&& (31 : Int32))), .unset, .unset, .unset] [(.long ((y &&& (31 : Int32)).toInt64))])) (fun t k => XS.i2l X0.here hx rfl (hb hby d1_14) rfl k) ?_
    exact fin (some (.long ((y &&& (31 : Int32)).toInt64))) X0 (by decide) (by decide) (fun q => by cases q) (show Q_rm1 Z a1 p1 f n i y g mm h0 n0 _ s₁.heap _ from (by rw [e0]; exact ⟨congrArg some (congrArg Value.long (show ((y &&& (31 : Int32)).toInt64) = own_arg y g mm from (by unfold own_arg; rw [if_pos hc3]))), N0, rfl⟩)) (fun fs hr => retJ X0 hx hret (hb hby d1_15) hr)
  · refine go _ (s₁.setTop (mkF m 16 #[.val (.ref a1), .val (.int p1), .val (.int (y &&& (31 : Int32))), .unset, .unset, .unset] [])) (fun t k => XS.icmpYes X0.here hx rfl (pc0 := 10) (pc' := 16) rfl (hb hby d1_10) rfl (flt hc3).2.1 (by decide) (by decide) k) ?_
    refine go _ (s₁.setTop (mkF m 17 #[.val (.ref a1), .val (.int p1), .val (.int (y &&& (31 : Int32))), .unset, .unset, .unset] [(.long (0 : Int64))])) (fun t k => XS.lconst X0.here hx rfl (hb hby d1_16) k) ?_
    refine go _ (s₁.setTop (mkF m 18 #[.val (.ref a1), .val (.int p1), .val (.int (y &&& (31 : Int32))), .val (.long (0 : Int64)), .second, .unset] [])) (fun t k => XS.lstoreN X0.here hx rfl (hb hby d1_17) rfl (l' := #[.val (.ref a1), .val (.int p1), .val (.int (y &&& (31 : Int32))), .val (.long (0 : Int64)), .second, .unset]) rfl k) ?_
    refine go _ (s₁.setTop (mkF m 19 #[.val (.ref a1), .val (.int p1), .val (.int (y &&& (31 : Int32))), .val (.long (0 : Int64)), .second, .unset] [(.int p1)])) (fun t k => XS.iloadN X0.here hx rfl (hb hby d1_18) rfl k) ?_
    refine go _ (s₁.setTop (mkF m 20 #[.val (.ref a1), .val (.int p1), .val (.int (y &&& (31 : Int32))), .val (.long (0 : Int64)), .second, .unset] [(.int (1 : Int32)), (.int p1)])) (fun t k => XS.iconst X0.here hx rfl (hb hby d1_19) k) ?_
    refine go _ (s₁.setTop (mkF m 21 #[.val (.ref a1), .val (.int p1), .val (.int (y &&& (31 : Int32))), .val (.long (0 : Int64)), .second, .unset] [(.int (p1 + (1 : Int32)))])) (fun t k => XS.iadd X0.here hx rfl (hb hby d1_20) rfl k) ?_
    refine go _ (s₁.setTop (mkF m 23 #[.val (.ref a1), .val (.int p1), .val (.int (y &&& (31 : Int32))), .val (.long (0 : Int64)), .second, .val (.int (p1 + (1 : Int32)))] [])) (fun t k => XS.istore X0.here hx rfl (hb hby d1_21) rfl (l' := #[.val (.ref a1), .val (.int p1), .val (.int (y &&& (31 : Int32))), .val (.long (0 : Int64)), .second, .val (.int (p1 + (1 : Int32)))]) rfl k) ?_
    have hm := hm0 hc3
    have loop : ∀ (k tt : Nat) (T : State) (locs : List Loc) (j5 : Int32), tt + k = mm → Stand p l e ({ frames := 1, cells := 0, slots := 0, locals := 14 } : Room) s m #[(.ref a1), (.int p1)] below meth c T locs (0) (0) → T.heap = h0 → Fr n0 locs → j5.toInt = ((i + 1 + tt : Nat) : Int) → K (T.setTop (mkF m 23 #[.val (.ref a1), .val (.int p1), .val (.int (y &&& (31 : Int32))), .val (.long (own_be g tt)), .second, .val (.int j5)] [])) := by
      intro k
      induction k with
      | zero =>
        intro tt T locs j5 htk X eh Nf h5
        refine go _ (T.setTop (mkF m 25 #[.val (.ref a1), .val (.int p1), .val (.int (y &&& (31 : Int32))), .val (.long (own_be g tt)), .second, .val (.int j5)] [(.int j5)])) (fun t k => XS.iload X.here hx rfl (hb hby d1_23) rfl k) ?_
        refine go _ (T.setTop (mkF m 26 #[.val (.ref a1), .val (.int p1), .val (.int (y &&& (31 : Int32))), .val (.long (own_be g tt)), .second, .val (.int j5)] [(.int p1), (.int j5)])) (fun t k => XS.iloadN X.here hx rfl (hb hby d1_25) rfl k) ?_
        refine go _ (T.setTop (mkF m 27 #[.val (.ref a1), .val (.int p1), .val (.int (y &&& (31 : Int32))), .val (.long (own_be g tt)), .second, .val (.int j5)] [(.int (y &&& (31 : Int32))), (.int p1), (.int j5)])) (fun t k => XS.iloadN X.here hx rfl (hb hby d1_26) rfl k) ?_
        obtain ⟨_, _, ⟨T4, L4, k4, n4⟩, -, X4, ⟨Lc4, hQ4, l4, y4, z4⟩, st4⟩ := Jvm.LawKit.callS X hx (y := (⟨"com/example/countermark/countermark/cbor/CborReader", "headLength", "(I)I"⟩ : MethodName)) hown (mvT hZ (hw _ (List.mem_of_getElem? (i := 5) rfl))) (mvT hZ (hw _ (List.mem_of_getElem? (i := 6) rfl))) (mvT hZ (hw _ (List.mem_of_getElem? (i := 3) rfl))) (mvT hZ (hw _ (List.mem_of_getElem? (i := 7) rfl))) (by decide) (backOf (W := 2) (rm2 l Z a0 hw [] (y &&& (31 : Int32))  h0 n0 Z0 ) hZ (hw _ (List.mem_of_getElem? (i := 7) rfl)) (hw _ (List.mem_of_getElem? (i := 3) rfl)) (by decide) (by decide)) (g := (mkF m 27 #[.val (.ref a1), .val (.int p1), .val (.int (y &&& (31 : Int32))), .val (.long (own_be g tt)), .second, .val (.int j5)] [(.int (y &&& (31 : Int32))), (.int p1), (.int j5)])) rfl (by rw [hml]; rfl) (argsL := [(.int (y &&& (31 : Int32)))]) (rest := [(.int p1), (.int j5)]) (lenOf pd_1 rfl) rfl (by show 2 * 0 + _ ≤ _; exact Nat.le_of_eq rfl) (hb hby d1_27) (fun _ _ => ⟨rfl, eh, (by decide : 0 + 0 ≤ _), (by decide : 0 + 0 ≤ _)⟩)
        dsimp only [Pt.U, Pt.locs, Pt.cells, Pt.slots] at X4 l4 y4 z4 st4 hQ4
        subst l4 y4 z4
        obtain ⟨rfl, Nq4, hh4⟩ := hQ4
        have N5 := Fr.app Nf Nq4
        refine go _ (T4.setTop (mkF m 30 #[.val (.ref a1), .val (.int p1), .val (.int (y &&& (31 : Int32))), .val (.long (own_be g tt)), .second, .val (.int j5)] [(.int (f_rm2 (y &&& (31 : Int32)))), (.int p1), (.int j5)])) (st4) ?_
        refine go _ (T4.setTop (mkF m 31 #[.val (.ref a1), .val (.int p1), .val (.int (y &&& (31 : Int32))), .val (.long (own_be g tt)), .second, .val (.int j5)] [(.int (p1 + (f_rm2 (y &&& (31 : Int32))))), (.int j5)])) (fun t k => XS.iadd X4.here hx rfl (hb hby d1_30) rfl k) ?_
        have hc6 : ¬ (j5 < (p1 + (f_rm2 (y &&& (31 : Int32))))) := own_no hj h5 hm (by omega) (by omega)
        refine go _ (T4.setTop (mkF m 55 #[.val (.ref a1), .val (.int p1), .val (.int (y &&& (31 : Int32))), .val (.long (own_be g tt)), .second, .val (.int j5)] [])) (fun t k => XS.icmpYes X4.here hx rfl (pc0 := 31) (pc' := 55) rfl (hb hby d1_31) rfl (flt hc6).2.1 (by decide) (by decide) k) ?_
        refine go _ (T4.setTop (mkF m 56 #[.val (.ref a1), .val (.int p1), .val (.int (y &&& (31 : Int32))), .val (.long (own_be g tt)), .second, .val (.int j5)] [(.long (own_be g tt))])) (fun t k => XS.lloadN X4.here hx rfl (hb hby d1_55) rfl k) ?_
        exact fin (some (.long (own_be g tt))) X4 (by decide) (by decide) (fun q => by cases q) (show Q_rm1 Z a1 p1 f n i y g mm h0 n0 _ T4.heap _ from (by rw [hh4]; exact ⟨congrArg some (congrArg Value.long (show (own_be g tt) = own_arg y g mm from (by unfold own_arg; rw [if_neg hc3, show tt = mm by omega]))), N5, rfl⟩)) (fun fs hr => retJ X4 hx hret (hb hby d1_56) hr)
      | succ k ih =>
        intro tt T locs j5 htk X eh Nf h5
        refine go _ (T.setTop (mkF m 25 #[.val (.ref a1), .val (.int p1), .val (.int (y &&& (31 : Int32))), .val (.long (own_be g tt)), .second, .val (.int j5)] [(.int j5)])) (fun t k => XS.iload X.here hx rfl (hb hby d1_23) rfl k) ?_
        refine go _ (T.setTop (mkF m 26 #[.val (.ref a1), .val (.int p1), .val (.int (y &&& (31 : Int32))), .val (.long (own_be g tt)), .second, .val (.int j5)] [(.int p1), (.int j5)])) (fun t k => XS.iloadN X.here hx rfl (hb hby d1_25) rfl k) ?_
        refine go _ (T.setTop (mkF m 27 #[.val (.ref a1), .val (.int p1), .val (.int (y &&& (31 : Int32))), .val (.long (own_be g tt)), .second, .val (.int j5)] [(.int (y &&& (31 : Int32))), (.int p1), (.int j5)])) (fun t k => XS.iloadN X.here hx rfl (hb hby d1_26) rfl k) ?_
        obtain ⟨_, _, ⟨T7, L7, k7, n7⟩, -, X7, ⟨Lc7, hQ7, l7, y7, z7⟩, st7⟩ := Jvm.LawKit.callS X hx (y := (⟨"com/example/countermark/countermark/cbor/CborReader", "headLength", "(I)I"⟩ : MethodName)) hown (mvT hZ (hw _ (List.mem_of_getElem? (i := 5) rfl))) (mvT hZ (hw _ (List.mem_of_getElem? (i := 6) rfl))) (mvT hZ (hw _ (List.mem_of_getElem? (i := 3) rfl))) (mvT hZ (hw _ (List.mem_of_getElem? (i := 7) rfl))) (by decide) (backOf (W := 2) (rm2 l Z a0 hw [] (y &&& (31 : Int32))  h0 n0 Z0 ) hZ (hw _ (List.mem_of_getElem? (i := 7) rfl)) (hw _ (List.mem_of_getElem? (i := 3) rfl)) (by decide) (by decide)) (g := (mkF m 27 #[.val (.ref a1), .val (.int p1), .val (.int (y &&& (31 : Int32))), .val (.long (own_be g tt)), .second, .val (.int j5)] [(.int (y &&& (31 : Int32))), (.int p1), (.int j5)])) rfl (by rw [hml]; rfl) (argsL := [(.int (y &&& (31 : Int32)))]) (rest := [(.int p1), (.int j5)]) (lenOf pd_1 rfl) rfl (by show 2 * 0 + _ ≤ _; exact Nat.le_of_eq rfl) (hb hby d1_27) (fun _ _ => ⟨rfl, eh, (by decide : 0 + 0 ≤ _), (by decide : 0 + 0 ≤ _)⟩)
        dsimp only [Pt.U, Pt.locs, Pt.cells, Pt.slots] at X7 l7 y7 z7 st7 hQ7
        subst l7 y7 z7
        obtain ⟨rfl, Nq7, hh7⟩ := hQ7
        have N8 := Fr.app Nf Nq7
        refine go _ (T7.setTop (mkF m 30 #[.val (.ref a1), .val (.int p1), .val (.int (y &&& (31 : Int32))), .val (.long (own_be g tt)), .second, .val (.int j5)] [(.int (f_rm2 (y &&& (31 : Int32)))), (.int p1), (.int j5)])) (st7) ?_
        refine go _ (T7.setTop (mkF m 31 #[.val (.ref a1), .val (.int p1), .val (.int (y &&& (31 : Int32))), .val (.long (own_be g tt)), .second, .val (.int j5)] [(.int (p1 + (f_rm2 (y &&& (31 : Int32))))), (.int j5)])) (fun t k => XS.iadd X7.here hx rfl (hb hby d1_30) rfl k) ?_
        have hc9 : (j5 < (p1 + (f_rm2 (y &&& (31 : Int32))))) := own_yes hj h5 hm (by omega) (by omega)
        refine go _ (T7.setTop (mkF m 34 #[.val (.ref a1), .val (.int p1), .val (.int (y &&& (31 : Int32))), .val (.long (own_be g tt)), .second, .val (.int j5)] [])) (fun t k => XS.icmpNo X7.here hx rfl (hb hby d1_31) rfl (tlt hc9).2.1 k) ?_
        refine go _ (T7.setTop (mkF m 35 #[.val (.ref a1), .val (.int p1), .val (.int (y &&& (31 : Int32))), .val (.long (own_be g tt)), .second, .val (.int j5)] [(.long (own_be g tt))])) (fun t k => XS.lloadN X7.here hx rfl (hb hby d1_34) rfl k) ?_
        refine go _ (T7.setTop (mkF m 37 #[.val (.ref a1), .val (.int p1), .val (.int (y &&& (31 : Int32))), .val (.long (own_be g tt)), .second, .val (.int j5)] [(.int (8 : Int32)), (.long (own_be g tt))])) (fun t k => XS.bipush X7.here hx rfl (hb hby d1_35) k) ?_
        refine go _ (T7.setTop (mkF m 38 #[.val (.ref a1), .val (.int p1), .val (.int (y &&& (31 : Int32))), .val (.long (own_be g tt)), .second, .val (.int j5)] [(.long (jshlL (own_be g tt) (8 : Int32)))])) (fun t k => XS.lshl X7.here hx rfl (hb hby d1_37) rfl k) ?_
        refine go _ (T7.setTop (mkF m 39 #[.val (.ref a1), .val (.int p1), .val (.int (y &&& (31 : Int32))), .val (.long (own_be g tt)), .second, .val (.int j5)] [(.ref a1), (.long (jshlL (own_be g tt) (8 : Int32)))])) (fun t k => XS.aloadN X7.here hx rfl (hb hby d1_38) rfl rfl k) ?_
        refine go _ (T7.setTop (mkF m 41 #[.val (.ref a1), .val (.int p1), .val (.int (y &&& (31 : Int32))), .val (.long (own_be g tt)), .second, .val (.int j5)] [(.int j5), (.ref a1), (.long (jshlL (own_be g tt) (8 : Int32)))])) (fun t k => XS.iload X7.here hx rfl (hb hby d1_39) rfl k) ?_
        refine go _ (T7.setTop (mkF m 42 #[.val (.ref a1), .val (.int p1), .val (.int (y &&& (31 : Int32))), .val (.long (own_be g tt)), .second, .val (.int j5)] [(.int (g tt)), (.long (jshlL (own_be g tt) (8 : Int32)))])) (own_ldB X7 hx hZ hh7 A0 (i := (i + 1 + tt)) h5 (by omega) (g := (mkF m 41 #[.val (.ref a1), .val (.int p1), .val (.int (y &&& (31 : Int32))), .val (.long (own_be g tt)), .second, .val (.int j5)] [(.int j5), (.ref a1), (.long (jshlL (own_be g tt) (8 : Int32)))])) rfl rfl (hb hby d1_41) (v := (.int (g tt))) (hg tt (by omega))) ?_
        refine go _ (T7.setTop (mkF m 45 #[.val (.ref a1), .val (.int p1), .val (.int (y &&& (31 : Int32))), .val (.long (own_be g tt)), .second, .val (.int j5)] [(.int (255 : Int32)), (.int (g tt)), (.long (jshlL (own_be g tt) (8 : Int32)))])) (fun t k => XS.sipush X7.here hx rfl (hb hby d1_42) k) ?_
        refine go _ (T7.setTop (mkF m 46 #[.val (.ref a1), .val (.int p1), .val (.int (y &&& (31 : Int32))), .val (.long (own_be g tt)), .second, .val (.int j5)] [(.int ((g tt) &&& (255 : Int32))), (.long (jshlL (own_be g tt) (8 : Int32)))])) (fun t k => XS.iand X7.here hx rfl (hb hby d1_45) rfl k) ?_
        refine go _ (T7.setTop (mkF m 47 #[.val (.ref a1), .val (.int p1), .val (.int (y &&& (31 : Int32))), .val (.long (own_be g tt)), .second, .val (.int j5)] [(.long (((g tt) &&& (255 : Int32)).toInt64)), (.long (jshlL (own_be g tt) (8 : Int32)))])) (fun t k => XS.i2l X7.here hx rfl (hb hby d1_46) rfl k) ?_
        refine go _ (T7.setTop (mkF m 48 #[.val (.ref a1), .val (.int p1), .val (.int (y &&& (31 : Int32))), .val (.long (own_be g tt)), .second, .val (.int j5)] [(.long ((jshlL (own_be g tt) (8 : Int32)) ||| (((g tt) &&& (255 : Int32)).toInt64)))])) (fun t k => XS.lor X7.here hx rfl (hb hby d1_47) rfl k) ?_
        refine go _ (T7.setTop (mkF m 49 #[.val (.ref a1), .val (.int p1), .val (.int (y &&& (31 : Int32))), .val (.long ((jshlL (own_be g tt) (8 : Int32)) ||| (((g tt) &&& (255 : Int32)).toInt64))), .second, .val (.int j5)] [])) (fun t k => XS.lstoreN X7.here hx rfl (hb hby d1_48) rfl (l' := #[.val (.ref a1), .val (.int p1), .val (.int (y &&& (31 : Int32))), .val (.long ((jshlL (own_be g tt) (8 : Int32)) ||| (((g tt) &&& (255 : Int32)).toInt64))), .second, .val (.int j5)]) rfl k) ?_
        refine go _ (T7.setTop (mkF m 52 #[.val (.ref a1), .val (.int p1), .val (.int (y &&& (31 : Int32))), .val (.long ((jshlL (own_be g tt) (8 : Int32)) ||| (((g tt) &&& (255 : Int32)).toInt64))), .second, .val (.int (j5 + (1 : Int32)))] [])) (fun t k => XS.iinc X7.here hx rfl (hb hby d1_49) rfl (l' := #[.val (.ref a1), .val (.int p1), .val (.int (y &&& (31 : Int32))), .val (.long ((jshlL (own_be g tt) (8 : Int32)) ||| (((g tt) &&& (255 : Int32)).toInt64))), .second, .val (.int (j5 + (1 : Int32)))]) rfl k) ?_
        refine go _ (T7.setTop (mkF m 23 #[.val (.ref a1), .val (.int p1), .val (.int (y &&& (31 : Int32))), .val (.long ((jshlL (own_be g tt) (8 : Int32)) ||| (((g tt) &&& (255 : Int32)).toInt64))), .second, .val (.int (j5 + (1 : Int32)))] [])) (fun t k => XS.goto X7.here hx rfl (pc0 := 52) (pc' := 23) rfl (hb hby d1_52) (by decide) (by decide) k) ?_
        exact ih (tt + 1) _ _ _ (by omega) X7 hh7 N8 (own_succ (i := i + 1 + tt) h5 (by omega))
    exact loop mm 0 _ _ _ (by omega) X0 e0 N0 (own_succ hj (by omega))
section OwnSh
theorem own_bvushr (x y : Int32) : (jushr x y).toBitVec = x.toBitVec >>> (y.toBitVec.toNat % 32) := by
  have e : (jushr x y).toBitVec = x.toBitVec >>> ((y &&& 31).toUInt32 % 32).toBitVec.toNat := rfl
  have t : ((y &&& 31).toUInt32 % 32).toBitVec.toNat = y.toBitVec.toNat % 32 := by
    show (y.toBitVec &&& 31#32).toNat % 32 = _
    rw [BitVec.toNat_and]
    show (y.toBitVec.toNat &&& (2 ^ 5 - 1)) % 32 = _
    rw [Nat.and_two_pow_sub_one_eq_mod]
    omega
  rw [e, t]
theorem own_bvshl (x y : Int32) : (jshl x y).toBitVec = x.toBitVec <<< (y.toBitVec.toNat % 32) := by
  have e : (jshl x y).toBitVec = x.toBitVec <<< ((y &&& 31).toBitVec.smod 32).toNat := rfl
  rw [e, sm32 y _ rfl]
theorem own_bvshr (x y : Int32) : (jshr x y).toBitVec = x.toBitVec.sshiftRight (y.toBitVec.toNat % 32) := by
  have e : (jshr x y).toBitVec = x.toBitVec.sshiftRight ((y &&& 31).toBitVec.smod 32).toNat := rfl
  rw [e, sm32 y _ rfl]
theorem own_bvushrL (x : Int64) (y : Int32) : (jushrL x y).toBitVec = x.toBitVec >>> (y.toBitVec.toNat % 64) := by
  have e : (jushrL x y).toBitVec = x.toBitVec >>> ((y &&& 0x3f).toInt64.toBitVec % 64#64).toNat := rfl
  obtain ⟨h1, h2⟩ := sm64 y _ rfl
  have t : ((y &&& 0x3f).toInt64.toBitVec % 64#64).toNat = y.toBitVec.toNat % 64 := by
    rw [h1, BitVec.toNat_umod, BitVec.toNat_ofNat, BitVec.toNat_ofNat]
    show y.toBitVec.toNat % 64 % 18446744073709551616 % 64 = _
    omega
  rw [e, t]
theorem own_bvshlL (x : Int64) (y : Int32) : (jshlL x y).toBitVec = x.toBitVec <<< (y.toBitVec.toNat % 64) := by
  have e : (jshlL x y).toBitVec = x.toBitVec <<< ((y &&& 0x3f).toInt64.toBitVec.smod 64).toNat := rfl
  obtain ⟨h1, h2⟩ := sm64 y _ rfl
  rw [e, h1, smod64 _ h2]
theorem own_nat32 (y : Int32) (k : Nat) (h : y.toInt = (k : Int)) : y.toBitVec.toNat = k := by
  have a1 : y.toInt = if 2 * y.toBitVec.toNat < 2 ^ 32 then (y.toBitVec.toNat : Int) else (y.toBitVec.toNat : Int) - ((2 ^ 32 : Nat) : Int) := BitVec.toInt_eq_toNat_cond y.toBitVec
  have b := y.toBitVec.isLt
  generalize y.toBitVec.toNat = n at *
  split at a1 <;> omega
end OwnSh
def own_vb (v : Int64) : Nat → Int32
  | 0 => jb ((jushrL v (56 : Int32)).toInt32)
  | 1 => jb ((jushrL v (48 : Int32)).toInt32)
  | 2 => jb ((jushrL v (40 : Int32)).toInt32)
  | 3 => jb ((jushrL v (32 : Int32)).toInt32)
  | 4 => jb ((jushrL v (24 : Int32)).toInt32)
  | 5 => jb ((jushrL v (16 : Int32)).toInt32)
  | 6 => jb ((jushrL v (8 : Int32)).toInt32)
  | 7 => jb (v.toInt32)
  | _ => 0
theorem own_ix (p : Int32) : ∃ i : Nat, i ≤ 3 ∧ (p &&& (3 : Int32)).toInt = (i : Int) ∧ ((p &&& (3 : Int32)) + (1 : Int32)).toInt = ((i + 1 : Nat) : Int) ∧ ((p &&& (3 : Int32)) + (2 : Int32)).toInt = ((i + 2 : Nat) : Int) ∧ ((p &&& (3 : Int32)) + (3 : Int32)).toInt = ((i + 3 : Nat) : Int) ∧ ((p &&& (3 : Int32)) + (4 : Int32)).toInt = ((i + 4 : Nat) : Int) ∧ ((p &&& (3 : Int32)) + (5 : Int32)).toInt = ((i + 5 : Nat) : Int) ∧ ((p &&& (3 : Int32)) + (6 : Int32)).toInt = ((i + 6 : Nat) : Int) ∧ ((p &&& (3 : Int32)) + (7 : Int32)).toInt = ((i + 7 : Nat) : Int) ∧ ((p &&& (3 : Int32)) + (8 : Int32)).toInt = ((i + 8 : Nat) : Int) ∧ ((p &&& (3 : Int32)) + (9 : Int32)).toInt = ((i + 9 : Nat) : Int) := by
  have m := c_mask p 3 2 (by decide) (by decide +kernel)
  generalize (p &&& (3 : Int32)) = P at *
  have q : ∀ (z : Int32) (k : Nat), z.toInt = (k : Int) → k ≤ 9 → (P + z).toInt = ((P.toInt.toNat + k : Nat) : Int) := fun z k hz hk => by
    have a := c_iadd P z
    have r := rng32 (P + z)
    omega
  exact ⟨P.toInt.toNat, by omega, by omega, q 1 1 (by decide) (by decide), q 2 2 (by decide) (by decide), q 3 3 (by decide) (by decide), q 4 4 (by decide) (by decide), q 5 5 (by decide) (by decide), q 6 6 (by decide) (by decide), q 7 7 (by decide) (by decide), q 8 8 (by decide) (by decide), q 9 9 (by decide) (by decide)⟩
def own_ok (ai : Int32) : Prop := 0 ≤ ai.toInt ∧ (ai.toInt ≤ 27 ∨ ai.toInt = 31)
theorem own_ok_a (p1 : Int32) (h : (p1 &&& (31 : Int32)) < (28 : Int32)) : own_ok (p1 &&& (31 : Int32)) := by
  have m := c_mask p1 31 5 (by decide) (by decide +kernel)
  have e : (28 : Int32).toInt = 28 := by decide
  rw [Int32.lt_iff_toInt_lt] at h
  exact ⟨by omega, Or.inl (by omega)⟩
theorem own_ok_b (p1 : Int32) (h : ¬ ((p1 &&& (31 : Int32)) < (28 : Int32))) (h2 : (30 : Int32) < (p1 &&& (31 : Int32))) : own_ok (p1 &&& (31 : Int32)) := by
  have m := c_mask p1 31 5 (by decide) (by decide +kernel)
  have e : (30 : Int32).toInt = 30 := by decide
  rw [Int32.lt_iff_toInt_lt] at h2
  exact ⟨by omega, Or.inr (by omega)⟩
theorem own_ok_c (p1 : Int32) (h : ¬ ((p1 &&& (31 : Int32)) < (28 : Int32))) (h2 : ¬ ((30 : Int32) < (p1 &&& (31 : Int32)))) : own_ok ((p1 &&& (31 : Int32)) - (4 : Int32)) := by
  have m := c_mask p1 31 5 (by decide) (by decide +kernel)
  generalize (p1 &&& (31 : Int32)) = P at *
  have e : (30 : Int32).toInt = 30 := by decide
  have e' : (28 : Int32).toInt = 28 := by decide
  have e4 : (4 : Int32).toInt = 4 := by decide
  have s := c_isub P 4
  have r := rng32 (P - 4)
  rw [Int32.lt_iff_toInt_lt] at h h2
  exact ⟨by omega, Or.inl (by omega)⟩
def own_mm (ai : Int32) : Nat := if ai = (24 : Int32) then 1 else if ai = (25 : Int32) then 2 else if ai = (26 : Int32) then 4 else if ai = (27 : Int32) then 8 else 0
theorem own_mm8 (ai : Int32) : own_mm ai ≤ 8 := by
  unfold own_mm
  repeat' split
  all_goals decide
theorem own_mmi {i : Nat} (hi : i ≤ 3) (ai : Int32) : i + own_mm ai < 13 := by
  have := own_mm8 ai
  omega
def own_F (f0 : Nat → Value) (i : Nat) (y x1 x2 x3 x4 x5 x6 x7 x8 x9 : Int32) : Nat → Value := own_upd (own_upd (own_upd (own_upd (own_upd (own_upd (own_upd (own_upd (own_upd (own_upd f0 i (.int y)) (i + 1) (.int x1)) (i + 2) (.int x2)) (i + 3) (.int x3)) (i + 4) (.int x4)) (i + 5) (.int x5)) (i + 6) (.int x6)) (i + 7) (.int x7)) (i + 8) (.int x8)) (i + 9) (.int x9)
theorem own_hv {Z : State} {h : Heap} {a : Addr} {f0 : Nat → Value} {i : Nat} {y x1 x2 x3 x4 x5 x6 x7 x8 x9 : Int32} (A : AF Z h a .byte 13 (own_F f0 i y x1 x2 x3 x4 x5 x6 x7 x8 x9)) : own_F f0 i y x1 x2 x3 x4 x5 x6 x7 x8 x9 i = .int y := by
  simp [own_F, own_upd]
theorem own_hg (v : Int64) {Z : State} {h : Heap} {a : Addr} {f0 : Nat → Value} {i : Nat} {y x9 : Int32} (A : AF Z h a .byte 13 (own_F f0 i y (own_vb v 0) (own_vb v 1) (own_vb v 2) (own_vb v 3) (own_vb v 4) (own_vb v 5) (own_vb v 6) (own_vb v 7) x9)) : ∀ t, t < 8 → own_F f0 i y (own_vb v 0) (own_vb v 1) (own_vb v 2) (own_vb v 3) (own_vb v 4) (own_vb v 5) (own_vb v 6) (own_vb v 7) x9 (i + 1 + t) = .int (own_vb v t) := by
  intro t ht
  have c : t = 0 ∨ t = 1 ∨ t = 2 ∨ t = 3 ∨ t = 4 ∨ t = 5 ∨ t = 6 ∨ t = 7 := by omega
  rcases c with rfl | rfl | rfl | rfl | rfl | rfl | rfl | rfl
  all_goals simp [own_F, own_upd, Nat.add_assoc]
theorem own_224 (x : Int32) : (x &&& (224 : Int32)).toInt % 32 = 0 := by
  have e : (x &&& (224 : Int32)).toBitVec.toNat = x.toBitVec.toNat &&& 224 := by
    show (x.toBitVec &&& (224 : Int32).toBitVec).toNat = _
    rw [BitVec.toNat_and]; rfl
  have t : (x.toBitVec.toNat &&& 224) % 32 = 0 := by
    generalize x.toBitVec.toNat = n
    show (n &&& 224) % 2 ^ 5 = 0
    rw [Nat.and_mod_two_pow]; simp
  have a1 : (x &&& (224 : Int32)).toInt = if 2 * (x &&& (224 : Int32)).toBitVec.toNat < 2 ^ 32 then ((x &&& (224 : Int32)).toBitVec.toNat : Int) else ((x &&& (224 : Int32)).toBitVec.toNat : Int) - ((2 ^ 32 : Nat) : Int) := BitVec.toInt_eq_toNat_cond (x &&& (224 : Int32)).toBitVec
  rw [e] at a1
  generalize x.toBitVec.toNat &&& 224 = n at *
  split at a1 <;> omega
theorem own_y (p1 ai : Int32) (hai : own_ok ai) : ((jb ((p1 &&& (224 : Int32)) ||| ai)) &&& (31 : Int32)) = ai := by
  obtain ⟨h0, h1⟩ := hai
  have o := c_or (p1 &&& (224 : Int32)) ai 5 (by decide) 32 rfl (own_224 p1) h0 (by omega)
  have b := (c_i2b ((p1 &&& (224 : Int32)) ||| ai)).1
  have g := own_224 p1
  have m := c_mask (jb ((p1 &&& (224 : Int32)) ||| ai)) 31 5 (by decide) (by decide +kernel)
  have e : (jb ((p1 &&& (224 : Int32)) ||| ai)).toInt = ((p1 &&& (224 : Int32)) ||| ai).toInt8.toInt32.toInt := rfl
  rw [← Int32.toInt_inj, m, e]
  omega
theorem own_cases (ai : Int32) (hai : own_ok ai) (h : ¬ (ai < (24 : Int32))) : ai = 24 ∨ ai = 25 ∨ ai = 26 ∨ ai = 27 ∨ ai = 31 := by
  obtain ⟨h0, h1⟩ := hai
  have e24 : (24 : Int32).toInt = 24 := by decide
  have e25 : (25 : Int32).toInt = 25 := by decide
  have e26 : (26 : Int32).toInt = 26 := by decide
  have e27 : (27 : Int32).toInt = 27 := by decide
  have e31 : (31 : Int32).toInt = 31 := by decide
  rw [Int32.lt_iff_toInt_lt] at h
  simp only [← Int32.toInt_inj]
  omega
theorem own_hm0 (p1 ai : Int32) (hai : own_ok ai) : ¬ (((jb ((p1 &&& (224 : Int32)) ||| ai)) &&& (31 : Int32)) < (24 : Int32)) → f_rm2 ((jb ((p1 &&& (224 : Int32)) ||| ai)) &&& (31 : Int32)) = Int32.ofNat (own_mm ai + 1) := by
  rw [own_y p1 ai hai]
  intro h
  rcases own_cases ai hai h with rfl | rfl | rfl | rfl | rfl <;> decide +kernel
theorem own_low8 (x : Int32) : (jb x).toBitVec.toNat % 256 = x.toBitVec.toNat % 256 := by
  have e : (jb x).toBitVec = (x.toBitVec.signExtend 8).signExtend 32 := by simp [jb]
  apply Nat.eq_of_testBit_eq
  intro t
  rw [show (256 : Nat) = 2 ^ 8 from rfl, Nat.testBit_mod_two_pow, Nat.testBit_mod_two_pow, BitVec.testBit_toNat, BitVec.testBit_toNat, e, BitVec.getLsbD_signExtend, BitVec.getLsbD_signExtend]
  by_cases h : t < 8
  · have h1 : t < 32 := by omega
    simp [h, h1]
  · simp [h]
theorem own_low32 (v : Int64) : (v.toInt32).toBitVec.toNat % 256 = v.toBitVec.toNat % 256 := by
  have e : (v.toInt32).toBitVec = v.toBitVec.signExtend 32 := by simp
  rw [e, BitVec.signExtend_eq_setWidth_of_le _ (by decide), BitVec.toNat_setWidth]
  omega
theorem own_vbn (v : Int64) (s : Int32) (k : Nat) (hk : s.toBitVec.toNat % 64 = k) : (jb ((jushrL v s).toInt32)).toBitVec.toNat % 256 = (v.toBitVec.toNat / 2 ^ k) % 256 := by
  rw [own_low8, own_low32, own_bvushrL, hk, BitVec.toNat_ushiftRight, Nat.shiftRight_eq_div_pow]
theorem own_step (B : Int64) (x : Int32) (b c : Nat) (hB : B.toBitVec.toNat = b) (hb : b < 2 ^ 56) (hx : x.toBitVec.toNat % 256 = c) : ((jshlL B (8 : Int32)) ||| ((x &&& (255 : Int32)).toInt64)).toBitVec.toNat = b * 256 + c := by
  have e1 : (jshlL B (8 : Int32)).toBitVec.toNat = b <<< 8 := by
    rw [own_bvshlL, show (8 : Int32).toBitVec.toNat % 64 = 8 from by decide, BitVec.toNat_shiftLeft, hB, Nat.shiftLeft_eq]
    omega
  have e2 : ((x &&& (255 : Int32)).toInt64).toBitVec.toNat = c := by
    have m := c_mask x 255 8 (by decide) (by decide +kernel)
    have n1 : (x &&& (255 : Int32)).toBitVec.toNat = c := by
      show (x.toBitVec &&& (255 : Int32).toBitVec).toNat = _
      rw [BitVec.toNat_and, show (255 : Int32).toBitVec.toNat = 2 ^ 8 - 1 from by decide, Nat.and_two_pow_sub_one_eq_mod]
      exact hx
    have i1 : ((x &&& (255 : Int32)).toInt64).toInt = (x &&& (255 : Int32)).toInt := c_i2l _
    have hc : c < 256 := by omega
    have a1 : (x &&& (255 : Int32)).toInt = if 2 * (x &&& (255 : Int32)).toBitVec.toNat < 2 ^ 32 then ((x &&& (255 : Int32)).toBitVec.toNat : Int) else ((x &&& (255 : Int32)).toBitVec.toNat : Int) - ((2 ^ 32 : Nat) : Int) := BitVec.toInt_eq_toNat_cond _
    have a2 : ((x &&& (255 : Int32)).toInt64).toInt = if 2 * ((x &&& (255 : Int32)).toInt64).toBitVec.toNat < 2 ^ 64 then (((x &&& (255 : Int32)).toInt64).toBitVec.toNat : Int) else (((x &&& (255 : Int32)).toInt64).toBitVec.toNat : Int) - ((2 ^ 64 : Nat) : Int) := BitVec.toInt_eq_toNat_cond _
    have lt := ((x &&& (255 : Int32)).toInt64).toBitVec.isLt
    rw [n1] at a1
    generalize ((x &&& (255 : Int32)).toInt64).toBitVec.toNat = w at *
    split at a1 <;> split at a2 <;> omega
  have hc : c < 2 ^ 8 := by omega
  show ((jshlL B (8 : Int32)).toBitVec ||| ((x &&& (255 : Int32)).toInt64).toBitVec).toNat = _
  rw [BitVec.toNat_or, e1, e2, ← Nat.shiftLeft_add_eq_or_of_lt hc, Nat.shiftLeft_eq]
theorem own_bes (v : Int64) : (own_be (own_vb v) 0).toBitVec.toNat = v.toBitVec.toNat / 2 ^ 64 ∧ (own_be (own_vb v) 1).toBitVec.toNat = v.toBitVec.toNat / 2 ^ 56 ∧ (own_be (own_vb v) 2).toBitVec.toNat = v.toBitVec.toNat / 2 ^ 48 ∧ (own_be (own_vb v) 3).toBitVec.toNat = v.toBitVec.toNat / 2 ^ 40 ∧ (own_be (own_vb v) 4).toBitVec.toNat = v.toBitVec.toNat / 2 ^ 32 ∧ (own_be (own_vb v) 5).toBitVec.toNat = v.toBitVec.toNat / 2 ^ 24 ∧ (own_be (own_vb v) 6).toBitVec.toNat = v.toBitVec.toNat / 2 ^ 16 ∧ (own_be (own_vb v) 7).toBitVec.toNat = v.toBitVec.toNat / 2 ^ 8 ∧ (own_be (own_vb v) 8).toBitVec.toNat = v.toBitVec.toNat / 2 ^ 0 := by
  have lt := v.toBitVec.isLt
  have h0 : (own_be (own_vb v) 0).toBitVec.toNat = v.toBitVec.toNat / 2 ^ 64 := by
    show (0 : Nat) = _
    omega
  have h1 : (own_be (own_vb v) 1).toBitVec.toNat = v.toBitVec.toNat / 2 ^ 56 := by
    have q := own_step (own_be (own_vb v) 0) (own_vb v 0) _ _ h0 (by omega) (own_vbn v (56 : Int32) 56 (by decide))
    rw [show (own_be (own_vb v) 1).toBitVec.toNat = _ from q]
    omega
  have h2 : (own_be (own_vb v) 2).toBitVec.toNat = v.toBitVec.toNat / 2 ^ 48 := by
    have q := own_step (own_be (own_vb v) 1) (own_vb v 1) _ _ h1 (by omega) (own_vbn v (48 : Int32) 48 (by decide))
    rw [show (own_be (own_vb v) 2).toBitVec.toNat = _ from q]
    omega
  have h3 : (own_be (own_vb v) 3).toBitVec.toNat = v.toBitVec.toNat / 2 ^ 40 := by
    have q := own_step (own_be (own_vb v) 2) (own_vb v 2) _ _ h2 (by omega) (own_vbn v (40 : Int32) 40 (by decide))
    rw [show (own_be (own_vb v) 3).toBitVec.toNat = _ from q]
    omega
  have h4 : (own_be (own_vb v) 4).toBitVec.toNat = v.toBitVec.toNat / 2 ^ 32 := by
    have q := own_step (own_be (own_vb v) 3) (own_vb v 3) _ _ h3 (by omega) (own_vbn v (32 : Int32) 32 (by decide))
    rw [show (own_be (own_vb v) 4).toBitVec.toNat = _ from q]
    omega
  have h5 : (own_be (own_vb v) 5).toBitVec.toNat = v.toBitVec.toNat / 2 ^ 24 := by
    have q := own_step (own_be (own_vb v) 4) (own_vb v 4) _ _ h4 (by omega) (own_vbn v (24 : Int32) 24 (by decide))
    rw [show (own_be (own_vb v) 5).toBitVec.toNat = _ from q]
    omega
  have h6 : (own_be (own_vb v) 6).toBitVec.toNat = v.toBitVec.toNat / 2 ^ 16 := by
    have q := own_step (own_be (own_vb v) 5) (own_vb v 5) _ _ h5 (by omega) (own_vbn v (16 : Int32) 16 (by decide))
    rw [show (own_be (own_vb v) 6).toBitVec.toNat = _ from q]
    omega
  have h7 : (own_be (own_vb v) 7).toBitVec.toNat = v.toBitVec.toNat / 2 ^ 8 := by
    have q := own_step (own_be (own_vb v) 6) (own_vb v 6) _ _ h6 (by omega) (own_vbn v (8 : Int32) 8 (by decide))
    rw [show (own_be (own_vb v) 7).toBitVec.toNat = _ from q]
    omega
  have h8 : (own_be (own_vb v) 8).toBitVec.toNat = v.toBitVec.toNat / 2 ^ 0 := by
    have q := own_step (own_be (own_vb v) 7) (own_vb v 7) _ _ h7 (by omega) (((own_low8 _).trans (own_low32 v)))
    rw [show (own_be (own_vb v) 8).toBitVec.toNat = _ from q]
    omega
  exact ⟨h0, h1, h2, h3, h4, h5, h6, h7, h8⟩
theorem own_eqL (a b : Int64) (h : a.toBitVec.toNat = b.toBitVec.toNat) : a = b := Int64.toBitVec_inj.mp (BitVec.eq_of_toNat_eq h)
theorem own_shn (v : Int64) (s : Int32) (k : Nat) (hk : s.toBitVec.toNat % 64 = k) : (jushrL v s).toBitVec.toNat = v.toBitVec.toNat / 2 ^ k := by
  rw [own_bvushrL, hk, BitVec.toNat_ushiftRight, Nat.shiftRight_eq_div_pow]
theorem own_res0 (p1 : Int32) (q1 : Int64) (ai : Int32) (hai : own_ok ai) (h : ai < (24 : Int32)) : own_arg (jb ((p1 &&& (224 : Int32)) ||| ai)) (own_vb q1) (own_mm ai) = (ai.toInt64) := by
  unfold own_arg
  rw [own_y p1 ai hai, if_pos h]
theorem own_res1 (p1 : Int32) (q1 : Int64) (ai : Int32) (hai : own_ok ai) (h : ¬ (ai < (24 : Int32)))  (hq : ai = (24 : Int32)) : own_arg (jb ((p1 &&& (224 : Int32)) ||| ai)) (own_vb q1) (own_mm ai) = (jushrL q1 (56 : Int32)) := by
  have hb := own_bes q1
  unfold own_arg
  rw [own_y p1 ai hai, if_neg h, hq, show own_mm (24 : Int32) = 1 from by decide +kernel]
  apply own_eqL
  rw [own_shn q1 (56 : Int32) 56 (by decide)]
  exact hb.2.1
theorem own_res2 (p1 : Int32) (q1 : Int64) (ai : Int32) (hai : own_ok ai) (h : ¬ (ai < (24 : Int32))) (h24 : ¬ (ai = (24 : Int32))) (hq : ai = (25 : Int32)) : own_arg (jb ((p1 &&& (224 : Int32)) ||| ai)) (own_vb q1) (own_mm ai) = (jushrL q1 (48 : Int32)) := by
  have hb := own_bes q1
  unfold own_arg
  rw [own_y p1 ai hai, if_neg h, hq, show own_mm (25 : Int32) = 2 from by decide +kernel]
  apply own_eqL
  rw [own_shn q1 (48 : Int32) 48 (by decide)]
  exact hb.2.2.1
theorem own_res3 (p1 : Int32) (q1 : Int64) (ai : Int32) (hai : own_ok ai) (h : ¬ (ai < (24 : Int32))) (h24 : ¬ (ai = (24 : Int32))) (h25 : ¬ (ai = (25 : Int32))) (hq : ai = (26 : Int32)) : own_arg (jb ((p1 &&& (224 : Int32)) ||| ai)) (own_vb q1) (own_mm ai) = (jushrL q1 (32 : Int32)) := by
  have hb := own_bes q1
  unfold own_arg
  rw [own_y p1 ai hai, if_neg h, hq, show own_mm (26 : Int32) = 4 from by decide +kernel]
  apply own_eqL
  rw [own_shn q1 (32 : Int32) 32 (by decide)]
  exact hb.2.2.2.2.1
theorem own_res4 (p1 : Int32) (q1 : Int64) (ai : Int32) (hai : own_ok ai) (h : ¬ (ai < (24 : Int32))) (h24 : ¬ (ai = (24 : Int32))) (h25 : ¬ (ai = (25 : Int32))) (h26 : ¬ (ai = (26 : Int32))) (hq : ai = (27 : Int32)) : own_arg (jb ((p1 &&& (224 : Int32)) ||| ai)) (own_vb q1) (own_mm ai) = q1 := by
  have hb := own_bes q1
  unfold own_arg
  rw [own_y p1 ai hai, if_neg h, hq, show own_mm (27 : Int32) = 8 from by decide +kernel]
  apply own_eqL
  rw [hb.2.2.2.2.2.2.2.2]
  omega
theorem own_res5 (p1 : Int32) (q1 : Int64) (ai : Int32) (hai : own_ok ai) (h : ¬ (ai < (24 : Int32))) (h24 : ¬ (ai = (24 : Int32))) (h25 : ¬ (ai = (25 : Int32))) (h26 : ¬ (ai = (26 : Int32))) (h27 : ¬ (ai = (27 : Int32))) : own_arg (jb ((p1 &&& (224 : Int32)) ||| ai)) (own_vb q1) (own_mm ai) = (0 : Int64) := by
  unfold own_arg
  rw [own_y p1 ai hai, if_neg h]
  unfold own_mm
  rw [if_neg h24, if_neg h25, if_neg h26, if_neg h27]
  rfl
theorem pn_7 : plainName "com/example/countermark/countermark/cbor/CborReaderArgumentPinLaw" = true := by first | (simp [plainName, overriddenIn]; done) | decide +kernel
theorem ef_rm0 (m : MethodId) (p1 : Int32) (p2 : Int32) (q1 : Int64) (q2 : Int64) : entryFrame m #[(.int p1), (.int p2), (.long q1), (.long q2)] maxLocals = mkF m 0 #[.val (.int p1), .val (.int p2), .val (.long q1), .second, .val (.long q2), .second, .unset, .unset, .unset, .unset, .unset, .unset, .unset] [] := by first | (simp [entryFrame, mkF, argsToLocals, Value.category, maxLocals]; done) | rfl
def Q_rm0 (Z : State) (p1 : Int32) (p2 : Int32) (q1 : Int64) (q2 : Int64) (h0 : Heap) (n0 : Nat) (v : Option Value) (h : Heap) (L : List Loc) : Prop := v = some (.int (1 : Int32)) ∧ Fr n0 L
set_option maxRecDepth 65536 in
set_option maxHeartbeats 40000000 in
theorem rm0 (l : Launch) (Z : State) (a0 : Array Value) (hw : ∀ d ∈ tables_1, d.before a0 Z = true) (ws : List Jvm.Cond) (p1 : Int32) (p2 : Int32) (q1 : Int64) (q2 : Int64) (h0 : Heap) (n0 : Nat) (Z0 : n0 ≤ h0.size)  :
    MetFree l x (head1 (Jvm.Cond.code x code maxLocals ret :: ws) room_1) (fun a U => a = #[(.int p1), (.int p2), (.long q1), (.long q2)] ∧ Z.Warmed39 U.vm ∧ U.heap = h0) (fun _ _ _ _ _ => True) (fun _ U o U' => ∃ v L, o = .returned v ∧ Q_rm0 Z p1 p2 q1 q2 h0 n0 v U'.heap L ∧ FrameEnd U o U' L room_1.cells room_1.slots) := by
  refine own_body (Q := Q_rm0 Z p1 p2 q1 q2 h0 n0) (plainFor_of_name pn_7) ?_
  intro p e s m below meth c s₁ K go fin X0 hx hby hml hown hnm hret hZ e0
  have hown : s.vm.findClass "com/example/countermark/countermark/cbor/CborReaderArgumentPinLaw" = some m.cls := hown
  have N0 := Fr.nil n0
  refine go _ (s₁.setTop (mkF m 0 #[.val (.int p1), .val (.int p2), .val (.long q1), .second, .val (.long q2), .second, .unset, .unset, .unset, .unset, .unset, .unset, .unset] [])) (fun t k => castTop (ef_rm0 m p1 p2 q1 q2) k) ?_
  obtain ⟨i, hi, hj0, hj1, hj2, hj3, hj4, hj5, hj6, hj7, hj8, hj9⟩ := own_ix p2
  refine go _ (s₁.setTop (mkF m 1 #[.val (.int p1), .val (.int p2), .val (.long q1), .second, .val (.long q2), .second, .unset, .unset, .unset, .unset, .unset, .unset, .unset] [(.int p1)])) (fun t k => XS.iloadN X0.here hx rfl (hb hby at_0) rfl k) ?_
  refine go _ (s₁.setTop (mkF m 3 #[.val (.int p1), .val (.int p2), .val (.long q1), .second, .val (.long q2), .second, .unset, .unset, .unset, .unset, .unset, .unset, .unset] [(.int (31 : Int32)), (.int p1)])) (fun t k => XS.bipush X0.here hx rfl (hb hby at_1) k) ?_
  refine go _ (s₁.setTop (mkF m 4 #[.val (.int p1), .val (.int p2), .val (.long q1), .second, .val (.long q2), .second, .unset, .unset, .unset, .unset, .unset, .unset, .unset] [(.int (p1 &&& (31 : Int32)))])) (fun t k => XS.iand X0.here hx rfl (hb hby at_3) rfl k) ?_
  refine go _ (s₁.setTop (mkF m 6 #[.val (.int p1), .val (.int p2), .val (.long q1), .second, .val (.long q2), .second, .val (.int (p1 &&& (31 : Int32))), .unset, .unset, .unset, .unset, .unset, .unset] [])) (fun t k => XS.istore X0.here hx rfl (hb hby at_4) rfl (l' := #[.val (.int p1), .val (.int p2), .val (.long q1), .second, .val (.long q2), .second, .val (.int (p1 &&& (31 : Int32))), .unset, .unset, .unset, .unset, .unset, .unset]) rfl k) ?_
  have tail : ∀ ai : Int32, own_ok ai → K (s₁.setTop (mkF m 26 #[.val (.int p1), .val (.int p2), .val (.long q1), .second, .val (.long q2), .second, .val (.int ai), .unset, .unset, .unset, .unset, .unset, .unset] [])) := by
    intro ai hai
    refine go _ (s₁.setTop (mkF m 27 #[.val (.int p1), .val (.int p2), .val (.long q1), .second, .val (.long q2), .second, .val (.int ai), .unset, .unset, .unset, .unset, .unset, .unset] [(.int p2)])) (fun t k => XS.iloadN X0.here hx rfl (hb hby at_26) rfl k) ?_
    refine go _ (s₁.setTop (mkF m 28 #[.val (.int p1), .val (.int p2), .val (.long q1), .second, .val (.long q2), .second, .val (.int ai), .unset, .unset, .unset, .unset, .unset, .unset] [(.int (3 : Int32)), (.int p2)])) (fun t k => XS.iconst X0.here hx rfl (hb hby at_27) k) ?_
    refine go _ (s₁.setTop (mkF m 29 #[.val (.int p1), .val (.int p2), .val (.long q1), .second, .val (.long q2), .second, .val (.int ai), .unset, .unset, .unset, .unset, .unset, .unset] [(.int (p2 &&& (3 : Int32)))])) (fun t k => XS.iand X0.here hx rfl (hb hby at_28) rfl k) ?_
    refine go _ (s₁.setTop (mkF m 31 #[.val (.int p1), .val (.int p2), .val (.long q1), .second, .val (.long q2), .second, .val (.int ai), .val (.int (p2 &&& (3 : Int32))), .unset, .unset, .unset, .unset, .unset] [])) (fun t k => XS.istore X0.here hx rfl (hb hby at_29) rfl (l' := #[.val (.int p1), .val (.int p2), .val (.long q1), .second, .val (.long q2), .second, .val (.int ai), .val (.int (p2 &&& (3 : Int32))), .unset, .unset, .unset, .unset, .unset]) rfl k) ?_
    refine go _ (s₁.setTop (mkF m 33 #[.val (.int p1), .val (.int p2), .val (.long q1), .second, .val (.long q2), .second, .val (.int ai), .val (.int (p2 &&& (3 : Int32))), .unset, .unset, .unset, .unset, .unset] [(.int (13 : Int32))])) (fun t k => XS.bipush X0.here hx rfl (hb hby at_31) k) ?_
    obtain ⟨T10, h10, b10, X10, e10, E10, g10, A10, st10⟩ := own_new X0 hx hZ (hw _ (List.mem_of_getElem? (i := 0) rfl)) e0 (g := (mkF m 33 #[.val (.int p1), .val (.int p2), .val (.long q1), .second, .val (.long q2), .second, .val (.int ai), .val (.int (p2 &&& (3 : Int32))), .unset, .unset, .unset, .unset, .unset] [(.int (13 : Int32))])) rfl (hb hby at_33) rfl (k := 13) (by decide) 13 (by decide) (by decide) (by decide) (by decide)
    have Z11 : n0 ≤ h10.size := Nat.le_trans Z0 E10.1
    have ge_b10 : n0 ≤ b10 := by rw [g10]; exact Z0
    have A10' : AF Z h10 b10 .byte 13 (fun _ => .int 0) := A10
    refine go _ (T10.setTop (mkF m 35 #[.val (.int p1), .val (.int p2), .val (.long q1), .second, .val (.long q2), .second, .val (.int ai), .val (.int (p2 &&& (3 : Int32))), .unset, .unset, .unset, .unset, .unset] [(.ref b10)])) (st10) ?_
    refine go _ (T10.setTop (mkF m 37 #[.val (.int p1), .val (.int p2), .val (.long q1), .second, .val (.long q2), .second, .val (.int ai), .val (.int (p2 &&& (3 : Int32))), .val (.ref b10), .unset, .unset, .unset, .unset] [])) (fun t k => XS.astore X10.here hx rfl (hb hby at_35) rfl rfl (l' := #[.val (.int p1), .val (.int p2), .val (.long q1), .second, .val (.long q2), .second, .val (.int ai), .val (.int (p2 &&& (3 : Int32))), .val (.ref b10), .unset, .unset, .unset, .unset]) rfl k) ?_
    refine go _ (T10.setTop (mkF m 39 #[.val (.int p1), .val (.int p2), .val (.long q1), .second, .val (.long q2), .second, .val (.int ai), .val (.int (p2 &&& (3 : Int32))), .val (.ref b10), .unset, .unset, .unset, .unset] [(.ref b10)])) (fun t k => XS.aload X10.here hx rfl (hb hby at_37) rfl rfl k) ?_
    refine go _ (T10.setTop (mkF m 40 #[.val (.int p1), .val (.int p2), .val (.long q1), .second, .val (.long q2), .second, .val (.int ai), .val (.int (p2 &&& (3 : Int32))), .val (.ref b10), .unset, .unset, .unset, .unset] [(.int (0 : Int32)), (.ref b10)])) (fun t k => XS.iconst X10.here hx rfl (hb hby at_39) k) ?_
    refine go _ (T10.setTop (mkF m 42 #[.val (.int p1), .val (.int p2), .val (.long q1), .second, .val (.long q2), .second, .val (.int ai), .val (.int (p2 &&& (3 : Int32))), .val (.ref b10), .unset, .unset, .unset, .unset] [(.long q2), (.int (0 : Int32)), (.ref b10)])) (fun t k => XS.lload X10.here hx rfl (hb hby at_40) rfl k) ?_
    refine go _ (T10.setTop (mkF m 43 #[.val (.int p1), .val (.int p2), .val (.long q1), .second, .val (.long q2), .second, .val (.int ai), .val (.int (p2 &&& (3 : Int32))), .val (.ref b10), .unset, .unset, .unset, .unset] [(.int (q2.toInt32)), (.int (0 : Int32)), (.ref b10)])) (fun t k => XS.l2i X10.here hx rfl (hb hby at_42) rfl k) ?_
    refine go _ (T10.setTop (mkF m 44 #[.val (.int p1), .val (.int p2), .val (.long q1), .second, .val (.long q2), .second, .val (.int ai), .val (.int (p2 &&& (3 : Int32))), .val (.ref b10), .unset, .unset, .unset, .unset] [(.int (jb (q2.toInt32))), (.int (0 : Int32)), (.ref b10)])) (fun t k => XS.i2b X10.here hx rfl (hb hby at_43) rfl k) ?_
    obtain ⟨T12, h12, X12, e12, W12, A12, st12⟩ := own_stB X10 hx hZ e10 A10' (i := 0) (by decide) (by decide) (own_narb (q2.toInt32)) (g := (mkF m 44 #[.val (.int p1), .val (.int p2), .val (.long q1), .second, .val (.long q2), .second, .val (.int ai), .val (.int (p2 &&& (3 : Int32))), .val (.ref b10), .unset, .unset, .unset, .unset] [(.int (jb (q2.toInt32))), (.int (0 : Int32)), (.ref b10)])) rfl rfl (hb hby at_44)
    have Z13 : n0 ≤ h12.size := by rw [W12.size]; exact Z11
    have N14 := Fr.snoc X12 N0 ge_b10
    refine go _ (T12.setTop (mkF m 45 #[.val (.int p1), .val (.int p2), .val (.long q1), .second, .val (.long q2), .second, .val (.int ai), .val (.int (p2 &&& (3 : Int32))), .val (.ref b10), .unset, .unset, .unset, .unset] [])) (st12) ?_
    refine go _ (T12.setTop (mkF m 47 #[.val (.int p1), .val (.int p2), .val (.long q1), .second, .val (.long q2), .second, .val (.int ai), .val (.int (p2 &&& (3 : Int32))), .val (.ref b10), .unset, .unset, .unset, .unset] [(.ref b10)])) (fun t k => XS.aload X12.here hx rfl (hb hby at_45) rfl rfl k) ?_
    refine go _ (T12.setTop (mkF m 48 #[.val (.int p1), .val (.int p2), .val (.long q1), .second, .val (.long q2), .second, .val (.int ai), .val (.int (p2 &&& (3 : Int32))), .val (.ref b10), .unset, .unset, .unset, .unset] [(.int (1 : Int32)), (.ref b10)])) (fun t k => XS.iconst X12.here hx rfl (hb hby at_47) k) ?_
    refine go _ (T12.setTop (mkF m 50 #[.val (.int p1), .val (.int p2), .val (.long q1), .second, .val (.long q2), .second, .val (.int ai), .val (.int (p2 &&& (3 : Int32))), .val (.ref b10), .unset, .unset, .unset, .unset] [(.long q2), (.int (1 : Int32)), (.ref b10)])) (fun t k => XS.lload X12.here hx rfl (hb hby at_48) rfl k) ?_
    refine go _ (T12.setTop (mkF m 52 #[.val (.int p1), .val (.int p2), .val (.long q1), .second, .val (.long q2), .second, .val (.int ai), .val (.int (p2 &&& (3 : Int32))), .val (.ref b10), .unset, .unset, .unset, .unset] [(.int (8 : Int32)), (.long q2), (.int (1 : Int32)), (.ref b10)])) (fun t k => XS.bipush X12.here hx rfl (hb hby at_50) k) ?_
    refine go _ (T12.setTop (mkF m 53 #[.val (.int p1), .val (.int p2), .val (.long q1), .second, .val (.long q2), .second, .val (.int ai), .val (.int (p2 &&& (3 : Int32))), .val (.ref b10), .unset, .unset, .unset, .unset] [(.long (jushrL q2 (8 : Int32))), (.int (1 : Int32)), (.ref b10)])) (fun t k => XS.lushr X12.here hx rfl (hb hby at_52) rfl k) ?_
    refine go _ (T12.setTop (mkF m 54 #[.val (.int p1), .val (.int p2), .val (.long q1), .second, .val (.long q2), .second, .val (.int ai), .val (.int (p2 &&& (3 : Int32))), .val (.ref b10), .unset, .unset, .unset, .unset] [(.int ((jushrL q2 (8 : Int32)).toInt32)), (.int (1 : Int32)), (.ref b10)])) (fun t k => XS.l2i X12.here hx rfl (hb hby at_53) rfl k) ?_
    refine go _ (T12.setTop (mkF m 55 #[.val (.int p1), .val (.int p2), .val (.long q1), .second, .val (.long q2), .second, .val (.int ai), .val (.int (p2 &&& (3 : Int32))), .val (.ref b10), .unset, .unset, .unset, .unset] [(.int (jb ((jushrL q2 (8 : Int32)).toInt32))), (.int (1 : Int32)), (.ref b10)])) (fun t k => XS.i2b X12.here hx rfl (hb hby at_54) rfl k) ?_
    obtain ⟨T15, h15, X15, e15, W15, A15, st15⟩ := own_stB X12 hx hZ e12 A12 (i := 1) (by decide) (by decide) (own_narb ((jushrL q2 (8 : Int32)).toInt32)) (g := (mkF m 55 #[.val (.int p1), .val (.int p2), .val (.long q1), .second, .val (.long q2), .second, .val (.int ai), .val (.int (p2 &&& (3 : Int32))), .val (.ref b10), .unset, .unset, .unset, .unset] [(.int (jb ((jushrL q2 (8 : Int32)).toInt32))), (.int (1 : Int32)), (.ref b10)])) rfl rfl (hb hby at_55)
    have Z16 : n0 ≤ h15.size := by rw [W15.size]; exact Z13
    have N17 := Fr.snoc X15 N14 ge_b10
    refine go _ (T15.setTop (mkF m 56 #[.val (.int p1), .val (.int p2), .val (.long q1), .second, .val (.long q2), .second, .val (.int ai), .val (.int (p2 &&& (3 : Int32))), .val (.ref b10), .unset, .unset, .unset, .unset] [])) (st15) ?_
    refine go _ (T15.setTop (mkF m 58 #[.val (.int p1), .val (.int p2), .val (.long q1), .second, .val (.long q2), .second, .val (.int ai), .val (.int (p2 &&& (3 : Int32))), .val (.ref b10), .unset, .unset, .unset, .unset] [(.ref b10)])) (fun t k => XS.aload X15.here hx rfl (hb hby at_56) rfl rfl k) ?_
    refine go _ (T15.setTop (mkF m 59 #[.val (.int p1), .val (.int p2), .val (.long q1), .second, .val (.long q2), .second, .val (.int ai), .val (.int (p2 &&& (3 : Int32))), .val (.ref b10), .unset, .unset, .unset, .unset] [(.int (2 : Int32)), (.ref b10)])) (fun t k => XS.iconst X15.here hx rfl (hb hby at_58) k) ?_
    refine go _ (T15.setTop (mkF m 61 #[.val (.int p1), .val (.int p2), .val (.long q1), .second, .val (.long q2), .second, .val (.int ai), .val (.int (p2 &&& (3 : Int32))), .val (.ref b10), .unset, .unset, .unset, .unset] [(.long q2), (.int (2 : Int32)), (.ref b10)])) (fun t k => XS.lload X15.here hx rfl (hb hby at_59) rfl k) ?_
    refine go _ (T15.setTop (mkF m 63 #[.val (.int p1), .val (.int p2), .val (.long q1), .second, .val (.long q2), .second, .val (.int ai), .val (.int (p2 &&& (3 : Int32))), .val (.ref b10), .unset, .unset, .unset, .unset] [(.int (16 : Int32)), (.long q2), (.int (2 : Int32)), (.ref b10)])) (fun t k => XS.bipush X15.here hx rfl (hb hby at_61) k) ?_
    refine go _ (T15.setTop (mkF m 64 #[.val (.int p1), .val (.int p2), .val (.long q1), .second, .val (.long q2), .second, .val (.int ai), .val (.int (p2 &&& (3 : Int32))), .val (.ref b10), .unset, .unset, .unset, .unset] [(.long (jushrL q2 (16 : Int32))), (.int (2 : Int32)), (.ref b10)])) (fun t k => XS.lushr X15.here hx rfl (hb hby at_63) rfl k) ?_
    refine go _ (T15.setTop (mkF m 65 #[.val (.int p1), .val (.int p2), .val (.long q1), .second, .val (.long q2), .second, .val (.int ai), .val (.int (p2 &&& (3 : Int32))), .val (.ref b10), .unset, .unset, .unset, .unset] [(.int ((jushrL q2 (16 : Int32)).toInt32)), (.int (2 : Int32)), (.ref b10)])) (fun t k => XS.l2i X15.here hx rfl (hb hby at_64) rfl k) ?_
    refine go _ (T15.setTop (mkF m 66 #[.val (.int p1), .val (.int p2), .val (.long q1), .second, .val (.long q2), .second, .val (.int ai), .val (.int (p2 &&& (3 : Int32))), .val (.ref b10), .unset, .unset, .unset, .unset] [(.int (jb ((jushrL q2 (16 : Int32)).toInt32))), (.int (2 : Int32)), (.ref b10)])) (fun t k => XS.i2b X15.here hx rfl (hb hby at_65) rfl k) ?_
    obtain ⟨T18, h18, X18, e18, W18, A18, st18⟩ := own_stB X15 hx hZ e15 A15 (i := 2) (by decide) (by decide) (own_narb ((jushrL q2 (16 : Int32)).toInt32)) (g := (mkF m 66 #[.val (.int p1), .val (.int p2), .val (.long q1), .second, .val (.long q2), .second, .val (.int ai), .val (.int (p2 &&& (3 : Int32))), .val (.ref b10), .unset, .unset, .unset, .unset] [(.int (jb ((jushrL q2 (16 : Int32)).toInt32))), (.int (2 : Int32)), (.ref b10)])) rfl rfl (hb hby at_66)
    have Z19 : n0 ≤ h18.size := by rw [W18.size]; exact Z16
    have N20 := Fr.snoc X18 N17 ge_b10
    refine go _ (T18.setTop (mkF m 67 #[.val (.int p1), .val (.int p2), .val (.long q1), .second, .val (.long q2), .second, .val (.int ai), .val (.int (p2 &&& (3 : Int32))), .val (.ref b10), .unset, .unset, .unset, .unset] [])) (st18) ?_
    refine go _ (T18.setTop (mkF m 69 #[.val (.int p1), .val (.int p2), .val (.long q1), .second, .val (.long q2), .second, .val (.int ai), .val (.int (p2 &&& (3 : Int32))), .val (.ref b10), .unset, .unset, .unset, .unset] [(.ref b10)])) (fun t k => XS.aload X18.here hx rfl (hb hby at_67) rfl rfl k) ?_
    refine go _ (T18.setTop (mkF m 71 #[.val (.int p1), .val (.int p2), .val (.long q1), .second, .val (.long q2), .second, .val (.int ai), .val (.int (p2 &&& (3 : Int32))), .val (.ref b10), .unset, .unset, .unset, .unset] [(.int (p2 &&& (3 : Int32))), (.ref b10)])) (fun t k => XS.iload X18.here hx rfl (hb hby at_69) rfl k) ?_
    refine go _ (T18.setTop (mkF m 72 #[.val (.int p1), .val (.int p2), .val (.long q1), .second, .val (.long q2), .second, .val (.int ai), .val (.int (p2 &&& (3 : Int32))), .val (.ref b10), .unset, .unset, .unset, .unset] [(.int p1), (.int (p2 &&& (3 : Int32))), (.ref b10)])) (fun t k => XS.iloadN X18.here hx rfl (hb hby at_71) rfl k) ?_
    refine go _ (T18.setTop (mkF m 75 #[.val (.int p1), .val (.int p2), .val (.long q1), .second, .val (.long q2), .second, .val (.int ai), .val (.int (p2 &&& (3 : Int32))), .val (.ref b10), .unset, .unset, .unset, .unset] [(.int (224 : Int32)), (.int p1), (.int (p2 &&& (3 : Int32))), (.ref b10)])) (fun t k => XS.sipush X18.here hx rfl (hb hby at_72) k) ?_
    refine go _ (T18.setTop (mkF m 76 #[.val (.int p1), .val (.int p2), .val (.long q1), .second, .val (.long q2), .second, .val (.int ai), .val (.int (p2 &&& (3 : Int32))), .val (.ref b10), .unset, .unset, .unset, .unset] [(.int (p1 &&& (224 : Int32))), (.int (p2 &&& (3 : Int32))), (.ref b10)])) (fun t k => XS.iand X18.here hx rfl (hb hby at_75) rfl k) ?_
    refine go _ (T18.setTop (mkF m 78 #[.val (.int p1), .val (.int p2), .val (.long q1), .second, .val (.long q2), .second, .val (.int ai), .val (.int (p2 &&& (3 : Int32))), .val (.ref b10), .unset, .unset, .unset, .unset] [(.int ai), (.int (p1 &&& (224 : Int32))), (.int (p2 &&& (3 : Int32))), (.ref b10)])) (fun t k => XS.iload X18.here hx rfl (hb hby at_76) rfl k) ?_
    refine go _ (T18.setTop (mkF m 79 #[.val (.int p1), .val (.int p2), .val (.long q1), .second, .val (.long q2), .second, .val (.int ai), .val (.int (p2 &&& (3 : Int32))), .val (.ref b10), .unset, .unset, .unset, .unset] [(.int ((p1 &&& (224 : Int32)) ||| ai)), (.int (p2 &&& (3 : Int32))), (.ref b10)])) (fun t k => XS.ior X18.here hx rfl (hb hby at_78) rfl k) ?_
    refine go _ (T18.setTop (mkF m 80 #[.val (.int p1), .val (.int p2), .val (.long q1), .second, .val (.long q2), .second, .val (.int ai), .val (.int (p2 &&& (3 : Int32))), .val (.ref b10), .unset, .unset, .unset, .unset] [(.int (jb ((p1 &&& (224 : Int32)) ||| ai))), (.int (p2 &&& (3 : Int32))), (.ref b10)])) (fun t k => XS.i2b X18.here hx rfl (hb hby at_79) rfl k) ?_
    obtain ⟨T21, h21, X21, e21, W21, A21, st21⟩ := own_stB X18 hx hZ e18 A18 (i := i) hj0 (by omega) (own_narb ((p1 &&& (224 : Int32)) ||| ai)) (g := (mkF m 80 #[.val (.int p1), .val (.int p2), .val (.long q1), .second, .val (.long q2), .second, .val (.int ai), .val (.int (p2 &&& (3 : Int32))), .val (.ref b10), .unset, .unset, .unset, .unset] [(.int (jb ((p1 &&& (224 : Int32)) ||| ai))), (.int (p2 &&& (3 : Int32))), (.ref b10)])) rfl rfl (hb hby at_80)
    have Z22 : n0 ≤ h21.size := by rw [W21.size]; exact Z19
    have N23 := Fr.snoc X21 N20 ge_b10
    refine go _ (T21.setTop (mkF m 81 #[.val (.int p1), .val (.int p2), .val (.long q1), .second, .val (.long q2), .second, .val (.int ai), .val (.int (p2 &&& (3 : Int32))), .val (.ref b10), .unset, .unset, .unset, .unset] [])) (st21) ?_
    refine go _ (T21.setTop (mkF m 83 #[.val (.int p1), .val (.int p2), .val (.long q1), .second, .val (.long q2), .second, .val (.int ai), .val (.int (p2 &&& (3 : Int32))), .val (.ref b10), .unset, .unset, .unset, .unset] [(.ref b10)])) (fun t k => XS.aload X21.here hx rfl (hb hby at_81) rfl rfl k) ?_
    refine go _ (T21.setTop (mkF m 85 #[.val (.int p1), .val (.int p2), .val (.long q1), .second, .val (.long q2), .second, .val (.int ai), .val (.int (p2 &&& (3 : Int32))), .val (.ref b10), .unset, .unset, .unset, .unset] [(.int (p2 &&& (3 : Int32))), (.ref b10)])) (fun t k => XS.iload X21.here hx rfl (hb hby at_83) rfl k) ?_
    refine go _ (T21.setTop (mkF m 86 #[.val (.int p1), .val (.int p2), .val (.long q1), .second, .val (.long q2), .second, .val (.int ai), .val (.int (p2 &&& (3 : Int32))), .val (.ref b10), .unset, .unset, .unset, .unset] [(.int (1 : Int32)), (.int (p2 &&& (3 : Int32))), (.ref b10)])) (fun t k => XS.iconst X21.here hx rfl (hb hby at_85) k) ?_
    refine go _ (T21.setTop (mkF m 87 #[.val (.int p1), .val (.int p2), .val (.long q1), .second, .val (.long q2), .second, .val (.int ai), .val (.int (p2 &&& (3 : Int32))), .val (.ref b10), .unset, .unset, .unset, .unset] [(.int ((p2 &&& (3 : Int32)) + (1 : Int32))), (.ref b10)])) (fun t k => XS.iadd X21.here hx rfl (hb hby at_86) rfl k) ?_
    refine go _ (T21.setTop (mkF m 88 #[.val (.int p1), .val (.int p2), .val (.long q1), .second, .val (.long q2), .second, .val (.int ai), .val (.int (p2 &&& (3 : Int32))), .val (.ref b10), .unset, .unset, .unset, .unset] [(.long q1), (.int ((p2 &&& (3 : Int32)) + (1 : Int32))), (.ref b10)])) (fun t k => XS.lloadN X21.here hx rfl (hb hby at_87) rfl k) ?_
    refine go _ (T21.setTop (mkF m 90 #[.val (.int p1), .val (.int p2), .val (.long q1), .second, .val (.long q2), .second, .val (.int ai), .val (.int (p2 &&& (3 : Int32))), .val (.ref b10), .unset, .unset, .unset, .unset] [(.int (56 : Int32)), (.long q1), (.int ((p2 &&& (3 : Int32)) + (1 : Int32))), (.ref b10)])) (fun t k => XS.bipush X21.here hx rfl (hb hby at_88) k) ?_
    refine go _ (T21.setTop (mkF m 91 #[.val (.int p1), .val (.int p2), .val (.long q1), .second, .val (.long q2), .second, .val (.int ai), .val (.int (p2 &&& (3 : Int32))), .val (.ref b10), .unset, .unset, .unset, .unset] [(.long (jushrL q1 (56 : Int32))), (.int ((p2 &&& (3 : Int32)) + (1 : Int32))), (.ref b10)])) (fun t k => XS.lushr X21.here hx rfl (hb hby at_90) rfl k) ?_
    refine go _ (T21.setTop (mkF m 92 #[.val (.int p1), .val (.int p2), .val (.long q1), .second, .val (.long q2), .second, .val (.int ai), .val (.int (p2 &&& (3 : Int32))), .val (.ref b10), .unset, .unset, .unset, .unset] [(.int ((jushrL q1 (56 : Int32)).toInt32)), (.int ((p2 &&& (3 : Int32)) + (1 : Int32))), (.ref b10)])) (fun t k => XS.l2i X21.here hx rfl (hb hby at_91) rfl k) ?_
    refine go _ (T21.setTop (mkF m 93 #[.val (.int p1), .val (.int p2), .val (.long q1), .second, .val (.long q2), .second, .val (.int ai), .val (.int (p2 &&& (3 : Int32))), .val (.ref b10), .unset, .unset, .unset, .unset] [(.int (jb ((jushrL q1 (56 : Int32)).toInt32))), (.int ((p2 &&& (3 : Int32)) + (1 : Int32))), (.ref b10)])) (fun t k => XS.i2b X21.here hx rfl (hb hby at_92) rfl k) ?_
    obtain ⟨T24, h24, X24, e24, W24, A24, st24⟩ := own_stB X21 hx hZ e21 A21 (i := (i + 1)) hj1 (by omega) (own_narb ((jushrL q1 (56 : Int32)).toInt32)) (g := (mkF m 93 #[.val (.int p1), .val (.int p2), .val (.long q1), .second, .val (.long q2), .second, .val (.int ai), .val (.int (p2 &&& (3 : Int32))), .val (.ref b10), .unset, .unset, .unset, .unset] [(.int (jb ((jushrL q1 (56 : Int32)).toInt32))), (.int ((p2 &&& (3 : Int32)) + (1 : Int32))), (.ref b10)])) rfl rfl (hb hby at_93)
    have Z25 : n0 ≤ h24.size := by rw [W24.size]; exact Z22
    have N26 := Fr.snoc X24 N23 ge_b10
    refine go _ (T24.setTop (mkF m 94 #[.val (.int p1), .val (.int p2), .val (.long q1), .second, .val (.long q2), .second, .val (.int ai), .val (.int (p2 &&& (3 : Int32))), .val (.ref b10), .unset, .unset, .unset, .unset] [])) (st24) ?_
    refine go _ (T24.setTop (mkF m 96 #[.val (.int p1), .val (.int p2), .val (.long q1), .second, .val (.long q2), .second, .val (.int ai), .val (.int (p2 &&& (3 : Int32))), .val (.ref b10), .unset, .unset, .unset, .unset] [(.ref b10)])) (fun t k => XS.aload X24.here hx rfl (hb hby at_94) rfl rfl k) ?_
    refine go _ (T24.setTop (mkF m 98 #[.val (.int p1), .val (.int p2), .val (.long q1), .second, .val (.long q2), .second, .val (.int ai), .val (.int (p2 &&& (3 : Int32))), .val (.ref b10), .unset, .unset, .unset, .unset] [(.int (p2 &&& (3 : Int32))), (.ref b10)])) (fun t k => XS.iload X24.here hx rfl (hb hby at_96) rfl k) ?_
    refine go _ (T24.setTop (mkF m 99 #[.val (.int p1), .val (.int p2), .val (.long q1), .second, .val (.long q2), .second, .val (.int ai), .val (.int (p2 &&& (3 : Int32))), .val (.ref b10), .unset, .unset, .unset, .unset] [(.int (2 : Int32)), (.int (p2 &&& (3 : Int32))), (.ref b10)])) (fun t k => XS.iconst X24.here hx rfl (hb hby at_98) k) ?_
    refine go _ (T24.setTop (mkF m 100 #[.val (.int p1), .val (.int p2), .val (.long q1), .second, .val (.long q2), .second, .val (.int ai), .val (.int (p2 &&& (3 : Int32))), .val (.ref b10), .unset, .unset, .unset, .unset] [(.int ((p2 &&& (3 : Int32)) + (2 : Int32))), (.ref b10)])) (fun t k => XS.iadd X24.here hx rfl (hb hby at_99) rfl k) ?_
    refine go _ (T24.setTop (mkF m 101 #[.val (.int p1), .val (.int p2), .val (.long q1), .second, .val (.long q2), .second, .val (.int ai), .val (.int (p2 &&& (3 : Int32))), .val (.ref b10), .unset, .unset, .unset, .unset] [(.long q1), (.int ((p2 &&& (3 : Int32)) + (2 : Int32))), (.ref b10)])) (fun t k => XS.lloadN X24.here hx rfl (hb hby at_100) rfl k) ?_
    refine go _ (T24.setTop (mkF m 103 #[.val (.int p1), .val (.int p2), .val (.long q1), .second, .val (.long q2), .second, .val (.int ai), .val (.int (p2 &&& (3 : Int32))), .val (.ref b10), .unset, .unset, .unset, .unset] [(.int (48 : Int32)), (.long q1), (.int ((p2 &&& (3 : Int32)) + (2 : Int32))), (.ref b10)])) (fun t k => XS.bipush X24.here hx rfl (hb hby at_101) k) ?_
    refine go _ (T24.setTop (mkF m 104 #[.val (.int p1), .val (.int p2), .val (.long q1), .second, .val (.long q2), .second, .val (.int ai), .val (.int (p2 &&& (3 : Int32))), .val (.ref b10), .unset, .unset, .unset, .unset] [(.long (jushrL q1 (48 : Int32))), (.int ((p2 &&& (3 : Int32)) + (2 : Int32))), (.ref b10)])) (fun t k => XS.lushr X24.here hx rfl (hb hby at_103) rfl k) ?_
    refine go _ (T24.setTop (mkF m 105 #[.val (.int p1), .val (.int p2), .val (.long q1), .second, .val (.long q2), .second, .val (.int ai), .val (.int (p2 &&& (3 : Int32))), .val (.ref b10), .unset, .unset, .unset, .unset] [(.int ((jushrL q1 (48 : Int32)).toInt32)), (.int ((p2 &&& (3 : Int32)) + (2 : Int32))), (.ref b10)])) (fun t k => XS.l2i X24.here hx rfl (hb hby at_104) rfl k) ?_
    refine go _ (T24.setTop (mkF m 106 #[.val (.int p1), .val (.int p2), .val (.long q1), .second, .val (.long q2), .second, .val (.int ai), .val (.int (p2 &&& (3 : Int32))), .val (.ref b10), .unset, .unset, .unset, .unset] [(.int (jb ((jushrL q1 (48 : Int32)).toInt32))), (.int ((p2 &&& (3 : Int32)) + (2 : Int32))), (.ref b10)])) (fun t k => XS.i2b X24.here hx rfl (hb hby at_105) rfl k) ?_
    obtain ⟨T27, h27, X27, e27, W27, A27, st27⟩ := own_stB X24 hx hZ e24 A24 (i := (i + 2)) hj2 (by omega) (own_narb ((jushrL q1 (48 : Int32)).toInt32)) (g := (mkF m 106 #[.val (.int p1), .val (.int p2), .val (.long q1), .second, .val (.long q2), .second, .val (.int ai), .val (.int (p2 &&& (3 : Int32))), .val (.ref b10), .unset, .unset, .unset, .unset] [(.int (jb ((jushrL q1 (48 : Int32)).toInt32))), (.int ((p2 &&& (3 : Int32)) + (2 : Int32))), (.ref b10)])) rfl rfl (hb hby at_106)
    have Z28 : n0 ≤ h27.size := by rw [W27.size]; exact Z25
    have N29 := Fr.snoc X27 N26 ge_b10
    refine go _ (T27.setTop (mkF m 107 #[.val (.int p1), .val (.int p2), .val (.long q1), .second, .val (.long q2), .second, .val (.int ai), .val (.int (p2 &&& (3 : Int32))), .val (.ref b10), .unset, .unset, .unset, .unset] [])) (st27) ?_
    refine go _ (T27.setTop (mkF m 109 #[.val (.int p1), .val (.int p2), .val (.long q1), .second, .val (.long q2), .second, .val (.int ai), .val (.int (p2 &&& (3 : Int32))), .val (.ref b10), .unset, .unset, .unset, .unset] [(.ref b10)])) (fun t k => XS.aload X27.here hx rfl (hb hby at_107) rfl rfl k) ?_
    refine go _ (T27.setTop (mkF m 111 #[.val (.int p1), .val (.int p2), .val (.long q1), .second, .val (.long q2), .second, .val (.int ai), .val (.int (p2 &&& (3 : Int32))), .val (.ref b10), .unset, .unset, .unset, .unset] [(.int (p2 &&& (3 : Int32))), (.ref b10)])) (fun t k => XS.iload X27.here hx rfl (hb hby at_109) rfl k) ?_
    refine go _ (T27.setTop (mkF m 112 #[.val (.int p1), .val (.int p2), .val (.long q1), .second, .val (.long q2), .second, .val (.int ai), .val (.int (p2 &&& (3 : Int32))), .val (.ref b10), .unset, .unset, .unset, .unset] [(.int (3 : Int32)), (.int (p2 &&& (3 : Int32))), (.ref b10)])) (fun t k => XS.iconst X27.here hx rfl (hb hby at_111) k) ?_
    refine go _ (T27.setTop (mkF m 113 #[.val (.int p1), .val (.int p2), .val (.long q1), .second, .val (.long q2), .second, .val (.int ai), .val (.int (p2 &&& (3 : Int32))), .val (.ref b10), .unset, .unset, .unset, .unset] [(.int ((p2 &&& (3 : Int32)) + (3 : Int32))), (.ref b10)])) (fun t k => XS.iadd X27.here hx rfl (hb hby at_112) rfl k) ?_
    refine go _ (T27.setTop (mkF m 114 #[.val (.int p1), .val (.int p2), .val (.long q1), .second, .val (.long q2), .second, .val (.int ai), .val (.int (p2 &&& (3 : Int32))), .val (.ref b10), .unset, .unset, .unset, .unset] [(.long q1), (.int ((p2 &&& (3 : Int32)) + (3 : Int32))), (.ref b10)])) (fun t k => XS.lloadN X27.here hx rfl (hb hby at_113) rfl k) ?_
    refine go _ (T27.setTop (mkF m 116 #[.val (.int p1), .val (.int p2), .val (.long q1), .second, .val (.long q2), .second, .val (.int ai), .val (.int (p2 &&& (3 : Int32))), .val (.ref b10), .unset, .unset, .unset, .unset] [(.int (40 : Int32)), (.long q1), (.int ((p2 &&& (3 : Int32)) + (3 : Int32))), (.ref b10)])) (fun t k => XS.bipush X27.here hx rfl (hb hby at_114) k) ?_
    refine go _ (T27.setTop (mkF m 117 #[.val (.int p1), .val (.int p2), .val (.long q1), .second, .val (.long q2), .second, .val (.int ai), .val (.int (p2 &&& (3 : Int32))), .val (.ref b10), .unset, .unset, .unset, .unset] [(.long (jushrL q1 (40 : Int32))), (.int ((p2 &&& (3 : Int32)) + (3 : Int32))), (.ref b10)])) (fun t k => XS.lushr X27.here hx rfl (hb hby at_116) rfl k) ?_
    refine go _ (T27.setTop (mkF m 118 #[.val (.int p1), .val (.int p2), .val (.long q1), .second, .val (.long q2), .second, .val (.int ai), .val (.int (p2 &&& (3 : Int32))), .val (.ref b10), .unset, .unset, .unset, .unset] [(.int ((jushrL q1 (40 : Int32)).toInt32)), (.int ((p2 &&& (3 : Int32)) + (3 : Int32))), (.ref b10)])) (fun t k => XS.l2i X27.here hx rfl (hb hby at_117) rfl k) ?_
    refine go _ (T27.setTop (mkF m 119 #[.val (.int p1), .val (.int p2), .val (.long q1), .second, .val (.long q2), .second, .val (.int ai), .val (.int (p2 &&& (3 : Int32))), .val (.ref b10), .unset, .unset, .unset, .unset] [(.int (jb ((jushrL q1 (40 : Int32)).toInt32))), (.int ((p2 &&& (3 : Int32)) + (3 : Int32))), (.ref b10)])) (fun t k => XS.i2b X27.here hx rfl (hb hby at_118) rfl k) ?_
    obtain ⟨T30, h30, X30, e30, W30, A30, st30⟩ := own_stB X27 hx hZ e27 A27 (i := (i + 3)) hj3 (by omega) (own_narb ((jushrL q1 (40 : Int32)).toInt32)) (g := (mkF m 119 #[.val (.int p1), .val (.int p2), .val (.long q1), .second, .val (.long q2), .second, .val (.int ai), .val (.int (p2 &&& (3 : Int32))), .val (.ref b10), .unset, .unset, .unset, .unset] [(.int (jb ((jushrL q1 (40 : Int32)).toInt32))), (.int ((p2 &&& (3 : Int32)) + (3 : Int32))), (.ref b10)])) rfl rfl (hb hby at_119)
    have Z31 : n0 ≤ h30.size := by rw [W30.size]; exact Z28
    have N32 := Fr.snoc X30 N29 ge_b10
    refine go _ (T30.setTop (mkF m 120 #[.val (.int p1), .val (.int p2), .val (.long q1), .second, .val (.long q2), .second, .val (.int ai), .val (.int (p2 &&& (3 : Int32))), .val (.ref b10), .unset, .unset, .unset, .unset] [])) (st30) ?_
    refine go _ (T30.setTop (mkF m 122 #[.val (.int p1), .val (.int p2), .val (.long q1), .second, .val (.long q2), .second, .val (.int ai), .val (.int (p2 &&& (3 : Int32))), .val (.ref b10), .unset, .unset, .unset, .unset] [(.ref b10)])) (fun t k => XS.aload X30.here hx rfl (hb hby at_120) rfl rfl k) ?_
    refine go _ (T30.setTop (mkF m 124 #[.val (.int p1), .val (.int p2), .val (.long q1), .second, .val (.long q2), .second, .val (.int ai), .val (.int (p2 &&& (3 : Int32))), .val (.ref b10), .unset, .unset, .unset, .unset] [(.int (p2 &&& (3 : Int32))), (.ref b10)])) (fun t k => XS.iload X30.here hx rfl (hb hby at_122) rfl k) ?_
    refine go _ (T30.setTop (mkF m 125 #[.val (.int p1), .val (.int p2), .val (.long q1), .second, .val (.long q2), .second, .val (.int ai), .val (.int (p2 &&& (3 : Int32))), .val (.ref b10), .unset, .unset, .unset, .unset] [(.int (4 : Int32)), (.int (p2 &&& (3 : Int32))), (.ref b10)])) (fun t k => XS.iconst X30.here hx rfl (hb hby at_124) k) ?_
    refine go _ (T30.setTop (mkF m 126 #[.val (.int p1), .val (.int p2), .val (.long q1), .second, .val (.long q2), .second, .val (.int ai), .val (.int (p2 &&& (3 : Int32))), .val (.ref b10), .unset, .unset, .unset, .unset] [(.int ((p2 &&& (3 : Int32)) + (4 : Int32))), (.ref b10)])) (fun t k => XS.iadd X30.here hx rfl (hb hby at_125) rfl k) ?_
    refine go _ (T30.setTop (mkF m 127 #[.val (.int p1), .val (.int p2), .val (.long q1), .second, .val (.long q2), .second, .val (.int ai), .val (.int (p2 &&& (3 : Int32))), .val (.ref b10), .unset, .unset, .unset, .unset] [(.long q1), (.int ((p2 &&& (3 : Int32)) + (4 : Int32))), (.ref b10)])) (fun t k => XS.lloadN X30.here hx rfl (hb hby at_126) rfl k) ?_
    refine go _ (T30.setTop (mkF m 129 #[.val (.int p1), .val (.int p2), .val (.long q1), .second, .val (.long q2), .second, .val (.int ai), .val (.int (p2 &&& (3 : Int32))), .val (.ref b10), .unset, .unset, .unset, .unset] [(.int (32 : Int32)), (.long q1), (.int ((p2 &&& (3 : Int32)) + (4 : Int32))), (.ref b10)])) (fun t k => XS.bipush X30.here hx rfl (hb hby at_127) k) ?_
    refine go _ (T30.setTop (mkF m 130 #[.val (.int p1), .val (.int p2), .val (.long q1), .second, .val (.long q2), .second, .val (.int ai), .val (.int (p2 &&& (3 : Int32))), .val (.ref b10), .unset, .unset, .unset, .unset] [(.long (jushrL q1 (32 : Int32))), (.int ((p2 &&& (3 : Int32)) + (4 : Int32))), (.ref b10)])) (fun t k => XS.lushr X30.here hx rfl (hb hby at_129) rfl k) ?_
    refine go _ (T30.setTop (mkF m 131 #[.val (.int p1), .val (.int p2), .val (.long q1), .second, .val (.long q2), .second, .val (.int ai), .val (.int (p2 &&& (3 : Int32))), .val (.ref b10), .unset, .unset, .unset, .unset] [(.int ((jushrL q1 (32 : Int32)).toInt32)), (.int ((p2 &&& (3 : Int32)) + (4 : Int32))), (.ref b10)])) (fun t k => XS.l2i X30.here hx rfl (hb hby at_130) rfl k) ?_
    refine go _ (T30.setTop (mkF m 132 #[.val (.int p1), .val (.int p2), .val (.long q1), .second, .val (.long q2), .second, .val (.int ai), .val (.int (p2 &&& (3 : Int32))), .val (.ref b10), .unset, .unset, .unset, .unset] [(.int (jb ((jushrL q1 (32 : Int32)).toInt32))), (.int ((p2 &&& (3 : Int32)) + (4 : Int32))), (.ref b10)])) (fun t k => XS.i2b X30.here hx rfl (hb hby at_131) rfl k) ?_
    obtain ⟨T33, h33, X33, e33, W33, A33, st33⟩ := own_stB X30 hx hZ e30 A30 (i := (i + 4)) hj4 (by omega) (own_narb ((jushrL q1 (32 : Int32)).toInt32)) (g := (mkF m 132 #[.val (.int p1), .val (.int p2), .val (.long q1), .second, .val (.long q2), .second, .val (.int ai), .val (.int (p2 &&& (3 : Int32))), .val (.ref b10), .unset, .unset, .unset, .unset] [(.int (jb ((jushrL q1 (32 : Int32)).toInt32))), (.int ((p2 &&& (3 : Int32)) + (4 : Int32))), (.ref b10)])) rfl rfl (hb hby at_132)
    have Z34 : n0 ≤ h33.size := by rw [W33.size]; exact Z31
    have N35 := Fr.snoc X33 N32 ge_b10
    refine go _ (T33.setTop (mkF m 133 #[.val (.int p1), .val (.int p2), .val (.long q1), .second, .val (.long q2), .second, .val (.int ai), .val (.int (p2 &&& (3 : Int32))), .val (.ref b10), .unset, .unset, .unset, .unset] [])) (st33) ?_
    refine go _ (T33.setTop (mkF m 135 #[.val (.int p1), .val (.int p2), .val (.long q1), .second, .val (.long q2), .second, .val (.int ai), .val (.int (p2 &&& (3 : Int32))), .val (.ref b10), .unset, .unset, .unset, .unset] [(.ref b10)])) (fun t k => XS.aload X33.here hx rfl (hb hby at_133) rfl rfl k) ?_
    refine go _ (T33.setTop (mkF m 137 #[.val (.int p1), .val (.int p2), .val (.long q1), .second, .val (.long q2), .second, .val (.int ai), .val (.int (p2 &&& (3 : Int32))), .val (.ref b10), .unset, .unset, .unset, .unset] [(.int (p2 &&& (3 : Int32))), (.ref b10)])) (fun t k => XS.iload X33.here hx rfl (hb hby at_135) rfl k) ?_
    refine go _ (T33.setTop (mkF m 138 #[.val (.int p1), .val (.int p2), .val (.long q1), .second, .val (.long q2), .second, .val (.int ai), .val (.int (p2 &&& (3 : Int32))), .val (.ref b10), .unset, .unset, .unset, .unset] [(.int (5 : Int32)), (.int (p2 &&& (3 : Int32))), (.ref b10)])) (fun t k => XS.iconst X33.here hx rfl (hb hby at_137) k) ?_
    refine go _ (T33.setTop (mkF m 139 #[.val (.int p1), .val (.int p2), .val (.long q1), .second, .val (.long q2), .second, .val (.int ai), .val (.int (p2 &&& (3 : Int32))), .val (.ref b10), .unset, .unset, .unset, .unset] [(.int ((p2 &&& (3 : Int32)) + (5 : Int32))), (.ref b10)])) (fun t k => XS.iadd X33.here hx rfl (hb hby at_138) rfl k) ?_
    refine go _ (T33.setTop (mkF m 140 #[.val (.int p1), .val (.int p2), .val (.long q1), .second, .val (.long q2), .second, .val (.int ai), .val (.int (p2 &&& (3 : Int32))), .val (.ref b10), .unset, .unset, .unset, .unset] [(.long q1), (.int ((p2 &&& (3 : Int32)) + (5 : Int32))), (.ref b10)])) (fun t k => XS.lloadN X33.here hx rfl (hb hby at_139) rfl k) ?_
    refine go _ (T33.setTop (mkF m 142 #[.val (.int p1), .val (.int p2), .val (.long q1), .second, .val (.long q2), .second, .val (.int ai), .val (.int (p2 &&& (3 : Int32))), .val (.ref b10), .unset, .unset, .unset, .unset] [(.int (24 : Int32)), (.long q1), (.int ((p2 &&& (3 : Int32)) + (5 : Int32))), (.ref b10)])) (fun t k => XS.bipush X33.here hx rfl (hb hby at_140) k) ?_
    refine go _ (T33.setTop (mkF m 143 #[.val (.int p1), .val (.int p2), .val (.long q1), .second, .val (.long q2), .second, .val (.int ai), .val (.int (p2 &&& (3 : Int32))), .val (.ref b10), .unset, .unset, .unset, .unset] [(.long (jushrL q1 (24 : Int32))), (.int ((p2 &&& (3 : Int32)) + (5 : Int32))), (.ref b10)])) (fun t k => XS.lushr X33.here hx rfl (hb hby at_142) rfl k) ?_
    refine go _ (T33.setTop (mkF m 144 #[.val (.int p1), .val (.int p2), .val (.long q1), .second, .val (.long q2), .second, .val (.int ai), .val (.int (p2 &&& (3 : Int32))), .val (.ref b10), .unset, .unset, .unset, .unset] [(.int ((jushrL q1 (24 : Int32)).toInt32)), (.int ((p2 &&& (3 : Int32)) + (5 : Int32))), (.ref b10)])) (fun t k => XS.l2i X33.here hx rfl (hb hby at_143) rfl k) ?_
    refine go _ (T33.setTop (mkF m 145 #[.val (.int p1), .val (.int p2), .val (.long q1), .second, .val (.long q2), .second, .val (.int ai), .val (.int (p2 &&& (3 : Int32))), .val (.ref b10), .unset, .unset, .unset, .unset] [(.int (jb ((jushrL q1 (24 : Int32)).toInt32))), (.int ((p2 &&& (3 : Int32)) + (5 : Int32))), (.ref b10)])) (fun t k => XS.i2b X33.here hx rfl (hb hby at_144) rfl k) ?_
    obtain ⟨T36, h36, X36, e36, W36, A36, st36⟩ := own_stB X33 hx hZ e33 A33 (i := (i + 5)) hj5 (by omega) (own_narb ((jushrL q1 (24 : Int32)).toInt32)) (g := (mkF m 145 #[.val (.int p1), .val (.int p2), .val (.long q1), .second, .val (.long q2), .second, .val (.int ai), .val (.int (p2 &&& (3 : Int32))), .val (.ref b10), .unset, .unset, .unset, .unset] [(.int (jb ((jushrL q1 (24 : Int32)).toInt32))), (.int ((p2 &&& (3 : Int32)) + (5 : Int32))), (.ref b10)])) rfl rfl (hb hby at_145)
    have Z37 : n0 ≤ h36.size := by rw [W36.size]; exact Z34
    have N38 := Fr.snoc X36 N35 ge_b10
    refine go _ (T36.setTop (mkF m 146 #[.val (.int p1), .val (.int p2), .val (.long q1), .second, .val (.long q2), .second, .val (.int ai), .val (.int (p2 &&& (3 : Int32))), .val (.ref b10), .unset, .unset, .unset, .unset] [])) (st36) ?_
    refine go _ (T36.setTop (mkF m 148 #[.val (.int p1), .val (.int p2), .val (.long q1), .second, .val (.long q2), .second, .val (.int ai), .val (.int (p2 &&& (3 : Int32))), .val (.ref b10), .unset, .unset, .unset, .unset] [(.ref b10)])) (fun t k => XS.aload X36.here hx rfl (hb hby at_146) rfl rfl k) ?_
    refine go _ (T36.setTop (mkF m 150 #[.val (.int p1), .val (.int p2), .val (.long q1), .second, .val (.long q2), .second, .val (.int ai), .val (.int (p2 &&& (3 : Int32))), .val (.ref b10), .unset, .unset, .unset, .unset] [(.int (p2 &&& (3 : Int32))), (.ref b10)])) (fun t k => XS.iload X36.here hx rfl (hb hby at_148) rfl k) ?_
    refine go _ (T36.setTop (mkF m 152 #[.val (.int p1), .val (.int p2), .val (.long q1), .second, .val (.long q2), .second, .val (.int ai), .val (.int (p2 &&& (3 : Int32))), .val (.ref b10), .unset, .unset, .unset, .unset] [(.int (6 : Int32)), (.int (p2 &&& (3 : Int32))), (.ref b10)])) (fun t k => XS.bipush X36.here hx rfl (hb hby at_150) k) ?_
    refine go _ (T36.setTop (mkF m 153 #[.val (.int p1), .val (.int p2), .val (.long q1), .second, .val (.long q2), .second, .val (.int ai), .val (.int (p2 &&& (3 : Int32))), .val (.ref b10), .unset, .unset, .unset, .unset] [(.int ((p2 &&& (3 : Int32)) + (6 : Int32))), (.ref b10)])) (fun t k => XS.iadd X36.here hx rfl (hb hby at_152) rfl k) ?_
    refine go _ (T36.setTop (mkF m 154 #[.val (.int p1), .val (.int p2), .val (.long q1), .second, .val (.long q2), .second, .val (.int ai), .val (.int (p2 &&& (3 : Int32))), .val (.ref b10), .unset, .unset, .unset, .unset] [(.long q1), (.int ((p2 &&& (3 : Int32)) + (6 : Int32))), (.ref b10)])) (fun t k => XS.lloadN X36.here hx rfl (hb hby at_153) rfl k) ?_
    refine go _ (T36.setTop (mkF m 156 #[.val (.int p1), .val (.int p2), .val (.long q1), .second, .val (.long q2), .second, .val (.int ai), .val (.int (p2 &&& (3 : Int32))), .val (.ref b10), .unset, .unset, .unset, .unset] [(.int (16 : Int32)), (.long q1), (.int ((p2 &&& (3 : Int32)) + (6 : Int32))), (.ref b10)])) (fun t k => XS.bipush X36.here hx rfl (hb hby at_154) k) ?_
    refine go _ (T36.setTop (mkF m 157 #[.val (.int p1), .val (.int p2), .val (.long q1), .second, .val (.long q2), .second, .val (.int ai), .val (.int (p2 &&& (3 : Int32))), .val (.ref b10), .unset, .unset, .unset, .unset] [(.long (jushrL q1 (16 : Int32))), (.int ((p2 &&& (3 : Int32)) + (6 : Int32))), (.ref b10)])) (fun t k => XS.lushr X36.here hx rfl (hb hby at_156) rfl k) ?_
    refine go _ (T36.setTop (mkF m 158 #[.val (.int p1), .val (.int p2), .val (.long q1), .second, .val (.long q2), .second, .val (.int ai), .val (.int (p2 &&& (3 : Int32))), .val (.ref b10), .unset, .unset, .unset, .unset] [(.int ((jushrL q1 (16 : Int32)).toInt32)), (.int ((p2 &&& (3 : Int32)) + (6 : Int32))), (.ref b10)])) (fun t k => XS.l2i X36.here hx rfl (hb hby at_157) rfl k) ?_
    refine go _ (T36.setTop (mkF m 159 #[.val (.int p1), .val (.int p2), .val (.long q1), .second, .val (.long q2), .second, .val (.int ai), .val (.int (p2 &&& (3 : Int32))), .val (.ref b10), .unset, .unset, .unset, .unset] [(.int (jb ((jushrL q1 (16 : Int32)).toInt32))), (.int ((p2 &&& (3 : Int32)) + (6 : Int32))), (.ref b10)])) (fun t k => XS.i2b X36.here hx rfl (hb hby at_158) rfl k) ?_
    obtain ⟨T39, h39, X39, e39, W39, A39, st39⟩ := own_stB X36 hx hZ e36 A36 (i := (i + 6)) hj6 (by omega) (own_narb ((jushrL q1 (16 : Int32)).toInt32)) (g := (mkF m 159 #[.val (.int p1), .val (.int p2), .val (.long q1), .second, .val (.long q2), .second, .val (.int ai), .val (.int (p2 &&& (3 : Int32))), .val (.ref b10), .unset, .unset, .unset, .unset] [(.int (jb ((jushrL q1 (16 : Int32)).toInt32))), (.int ((p2 &&& (3 : Int32)) + (6 : Int32))), (.ref b10)])) rfl rfl (hb hby at_159)
    have Z40 : n0 ≤ h39.size := by rw [W39.size]; exact Z37
    have N41 := Fr.snoc X39 N38 ge_b10
    refine go _ (T39.setTop (mkF m 160 #[.val (.int p1), .val (.int p2), .val (.long q1), .second, .val (.long q2), .second, .val (.int ai), .val (.int (p2 &&& (3 : Int32))), .val (.ref b10), .unset, .unset, .unset, .unset] [])) (st39) ?_
    refine go _ (T39.setTop (mkF m 162 #[.val (.int p1), .val (.int p2), .val (.long q1), .second, .val (.long q2), .second, .val (.int ai), .val (.int (p2 &&& (3 : Int32))), .val (.ref b10), .unset, .unset, .unset, .unset] [(.ref b10)])) (fun t k => XS.aload X39.here hx rfl (hb hby at_160) rfl rfl k) ?_
    refine go _ (T39.setTop (mkF m 164 #[.val (.int p1), .val (.int p2), .val (.long q1), .second, .val (.long q2), .second, .val (.int ai), .val (.int (p2 &&& (3 : Int32))), .val (.ref b10), .unset, .unset, .unset, .unset] [(.int (p2 &&& (3 : Int32))), (.ref b10)])) (fun t k => XS.iload X39.here hx rfl (hb hby at_162) rfl k) ?_
    refine go _ (T39.setTop (mkF m 166 #[.val (.int p1), .val (.int p2), .val (.long q1), .second, .val (.long q2), .second, .val (.int ai), .val (.int (p2 &&& (3 : Int32))), .val (.ref b10), .unset, .unset, .unset, .unset] [(.int (7 : Int32)), (.int (p2 &&& (3 : Int32))), (.ref b10)])) (fun t k => XS.bipush X39.here hx rfl (hb hby at_164) k) ?_
    refine go _ (T39.setTop (mkF m 167 #[.val (.int p1), .val (.int p2), .val (.long q1), .second, .val (.long q2), .second, .val (.int ai), .val (.int (p2 &&& (3 : Int32))), .val (.ref b10), .unset, .unset, .unset, .unset] [(.int ((p2 &&& (3 : Int32)) + (7 : Int32))), (.ref b10)])) (fun t k => XS.iadd X39.here hx rfl (hb hby at_166) rfl k) ?_
    refine go _ (T39.setTop (mkF m 168 #[.val (.int p1), .val (.int p2), .val (.long q1), .second, .val (.long q2), .second, .val (.int ai), .val (.int (p2 &&& (3 : Int32))), .val (.ref b10), .unset, .unset, .unset, .unset] [(.long q1), (.int ((p2 &&& (3 : Int32)) + (7 : Int32))), (.ref b10)])) (fun t k => XS.lloadN X39.here hx rfl (hb hby at_167) rfl k) ?_
    refine go _ (T39.setTop (mkF m 170 #[.val (.int p1), .val (.int p2), .val (.long q1), .second, .val (.long q2), .second, .val (.int ai), .val (.int (p2 &&& (3 : Int32))), .val (.ref b10), .unset, .unset, .unset, .unset] [(.int (8 : Int32)), (.long q1), (.int ((p2 &&& (3 : Int32)) + (7 : Int32))), (.ref b10)])) (fun t k => XS.bipush X39.here hx rfl (hb hby at_168) k) ?_
    refine go _ (T39.setTop (mkF m 171 #[.val (.int p1), .val (.int p2), .val (.long q1), .second, .val (.long q2), .second, .val (.int ai), .val (.int (p2 &&& (3 : Int32))), .val (.ref b10), .unset, .unset, .unset, .unset] [(.long (jushrL q1 (8 : Int32))), (.int ((p2 &&& (3 : Int32)) + (7 : Int32))), (.ref b10)])) (fun t k => XS.lushr X39.here hx rfl (hb hby at_170) rfl k) ?_
    refine go _ (T39.setTop (mkF m 172 #[.val (.int p1), .val (.int p2), .val (.long q1), .second, .val (.long q2), .second, .val (.int ai), .val (.int (p2 &&& (3 : Int32))), .val (.ref b10), .unset, .unset, .unset, .unset] [(.int ((jushrL q1 (8 : Int32)).toInt32)), (.int ((p2 &&& (3 : Int32)) + (7 : Int32))), (.ref b10)])) (fun t k => XS.l2i X39.here hx rfl (hb hby at_171) rfl k) ?_
    refine go _ (T39.setTop (mkF m 173 #[.val (.int p1), .val (.int p2), .val (.long q1), .second, .val (.long q2), .second, .val (.int ai), .val (.int (p2 &&& (3 : Int32))), .val (.ref b10), .unset, .unset, .unset, .unset] [(.int (jb ((jushrL q1 (8 : Int32)).toInt32))), (.int ((p2 &&& (3 : Int32)) + (7 : Int32))), (.ref b10)])) (fun t k => XS.i2b X39.here hx rfl (hb hby at_172) rfl k) ?_
    obtain ⟨T42, h42, X42, e42, W42, A42, st42⟩ := own_stB X39 hx hZ e39 A39 (i := (i + 7)) hj7 (by omega) (own_narb ((jushrL q1 (8 : Int32)).toInt32)) (g := (mkF m 173 #[.val (.int p1), .val (.int p2), .val (.long q1), .second, .val (.long q2), .second, .val (.int ai), .val (.int (p2 &&& (3 : Int32))), .val (.ref b10), .unset, .unset, .unset, .unset] [(.int (jb ((jushrL q1 (8 : Int32)).toInt32))), (.int ((p2 &&& (3 : Int32)) + (7 : Int32))), (.ref b10)])) rfl rfl (hb hby at_173)
    have Z43 : n0 ≤ h42.size := by rw [W42.size]; exact Z40
    have N44 := Fr.snoc X42 N41 ge_b10
    refine go _ (T42.setTop (mkF m 174 #[.val (.int p1), .val (.int p2), .val (.long q1), .second, .val (.long q2), .second, .val (.int ai), .val (.int (p2 &&& (3 : Int32))), .val (.ref b10), .unset, .unset, .unset, .unset] [])) (st42) ?_
    refine go _ (T42.setTop (mkF m 176 #[.val (.int p1), .val (.int p2), .val (.long q1), .second, .val (.long q2), .second, .val (.int ai), .val (.int (p2 &&& (3 : Int32))), .val (.ref b10), .unset, .unset, .unset, .unset] [(.ref b10)])) (fun t k => XS.aload X42.here hx rfl (hb hby at_174) rfl rfl k) ?_
    refine go _ (T42.setTop (mkF m 178 #[.val (.int p1), .val (.int p2), .val (.long q1), .second, .val (.long q2), .second, .val (.int ai), .val (.int (p2 &&& (3 : Int32))), .val (.ref b10), .unset, .unset, .unset, .unset] [(.int (p2 &&& (3 : Int32))), (.ref b10)])) (fun t k => XS.iload X42.here hx rfl (hb hby at_176) rfl k) ?_
    refine go _ (T42.setTop (mkF m 180 #[.val (.int p1), .val (.int p2), .val (.long q1), .second, .val (.long q2), .second, .val (.int ai), .val (.int (p2 &&& (3 : Int32))), .val (.ref b10), .unset, .unset, .unset, .unset] [(.int (8 : Int32)), (.int (p2 &&& (3 : Int32))), (.ref b10)])) (fun t k => XS.bipush X42.here hx rfl (hb hby at_178) k) ?_
    refine go _ (T42.setTop (mkF m 181 #[.val (.int p1), .val (.int p2), .val (.long q1), .second, .val (.long q2), .second, .val (.int ai), .val (.int (p2 &&& (3 : Int32))), .val (.ref b10), .unset, .unset, .unset, .unset] [(.int ((p2 &&& (3 : Int32)) + (8 : Int32))), (.ref b10)])) (fun t k => XS.iadd X42.here hx rfl (hb hby at_180) rfl k) ?_
    refine go _ (T42.setTop (mkF m 182 #[.val (.int p1), .val (.int p2), .val (.long q1), .second, .val (.long q2), .second, .val (.int ai), .val (.int (p2 &&& (3 : Int32))), .val (.ref b10), .unset, .unset, .unset, .unset] [(.long q1), (.int ((p2 &&& (3 : Int32)) + (8 : Int32))), (.ref b10)])) (fun t k => XS.lloadN X42.here hx rfl (hb hby at_181) rfl k) ?_
    refine go _ (T42.setTop (mkF m 183 #[.val (.int p1), .val (.int p2), .val (.long q1), .second, .val (.long q2), .second, .val (.int ai), .val (.int (p2 &&& (3 : Int32))), .val (.ref b10), .unset, .unset, .unset, .unset] [(.int (q1.toInt32)), (.int ((p2 &&& (3 : Int32)) + (8 : Int32))), (.ref b10)])) (fun t k => XS.l2i X42.here hx rfl (hb hby at_182) rfl k) ?_
    refine go _ (T42.setTop (mkF m 184 #[.val (.int p1), .val (.int p2), .val (.long q1), .second, .val (.long q2), .second, .val (.int ai), .val (.int (p2 &&& (3 : Int32))), .val (.ref b10), .unset, .unset, .unset, .unset] [(.int (jb (q1.toInt32))), (.int ((p2 &&& (3 : Int32)) + (8 : Int32))), (.ref b10)])) (fun t k => XS.i2b X42.here hx rfl (hb hby at_183) rfl k) ?_
    obtain ⟨T45, h45, X45, e45, W45, A45, st45⟩ := own_stB X42 hx hZ e42 A42 (i := (i + 8)) hj8 (by omega) (own_narb (q1.toInt32)) (g := (mkF m 184 #[.val (.int p1), .val (.int p2), .val (.long q1), .second, .val (.long q2), .second, .val (.int ai), .val (.int (p2 &&& (3 : Int32))), .val (.ref b10), .unset, .unset, .unset, .unset] [(.int (jb (q1.toInt32))), (.int ((p2 &&& (3 : Int32)) + (8 : Int32))), (.ref b10)])) rfl rfl (hb hby at_184)
    have Z46 : n0 ≤ h45.size := by rw [W45.size]; exact Z43
    have N47 := Fr.snoc X45 N44 ge_b10
    refine go _ (T45.setTop (mkF m 185 #[.val (.int p1), .val (.int p2), .val (.long q1), .second, .val (.long q2), .second, .val (.int ai), .val (.int (p2 &&& (3 : Int32))), .val (.ref b10), .unset, .unset, .unset, .unset] [])) (st45) ?_
    refine go _ (T45.setTop (mkF m 187 #[.val (.int p1), .val (.int p2), .val (.long q1), .second, .val (.long q2), .second, .val (.int ai), .val (.int (p2 &&& (3 : Int32))), .val (.ref b10), .unset, .unset, .unset, .unset] [(.ref b10)])) (fun t k => XS.aload X45.here hx rfl (hb hby at_185) rfl rfl k) ?_
    refine go _ (T45.setTop (mkF m 189 #[.val (.int p1), .val (.int p2), .val (.long q1), .second, .val (.long q2), .second, .val (.int ai), .val (.int (p2 &&& (3 : Int32))), .val (.ref b10), .unset, .unset, .unset, .unset] [(.int (p2 &&& (3 : Int32))), (.ref b10)])) (fun t k => XS.iload X45.here hx rfl (hb hby at_187) rfl k) ?_
    refine go _ (T45.setTop (mkF m 191 #[.val (.int p1), .val (.int p2), .val (.long q1), .second, .val (.long q2), .second, .val (.int ai), .val (.int (p2 &&& (3 : Int32))), .val (.ref b10), .unset, .unset, .unset, .unset] [(.int (9 : Int32)), (.int (p2 &&& (3 : Int32))), (.ref b10)])) (fun t k => XS.bipush X45.here hx rfl (hb hby at_189) k) ?_
    refine go _ (T45.setTop (mkF m 192 #[.val (.int p1), .val (.int p2), .val (.long q1), .second, .val (.long q2), .second, .val (.int ai), .val (.int (p2 &&& (3 : Int32))), .val (.ref b10), .unset, .unset, .unset, .unset] [(.int ((p2 &&& (3 : Int32)) + (9 : Int32))), (.ref b10)])) (fun t k => XS.iadd X45.here hx rfl (hb hby at_191) rfl k) ?_
    refine go _ (T45.setTop (mkF m 194 #[.val (.int p1), .val (.int p2), .val (.long q1), .second, .val (.long q2), .second, .val (.int ai), .val (.int (p2 &&& (3 : Int32))), .val (.ref b10), .unset, .unset, .unset, .unset] [(.long q2), (.int ((p2 &&& (3 : Int32)) + (9 : Int32))), (.ref b10)])) (fun t k => XS.lload X45.here hx rfl (hb hby at_192) rfl k) ?_
    refine go _ (T45.setTop (mkF m 196 #[.val (.int p1), .val (.int p2), .val (.long q1), .second, .val (.long q2), .second, .val (.int ai), .val (.int (p2 &&& (3 : Int32))), .val (.ref b10), .unset, .unset, .unset, .unset] [(.int (24 : Int32)), (.long q2), (.int ((p2 &&& (3 : Int32)) + (9 : Int32))), (.ref b10)])) (fun t k => XS.bipush X45.here hx rfl (hb hby at_194) k) ?_
    refine go _ (T45.setTop (mkF m 197 #[.val (.int p1), .val (.int p2), .val (.long q1), .second, .val (.long q2), .second, .val (.int ai), .val (.int (p2 &&& (3 : Int32))), .val (.ref b10), .unset, .unset, .unset, .unset] [(.long (jushrL q2 (24 : Int32))), (.int ((p2 &&& (3 : Int32)) + (9 : Int32))), (.ref b10)])) (fun t k => XS.lushr X45.here hx rfl (hb hby at_196) rfl k) ?_
    refine go _ (T45.setTop (mkF m 198 #[.val (.int p1), .val (.int p2), .val (.long q1), .second, .val (.long q2), .second, .val (.int ai), .val (.int (p2 &&& (3 : Int32))), .val (.ref b10), .unset, .unset, .unset, .unset] [(.int ((jushrL q2 (24 : Int32)).toInt32)), (.int ((p2 &&& (3 : Int32)) + (9 : Int32))), (.ref b10)])) (fun t k => XS.l2i X45.here hx rfl (hb hby at_197) rfl k) ?_
    refine go _ (T45.setTop (mkF m 199 #[.val (.int p1), .val (.int p2), .val (.long q1), .second, .val (.long q2), .second, .val (.int ai), .val (.int (p2 &&& (3 : Int32))), .val (.ref b10), .unset, .unset, .unset, .unset] [(.int (jb ((jushrL q2 (24 : Int32)).toInt32))), (.int ((p2 &&& (3 : Int32)) + (9 : Int32))), (.ref b10)])) (fun t k => XS.i2b X45.here hx rfl (hb hby at_198) rfl k) ?_
    obtain ⟨T48, h48, X48, e48, W48, A48, st48⟩ := own_stB X45 hx hZ e45 A45 (i := (i + 9)) hj9 (by omega) (own_narb ((jushrL q2 (24 : Int32)).toInt32)) (g := (mkF m 199 #[.val (.int p1), .val (.int p2), .val (.long q1), .second, .val (.long q2), .second, .val (.int ai), .val (.int (p2 &&& (3 : Int32))), .val (.ref b10), .unset, .unset, .unset, .unset] [(.int (jb ((jushrL q2 (24 : Int32)).toInt32))), (.int ((p2 &&& (3 : Int32)) + (9 : Int32))), (.ref b10)])) rfl rfl (hb hby at_199)
    have Z49 : n0 ≤ h48.size := by rw [W48.size]; exact Z46
    have N50 := Fr.snoc X48 N47 ge_b10
    have hv := own_hv A48
    have hg := own_hg q1 A48
    refine go _ (T48.setTop (mkF m 200 #[.val (.int p1), .val (.int p2), .val (.long q1), .second, .val (.long q2), .second, .val (.int ai), .val (.int (p2 &&& (3 : Int32))), .val (.ref b10), .unset, .unset, .unset, .unset] [])) (st48) ?_
    refine go _ (T48.setTop (mkF m 202 #[.val (.int p1), .val (.int p2), .val (.long q1), .second, .val (.long q2), .second, .val (.int ai), .val (.int (p2 &&& (3 : Int32))), .val (.ref b10), .unset, .unset, .unset, .unset] [(.ref b10)])) (fun t k => XS.aload X48.here hx rfl (hb hby at_200) rfl rfl k) ?_
    refine go _ (T48.setTop (mkF m 204 #[.val (.int p1), .val (.int p2), .val (.long q1), .second, .val (.long q2), .second, .val (.int ai), .val (.int (p2 &&& (3 : Int32))), .val (.ref b10), .unset, .unset, .unset, .unset] [(.int (p2 &&& (3 : Int32))), (.ref b10)])) (fun t k => XS.iload X48.here hx rfl (hb hby at_202) rfl k) ?_
    obtain ⟨_, _, ⟨T51, L51, k51, n51⟩, -, X51, ⟨Lc51, hQ51, l51, y51, z51⟩, st51⟩ := Jvm.LawKit.callS X48 hx (y := (⟨"com/example/countermark/countermark/cbor/CborReader", "argument", "([BI)J"⟩ : MethodName)) hown (mvT hZ (hw _ (List.mem_of_getElem? (i := 1) rfl))) (mvT hZ (hw _ (List.mem_of_getElem? (i := 2) rfl))) (mvT hZ (hw _ (List.mem_of_getElem? (i := 3) rfl))) (mvT hZ (hw _ (List.mem_of_getElem? (i := 4) rfl))) (by decide) (backOf (W := 0) (rm1 l Z a0 hw [] b10 (p2 &&& (3 : Int32)) _ 13 i (jb ((p1 &&& (224 : Int32)) ||| ai)) (own_vb q1) (own_mm ai) h48 n0 Z49 A48 hj0 (own_mmi hi ai) hv (fun t ht => hg t (Nat.lt_of_lt_of_le ht (own_mm8 ai))) (own_hm0 p1 ai hai) (own_mm8 ai)) hZ (hw _ (List.mem_of_getElem? (i := 4) rfl)) (hw _ (List.mem_of_getElem? (i := 3) rfl)) (by decide) (by decide)) (g := (mkF m 204 #[.val (.int p1), .val (.int p2), .val (.long q1), .second, .val (.long q2), .second, .val (.int ai), .val (.int (p2 &&& (3 : Int32))), .val (.ref b10), .unset, .unset, .unset, .unset] [(.int (p2 &&& (3 : Int32))), (.ref b10)])) rfl (by rw [hml]; rfl) (argsL := [(.ref b10), (.int (p2 &&& (3 : Int32)))]) (rest := []) (lenOf pd_2 rfl) rfl (by show 2 * 0 + _ ≤ _; exact Nat.le_of_eq rfl) (hb hby at_204) (fun _ _ => ⟨rfl, e48, (by decide : 0 + 1 + 0 ≤ _), (by decide : 0 + 13 + 0 ≤ _)⟩)
    dsimp only [Pt.U, Pt.locs, Pt.cells, Pt.slots] at X51 l51 y51 z51 st51 hQ51
    subst l51 y51 z51
    obtain ⟨rfl, Nq51, hh51⟩ := hQ51
    have N52 := Fr.app N50 Nq51
    refine go _ (T51.setTop (mkF m 207 #[.val (.int p1), .val (.int p2), .val (.long q1), .second, .val (.long q2), .second, .val (.int ai), .val (.int (p2 &&& (3 : Int32))), .val (.ref b10), .unset, .unset, .unset, .unset] [(.long (own_arg (jb ((p1 &&& (224 : Int32)) ||| ai)) (own_vb q1) (own_mm ai)))])) (st51) ?_
    refine go _ (T51.setTop (mkF m 209 #[.val (.int p1), .val (.int p2), .val (.long q1), .second, .val (.long q2), .second, .val (.int ai), .val (.int (p2 &&& (3 : Int32))), .val (.ref b10), .val (.long (own_arg (jb ((p1 &&& (224 : Int32)) ||| ai)) (own_vb q1) (own_mm ai))), .second, .unset, .unset] [])) (fun t k => XS.lstore X51.here hx rfl (hb hby at_207) rfl (l' := #[.val (.int p1), .val (.int p2), .val (.long q1), .second, .val (.long q2), .second, .val (.int ai), .val (.int (p2 &&& (3 : Int32))), .val (.ref b10), .val (.long (own_arg (jb ((p1 &&& (224 : Int32)) ||| ai)) (own_vb q1) (own_mm ai))), .second, .unset, .unset]) rfl k) ?_
    refine go _ (T51.setTop (mkF m 211 #[.val (.int p1), .val (.int p2), .val (.long q1), .second, .val (.long q2), .second, .val (.int ai), .val (.int (p2 &&& (3 : Int32))), .val (.ref b10), .val (.long (own_arg (jb ((p1 &&& (224 : Int32)) ||| ai)) (own_vb q1) (own_mm ai))), .second, .unset, .unset] [(.int ai)])) (fun t k => XS.iload X51.here hx rfl (hb hby at_209) rfl k) ?_
    refine go _ (T51.setTop (mkF m 213 #[.val (.int p1), .val (.int p2), .val (.long q1), .second, .val (.long q2), .second, .val (.int ai), .val (.int (p2 &&& (3 : Int32))), .val (.ref b10), .val (.long (own_arg (jb ((p1 &&& (224 : Int32)) ||| ai)) (own_vb q1) (own_mm ai))), .second, .unset, .unset] [(.int (24 : Int32)), (.int ai)])) (fun t k => XS.bipush X51.here hx rfl (hb hby at_211) k) ?_
    by_cases hc53 : ai < (24 : Int32)
    · refine go _ (T51.setTop (mkF m 216 #[.val (.int p1), .val (.int p2), .val (.long q1), .second, .val (.long q2), .second, .val (.int ai), .val (.int (p2 &&& (3 : Int32))), .val (.ref b10), .val (.long (own_arg (jb ((p1 &&& (224 : Int32)) ||| ai)) (own_vb q1) (own_mm ai))), .second, .unset, .unset] [])) (fun t k => XS.icmpNo X51.here hx rfl (hb hby at_213) rfl (tlt hc53).2.1 k) ?_
      refine go _ (T51.setTop (mkF m 218 #[.val (.int p1), .val (.int p2), .val (.long q1), .second, .val (.long q2), .second, .val (.int ai), .val (.int (p2 &&& (3 : Int32))), .val (.ref b10), .val (.long (own_arg (jb ((p1 &&& (224 : Int32)) ||| ai)) (own_vb q1) (own_mm ai))), .second, .unset, .unset] [(.int ai)])) (fun t k => XS.iload X51.here hx rfl (hb hby at_216) rfl k) ?_
      refine go _ (T51.setTop (mkF m 219 #[.val (.int p1), .val (.int p2), .val (.long q1), .second, .val (.long q2), .second, .val (.int ai), .val (.int (p2 &&& (3 : Int32))), .val (.ref b10), .val (.long (own_arg (jb ((p1 &&& (224 : Int32)) ||| ai)) (own_vb q1) (own_mm ai))), .second, .unset, .unset] [(.long (ai.toInt64))])) (fun t k => XS.i2l X51.here hx rfl (hb hby at_218) rfl k) ?_
      refine go _ (T51.setTop (mkF m 221 #[.val (.int p1), .val (.int p2), .val (.long q1), .second, .val (.long q2), .second, .val (.int ai), .val (.int (p2 &&& (3 : Int32))), .val (.ref b10), .val (.long (own_arg (jb ((p1 &&& (224 : Int32)) ||| ai)) (own_vb q1) (own_mm ai))), .second, .val (.long (ai.toInt64)), .second] [])) (fun t k => XS.lstore X51.here hx rfl (hb hby at_219) rfl (l' := #[.val (.int p1), .val (.int p2), .val (.long q1), .second, .val (.long q2), .second, .val (.int ai), .val (.int (p2 &&& (3 : Int32))), .val (.ref b10), .val (.long (own_arg (jb ((p1 &&& (224 : Int32)) ||| ai)) (own_vb q1) (own_mm ai))), .second, .val (.long (ai.toInt64)), .second]) rfl k) ?_
      refine go _ (T51.setTop (mkF m 288 #[.val (.int p1), .val (.int p2), .val (.long q1), .second, .val (.long q2), .second, .val (.int ai), .val (.int (p2 &&& (3 : Int32))), .val (.ref b10), .val (.long (own_arg (jb ((p1 &&& (224 : Int32)) ||| ai)) (own_vb q1) (own_mm ai))), .second, .val (.long (ai.toInt64)), .second] [])) (fun t k => XS.goto X51.here hx rfl (pc0 := 221) (pc' := 288) rfl (hb hby at_221) (by decide) (by decide) k) ?_
      refine go _ (T51.setTop (mkF m 290 #[.val (.int p1), .val (.int p2), .val (.long q1), .second, .val (.long q2), .second, .val (.int ai), .val (.int (p2 &&& (3 : Int32))), .val (.ref b10), .val (.long (own_arg (jb ((p1 &&& (224 : Int32)) ||| ai)) (own_vb q1) (own_mm ai))), .second, .val (.long (ai.toInt64)), .second] [(.long (own_arg (jb ((p1 &&& (224 : Int32)) ||| ai)) (own_vb q1) (own_mm ai)))])) (fun t k => XS.lload X51.here hx rfl (hb hby at_288) rfl k) ?_
      refine go _ (T51.setTop (mkF m 292 #[.val (.int p1), .val (.int p2), .val (.long q1), .second, .val (.long q2), .second, .val (.int ai), .val (.int (p2 &&& (3 : Int32))), .val (.ref b10), .val (.long (own_arg (jb ((p1 &&& (224 : Int32)) ||| ai)) (own_vb q1) (own_mm ai))), .second, .val (.long (ai.toInt64)), .second] [(.long (ai.toInt64)), (.long (own_arg (jb ((p1 &&& (224 : Int32)) ||| ai)) (own_vb q1) (own_mm ai)))])) (fun t k => XS.lload X51.here hx rfl (hb hby at_290) rfl k) ?_
      refine go _ (T51.setTop (mkF m 293 #[.val (.int p1), .val (.int p2), .val (.long q1), .second, .val (.long q2), .second, .val (.int ai), .val (.int (p2 &&& (3 : Int32))), .val (.ref b10), .val (.long (own_arg (jb ((p1 &&& (224 : Int32)) ||| ai)) (own_vb q1) (own_mm ai))), .second, .val (.long (ai.toInt64)), .second] [(.int (lcmpW (own_arg (jb ((p1 &&& (224 : Int32)) ||| ai)) (own_vb q1) (own_mm ai)) (ai.toInt64)))])) (fun t k => XS.lcmp X51.here hx rfl (hb hby at_292) rfl k) ?_
      have hc54 : ((own_arg (jb ((p1 &&& (224 : Int32)) ||| ai)) (own_vb q1) (own_mm ai)) = (ai.toInt64)) := own_res0 p1 q1 ai hai hc53
      refine go _ (T51.setTop (mkF m 296 #[.val (.int p1), .val (.int p2), .val (.long q1), .second, .val (.long q2), .second, .val (.int ai), .val (.int (p2 &&& (3 : Int32))), .val (.ref b10), .val (.long (own_arg (jb ((p1 &&& (224 : Int32)) ||| ai)) (own_vb q1) (own_mm ai))), .second, .val (.long (ai.toInt64)), .second] [])) (fun t k => XS.ifNo X51.here hx rfl (hb hby at_293) rfl ((if0 _ _).trans (teq ((lw_eq (own_arg (jb ((p1 &&& (224 : Int32)) ||| ai)) (own_vb q1) (own_mm ai)) (ai.toInt64)).mpr hc54)).2) k) ?_
      refine go _ (T51.setTop (mkF m 297 #[.val (.int p1), .val (.int p2), .val (.long q1), .second, .val (.long q2), .second, .val (.int ai), .val (.int (p2 &&& (3 : Int32))), .val (.ref b10), .val (.long (own_arg (jb ((p1 &&& (224 : Int32)) ||| ai)) (own_vb q1) (own_mm ai))), .second, .val (.long (ai.toInt64)), .second] [(.int (1 : Int32))])) (fun t k => XS.iconst X51.here hx rfl (hb hby at_296) k) ?_
      refine go _ (T51.setTop (mkF m 301 #[.val (.int p1), .val (.int p2), .val (.long q1), .second, .val (.long q2), .second, .val (.int ai), .val (.int (p2 &&& (3 : Int32))), .val (.ref b10), .val (.long (own_arg (jb ((p1 &&& (224 : Int32)) ||| ai)) (own_vb q1) (own_mm ai))), .second, .val (.long (ai.toInt64)), .second] [(.int (1 : Int32))])) (fun t k => XS.goto X51.here hx rfl (pc0 := 297) (pc' := 301) rfl (hb hby at_297) (by decide) (by decide) k) ?_
      exact fin (some (.int (1 : Int32))) X51 (by decide) (by decide) (fun q => by cases q) (show Q_rm0 Z p1 p2 q1 q2 h0 n0 _ T51.heap _ from (by rw [hh51]; exact ⟨rfl, N52⟩)) (fun fs hr => retN X51 hx (t := .boolean) hret (by simp) (hb hby at_301) hr)
    · refine go _ (T51.setTop (mkF m 224 #[.val (.int p1), .val (.int p2), .val (.long q1), .second, .val (.long q2), .second, .val (.int ai), .val (.int (p2 &&& (3 : Int32))), .val (.ref b10), .val (.long (own_arg (jb ((p1 &&& (224 : Int32)) ||| ai)) (own_vb q1) (own_mm ai))), .second, .unset, .unset] [])) (fun t k => XS.icmpYes X51.here hx rfl (pc0 := 213) (pc' := 224) rfl (hb hby at_213) rfl (flt hc53).2.1 (by decide) (by decide) k) ?_
      refine go _ (T51.setTop (mkF m 226 #[.val (.int p1), .val (.int p2), .val (.long q1), .second, .val (.long q2), .second, .val (.int ai), .val (.int (p2 &&& (3 : Int32))), .val (.ref b10), .val (.long (own_arg (jb ((p1 &&& (224 : Int32)) ||| ai)) (own_vb q1) (own_mm ai))), .second, .unset, .unset] [(.int ai)])) (fun t k => XS.iload X51.here hx rfl (hb hby at_224) rfl k) ?_
      refine go _ (T51.setTop (mkF m 228 #[.val (.int p1), .val (.int p2), .val (.long q1), .second, .val (.long q2), .second, .val (.int ai), .val (.int (p2 &&& (3 : Int32))), .val (.ref b10), .val (.long (own_arg (jb ((p1 &&& (224 : Int32)) ||| ai)) (own_vb q1) (own_mm ai))), .second, .unset, .unset] [(.int (24 : Int32)), (.int ai)])) (fun t k => XS.bipush X51.here hx rfl (hb hby at_226) k) ?_
      by_cases hc55 : ai = (24 : Int32)
      · refine go _ (T51.setTop (mkF m 231 #[.val (.int p1), .val (.int p2), .val (.long q1), .second, .val (.long q2), .second, .val (.int ai), .val (.int (p2 &&& (3 : Int32))), .val (.ref b10), .val (.long (own_arg (jb ((p1 &&& (224 : Int32)) ||| ai)) (own_vb q1) (own_mm ai))), .second, .unset, .unset] [])) (fun t k => XS.icmpNo X51.here hx rfl (hb hby at_228) rfl (teq hc55).2 k) ?_
        refine go _ (T51.setTop (mkF m 232 #[.val (.int p1), .val (.int p2), .val (.long q1), .second, .val (.long q2), .second, .val (.int ai), .val (.int (p2 &&& (3 : Int32))), .val (.ref b10), .val (.long (own_arg (jb ((p1 &&& (224 : Int32)) ||| ai)) (own_vb q1) (own_mm ai))), .second, .unset, .unset] [(.long q1)])) (fun t k => XS.lloadN X51.here hx rfl (hb hby at_231) rfl k) ?_
        refine go _ (T51.setTop (mkF m 234 #[.val (.int p1), .val (.int p2), .val (.long q1), .second, .val (.long q2), .second, .val (.int ai), .val (.int (p2 &&& (3 : Int32))), .val (.ref b10), .val (.long (own_arg (jb ((p1 &&& (224 : Int32)) ||| ai)) (own_vb q1) (own_mm ai))), .second, .unset, .unset] [(.int (56 : Int32)), (.long q1)])) (fun t k => XS.bipush X51.here hx rfl (hb hby at_232) k) ?_
        refine go _ (T51.setTop (mkF m 235 #[.val (.int p1), .val (.int p2), .val (.long q1), .second, .val (.long q2), .second, .val (.int ai), .val (.int (p2 &&& (3 : Int32))), .val (.ref b10), .val (.long (own_arg (jb ((p1 &&& (224 : Int32)) ||| ai)) (own_vb q1) (own_mm ai))), .second, .unset, .unset] [(.long (jushrL q1 (56 : Int32)))])) (fun t k => XS.lushr X51.here hx rfl (hb hby at_234) rfl k) ?_
        refine go _ (T51.setTop (mkF m 237 #[.val (.int p1), .val (.int p2), .val (.long q1), .second, .val (.long q2), .second, .val (.int ai), .val (.int (p2 &&& (3 : Int32))), .val (.ref b10), .val (.long (own_arg (jb ((p1 &&& (224 : Int32)) ||| ai)) (own_vb q1) (own_mm ai))), .second, .val (.long (jushrL q1 (56 : Int32))), .second] [])) (fun t k => XS.lstore X51.here hx rfl (hb hby at_235) rfl (l' := #[.val (.int p1), .val (.int p2), .val (.long q1), .second, .val (.long q2), .second, .val (.int ai), .val (.int (p2 &&& (3 : Int32))), .val (.ref b10), .val (.long (own_arg (jb ((p1 &&& (224 : Int32)) ||| ai)) (own_vb q1) (own_mm ai))), .second, .val (.long (jushrL q1 (56 : Int32))), .second]) rfl k) ?_
        refine go _ (T51.setTop (mkF m 288 #[.val (.int p1), .val (.int p2), .val (.long q1), .second, .val (.long q2), .second, .val (.int ai), .val (.int (p2 &&& (3 : Int32))), .val (.ref b10), .val (.long (own_arg (jb ((p1 &&& (224 : Int32)) ||| ai)) (own_vb q1) (own_mm ai))), .second, .val (.long (jushrL q1 (56 : Int32))), .second] [])) (fun t k => XS.goto X51.here hx rfl (pc0 := 237) (pc' := 288) rfl (hb hby at_237) (by decide) (by decide) k) ?_
        refine go _ (T51.setTop (mkF m 290 #[.val (.int p1), .val (.int p2), .val (.long q1), .second, .val (.long q2), .second, .val (.int ai), .val (.int (p2 &&& (3 : Int32))), .val (.ref b10), .val (.long (own_arg (jb ((p1 &&& (224 : Int32)) ||| ai)) (own_vb q1) (own_mm ai))), .second, .val (.long (jushrL q1 (56 : Int32))), .second] [(.long (own_arg (jb ((p1 &&& (224 : Int32)) ||| ai)) (own_vb q1) (own_mm ai)))])) (fun t k => XS.lload X51.here hx rfl (hb hby at_288) rfl k) ?_
        refine go _ (T51.setTop (mkF m 292 #[.val (.int p1), .val (.int p2), .val (.long q1), .second, .val (.long q2), .second, .val (.int ai), .val (.int (p2 &&& (3 : Int32))), .val (.ref b10), .val (.long (own_arg (jb ((p1 &&& (224 : Int32)) ||| ai)) (own_vb q1) (own_mm ai))), .second, .val (.long (jushrL q1 (56 : Int32))), .second] [(.long (jushrL q1 (56 : Int32))), (.long (own_arg (jb ((p1 &&& (224 : Int32)) ||| ai)) (own_vb q1) (own_mm ai)))])) (fun t k => XS.lload X51.here hx rfl (hb hby at_290) rfl k) ?_
        refine go _ (T51.setTop (mkF m 293 #[.val (.int p1), .val (.int p2), .val (.long q1), .second, .val (.long q2), .second, .val (.int ai), .val (.int (p2 &&& (3 : Int32))), .val (.ref b10), .val (.long (own_arg (jb ((p1 &&& (224 : Int32)) ||| ai)) (own_vb q1) (own_mm ai))), .second, .val (.long (jushrL q1 (56 : Int32))), .second] [(.int (lcmpW (own_arg (jb ((p1 &&& (224 : Int32)) ||| ai)) (own_vb q1) (own_mm ai)) (jushrL q1 (56 : Int32))))])) (fun t k => XS.lcmp X51.here hx rfl (hb hby at_292) rfl k) ?_
        have hc56 : ((own_arg (jb ((p1 &&& (224 : Int32)) ||| ai)) (own_vb q1) (own_mm ai)) = (jushrL q1 (56 : Int32))) := own_res1 p1 q1 ai hai hc53 hc55
        refine go _ (T51.setTop (mkF m 296 #[.val (.int p1), .val (.int p2), .val (.long q1), .second, .val (.long q2), .second, .val (.int ai), .val (.int (p2 &&& (3 : Int32))), .val (.ref b10), .val (.long (own_arg (jb ((p1 &&& (224 : Int32)) ||| ai)) (own_vb q1) (own_mm ai))), .second, .val (.long (jushrL q1 (56 : Int32))), .second] [])) (fun t k => XS.ifNo X51.here hx rfl (hb hby at_293) rfl ((if0 _ _).trans (teq ((lw_eq (own_arg (jb ((p1 &&& (224 : Int32)) ||| ai)) (own_vb q1) (own_mm ai)) (jushrL q1 (56 : Int32))).mpr hc56)).2) k) ?_
        refine go _ (T51.setTop (mkF m 297 #[.val (.int p1), .val (.int p2), .val (.long q1), .second, .val (.long q2), .second, .val (.int ai), .val (.int (p2 &&& (3 : Int32))), .val (.ref b10), .val (.long (own_arg (jb ((p1 &&& (224 : Int32)) ||| ai)) (own_vb q1) (own_mm ai))), .second, .val (.long (jushrL q1 (56 : Int32))), .second] [(.int (1 : Int32))])) (fun t k => XS.iconst X51.here hx rfl (hb hby at_296) k) ?_
        refine go _ (T51.setTop (mkF m 301 #[.val (.int p1), .val (.int p2), .val (.long q1), .second, .val (.long q2), .second, .val (.int ai), .val (.int (p2 &&& (3 : Int32))), .val (.ref b10), .val (.long (own_arg (jb ((p1 &&& (224 : Int32)) ||| ai)) (own_vb q1) (own_mm ai))), .second, .val (.long (jushrL q1 (56 : Int32))), .second] [(.int (1 : Int32))])) (fun t k => XS.goto X51.here hx rfl (pc0 := 297) (pc' := 301) rfl (hb hby at_297) (by decide) (by decide) k) ?_
        exact fin (some (.int (1 : Int32))) X51 (by decide) (by decide) (fun q => by cases q) (show Q_rm0 Z p1 p2 q1 q2 h0 n0 _ T51.heap _ from (by rw [hh51]; exact ⟨rfl, N52⟩)) (fun fs hr => retN X51 hx (t := .boolean) hret (by simp) (hb hby at_301) hr)
      · refine go _ (T51.setTop (mkF m 240 #[.val (.int p1), .val (.int p2), .val (.long q1), .second, .val (.long q2), .second, .val (.int ai), .val (.int (p2 &&& (3 : Int32))), .val (.ref b10), .val (.long (own_arg (jb ((p1 &&& (224 : Int32)) ||| ai)) (own_vb q1) (own_mm ai))), .second, .unset, .unset] [])) (fun t k => XS.icmpYes X51.here hx rfl (pc0 := 228) (pc' := 240) rfl (hb hby at_228) rfl (feq hc55).2 (by decide) (by decide) k) ?_
        refine go _ (T51.setTop (mkF m 242 #[.val (.int p1), .val (.int p2), .val (.long q1), .second, .val (.long q2), .second, .val (.int ai), .val (.int (p2 &&& (3 : Int32))), .val (.ref b10), .val (.long (own_arg (jb ((p1 &&& (224 : Int32)) ||| ai)) (own_vb q1) (own_mm ai))), .second, .unset, .unset] [(.int ai)])) (fun t k => XS.iload X51.here hx rfl (hb hby at_240) rfl k) ?_
        refine go _ (T51.setTop (mkF m 244 #[.val (.int p1), .val (.int p2), .val (.long q1), .second, .val (.long q2), .second, .val (.int ai), .val (.int (p2 &&& (3 : Int32))), .val (.ref b10), .val (.long (own_arg (jb ((p1 &&& (224 : Int32)) ||| ai)) (own_vb q1) (own_mm ai))), .second, .unset, .unset] [(.int (25 : Int32)), (.int ai)])) (fun t k => XS.bipush X51.here hx rfl (hb hby at_242) k) ?_
        by_cases hc57 : ai = (25 : Int32)
        · refine go _ (T51.setTop (mkF m 247 #[.val (.int p1), .val (.int p2), .val (.long q1), .second, .val (.long q2), .second, .val (.int ai), .val (.int (p2 &&& (3 : Int32))), .val (.ref b10), .val (.long (own_arg (jb ((p1 &&& (224 : Int32)) ||| ai)) (own_vb q1) (own_mm ai))), .second, .unset, .unset] [])) (fun t k => XS.icmpNo X51.here hx rfl (hb hby at_244) rfl (teq hc57).2 k) ?_
          refine go _ (T51.setTop (mkF m 248 #[.val (.int p1), .val (.int p2), .val (.long q1), .second, .val (.long q2), .second, .val (.int ai), .val (.int (p2 &&& (3 : Int32))), .val (.ref b10), .val (.long (own_arg (jb ((p1 &&& (224 : Int32)) ||| ai)) (own_vb q1) (own_mm ai))), .second, .unset, .unset] [(.long q1)])) (fun t k => XS.lloadN X51.here hx rfl (hb hby at_247) rfl k) ?_
          refine go _ (T51.setTop (mkF m 250 #[.val (.int p1), .val (.int p2), .val (.long q1), .second, .val (.long q2), .second, .val (.int ai), .val (.int (p2 &&& (3 : Int32))), .val (.ref b10), .val (.long (own_arg (jb ((p1 &&& (224 : Int32)) ||| ai)) (own_vb q1) (own_mm ai))), .second, .unset, .unset] [(.int (48 : Int32)), (.long q1)])) (fun t k => XS.bipush X51.here hx rfl (hb hby at_248) k) ?_
          refine go _ (T51.setTop (mkF m 251 #[.val (.int p1), .val (.int p2), .val (.long q1), .second, .val (.long q2), .second, .val (.int ai), .val (.int (p2 &&& (3 : Int32))), .val (.ref b10), .val (.long (own_arg (jb ((p1 &&& (224 : Int32)) ||| ai)) (own_vb q1) (own_mm ai))), .second, .unset, .unset] [(.long (jushrL q1 (48 : Int32)))])) (fun t k => XS.lushr X51.here hx rfl (hb hby at_250) rfl k) ?_
          refine go _ (T51.setTop (mkF m 253 #[.val (.int p1), .val (.int p2), .val (.long q1), .second, .val (.long q2), .second, .val (.int ai), .val (.int (p2 &&& (3 : Int32))), .val (.ref b10), .val (.long (own_arg (jb ((p1 &&& (224 : Int32)) ||| ai)) (own_vb q1) (own_mm ai))), .second, .val (.long (jushrL q1 (48 : Int32))), .second] [])) (fun t k => XS.lstore X51.here hx rfl (hb hby at_251) rfl (l' := #[.val (.int p1), .val (.int p2), .val (.long q1), .second, .val (.long q2), .second, .val (.int ai), .val (.int (p2 &&& (3 : Int32))), .val (.ref b10), .val (.long (own_arg (jb ((p1 &&& (224 : Int32)) ||| ai)) (own_vb q1) (own_mm ai))), .second, .val (.long (jushrL q1 (48 : Int32))), .second]) rfl k) ?_
          refine go _ (T51.setTop (mkF m 288 #[.val (.int p1), .val (.int p2), .val (.long q1), .second, .val (.long q2), .second, .val (.int ai), .val (.int (p2 &&& (3 : Int32))), .val (.ref b10), .val (.long (own_arg (jb ((p1 &&& (224 : Int32)) ||| ai)) (own_vb q1) (own_mm ai))), .second, .val (.long (jushrL q1 (48 : Int32))), .second] [])) (fun t k => XS.goto X51.here hx rfl (pc0 := 253) (pc' := 288) rfl (hb hby at_253) (by decide) (by decide) k) ?_
          refine go _ (T51.setTop (mkF m 290 #[.val (.int p1), .val (.int p2), .val (.long q1), .second, .val (.long q2), .second, .val (.int ai), .val (.int (p2 &&& (3 : Int32))), .val (.ref b10), .val (.long (own_arg (jb ((p1 &&& (224 : Int32)) ||| ai)) (own_vb q1) (own_mm ai))), .second, .val (.long (jushrL q1 (48 : Int32))), .second] [(.long (own_arg (jb ((p1 &&& (224 : Int32)) ||| ai)) (own_vb q1) (own_mm ai)))])) (fun t k => XS.lload X51.here hx rfl (hb hby at_288) rfl k) ?_
          refine go _ (T51.setTop (mkF m 292 #[.val (.int p1), .val (.int p2), .val (.long q1), .second, .val (.long q2), .second, .val (.int ai), .val (.int (p2 &&& (3 : Int32))), .val (.ref b10), .val (.long (own_arg (jb ((p1 &&& (224 : Int32)) ||| ai)) (own_vb q1) (own_mm ai))), .second, .val (.long (jushrL q1 (48 : Int32))), .second] [(.long (jushrL q1 (48 : Int32))), (.long (own_arg (jb ((p1 &&& (224 : Int32)) ||| ai)) (own_vb q1) (own_mm ai)))])) (fun t k => XS.lload X51.here hx rfl (hb hby at_290) rfl k) ?_
          refine go _ (T51.setTop (mkF m 293 #[.val (.int p1), .val (.int p2), .val (.long q1), .second, .val (.long q2), .second, .val (.int ai), .val (.int (p2 &&& (3 : Int32))), .val (.ref b10), .val (.long (own_arg (jb ((p1 &&& (224 : Int32)) ||| ai)) (own_vb q1) (own_mm ai))), .second, .val (.long (jushrL q1 (48 : Int32))), .second] [(.int (lcmpW (own_arg (jb ((p1 &&& (224 : Int32)) ||| ai)) (own_vb q1) (own_mm ai)) (jushrL q1 (48 : Int32))))])) (fun t k => XS.lcmp X51.here hx rfl (hb hby at_292) rfl k) ?_
          have hc58 : ((own_arg (jb ((p1 &&& (224 : Int32)) ||| ai)) (own_vb q1) (own_mm ai)) = (jushrL q1 (48 : Int32))) := own_res2 p1 q1 ai hai hc53 hc55 hc57
          refine go _ (T51.setTop (mkF m 296 #[.val (.int p1), .val (.int p2), .val (.long q1), .second, .val (.long q2), .second, .val (.int ai), .val (.int (p2 &&& (3 : Int32))), .val (.ref b10), .val (.long (own_arg (jb ((p1 &&& (224 : Int32)) ||| ai)) (own_vb q1) (own_mm ai))), .second, .val (.long (jushrL q1 (48 : Int32))), .second] [])) (fun t k => XS.ifNo X51.here hx rfl (hb hby at_293) rfl ((if0 _ _).trans (teq ((lw_eq (own_arg (jb ((p1 &&& (224 : Int32)) ||| ai)) (own_vb q1) (own_mm ai)) (jushrL q1 (48 : Int32))).mpr hc58)).2) k) ?_
          refine go _ (T51.setTop (mkF m 297 #[.val (.int p1), .val (.int p2), .val (.long q1), .second, .val (.long q2), .second, .val (.int ai), .val (.int (p2 &&& (3 : Int32))), .val (.ref b10), .val (.long (own_arg (jb ((p1 &&& (224 : Int32)) ||| ai)) (own_vb q1) (own_mm ai))), .second, .val (.long (jushrL q1 (48 : Int32))), .second] [(.int (1 : Int32))])) (fun t k => XS.iconst X51.here hx rfl (hb hby at_296) k) ?_
          refine go _ (T51.setTop (mkF m 301 #[.val (.int p1), .val (.int p2), .val (.long q1), .second, .val (.long q2), .second, .val (.int ai), .val (.int (p2 &&& (3 : Int32))), .val (.ref b10), .val (.long (own_arg (jb ((p1 &&& (224 : Int32)) ||| ai)) (own_vb q1) (own_mm ai))), .second, .val (.long (jushrL q1 (48 : Int32))), .second] [(.int (1 : Int32))])) (fun t k => XS.goto X51.here hx rfl (pc0 := 297) (pc' := 301) rfl (hb hby at_297) (by decide) (by decide) k) ?_
          exact fin (some (.int (1 : Int32))) X51 (by decide) (by decide) (fun q => by cases q) (show Q_rm0 Z p1 p2 q1 q2 h0 n0 _ T51.heap _ from (by rw [hh51]; exact ⟨rfl, N52⟩)) (fun fs hr => retN X51 hx (t := .boolean) hret (by simp) (hb hby at_301) hr)
        · refine go _ (T51.setTop (mkF m 256 #[.val (.int p1), .val (.int p2), .val (.long q1), .second, .val (.long q2), .second, .val (.int ai), .val (.int (p2 &&& (3 : Int32))), .val (.ref b10), .val (.long (own_arg (jb ((p1 &&& (224 : Int32)) ||| ai)) (own_vb q1) (own_mm ai))), .second, .unset, .unset] [])) (fun t k => XS.icmpYes X51.here hx rfl (pc0 := 244) (pc' := 256) rfl (hb hby at_244) rfl (feq hc57).2 (by decide) (by decide) k) ?_
          refine go _ (T51.setTop (mkF m 258 #[.val (.int p1), .val (.int p2), .val (.long q1), .second, .val (.long q2), .second, .val (.int ai), .val (.int (p2 &&& (3 : Int32))), .val (.ref b10), .val (.long (own_arg (jb ((p1 &&& (224 : Int32)) ||| ai)) (own_vb q1) (own_mm ai))), .second, .unset, .unset] [(.int ai)])) (fun t k => XS.iload X51.here hx rfl (hb hby at_256) rfl k) ?_
          refine go _ (T51.setTop (mkF m 260 #[.val (.int p1), .val (.int p2), .val (.long q1), .second, .val (.long q2), .second, .val (.int ai), .val (.int (p2 &&& (3 : Int32))), .val (.ref b10), .val (.long (own_arg (jb ((p1 &&& (224 : Int32)) ||| ai)) (own_vb q1) (own_mm ai))), .second, .unset, .unset] [(.int (26 : Int32)), (.int ai)])) (fun t k => XS.bipush X51.here hx rfl (hb hby at_258) k) ?_
          by_cases hc59 : ai = (26 : Int32)
          · refine go _ (T51.setTop (mkF m 263 #[.val (.int p1), .val (.int p2), .val (.long q1), .second, .val (.long q2), .second, .val (.int ai), .val (.int (p2 &&& (3 : Int32))), .val (.ref b10), .val (.long (own_arg (jb ((p1 &&& (224 : Int32)) ||| ai)) (own_vb q1) (own_mm ai))), .second, .unset, .unset] [])) (fun t k => XS.icmpNo X51.here hx rfl (hb hby at_260) rfl (teq hc59).2 k) ?_
            refine go _ (T51.setTop (mkF m 264 #[.val (.int p1), .val (.int p2), .val (.long q1), .second, .val (.long q2), .second, .val (.int ai), .val (.int (p2 &&& (3 : Int32))), .val (.ref b10), .val (.long (own_arg (jb ((p1 &&& (224 : Int32)) ||| ai)) (own_vb q1) (own_mm ai))), .second, .unset, .unset] [(.long q1)])) (fun t k => XS.lloadN X51.here hx rfl (hb hby at_263) rfl k) ?_
            refine go _ (T51.setTop (mkF m 266 #[.val (.int p1), .val (.int p2), .val (.long q1), .second, .val (.long q2), .second, .val (.int ai), .val (.int (p2 &&& (3 : Int32))), .val (.ref b10), .val (.long (own_arg (jb ((p1 &&& (224 : Int32)) ||| ai)) (own_vb q1) (own_mm ai))), .second, .unset, .unset] [(.int (32 : Int32)), (.long q1)])) (fun t k => XS.bipush X51.here hx rfl (hb hby at_264) k) ?_
            refine go _ (T51.setTop (mkF m 267 #[.val (.int p1), .val (.int p2), .val (.long q1), .second, .val (.long q2), .second, .val (.int ai), .val (.int (p2 &&& (3 : Int32))), .val (.ref b10), .val (.long (own_arg (jb ((p1 &&& (224 : Int32)) ||| ai)) (own_vb q1) (own_mm ai))), .second, .unset, .unset] [(.long (jushrL q1 (32 : Int32)))])) (fun t k => XS.lushr X51.here hx rfl (hb hby at_266) rfl k) ?_
            refine go _ (T51.setTop (mkF m 269 #[.val (.int p1), .val (.int p2), .val (.long q1), .second, .val (.long q2), .second, .val (.int ai), .val (.int (p2 &&& (3 : Int32))), .val (.ref b10), .val (.long (own_arg (jb ((p1 &&& (224 : Int32)) ||| ai)) (own_vb q1) (own_mm ai))), .second, .val (.long (jushrL q1 (32 : Int32))), .second] [])) (fun t k => XS.lstore X51.here hx rfl (hb hby at_267) rfl (l' := #[.val (.int p1), .val (.int p2), .val (.long q1), .second, .val (.long q2), .second, .val (.int ai), .val (.int (p2 &&& (3 : Int32))), .val (.ref b10), .val (.long (own_arg (jb ((p1 &&& (224 : Int32)) ||| ai)) (own_vb q1) (own_mm ai))), .second, .val (.long (jushrL q1 (32 : Int32))), .second]) rfl k) ?_
            refine go _ (T51.setTop (mkF m 288 #[.val (.int p1), .val (.int p2), .val (.long q1), .second, .val (.long q2), .second, .val (.int ai), .val (.int (p2 &&& (3 : Int32))), .val (.ref b10), .val (.long (own_arg (jb ((p1 &&& (224 : Int32)) ||| ai)) (own_vb q1) (own_mm ai))), .second, .val (.long (jushrL q1 (32 : Int32))), .second] [])) (fun t k => XS.goto X51.here hx rfl (pc0 := 269) (pc' := 288) rfl (hb hby at_269) (by decide) (by decide) k) ?_
            refine go _ (T51.setTop (mkF m 290 #[.val (.int p1), .val (.int p2), .val (.long q1), .second, .val (.long q2), .second, .val (.int ai), .val (.int (p2 &&& (3 : Int32))), .val (.ref b10), .val (.long (own_arg (jb ((p1 &&& (224 : Int32)) ||| ai)) (own_vb q1) (own_mm ai))), .second, .val (.long (jushrL q1 (32 : Int32))), .second] [(.long (own_arg (jb ((p1 &&& (224 : Int32)) ||| ai)) (own_vb q1) (own_mm ai)))])) (fun t k => XS.lload X51.here hx rfl (hb hby at_288) rfl k) ?_
            refine go _ (T51.setTop (mkF m 292 #[.val (.int p1), .val (.int p2), .val (.long q1), .second, .val (.long q2), .second, .val (.int ai), .val (.int (p2 &&& (3 : Int32))), .val (.ref b10), .val (.long (own_arg (jb ((p1 &&& (224 : Int32)) ||| ai)) (own_vb q1) (own_mm ai))), .second, .val (.long (jushrL q1 (32 : Int32))), .second] [(.long (jushrL q1 (32 : Int32))), (.long (own_arg (jb ((p1 &&& (224 : Int32)) ||| ai)) (own_vb q1) (own_mm ai)))])) (fun t k => XS.lload X51.here hx rfl (hb hby at_290) rfl k) ?_
            refine go _ (T51.setTop (mkF m 293 #[.val (.int p1), .val (.int p2), .val (.long q1), .second, .val (.long q2), .second, .val (.int ai), .val (.int (p2 &&& (3 : Int32))), .val (.ref b10), .val (.long (own_arg (jb ((p1 &&& (224 : Int32)) ||| ai)) (own_vb q1) (own_mm ai))), .second, .val (.long (jushrL q1 (32 : Int32))), .second] [(.int (lcmpW (own_arg (jb ((p1 &&& (224 : Int32)) ||| ai)) (own_vb q1) (own_mm ai)) (jushrL q1 (32 : Int32))))])) (fun t k => XS.lcmp X51.here hx rfl (hb hby at_292) rfl k) ?_
            have hc60 : ((own_arg (jb ((p1 &&& (224 : Int32)) ||| ai)) (own_vb q1) (own_mm ai)) = (jushrL q1 (32 : Int32))) := own_res3 p1 q1 ai hai hc53 hc55 hc57 hc59
            refine go _ (T51.setTop (mkF m 296 #[.val (.int p1), .val (.int p2), .val (.long q1), .second, .val (.long q2), .second, .val (.int ai), .val (.int (p2 &&& (3 : Int32))), .val (.ref b10), .val (.long (own_arg (jb ((p1 &&& (224 : Int32)) ||| ai)) (own_vb q1) (own_mm ai))), .second, .val (.long (jushrL q1 (32 : Int32))), .second] [])) (fun t k => XS.ifNo X51.here hx rfl (hb hby at_293) rfl ((if0 _ _).trans (teq ((lw_eq (own_arg (jb ((p1 &&& (224 : Int32)) ||| ai)) (own_vb q1) (own_mm ai)) (jushrL q1 (32 : Int32))).mpr hc60)).2) k) ?_
            refine go _ (T51.setTop (mkF m 297 #[.val (.int p1), .val (.int p2), .val (.long q1), .second, .val (.long q2), .second, .val (.int ai), .val (.int (p2 &&& (3 : Int32))), .val (.ref b10), .val (.long (own_arg (jb ((p1 &&& (224 : Int32)) ||| ai)) (own_vb q1) (own_mm ai))), .second, .val (.long (jushrL q1 (32 : Int32))), .second] [(.int (1 : Int32))])) (fun t k => XS.iconst X51.here hx rfl (hb hby at_296) k) ?_
            refine go _ (T51.setTop (mkF m 301 #[.val (.int p1), .val (.int p2), .val (.long q1), .second, .val (.long q2), .second, .val (.int ai), .val (.int (p2 &&& (3 : Int32))), .val (.ref b10), .val (.long (own_arg (jb ((p1 &&& (224 : Int32)) ||| ai)) (own_vb q1) (own_mm ai))), .second, .val (.long (jushrL q1 (32 : Int32))), .second] [(.int (1 : Int32))])) (fun t k => XS.goto X51.here hx rfl (pc0 := 297) (pc' := 301) rfl (hb hby at_297) (by decide) (by decide) k) ?_
            exact fin (some (.int (1 : Int32))) X51 (by decide) (by decide) (fun q => by cases q) (show Q_rm0 Z p1 p2 q1 q2 h0 n0 _ T51.heap _ from (by rw [hh51]; exact ⟨rfl, N52⟩)) (fun fs hr => retN X51 hx (t := .boolean) hret (by simp) (hb hby at_301) hr)
          · refine go _ (T51.setTop (mkF m 272 #[.val (.int p1), .val (.int p2), .val (.long q1), .second, .val (.long q2), .second, .val (.int ai), .val (.int (p2 &&& (3 : Int32))), .val (.ref b10), .val (.long (own_arg (jb ((p1 &&& (224 : Int32)) ||| ai)) (own_vb q1) (own_mm ai))), .second, .unset, .unset] [])) (fun t k => XS.icmpYes X51.here hx rfl (pc0 := 260) (pc' := 272) rfl (hb hby at_260) rfl (feq hc59).2 (by decide) (by decide) k) ?_
            refine go _ (T51.setTop (mkF m 274 #[.val (.int p1), .val (.int p2), .val (.long q1), .second, .val (.long q2), .second, .val (.int ai), .val (.int (p2 &&& (3 : Int32))), .val (.ref b10), .val (.long (own_arg (jb ((p1 &&& (224 : Int32)) ||| ai)) (own_vb q1) (own_mm ai))), .second, .unset, .unset] [(.int ai)])) (fun t k => XS.iload X51.here hx rfl (hb hby at_272) rfl k) ?_
            refine go _ (T51.setTop (mkF m 276 #[.val (.int p1), .val (.int p2), .val (.long q1), .second, .val (.long q2), .second, .val (.int ai), .val (.int (p2 &&& (3 : Int32))), .val (.ref b10), .val (.long (own_arg (jb ((p1 &&& (224 : Int32)) ||| ai)) (own_vb q1) (own_mm ai))), .second, .unset, .unset] [(.int (27 : Int32)), (.int ai)])) (fun t k => XS.bipush X51.here hx rfl (hb hby at_274) k) ?_
            by_cases hc61 : ai = (27 : Int32)
            · refine go _ (T51.setTop (mkF m 279 #[.val (.int p1), .val (.int p2), .val (.long q1), .second, .val (.long q2), .second, .val (.int ai), .val (.int (p2 &&& (3 : Int32))), .val (.ref b10), .val (.long (own_arg (jb ((p1 &&& (224 : Int32)) ||| ai)) (own_vb q1) (own_mm ai))), .second, .unset, .unset] [])) (fun t k => XS.icmpNo X51.here hx rfl (hb hby at_276) rfl (teq hc61).2 k) ?_
              refine go _ (T51.setTop (mkF m 280 #[.val (.int p1), .val (.int p2), .val (.long q1), .second, .val (.long q2), .second, .val (.int ai), .val (.int (p2 &&& (3 : Int32))), .val (.ref b10), .val (.long (own_arg (jb ((p1 &&& (224 : Int32)) ||| ai)) (own_vb q1) (own_mm ai))), .second, .unset, .unset] [(.long q1)])) (fun t k => XS.lloadN X51.here hx rfl (hb hby at_279) rfl k) ?_
              refine go _ (T51.setTop (mkF m 282 #[.val (.int p1), .val (.int p2), .val (.long q1), .second, .val (.long q2), .second, .val (.int ai), .val (.int (p2 &&& (3 : Int32))), .val (.ref b10), .val (.long (own_arg (jb ((p1 &&& (224 : Int32)) ||| ai)) (own_vb q1) (own_mm ai))), .second, .val (.long q1), .second] [])) (fun t k => XS.lstore X51.here hx rfl (hb hby at_280) rfl (l' := #[.val (.int p1), .val (.int p2), .val (.long q1), .second, .val (.long q2), .second, .val (.int ai), .val (.int (p2 &&& (3 : Int32))), .val (.ref b10), .val (.long (own_arg (jb ((p1 &&& (224 : Int32)) ||| ai)) (own_vb q1) (own_mm ai))), .second, .val (.long q1), .second]) rfl k) ?_
              refine go _ (T51.setTop (mkF m 288 #[.val (.int p1), .val (.int p2), .val (.long q1), .second, .val (.long q2), .second, .val (.int ai), .val (.int (p2 &&& (3 : Int32))), .val (.ref b10), .val (.long (own_arg (jb ((p1 &&& (224 : Int32)) ||| ai)) (own_vb q1) (own_mm ai))), .second, .val (.long q1), .second] [])) (fun t k => XS.goto X51.here hx rfl (pc0 := 282) (pc' := 288) rfl (hb hby at_282) (by decide) (by decide) k) ?_
              refine go _ (T51.setTop (mkF m 290 #[.val (.int p1), .val (.int p2), .val (.long q1), .second, .val (.long q2), .second, .val (.int ai), .val (.int (p2 &&& (3 : Int32))), .val (.ref b10), .val (.long (own_arg (jb ((p1 &&& (224 : Int32)) ||| ai)) (own_vb q1) (own_mm ai))), .second, .val (.long q1), .second] [(.long (own_arg (jb ((p1 &&& (224 : Int32)) ||| ai)) (own_vb q1) (own_mm ai)))])) (fun t k => XS.lload X51.here hx rfl (hb hby at_288) rfl k) ?_
              refine go _ (T51.setTop (mkF m 292 #[.val (.int p1), .val (.int p2), .val (.long q1), .second, .val (.long q2), .second, .val (.int ai), .val (.int (p2 &&& (3 : Int32))), .val (.ref b10), .val (.long (own_arg (jb ((p1 &&& (224 : Int32)) ||| ai)) (own_vb q1) (own_mm ai))), .second, .val (.long q1), .second] [(.long q1), (.long (own_arg (jb ((p1 &&& (224 : Int32)) ||| ai)) (own_vb q1) (own_mm ai)))])) (fun t k => XS.lload X51.here hx rfl (hb hby at_290) rfl k) ?_
              refine go _ (T51.setTop (mkF m 293 #[.val (.int p1), .val (.int p2), .val (.long q1), .second, .val (.long q2), .second, .val (.int ai), .val (.int (p2 &&& (3 : Int32))), .val (.ref b10), .val (.long (own_arg (jb ((p1 &&& (224 : Int32)) ||| ai)) (own_vb q1) (own_mm ai))), .second, .val (.long q1), .second] [(.int (lcmpW (own_arg (jb ((p1 &&& (224 : Int32)) ||| ai)) (own_vb q1) (own_mm ai)) q1))])) (fun t k => XS.lcmp X51.here hx rfl (hb hby at_292) rfl k) ?_
              have hc62 : ((own_arg (jb ((p1 &&& (224 : Int32)) ||| ai)) (own_vb q1) (own_mm ai)) = q1) := own_res4 p1 q1 ai hai hc53 hc55 hc57 hc59 hc61
              refine go _ (T51.setTop (mkF m 296 #[.val (.int p1), .val (.int p2), .val (.long q1), .second, .val (.long q2), .second, .val (.int ai), .val (.int (p2 &&& (3 : Int32))), .val (.ref b10), .val (.long (own_arg (jb ((p1 &&& (224 : Int32)) ||| ai)) (own_vb q1) (own_mm ai))), .second, .val (.long q1), .second] [])) (fun t k => XS.ifNo X51.here hx rfl (hb hby at_293) rfl ((if0 _ _).trans (teq ((lw_eq (own_arg (jb ((p1 &&& (224 : Int32)) ||| ai)) (own_vb q1) (own_mm ai)) q1).mpr hc62)).2) k) ?_
              refine go _ (T51.setTop (mkF m 297 #[.val (.int p1), .val (.int p2), .val (.long q1), .second, .val (.long q2), .second, .val (.int ai), .val (.int (p2 &&& (3 : Int32))), .val (.ref b10), .val (.long (own_arg (jb ((p1 &&& (224 : Int32)) ||| ai)) (own_vb q1) (own_mm ai))), .second, .val (.long q1), .second] [(.int (1 : Int32))])) (fun t k => XS.iconst X51.here hx rfl (hb hby at_296) k) ?_
              refine go _ (T51.setTop (mkF m 301 #[.val (.int p1), .val (.int p2), .val (.long q1), .second, .val (.long q2), .second, .val (.int ai), .val (.int (p2 &&& (3 : Int32))), .val (.ref b10), .val (.long (own_arg (jb ((p1 &&& (224 : Int32)) ||| ai)) (own_vb q1) (own_mm ai))), .second, .val (.long q1), .second] [(.int (1 : Int32))])) (fun t k => XS.goto X51.here hx rfl (pc0 := 297) (pc' := 301) rfl (hb hby at_297) (by decide) (by decide) k) ?_
              exact fin (some (.int (1 : Int32))) X51 (by decide) (by decide) (fun q => by cases q) (show Q_rm0 Z p1 p2 q1 q2 h0 n0 _ T51.heap _ from (by rw [hh51]; exact ⟨rfl, N52⟩)) (fun fs hr => retN X51 hx (t := .boolean) hret (by simp) (hb hby at_301) hr)
            · refine go _ (T51.setTop (mkF m 285 #[.val (.int p1), .val (.int p2), .val (.long q1), .second, .val (.long q2), .second, .val (.int ai), .val (.int (p2 &&& (3 : Int32))), .val (.ref b10), .val (.long (own_arg (jb ((p1 &&& (224 : Int32)) ||| ai)) (own_vb q1) (own_mm ai))), .second, .unset, .unset] [])) (fun t k => XS.icmpYes X51.here hx rfl (pc0 := 276) (pc' := 285) rfl (hb hby at_276) rfl (feq hc61).2 (by decide) (by decide) k) ?_
              refine go _ (T51.setTop (mkF m 286 #[.val (.int p1), .val (.int p2), .val (.long q1), .second, .val (.long q2), .second, .val (.int ai), .val (.int (p2 &&& (3 : Int32))), .val (.ref b10), .val (.long (own_arg (jb ((p1 &&& (224 : Int32)) ||| ai)) (own_vb q1) (own_mm ai))), .second, .unset, .unset] [(.long (0 : Int64))])) (fun t k => XS.lconst X51.here hx rfl (hb hby at_285) k) ?_
              refine go _ (T51.setTop (mkF m 288 #[.val (.int p1), .val (.int p2), .val (.long q1), .second, .val (.long q2), .second, .val (.int ai), .val (.int (p2 &&& (3 : Int32))), .val (.ref b10), .val (.long (own_arg (jb ((p1 &&& (224 : Int32)) ||| ai)) (own_vb q1) (own_mm ai))), .second, .val (.long (0 : Int64)), .second] [])) (fun t k => XS.lstore X51.here hx rfl (hb hby at_286) rfl (l' := #[.val (.int p1), .val (.int p2), .val (.long q1), .second, .val (.long q2), .second, .val (.int ai), .val (.int (p2 &&& (3 : Int32))), .val (.ref b10), .val (.long (own_arg (jb ((p1 &&& (224 : Int32)) ||| ai)) (own_vb q1) (own_mm ai))), .second, .val (.long (0 : Int64)), .second]) rfl k) ?_
              refine go _ (T51.setTop (mkF m 290 #[.val (.int p1), .val (.int p2), .val (.long q1), .second, .val (.long q2), .second, .val (.int ai), .val (.int (p2 &&& (3 : Int32))), .val (.ref b10), .val (.long (own_arg (jb ((p1 &&& (224 : Int32)) ||| ai)) (own_vb q1) (own_mm ai))), .second, .val (.long (0 : Int64)), .second] [(.long (own_arg (jb ((p1 &&& (224 : Int32)) ||| ai)) (own_vb q1) (own_mm ai)))])) (fun t k => XS.lload X51.here hx rfl (hb hby at_288) rfl k) ?_
              refine go _ (T51.setTop (mkF m 292 #[.val (.int p1), .val (.int p2), .val (.long q1), .second, .val (.long q2), .second, .val (.int ai), .val (.int (p2 &&& (3 : Int32))), .val (.ref b10), .val (.long (own_arg (jb ((p1 &&& (224 : Int32)) ||| ai)) (own_vb q1) (own_mm ai))), .second, .val (.long (0 : Int64)), .second] [(.long (0 : Int64)), (.long (own_arg (jb ((p1 &&& (224 : Int32)) ||| ai)) (own_vb q1) (own_mm ai)))])) (fun t k => XS.lload X51.here hx rfl (hb hby at_290) rfl k) ?_
              refine go _ (T51.setTop (mkF m 293 #[.val (.int p1), .val (.int p2), .val (.long q1), .second, .val (.long q2), .second, .val (.int ai), .val (.int (p2 &&& (3 : Int32))), .val (.ref b10), .val (.long (own_arg (jb ((p1 &&& (224 : Int32)) ||| ai)) (own_vb q1) (own_mm ai))), .second, .val (.long (0 : Int64)), .second] [(.int (lcmpW (own_arg (jb ((p1 &&& (224 : Int32)) ||| ai)) (own_vb q1) (own_mm ai)) (0 : Int64)))])) (fun t k => XS.lcmp X51.here hx rfl (hb hby at_292) rfl k) ?_
              have hc63 : ((own_arg (jb ((p1 &&& (224 : Int32)) ||| ai)) (own_vb q1) (own_mm ai)) = (0 : Int64)) := own_res5 p1 q1 ai hai hc53 hc55 hc57 hc59 hc61
              refine go _ (T51.setTop (mkF m 296 #[.val (.int p1), .val (.int p2), .val (.long q1), .second, .val (.long q2), .second, .val (.int ai), .val (.int (p2 &&& (3 : Int32))), .val (.ref b10), .val (.long (own_arg (jb ((p1 &&& (224 : Int32)) ||| ai)) (own_vb q1) (own_mm ai))), .second, .val (.long (0 : Int64)), .second] [])) (fun t k => XS.ifNo X51.here hx rfl (hb hby at_293) rfl ((if0 _ _).trans (teq ((lw_eq (own_arg (jb ((p1 &&& (224 : Int32)) ||| ai)) (own_vb q1) (own_mm ai)) (0 : Int64)).mpr hc63)).2) k) ?_
              refine go _ (T51.setTop (mkF m 297 #[.val (.int p1), .val (.int p2), .val (.long q1), .second, .val (.long q2), .second, .val (.int ai), .val (.int (p2 &&& (3 : Int32))), .val (.ref b10), .val (.long (own_arg (jb ((p1 &&& (224 : Int32)) ||| ai)) (own_vb q1) (own_mm ai))), .second, .val (.long (0 : Int64)), .second] [(.int (1 : Int32))])) (fun t k => XS.iconst X51.here hx rfl (hb hby at_296) k) ?_
              refine go _ (T51.setTop (mkF m 301 #[.val (.int p1), .val (.int p2), .val (.long q1), .second, .val (.long q2), .second, .val (.int ai), .val (.int (p2 &&& (3 : Int32))), .val (.ref b10), .val (.long (own_arg (jb ((p1 &&& (224 : Int32)) ||| ai)) (own_vb q1) (own_mm ai))), .second, .val (.long (0 : Int64)), .second] [(.int (1 : Int32))])) (fun t k => XS.goto X51.here hx rfl (pc0 := 297) (pc' := 301) rfl (hb hby at_297) (by decide) (by decide) k) ?_
              exact fin (some (.int (1 : Int32))) X51 (by decide) (by decide) (fun q => by cases q) (show Q_rm0 Z p1 p2 q1 q2 h0 n0 _ T51.heap _ from (by rw [hh51]; exact ⟨rfl, N52⟩)) (fun fs hr => retN X51 hx (t := .boolean) hret (by simp) (hb hby at_301) hr)
  refine go _ (s₁.setTop (mkF m 8 #[.val (.int p1), .val (.int p2), .val (.long q1), .second, .val (.long q2), .second, .val (.int (p1 &&& (31 : Int32))), .unset, .unset, .unset, .unset, .unset, .unset] [(.int (p1 &&& (31 : Int32)))])) (fun t k => XS.iload X0.here hx rfl (hb hby at_6) rfl k) ?_
  refine go _ (s₁.setTop (mkF m 10 #[.val (.int p1), .val (.int p2), .val (.long q1), .second, .val (.long q2), .second, .val (.int (p1 &&& (31 : Int32))), .unset, .unset, .unset, .unset, .unset, .unset] [(.int (28 : Int32)), (.int (p1 &&& (31 : Int32)))])) (fun t k => XS.bipush X0.here hx rfl (hb hby at_8) k) ?_
  by_cases hc64 : (p1 &&& (31 : Int32)) < (28 : Int32)
  · refine go _ (s₁.setTop (mkF m 26 #[.val (.int p1), .val (.int p2), .val (.long q1), .second, .val (.long q2), .second, .val (.int (p1 &&& (31 : Int32))), .unset, .unset, .unset, .unset, .unset, .unset] [])) (fun t k => XS.icmpYes X0.here hx rfl (pc0 := 10) (pc' := 26) rfl (hb hby at_10) rfl (tlt hc64).1 (by decide) (by decide) k) ?_
    exact tail _ (own_ok_a p1 hc64)
  · refine go _ (s₁.setTop (mkF m 13 #[.val (.int p1), .val (.int p2), .val (.long q1), .second, .val (.long q2), .second, .val (.int (p1 &&& (31 : Int32))), .unset, .unset, .unset, .unset, .unset, .unset] [])) (fun t k => XS.icmpNo X0.here hx rfl (hb hby at_10) rfl (flt hc64).1 k) ?_
    refine go _ (s₁.setTop (mkF m 15 #[.val (.int p1), .val (.int p2), .val (.long q1), .second, .val (.long q2), .second, .val (.int (p1 &&& (31 : Int32))), .unset, .unset, .unset, .unset, .unset, .unset] [(.int (p1 &&& (31 : Int32)))])) (fun t k => XS.iload X0.here hx rfl (hb hby at_13) rfl k) ?_
    refine go _ (s₁.setTop (mkF m 17 #[.val (.int p1), .val (.int p2), .val (.long q1), .second, .val (.long q2), .second, .val (.int (p1 &&& (31 : Int32))), .unset, .unset, .unset, .unset, .unset, .unset] [(.int (30 : Int32)), (.int (p1 &&& (31 : Int32)))])) (fun t k => XS.bipush X0.here hx rfl (hb hby at_15) k) ?_
    by_cases hc65 : (30 : Int32) < (p1 &&& (31 : Int32))
    · refine go _ (s₁.setTop (mkF m 26 #[.val (.int p1), .val (.int p2), .val (.long q1), .second, .val (.long q2), .second, .val (.int (p1 &&& (31 : Int32))), .unset, .unset, .unset, .unset, .unset, .unset] [])) (fun t k => XS.icmpYes X0.here hx rfl (pc0 := 17) (pc' := 26) rfl (hb hby at_17) rfl (tlt hc65).2.2.1 (by decide) (by decide) k) ?_
      exact tail _ (own_ok_b p1 hc64 hc65)
    · refine go _ (s₁.setTop (mkF m 20 #[.val (.int p1), .val (.int p2), .val (.long q1), .second, .val (.long q2), .second, .val (.int (p1 &&& (31 : Int32))), .unset, .unset, .unset, .unset, .unset, .unset] [])) (fun t k => XS.icmpNo X0.here hx rfl (hb hby at_17) rfl (flt hc65).2.2.1 k) ?_
      refine go _ (s₁.setTop (mkF m 22 #[.val (.int p1), .val (.int p2), .val (.long q1), .second, .val (.long q2), .second, .val (.int (p1 &&& (31 : Int32))), .unset, .unset, .unset, .unset, .unset, .unset] [(.int (p1 &&& (31 : Int32)))])) (fun t k => XS.iload X0.here hx rfl (hb hby at_20) rfl k) ?_
      refine go _ (s₁.setTop (mkF m 23 #[.val (.int p1), .val (.int p2), .val (.long q1), .second, .val (.long q2), .second, .val (.int (p1 &&& (31 : Int32))), .unset, .unset, .unset, .unset, .unset, .unset] [(.int (4 : Int32)), (.int (p1 &&& (31 : Int32)))])) (fun t k => XS.iconst X0.here hx rfl (hb hby at_22) k) ?_
      refine go _ (s₁.setTop (mkF m 24 #[.val (.int p1), .val (.int p2), .val (.long q1), .second, .val (.long q2), .second, .val (.int (p1 &&& (31 : Int32))), .unset, .unset, .unset, .unset, .unset, .unset] [(.int ((p1 &&& (31 : Int32)) - (4 : Int32)))])) (fun t k => XS.isub X0.here hx rfl (hb hby at_23) rfl k) ?_
      refine go _ (s₁.setTop (mkF m 26 #[.val (.int p1), .val (.int p2), .val (.long q1), .second, .val (.long q2), .second, .val (.int ((p1 &&& (31 : Int32)) - (4 : Int32))), .unset, .unset, .unset, .unset, .unset, .unset] [])) (fun t k => XS.istore X0.here hx rfl (hb hby at_24) rfl (l' := #[.val (.int p1), .val (.int p2), .val (.long q1), .second, .val (.long q2), .second, .val (.int ((p1 &&& (31 : Int32)) - (4 : Int32))), .unset, .unset, .unset, .unset, .unset, .unset]) rfl k) ?_
      exact tail _ (own_ok_c p1 hc64 hc65)
set_option maxRecDepth 65536 in
set_option maxHeartbeats 40000000 in
theorem comes_1 {Post : Tables → Env → Array Value → State → Outcome → State → Prop} (hpost : ∀ tb e args s v u, (limb_1_1.after args s (.returned v) u = true ∧ limb_1_2.after args s (.returned v) u = true ∧ True) → FrameEnd s (.returned v) u (Jvm.fieldLocs frame_1_writes args s ++ Jvm.arrayLocs frame_1_arrays args s ++ Jvm.staticLocs frame_1_statics s) 16 128 → Post tb e args s (.returned v) u) :
    ArmFor flags0 classFile x code maxLocals ret World_1 tables_1 room_1 Calls_1 rest_1 Pre_1 Post := by
  intro l hfl _ _ p e ha hc hk s m args below hf hA hF happ hP
  obtain ⟨hcalls, hrest, hpre⟩ := hP
  obtain ⟨-, -, -, hnamed, -, -, -, hat⟩ := (Spec.applies_iff hf).mp happ
  obtain ⟨hg, hn⟩ := and_e (Cond.before_iff.mp (show (Jvm.Cond.and given_1 narrow_1).before args s = true from hpre))
  obtain ⟨gc, g1⟩ := and_e hg
  obtain ⟨ga0, g2⟩ := and_e g1
  obtain ⟨ga1, g3⟩ := and_e g2
  obtain ⟨ga2, g4⟩ := and_e g3
  have ga3 := g4
  obtain ⟨w0, w1, w2, w3, rfl⟩ : ∃ w0 w1 w2 w3 : Value, args = #[w0, w1, w2, w3] := by
    have hs : args.size = 4 := by simpa [Cond.value, given_1] using gc
    obtain ⟨L⟩ := args
    match L, hs with
    | [w0, w1, w2, w3], _ => exact ⟨w0, w1, w2, w3, rfl⟩
  have hw := fun d (hd : d ∈ tables_1) => atoms_spec (ws := Jvm.Cond.code x code maxLocals ret :: tables_1) hat d (List.mem_cons_of_mem _ hd)
  obtain ⟨i0, ei0⟩ := is_v ga0
  obtain rfl : w0 = (.int i0) := Option.some.inj ei0
  obtain ⟨i1, ei1⟩ := is_v ga1
  obtain rfl : w1 = (.int i1) := Option.some.inj ei1
  obtain ⟨i2, ei2⟩ := isL_v ga2
  obtain rfl : w2 = (.long i2) := Option.some.inj ei2
  obtain ⟨i3, ei3⟩ := isL_v ga3
  obtain rfl : w3 = (.long i3) := Option.some.inj ei3
  obtain ⟨n, o, h1, h2, h3, _, L, rfl, ⟨rfl, N⟩, hq⟩ := rm0 l s _ hw tables_1 i0 i1 i2 i3 s.heap s.heap.size (Nat.le_refl _) p e ha hc hk s m _ below hf ((Spec.applies_iff_loose hf).mp happ).1 ⟨rfl, State.Warmed39.refl s, rfl⟩ trivial
  refine ⟨n, _, h1, h2, h3, hpost _ _ _ _ _ _ ⟨Cond.after_iff.mpr rfl, Cond.after_iff.mpr (eq_i res_at (Term.int_eval (1)) rfl), trivial⟩ ⟨hq.1, hq.2.1, (hq.2.2.sift fun y hy => Or.inr (N y hy)).mono (by decide) (by decide)⟩⟩
theorem main_1_1 : Claimed_1_1 := comes_1 fun _ _ _ _ _ _ h hF => ⟨h.1, hF⟩
theorem main_1_2 : Claimed_1_2 := comes_1 fun _ _ _ _ _ _ h hF => ⟨h.2.1, hF⟩
end Jvm.Pilot.@@N@@
namespace Jvm.Pilot.@@N@@
open Jvm Jvm.ClassFile Sem Op Lib Jvm.Free Jvm.Stand Jvm.Pilot.@@N@@.Jvm.D
/-! MADE BY PROGRAM (witnessworld.py) out of the Statement's table words and the real class files: 9 classes; the members and pool entries that the words name. The judged class is class 1, her method 1. -/
namespace start1
open Jvm.ClassFile
def u (s : String) : CpInfo := .utf8 (stringToUtf16 s)
/-- a pool by its gaps: so many unusable entries, then the entry; so many at the end -/
def gap : Nat → List CpInfo → List CpInfo
  | 0, r => r
  | n + 1, r => .unusable :: gap n r
def poolList (es : List (Nat × CpInfo)) (last : Nat) : List CpInfo := es.foldr (fun e r => gap e.1 (e.2 :: r)) (gap last [])
def pool (es : List (Nat × CpInfo)) (last : Nat) : Array CpInfo := ⟨poolList es last⟩
def fileOf (pool : Array CpInfo) (this : Nat) (attrs : Array Attribute := #[]) (ms : Array MethodInfo := #[]) (fl : Nat := 33) (sup : Nat := 0) (ifs : Array Nat := #[]) (fds : Array FieldInfo := #[]) : ClassFile where
  minorVersion := 0
  majorVersion := 65
  constantPool := pool
  accessFlags := fl
  thisClass := this
  superClass := sup
  interfaces := ifs
  fields := fds
  methods := ms
  attributes := attrs
def plain (name : String) (sup : Option ClassId) : Class where
  name := name
  kind := .ordinary
  loader := none
  accessFlags := 33
  super := sup
  interfaces := #[]
  cf := none
  fields := #[]
  methods := #[]
  instanceTypes := #[]
  staticTypes := #[]
  resolved := #[]
  callSites := []
  init := .initialized
  statics := none
  mirror := none

def pool0 : Array CpInfo := pool [(5, u "<init>"), (0, u "()V"), (1, .class_ 10), (1, u "java/lang/Object")] 113

def k0m0 : Method := { name := "<init>", desc := "()V", sig := { parameters := [], returnType := none }, accessFlags := 1, code := none }
/-- java/lang/Object -/
def k0 : Class := { plain "java/lang/Object" none with
  accessFlags := 33
  interfaces := #[]
  cf := some (fileOf pool0 8 #[] #[{ accessFlags := 1, nameIndex := 5, descriptorIndex := 6, attributes := #[] }] 33 0 #[] #[])
  fields := #[]
  methods := #[k0m0]
  instanceTypes := #[]
  staticTypes := #[]
  resolved := Array.replicate 124 none
  statics := none }

def pool1 : Array CpInfo := pool [(2, .class_ 4), (1, u "java/lang/Object"), (0, u "<init>"), (0, u "()V"), (0, .methodref 8 9), (0, .class_ 10), (0, .nameAndType 11 12), (0, u "com/example/countermark/countermark/cbor/CborReader"), (0, u "argument"), (0, u "([BI)J"), (0, .class_ 14), (0, u "com/example/countermark/countermark/cbor/CborReaderArgumentPinLaw"), (2, u "law"), (0, u "(IIJJ)Z")] 5

def k1m0 : Method := { name := "<init>", desc := "()V", sig := { parameters := [], returnType := none }, accessFlags := 1, code := none }
def k1c1 : Code := { maxStack := 5, maxLocals := 13, code := code, exceptionTable := #[], attributes := #[] }
def k1m1 : Method := { name := "law", desc := "(IIJJ)Z", sig := { parameters := [.int, .int, .long, .long], returnType := some .boolean }, accessFlags := 9, code := some k1c1 }
/-- com/example/countermark/countermark/cbor/CborReaderArgumentPinLaw -/
def k1 : Class := { plain "com/example/countermark/countermark/cbor/CborReaderArgumentPinLaw" (some 0) with
  accessFlags := 49
  interfaces := #[]
  cf := some (fileOf pool1 13 #[] #[{ accessFlags := 1, nameIndex := 5, descriptorIndex := 6, attributes := #[] }, { accessFlags := 9, nameIndex := 17, descriptorIndex := 18, attributes := #[] }] 49 2 #[] #[])
  fields := #[]
  methods := #[k1m0, k1m1]
  instanceTypes := #[]
  staticTypes := #[]
  resolved := Array.replicate 24 none
  statics := none }

def pool2 : Array CpInfo := pool [(6, .class_ 8), (1, u "java/lang/Object"), (3, .class_ 14), (1, u "com/example/countermark/countermark/cbor/CborReader"), (0, u "input"), (0, u "[B"), (2, u "position"), (0, u "I"), (2, u "end"), (7, u "index"), (0, u "Lcom/example/countermark/countermark/cbor/CborIndex;"), (47, u "(I)I"), (79, .methodref 12 161), (0, .nameAndType 162 80), (0, u "headLength"), (4, u "argument"), (0, u "([BI)J"), (80, u "MAX_NESTING"), (2, u "MAX_ENTRIES"), (0, u "MAX_INPUT_LENGTH"), (1, u "UTF8_CHECK_CHARS")] 35

def k2c0 : Code := { maxStack := 4, maxLocals := 1, code := prog_6_method_14_code, exceptionTable := #[], attributes := #[] }
def k2m0 : Method := { name := "headLength", desc := "(I)I", sig := { parameters := [.int], returnType := some .int }, accessFlags := 8, code := some k2c0 }
def k2c1 : Code := { maxStack := 4, maxLocals := 6, code := prog_6_method_15_code, exceptionTable := #[], attributes := #[] }
def k2m1 : Method := { name := "argument", desc := "([BI)J", sig := { parameters := [(.array .byte), .int], returnType := some .long }, accessFlags := 8, code := some k2c1 }
/-- com/example/countermark/countermark/cbor/CborReader -/
def k2 : Class := { plain "com/example/countermark/countermark/cbor/CborReader" (some 0) with
  accessFlags := 49
  interfaces := #[]
  cf := some (fileOf pool2 12 #[] #[{ accessFlags := 8, nameIndex := 162, descriptorIndex := 80, attributes := #[] }, { accessFlags := 8, nameIndex := 167, descriptorIndex := 168, attributes := #[] }] 49 6 #[] #[{ accessFlags := 25, nameIndex := 249, descriptorIndex := 20, attributes := #[] }, { accessFlags := 25, nameIndex := 252, descriptorIndex := 20, attributes := #[] }, { accessFlags := 25, nameIndex := 253, descriptorIndex := 20, attributes := #[] }, { accessFlags := 26, nameIndex := 255, descriptorIndex := 20, attributes := #[] }, { accessFlags := 18, nameIndex := 15, descriptorIndex := 16, attributes := #[] }, { accessFlags := 18, nameIndex := 23, descriptorIndex := 20, attributes := #[] }, { accessFlags := 18, nameIndex := 31, descriptorIndex := 32, attributes := #[] }, { accessFlags := 2, nameIndex := 19, descriptorIndex := 20, attributes := #[] }])
  fields := #[{ name := "MAX_NESTING", type := .int, accessFlags := 25, slot := 0, constantValue := 0 }, { name := "MAX_ENTRIES", type := .int, accessFlags := 25, slot := 1, constantValue := 0 }, { name := "MAX_INPUT_LENGTH", type := .int, accessFlags := 25, slot := 2, constantValue := 0 }, { name := "UTF8_CHECK_CHARS", type := .int, accessFlags := 26, slot := 3, constantValue := 0 }, { name := "input", type := (.array .byte), accessFlags := 18, slot := 0, constantValue := 0 }, { name := "end", type := .int, accessFlags := 18, slot := 1, constantValue := 0 }, { name := "index", type := (.object "com/example/countermark/countermark/cbor/CborIndex"), accessFlags := 18, slot := 2, constantValue := 0 }, { name := "position", type := .int, accessFlags := 2, slot := 3, constantValue := 0 }]
  methods := #[k2m0, k2m1]
  instanceTypes := #[(.array .byte), .int, (.object "com/example/countermark/countermark/cbor/CborIndex"), .int]
  staticTypes := #[.int, .int, .int, .int]
  resolved := Array.replicate 291 none
  statics := none }

def pool3 : Array CpInfo := pool [(1, u "java/lang/Cloneable"), (0, .class_ 1), (0, u "java/lang/Object"), (0, .class_ 3)] 3

/-- java/lang/Cloneable -/
def k3 : Class := { plain "java/lang/Cloneable" (some 0) with
  accessFlags := 1537
  interfaces := #[]
  cf := some (fileOf pool3 2 #[] #[] 1537 4 #[] #[])
  fields := #[]
  methods := #[]
  instanceTypes := #[]
  staticTypes := #[]
  resolved := Array.replicate 8 none
  statics := none }

def pool4 : Array CpInfo := pool [(1, u "java/io/Serializable"), (0, .class_ 1), (0, u "java/lang/Object"), (0, .class_ 3)] 3

/-- java/io/Serializable -/
def k4 : Class := { plain "java/io/Serializable" (some 0) with
  accessFlags := 1537
  interfaces := #[]
  cf := some (fileOf pool4 2 #[] #[] 1537 4 #[] #[])
  fields := #[]
  methods := #[]
  instanceTypes := #[]
  staticTypes := #[]
  resolved := Array.replicate 8 none
  statics := none }

/-- the primitive byte -/
def k5 : Class := { plain "byte" none with kind := .primitive 'B', accessFlags := 0x411 }
/-- [B -/
def k6 : Class := { plain "[B" (some 0) with kind := .array 5 .byte, interfaces := #[3, 4], accessFlags := 1041 }

/-- the primitive int -/
def k7 : Class := { plain "int" none with kind := .primitive 'I', accessFlags := 0x411 }
/-- [I -/
def k8 : Class := { plain "[I" (some 0) with kind := .array 7 .int, interfaces := #[3, 4], accessFlags := 1041 }

def heap : Heap := #[]
def classes : Array Class := #[k0, k1, k2, k3, k4, k5, k6, k7, k8]
def interned : List (Array UInt16 × Addr) := []
def slotsUsed : Nat := 0
def theMethod : MethodId := ⟨1, 1⟩
def args0 : Array Value := #[.int 5, .int 61, .long 3, .long 4]
def aboutOver (below : List Frame) : State where
  vm := { classes := classes, interned := interned.toArray }
  heap := heap
  slotsUsed := slotsUsed
  threads := #[{ frames := .invoking theMethod args0 :: below }]
def below0 : List Frame := [.native { method := ⟨0, 0⟩, args := #[] }]
def about1 : State := aboutOver below0
def p0 : Program := .bare "" "" ""
def e0 : Env := launch0.env 0 0 0
theorem w_frames : about1.frames = Frame.invoking theMethod args0 :: below0 := rfl
set_option maxRecDepth 65536 in
theorem w_args : argsFit about1.vm theMethod args0 = true := by decide +kernel
set_option maxRecDepth 65536 in
theorem w_heap : heapFits about1 = true := by decide +kernel
set_option maxRecDepth 65536 in
theorem w_runnable : about1.curStatus? = some .runnable := by decide +kernel
set_option maxRecDepth 65536 in
theorem w_alone : about1.alone = true := by decide +kernel
set_option maxRecDepth 65536 in
theorem w_named : about1.methodNamed? x = some theMethod := by decide +kernel
set_option maxRecDepth 65536 in
theorem w_hears : about1.hears theMethod below0 = true := by decide +kernel
set_option maxRecDepth 65536 in
theorem w_ripe : about1.ripe theMethod args0 below0 = true := by decide +kernel
theorem w_running : about1.status = .running := rfl
set_option maxRecDepth 65536 in
theorem w_room : about1.hasRoom e0.platform room_1 = true :=
  launch0.hasRoom_least _ room_1 (by decide +kernel) (by decide +kernel) (by decide +kernel) (by decide +kernel) (by decide +kernel) (by decide +kernel)
theorem allAtoms_all (ts : List Jvm.Cond) (a : Array Jvm.Value) (st : Jvm.State) : (allAtoms ts).before a st = ts.all (fun c => c.before a st) := by
  induction ts with
  | nil => rfl
  | cons c t ih =>
    show (Jvm.Cond.and c (allAtoms t)).before a st = _
    rw [Jvm.Cond.before_and, ih, List.all_cons]
def words1 : List Jvm.Cond := Jvm.Cond.code x code maxLocals ret :: tables_1
/-- a 'code' word, met by the world's own term for the bytes: nothing is compared byte by byte -/
theorem code_word {y : MethodName} {bytes : ByteArray} {mx : Nat} {rt : Option FieldType} {a : Array Value} {s : State} {m : MethodId} {meth : Method} {c : Code} (h1 : s.methodNamed? y = some m) (h2 : s.vm.method? m = some meth) (h3 : meth.code = some c) (h4 : c.code = bytes)
    (h5 : (c.maxLocals == mx && c.exceptionTable.isEmpty && decide (c.maxStack ≤ mostOperands) && decide (meth.sig.returnType = rt) && !meth.locks && decide (parseMethodDescriptor y.desc = some meth.sig)) = true) : (Jvm.Cond.code y bytes mx rt).before a s = true := by
  simp only [Bool.and_eq_true, beq_iff_eq, Bool.not_eq_true', decide_eq_true_eq] at h5
  obtain ⟨⟨⟨⟨⟨g1, g2⟩, g3⟩, g4⟩, g5⟩, g6⟩ := h5
  simp [Cond.before, Cond.holds, Cond.value, h1, h2, h3, h4, g1, g2, g3, g4, g5, g6]
def isCode : Jvm.Cond → Bool
  | .code _ _ _ _ => true
  | _ => false
theorem all_split {L : List Jvm.Cond} {P : Jvm.Cond → Bool} (h1 : L.all (fun c => isCode c || P c) = true) (h2 : ∀ c ∈ L.filter isCode, P c = true) : L.all P = true := by
  refine List.all_eq_true.mpr fun c hc => ?_
  have h := List.all_eq_true.mp h1 c hc
  rcases Bool.eq_false_or_eq_true (isCode c) with hi | hi
  · exact h2 c (List.mem_filter.mpr ⟨hc, hi⟩)
  · simpa [hi] using h
set_option maxRecDepth 65536 in
theorem w_c0 : (Jvm.Cond.code x code maxLocals ret).before args0 about1 = true := code_word (m := ⟨1, 1⟩) (meth := k1m1) (c := k1c1) (by decide +kernel) rfl rfl rfl (by decide +kernel)
set_option maxRecDepth 65536 in
theorem w_c1 : (Jvm.Cond.code ({ cls := "com/example/countermark/countermark/cbor/CborReader", name := "argument", desc := "([BI)J" } : Jvm.MethodName) prog_6_method_15_code (6 : Nat) (Option.some Jvm.ClassFile.FieldType.long)).before args0 about1 = true := code_word (m := ⟨2, 1⟩) (meth := k2m1) (c := k2c1) (by decide +kernel) rfl rfl rfl (by decide +kernel)
set_option maxRecDepth 65536 in
theorem w_c2 : (Jvm.Cond.code ({ cls := "com/example/countermark/countermark/cbor/CborReader", name := "headLength", desc := "(I)I" } : Jvm.MethodName) prog_6_method_14_code (1 : Nat) (Option.some Jvm.ClassFile.FieldType.int)).before args0 about1 = true := code_word (m := ⟨2, 0⟩) (meth := k2m0) (c := k2c0) (by decide +kernel) rfl rfl rfl (by decide +kernel)
def codes1 : List Jvm.Cond := [Jvm.Cond.code x code maxLocals ret, Jvm.Cond.code ({ cls := "com/example/countermark/countermark/cbor/CborReader", name := "argument", desc := "([BI)J" } : Jvm.MethodName) prog_6_method_15_code (6 : Nat) (Option.some Jvm.ClassFile.FieldType.long), Jvm.Cond.code ({ cls := "com/example/countermark/countermark/cbor/CborReader", name := "headLength", desc := "(I)I" } : Jvm.MethodName) prog_6_method_14_code (1 : Nat) (Option.some Jvm.ClassFile.FieldType.int)]
set_option maxRecDepth 65536 in
theorem codes_eq : words1.filter isCode = codes1 := rfl
theorem w_codes : ∀ c ∈ words1.filter isCode, c.before args0 about1 = true := by
  rw [codes_eq]
  intro c hc
  simp only [codes1, List.mem_cons, List.not_mem_nil, or_false] at hc
  rcases hc with rfl | rfl | rfl
  · exact w_c0
  · exact w_c1
  · exact w_c2
set_option maxRecDepth 65536 in
theorem w_t1 : words1.all (fun c => isCode c || c.before args0 about1) = true := by decide +kernel
theorem w_tables : (allAtoms (Jvm.Cond.code x code maxLocals ret :: tables_1)).before args0 about1 = true := by
  rw [allAtoms_all]
  show words1.all (fun c => c.before args0 about1) = true
  refine all_split ?_ w_codes
  rw [w_t1]
set_option maxRecDepth 65536 in
theorem w_case : (Jvm.Cond.and given_1 narrow_1).before args0 about1 = true := by decide +kernel
theorem w_applies : (headSpec (Jvm.Cond.code x code maxLocals ret :: tables_1) room_1).applies x e0.platform about1 = true :=
  (Spec.applies_iff w_frames).mpr ⟨w_running, w_runnable, w_alone, w_named, w_hears, w_ripe, w_room, w_tables⟩
theorem atStart : AtStart classFile x code maxLocals ret World_1 tables_1 room_1 Calls_1 rest_1 Pre_1 launch0 p0 e0 about1 theMethod args0 below0 :=
  ⟨lists_1, trivial, launch0.admits_env _ _ _, launch0.least_env, fairChoices_fair.cas, fairChoices_fair.clock, w_frames, w_args, w_heap, w_applies, trivial, trivial, w_case⟩
end start1
theorem witness_1 : WitnessClaimed_1 := ⟨start1.p0, start1.e0, start1.about1, start1.theMethod, start1.args0, start1.below0, start1.atStart⟩
end Jvm.Pilot.@@N@@
