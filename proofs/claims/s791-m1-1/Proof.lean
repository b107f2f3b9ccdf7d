import JvmDerived
import JvmDerived.Pilot.@@N@@Statement
import JvmDerived.Pilot.@@N@@Code
set_option linter.unusedVariables false
set_option linter.unusedSimpArgs false
@@BLOCK:NumsL.lean.txt@@
namespace Jvm.Pilot.@@N@@
open Jvm Jvm.ClassFile Sem Op Lib Jvm.Free Jvm.Stand Jvm.LawKit Jvm.RoadKit Bundle Jvm.Pilot.@@N@@.Jvm.D
section OwnLayer
/-- the surroundings of a walk: what stays the same from step to step -/
def Cx (p : Program) (s : State) (m : MethodId) (meth : Method) (c : Code) (Z : State) (own : String) (bs : ByteArray) (mx : Nat) (rt : Option FieldType) (nm : String) : Prop :=
  p.tables.exec = Jvm.exec ∧ c.code = bs ∧ c.maxLocals = mx ∧ Z.Warmed39 s.vm ∧ s.vm.findClass own = some m.cls ∧ meth.sig.returnType = rt ∧ meth.locks = false ∧ meth.name = nm
/-- wherever the walk stands with heap h and top frame g, it comes to its end, and Q holds there -/
def Go (p : Program) (l : Launch) (e : Env) (R : Room) (s : State) (m : MethodId) (args : Array Value) (below : List Frame) (meth : Method) (c : Code) (n0 : Nat) (Q : Option Value → Heap → Prop) (K N : Nat) (h : Heap) (ce sl : Nat) (g : JFrame) : Prop :=
  ∀ (T : State) (locs : List Loc), Stand p l e R s m args below meth c T locs ce sl → T.heap = h → Fr n0 locs →
    ∃ s₂ o, Steps p.tables e below (T.setTop g) s₂ ∧ s₂.status = .running ∧ Ended s₂ below o ∧ ∃ v L, o = .returned v ∧ (Q v s₂.heap ∧ Fr n0 L) ∧ FrameEnd s o s₂ L K N
/-- a method's contract, for given arguments and a given heap -/
def Sat (l : Launch) (Z : State) (y : MethodName) (bs : ByteArray) (mx : Nat) (rt : Option FieldType) (rm : Room) (as : List Value) (h0 : Heap) (n0 : Nat) (Q : Option Value → Heap → Prop) : Prop :=
  ∀ ws : List Jvm.Cond, MetFree l y (head1 (Jvm.Cond.code y bs mx rt :: ws) rm) (fun a U => a = as.toArray ∧ Z.Warmed39 U.vm ∧ U.heap = h0) (fun _ _ _ _ _ => True) (fun _ U o U' => ∃ v L, o = .returned v ∧ (Q v U'.heap ∧ Fr n0 L) ∧ FrameEnd U o U' L rm.cells rm.slots)
def RV (P : Value → Heap → Prop) : Option Value → Heap → Prop := fun v h => ∃ r, v = some r ∧ P r h
def RN (P : Heap → Prop) : Option Value → Heap → Prop := fun v h => v = none ∧ P h
def wt (st : List Value) : Nat := (st.map fun v => v.category).sum
def bi (P : Prop) [Decidable P] : Int32 := if P then 1 else 0
theorem bi_t {P : Prop} [Decidable P] (h : P) : bi P = 1 := if_pos h
theorem bi_f {P : Prop} [Decidable P] (h : ¬ P) : bi P = 0 := if_neg h
theorem bi1 {P : Prop} [Decidable P] (h : P) : (1 : Int32) = bi P := (if_pos h).symm
theorem bi0 {P : Prop} [Decidable P] (h : ¬ P) : (0 : Int32) = bi P := (if_neg h).symm
theorem bi_congr {P P' : Prop} [Decidable P] [Decidable P'] (h : P ↔ P') : bi P = bi P' := by
  by_cases q : P
  · rw [bi_t q, bi_t (h.mp q)]
  · rw [bi_f q, bi_f fun z => q (h.mpr z)]
theorem bi_nar (P : Prop) [Decidable P] : nar .boolean (bi P) = bi P := by
  by_cases q : P
  · rw [bi_t q]; rfl
  · rw [bi_f q]; rfl
theorem bi_inj {P P' : Prop} [Decidable P] [Decidable P'] (h : bi P = bi P') : P ↔ P' := by
  by_cases q : P <;> by_cases q' : P' <;> simp_all [bi]
theorem bi_narrow (P : Prop) [Decidable P] : narrow .boolean (.int (bi P)) = .int (bi P) := by
  by_cases q : P
  · rw [bi_t q]; rfl
  · rw [bi_f q]; rfl
theorem bi_fits (P : Prop) [Decidable P] : fits .boolean (.int (bi P)) = true := by
  by_cases q : P
  · rw [bi_t q]; rfl
  · rw [bi_f q]; rfl
theorem bi_toInt (P : Prop) [Decidable P] : (bi P).toInt = if P then 1 else 0 := by
  by_cases q : P
  · rw [bi_t q, if_pos q]; rfl
  · rw [bi_f q, if_neg q]; rfl
theorem own_add_t {P : Prop} [Decidable P] (n : Int32) (h : P) : n + 1 = n + bi P := by rw [bi_t h]
theorem own_add_f {P : Prop} [Decidable P] (n : Int32) (h : ¬ P) : n = n + bi P := by rw [bi_f h, Int32.add_zero]
theorem own_narrow_arr {v : Value} {t : FieldType} (h : v.isRef = true) : narrow (.array t) v = v := by
  cases v <;> first | rfl | simp [Value.isRef] at h
theorem own_fits_arr {v : Value} {t : FieldType} (h : v.isRef = true) : fits (.array t) v = true := by
  cases v <;> first | rfl | simp [Value.isRef] at h
theorem own_bb (x : Int32) : x.toInt8.toInt32.toInt8.toInt32 = x.toInt8.toInt32 := by simp
theorem own_ne_new {h : Heap} {a b : Addr} (q : b < h.size) (g : h.size = a) : b ≠ a := Nat.ne_of_lt (g ▸ q)
theorem own_ge {h : Heap} {a : Addr} {n : Nat} (q : n ≤ h.size) (g : h.size = a) : n ≤ a := g ▸ q
theorem int_eq {x y : Int32} (h : x.toInt = y.toInt) : x = y := Int32.toInt_inj.mp h
theorem long_eq {x y : Int64} (h : x.toInt = y.toInt) : x = y := Int64.toInt_inj.mp h
section Walk
variable {p : Program} {l : Launch} {e : Env} {R : Room} {s : State} {m : MethodId} {args : Array Value} {below : List Frame} {meth : Method} {c : Code} {Z : State} {a0 : Array Value} {own : String} {bs : ByteArray} {mx : Nat} {rt : Option FieldType} {nm : String} {n0 : Nat} {Q : Option Value → Heap → Prop} {K N : Nat} {h : Heap} {ce sl : Nat} {pc pc' : Nat} {Ls Ls' : Array Slot} {st : List Value} {g g' : JFrame}
theorem Go.step (H : ∀ (T : State), At T m c below → ∀ target, Steps p.tables e below (T.setTop g') target → Steps p.tables e below (T.setTop g) target) (hr : Go p l e R s m args below meth c n0 Q K N h ce sl g') : Go p l e R s m args below meth c n0 Q K N h ce sl g := fun T locs X eT Nn => by
  obtain ⟨s₂, o, h1, r⟩ := hr T locs X eT Nn
  exact ⟨s₂, o, H T X.here _ h1, r⟩
theorem Go.stepX (H : ∀ (T : State) (locs : List Loc), Stand p l e R s m args below meth c T locs ce sl → T.heap = h → ∀ target, Steps p.tables e below (T.setTop g') target → Steps p.tables e below (T.setTop g) target) (hr : Go p l e R s m args below meth c n0 Q K N h ce sl g') : Go p l e R s m args below meth c n0 Q K N h ce sl g := fun T locs X eT Nn => by
  obtain ⟨s₂, o, h1, r⟩ := hr T locs X eT Nn
  exact ⟨s₂, o, H T locs X eT _ h1, r⟩
theorem Go.more {ce' sl' : Nat} (hc : ce ≤ ce') (hs : sl ≤ sl') (hr : Go p l e R s m args below meth c n0 Q K N h ce' sl' g) : Go p l e R s m args below meth c n0 Q K N h ce sl g := fun T locs X eT Nn => hr T locs (X.more hc hs) eT Nn
theorem go_iloadN (C : Cx p s m meth c Z own bs mx rt nm) {k : Fin 4} {v : Int32} (hd : decode bs pc = .ok (.iload_n k, 1)) (hp : pc + 1 = pc') (hl : Ls[k.val]? = some (.val (.int v))) (hr : Go p l e R s m args below meth c n0 Q K N h ce sl (mkF m pc' Ls (.int v :: st))) : Go p l e R s m args below meth c n0 Q K N h ce sl (mkF m pc Ls st) := by
  subst hp
  exact Go.step (fun T A _ q => XS.iloadN A C.1 rfl (hb C.2.1 hd) hl q) hr
theorem go_iload (C : Cx p s m meth c Z own bs mx rt nm) {k : Nat} {v : Int32} (hd : decode bs pc = .ok (.iload k, 2)) (hp : pc + 2 = pc') (hl : Ls[k]? = some (.val (.int v))) (hr : Go p l e R s m args below meth c n0 Q K N h ce sl (mkF m pc' Ls (.int v :: st))) : Go p l e R s m args below meth c n0 Q K N h ce sl (mkF m pc Ls st) := by
  subst hp
  exact Go.step (fun T A _ q => XS.iload A C.1 rfl (hb C.2.1 hd) hl q) hr
theorem go_lloadN (C : Cx p s m meth c Z own bs mx rt nm) {k : Fin 4} {v : Int64} (hd : decode bs pc = .ok (.lload_n k, 1)) (hp : pc + 1 = pc') (hl : Ls[k.val]? = some (.val (.long v))) (hr : Go p l e R s m args below meth c n0 Q K N h ce sl (mkF m pc' Ls (.long v :: st))) : Go p l e R s m args below meth c n0 Q K N h ce sl (mkF m pc Ls st) := by
  subst hp
  exact Go.step (fun T A _ q => XT.lloadN A C.1 rfl (hb C.2.1 hd) hl q) hr
theorem go_lload (C : Cx p s m meth c Z own bs mx rt nm) {k : Nat} {v : Int64} (hd : decode bs pc = .ok (.lload k, 2)) (hp : pc + 2 = pc') (hl : Ls[k]? = some (.val (.long v))) (hr : Go p l e R s m args below meth c n0 Q K N h ce sl (mkF m pc' Ls (.long v :: st))) : Go p l e R s m args below meth c n0 Q K N h ce sl (mkF m pc Ls st) := by
  subst hp
  exact Go.step (fun T A _ q => XT.lload A C.1 rfl (hb C.2.1 hd) hl q) hr
theorem go_aloadN (C : Cx p s m meth c Z own bs mx rt nm) {k : Fin 4} {v : Value} (hd : decode bs pc = .ok (.aload_n k, 1)) (hp : pc + 1 = pc') (hl : Ls[k.val]? = some (.val v)) (hv : v.isRef = true) (hr : Go p l e R s m args below meth c n0 Q K N h ce sl (mkF m pc' Ls (v :: st))) : Go p l e R s m args below meth c n0 Q K N h ce sl (mkF m pc Ls st) := by
  subst hp
  exact Go.step (fun T A _ q => XS.aloadN A C.1 rfl (hb C.2.1 hd) hl hv q) hr
theorem go_aload (C : Cx p s m meth c Z own bs mx rt nm) {k : Nat} {v : Value} (hd : decode bs pc = .ok (.aload k, 2)) (hp : pc + 2 = pc') (hl : Ls[k]? = some (.val v)) (hv : v.isRef = true) (hr : Go p l e R s m args below meth c n0 Q K N h ce sl (mkF m pc' Ls (v :: st))) : Go p l e R s m args below meth c n0 Q K N h ce sl (mkF m pc Ls st) := by
  subst hp
  exact Go.step (fun T A _ q => XS.aload A C.1 rfl (hb C.2.1 hd) hl hv q) hr
theorem go_istoreN (C : Cx p s m meth c Z own bs mx rt nm) {k : Fin 4} {v : Int32} (hd : decode bs pc = .ok (.istore_n k, 1)) (hp : pc + 1 = pc') (hl : storeLocals Ls k.val (.int v) = some Ls') (hr : Go p l e R s m args below meth c n0 Q K N h ce sl (mkF m pc' Ls' st)) : Go p l e R s m args below meth c n0 Q K N h ce sl (mkF m pc Ls (.int v :: st)) := by
  subst hp
  exact Go.step (fun T A _ q => XS.istoreN A C.1 rfl (hb C.2.1 hd) rfl hl q) hr
theorem go_istore (C : Cx p s m meth c Z own bs mx rt nm) {k : Nat} {v : Int32} (hd : decode bs pc = .ok (.istore k, 2)) (hp : pc + 2 = pc') (hl : storeLocals Ls k (.int v) = some Ls') (hr : Go p l e R s m args below meth c n0 Q K N h ce sl (mkF m pc' Ls' st)) : Go p l e R s m args below meth c n0 Q K N h ce sl (mkF m pc Ls (.int v :: st)) := by
  subst hp
  exact Go.step (fun T A _ q => XS.istore A C.1 rfl (hb C.2.1 hd) rfl hl q) hr
theorem go_lstoreN (C : Cx p s m meth c Z own bs mx rt nm) {k : Fin 4} {v : Int64} (hd : decode bs pc = .ok (.lstore_n k, 1)) (hp : pc + 1 = pc') (hl : storeLocals Ls k.val (.long v) = some Ls') (hr : Go p l e R s m args below meth c n0 Q K N h ce sl (mkF m pc' Ls' st)) : Go p l e R s m args below meth c n0 Q K N h ce sl (mkF m pc Ls (.long v :: st)) := by
  subst hp
  exact Go.step (fun T A _ q => XT.lstoreN A C.1 rfl (hb C.2.1 hd) rfl hl q) hr
theorem go_lstore (C : Cx p s m meth c Z own bs mx rt nm) {k : Nat} {v : Int64} (hd : decode bs pc = .ok (.lstore k, 2)) (hp : pc + 2 = pc') (hl : storeLocals Ls k (.long v) = some Ls') (hr : Go p l e R s m args below meth c n0 Q K N h ce sl (mkF m pc' Ls' st)) : Go p l e R s m args below meth c n0 Q K N h ce sl (mkF m pc Ls (.long v :: st)) := by
  subst hp
  exact Go.step (fun T A _ q => XT.lstore A C.1 rfl (hb C.2.1 hd) rfl hl q) hr
theorem go_astoreN (C : Cx p s m meth c Z own bs mx rt nm) {k : Fin 4} {v : Value} (hd : decode bs pc = .ok (.astore_n k, 1)) (hp : pc + 1 = pc') (hv : v.isRef = true) (hl : storeLocals Ls k.val v = some Ls') (hr : Go p l e R s m args below meth c n0 Q K N h ce sl (mkF m pc' Ls' st)) : Go p l e R s m args below meth c n0 Q K N h ce sl (mkF m pc Ls (v :: st)) := by
  subst hp
  exact Go.step (fun T A _ q => XS.astoreN A C.1 rfl (hb C.2.1 hd) rfl hv hl q) hr
theorem go_astore (C : Cx p s m meth c Z own bs mx rt nm) {k : Nat} {v : Value} (hd : decode bs pc = .ok (.astore k, 2)) (hp : pc + 2 = pc') (hv : v.isRef = true) (hl : storeLocals Ls k v = some Ls') (hr : Go p l e R s m args below meth c n0 Q K N h ce sl (mkF m pc' Ls' st)) : Go p l e R s m args below meth c n0 Q K N h ce sl (mkF m pc Ls (v :: st)) := by
  subst hp
  exact Go.step (fun T A _ q => XS.astore A C.1 rfl (hb C.2.1 hd) rfl hv hl q) hr
theorem go_istoreS (C : Cx p s m meth c Z own bs mx rt nm) {k : Nat} {v : Int32} {o : Slot} (hd : decode bs pc = .ok (.istore k, 2)) (hp : pc + 2 = pc') (hold : Ls[k]? = some o) (ho : One o) (hL : Ls.setIfInBounds k (.val (.int v)) = Ls') (hr : Go p l e R s m args below meth c n0 Q K N h ce sl (mkF m pc' Ls' st)) : Go p l e R s m args below meth c n0 Q K N h ce sl (mkF m pc Ls (.int v :: st)) := by
  subst hp hL
  exact Go.step (fun T A _ q => XS.istoreS A C.1 rfl (hb C.2.1 hd) rfl hold ho q) hr
theorem go_istoreNS (C : Cx p s m meth c Z own bs mx rt nm) {k : Fin 4} {v : Int32} {o : Slot} (hd : decode bs pc = .ok (.istore_n k, 1)) (hp : pc + 1 = pc') (hold : Ls[k.val]? = some o) (ho : One o) (hL : Ls.setIfInBounds k.val (.val (.int v)) = Ls') (hr : Go p l e R s m args below meth c n0 Q K N h ce sl (mkF m pc' Ls' st)) : Go p l e R s m args below meth c n0 Q K N h ce sl (mkF m pc Ls (.int v :: st)) := by
  subst hp hL
  exact Go.step (fun T A _ q => XS.istoreNS A C.1 rfl (hb C.2.1 hd) rfl hold ho q) hr
theorem go_iconst (C : Cx p s m meth c Z own bs mx rt nm) {i : Int} (v : Int32) (hd : decode bs pc = .ok (.iconst i, 1)) (hp : pc + 1 = pc') (hv : Int32.ofInt i = v) (hr : Go p l e R s m args below meth c n0 Q K N h ce sl (mkF m pc' Ls (.int v :: st))) : Go p l e R s m args below meth c n0 Q K N h ce sl (mkF m pc Ls st) := by
  subst hp
  exact Go.step (fun T A _ q => XT.iconstV A C.1 rfl v (hb C.2.1 hd) hv q) hr
theorem go_bipush (C : Cx p s m meth c Z own bs mx rt nm) {i : Int} (v : Int32) (hd : decode bs pc = .ok (.bipush i, 2)) (hp : pc + 2 = pc') (hv : (Int8.ofInt i).toInt32 = v) (hr : Go p l e R s m args below meth c n0 Q K N h ce sl (mkF m pc' Ls (.int v :: st))) : Go p l e R s m args below meth c n0 Q K N h ce sl (mkF m pc Ls st) := by
  subst hp
  exact Go.step (fun T A _ q => XT.bipushV A C.1 rfl v (hb C.2.1 hd) hv q) hr
theorem go_sipush (C : Cx p s m meth c Z own bs mx rt nm) {i : Int} (v : Int32) (hd : decode bs pc = .ok (.sipush i, 3)) (hp : pc + 3 = pc') (hv : (Int16.ofInt i).toInt32 = v) (hr : Go p l e R s m args below meth c n0 Q K N h ce sl (mkF m pc' Ls (.int v :: st))) : Go p l e R s m args below meth c n0 Q K N h ce sl (mkF m pc Ls st) := by
  subst hp
  exact Go.step (fun T A _ q => XT.sipushV A C.1 rfl v (hb C.2.1 hd) hv q) hr
theorem go_lconst (C : Cx p s m meth c Z own bs mx rt nm) {k : Fin 2} (v : Int64) (hd : decode bs pc = .ok (.lconst k, 1)) (hp : pc + 1 = pc') (hv : Int64.ofNat k = v) (hr : Go p l e R s m args below meth c n0 Q K N h ce sl (mkF m pc' Ls (.long v :: st))) : Go p l e R s m args below meth c n0 Q K N h ce sl (mkF m pc Ls st) := by
  subst hp
  exact Go.step (fun T A _ q => XT.lconstV A C.1 rfl v (hb C.2.1 hd) hv q) hr
theorem go_aconst_null (C : Cx p s m meth c Z own bs mx rt nm)  (hd : decode bs pc = .ok (.aconst_null, 1)) (hp : pc + 1 = pc') (hr : Go p l e R s m args below meth c n0 Q K N h ce sl (mkF m pc' Ls (.null :: st))) : Go p l e R s m args below meth c n0 Q K N h ce sl (mkF m pc Ls st) := by
  subst hp
  exact Go.step (fun T A _ q => XS.aconstNull A C.1 rfl (hb C.2.1 hd)  q) hr
theorem go_iinc (C : Cx p s m meth c Z own bs mx rt nm) {k : Nat} {i : Int} {x : Int32} (v : Int32) (hd : decode bs pc = .ok (.iinc k i, 3)) (hp : pc + 3 = pc') (hv : Int32.ofInt i = v) (hl : Ls[k]? = some (.val (.int x))) (hl' : storeLocals Ls k (.int (x + v)) = some Ls') (hr : Go p l e R s m args below meth c n0 Q K N h ce sl (mkF m pc' Ls' st)) : Go p l e R s m args below meth c n0 Q K N h ce sl (mkF m pc Ls st) := by
  subst hp
  exact Go.step (fun T A _ q => XT.iincV A C.1 rfl v (hb C.2.1 hd) hv hl hl' q) hr
theorem go_iadd (C : Cx p s m meth c Z own bs mx rt nm) {x y : Int32} (hd : decode bs pc = .ok (.iadd, 1)) (hp : pc + 1 = pc') (hr : Go p l e R s m args below meth c n0 Q K N h ce sl (mkF m pc' Ls (.int (x + y) :: st))) : Go p l e R s m args below meth c n0 Q K N h ce sl (mkF m pc Ls (.int y :: .int x :: st)) := by
  subst hp
  exact Go.step (fun T A _ q => XS.iadd A C.1 rfl (hb C.2.1 hd) rfl q) hr
theorem go_isub (C : Cx p s m meth c Z own bs mx rt nm) {x y : Int32} (hd : decode bs pc = .ok (.isub, 1)) (hp : pc + 1 = pc') (hr : Go p l e R s m args below meth c n0 Q K N h ce sl (mkF m pc' Ls (.int (x - y) :: st))) : Go p l e R s m args below meth c n0 Q K N h ce sl (mkF m pc Ls (.int y :: .int x :: st)) := by
  subst hp
  exact Go.step (fun T A _ q => XS.isub A C.1 rfl (hb C.2.1 hd) rfl q) hr
theorem go_iand (C : Cx p s m meth c Z own bs mx rt nm) {x y : Int32} (hd : decode bs pc = .ok (.iand, 1)) (hp : pc + 1 = pc') (hr : Go p l e R s m args below meth c n0 Q K N h ce sl (mkF m pc' Ls (.int (x &&& y) :: st))) : Go p l e R s m args below meth c n0 Q K N h ce sl (mkF m pc Ls (.int y :: .int x :: st)) := by
  subst hp
  exact Go.step (fun T A _ q => XS.iand A C.1 rfl (hb C.2.1 hd) rfl q) hr
theorem go_imul (C : Cx p s m meth c Z own bs mx rt nm) {x y : Int32} (hd : decode bs pc = .ok (.imul, 1)) (hp : pc + 1 = pc') (hr : Go p l e R s m args below meth c n0 Q K N h ce sl (mkF m pc' Ls (.int (x * y) :: st))) : Go p l e R s m args below meth c n0 Q K N h ce sl (mkF m pc Ls (.int y :: .int x :: st)) := by
  subst hp
  exact Go.step (fun T A _ q => XS.imul A C.1 rfl (hb C.2.1 hd) rfl q) hr
theorem go_ior (C : Cx p s m meth c Z own bs mx rt nm) {x y : Int32} (hd : decode bs pc = .ok (.ior, 1)) (hp : pc + 1 = pc') (hr : Go p l e R s m args below meth c n0 Q K N h ce sl (mkF m pc' Ls (.int (x ||| y) :: st))) : Go p l e R s m args below meth c n0 Q K N h ce sl (mkF m pc Ls (.int y :: .int x :: st)) := by
  subst hp
  exact Go.step (fun T A _ q => XT.ior A C.1 rfl (hb C.2.1 hd) rfl q) hr
theorem go_ixor (C : Cx p s m meth c Z own bs mx rt nm) {x y : Int32} (hd : decode bs pc = .ok (.ixor, 1)) (hp : pc + 1 = pc') (hr : Go p l e R s m args below meth c n0 Q K N h ce sl (mkF m pc' Ls (.int (x ^^^ y) :: st))) : Go p l e R s m args below meth c n0 Q K N h ce sl (mkF m pc Ls (.int y :: .int x :: st)) := by
  subst hp
  exact Go.step (fun T A _ q => XT.ixor A C.1 rfl (hb C.2.1 hd) rfl q) hr
theorem go_ishl (C : Cx p s m meth c Z own bs mx rt nm) {x y : Int32} (hd : decode bs pc = .ok (.ishl, 1)) (hp : pc + 1 = pc') (hr : Go p l e R s m args below meth c n0 Q K N h ce sl (mkF m pc' Ls (.int (x <<< (y &&& 31)) :: st))) : Go p l e R s m args below meth c n0 Q K N h ce sl (mkF m pc Ls (.int y :: .int x :: st)) := by
  subst hp
  exact Go.step (fun T A _ q => XT.ishl A C.1 rfl (hb C.2.1 hd) rfl q) hr
theorem go_ishr (C : Cx p s m meth c Z own bs mx rt nm) {x y : Int32} (hd : decode bs pc = .ok (.ishr, 1)) (hp : pc + 1 = pc') (hr : Go p l e R s m args below meth c n0 Q K N h ce sl (mkF m pc' Ls (.int (x >>> (y &&& 31)) :: st))) : Go p l e R s m args below meth c n0 Q K N h ce sl (mkF m pc Ls (.int y :: .int x :: st)) := by
  subst hp
  exact Go.step (fun T A _ q => XT.ishr A C.1 rfl (hb C.2.1 hd) rfl q) hr
theorem go_iushr (C : Cx p s m meth c Z own bs mx rt nm) {x y : Int32} (hd : decode bs pc = .ok (.iushr, 1)) (hp : pc + 1 = pc') (hr : Go p l e R s m args below meth c n0 Q K N h ce sl (mkF m pc' Ls (.int (XT.ushr x y) :: st))) : Go p l e R s m args below meth c n0 Q K N h ce sl (mkF m pc Ls (.int y :: .int x :: st)) := by
  subst hp
  exact Go.step (fun T A _ q => XT.iushr A C.1 rfl (hb C.2.1 hd) rfl q) hr
theorem go_ladd (C : Cx p s m meth c Z own bs mx rt nm) {x y : Int64} (hd : decode bs pc = .ok (.ladd, 1)) (hp : pc + 1 = pc') (hr : Go p l e R s m args below meth c n0 Q K N h ce sl (mkF m pc' Ls (.long (x + y) :: st))) : Go p l e R s m args below meth c n0 Q K N h ce sl (mkF m pc Ls (.long y :: .long x :: st)) := by
  subst hp
  exact Go.step (fun T A _ q => XT.ladd A C.1 rfl (hb C.2.1 hd) rfl q) hr
theorem go_lsub (C : Cx p s m meth c Z own bs mx rt nm) {x y : Int64} (hd : decode bs pc = .ok (.lsub, 1)) (hp : pc + 1 = pc') (hr : Go p l e R s m args below meth c n0 Q K N h ce sl (mkF m pc' Ls (.long (x - y) :: st))) : Go p l e R s m args below meth c n0 Q K N h ce sl (mkF m pc Ls (.long y :: .long x :: st)) := by
  subst hp
  exact Go.step (fun T A _ q => XT.lsub A C.1 rfl (hb C.2.1 hd) rfl q) hr
theorem go_land (C : Cx p s m meth c Z own bs mx rt nm) {x y : Int64} (hd : decode bs pc = .ok (.land, 1)) (hp : pc + 1 = pc') (hr : Go p l e R s m args below meth c n0 Q K N h ce sl (mkF m pc' Ls (.long (x &&& y) :: st))) : Go p l e R s m args below meth c n0 Q K N h ce sl (mkF m pc Ls (.long y :: .long x :: st)) := by
  subst hp
  exact Go.step (fun T A _ q => XT.land A C.1 rfl (hb C.2.1 hd) rfl q) hr
theorem go_lmul (C : Cx p s m meth c Z own bs mx rt nm) {x y : Int64} (hd : decode bs pc = .ok (.lmul, 1)) (hp : pc + 1 = pc') (hr : Go p l e R s m args below meth c n0 Q K N h ce sl (mkF m pc' Ls (.long (x * y) :: st))) : Go p l e R s m args below meth c n0 Q K N h ce sl (mkF m pc Ls (.long y :: .long x :: st)) := by
  subst hp
  exact Go.step (fun T A _ q => XT.lmul A C.1 rfl (hb C.2.1 hd) rfl q) hr
theorem go_lor (C : Cx p s m meth c Z own bs mx rt nm) {x y : Int64} (hd : decode bs pc = .ok (.lor, 1)) (hp : pc + 1 = pc') (hr : Go p l e R s m args below meth c n0 Q K N h ce sl (mkF m pc' Ls (.long (x ||| y) :: st))) : Go p l e R s m args below meth c n0 Q K N h ce sl (mkF m pc Ls (.long y :: .long x :: st)) := by
  subst hp
  exact Go.step (fun T A _ q => XT.lor A C.1 rfl (hb C.2.1 hd) rfl q) hr
theorem go_lxor (C : Cx p s m meth c Z own bs mx rt nm) {x y : Int64} (hd : decode bs pc = .ok (.lxor, 1)) (hp : pc + 1 = pc') (hr : Go p l e R s m args below meth c n0 Q K N h ce sl (mkF m pc' Ls (.long (x ^^^ y) :: st))) : Go p l e R s m args below meth c n0 Q K N h ce sl (mkF m pc Ls (.long y :: .long x :: st)) := by
  subst hp
  exact Go.step (fun T A _ q => XT.lxor A C.1 rfl (hb C.2.1 hd) rfl q) hr
theorem go_idiv (C : Cx p s m meth c Z own bs mx rt nm) {x y : Int32} (hd : decode bs pc = .ok (.idiv, 1)) (hp : pc + 1 = pc') (hy : y ≠ 0) (hr : Go p l e R s m args below meth c n0 Q K N h ce sl (mkF m pc' Ls (.int (x / y) :: st))) : Go p l e R s m args below meth c n0 Q K N h ce sl (mkF m pc Ls (.int y :: .int x :: st)) := by
  subst hp
  exact Go.step (fun T A _ q => XS.idiv A C.1 rfl (hb C.2.1 hd) rfl hy q) hr
theorem go_irem (C : Cx p s m meth c Z own bs mx rt nm) {x y : Int32} (hd : decode bs pc = .ok (.irem, 1)) (hp : pc + 1 = pc') (hy : y ≠ 0) (hr : Go p l e R s m args below meth c n0 Q K N h ce sl (mkF m pc' Ls (.int (x % y) :: st))) : Go p l e R s m args below meth c n0 Q K N h ce sl (mkF m pc Ls (.int y :: .int x :: st)) := by
  subst hp
  exact Go.stepX (fun T locs X _ _ q => iremM X C.1 rfl (hb C.2.1 hd) rfl hy q) hr
theorem go_i2l (C : Cx p s m meth c Z own bs mx rt nm) {x : Int32} (hd : decode bs pc = .ok (.i2l, 1)) (hp : pc + 1 = pc') (hr : Go p l e R s m args below meth c n0 Q K N h ce sl (mkF m pc' Ls (.long x.toInt64 :: st))) : Go p l e R s m args below meth c n0 Q K N h ce sl (mkF m pc Ls (.int x :: st)) := by
  subst hp
  exact Go.step (fun T A _ q => XT.i2l A C.1 rfl (hb C.2.1 hd) rfl q) hr
theorem go_l2i (C : Cx p s m meth c Z own bs mx rt nm) {x : Int64} (hd : decode bs pc = .ok (.l2i, 1)) (hp : pc + 1 = pc') (hr : Go p l e R s m args below meth c n0 Q K N h ce sl (mkF m pc' Ls (.int x.toInt32 :: st))) : Go p l e R s m args below meth c n0 Q K N h ce sl (mkF m pc Ls (.long x :: st)) := by
  subst hp
  exact Go.step (fun T A _ q => XT.l2i A C.1 rfl (hb C.2.1 hd) rfl q) hr
theorem go_i2b (C : Cx p s m meth c Z own bs mx rt nm) {x : Int32} (hd : decode bs pc = .ok (.i2b, 1)) (hp : pc + 1 = pc') (hr : Go p l e R s m args below meth c n0 Q K N h ce sl (mkF m pc' Ls (.int x.toInt8.toInt32 :: st))) : Go p l e R s m args below meth c n0 Q K N h ce sl (mkF m pc Ls (.int x :: st)) := by
  subst hp
  exact Go.step (fun T A _ q => XT.i2b A C.1 rfl (hb C.2.1 hd) rfl q) hr
theorem go_i2c (C : Cx p s m meth c Z own bs mx rt nm) {x : Int32} (hd : decode bs pc = .ok (.i2c, 1)) (hp : pc + 1 = pc') (hr : Go p l e R s m args below meth c n0 Q K N h ce sl (mkF m pc' Ls (.int x.toUInt32.toUInt16.toUInt32.toInt32 :: st))) : Go p l e R s m args below meth c n0 Q K N h ce sl (mkF m pc Ls (.int x :: st)) := by
  subst hp
  exact Go.step (fun T A _ q => XT.i2c A C.1 rfl (hb C.2.1 hd) rfl q) hr
theorem go_ineg (C : Cx p s m meth c Z own bs mx rt nm) {x : Int32} (hd : decode bs pc = .ok (.ineg, 1)) (hp : pc + 1 = pc') (hr : Go p l e R s m args below meth c n0 Q K N h ce sl (mkF m pc' Ls (.int (-x) :: st))) : Go p l e R s m args below meth c n0 Q K N h ce sl (mkF m pc Ls (.int x :: st)) := by
  subst hp
  exact Go.step (fun T A _ q => XS.ineg A C.1 rfl (hb C.2.1 hd) rfl q) hr
theorem go_dup (C : Cx p s m meth c Z own bs mx rt nm) {v : Value} (hd : decode bs pc = .ok (.dup, 1)) (hp : pc + 1 = pc') (hc : v.category = 1) (hr : Go p l e R s m args below meth c n0 Q K N h ce sl (mkF m pc' Ls (v :: v :: st))) : Go p l e R s m args below meth c n0 Q K N h ce sl (mkF m pc Ls (v :: st)) := by
  subst hp
  exact Go.step (fun T A _ q => XS.dup A C.1 rfl (hb C.2.1 hd) rfl hc q) hr
theorem go_pop (C : Cx p s m meth c Z own bs mx rt nm) {v : Value} (hd : decode bs pc = .ok (.pop, 1)) (hp : pc + 1 = pc') (hc : v.category = 1) (hr : Go p l e R s m args below meth c n0 Q K N h ce sl (mkF m pc' Ls st)) : Go p l e R s m args below meth c n0 Q K N h ce sl (mkF m pc Ls (v :: st)) := by
  subst hp
  exact Go.step (fun T A _ q => XT.pop A C.1 rfl (hb C.2.1 hd) rfl hc q) hr
theorem go_dup2 (C : Cx p s m meth c Z own bs mx rt nm) {v w : Value} (hd : decode bs pc = .ok (.dup2, 1)) (hp : pc + 1 = pc') (hc : v.category = 1) (hc' : w.category = 1) (hr : Go p l e R s m args below meth c n0 Q K N h ce sl (mkF m pc' Ls (v :: w :: v :: w :: st))) : Go p l e R s m args below meth c n0 Q K N h ce sl (mkF m pc Ls (v :: w :: st)) := by
  subst hp
  exact Go.step (fun T A _ q => XT.dup2 A C.1 rfl (hb C.2.1 hd) rfl hc hc' q) hr
theorem go_dup_x1 (C : Cx p s m meth c Z own bs mx rt nm) {v w : Value} (hd : decode bs pc = .ok (.dup_x1, 1)) (hp : pc + 1 = pc') (hc : v.category = 1) (hc' : w.category = 1) (hr : Go p l e R s m args below meth c n0 Q K N h ce sl (mkF m pc' Ls (v :: w :: v :: st))) : Go p l e R s m args below meth c n0 Q K N h ce sl (mkF m pc Ls (v :: w :: st)) := by
  subst hp
  exact Go.step (fun T A _ q => XT.dupX1 A C.1 rfl (hb C.2.1 hd) rfl hc hc' q) hr
theorem go_lushr (C : Cx p s m meth c Z own bs mx rt nm) {x : Int64} {y : Int32} (hd : decode bs pc = .ok (.lushr, 1)) (hp : pc + 1 = pc') (hr : Go p l e R s m args below meth c n0 Q K N h ce sl (mkF m pc' Ls (.long (XT.ushrL x y) :: st))) : Go p l e R s m args below meth c n0 Q K N h ce sl (mkF m pc Ls (.int y :: .long x :: st)) := by
  subst hp
  exact Go.step (fun T A _ q => XT.lushr A C.1 rfl (hb C.2.1 hd) rfl q) hr
theorem go_lshl (C : Cx p s m meth c Z own bs mx rt nm) {x : Int64} {y : Int32} (hd : decode bs pc = .ok (.lshl, 1)) (hp : pc + 1 = pc') (hr : Go p l e R s m args below meth c n0 Q K N h ce sl (mkF m pc' Ls (.long (x <<< (y.toInt64 &&& 63)) :: st))) : Go p l e R s m args below meth c n0 Q K N h ce sl (mkF m pc Ls (.int y :: .long x :: st)) := by
  subst hp
  exact Go.step (fun T A _ q => XT.lshl A C.1 rfl (hb C.2.1 hd) rfl q) hr
theorem go_ldiv (C : Cx p s m meth c Z own bs mx rt nm) {x y : Int64} (hd : decode bs pc = .ok (.ldiv, 1)) (hp : pc + 1 = pc') (hy : y ≠ 0) (hr : Go p l e R s m args below meth c n0 Q K N h ce sl (mkF m pc' Ls (.long (x / y) :: st))) : Go p l e R s m args below meth c n0 Q K N h ce sl (mkF m pc Ls (.long y :: .long x :: st)) := by
  subst hp
  exact Go.step (fun T A _ q => XT.ldiv A C.1 rfl (hb C.2.1 hd) rfl hy q) hr
theorem go_lrem (C : Cx p s m meth c Z own bs mx rt nm) {x y : Int64} (hd : decode bs pc = .ok (.lrem, 1)) (hp : pc + 1 = pc') (hy : y ≠ 0) (hr : Go p l e R s m args below meth c n0 Q K N h ce sl (mkF m pc' Ls (.long (x - (x / y) * y) :: st))) : Go p l e R s m args below meth c n0 Q K N h ce sl (mkF m pc Ls (.long y :: .long x :: st)) := by
  subst hp
  exact Go.step (fun T A _ q => XT.lrem A C.1 rfl (hb C.2.1 hd) rfl hy q) hr
theorem go_goto (C : Cx p s m meth c Z own bs mx rt nm) {o : Int} (hd : decode bs pc = .ok (.goto o, 3)) (ho : 0 ≤ (pc : Int) + o) (hp : ((pc : Int) + o).toNat = pc') (hr : Go p l e R s m args below meth c n0 Q K N h ce sl (mkF m pc' Ls st)) : Go p l e R s m args below meth c n0 Q K N h ce sl (mkF m pc Ls st) :=
  Go.step (fun T A _ q => XS.goto A C.1 rfl rfl (hb C.2.1 hd) ho hp q) hr
/-- what a comparison says, of integers -/
def cmpP (cd : ClassFile.Cond) (x y : Int) : Prop := match cd with | .eq => x = y | .ne => ¬ x = y | .lt => x < y | .ge => ¬ x < y | .gt => y < x | .le => ¬ y < x
def cmpN (cd : ClassFile.Cond) (x y : Int) : Prop := match cd with | .eq => ¬ x = y | .ne => x = y | .lt => ¬ x < y | .ge => x < y | .gt => ¬ y < x | .le => y < x
theorem cmpN_of {cd : ClassFile.Cond} {x y : Int} (h : ¬ cmpP cd x y) : cmpN cd x y := by
  cases cd <;> simp only [cmpP] at h <;> simp only [cmpN] <;> omega
theorem cmp_t {cd : ClassFile.Cond} {x y : Int32} (h : cmpP cd x.toInt y.toInt) : if_icmp.holds cd x y = true := by
  cases cd <;> simp only [cmpP] at h
  · exact XT.ii_eq_t (int_eq h)
  · exact XT.ii_ne_t fun q => h (by rw [q])
  · exact XT.ii_lt_t (Int32.lt_iff_toInt_lt.mpr h)
  · exact XT.ii_ge_t fun q => h (Int32.lt_iff_toInt_lt.mp q)
  · exact XT.ii_gt_t (Int32.lt_iff_toInt_lt.mpr h)
  · exact XT.ii_le_t fun q => h (Int32.lt_iff_toInt_lt.mp q)
theorem cmp_f {cd : ClassFile.Cond} {x y : Int32} (h : ¬ cmpP cd x.toInt y.toInt) : if_icmp.holds cd x y = false := by
  cases cd <;> simp only [cmpP] at h
  · exact XT.ii_eq_f fun q => h (by rw [q])
  · exact XT.ii_ne_f (int_eq (Classical.not_not.mp h))
  · exact XT.ii_lt_f fun q => h (Int32.lt_iff_toInt_lt.mp q)
  · exact XT.ii_ge_f (Int32.lt_iff_toInt_lt.mpr (Classical.not_not.mp h))
  · exact XT.ii_gt_f fun q => h (Int32.lt_iff_toInt_lt.mp q)
  · exact XT.ii_le_f (Int32.lt_iff_toInt_lt.mpr (Classical.not_not.mp h))
theorem cmpL_t {cd : ClassFile.Cond} {x y : Int64} (h : cmpP cd x.toInt y.toInt) : ifCond.holds cd (XT.cmpL x y) = true := by
  cases cd <;> simp only [cmpP] at h
  · exact XT.ll_eq_t (long_eq h)
  · exact XT.ll_ne_t fun q => h (by rw [q])
  · exact XT.ll_lt_t (Int64.lt_iff_toInt_lt.mpr h)
  · exact XT.ll_ge_t fun q => h (Int64.lt_iff_toInt_lt.mp q)
  · exact XT.ll_gt_t (Int64.lt_iff_toInt_lt.mpr h)
  · exact XT.ll_le_t fun q => h (Int64.lt_iff_toInt_lt.mp q)
theorem cmpL_f {cd : ClassFile.Cond} {x y : Int64} (h : ¬ cmpP cd x.toInt y.toInt) : ifCond.holds cd (XT.cmpL x y) = false := by
  cases cd <;> simp only [cmpP] at h
  · exact XT.ll_eq_f fun q => h (by rw [q])
  · exact XT.ll_ne_f (long_eq (Classical.not_not.mp h))
  · exact XT.ll_lt_f fun q => h (Int64.lt_iff_toInt_lt.mp q)
  · exact XT.ll_ge_f (Int64.lt_iff_toInt_lt.mpr (Classical.not_not.mp h))
  · exact XT.ll_gt_f fun q => h (Int64.lt_iff_toInt_lt.mp q)
  · exact XT.ll_le_f (Int64.lt_iff_toInt_lt.mpr (Classical.not_not.mp h))
theorem go_icmp (C : Cx p s m meth c Z own bs mx rt nm) {cd : ClassFile.Cond} {x y : Int32} {o : Int} {pcN : Nat} (kx ky : Int) (hx : x.toInt = kx) (hy : y.toInt = ky) (hd : decode bs pc = .ok (.if_icmp cd o, 3)) (ho : 0 ≤ (pc : Int) + o) (hp : ((pc : Int) + o).toNat = pc') (hpn : pc + 3 = pcN) (h1 : cmpP cd kx ky → Go p l e R s m args below meth c n0 Q K N h ce sl (mkF m pc' Ls st)) (h2 : cmpN cd kx ky → Go p l e R s m args below meth c n0 Q K N h ce sl (mkF m pcN Ls st)) : Go p l e R s m args below meth c n0 Q K N h ce sl (mkF m pc Ls (.int y :: .int x :: st)) := by
  subst hpn hx hy
  by_cases q : cmpP cd x.toInt y.toInt
  · exact Go.step (fun T A _ k => XS.icmpYes A C.1 rfl rfl (hb C.2.1 hd) rfl (cmp_t q) ho hp k) (h1 q)
  · exact Go.step (fun T A _ k => XS.icmpNo A C.1 rfl (hb C.2.1 hd) rfl (cmp_f q) k) (h2 (cmpN_of q))
theorem go_if0 (C : Cx p s m meth c Z own bs mx rt nm) {cd : ClassFile.Cond} {x : Int32} {o : Int} {pcN : Nat} (kx : Int) (hx : x.toInt = kx) (hd : decode bs pc = .ok (.ifCond cd o, 3)) (ho : 0 ≤ (pc : Int) + o) (hp : ((pc : Int) + o).toNat = pc') (hpn : pc + 3 = pcN) (h1 : cmpP cd kx 0 → Go p l e R s m args below meth c n0 Q K N h ce sl (mkF m pc' Ls st)) (h2 : cmpN cd kx 0 → Go p l e R s m args below meth c n0 Q K N h ce sl (mkF m pcN Ls st)) : Go p l e R s m args below meth c n0 Q K N h ce sl (mkF m pc Ls (.int x :: st)) := by
  subst hpn hx
  by_cases q : cmpP cd x.toInt 0
  · exact Go.step (fun T A _ k => XS.ifYes A C.1 rfl rfl (hb C.2.1 hd) rfl ((if0 cd x).trans (cmp_t q)) ho hp k) (h1 q)
  · exact Go.step (fun T A _ k => XS.ifNo A C.1 rfl (hb C.2.1 hd) rfl ((if0 cd x).trans (cmp_f q)) k) (h2 (cmpN_of q))
theorem go_lcmp (C : Cx p s m meth c Z own bs mx rt nm) {cd : ClassFile.Cond} {x y : Int64} {o : Int} {pc1 pcN : Nat} (kx ky : Int) (hx : x.toInt = kx) (hy : y.toInt = ky) (hd0 : decode bs pc = .ok (.lcmp, 1)) (hp1 : pc + 1 = pc1) (hd : decode bs pc1 = .ok (.ifCond cd o, 3)) (ho : 0 ≤ (pc1 : Int) + o) (hp : ((pc1 : Int) + o).toNat = pc') (hpn : pc1 + 3 = pcN) (h1 : cmpP cd kx ky → Go p l e R s m args below meth c n0 Q K N h ce sl (mkF m pc' Ls st)) (h2 : cmpN cd kx ky → Go p l e R s m args below meth c n0 Q K N h ce sl (mkF m pcN Ls st)) : Go p l e R s m args below meth c n0 Q K N h ce sl (mkF m pc Ls (.long y :: .long x :: st)) := by
  subst hpn hp1 hx hy
  refine Go.step (g' := mkF m (pc + 1) Ls (.int (XT.cmpL x y) :: st)) (fun T A _ k => XT.lcmp A C.1 rfl (hb C.2.1 hd0) rfl k) ?_
  by_cases q : cmpP cd x.toInt y.toInt
  · exact Go.step (fun T A _ k => XS.ifYes A C.1 rfl rfl (hb C.2.1 hd) rfl (cmpL_t q) ho hp k) (h1 q)
  · exact Go.step (fun T A _ k => XS.ifNo A C.1 rfl (hb C.2.1 hd) rfl (cmpL_f q) k) (h2 (cmpN_of q))
theorem go_ifne_b (C : Cx p s m meth c Z own bs mx rt nm) {B : Prop} [Decidable B] {o : Int} {pcN : Nat} (hd : decode bs pc = .ok (.ifCond .ne o, 3)) (ho : 0 ≤ (pc : Int) + o) (hp : ((pc : Int) + o).toNat = pc') (hpn : pc + 3 = pcN) (h1 : B → Go p l e R s m args below meth c n0 Q K N h ce sl (mkF m pc' Ls st)) (h2 : ¬ B → Go p l e R s m args below meth c n0 Q K N h ce sl (mkF m pcN Ls st)) : Go p l e R s m args below meth c n0 Q K N h ce sl (mkF m pc Ls (.int (bi B) :: st)) := by
  refine go_if0 C _ rfl hd ho hp hpn (fun q => h1 ?_) (fun q => h2 ?_)
  · exact Classical.byContradiction fun z => q (by rw [bi_f z]; rfl)
  · exact fun z => by
      have q' : (bi B).toInt = 0 := q
      rw [bi_t z] at q'
      exact absurd q' (by decide)
theorem go_ifeq_b (C : Cx p s m meth c Z own bs mx rt nm) {B : Prop} [Decidable B] {o : Int} {pcN : Nat} (hd : decode bs pc = .ok (.ifCond .eq o, 3)) (ho : 0 ≤ (pc : Int) + o) (hp : ((pc : Int) + o).toNat = pc') (hpn : pc + 3 = pcN) (h1 : ¬ B → Go p l e R s m args below meth c n0 Q K N h ce sl (mkF m pc' Ls st)) (h2 : B → Go p l e R s m args below meth c n0 Q K N h ce sl (mkF m pcN Ls st)) : Go p l e R s m args below meth c n0 Q K N h ce sl (mkF m pc Ls (.int (bi B) :: st)) := by
  refine go_if0 C _ rfl hd ho hp hpn (fun q => h1 ?_) (fun q => h2 ?_)
  · exact fun z => by
      have q' : (bi B).toInt = 0 := q
      rw [bi_t z] at q'
      exact absurd q' (by decide)
  · exact Classical.byContradiction fun z => q (by rw [bi_f z]; rfl)
theorem go_ifnull_r (C : Cx p s m meth c Z own bs mx rt nm) {a : Addr} {o : Int} (hd : decode bs pc = .ok (.ifnull o, 3)) (hp : pc + 3 = pc') (hr : Go p l e R s m args below meth c n0 Q K N h ce sl (mkF m pc' Ls st)) : Go p l e R s m args below meth c n0 Q K N h ce sl (mkF m pc Ls (.ref a :: st)) := by
  subst hp
  exact Go.step (fun T A _ k => XS.ifnullNo A C.1 rfl (hb C.2.1 hd) rfl k) hr
theorem go_ifnull_n (C : Cx p s m meth c Z own bs mx rt nm) {o : Int} (hd : decode bs pc = .ok (.ifnull o, 3)) (ho : 0 ≤ (pc : Int) + o) (hp : ((pc : Int) + o).toNat = pc') (hr : Go p l e R s m args below meth c n0 Q K N h ce sl (mkF m pc' Ls st)) : Go p l e R s m args below meth c n0 Q K N h ce sl (mkF m pc Ls (.null :: st)) :=
  Go.step (fun T A _ k => XS.ifnullYes A C.1 rfl rfl (hb C.2.1 hd) rfl ho hp k) hr
theorem go_ldc (C : Cx p s m meth c Z own bs mx rt nm) {i : Nat} {v : Int32} (w : (Jvm.Cond.constant own i v).before a0 Z = true) (hd : decode bs pc = .ok (.ldc i, 2)) (hp : pc + 2 = pc') (hr : Go p l e R s m args below meth c n0 Q K N h ce sl (mkF m pc' Ls (.int v :: st))) : Go p l e R s m args below meth c n0 Q K N h ce sl (mkF m pc Ls st) := by
  subst hp
  exact Go.stepX (fun T locs X _ _ q => X.ldcI C.1 C.2.2.2.2.1 (mv C.2.2.2.1 w) rfl (hb C.2.1 hd) q) hr
theorem go_ldc2 (C : Cx p s m meth c Z own bs mx rt nm) {i : Nat} {v : Int64} (w : (Jvm.Cond.constantLong own i v).before a0 Z = true) (hd : decode bs pc = .ok (.ldc2_w i, 3)) (hp : pc + 3 = pc') (hr : Go p l e R s m args below meth c n0 Q K N h ce sl (mkF m pc' Ls (.long v :: st))) : Go p l e R s m args below meth c n0 Q K N h ce sl (mkF m pc Ls st) := by
  subst hp
  exact Go.stepX (fun T locs X _ _ q => X.ldc2J C.1 C.2.2.2.2.1 (mv C.2.2.2.1 w) rfl (hb C.2.1 hd) q) hr
theorem go_getfield (C : Cx p s m meth c Z own bs mx rt nm) {O n d : String} {i : Nat} {a : Addr} {v : Value} (w : (Jvm.Cond.fieldLink own i O n d).before a0 Z = true) (F0 : Fld Z h a O n d v) (hd : decode bs pc = .ok (.getfield i, 3)) (hp : pc + 3 = pc') (hr : Go p l e R s m args below meth c n0 Q K N h ce sl (mkF m pc' Ls (v :: st))) : Go p l e R s m args below meth c n0 Q K N h ce sl (mkF m pc Ls (.ref a :: st)) := by
  subst hp
  intro T locs X eT Nn
  obtain ⟨T', X', e', stp⟩ := getF X C.1 C.2.2.2.1 C.2.2.2.2.1 (host := "") (Or.inl w) Via.refl eT F0 (g := mkF m pc Ls (.ref a :: st)) rfl rfl (hb C.2.1 hd)
  obtain ⟨s₂, o, h1, r⟩ := hr T' locs X' e' Nn
  exact ⟨s₂, o, stp _ h1, r⟩
theorem go_putfield (C : Cx p s m meth c Z own bs mx rt nm) {O n d C0 : String} {i kk : Nat} {ty : FieldType} {a : Addr} {v old : Value} (w : (Jvm.Cond.fieldLink own i O n d).before a0 Z = true) (F0 : Fld Z h a O n d old) (E : Exa Z h a C0) (L : (Jvm.Cond.lays C0 O n d).before a0 Z = true ∨ ((Jvm.Cond.laysFinal C0 O n d).before a0 Z = true ∧ own = O ∧ nm = "<init>")) (wi : (Jvm.Cond.instantiable C0 kk).before a0 Z = true) (hty : parseFieldDescriptor d = some ty) (hn : narrow ty v = v) (hf : fits ty v = true) (ha : n0 ≤ a) (hd : decode bs pc = .ok (.putfield i, 3)) (hp : pc + 3 = pc') (hr : ∀ h', Wr h h' a (Jvm.RoadKit.slotOf Z O n d) v → Go p l e R s m args below meth c n0 Q K N h' ce sl (mkF m pc' Ls st)) : Go p l e R s m args below meth c n0 Q K N h ce sl (mkF m pc Ls (v :: .ref a :: st)) := by
  subst hp
  intro T locs X eT Nn
  obtain ⟨T', h', X', e', W', stp⟩ := putF X C.1 C.2.2.2.1 C.2.2.2.2.1 (host := "") (Or.inl w) Via.refl eT F0 E (L.imp id fun q => ⟨q.1, q.2.1, C.2.2.2.2.2.2.2.trans q.2.2⟩) wi hty hn hf (g := mkF m pc Ls (v :: .ref a :: st)) rfl rfl (hb C.2.1 hd)
  obtain ⟨s₂, o, h1, r⟩ := hr h' W' T' _ X' e' (Fr.snoc X' Nn ha)
  exact ⟨s₂, o, stp _ h1, r⟩
theorem go_new (C : Cx p s m meth c Z own bs mx rt nm) {C0 : String} {i k ce' sl' : Nat} (w : (Jvm.Cond.classLink own i C0).before a0 Z = true) (wi : (Jvm.Cond.instantiable C0 k).before a0 Z = true) (wz : (Jvm.Cond.initialized C0).before a0 Z = true) (hd : decode bs pc = .ok (.new i, 3)) (hp : pc + 3 = pc') (hce : ce + 1 = ce') (hsl : sl + k = sl') (hc : ce' ≤ R.cells) (hl : sl' ≤ R.slots)
    (hr : ∀ (h' : Heap) (a : Addr), h.size = a → Ext h h' → Exa Z h' a C0 → (∀ {O nm d : String} {ty : FieldType}, Laid Z a0 C0 O nm d → parseFieldDescriptor d = some ty → Fld Z h' a O nm d (defaultValue ty)) → Go p l e R s m args below meth c n0 Q K N h' ce' sl' (mkF m pc' Ls (.ref a :: st))) : Go p l e R s m args below meth c n0 Q K N h ce sl (mkF m pc Ls st) := by
  subst hp hce hsl
  intro T locs X eT Nn
  obtain ⟨T', h', X', e', E', A', D', -, stp⟩ := newO X C.1 C.2.2.2.1 C.2.2.2.2.1 w wi wz eT (g := mkF m pc Ls st) rfl (hb C.2.1 hd) hc hl
  obtain ⟨s₂, o, h1, r⟩ := hr h' _ rfl E' A' D' T' _ X' e' Nn
  exact ⟨s₂, o, stp _ h1, r⟩
/-- an array of type ty that holds just vs -/
def Av (Z : State) (h : Heap) (a : Addr) (ty : FieldType) (vs : List Value) : Prop := ∃ cl : Cell, Arr Z h a cl ty ∧ cl.slots.toList = vs ∧ vs.length < 2147483648
theorem Av.lt {ty : FieldType} {vs : List Value} {a : Addr} (A : Av Z h a ty vs) : a < h.size := by obtain ⟨c, A, -⟩ := A; exact A.lt
theorem Av.ext {ty : FieldType} {vs : List Value} {a : Addr} {h' : Heap} (A : Av Z h a ty vs) (E : Ext h h') : Av Z h' a ty vs := by obtain ⟨c, A, r⟩ := A; exact ⟨c, A.ext E, r⟩
theorem Av.other {ty : FieldType} {vs : List Value} {a b : Addr} {h' : Heap} {k : Nat} {v : Value} (A : Av Z h b ty vs) (W : Wr h h' a k v) (q : b ≠ a) : Av Z h' b ty vs := by obtain ⟨c, A, r⟩ := A; exact ⟨c, A.other W q, r⟩
theorem Av.keep {ty : FieldType} {vs : List Value} {a : Addr} {h' : Heap} {ws : List Addr} (A : Av Z h a ty vs) (K0 : Keep h h' ws) (q : a ∉ ws) : Av Z h' a ty vs := by obtain ⟨c, A, r⟩ := A; exact ⟨c, ⟨K0.2.1 a c A.1 q, A.2⟩, r⟩
theorem own_ne_arr {C0 : String} {ty : FieldType} {vs : List Value} {a b : Addr} {k : Nat} (F0 : Exa Z h a C0) (wi : (Jvm.Cond.instantiable C0 k).before a0 Z = true) (G : Av Z h b ty vs) : a ≠ b := by obtain ⟨c, G, -⟩ := G; exact ne_arr F0 wi G
theorem clamp_of {j : Int32} {k : Nat} (hj : j.toInt = k) : j.toNatClampNeg = k := by
  show j.toInt.toNat = k
  rw [hj]; rfl
theorem nonneg_of {j : Int32} {k : Nat} (hj : j.toInt = k) : ¬ j < 0 := fun q => by
  have := Int32.lt_iff_toInt_lt.mp q
  rw [hj] at this
  exact absurd this (by show ¬ (k : Int) < 0; omega)
theorem Av.at {ty : FieldType} {vs : List Value} {a : Addr} (A : Av Z h a ty vs) {j : Int32} {k : Nat} (hj : j.toInt = k) (hk : k < vs.length) : ∃ cl : Cell, Arr Z h a cl ty ∧ cl.slots.toList = vs ∧ ¬ (j < 0 ∨ cl.slots.size ≤ j.toNatClampNeg) ∧ cl.slots[j.toNatClampNeg]? = vs[k]? := by
  obtain ⟨cl, A, e1, e2⟩ := A
  refine ⟨cl, A, e1, ?_, ?_⟩
  · rw [clamp_of hj]
    intro q
    rcases q with q | q
    · exact nonneg_of hj q
    · rw [← e1] at hk; simp at hk; omega
  · rw [clamp_of hj, ← e1]; simp
theorem Av.set {ty : FieldType} {vs : List Value} {a : Addr} {h' : Heap} {k : Nat} {v : Value} (A : Av Z h a ty vs) (W : Wr h h' a k v) : Av Z h' a ty (vs.set k v) := by
  obtain ⟨cl, A, e1, e2⟩ := A
  exact ⟨_, A.same W, by rw [← e1]; simp [Cell.setSlot], by simpa using e2⟩
/-- n ints, whichever -/
def Ints (vs : List Value) (n : Nat) : Prop := vs.length = n ∧ ∀ k, k < n → ∃ x : Int32, vs[k]? = some (.int x)
theorem Ints.rep (n : Nat) (x : Int32) : Ints (List.replicate n (.int x)) n := ⟨by simp, fun k hk => ⟨x, by simp [hk]⟩⟩
theorem Ints.set {vs : List Value} {n k : Nat} (x : Int32) (I : Ints vs n) : Ints (vs.set k (.int x)) n := ⟨by simpa using I.1, fun j hj => by
  by_cases q : k = j
  · subst q
    exact ⟨x, by rw [List.getElem?_set_self (by rw [I.1]; exact hj)]⟩
  · obtain ⟨y, hy⟩ := I.2 j hj
    exact ⟨y, by rw [List.getElem?_set_ne q]; exact hy⟩⟩
theorem go_arraylength (C : Cx p s m meth c Z own bs mx rt nm) {ty : FieldType} {vs : List Value} {a : Addr} (A : Av Z h a ty vs) (n : Int32) (hn : n.toInt = vs.length) (hd : decode bs pc = .ok (.arraylength, 1)) (hp : pc + 1 = pc') (hr : Go p l e R s m args below meth c n0 Q K N h ce sl (mkF m pc' Ls (.int n :: st))) : Go p l e R s m args below meth c n0 Q K N h ce sl (mkF m pc Ls (.ref a :: st)) := by
  subst hp
  obtain ⟨cl, A, e1, e2⟩ := A
  have q : cl.slots.size.toInt32 = n := by
    have hl : cl.slots.size = vs.length := by rw [← e1]; simp
    rw [hl]
    refine int_eq ?_
    rw [hn]
    exact Int32.toInt_ofNat_of_lt (by omega)
  exact Go.stepX (fun T locs X eT _ k => X.arraylength C.1 (cell := cl) (by rw [eT]; exact A.1) (State.isArrayOf_alike C.2.2.2.1.alike A.2.1) (g := mkF m pc Ls (.ref a :: st)) rfl rfl (hb C.2.1 hd) _ (by rw [q]; exact k)) hr
theorem go_iaload (C : Cx p s m meth c Z own bs mx rt nm) {vs : List Value} {a : Addr} {j : Int32} (A : Av Z h a .int vs) (k : Nat) (v : Value) (hj : j.toInt = k) (hv : vs[k]? = some v) (hd : decode bs pc = .ok (.iaload, 1)) (hp : pc + 1 = pc') (hr : Go p l e R s m args below meth c n0 Q K N h ce sl (mkF m pc' Ls (v :: st))) : Go p l e R s m args below meth c n0 Q K N h ce sl (mkF m pc Ls (.int j :: .ref a :: st)) := by
  subst hp
  obtain ⟨cl, A, e1, e2, e3⟩ := A.at hj (List.getElem?_eq_some_iff.mp hv).1
  exact Go.stepX (fun T locs X eT _ q => X.iaload C.1 (j := j) (v := v) (by rw [eT]; exact A.1) (State.isArrayOf_alike C.2.2.2.1.alike A.2.1) A.2.2 e2 (e3.trans hv) (g := mkF m pc Ls (.int j :: .ref a :: st)) rfl rfl (hb C.2.1 hd) _ q) hr
theorem go_laload (C : Cx p s m meth c Z own bs mx rt nm) {vs : List Value} {a : Addr} {j : Int32} (A : Av Z h a .long vs) (k : Nat) (v : Value) (hj : j.toInt = k) (hv : vs[k]? = some v) (hd : decode bs pc = .ok (.laload, 1)) (hp : pc + 1 = pc') (hr : Go p l e R s m args below meth c n0 Q K N h ce sl (mkF m pc' Ls (v :: st))) : Go p l e R s m args below meth c n0 Q K N h ce sl (mkF m pc Ls (.int j :: .ref a :: st)) := by
  subst hp
  obtain ⟨cl, A, e1, e2, e3⟩ := A.at hj (List.getElem?_eq_some_iff.mp hv).1
  exact Go.stepX (fun T locs X eT _ q => X.laload C.1 (j := j) (v := v) (by rw [eT]; exact A.1) (State.isArrayOf_alike C.2.2.2.1.alike A.2.1) A.2.2 e2 (e3.trans hv) (g := mkF m pc Ls (.int j :: .ref a :: st)) rfl rfl (hb C.2.1 hd) _ q) hr
theorem go_baload (C : Cx p s m meth c Z own bs mx rt nm) {vs : List Value} {a : Addr} {j : Int32} (A : Av Z h a .byte vs) (k : Nat) (v : Value) (hj : j.toInt = k) (hv : vs[k]? = some v) (hd : decode bs pc = .ok (.baload, 1)) (hp : pc + 1 = pc') (hr : Go p l e R s m args below meth c n0 Q K N h ce sl (mkF m pc' Ls (v :: st))) : Go p l e R s m args below meth c n0 Q K N h ce sl (mkF m pc Ls (.int j :: .ref a :: st)) := by
  subst hp
  obtain ⟨cl, A, e1, e2, e3⟩ := A.at hj (List.getElem?_eq_some_iff.mp hv).1
  exact Go.stepX (fun T locs X eT _ q => X.baloadBytes C.1 (j := j) (v := v) (by rw [eT]; exact A.1) (State.isArrayOf_alike C.2.2.2.1.alike A.2.1) A.2.2 e2 (e3.trans hv) (g := mkF m pc Ls (.int j :: .ref a :: st)) rfl rfl (hb C.2.1 hd) _ q) hr
theorem go_iastore (C : Cx p s m meth c Z own bs mx rt nm) {vs : List Value} {a : Addr} {j : Int32} {x : Int32} (A : Av Z h a .int vs) (k : Nat) (hj : j.toInt = k) (hk : k < vs.length) (ha : n0 ≤ a) (hd : decode bs pc = .ok (.iastore, 1)) (hp : pc + 1 = pc') (hr : ∀ h', Wr h h' a k (.int x) → Av Z h' a .int (vs.set k (.int x)) → Go p l e R s m args below meth c n0 Q K N h' ce sl (mkF m pc' Ls st)) : Go p l e R s m args below meth c n0 Q K N h ce sl (mkF m pc Ls (.int x :: .int j :: .ref a :: st)) := by
  subst hp
  obtain ⟨cl, A1, e1, e2, e3⟩ := A.at hj hk
  intro T locs X eT Nn
  obtain ⟨T', h', X', e', W', stp⟩ := stI X C.1 C.2.2.2.1 eT A1 e2 (g := mkF m pc Ls (.int x :: .int j :: .ref a :: st)) rfl rfl (hb C.2.1 hd)
  have W2 : Wr h h' a k (.int x) := by rw [clamp_of hj] at W'; exact W'
  obtain ⟨s₂, o, h1, r⟩ := hr h' W2 (A.set W2) T' _ X' e' (Fr.snoc X' Nn ha)
  exact ⟨s₂, o, stp _ h1, r⟩
theorem go_lastore (C : Cx p s m meth c Z own bs mx rt nm) {vs : List Value} {a : Addr} {j : Int32} {x : Int64} (A : Av Z h a .long vs) (k : Nat) (hj : j.toInt = k) (hk : k < vs.length) (ha : n0 ≤ a) (hd : decode bs pc = .ok (.lastore, 1)) (hp : pc + 1 = pc') (hr : ∀ h', Wr h h' a k (.long x) → Av Z h' a .long (vs.set k (.long x)) → Go p l e R s m args below meth c n0 Q K N h' ce sl (mkF m pc' Ls st)) : Go p l e R s m args below meth c n0 Q K N h ce sl (mkF m pc Ls (.long x :: .int j :: .ref a :: st)) := by
  subst hp
  obtain ⟨cl, A1, e1, e2, e3⟩ := A.at hj hk
  intro T locs X eT Nn
  obtain ⟨T', h', X', e', W', stp⟩ := stJ X C.1 C.2.2.2.1 eT A1 e2 (g := mkF m pc Ls (.long x :: .int j :: .ref a :: st)) rfl rfl (hb C.2.1 hd)
  have W2 : Wr h h' a k (.long x) := by rw [clamp_of hj] at W'; exact W'
  obtain ⟨s₂, o, h1, r⟩ := hr h' W2 (A.set W2) T' _ X' e' (Fr.snoc X' Nn ha)
  exact ⟨s₂, o, stp _ h1, r⟩
theorem go_bastore (C : Cx p s m meth c Z own bs mx rt nm) {vs : List Value} {a : Addr} {j : Int32} {x : Int32} (A : Av Z h a .byte vs) (k : Nat) (hj : j.toInt = k) (hk : k < vs.length) (x' : Int32) (hx : x.toInt8.toInt32 = x') (ha : n0 ≤ a) (hd : decode bs pc = .ok (.bastore, 1)) (hp : pc + 1 = pc') (hr : ∀ h', Wr h h' a k (.int x') → Av Z h' a .byte (vs.set k (.int x')) → Go p l e R s m args below meth c n0 Q K N h' ce sl (mkF m pc' Ls st)) : Go p l e R s m args below meth c n0 Q K N h ce sl (mkF m pc Ls (.int x :: .int j :: .ref a :: st)) := by
  subst hp hx
  obtain ⟨cl, A1, e1, e2, e3⟩ := A.at hj hk
  intro T locs X eT Nn
  obtain ⟨T', h', X', e', W', stp⟩ := stB X C.1 C.2.2.2.1 eT A1 e2 (g := mkF m pc Ls (.int x :: .int j :: .ref a :: st)) rfl rfl (hb C.2.1 hd)
  have W2 : Wr h h' a k (.int x.toInt8.toInt32) := by rw [clamp_of hj] at W'; exact W'
  obtain ⟨s₂, o, h1, r⟩ := hr h' W2 (A.set W2) T' _ X' e' (Fr.snoc X' Nn ha)
  exact ⟨s₂, o, stp _ h1, r⟩
theorem go_newarray (C : Cx p s m meth c Z own bs mx rt nm) {aty : ArrayType} {ty : FieldType} {n : Int32} {ce' sl' : Nat} (w : (Jvm.Cond.arrayClass ty).before a0 Z = true) (hty : newarray.typeOf aty = ty) (k cap : Nat) (hn : n.toInt = k) (hcap : k ≤ cap) (hc8 : cap * 8 ≤ 536870912) (hce : ce + 1 = ce') (hsl : sl + cap = sl') (hc : ce' ≤ R.cells) (hl : sl' ≤ R.slots) (hd : decode bs pc = .ok (.newarray aty, 2)) (hp : pc + 2 = pc')
    (hr : ∀ (h' : Heap) (a : Addr), h.size = a → Ext h h' → Av Z h' a ty (List.replicate k (defaultValue ty)) → Go p l e R s m args below meth c n0 Q K N h' ce' sl' (mkF m pc' Ls (.ref a :: st))) : Go p l e R s m args below meth c n0 Q K N h ce sl (mkF m pc Ls (.int n :: st)) := by
  subst hp hty hce hsl
  intro T locs X eT Nn
  obtain ⟨T', h', cA, X', e', E', A', stp⟩ := newP X C.1 C.2.2.2.1 w eT (g := mkF m pc Ls (.int n :: st)) rfl (hb C.2.1 hd) rfl (nonneg_of hn) (cap := cap) (by rw [clamp_of hn]; exact hcap) hc8 hc hl
  have hb31 : k < 2147483648 := by have := n.toInt_lt; omega
  obtain ⟨s₂, o, h1, r⟩ := hr h' _ rfl E' ⟨_, A', by simp [newA, clamp_of hn], by simpa using hb31⟩ T' _ X' e' Nn
  exact ⟨s₂, o, stp _ h1, r⟩
theorem go_newarrayE (C : Cx p s m meth c Z own bs mx rt nm) {aty : ArrayType} {ty : FieldType} {n : Int32} {ce' sl' : Nat} {ad : String} (w : (Jvm.Cond.arrayClass ty).before a0 Z = true) (hty : newarray.typeOf aty = ty) (had : "[" ++ ty.toString = ad) (k cap : Nat) (hn : n.toInt = k) (hcap : k ≤ cap) (hc8 : cap * 8 ≤ 536870912) (hce : ce + 1 = ce') (hsl : sl + cap = sl') (hc : ce' ≤ R.cells) (hl : sl' ≤ R.slots) (hd : decode bs pc = .ok (.newarray aty, 2)) (hp : pc + 2 = pc')
    (hr : ∀ (h' : Heap) (a : Addr), h.size = a → Ext h h' → Exa Z h' a ad → Av Z h' a ty (List.replicate k (defaultValue ty)) → Go p l e R s m args below meth c n0 Q K N h' ce' sl' (mkF m pc' Ls (.ref a :: st))) : Go p l e R s m args below meth c n0 Q K N h ce sl (mkF m pc Ls (.int n :: st)) := by
  subst hp hty hce hsl
  intro T locs X eT Nn
  obtain ⟨T', h', cA, X', e', E', A', Q', stp⟩ := newPE X C.1 C.2.2.2.1 w eT (g := mkF m pc Ls (.int n :: st)) rfl (hb C.2.1 hd) rfl (nonneg_of hn) (cap := cap) (by rw [clamp_of hn]; exact hcap) hc8 hc hl had
  have hb31 : k < 2147483648 := by have := n.toInt_lt; omega
  obtain ⟨s₂, o, h1, r⟩ := hr h' _ rfl E' Q' ⟨_, A', by simp [newA, clamp_of hn], by simpa using hb31⟩ T' _ X' e' Nn
  exact ⟨s₂, o, stp _ h1, r⟩
theorem go_clone (C : Cx p s m meth c Z own bs mx rt nm) {i : Nat} {ad : String} {ty : FieldType} {vs : List Value} {a : Addr} {W cap ce' sl' : Nat} (w1 : (Jvm.Cond.methodLink own i ⟨ad, "clone", "()Ljava/lang/Object;"⟩).before a0 Z = true) (w2 : (Jvm.Cond.sameMethod ad "java/lang/Object" "clone" "()Ljava/lang/Object;").before a0 Z = true) (w3 : (Jvm.Cond.native ⟨"java/lang/Object", "clone", "()Ljava/lang/Object;"⟩).before a0 Z = true) (w4 : (Jvm.Cond.instanceMethod ⟨"java/lang/Object", "clone", "()Ljava/lang/Object;"⟩).before a0 Z = true) (w5 : (Jvm.Cond.selects ad ⟨ad, "clone", "()Ljava/lang/Object;"⟩ ⟨"java/lang/Object", "clone", "()Ljava/lang/Object;"⟩).before a0 Z = true) (w6 : (Jvm.Cond.castable ad "java/lang/Cloneable").before a0 Z = true) (A : Av Z h a ty vs) (E : Exa Z h a ad) (hfit : ∀ v ∈ vs, fits ty v = true) (hls : Ls.size = mx) (hf : 1 ≤ R.frames) (hW : wt st = W) (hlo : W + 14 ≤ R.locals) (hcap : vs.length ≤ cap) (hce : ce + 1 = ce') (hsl : sl + cap = sl') (hc : ce' ≤ R.cells) (hl : sl' ≤ R.slots) (hd : decode bs pc = .ok (.invokevirtual i, 3)) (hp : pc + 3 = pc')
    (hr : ∀ (h' : Heap) (b : Addr), h.size = b → Ext h h' → Exa Z h' b ad → Av Z h' b ty vs → Go p l e R s m args below meth c n0 Q K N h' ce' sl' (mkF m pc' Ls (.ref b :: st))) : Go p l e R s m args below meth c n0 Q K N h ce sl (mkF m pc Ls (.ref a :: st)) := by
  subst hp hce hsl
  intro T locs X eT Nn
  obtain ⟨cl, A1, e1, e2⟩ := A
  have hsz : cl.slots.size = vs.length := by rw [← e1]; simp
  have FC : FitC Z cl := fitC_of A1 fun i hi v hv => hfit v (by rw [← e1]; exact Array.mem_toList_iff.mpr (Array.mem_of_getElem? hv))
  obtain ⟨T', h', X', e', E', A', Q', stp⟩ := cloneA X C.1 C.2.2.2.1 C.2.2.2.2.1 w1 w2 w3 w4 w5 w6 eT A1 E FC (g := mkF m pc Ls (.ref a :: st)) rfl (hls.trans C.2.2.1.symm) rfl (hb C.2.1 hd) hf (W := W) (cap := cap) (by show 2 * 0 + wt st ≤ W; omega) hlo (by rw [hsz]; exact hcap) hc hl
  obtain ⟨s₂, o, h1, r⟩ := hr h' _ rfl E' Q' ⟨_, A', e1, e2⟩ T' _ X' e' Nn
  exact ⟨s₂, o, stp _ h1, r⟩
theorem go_checkcast (C : Cx p s m meth c Z own bs mx rt nm) {i : Nat} {K0 : String} {a : Addr} (w : (Jvm.Cond.classLink own i K0).before a0 Z = true) (E : Exa Z h a K0) (hd : decode bs pc = .ok (.checkcast i, 3)) (hp : pc + 3 = pc') (hr : Go p l e R s m args below meth c n0 Q K N h ce sl (mkF m pc' Ls (.ref a :: st))) : Go p l e R s m args below meth c n0 Q K N h ce sl (mkF m pc Ls (.ref a :: st)) := by
  subst hp
  intro T locs X eT Nn
  obtain ⟨T', X', e', stp⟩ := castY X C.1 C.2.2.2.1 C.2.2.2.2.1 w eT (Ins.self E) (g := mkF m pc Ls (.ref a :: st)) rfl rfl (hb C.2.1 hd)
  obtain ⟨s₂, o, h1, r⟩ := hr T' locs X' e' Nn
  exact ⟨s₂, o, stp _ h1, r⟩
theorem go_objinit (C : Cx p s m meth c Z own bs mx rt nm) {i : Nat} {a : Addr} {W : Nat} (w1 : (Jvm.Cond.methodLink own i Lib.objectInit).before a0 Z = true) (w2 : (Jvm.Cond.instanceMethod Lib.objectInit).before a0 Z = true) (w3 : (Jvm.Cond.code Lib.objectInit ⟨#[0xb1]⟩ 1 none).before a0 Z = true) (hls : Ls.size = mx) (hf : 1 ≤ R.frames) (hW : wt st = W) (hl : W + 12 ≤ R.locals) (hd : decode bs pc = .ok (.invokespecial i, 3)) (hp : pc + 3 = pc') (hr : Go p l e R s m args below meth c n0 Q K N h ce sl (mkF m pc' Ls st)) : Go p l e R s m args below meth c n0 Q K N h ce sl (mkF m pc Ls (.ref a :: st)) := by
  subst hp
  intro T locs X eT Nn
  obtain ⟨T', X', e', stp⟩ := initO X C.1 C.2.2.2.1 C.2.2.2.2.1 w1 w2 w3 eT (g := mkF m pc Ls (.ref a :: st)) rfl (hls.trans C.2.2.1.symm) rfl (hb C.2.1 hd) hf (W := W) (by show 2 * 0 + wt st ≤ W; omega) hl
  obtain ⟨s₂, o, h1, r⟩ := hr T' locs X' e' Nn
  exact ⟨s₂, o, stp _ h1, r⟩
theorem back_of_sat {y : MethodName} {cb : ByteArray} {cm : Nat} {cr : Option FieldType} {rm : Room} {as : List Value} {Qc : Option Value → Heap → Prop} {W len : Nat} (S : Sat l Z y cb cm cr rm as h n0 Qc) (hZ : Z.Warmed39 s.vm) (w3 : (Jvm.Cond.initialized y.cls).before a0 Z = true) (w4 : (Jvm.Cond.code y cb cm cr).before a0 Z = true) (hfr : rm.frames + 1 ≤ R.frames) (hlo : W + (cm + 11) + rm.locals ≤ R.locals) :
    Back l R p e below s args y len W (fun A a => a = as.toArray ∧ A.U.heap = h ∧ A.cells + rm.cells ≤ R.cells ∧ A.slots + rm.slots ≤ R.slots) (fun A _ v B => ∃ L, (Qc v B.U.heap ∧ Fr n0 L) ∧ B.locs = A.locs ++ L ∧ B.cells = A.cells + rm.cells ∧ B.slots = A.slots + rm.slots) :=
  backOf (Q := fun v h L => Qc v h ∧ Fr n0 L) (W := W) (S []) hZ w4 w3 hfr hlo
theorem go_static (C : Cx p s m meth c Z own bs mx rt nm) {y : MethodName} {i : Nat} {cb : ByteArray} {cm : Nat} {cr : Option FieldType} {rm : Room} {as rest : List Value} {W : Nat} {ps : List FieldType} {pr : Option FieldType} {ce' sl' : Nat} {Qc : Option Value → Heap → Prop} (S : Sat l Z y cb cm cr rm as h n0 Qc) (w1 : (Jvm.Cond.methodLink own i y).before a0 Z = true) (w2 : (Jvm.Cond.static y).before a0 Z = true) (w3 : (Jvm.Cond.initialized y.cls).before a0 Z = true) (w4 : (Jvm.Cond.code y cb cm cr).before a0 Z = true) (hy : y.cls ≠ "java/lang/invoke/MethodHandle" ∧ y.cls ≠ "java/lang/invoke/VarHandle") (hpd : parseMethodDescriptor y.desc = some ⟨ps, pr⟩) (hlen : as.length = ps.length) (hls : Ls.size = mx) (hW : wt rest = W) (hfr : rm.frames + 1 ≤ R.frames) (hlo : W + (cm + 11) + rm.locals ≤ R.locals) (hce : ce + rm.cells = ce') (hsl : sl + rm.slots = sl') (hcc : ce' ≤ R.cells) (hss : sl' ≤ R.slots) (hd : decode bs pc = .ok (.invokestatic i, 3)) (hp : pc + 3 = pc') (hst : st = as.reverse ++ rest) (hr : ∀ v h', Qc v h' → Go p l e R s m args below meth c n0 Q K N h' ce' sl' (mkF m pc' Ls (v.toList ++ rest))) : Go p l e R s m args below meth c n0 Q K N h ce sl (mkF m pc Ls st) := by
  subst hp hce hsl
  intro T locs X eT Nn
  have hZ := C.2.2.2.1
  obtain ⟨v, _, ⟨T', L', k', n'⟩, -, X', ⟨Lc, hQ, l', y', z'⟩, stp⟩ := Jvm.LawKit.callS X C.1 (y := y) C.2.2.2.2.1 (mvT hZ w1) (mvT hZ w2) (mvT hZ w3) (mvT hZ w4) hy (back_of_sat S hZ w3 w4 hfr hlo) (g := mkF m pc Ls st) rfl (hls.trans C.2.2.1.symm) (argsL := as) (rest := rest) (lenOf hpd hlen) hst (by show 2 * 0 + wt rest ≤ W; omega) (hb C.2.1 hd) (fun _ _ => ⟨rfl, eT, hcc, hss⟩)
  dsimp only [Pt.U, Pt.locs, Pt.cells, Pt.slots] at X' l' y' z' stp hQ
  subst l' y' z'
  obtain ⟨s₂, o, h1, r⟩ := hr v T'.heap hQ.1 T' _ X' rfl (Fr.app Nn hQ.2)
  exact ⟨s₂, o, stp _ h1, r⟩
theorem go_special (C : Cx p s m meth c Z own bs mx rt nm) {y : MethodName} {i : Nat} {cb : ByteArray} {cm : Nat} {rm : Room} {as rest : List Value} {W : Nat} {ps : List FieldType} {pr : Option FieldType} {ce' sl' : Nat} {a : Addr} {Qc : Option Value → Heap → Prop} (S : Sat l Z y cb cm none rm (.ref a :: as) h n0 Qc) (hyn : y.name = "<init>") (w1 : (Jvm.Cond.methodLink own i y).before a0 Z = true) (w2 : (Jvm.Cond.instanceMethod y).before a0 Z = true) (w3 : (Jvm.Cond.initialized y.cls).before a0 Z = true) (w4 : (Jvm.Cond.code y cb cm none).before a0 Z = true) (hy : y.cls ≠ "java/lang/invoke/MethodHandle" ∧ y.cls ≠ "java/lang/invoke/VarHandle") (hpd : parseMethodDescriptor y.desc = some ⟨ps, pr⟩) (hlen : as.length = ps.length) (hls : Ls.size = mx) (hW : wt rest = W) (hfr : rm.frames + 1 ≤ R.frames) (hlo : W + (cm + 11) + rm.locals ≤ R.locals) (hce : ce + rm.cells = ce') (hsl : sl + rm.slots = sl') (hcc : ce' ≤ R.cells) (hss : sl' ≤ R.slots) (hd : decode bs pc = .ok (.invokespecial i, 3)) (hp : pc + 3 = pc') (hst : st = as.reverse ++ .ref a :: rest) (hr : ∀ v h', Qc v h' → Go p l e R s m args below meth c n0 Q K N h' ce' sl' (mkF m pc' Ls (v.toList ++ rest))) : Go p l e R s m args below meth c n0 Q K N h ce sl (mkF m pc Ls st) := by
  subst hp hce hsl
  intro T locs X eT Nn
  have hZ := C.2.2.2.1
  obtain ⟨v, _, ⟨T', L', k', n'⟩, -, X', ⟨Lc, hQ, l', y', z'⟩, stp⟩ := X.specialBack C.1 (y := y) hyn C.2.2.2.2.1 (mvT hZ w1) (mvT hZ w2) (mvT hZ w4) hy (back_of_sat S hZ w3 w4 hfr hlo) (g := mkF m pc Ls st) rfl (hls.trans C.2.2.1.symm) (Steps.refl _) (a := a) (argsL := as) (rest := rest) (lenOf hpd hlen) hst (by show 2 * 0 + wt rest ≤ W; omega) (hb C.2.1 hd) (fun _ _ => ⟨rfl, eT, hcc, hss⟩)
  dsimp only [Pt.U, Pt.locs, Pt.cells, Pt.slots] at X' l' y' z' stp hQ
  subst l' y' z'
  obtain ⟨s₂, o, h1, r⟩ := hr v T'.heap hQ.1 T' _ X' rfl (Fr.app Nn hQ.2)
  exact ⟨s₂, o, stp.trans h1, r⟩
theorem go_virtual (C : Cx p s m meth c Z own bs mx rt nm) {y : MethodName} {i : Nat} {cb : ByteArray} {cm : Nat} {cr : Option FieldType} {rm : Room} {as rest : List Value} {W : Nat} {ps : List FieldType} {pr : Option FieldType} {ce' sl' : Nat} {a : Addr} {C0 : String} {Qc : Option Value → Heap → Prop} (S : Sat l Z y cb cm cr rm (.ref a :: as) h n0 Qc) (E : Exa Z h a C0) (w1 : (Jvm.Cond.methodLink own i y).before a0 Z = true) (w5 : (Jvm.Cond.declares y).before a0 Z = true) (w6 : (Jvm.Cond.selects C0 y y).before a0 Z = true) (w2 : (Jvm.Cond.instanceMethod y).before a0 Z = true) (w3 : (Jvm.Cond.initialized y.cls).before a0 Z = true) (w4 : (Jvm.Cond.code y cb cm cr).before a0 Z = true) (hy : y.cls ≠ "java/lang/invoke/MethodHandle" ∧ y.cls ≠ "java/lang/invoke/VarHandle") (hpd : parseMethodDescriptor y.desc = some ⟨ps, pr⟩) (hlen : as.length = ps.length) (hls : Ls.size = mx) (hW : wt rest = W) (hfr : rm.frames + 1 ≤ R.frames) (hlo : W + (cm + 11) + rm.locals ≤ R.locals) (hce : ce + rm.cells = ce') (hsl : sl + rm.slots = sl') (hcc : ce' ≤ R.cells) (hss : sl' ≤ R.slots) (hd : decode bs pc = .ok (.invokevirtual i, 3)) (hp : pc + 3 = pc') (hst : st = as.reverse ++ .ref a :: rest) (hr : ∀ v h', Qc v h' → Go p l e R s m args below meth c n0 Q K N h' ce' sl' (mkF m pc' Ls (v.toList ++ rest))) : Go p l e R s m args below meth c n0 Q K N h ce sl (mkF m pc Ls st) := by
  subst hp hce hsl
  intro T locs X eT Nn
  have hZ := C.2.2.2.1
  obtain ⟨cq, kq, qa, qb, qc⟩ := isOf hZ eT E
  obtain ⟨v, _, ⟨T', L', k', n'⟩, -, X', ⟨Lc, hQ, l', y', z'⟩, stp⟩ := X.virtualBack C.1 (y := y) (z := y) C.2.2.2.2.1 (mvT hZ w1) (mvT hZ w5) (notFace_of_selects (args := #[]) (mvT hZ w6)) (mvT hZ w6) (mvT hZ w2) hy (back_of_sat S hZ w3 w4 hfr hlo) qa qc (g := mkF m pc Ls st) rfl (hls.trans C.2.2.1.symm) (Steps.refl _) (argsL := as) (rest := rest) (lenOf hpd hlen) hst (by show 2 * 0 + wt rest ≤ W; omega) (hb C.2.1 hd) (fun _ _ => ⟨rfl, eT, hcc, hss⟩)
  dsimp only [Pt.U, Pt.locs, Pt.cells, Pt.slots] at X' l' y' z' stp hQ
  subst l' y' z'
  obtain ⟨s₂, o, h1, r⟩ := hr v T'.heap hQ.1 T' _ X' rfl (Fr.app Nn hQ.2)
  exact ⟨s₂, o, stp.trans h1, r⟩
theorem go_private (C : Cx p s m meth c Z own bs mx rt nm) {y : MethodName} {i : Nat} {cb : ByteArray} {cm : Nat} {cr : Option FieldType} {rm : Room} {as rest : List Value} {W : Nat} {ps : List FieldType} {pr : Option FieldType} {ce' sl' : Nat} {a : Addr} {C0 : String} {Qc : Option Value → Heap → Prop} (S : Sat l Z y cb cm cr rm (.ref a :: as) h n0 Qc) (E : Exa Z h a C0) (w1 : (Jvm.Cond.methodLink own i y).before a0 Z = true) (w5 : (Jvm.Cond.privateMethod y).before a0 Z = true) (w6 : (Jvm.Cond.selects y.cls y y).before a0 Z = true) (w2 : (Jvm.Cond.instanceMethod y).before a0 Z = true) (w3 : (Jvm.Cond.initialized y.cls).before a0 Z = true) (w4 : (Jvm.Cond.code y cb cm cr).before a0 Z = true) (hy : y.cls ≠ "java/lang/invoke/MethodHandle" ∧ y.cls ≠ "java/lang/invoke/VarHandle") (hpd : parseMethodDescriptor y.desc = some ⟨ps, pr⟩) (hlen : as.length = ps.length) (hls : Ls.size = mx) (hW : wt rest = W) (hfr : rm.frames + 1 ≤ R.frames) (hlo : W + (cm + 11) + rm.locals ≤ R.locals) (hce : ce + rm.cells = ce') (hsl : sl + rm.slots = sl') (hcc : ce' ≤ R.cells) (hss : sl' ≤ R.slots) (hd : decode bs pc = .ok (.invokevirtual i, 3)) (hp : pc + 3 = pc') (hst : st = as.reverse ++ .ref a :: rest) (hr : ∀ v h', Qc v h' → Go p l e R s m args below meth c n0 Q K N h' ce' sl' (mkF m pc' Ls (v.toList ++ rest))) : Go p l e R s m args below meth c n0 Q K N h ce sl (mkF m pc Ls st) := by
  subst hp hce hsl
  intro T locs X eT Nn
  have hZ := C.2.2.2.1
  obtain ⟨cell, hc1, hc2⟩ := E.cell
  obtain ⟨v, _, ⟨T', L', k', n'⟩, -, X', ⟨Lc, hQ, l', y', z'⟩, stp⟩ := X.privateBack C.1 (y := y) C.2.2.2.2.1 (mvT hZ w1) (mvT hZ w2) (mvT hZ w6) (Cond.privateMethod_at (args := #[]) (mvP hZ w5)) (mvT hZ w4) hy (back_of_sat S hZ w3 w4 hfr hlo) (g := mkF m pc Ls st) rfl (hls.trans C.2.2.1.symm) (Steps.refl _) (a := a) (by rw [eT]; exact hc1) hc2 (argsL := as) (rest := rest) (lenOf hpd hlen) hst (by show 2 * 0 + wt rest ≤ W; omega) (hb C.2.1 hd) (fun _ _ => ⟨rfl, eT, hcc, hss⟩)
  dsimp only [Pt.U, Pt.locs, Pt.cells, Pt.slots] at X' l' y' z' stp hQ
  subst l' y' z'
  obtain ⟨s₂, o, h1, r⟩ := hr v T'.heap hQ.1 T' _ X' rfl (Fr.app Nn hQ.2)
  exact ⟨s₂, o, stp.trans h1, r⟩
theorem own_selects_private {y : MethodName} {k : Nat} (wi : (Jvm.Cond.instantiable y.cls k).before a0 Z = true) (wp : (Jvm.Cond.privateMethod y).before a0 Z = true) (wm : (Jvm.Cond.instanceMethod y).before a0 Z = true) (hy : y.cls ≠ "java/lang/invoke/MethodHandle" ∧ y.cls ≠ "java/lang/invoke/VarHandle") : (Jvm.Cond.selects y.cls y y).before a0 Z = true := by
  obtain ⟨mk, methM, hnamed, hmethM, hstM, habM⟩ := Cond.instanceMethod_spec wm
  obtain ⟨c1, k1, q1, q2, q3, q4, -⟩ := Cond.instantiable_spec wi
  have hc := findClass_of_methodNamed hnamed
  cases q1.symm.trans hc
  have hf := State.methodFound?_of_named hnamed hy
  have hs : selectMethod {} Z.vm mk.cls mk = .method mk := selectMethod_private hmethM (Cond.privateMethod_at wp mk methM hnamed hmethM)
  have hi : k1.isInterface = false := by
    cases h : k1.isInterface
    · rfl
    · rw [h] at q4; simp at q4
  simp [Cond.before, Cond.holds, Cond.value, hc, hf, hnamed, hs, q2, hi]
theorem go_specialW (C : Cx p s m meth c Z own bs mx rt nm) {y : MethodName} {i : Nat} {cb : ByteArray} {cm : Nat} {rm : Room} {as rest : List Value} {W : Nat} {ps : List FieldType} {pr : Option FieldType} {ce' sl' : Nat} {a : Addr} {Qc : Option Value → Heap → Prop} (S : Sat l Z y cb cm none rm (.ref a :: as) h n0 Qc) (hyn : y.name = "<init>") (w1 : (Jvm.Cond.methodRef own i y).before a0 Z = true) (w2 : (Jvm.Cond.instanceMethod y).before a0 Z = true) (w3 : (Jvm.Cond.initialized y.cls).before a0 Z = true) (w4 : (Jvm.Cond.code y cb cm none).before a0 Z = true) (hy : y.cls ≠ "java/lang/invoke/MethodHandle" ∧ y.cls ≠ "java/lang/invoke/VarHandle") (hpd : parseMethodDescriptor y.desc = some ⟨ps, pr⟩) (hlen : as.length = ps.length) (hls : Ls.size = mx) (hW : wt rest = W) (hfr : rm.frames + 1 ≤ R.frames) (hlo : W + (cm + 11) + rm.locals ≤ R.locals) (hce : ce + rm.cells = ce') (hsl : sl + rm.slots = sl') (hcc : ce' ≤ R.cells) (hss : sl' ≤ R.slots) (hd : decode bs pc = .ok (.invokespecial i, 3)) (hp : pc + 3 = pc') (hst : st = as.reverse ++ .ref a :: rest) (hr : ∀ v h', Qc v h' → Go p l e R s m args below meth c n0 Q K N h' ce' sl' (mkF m pc' Ls (v.toList ++ rest))) : Go p l e R s m args below meth c n0 Q K N h ce sl (mkF m pc Ls st) := by
  subst hp hce hsl
  intro T locs X eT Nn
  have hZ := C.2.2.2.1
  have hT : Z.Warmed39 T.vm := wtrans hZ X.warmed
  obtain ⟨mZ, _, hnZ, -⟩ := Cond.instanceMethod_spec w2
  have w1T : (Jvm.Cond.methodRef own i y).before a0 T = true := (Cond.methodRef_warmed39 hT hnZ hy w1 :)
  obtain ⟨mO, methO, hnO, hmO, hstO, habO⟩ := Cond.instanceMethod_spec (mv (args := a0) hT w2)
  obtain ⟨methO', cO, hmO', hcO, hbO, hlO, -, hlockO, -, hsigO⟩ := Cond.code_spec hnO (mv (args := a0) hT w4)
  cases hmO.symm.trans hmO'
  obtain ⟨kO, hkO, hnameO⟩ := className_of_methodNamed hnO
  obtain ⟨hnameMO, hdescO⟩ := name_of_methodNamed hnO hmO
  have hownT : T.vm.findClass own = some m.cls := by rw [X.warmed.alike.findClass]; exact C.2.2.2.2.1
  obtain ⟨m', c', hf', hready, hfc, hnr⟩ := Cond.methodRef_named e hownT w1T
  have e1 : m' = mO := Option.some.inj (hf'.symm.trans (State.methodFound?_of_named hnO hy))
  subst e1
  have e2 : c' = m'.cls := Option.some.inj (hfc.symm.trans (findClass_of_methodNamed hnO))
  subst e2
  have hfound : lookupSpecial T.vm m'.cls "<init>" methO.desc = .method m' := by rw [hdescO, ← hyn]; exact lookupSpecial_of_named hnO hmO hstO
  have hstep : ∀ target, (∀ acts, Steps p.tables e below (doInvoke e (T.setTop { mkF m pc Ls st with stack := rest }) acts m' (.ref a :: as).toArray).1 target) → Steps p.tables e below (T.setTop (mkF m pc Ls st)) target := fun target hrest => by
    jvm_step X.here [C.1, (hb C.2.1 hd), invokespecial.wp_init (e := e) (s := T) (k := kO) (meth := methO) (m := m') (a := a) (args := as) (rest := rest) (f := mkF m pc Ls st) X.here.top hnr hready hkO hmO (by rw [hnameMO]; exact hyn) hstO habO hfound (lenOf hpd hlen _ hsigO) hst]
    exact hrest
  have B := back_of_sat (p := p) (e := e) (below := below) (args := args) (R := R) (len := 3) S hZ w3 w4 hfr hlo
  obtain ⟨v, ⟨T', L', k', n'⟩, X', ⟨Lc, hQ, l', y', z'⟩, stp⟩ := B m meth c ⟨T, locs, ce, sl⟩ { mkF m pc Ls st with stack := rest } (.invokespecial i) m' (.ref a :: as).toArray X rfl (hls.trans C.2.2.1.symm) (hb C.2.1 hd) (by show 2 * 0 + wt rest ≤ W; omega) hnO ⟨rfl, eT, hcc, hss⟩
  dsimp only [Pt.U, Pt.locs, Pt.cells, Pt.slots] at X' l' y' z' stp hQ
  subst l' y' z'
  obtain ⟨s₂, o, h1, r⟩ := hr v T'.heap hQ.1 T' _ X' rfl (Fr.app Nn hQ.2)
  exact ⟨s₂, o, (hstep _ (fun acts => by rw [doInvoke_state]; exact Steps.refl _)).trans (stp.trans h1), r⟩
theorem go_staticP (C : Cx p s m meth c Z own bs mx rt nm) {y : MethodName} {i : Nat} {cb : ByteArray} {cm : Nat} {cr : Option FieldType} {rm : Room} {as rest : List Value} {W : Nat} {ps : List FieldType} {pr : Option FieldType}  (v : Value) (S : Sat l Z y cb cm cr rm as h n0 (RV fun r h' => r = v ∧ h' = h)) (w1 : (Jvm.Cond.methodLink own i y).before a0 Z = true) (w2 : (Jvm.Cond.static y).before a0 Z = true) (w3 : (Jvm.Cond.initialized y.cls).before a0 Z = true) (w4 : (Jvm.Cond.code y cb cm cr).before a0 Z = true) (hy : y.cls ≠ "java/lang/invoke/MethodHandle" ∧ y.cls ≠ "java/lang/invoke/VarHandle") (hpd : parseMethodDescriptor y.desc = some ⟨ps, pr⟩) (hlen : as.length = ps.length) (hls : Ls.size = mx) (hW : wt rest = W) (hfr : rm.frames + 1 ≤ R.frames) (hlo : W + (cm + 11) + rm.locals ≤ R.locals) (hce : rm.cells = 0) (hsl : rm.slots = 0) (hcc : ce ≤ R.cells) (hss : sl ≤ R.slots) (hd : decode bs pc = .ok (.invokestatic i, 3)) (hp : pc + 3 = pc') (hst : st = as.reverse ++ rest) (hr : Go p l e R s m args below meth c n0 Q K N h ce sl (mkF m pc' Ls (v :: rest))) : Go p l e R s m args below meth c n0 Q K N h ce sl (mkF m pc Ls st) :=
  go_static C S w1 w2 w3 w4 hy hpd hlen hls hW hfr hlo (by rw [hce]; rfl) (by rw [hsl]; rfl) hcc hss hd hp hst (fun w h' hq => by obtain ⟨r, rfl, q1, q2⟩ := hq; rw [q1, q2]; exact hr)
theorem go_staticV (C : Cx p s m meth c Z own bs mx rt nm) {y : MethodName} {i : Nat} {cb : ByteArray} {cm : Nat} {cr : Option FieldType} {rm : Room} {as rest : List Value} {W : Nat} {ps : List FieldType} {pr : Option FieldType} {ce' sl' : Nat}  {P : Value → Heap → Prop} (S : Sat l Z y cb cm cr rm as h n0 (RV P)) (w1 : (Jvm.Cond.methodLink own i y).before a0 Z = true) (w2 : (Jvm.Cond.static y).before a0 Z = true) (w3 : (Jvm.Cond.initialized y.cls).before a0 Z = true) (w4 : (Jvm.Cond.code y cb cm cr).before a0 Z = true) (hy : y.cls ≠ "java/lang/invoke/MethodHandle" ∧ y.cls ≠ "java/lang/invoke/VarHandle") (hpd : parseMethodDescriptor y.desc = some ⟨ps, pr⟩) (hlen : as.length = ps.length) (hls : Ls.size = mx) (hW : wt rest = W) (hfr : rm.frames + 1 ≤ R.frames) (hlo : W + (cm + 11) + rm.locals ≤ R.locals) (hce : ce + rm.cells = ce') (hsl : sl + rm.slots = sl') (hcc : ce' ≤ R.cells) (hss : sl' ≤ R.slots) (hd : decode bs pc = .ok (.invokestatic i, 3)) (hp : pc + 3 = pc') (hst : st = as.reverse ++ rest) (hr : ∀ r h', P r h' → Go p l e R s m args below meth c n0 Q K N h' ce' sl' (mkF m pc' Ls (r :: rest))) : Go p l e R s m args below meth c n0 Q K N h ce sl (mkF m pc Ls st) :=
  go_static C S w1 w2 w3 w4 hy hpd hlen hls hW hfr hlo hce hsl hcc hss hd hp hst (fun v h' hq => by obtain ⟨r, rfl, q⟩ := hq; exact hr r h' q)
theorem go_staticN (C : Cx p s m meth c Z own bs mx rt nm) {y : MethodName} {i : Nat} {cb : ByteArray} {cm : Nat} {cr : Option FieldType} {rm : Room} {as rest : List Value} {W : Nat} {ps : List FieldType} {pr : Option FieldType} {ce' sl' : Nat}  {P : Heap → Prop} (S : Sat l Z y cb cm cr rm as h n0 (RN P)) (w1 : (Jvm.Cond.methodLink own i y).before a0 Z = true) (w2 : (Jvm.Cond.static y).before a0 Z = true) (w3 : (Jvm.Cond.initialized y.cls).before a0 Z = true) (w4 : (Jvm.Cond.code y cb cm cr).before a0 Z = true) (hy : y.cls ≠ "java/lang/invoke/MethodHandle" ∧ y.cls ≠ "java/lang/invoke/VarHandle") (hpd : parseMethodDescriptor y.desc = some ⟨ps, pr⟩) (hlen : as.length = ps.length) (hls : Ls.size = mx) (hW : wt rest = W) (hfr : rm.frames + 1 ≤ R.frames) (hlo : W + (cm + 11) + rm.locals ≤ R.locals) (hce : ce + rm.cells = ce') (hsl : sl + rm.slots = sl') (hcc : ce' ≤ R.cells) (hss : sl' ≤ R.slots) (hd : decode bs pc = .ok (.invokestatic i, 3)) (hp : pc + 3 = pc') (hst : st = as.reverse ++ rest) (hr : ∀ h', P h' → Go p l e R s m args below meth c n0 Q K N h' ce' sl' (mkF m pc' Ls rest)) : Go p l e R s m args below meth c n0 Q K N h ce sl (mkF m pc Ls st) :=
  go_static C S w1 w2 w3 w4 hy hpd hlen hls hW hfr hlo hce hsl hcc hss hd hp hst (fun v h' hq => by obtain ⟨rfl, q⟩ := hq; exact hr h' q)
theorem go_virtualP (C : Cx p s m meth c Z own bs mx rt nm) {y : MethodName} {i : Nat} {cb : ByteArray} {cm : Nat} {cr : Option FieldType} {rm : Room} {as rest : List Value} {W : Nat} {ps : List FieldType} {pr : Option FieldType} {a : Addr} {C0 : String} (v : Value) (S : Sat l Z y cb cm cr rm (.ref a :: as) h n0 (RV fun r h' => r = v ∧ h' = h)) (E : Exa Z h a C0) (w1 : (Jvm.Cond.methodLink own i y).before a0 Z = true) (w5 : (Jvm.Cond.declares y).before a0 Z = true) (w6 : (Jvm.Cond.selects C0 y y).before a0 Z = true) (w2 : (Jvm.Cond.instanceMethod y).before a0 Z = true) (w3 : (Jvm.Cond.initialized y.cls).before a0 Z = true) (w4 : (Jvm.Cond.code y cb cm cr).before a0 Z = true) (hy : y.cls ≠ "java/lang/invoke/MethodHandle" ∧ y.cls ≠ "java/lang/invoke/VarHandle") (hpd : parseMethodDescriptor y.desc = some ⟨ps, pr⟩) (hlen : as.length = ps.length) (hls : Ls.size = mx) (hW : wt rest = W) (hfr : rm.frames + 1 ≤ R.frames) (hlo : W + (cm + 11) + rm.locals ≤ R.locals) (hce : rm.cells = 0) (hsl : rm.slots = 0) (hcc : ce ≤ R.cells) (hss : sl ≤ R.slots) (hd : decode bs pc = .ok (.invokevirtual i, 3)) (hp : pc + 3 = pc') (hst : st = as.reverse ++ .ref a :: rest) (hr : Go p l e R s m args below meth c n0 Q K N h ce sl (mkF m pc' Ls (v :: rest))) : Go p l e R s m args below meth c n0 Q K N h ce sl (mkF m pc Ls st) :=
  go_virtual C S E w1 w5 w6 w2 w3 w4 hy hpd hlen hls hW hfr hlo (by rw [hce]; rfl) (by rw [hsl]; rfl) hcc hss hd hp hst (fun w h' hq => by obtain ⟨r, rfl, q1, q2⟩ := hq; rw [q1, q2]; exact hr)
theorem go_virtualV (C : Cx p s m meth c Z own bs mx rt nm) {y : MethodName} {i : Nat} {cb : ByteArray} {cm : Nat} {cr : Option FieldType} {rm : Room} {as rest : List Value} {W : Nat} {ps : List FieldType} {pr : Option FieldType} {ce' sl' : Nat} {a : Addr} {C0 : String} {P : Value → Heap → Prop} (S : Sat l Z y cb cm cr rm (.ref a :: as) h n0 (RV P)) (E : Exa Z h a C0) (w1 : (Jvm.Cond.methodLink own i y).before a0 Z = true) (w5 : (Jvm.Cond.declares y).before a0 Z = true) (w6 : (Jvm.Cond.selects C0 y y).before a0 Z = true) (w2 : (Jvm.Cond.instanceMethod y).before a0 Z = true) (w3 : (Jvm.Cond.initialized y.cls).before a0 Z = true) (w4 : (Jvm.Cond.code y cb cm cr).before a0 Z = true) (hy : y.cls ≠ "java/lang/invoke/MethodHandle" ∧ y.cls ≠ "java/lang/invoke/VarHandle") (hpd : parseMethodDescriptor y.desc = some ⟨ps, pr⟩) (hlen : as.length = ps.length) (hls : Ls.size = mx) (hW : wt rest = W) (hfr : rm.frames + 1 ≤ R.frames) (hlo : W + (cm + 11) + rm.locals ≤ R.locals) (hce : ce + rm.cells = ce') (hsl : sl + rm.slots = sl') (hcc : ce' ≤ R.cells) (hss : sl' ≤ R.slots) (hd : decode bs pc = .ok (.invokevirtual i, 3)) (hp : pc + 3 = pc') (hst : st = as.reverse ++ .ref a :: rest) (hr : ∀ r h', P r h' → Go p l e R s m args below meth c n0 Q K N h' ce' sl' (mkF m pc' Ls (r :: rest))) : Go p l e R s m args below meth c n0 Q K N h ce sl (mkF m pc Ls st) :=
  go_virtual C S E w1 w5 w6 w2 w3 w4 hy hpd hlen hls hW hfr hlo hce hsl hcc hss hd hp hst (fun v h' hq => by obtain ⟨r, rfl, q⟩ := hq; exact hr r h' q)
theorem go_virtualN (C : Cx p s m meth c Z own bs mx rt nm) {y : MethodName} {i : Nat} {cb : ByteArray} {cm : Nat} {cr : Option FieldType} {rm : Room} {as rest : List Value} {W : Nat} {ps : List FieldType} {pr : Option FieldType} {ce' sl' : Nat} {a : Addr} {C0 : String} {P : Heap → Prop} (S : Sat l Z y cb cm cr rm (.ref a :: as) h n0 (RN P)) (E : Exa Z h a C0) (w1 : (Jvm.Cond.methodLink own i y).before a0 Z = true) (w5 : (Jvm.Cond.declares y).before a0 Z = true) (w6 : (Jvm.Cond.selects C0 y y).before a0 Z = true) (w2 : (Jvm.Cond.instanceMethod y).before a0 Z = true) (w3 : (Jvm.Cond.initialized y.cls).before a0 Z = true) (w4 : (Jvm.Cond.code y cb cm cr).before a0 Z = true) (hy : y.cls ≠ "java/lang/invoke/MethodHandle" ∧ y.cls ≠ "java/lang/invoke/VarHandle") (hpd : parseMethodDescriptor y.desc = some ⟨ps, pr⟩) (hlen : as.length = ps.length) (hls : Ls.size = mx) (hW : wt rest = W) (hfr : rm.frames + 1 ≤ R.frames) (hlo : W + (cm + 11) + rm.locals ≤ R.locals) (hce : ce + rm.cells = ce') (hsl : sl + rm.slots = sl') (hcc : ce' ≤ R.cells) (hss : sl' ≤ R.slots) (hd : decode bs pc = .ok (.invokevirtual i, 3)) (hp : pc + 3 = pc') (hst : st = as.reverse ++ .ref a :: rest) (hr : ∀ h', P h' → Go p l e R s m args below meth c n0 Q K N h' ce' sl' (mkF m pc' Ls rest)) : Go p l e R s m args below meth c n0 Q K N h ce sl (mkF m pc Ls st) :=
  go_virtual C S E w1 w5 w6 w2 w3 w4 hy hpd hlen hls hW hfr hlo hce hsl hcc hss hd hp hst (fun v h' hq => by obtain ⟨rfl, q⟩ := hq; exact hr h' q)
theorem go_privateP (C : Cx p s m meth c Z own bs mx rt nm) {y : MethodName} {i : Nat} {cb : ByteArray} {cm : Nat} {cr : Option FieldType} {rm : Room} {as rest : List Value} {W : Nat} {ps : List FieldType} {pr : Option FieldType} {a : Addr} {C0 : String} (v : Value) (S : Sat l Z y cb cm cr rm (.ref a :: as) h n0 (RV fun r h' => r = v ∧ h' = h)) (E : Exa Z h a C0) (w1 : (Jvm.Cond.methodLink own i y).before a0 Z = true) (w5 : (Jvm.Cond.privateMethod y).before a0 Z = true) (w6 : (Jvm.Cond.selects y.cls y y).before a0 Z = true) (w2 : (Jvm.Cond.instanceMethod y).before a0 Z = true) (w3 : (Jvm.Cond.initialized y.cls).before a0 Z = true) (w4 : (Jvm.Cond.code y cb cm cr).before a0 Z = true) (hy : y.cls ≠ "java/lang/invoke/MethodHandle" ∧ y.cls ≠ "java/lang/invoke/VarHandle") (hpd : parseMethodDescriptor y.desc = some ⟨ps, pr⟩) (hlen : as.length = ps.length) (hls : Ls.size = mx) (hW : wt rest = W) (hfr : rm.frames + 1 ≤ R.frames) (hlo : W + (cm + 11) + rm.locals ≤ R.locals) (hce : rm.cells = 0) (hsl : rm.slots = 0) (hcc : ce ≤ R.cells) (hss : sl ≤ R.slots) (hd : decode bs pc = .ok (.invokevirtual i, 3)) (hp : pc + 3 = pc') (hst : st = as.reverse ++ .ref a :: rest) (hr : Go p l e R s m args below meth c n0 Q K N h ce sl (mkF m pc' Ls (v :: rest))) : Go p l e R s m args below meth c n0 Q K N h ce sl (mkF m pc Ls st) :=
  go_private C S E w1 w5 w6 w2 w3 w4 hy hpd hlen hls hW hfr hlo (by rw [hce]; rfl) (by rw [hsl]; rfl) hcc hss hd hp hst (fun w h' hq => by obtain ⟨r, rfl, q1, q2⟩ := hq; rw [q1, q2]; exact hr)
theorem go_privateV (C : Cx p s m meth c Z own bs mx rt nm) {y : MethodName} {i : Nat} {cb : ByteArray} {cm : Nat} {cr : Option FieldType} {rm : Room} {as rest : List Value} {W : Nat} {ps : List FieldType} {pr : Option FieldType} {ce' sl' : Nat} {a : Addr} {C0 : String} {P : Value → Heap → Prop} (S : Sat l Z y cb cm cr rm (.ref a :: as) h n0 (RV P)) (E : Exa Z h a C0) (w1 : (Jvm.Cond.methodLink own i y).before a0 Z = true) (w5 : (Jvm.Cond.privateMethod y).before a0 Z = true) (w6 : (Jvm.Cond.selects y.cls y y).before a0 Z = true) (w2 : (Jvm.Cond.instanceMethod y).before a0 Z = true) (w3 : (Jvm.Cond.initialized y.cls).before a0 Z = true) (w4 : (Jvm.Cond.code y cb cm cr).before a0 Z = true) (hy : y.cls ≠ "java/lang/invoke/MethodHandle" ∧ y.cls ≠ "java/lang/invoke/VarHandle") (hpd : parseMethodDescriptor y.desc = some ⟨ps, pr⟩) (hlen : as.length = ps.length) (hls : Ls.size = mx) (hW : wt rest = W) (hfr : rm.frames + 1 ≤ R.frames) (hlo : W + (cm + 11) + rm.locals ≤ R.locals) (hce : ce + rm.cells = ce') (hsl : sl + rm.slots = sl') (hcc : ce' ≤ R.cells) (hss : sl' ≤ R.slots) (hd : decode bs pc = .ok (.invokevirtual i, 3)) (hp : pc + 3 = pc') (hst : st = as.reverse ++ .ref a :: rest) (hr : ∀ r h', P r h' → Go p l e R s m args below meth c n0 Q K N h' ce' sl' (mkF m pc' Ls (r :: rest))) : Go p l e R s m args below meth c n0 Q K N h ce sl (mkF m pc Ls st) :=
  go_private C S E w1 w5 w6 w2 w3 w4 hy hpd hlen hls hW hfr hlo hce hsl hcc hss hd hp hst (fun v h' hq => by obtain ⟨r, rfl, q⟩ := hq; exact hr r h' q)
theorem go_privateN (C : Cx p s m meth c Z own bs mx rt nm) {y : MethodName} {i : Nat} {cb : ByteArray} {cm : Nat} {cr : Option FieldType} {rm : Room} {as rest : List Value} {W : Nat} {ps : List FieldType} {pr : Option FieldType} {ce' sl' : Nat} {a : Addr} {C0 : String} {P : Heap → Prop} (S : Sat l Z y cb cm cr rm (.ref a :: as) h n0 (RN P)) (E : Exa Z h a C0) (w1 : (Jvm.Cond.methodLink own i y).before a0 Z = true) (w5 : (Jvm.Cond.privateMethod y).before a0 Z = true) (w6 : (Jvm.Cond.selects y.cls y y).before a0 Z = true) (w2 : (Jvm.Cond.instanceMethod y).before a0 Z = true) (w3 : (Jvm.Cond.initialized y.cls).before a0 Z = true) (w4 : (Jvm.Cond.code y cb cm cr).before a0 Z = true) (hy : y.cls ≠ "java/lang/invoke/MethodHandle" ∧ y.cls ≠ "java/lang/invoke/VarHandle") (hpd : parseMethodDescriptor y.desc = some ⟨ps, pr⟩) (hlen : as.length = ps.length) (hls : Ls.size = mx) (hW : wt rest = W) (hfr : rm.frames + 1 ≤ R.frames) (hlo : W + (cm + 11) + rm.locals ≤ R.locals) (hce : ce + rm.cells = ce') (hsl : sl + rm.slots = sl') (hcc : ce' ≤ R.cells) (hss : sl' ≤ R.slots) (hd : decode bs pc = .ok (.invokevirtual i, 3)) (hp : pc + 3 = pc') (hst : st = as.reverse ++ .ref a :: rest) (hr : ∀ h', P h' → Go p l e R s m args below meth c n0 Q K N h' ce' sl' (mkF m pc' Ls rest)) : Go p l e R s m args below meth c n0 Q K N h ce sl (mkF m pc Ls st) :=
  go_private C S E w1 w5 w6 w2 w3 w4 hy hpd hlen hls hW hfr hlo hce hsl hcc hss hd hp hst (fun v h' hq => by obtain ⟨rfl, q⟩ := hq; exact hr h' q)
theorem go_specialV (C : Cx p s m meth c Z own bs mx rt nm) {y : MethodName} {i : Nat} {cb : ByteArray} {cm : Nat} {rm : Room} {as rest : List Value} {W : Nat} {ps : List FieldType} {pr : Option FieldType} {ce' sl' : Nat} {a : Addr} {P : Value → Heap → Prop} (S : Sat l Z y cb cm none rm (.ref a :: as) h n0 (RV P)) (hyn : y.name = "<init>") (w1 : (Jvm.Cond.methodLink own i y).before a0 Z = true) (w2 : (Jvm.Cond.instanceMethod y).before a0 Z = true) (w3 : (Jvm.Cond.initialized y.cls).before a0 Z = true) (w4 : (Jvm.Cond.code y cb cm none).before a0 Z = true) (hy : y.cls ≠ "java/lang/invoke/MethodHandle" ∧ y.cls ≠ "java/lang/invoke/VarHandle") (hpd : parseMethodDescriptor y.desc = some ⟨ps, pr⟩) (hlen : as.length = ps.length) (hls : Ls.size = mx) (hW : wt rest = W) (hfr : rm.frames + 1 ≤ R.frames) (hlo : W + (cm + 11) + rm.locals ≤ R.locals) (hce : ce + rm.cells = ce') (hsl : sl + rm.slots = sl') (hcc : ce' ≤ R.cells) (hss : sl' ≤ R.slots) (hd : decode bs pc = .ok (.invokespecial i, 3)) (hp : pc + 3 = pc') (hst : st = as.reverse ++ .ref a :: rest) (hr : ∀ r h', P r h' → Go p l e R s m args below meth c n0 Q K N h' ce' sl' (mkF m pc' Ls (r :: rest))) : Go p l e R s m args below meth c n0 Q K N h ce sl (mkF m pc Ls st) :=
  go_special C S hyn w1 w2 w3 w4 hy hpd hlen hls hW hfr hlo hce hsl hcc hss hd hp hst (fun v h' hq => by obtain ⟨r, rfl, q⟩ := hq; exact hr r h' q)
theorem go_specialN (C : Cx p s m meth c Z own bs mx rt nm) {y : MethodName} {i : Nat} {cb : ByteArray} {cm : Nat} {rm : Room} {as rest : List Value} {W : Nat} {ps : List FieldType} {pr : Option FieldType} {ce' sl' : Nat} {a : Addr} {P : Heap → Prop} (S : Sat l Z y cb cm none rm (.ref a :: as) h n0 (RN P)) (hyn : y.name = "<init>") (w1 : (Jvm.Cond.methodLink own i y).before a0 Z = true) (w2 : (Jvm.Cond.instanceMethod y).before a0 Z = true) (w3 : (Jvm.Cond.initialized y.cls).before a0 Z = true) (w4 : (Jvm.Cond.code y cb cm none).before a0 Z = true) (hy : y.cls ≠ "java/lang/invoke/MethodHandle" ∧ y.cls ≠ "java/lang/invoke/VarHandle") (hpd : parseMethodDescriptor y.desc = some ⟨ps, pr⟩) (hlen : as.length = ps.length) (hls : Ls.size = mx) (hW : wt rest = W) (hfr : rm.frames + 1 ≤ R.frames) (hlo : W + (cm + 11) + rm.locals ≤ R.locals) (hce : ce + rm.cells = ce') (hsl : sl + rm.slots = sl') (hcc : ce' ≤ R.cells) (hss : sl' ≤ R.slots) (hd : decode bs pc = .ok (.invokespecial i, 3)) (hp : pc + 3 = pc') (hst : st = as.reverse ++ .ref a :: rest) (hr : ∀ h', P h' → Go p l e R s m args below meth c n0 Q K N h' ce' sl' (mkF m pc' Ls rest)) : Go p l e R s m args below meth c n0 Q K N h ce sl (mkF m pc Ls st) :=
  go_special C S hyn w1 w2 w3 w4 hy hpd hlen hls hW hfr hlo hce hsl hcc hss hd hp hst (fun v h' hq => by obtain ⟨rfl, q⟩ := hq; exact hr h' q)
theorem go_specialWV (C : Cx p s m meth c Z own bs mx rt nm) {y : MethodName} {i : Nat} {cb : ByteArray} {cm : Nat} {rm : Room} {as rest : List Value} {W : Nat} {ps : List FieldType} {pr : Option FieldType} {ce' sl' : Nat} {a : Addr} {P : Value → Heap → Prop} (S : Sat l Z y cb cm none rm (.ref a :: as) h n0 (RV P)) (hyn : y.name = "<init>") (w1 : (Jvm.Cond.methodRef own i y).before a0 Z = true) (w2 : (Jvm.Cond.instanceMethod y).before a0 Z = true) (w3 : (Jvm.Cond.initialized y.cls).before a0 Z = true) (w4 : (Jvm.Cond.code y cb cm none).before a0 Z = true) (hy : y.cls ≠ "java/lang/invoke/MethodHandle" ∧ y.cls ≠ "java/lang/invoke/VarHandle") (hpd : parseMethodDescriptor y.desc = some ⟨ps, pr⟩) (hlen : as.length = ps.length) (hls : Ls.size = mx) (hW : wt rest = W) (hfr : rm.frames + 1 ≤ R.frames) (hlo : W + (cm + 11) + rm.locals ≤ R.locals) (hce : ce + rm.cells = ce') (hsl : sl + rm.slots = sl') (hcc : ce' ≤ R.cells) (hss : sl' ≤ R.slots) (hd : decode bs pc = .ok (.invokespecial i, 3)) (hp : pc + 3 = pc') (hst : st = as.reverse ++ .ref a :: rest) (hr : ∀ r h', P r h' → Go p l e R s m args below meth c n0 Q K N h' ce' sl' (mkF m pc' Ls (r :: rest))) : Go p l e R s m args below meth c n0 Q K N h ce sl (mkF m pc Ls st) :=
  go_specialW C S hyn w1 w2 w3 w4 hy hpd hlen hls hW hfr hlo hce hsl hcc hss hd hp hst (fun v h' hq => by obtain ⟨r, rfl, q⟩ := hq; exact hr r h' q)
theorem go_specialWN (C : Cx p s m meth c Z own bs mx rt nm) {y : MethodName} {i : Nat} {cb : ByteArray} {cm : Nat} {rm : Room} {as rest : List Value} {W : Nat} {ps : List FieldType} {pr : Option FieldType} {ce' sl' : Nat} {a : Addr} {P : Heap → Prop} (S : Sat l Z y cb cm none rm (.ref a :: as) h n0 (RN P)) (hyn : y.name = "<init>") (w1 : (Jvm.Cond.methodRef own i y).before a0 Z = true) (w2 : (Jvm.Cond.instanceMethod y).before a0 Z = true) (w3 : (Jvm.Cond.initialized y.cls).before a0 Z = true) (w4 : (Jvm.Cond.code y cb cm none).before a0 Z = true) (hy : y.cls ≠ "java/lang/invoke/MethodHandle" ∧ y.cls ≠ "java/lang/invoke/VarHandle") (hpd : parseMethodDescriptor y.desc = some ⟨ps, pr⟩) (hlen : as.length = ps.length) (hls : Ls.size = mx) (hW : wt rest = W) (hfr : rm.frames + 1 ≤ R.frames) (hlo : W + (cm + 11) + rm.locals ≤ R.locals) (hce : ce + rm.cells = ce') (hsl : sl + rm.slots = sl') (hcc : ce' ≤ R.cells) (hss : sl' ≤ R.slots) (hd : decode bs pc = .ok (.invokespecial i, 3)) (hp : pc + 3 = pc') (hst : st = as.reverse ++ .ref a :: rest) (hr : ∀ h', P h' → Go p l e R s m args below meth c n0 Q K N h' ce' sl' (mkF m pc' Ls rest)) : Go p l e R s m args below meth c n0 Q K N h ce sl (mkF m pc Ls st) :=
  go_specialW C S hyn w1 w2 w3 w4 hy hpd hlen hls hW hfr hlo hce hsl hcc hss hd hp hst (fun v h' hq => by obtain ⟨rfl, q⟩ := hq; exact hr h' q)
theorem go_ireturnI (C : Cx p s m meth c Z own bs mx rt nm) {z : Int32} (hrt : rt = some .int) (hd : decode bs pc = .ok (.ireturn, 1)) (hk : ce ≤ K) (hn : sl ≤ N) (hq : Q (some (.int z)) h) : Go p l e R s m args below meth c n0 Q K N h ce sl (mkF m pc Ls [.int z]) := by
  subst hrt
  intro T locs X eT Nn
  obtain ⟨fs, hr, hrun, hended, hW, hsame⟩ := X.leave (v := some (.int z)) (fun q => by first | rfl | (rw [C.2.2.2.2.2.1] at q; cases q)) C.2.2.2.2.2.2.1
  refine ⟨_, _, X.ireturnOut C.1 C.2.2.2.2.2.1 rfl (Or.inl rfl) (hb C.2.1 hd) hr, hrun, hended, _, _, rfl, ⟨?_, Nn⟩, ⟨_, rfl⟩, hW, hsame.mono hk hn⟩
  show Q (some (.int z)) T.heap
  rw [eT]; exact hq
theorem go_lreturn (C : Cx p s m meth c Z own bs mx rt nm) {z : Int64} (hrt : rt = some .long) (hd : decode bs pc = .ok (.lreturn, 1)) (hk : ce ≤ K) (hn : sl ≤ N) (hq : Q (some (.long z)) h) : Go p l e R s m args below meth c n0 Q K N h ce sl (mkF m pc Ls [.long z]) := by
  subst hrt
  intro T locs X eT Nn
  obtain ⟨fs, hr, hrun, hended, hW, hsame⟩ := X.leave (v := some (.long z)) (fun q => by first | rfl | (rw [C.2.2.2.2.2.1] at q; cases q)) C.2.2.2.2.2.2.1
  refine ⟨_, _, Jvm.Stand.lreturnOut X C.1 C.2.2.2.2.2.1 (hb C.2.1 hd) hr, hrun, hended, _, _, rfl, ⟨?_, Nn⟩, ⟨_, rfl⟩, hW, hsame.mono hk hn⟩
  show Q (some (.long z)) T.heap
  rw [eT]; exact hq
theorem go_areturn (C : Cx p s m meth c Z own bs mx rt nm) {w : Value} {t : FieldType} (hrt : rt = some t) (hd : decode bs pc = .ok (.areturn, 1)) (hk : ce ≤ K) (hn : sl ≤ N) (hw : w.isRef = true) (ht : t.isReference = true) (hq : Q (some w) h) : Go p l e R s m args below meth c n0 Q K N h ce sl (mkF m pc Ls [w]) := by
  subst hrt
  intro T locs X eT Nn
  obtain ⟨fs, hr, hrun, hended, hW, hsame⟩ := X.leave (v := some w) (fun q => by first | rfl | (rw [C.2.2.2.2.2.1] at q; cases q)) C.2.2.2.2.2.2.1
  refine ⟨_, _, X.areturnOut C.1 hw C.2.2.2.2.2.1 ht (hb C.2.1 hd) hr, hrun, hended, _, _, rfl, ⟨?_, Nn⟩, ⟨_, rfl⟩, hW, hsame.mono hk hn⟩
  show Q (some w) T.heap
  rw [eT]; exact hq
theorem go_return (C : Cx p s m meth c Z own bs mx rt nm)  (hrt : rt = none) (hd : decode bs pc = .ok (.return_, 1)) (hk : ce ≤ K) (hn : sl ≤ N) (hq : Q (none) h) : Go p l e R s m args below meth c n0 Q K N h ce sl (mkF m pc Ls []) := by
  subst hrt
  intro T locs X eT Nn
  obtain ⟨fs, hr, hrun, hended, hW, hsame⟩ := X.leave (v := none) (fun q => by first | rfl | (rw [C.2.2.2.2.2.1] at q; cases q)) C.2.2.2.2.2.2.1
  refine ⟨_, _, X.returnOut C.1 C.2.2.2.2.2.1 (hb C.2.1 hd) hr, hrun, hended, _, _, rfl, ⟨?_, Nn⟩, ⟨_, rfl⟩, hW, hsame.mono hk hn⟩
  show Q (none) T.heap
  rw [eT]; exact hq
theorem go_ireturnN (C : Cx p s m meth c Z own bs mx rt nm) {z z' : Int32} {t : FieldType} (hrt : rt = some t) (ht : t = .boolean ∨ t = .byte ∨ t = .char ∨ t = .short) (hz : nar t z = z') (hd : decode bs pc = .ok (.ireturn, 1)) (hk : ce ≤ K) (hn : sl ≤ N) (hq : Q (some (.int z')) h) : Go p l e R s m args below meth c n0 Q K N h ce sl (mkF m pc Ls [.int z]) := by
  subst hrt hz
  intro T locs X eT Nn
  obtain ⟨fs, hr, hrun, hended, hW, hsame⟩ := X.leave (v := some (.int (nar t z))) (fun q => by rw [C.2.2.2.2.2.1] at q; cases q) C.2.2.2.2.2.2.1
  refine ⟨_, _, retN X C.1 (t := t) C.2.2.2.2.2.1 ht (hb C.2.1 hd) hr, hrun, hended, _, _, rfl, ⟨?_, Nn⟩, ⟨_, rfl⟩, hW, hsame.mono hk hn⟩
  show Q (some (.int (nar t z))) T.heap
  rw [eT]; exact hq
theorem sat_of {y : MethodName} {cb : ByteArray} {cm : Nat} {cr : Option FieldType} {rm : Room} {as : List Value} {h0 : Heap} (ho : y.cls = own) (hnm : y.name = nm) (hpn : plainFor y = true) (Ls : Array Slot) (hef : ∀ m, entryFrame m as.toArray cm = mkF m 0 Ls [])
    (body : ∀ (p : Program) (e : Env) (s : State) (m : MethodId) (below : List Frame) (meth : Method) (c : Code), Cx p s m meth c Z own cb cm cr nm → Go p l e rm s m as.toArray below meth c n0 Q rm.cells rm.slots h0 0 0 (mkF m 0 Ls [])) : Sat l Z y cb cm cr rm as h0 n0 Q := by
  intro ws
  subst ho hnm
  refine MetFree.of_bodySF hpn hisR ?_
  intro p e s m args below meth c s₁ Bd hml0 hP hK
  obtain ⟨rfl, hZ, hh⟩ := hP
  have X0 : Stand p l e rm s m as.toArray below meth c s₁ [] 0 0 := Stand.of_body Bd
  obtain ⟨s₂, o, h1, h2, h3, v, L, h4, h5, h6⟩ := body p e s m below meth c ⟨Bd.exec, Bd.bytes, hml0, hZ, findClass_of_methodNamed Bd.named, Bd.returns, Bd.notSynchronized, (name_of_methodNamed Bd.named Bd.method).1⟩ s₁ [] X0 (by rw [← hh, Bd.state]; rfl) (Fr.nil n0)
  exact ⟨s₂, o, castTop (hef m) h1, h2, h3, v, L, h4, h5, h6⟩
theorem Sat.weaken {y : MethodName} {cb : ByteArray} {cm : Nat} {cr : Option FieldType} {rm : Room} {as : List Value} {h0 : Heap} {Q' : Option Value → Heap → Prop} (S : Sat l Z y cb cm cr rm as h0 n0 Q) (H : ∀ v h, Q v h → Q' v h) : Sat l Z y cb cm cr rm as h0 n0 Q' := by
  intro ws p e ha hc hk s m args below hf happ hP hK
  obtain ⟨n, o, h1, h2, h3, v, L, h4, h5, h6⟩ := S ws p e ha hc hk s m args below hf happ hP hK
  exact ⟨n, o, h1, h2, h3, v, L, h4, ⟨H _ _ h5.1, h5.2⟩, h6⟩
end Walk
end OwnLayer
theorem wd {Z : State} {a0 : Array Value} (hw : ∀ d ∈ tables_1, d.before a0 Z = true) (k : Nat) {d : Jvm.Cond} (h : tables_1[k]? = some d) : d.before a0 Z = true := hw d (List.mem_of_getElem? h)
theorem d1_0 : decode method_2_code 0 = .ok (.iload_n 1, 1) := by decide +kernel
theorem d1_1 : decode method_2_code 1 = .ok (.iload_n 2, 1) := by decide +kernel
theorem d1_2 : decode method_2_code 2 = .ok (.ishr, 1) := by decide +kernel
theorem d1_3 : decode method_2_code 3 = .ok (.iconst 1, 1) := by decide +kernel
theorem d1_4 : decode method_2_code 4 = .ok (.iand, 1) := by decide +kernel
theorem d1_5 : decode method_2_code 5 = .ok (.ifCond .eq 9, 3) := by decide +kernel
theorem d1_8 : decode method_2_code 8 = .ok (.iload_n 0, 1) := by decide +kernel
theorem d1_9 : decode method_2_code 9 = .ok (.iconst 3, 1) := by decide +kernel
theorem d1_10 : decode method_2_code 10 = .ok (.iand, 1) := by decide +kernel
theorem d1_11 : decode method_2_code 11 = .ok (.goto 4, 3) := by decide +kernel
theorem d1_14 : decode method_2_code 14 = .ok (.iload_n 0, 1) := by decide +kernel
theorem d1_15 : decode method_2_code 15 = .ok (.ireturn, 1) := by decide +kernel
theorem d2_0 : decode prog_60_method_1_code 0 = .ok (.aload_n 0, 1) := by decide +kernel
theorem d2_1 : decode prog_60_method_1_code 1 = .ok (.invokespecial 3, 3) := by decide +kernel
theorem d2_4 : decode prog_60_method_1_code 4 = .ok (.aload_n 0, 1) := by decide +kernel
theorem d2_5 : decode prog_60_method_1_code 5 = .ok (.bipush 8, 2) := by decide +kernel
theorem d2_7 : decode prog_60_method_1_code 7 = .ok (.newarray .int, 2) := by decide +kernel
theorem d2_9 : decode prog_60_method_1_code 9 = .ok (.putfield 9, 3) := by decide +kernel
theorem d2_12 : decode prog_60_method_1_code 12 = .ok (.return_, 1) := by decide +kernel
theorem d4_0 : decode prog_60_method_10_code 0 = .ok (.iconst 0, 1) := by decide +kernel
theorem d4_1 : decode prog_60_method_10_code 1 = .ok (.istore_n 1, 1) := by decide +kernel
theorem d4_2 : decode prog_60_method_10_code 2 = .ok (.iconst 0, 1) := by decide +kernel
theorem d4_3 : decode prog_60_method_10_code 3 = .ok (.istore_n 2, 1) := by decide +kernel
theorem d4_4 : decode prog_60_method_10_code 4 = .ok (.iload_n 2, 1) := by decide +kernel
theorem d4_5 : decode prog_60_method_10_code 5 = .ok (.aload_n 0, 1) := by decide +kernel
theorem d4_6 : decode prog_60_method_10_code 6 = .ok (.getfield 15, 3) := by decide +kernel
theorem d4_9 : decode prog_60_method_10_code 9 = .ok (.if_icmp .ge 72, 3) := by decide +kernel
theorem d4_12 : decode prog_60_method_10_code 12 = .ok (.aload_n 0, 1) := by decide +kernel
theorem d4_13 : decode prog_60_method_10_code 13 = .ok (.getfield 9, 3) := by decide +kernel
theorem d4_16 : decode prog_60_method_10_code 16 = .ok (.iload_n 2, 1) := by decide +kernel
theorem d4_17 : decode prog_60_method_10_code 17 = .ok (.iaload, 1) := by decide +kernel
theorem d4_18 : decode prog_60_method_10_code 18 = .ok (.istore_n 3, 1) := by decide +kernel
theorem d4_19 : decode prog_60_method_10_code 19 = .ok (.iconst 0, 1) := by decide +kernel
theorem d4_20 : decode prog_60_method_10_code 20 = .ok (.istore 4, 2) := by decide +kernel
theorem d4_22 : decode prog_60_method_10_code 22 = .ok (.iconst 0, 1) := by decide +kernel
theorem d4_23 : decode prog_60_method_10_code 23 = .ok (.istore 5, 2) := by decide +kernel
theorem d4_25 : decode prog_60_method_10_code 25 = .ok (.iload 5, 2) := by decide +kernel
theorem d4_27 : decode prog_60_method_10_code 27 = .ok (.iload_n 1, 1) := by decide +kernel
theorem d4_28 : decode prog_60_method_10_code 28 = .ok (.if_icmp .ge 32, 3) := by decide +kernel
theorem d4_31 : decode prog_60_method_10_code 31 = .ok (.iload 4, 2) := by decide +kernel
theorem d4_33 : decode prog_60_method_10_code 33 = .ok (.ifCond .ne 27, 3) := by decide +kernel
theorem d4_36 : decode prog_60_method_10_code 36 = .ok (.aload_n 0, 1) := by decide +kernel
theorem d4_37 : decode prog_60_method_10_code 37 = .ok (.getfield 9, 3) := by decide +kernel
theorem d4_40 : decode prog_60_method_10_code 40 = .ok (.iload 5, 2) := by decide +kernel
theorem d4_42 : decode prog_60_method_10_code 42 = .ok (.iaload, 1) := by decide +kernel
theorem d4_43 : decode prog_60_method_10_code 43 = .ok (.iload_n 3, 1) := by decide +kernel
theorem d4_44 : decode prog_60_method_10_code 44 = .ok (.if_icmp .ne 7, 3) := by decide +kernel
theorem d4_47 : decode prog_60_method_10_code 47 = .ok (.iconst 1, 1) := by decide +kernel
theorem d4_48 : decode prog_60_method_10_code 48 = .ok (.goto 4, 3) := by decide +kernel
theorem d4_51 : decode prog_60_method_10_code 51 = .ok (.iconst 0, 1) := by decide +kernel
theorem d4_52 : decode prog_60_method_10_code 52 = .ok (.istore 4, 2) := by decide +kernel
theorem d4_54 : decode prog_60_method_10_code 54 = .ok (.iinc 5 1, 3) := by decide +kernel
theorem d4_57 : decode prog_60_method_10_code 57 = .ok (.goto (-32), 3) := by decide +kernel
theorem d4_60 : decode prog_60_method_10_code 60 = .ok (.iload 4, 2) := by decide +kernel
theorem d4_62 : decode prog_60_method_10_code 62 = .ok (.ifCond .ne 13, 3) := by decide +kernel
theorem d4_65 : decode prog_60_method_10_code 65 = .ok (.aload_n 0, 1) := by decide +kernel
theorem d4_66 : decode prog_60_method_10_code 66 = .ok (.getfield 9, 3) := by decide +kernel
theorem d4_69 : decode prog_60_method_10_code 69 = .ok (.iload_n 1, 1) := by decide +kernel
theorem d4_70 : decode prog_60_method_10_code 70 = .ok (.iinc 1 1, 3) := by decide +kernel
theorem d4_73 : decode prog_60_method_10_code 73 = .ok (.iload_n 3, 1) := by decide +kernel
theorem d4_74 : decode prog_60_method_10_code 74 = .ok (.iastore, 1) := by decide +kernel
theorem d4_75 : decode prog_60_method_10_code 75 = .ok (.iinc 2 1, 3) := by decide +kernel
theorem d4_78 : decode prog_60_method_10_code 78 = .ok (.goto (-74), 3) := by decide +kernel
theorem d4_81 : decode prog_60_method_10_code 81 = .ok (.aload_n 0, 1) := by decide +kernel
theorem d4_82 : decode prog_60_method_10_code 82 = .ok (.iload_n 1, 1) := by decide +kernel
theorem d4_83 : decode prog_60_method_10_code 83 = .ok (.putfield 15, 3) := by decide +kernel
theorem d4_86 : decode prog_60_method_10_code 86 = .ok (.return_, 1) := by decide +kernel
theorem d5_0 : decode prog_60_method_7_code 0 = .ok (.aload_n 0, 1) := by decide +kernel
theorem d5_1 : decode prog_60_method_7_code 1 = .ok (.getfield 15, 3) := by decide +kernel
theorem d5_4 : decode prog_60_method_7_code 4 = .ok (.ireturn, 1) := by decide +kernel
theorem d6_0 : decode prog_60_method_2_code 0 = .ok (.aload_n 0, 1) := by decide +kernel
theorem d6_1 : decode prog_60_method_2_code 1 = .ok (.getfield 15, 3) := by decide +kernel
theorem d6_4 : decode prog_60_method_2_code 4 = .ok (.aload_n 0, 1) := by decide +kernel
theorem d6_5 : decode prog_60_method_2_code 5 = .ok (.getfield 9, 3) := by decide +kernel
theorem d6_8 : decode prog_60_method_2_code 8 = .ok (.arraylength, 1) := by decide +kernel
theorem d6_9 : decode prog_60_method_2_code 9 = .ok (.if_icmp .ne 29, 3) := by decide +kernel
theorem d6_12 : decode prog_60_method_2_code 12 = .ok (.aload_n 0, 1) := by decide +kernel
theorem d6_13 : decode prog_60_method_2_code 13 = .ok (.aload_n 0, 1) := by decide +kernel
theorem d6_14 : decode prog_60_method_2_code 14 = .ok (.getfield 9, 3) := by decide +kernel
theorem d6_17 : decode prog_60_method_2_code 17 = .ok (.aload_n 0, 1) := by decide +kernel
theorem d6_18 : decode prog_60_method_2_code 18 = .ok (.getfield 9, 3) := by decide +kernel
theorem d6_21 : decode prog_60_method_2_code 21 = .ok (.arraylength, 1) := by decide +kernel
theorem d6_22 : decode prog_60_method_2_code 22 = .ok (.aload_n 0, 1) := by decide +kernel
theorem d6_23 : decode prog_60_method_2_code 23 = .ok (.getfield 15, 3) := by decide +kernel
theorem d6_26 : decode prog_60_method_2_code 26 = .ok (.iconst 1, 1) := by decide +kernel
theorem d6_27 : decode prog_60_method_2_code 27 = .ok (.iadd, 1) := by decide +kernel
theorem d6_28 : decode prog_60_method_2_code 28 = .ok (.i2l, 1) := by decide +kernel
theorem d6_29 : decode prog_60_method_2_code 29 = .ok (.invokestatic 19, 3) := by decide +kernel
theorem d6_32 : decode prog_60_method_2_code 32 = .ok (.invokestatic 23, 3) := by decide +kernel
theorem d6_35 : decode prog_60_method_2_code 35 = .ok (.putfield 9, 3) := by decide +kernel
theorem d6_38 : decode prog_60_method_2_code 38 = .ok (.aload_n 0, 1) := by decide +kernel
theorem d6_39 : decode prog_60_method_2_code 39 = .ok (.getfield 9, 3) := by decide +kernel
theorem d6_42 : decode prog_60_method_2_code 42 = .ok (.aload_n 0, 1) := by decide +kernel
theorem d6_43 : decode prog_60_method_2_code 43 = .ok (.dup, 1) := by decide +kernel
theorem d6_44 : decode prog_60_method_2_code 44 = .ok (.getfield 15, 3) := by decide +kernel
theorem d6_47 : decode prog_60_method_2_code 47 = .ok (.dup_x1, 1) := by decide +kernel
theorem d6_48 : decode prog_60_method_2_code 48 = .ok (.iconst 1, 1) := by decide +kernel
theorem d6_49 : decode prog_60_method_2_code 49 = .ok (.iadd, 1) := by decide +kernel
theorem d6_50 : decode prog_60_method_2_code 50 = .ok (.putfield 15, 3) := by decide +kernel
theorem d6_53 : decode prog_60_method_2_code 53 = .ok (.iload_n 1, 1) := by decide +kernel
theorem d6_54 : decode prog_60_method_2_code 54 = .ok (.iastore, 1) := by decide +kernel
theorem d6_55 : decode prog_60_method_2_code 55 = .ok (.return_, 1) := by decide +kernel
theorem d7_0 : decode prog_60_method_4_code 0 = .ok (.aload_n 0, 1) := by decide +kernel
theorem d7_1 : decode prog_60_method_4_code 1 = .ok (.getfield 9, 3) := by decide +kernel
theorem d7_4 : decode prog_60_method_4_code 4 = .ok (.iload_n 1, 1) := by decide +kernel
theorem d7_5 : decode prog_60_method_4_code 5 = .ok (.iaload, 1) := by decide +kernel
theorem d7_6 : decode prog_60_method_4_code 6 = .ok (.ireturn, 1) := by decide +kernel
theorem pn_0 : plainName "com/example/inevitable_path/inevitablepath/smv/IntListRemoveDuplicatesPinLaw" = true := by first | (simp [plainName, overriddenIn]; done) | decide +kernel
theorem pd_0 : parseMethodDescriptor "(IIIIII)Z" = some ⟨[.int, .int, .int, .int, .int, .int], some .boolean⟩ := by decide +kernel
theorem pd_1 : parseMethodDescriptor "(III)I" = some ⟨[.int, .int, .int], some .int⟩ := by decide +kernel
theorem pn_1 : plainName "com/example/inevitable_path/inevitablepath/smv/IntList" = true := by first | (simp [plainName, overriddenIn]; done) | decide +kernel
theorem pd_2 : parseMethodDescriptor "()V" = some ⟨[], none⟩ := by decide +kernel
theorem pd_3 : parseMethodDescriptor "()I" = some ⟨[], some .int⟩ := by decide +kernel
theorem pd_4 : parseMethodDescriptor "(I)V" = some ⟨[.int], none⟩ := by decide +kernel
theorem pd_5 : parseMethodDescriptor "(I)I" = some ⟨[.int], some .int⟩ := by decide +kernel
set_option maxRecDepth 65536 in
set_option maxHeartbeats 40000000 in
theorem sat_init (l : Launch) (Z : State) (a0 : Array Value) (hw : ∀ d ∈ tables_1, d.before a0 Z = true) (a : Addr) (h0 : Heap) (n0 : Nat) (E1 : Exa Z h0 a "com/example/inevitable_path/inevitablepath/smv/IntList") (F1 : Fld Z h0 a "com/example/inevitable_path/inevitablepath/smv/IntList" "values" "[I" .null) (F2 : Fld Z h0 a "com/example/inevitable_path/inevitablepath/smv/IntList" "size" "I" (.int 0)) (ga : n0 ≤ a) (gz : n0 ≤ h0.size) :
    Sat l Z (⟨"com/example/inevitable_path/inevitablepath/smv/IntList", "<init>", "()V"⟩ : MethodName) prog_60_method_1_code 1 none ({ frames := 1, cells := 1, slots := 8, locals := 12 } : Room) [.ref a] h0 n0 (RN fun h => ∃ r : Addr, n0 ≤ r ∧ Exa Z h a "com/example/inevitable_path/inevitablepath/smv/IntList" ∧ Fld Z h a "com/example/inevitable_path/inevitablepath/smv/IntList" "values" "[I" (.ref r) ∧ Fld Z h a "com/example/inevitable_path/inevitablepath/smv/IntList" "size" "I" (.int (0 : Int32)) ∧ Av Z h r .int (List.replicate 8 (.int 0))) := by
  refine sat_of (own := "com/example/inevitable_path/inevitablepath/smv/IntList") (nm := "<init>") rfl rfl (plainFor_of_name pn_1) #[.val (.ref a)] (fun m => by first | (simp [entryFrame, mkF, argsToLocals, Value.category, maxLocals]; done) | rfl) ?_
  intro p e s m below meth c C
  refine go_aloadN C d2_0 (pc' := 1) rfl rfl rfl ?_
  refine go_objinit C (W := 0) (wd hw 10 rfl) (wd hw 11 rfl) (wd hw 12 rfl) rfl (by decide) rfl (by decide) d2_1 (pc' := 4) rfl ?_
  refine go_aloadN C d2_4 (pc' := 5) rfl rfl rfl ?_
  refine go_bipush C (8 : Int32) d2_5 (pc' := 7) rfl (by decide) ?_
  refine go_newarray C (wd hw 13 rfl) rfl 8 8 (by decide) (by decide) (by decide) (ce' := 1) (sl' := 8) rfl rfl (by decide) (by decide) d2_7 (pc' := 9) rfl ?_
  intro h_1 a_2 g_3 E_4 A_5
  have n_6 : a ≠ a_2 := own_ne_new E1.lt g_3
  have g_7 : n0 ≤ a_2 := own_ge gz g_3
  have F_8 := Fld.ext E_4 F1
  have F_9 := Fld.ext E_4 F2
  have E_10 := Exa.ext E_4 E1
  have z_11 : n0 ≤ h_1.size := Nat.le_trans gz E_4.1
  have A_12 : Av Z h_1 a_2 .int [.int (0 : Int32), .int (0 : Int32), .int (0 : Int32), .int (0 : Int32), .int (0 : Int32), .int (0 : Int32), .int (0 : Int32), .int (0 : Int32)] := A_5
  refine go_putfield C (wd hw 14 rfl) F_8 E_10 (Or.inl (wd hw 15 rfl)) (wd hw 5 rfl) (ty := (.array .int)) (by decide) rfl rfl ga d2_9 (pc' := 12) rfl ?_
  intro h_13 W_14
  have z_15 : n0 ≤ h_13.size := W_14.size.symm ▸ z_11
  have F_16 := Fld.same W_14 F_8
  have F_17 := Fld.other W_14 F_9 (Or.inr (slot_ne (a0 := a0) (Or.inl (wd hw 22 rfl)) (Or.inl (wd hw 15 rfl)) (by decide) (t := .int) (t' := (.array .int)) (by decide) (by decide)))
  have E_18 := Exa.wr W_14 E_10
  have A_19 := Av.other A_12 W_14 (Ne.symm n_6)
  refine go_return C rfl d2_12 (by decide) (by decide) ?_
  exact ⟨rfl, _, g_7, E_18, F_16, F_17, A_19⟩
set_option maxRecDepth 65536 in
set_option maxHeartbeats 40000000 in
theorem sat_add (l : Launch) (Z : State) (a0 : Array Value) (hw : ∀ d ∈ tables_1, d.before a0 Z = true) (a r : Addr) (x n nl : Int32) (k : Nat) (vs vs' : List Value) (h0 : Heap) (n0 : Nat) (E1 : Exa Z h0 a "com/example/inevitable_path/inevitablepath/smv/IntList") (F1 : Fld Z h0 a "com/example/inevitable_path/inevitablepath/smv/IntList" "values" "[I" (.ref r)) (F2 : Fld Z h0 a "com/example/inevitable_path/inevitablepath/smv/IntList" "size" "I" (.int n)) (A1 : Av Z h0 r .int vs) (ga : n0 ≤ a) (gr : n0 ≤ r) (hk : n.toInt = (k : Int)) (hl : k < vs.length) (hnl : nl.toInt = (vs.length : Int)) (hv : vs.set k (.int x) = vs') :
    Sat l Z (⟨"com/example/inevitable_path/inevitablepath/smv/IntList", "add", "(I)V"⟩ : MethodName) prog_60_method_2_code 2 none ({ frames := 0, cells := 0, slots := 0, locals := 0 } : Room) [.ref a, .int x] h0 n0 (RN fun h => Exa Z h a "com/example/inevitable_path/inevitablepath/smv/IntList" ∧ Fld Z h a "com/example/inevitable_path/inevitablepath/smv/IntList" "values" "[I" (.ref r) ∧ Fld Z h a "com/example/inevitable_path/inevitablepath/smv/IntList" "size" "I" (.int (n + 1)) ∧ Av Z h r .int vs') := by
  refine sat_of (own := "com/example/inevitable_path/inevitablepath/smv/IntList") (nm := "add") rfl rfl (plainFor_of_name pn_1) #[.val (.ref a), .val (.int x)] (fun m => by first | (simp [entryFrame, mkF, argsToLocals, Value.category, maxLocals]; done) | rfl) ?_
  intro p e s m below meth c C
  refine go_aloadN C d6_0 (pc' := 1) rfl rfl rfl ?_
  refine go_getfield C (wd hw 21 rfl) F2 d6_1 (pc' := 4) rfl ?_
  refine go_aloadN C d6_4 (pc' := 5) rfl rfl rfl ?_
  refine go_getfield C (wd hw 14 rfl) F1 d6_5 (pc' := 8) rfl ?_
  refine go_arraylength C A1 nl hnl d6_8 (pc' := 9) rfl ?_
  refine go_icmp C n.toInt nl.toInt rfl rfl d6_9 (by decide) (pc' := 38) (by decide) (pcN := 12) rfl (fun (c_1 : ¬ n.toInt = nl.toInt) => ?_) (fun (c_1 : n.toInt = nl.toInt) => ?_)
  · skip
    refine go_aloadN C d6_38 (pc' := 39) rfl rfl rfl ?_
    refine go_getfield C (wd hw 14 rfl) F1 d6_39 (pc' := 42) rfl ?_
    refine go_aloadN C d6_42 (pc' := 43) rfl rfl rfl ?_
    refine go_dup C d6_43 (pc' := 44) rfl rfl ?_
    refine go_getfield C (wd hw 21 rfl) F2 d6_44 (pc' := 47) rfl ?_
    refine go_dup_x1 C d6_47 (pc' := 48) rfl rfl rfl ?_
    refine go_iconst C (1 : Int32) d6_48 (pc' := 49) rfl (by decide) ?_
    refine go_iadd C d6_49 (pc' := 50) rfl ?_
    refine go_putfield C (wd hw 21 rfl) F2 E1 (Or.inl (wd hw 22 rfl)) (wd hw 5 rfl) (ty := .int) (by decide) rfl rfl ga d6_50 (pc' := 53) rfl ?_
    intro h_2 W_3
    have F_4 := Fld.other W_3 F1 (Or.inr (slot_ne (a0 := a0) (Or.inl (wd hw 15 rfl)) (Or.inl (wd hw 22 rfl)) (by decide) (t := (.array .int)) (t' := .int) (by decide) (by decide)))
    have F_5 := Fld.same W_3 F2
    have E_6 := Exa.wr W_3 E1
    have A_7 := Av.other A1 W_3 (Ne.symm (own_ne_arr E1 (wd hw 5 rfl) A1))
    refine go_iloadN C d6_53 (pc' := 54) rfl rfl ?_
    refine go_iastore C A_7 k hk hl gr d6_54 (pc' := 55) rfl ?_
    intro h_8 W_9 A_10
    have F_12 := Fld.other W_9 F_4 (Or.inl (own_ne_arr E_6 (wd hw 5 rfl) A_7))
    have F_13 := Fld.other W_9 F_5 (Or.inl (own_ne_arr E_6 (wd hw 5 rfl) A_7))
    have E_14 := Exa.wr W_9 E_6
    refine go_return C rfl d6_55 (by decide) (by decide) ?_
    exact ⟨rfl, E_14, F_12, F_13, (hv ▸ A_10)⟩
  · skip
    omega
set_option maxRecDepth 65536 in
set_option maxHeartbeats 40000000 in
theorem sat_get (l : Launch) (Z : State) (a0 : Array Value) (hw : ∀ d ∈ tables_1, d.before a0 Z = true) (a r : Addr) (j v : Int32) (k : Nat) (vs : List Value) (h0 : Heap) (n0 : Nat) (F1 : Fld Z h0 a "com/example/inevitable_path/inevitablepath/smv/IntList" "values" "[I" (.ref r)) (A1 : Av Z h0 r .int vs) (hk : j.toInt = (k : Int)) (hv : vs[k]? = some (.int v)) :
    Sat l Z (⟨"com/example/inevitable_path/inevitablepath/smv/IntList", "get", "(I)I"⟩ : MethodName) prog_60_method_4_code 2 (some .int) ({ frames := 0, cells := 0, slots := 0, locals := 0 } : Room) [.ref a, .int j] h0 n0 (RV fun q h => q = .int v ∧ h = h0) := by
  refine sat_of (own := "com/example/inevitable_path/inevitablepath/smv/IntList") (nm := "get") rfl rfl (plainFor_of_name pn_1) #[.val (.ref a), .val (.int j)] (fun m => by first | (simp [entryFrame, mkF, argsToLocals, Value.category, maxLocals]; done) | rfl) ?_
  intro p e s m below meth c C
  refine go_aloadN C d7_0 (pc' := 1) rfl rfl rfl ?_
  refine go_getfield C (wd hw 14 rfl) F1 d7_1 (pc' := 4) rfl ?_
  refine go_iloadN C d7_4 (pc' := 5) rfl rfl ?_
  refine go_iaload C A1 k (.int v) hk hv d7_5 (pc' := 6) rfl ?_
  refine go_ireturnI C rfl d7_6 (by decide) (by decide) ?_
  exact ⟨_, rfl, rfl, rfl⟩
set_option maxRecDepth 65536 in
set_option maxHeartbeats 40000000 in
theorem sat_size (l : Launch) (Z : State) (a0 : Array Value) (hw : ∀ d ∈ tables_1, d.before a0 Z = true) (a : Addr) (n : Int32) (h0 : Heap) (n0 : Nat) (F2 : Fld Z h0 a "com/example/inevitable_path/inevitablepath/smv/IntList" "size" "I" (.int n)) :
    Sat l Z (⟨"com/example/inevitable_path/inevitablepath/smv/IntList", "size", "()I"⟩ : MethodName) prog_60_method_7_code 1 (some .int) ({ frames := 0, cells := 0, slots := 0, locals := 0 } : Room) [.ref a] h0 n0 (RV fun q h => q = .int n ∧ h = h0) := by
  refine sat_of (own := "com/example/inevitable_path/inevitablepath/smv/IntList") (nm := "size") rfl rfl (plainFor_of_name pn_1) #[.val (.ref a)] (fun m => by first | (simp [entryFrame, mkF, argsToLocals, Value.category, maxLocals]; done) | rfl) ?_
  intro p e s m below meth c C
  refine go_aloadN C d5_0 (pc' := 1) rfl rfl rfl ?_
  refine go_getfield C (wd hw 21 rfl) F2 d5_1 (pc' := 4) rfl ?_
  refine go_ireturnI C rfl d5_4 (by decide) (by decide) ?_
  exact ⟨_, rfl, rfl, rfl⟩
set_option maxRecDepth 65536 in
set_option maxHeartbeats 40000000 in
theorem sat_rd0 (l : Launch) (Z : State) (a0 : Array Value) (hw : ∀ d ∈ tables_1, d.before a0 Z = true) (a r : Addr) (h0 : Heap) (n0 : Nat)  (E1 : Exa Z h0 a "com/example/inevitable_path/inevitablepath/smv/IntList") (F1 : Fld Z h0 a "com/example/inevitable_path/inevitablepath/smv/IntList" "values" "[I" (.ref r)) (F2 : Fld Z h0 a "com/example/inevitable_path/inevitablepath/smv/IntList" "size" "I" (.int (0 : Int32))) (A1 : Av Z h0 r .int [.int (0 : Int32), .int (0 : Int32), .int (0 : Int32), .int (0 : Int32), .int (0 : Int32), .int (0 : Int32), .int (0 : Int32), .int (0 : Int32)]) (ga : n0 ≤ a) (gr : n0 ≤ r) :
    Sat l Z (⟨"com/example/inevitable_path/inevitablepath/smv/IntList", "removeDuplicates", "()V"⟩ : MethodName) prog_60_method_10_code 6 none ({ frames := 0, cells := 0, slots := 0, locals := 0 } : Room) [.ref a] h0 n0 (RN fun h => Exa Z h a "com/example/inevitable_path/inevitablepath/smv/IntList" ∧ Fld Z h a "com/example/inevitable_path/inevitablepath/smv/IntList" "values" "[I" (.ref r) ∧ Fld Z h a "com/example/inevitable_path/inevitablepath/smv/IntList" "size" "I" (.int (0 : Int32)) ∧ Av Z h r .int [.int (0 : Int32), .int (0 : Int32), .int (0 : Int32), .int (0 : Int32), .int (0 : Int32), .int (0 : Int32), .int (0 : Int32), .int (0 : Int32)]) := by
  refine sat_of (own := "com/example/inevitable_path/inevitablepath/smv/IntList") (nm := "removeDuplicates") rfl rfl (plainFor_of_name pn_1) #[.val (.ref a), .unset, .unset, .unset, .unset, .unset] (fun m => by first | (simp [entryFrame, mkF, argsToLocals, Value.category, maxLocals]; done) | rfl) ?_
  intro p e s m below meth c C
  refine go_iconst C (0 : Int32) d4_0 (pc' := 1) rfl (by decide) ?_
  refine go_istoreN C (Ls' := #[.val (.ref a), .val (.int (0 : Int32)), .unset, .unset, .unset, .unset]) d4_1 (pc' := 2) rfl rfl ?_
  refine go_iconst C (0 : Int32) d4_2 (pc' := 3) rfl (by decide) ?_
  refine go_istoreN C (Ls' := #[.val (.ref a), .val (.int (0 : Int32)), .val (.int (0 : Int32)), .unset, .unset, .unset]) d4_3 (pc' := 4) rfl rfl ?_
  refine go_iloadN C d4_4 (pc' := 5) rfl rfl ?_
  refine go_aloadN C d4_5 (pc' := 6) rfl rfl rfl ?_
  refine go_getfield C (wd hw 21 rfl) F2 d4_6 (pc' := 9) rfl ?_
  refine go_icmp C (0 : Int) (0 : Int) (by decide) (by decide) d4_9 (by decide) (pc' := 81) (by decide) (pcN := 12) rfl (fun (c_1 : ¬ (0 : Int) < (0 : Int)) => ?_) (fun (c_1 : (0 : Int) < (0 : Int)) => by omega)
  refine go_aloadN C d4_81 (pc' := 82) rfl rfl rfl ?_
  refine go_iloadN C d4_82 (pc' := 83) rfl rfl ?_
  refine go_putfield C (wd hw 21 rfl) F2 E1 (Or.inl (wd hw 22 rfl)) (wd hw 5 rfl) (ty := .int) (by decide) rfl rfl ga d4_83 (pc' := 86) rfl ?_
  intro h_2 W_3
  have F_4 := Fld.other W_3 F1 (Or.inr (slot_ne (a0 := a0) (Or.inl (wd hw 15 rfl)) (Or.inl (wd hw 22 rfl)) (by decide) (t := (.array .int)) (t' := .int) (by decide) (by decide)))
  have F_5 := Fld.same W_3 F2
  have E_6 := Exa.wr W_3 E1
  have A_7 := Av.other A1 W_3 (Ne.symm (own_ne_arr E1 (wd hw 5 rfl) A1))
  refine go_return C rfl d4_86 (by decide) (by decide) ?_
  exact ⟨rfl, E_6, F_4, F_5, A_7⟩
set_option maxRecDepth 65536 in
set_option maxHeartbeats 40000000 in
theorem sat_rd1 (l : Launch) (Z : State) (a0 : Array Value) (hw : ∀ d ∈ tables_1, d.before a0 Z = true) (a r : Addr) (v0 : Int32) (h0 : Heap) (n0 : Nat)  (E1 : Exa Z h0 a "com/example/inevitable_path/inevitablepath/smv/IntList") (F1 : Fld Z h0 a "com/example/inevitable_path/inevitablepath/smv/IntList" "values" "[I" (.ref r)) (F2 : Fld Z h0 a "com/example/inevitable_path/inevitablepath/smv/IntList" "size" "I" (.int (1 : Int32))) (A1 : Av Z h0 r .int [.int v0, .int (0 : Int32), .int (0 : Int32), .int (0 : Int32), .int (0 : Int32), .int (0 : Int32), .int (0 : Int32), .int (0 : Int32)]) (ga : n0 ≤ a) (gr : n0 ≤ r) :
    Sat l Z (⟨"com/example/inevitable_path/inevitablepath/smv/IntList", "removeDuplicates", "()V"⟩ : MethodName) prog_60_method_10_code 6 none ({ frames := 0, cells := 0, slots := 0, locals := 0 } : Room) [.ref a] h0 n0 (RN fun h => Exa Z h a "com/example/inevitable_path/inevitablepath/smv/IntList" ∧ Fld Z h a "com/example/inevitable_path/inevitablepath/smv/IntList" "values" "[I" (.ref r) ∧ Fld Z h a "com/example/inevitable_path/inevitablepath/smv/IntList" "size" "I" (.int (1 : Int32)) ∧ Av Z h r .int [.int v0, .int (0 : Int32), .int (0 : Int32), .int (0 : Int32), .int (0 : Int32), .int (0 : Int32), .int (0 : Int32), .int (0 : Int32)]) := by
  refine sat_of (own := "com/example/inevitable_path/inevitablepath/smv/IntList") (nm := "removeDuplicates") rfl rfl (plainFor_of_name pn_1) #[.val (.ref a), .unset, .unset, .unset, .unset, .unset] (fun m => by first | (simp [entryFrame, mkF, argsToLocals, Value.category, maxLocals]; done) | rfl) ?_
  intro p e s m below meth c C
  refine go_iconst C (0 : Int32) d4_0 (pc' := 1) rfl (by decide) ?_
  refine go_istoreN C (Ls' := #[.val (.ref a), .val (.int (0 : Int32)), .unset, .unset, .unset, .unset]) d4_1 (pc' := 2) rfl rfl ?_
  refine go_iconst C (0 : Int32) d4_2 (pc' := 3) rfl (by decide) ?_
  refine go_istoreN C (Ls' := #[.val (.ref a), .val (.int (0 : Int32)), .val (.int (0 : Int32)), .unset, .unset, .unset]) d4_3 (pc' := 4) rfl rfl ?_
  refine go_iloadN C d4_4 (pc' := 5) rfl rfl ?_
  refine go_aloadN C d4_5 (pc' := 6) rfl rfl rfl ?_
  refine go_getfield C (wd hw 21 rfl) F2 d4_6 (pc' := 9) rfl ?_
  refine go_icmp C (0 : Int) (1 : Int) (by decide) (by decide) d4_9 (by decide) (pc' := 81) (by decide) (pcN := 12) rfl (fun (c_1 : ¬ (0 : Int) < (1 : Int)) => by omega) (fun (c_1 : (0 : Int) < (1 : Int)) => ?_)
  refine go_aloadN C d4_12 (pc' := 13) rfl rfl rfl ?_
  refine go_getfield C (wd hw 14 rfl) F1 d4_13 (pc' := 16) rfl ?_
  refine go_iloadN C d4_16 (pc' := 17) rfl rfl ?_
  refine go_iaload C A1 0 (.int v0) (by decide) rfl d4_17 (pc' := 18) rfl ?_
  refine go_istoreN C (Ls' := #[.val (.ref a), .val (.int (0 : Int32)), .val (.int (0 : Int32)), .val (.int v0), .unset, .unset]) d4_18 (pc' := 19) rfl rfl ?_
  refine go_iconst C (0 : Int32) d4_19 (pc' := 20) rfl (by decide) ?_
  refine go_istore C (Ls' := #[.val (.ref a), .val (.int (0 : Int32)), .val (.int (0 : Int32)), .val (.int v0), .val (.int (0 : Int32)), .unset]) d4_20 (pc' := 22) rfl rfl ?_
  refine go_iconst C (0 : Int32) d4_22 (pc' := 23) rfl (by decide) ?_
  refine go_istore C (Ls' := #[.val (.ref a), .val (.int (0 : Int32)), .val (.int (0 : Int32)), .val (.int v0), .val (.int (0 : Int32)), .val (.int (0 : Int32))]) d4_23 (pc' := 25) rfl rfl ?_
  refine go_iload C d4_25 (pc' := 27) rfl rfl ?_
  refine go_iloadN C d4_27 (pc' := 28) rfl rfl ?_
  refine go_icmp C (0 : Int) (0 : Int) (by decide) (by decide) d4_28 (by decide) (pc' := 60) (by decide) (pcN := 31) rfl (fun (c_2 : ¬ (0 : Int) < (0 : Int)) => ?_) (fun (c_2 : (0 : Int) < (0 : Int)) => by omega)
  refine go_iload C d4_60 (pc' := 62) rfl rfl ?_
  refine go_if0 C (0 : Int) (by decide) d4_62 (by decide) (pc' := 75) (by decide) (pcN := 65) rfl (fun (c_3 : ¬ (0 : Int) = 0) => by omega) (fun (c_3 : (0 : Int) = 0) => ?_)
  refine go_aloadN C d4_65 (pc' := 66) rfl rfl rfl ?_
  refine go_getfield C (wd hw 14 rfl) F1 d4_66 (pc' := 69) rfl ?_
  refine go_iloadN C d4_69 (pc' := 70) rfl rfl ?_
  refine go_iinc C (Ls' := #[.val (.ref a), .val (.int ((0 : Int32) + (1 : Int32))), .val (.int (0 : Int32)), .val (.int v0), .val (.int (0 : Int32)), .val (.int (0 : Int32))]) (1 : Int32) d4_70 (pc' := 73) rfl (by decide) rfl rfl ?_
  rw [(by decide : (0 : Int32) + (1 : Int32) = (1 : Int32))]
  refine go_iloadN C d4_73 (pc' := 74) rfl rfl ?_
  refine go_iastore C A1 0 (by decide) (show 0 < 8 from by decide) gr d4_74 (pc' := 75) rfl ?_
  intro h_4 W_5 A_6
  have F_8 := Fld.other W_5 F1 (Or.inl (own_ne_arr E1 (wd hw 5 rfl) A1))
  have F_9 := Fld.other W_5 F2 (Or.inl (own_ne_arr E1 (wd hw 5 rfl) A1))
  have E_10 := Exa.wr W_5 E1
  have A_11 : Av Z h_4 r .int [.int v0, .int (0 : Int32), .int (0 : Int32), .int (0 : Int32), .int (0 : Int32), .int (0 : Int32), .int (0 : Int32), .int (0 : Int32)] := A_6
  refine go_iinc C (Ls' := #[.val (.ref a), .val (.int (1 : Int32)), .val (.int ((0 : Int32) + (1 : Int32))), .val (.int v0), .val (.int (0 : Int32)), .val (.int (0 : Int32))]) (1 : Int32) d4_75 (pc' := 78) rfl (by decide) rfl rfl ?_
  rw [(by decide : (0 : Int32) + (1 : Int32) = (1 : Int32))]
  refine go_goto C d4_78 (by decide) (pc' := 4) (by decide) ?_
  refine go_iloadN C d4_4 (pc' := 5) rfl rfl ?_
  refine go_aloadN C d4_5 (pc' := 6) rfl rfl rfl ?_
  refine go_getfield C (wd hw 21 rfl) F_9 d4_6 (pc' := 9) rfl ?_
  refine go_icmp C (1 : Int) (1 : Int) (by decide) (by decide) d4_9 (by decide) (pc' := 81) (by decide) (pcN := 12) rfl (fun (c_12 : ¬ (1 : Int) < (1 : Int)) => ?_) (fun (c_12 : (1 : Int) < (1 : Int)) => by omega)
  refine go_aloadN C d4_81 (pc' := 82) rfl rfl rfl ?_
  refine go_iloadN C d4_82 (pc' := 83) rfl rfl ?_
  refine go_putfield C (wd hw 21 rfl) F_9 E_10 (Or.inl (wd hw 22 rfl)) (wd hw 5 rfl) (ty := .int) (by decide) rfl rfl ga d4_83 (pc' := 86) rfl ?_
  intro h_13 W_14
  have F_15 := Fld.other W_14 F_8 (Or.inr (slot_ne (a0 := a0) (Or.inl (wd hw 15 rfl)) (Or.inl (wd hw 22 rfl)) (by decide) (t := (.array .int)) (t' := .int) (by decide) (by decide)))
  have F_16 := Fld.same W_14 F_9
  have E_17 := Exa.wr W_14 E_10
  have A_18 := Av.other A_11 W_14 (Ne.symm (own_ne_arr E_10 (wd hw 5 rfl) A_11))
  refine go_return C rfl d4_86 (by decide) (by decide) ?_
  exact ⟨rfl, E_17, F_15, F_16, A_18⟩
set_option maxRecDepth 65536 in
set_option maxHeartbeats 40000000 in
theorem sat_rd2t (l : Launch) (Z : State) (a0 : Array Value) (hw : ∀ d ∈ tables_1, d.before a0 Z = true) (a r : Addr) (v0 v1 : Int32) (h0 : Heap) (n0 : Nat) (hf1 : ¬ v1.toInt = v0.toInt) (E1 : Exa Z h0 a "com/example/inevitable_path/inevitablepath/smv/IntList") (F1 : Fld Z h0 a "com/example/inevitable_path/inevitablepath/smv/IntList" "values" "[I" (.ref r)) (F2 : Fld Z h0 a "com/example/inevitable_path/inevitablepath/smv/IntList" "size" "I" (.int (2 : Int32))) (A1 : Av Z h0 r .int [.int v0, .int v1, .int (0 : Int32), .int (0 : Int32), .int (0 : Int32), .int (0 : Int32), .int (0 : Int32), .int (0 : Int32)]) (ga : n0 ≤ a) (gr : n0 ≤ r) :
    Sat l Z (⟨"com/example/inevitable_path/inevitablepath/smv/IntList", "removeDuplicates", "()V"⟩ : MethodName) prog_60_method_10_code 6 none ({ frames := 0, cells := 0, slots := 0, locals := 0 } : Room) [.ref a] h0 n0 (RN fun h => Exa Z h a "com/example/inevitable_path/inevitablepath/smv/IntList" ∧ Fld Z h a "com/example/inevitable_path/inevitablepath/smv/IntList" "values" "[I" (.ref r) ∧ Fld Z h a "com/example/inevitable_path/inevitablepath/smv/IntList" "size" "I" (.int (2 : Int32)) ∧ Av Z h r .int [.int v0, .int v1, .int (0 : Int32), .int (0 : Int32), .int (0 : Int32), .int (0 : Int32), .int (0 : Int32), .int (0 : Int32)]) := by
  refine sat_of (own := "com/example/inevitable_path/inevitablepath/smv/IntList") (nm := "removeDuplicates") rfl rfl (plainFor_of_name pn_1) #[.val (.ref a), .unset, .unset, .unset, .unset, .unset] (fun m => by first | (simp [entryFrame, mkF, argsToLocals, Value.category, maxLocals]; done) | rfl) ?_
  intro p e s m below meth c C
  refine go_iconst C (0 : Int32) d4_0 (pc' := 1) rfl (by decide) ?_
  refine go_istoreN C (Ls' := #[.val (.ref a), .val (.int (0 : Int32)), .unset, .unset, .unset, .unset]) d4_1 (pc' := 2) rfl rfl ?_
  refine go_iconst C (0 : Int32) d4_2 (pc' := 3) rfl (by decide) ?_
  refine go_istoreN C (Ls' := #[.val (.ref a), .val (.int (0 : Int32)), .val (.int (0 : Int32)), .unset, .unset, .unset]) d4_3 (pc' := 4) rfl rfl ?_
  refine go_iloadN C d4_4 (pc' := 5) rfl rfl ?_
  refine go_aloadN C d4_5 (pc' := 6) rfl rfl rfl ?_
  refine go_getfield C (wd hw 21 rfl) F2 d4_6 (pc' := 9) rfl ?_
  refine go_icmp C (0 : Int) (2 : Int) (by decide) (by decide) d4_9 (by decide) (pc' := 81) (by decide) (pcN := 12) rfl (fun (c_1 : ¬ (0 : Int) < (2 : Int)) => by omega) (fun (c_1 : (0 : Int) < (2 : Int)) => ?_)
  refine go_aloadN C d4_12 (pc' := 13) rfl rfl rfl ?_
  refine go_getfield C (wd hw 14 rfl) F1 d4_13 (pc' := 16) rfl ?_
  refine go_iloadN C d4_16 (pc' := 17) rfl rfl ?_
  refine go_iaload C A1 0 (.int v0) (by decide) rfl d4_17 (pc' := 18) rfl ?_
  refine go_istoreN C (Ls' := #[.val (.ref a), .val (.int (0 : Int32)), .val (.int (0 : Int32)), .val (.int v0), .unset, .unset]) d4_18 (pc' := 19) rfl rfl ?_
  refine go_iconst C (0 : Int32) d4_19 (pc' := 20) rfl (by decide) ?_
  refine go_istore C (Ls' := #[.val (.ref a), .val (.int (0 : Int32)), .val (.int (0 : Int32)), .val (.int v0), .val (.int (0 : Int32)), .unset]) d4_20 (pc' := 22) rfl rfl ?_
  refine go_iconst C (0 : Int32) d4_22 (pc' := 23) rfl (by decide) ?_
  refine go_istore C (Ls' := #[.val (.ref a), .val (.int (0 : Int32)), .val (.int (0 : Int32)), .val (.int v0), .val (.int (0 : Int32)), .val (.int (0 : Int32))]) d4_23 (pc' := 25) rfl rfl ?_
  refine go_iload C d4_25 (pc' := 27) rfl rfl ?_
  refine go_iloadN C d4_27 (pc' := 28) rfl rfl ?_
  refine go_icmp C (0 : Int) (0 : Int) (by decide) (by decide) d4_28 (by decide) (pc' := 60) (by decide) (pcN := 31) rfl (fun (c_2 : ¬ (0 : Int) < (0 : Int)) => ?_) (fun (c_2 : (0 : Int) < (0 : Int)) => by omega)
  refine go_iload C d4_60 (pc' := 62) rfl rfl ?_
  refine go_if0 C (0 : Int) (by decide) d4_62 (by decide) (pc' := 75) (by decide) (pcN := 65) rfl (fun (c_3 : ¬ (0 : Int) = 0) => by omega) (fun (c_3 : (0 : Int) = 0) => ?_)
  refine go_aloadN C d4_65 (pc' := 66) rfl rfl rfl ?_
  refine go_getfield C (wd hw 14 rfl) F1 d4_66 (pc' := 69) rfl ?_
  refine go_iloadN C d4_69 (pc' := 70) rfl rfl ?_
  refine go_iinc C (Ls' := #[.val (.ref a), .val (.int ((0 : Int32) + (1 : Int32))), .val (.int (0 : Int32)), .val (.int v0), .val (.int (0 : Int32)), .val (.int (0 : Int32))]) (1 : Int32) d4_70 (pc' := 73) rfl (by decide) rfl rfl ?_
  rw [(by decide : (0 : Int32) + (1 : Int32) = (1 : Int32))]
  refine go_iloadN C d4_73 (pc' := 74) rfl rfl ?_
  refine go_iastore C A1 0 (by decide) (show 0 < 8 from by decide) gr d4_74 (pc' := 75) rfl ?_
  intro h_4 W_5 A_6
  have F_8 := Fld.other W_5 F1 (Or.inl (own_ne_arr E1 (wd hw 5 rfl) A1))
  have F_9 := Fld.other W_5 F2 (Or.inl (own_ne_arr E1 (wd hw 5 rfl) A1))
  have E_10 := Exa.wr W_5 E1
  have A_11 : Av Z h_4 r .int [.int v0, .int v1, .int (0 : Int32), .int (0 : Int32), .int (0 : Int32), .int (0 : Int32), .int (0 : Int32), .int (0 : Int32)] := A_6
  refine go_iinc C (Ls' := #[.val (.ref a), .val (.int (1 : Int32)), .val (.int ((0 : Int32) + (1 : Int32))), .val (.int v0), .val (.int (0 : Int32)), .val (.int (0 : Int32))]) (1 : Int32) d4_75 (pc' := 78) rfl (by decide) rfl rfl ?_
  rw [(by decide : (0 : Int32) + (1 : Int32) = (1 : Int32))]
  refine go_goto C d4_78 (by decide) (pc' := 4) (by decide) ?_
  refine go_iloadN C d4_4 (pc' := 5) rfl rfl ?_
  refine go_aloadN C d4_5 (pc' := 6) rfl rfl rfl ?_
  refine go_getfield C (wd hw 21 rfl) F_9 d4_6 (pc' := 9) rfl ?_
  refine go_icmp C (1 : Int) (2 : Int) (by decide) (by decide) d4_9 (by decide) (pc' := 81) (by decide) (pcN := 12) rfl (fun (c_12 : ¬ (1 : Int) < (2 : Int)) => by omega) (fun (c_12 : (1 : Int) < (2 : Int)) => ?_)
  refine go_aloadN C d4_12 (pc' := 13) rfl rfl rfl ?_
  refine go_getfield C (wd hw 14 rfl) F_8 d4_13 (pc' := 16) rfl ?_
  refine go_iloadN C d4_16 (pc' := 17) rfl rfl ?_
  refine go_iaload C A_11 1 (.int v1) (by decide) rfl d4_17 (pc' := 18) rfl ?_
  refine go_istoreN C (Ls' := #[.val (.ref a), .val (.int (1 : Int32)), .val (.int (1 : Int32)), .val (.int v1), .val (.int (0 : Int32)), .val (.int (0 : Int32))]) d4_18 (pc' := 19) rfl rfl ?_
  refine go_iconst C (0 : Int32) d4_19 (pc' := 20) rfl (by decide) ?_
  refine go_istore C (Ls' := #[.val (.ref a), .val (.int (1 : Int32)), .val (.int (1 : Int32)), .val (.int v1), .val (.int (0 : Int32)), .val (.int (0 : Int32))]) d4_20 (pc' := 22) rfl rfl ?_
  refine go_iconst C (0 : Int32) d4_22 (pc' := 23) rfl (by decide) ?_
  refine go_istore C (Ls' := #[.val (.ref a), .val (.int (1 : Int32)), .val (.int (1 : Int32)), .val (.int v1), .val (.int (0 : Int32)), .val (.int (0 : Int32))]) d4_23 (pc' := 25) rfl rfl ?_
  refine go_iload C d4_25 (pc' := 27) rfl rfl ?_
  refine go_iloadN C d4_27 (pc' := 28) rfl rfl ?_
  refine go_icmp C (0 : Int) (1 : Int) (by decide) (by decide) d4_28 (by decide) (pc' := 60) (by decide) (pcN := 31) rfl (fun (c_13 : ¬ (0 : Int) < (1 : Int)) => by omega) (fun (c_13 : (0 : Int) < (1 : Int)) => ?_)
  refine go_iload C d4_31 (pc' := 33) rfl rfl ?_
  refine go_if0 C (0 : Int) (by decide) d4_33 (by decide) (pc' := 60) (by decide) (pcN := 36) rfl (fun (c_14 : ¬ (0 : Int) = 0) => by omega) (fun (c_14 : (0 : Int) = 0) => ?_)
  refine go_aloadN C d4_36 (pc' := 37) rfl rfl rfl ?_
  refine go_getfield C (wd hw 14 rfl) F_8 d4_37 (pc' := 40) rfl ?_
  refine go_iload C d4_40 (pc' := 42) rfl rfl ?_
  refine go_iaload C A_11 0 (.int v0) (by decide) rfl d4_42 (pc' := 43) rfl ?_
  refine go_iloadN C d4_43 (pc' := 44) rfl rfl ?_
  refine go_icmp C v0.toInt v1.toInt rfl rfl d4_44 (by decide) (pc' := 51) (by decide) (pcN := 47) rfl (fun (c_15 : ¬ v0.toInt = v1.toInt) => ?_) (fun (c_15 : v0.toInt = v1.toInt) => by omega)
  refine go_iconst C (0 : Int32) d4_51 (pc' := 52) rfl (by decide) ?_
  refine go_istore C (Ls' := #[.val (.ref a), .val (.int (1 : Int32)), .val (.int (1 : Int32)), .val (.int v1), .val (.int (0 : Int32)), .val (.int (0 : Int32))]) d4_52 (pc' := 54) rfl rfl ?_
  refine go_iinc C (Ls' := #[.val (.ref a), .val (.int (1 : Int32)), .val (.int (1 : Int32)), .val (.int v1), .val (.int (0 : Int32)), .val (.int ((0 : Int32) + (1 : Int32)))]) (1 : Int32) d4_54 (pc' := 57) rfl (by decide) rfl rfl ?_
  rw [(by decide : (0 : Int32) + (1 : Int32) = (1 : Int32))]
  refine go_goto C d4_57 (by decide) (pc' := 25) (by decide) ?_
  refine go_iload C d4_25 (pc' := 27) rfl rfl ?_
  refine go_iloadN C d4_27 (pc' := 28) rfl rfl ?_
  refine go_icmp C (1 : Int) (1 : Int) (by decide) (by decide) d4_28 (by decide) (pc' := 60) (by decide) (pcN := 31) rfl (fun (c_16 : ¬ (1 : Int) < (1 : Int)) => ?_) (fun (c_16 : (1 : Int) < (1 : Int)) => by omega)
  refine go_iload C d4_60 (pc' := 62) rfl rfl ?_
  refine go_if0 C (0 : Int) (by decide) d4_62 (by decide) (pc' := 75) (by decide) (pcN := 65) rfl (fun (c_17 : ¬ (0 : Int) = 0) => by omega) (fun (c_17 : (0 : Int) = 0) => ?_)
  refine go_aloadN C d4_65 (pc' := 66) rfl rfl rfl ?_
  refine go_getfield C (wd hw 14 rfl) F_8 d4_66 (pc' := 69) rfl ?_
  refine go_iloadN C d4_69 (pc' := 70) rfl rfl ?_
  refine go_iinc C (Ls' := #[.val (.ref a), .val (.int ((1 : Int32) + (1 : Int32))), .val (.int (1 : Int32)), .val (.int v1), .val (.int (0 : Int32)), .val (.int (1 : Int32))]) (1 : Int32) d4_70 (pc' := 73) rfl (by decide) rfl rfl ?_
  rw [(by decide : (1 : Int32) + (1 : Int32) = (2 : Int32))]
  refine go_iloadN C d4_73 (pc' := 74) rfl rfl ?_
  refine go_iastore C A_11 1 (by decide) (show 1 < 8 from by decide) gr d4_74 (pc' := 75) rfl ?_
  intro h_18 W_19 A_20
  have F_22 := Fld.other W_19 F_8 (Or.inl (own_ne_arr E_10 (wd hw 5 rfl) A_11))
  have F_23 := Fld.other W_19 F_9 (Or.inl (own_ne_arr E_10 (wd hw 5 rfl) A_11))
  have E_24 := Exa.wr W_19 E_10
  have A_25 : Av Z h_18 r .int [.int v0, .int v1, .int (0 : Int32), .int (0 : Int32), .int (0 : Int32), .int (0 : Int32), .int (0 : Int32), .int (0 : Int32)] := A_20
  refine go_iinc C (Ls' := #[.val (.ref a), .val (.int (2 : Int32)), .val (.int ((1 : Int32) + (1 : Int32))), .val (.int v1), .val (.int (0 : Int32)), .val (.int (1 : Int32))]) (1 : Int32) d4_75 (pc' := 78) rfl (by decide) rfl rfl ?_
  rw [(by decide : (1 : Int32) + (1 : Int32) = (2 : Int32))]
  refine go_goto C d4_78 (by decide) (pc' := 4) (by decide) ?_
  refine go_iloadN C d4_4 (pc' := 5) rfl rfl ?_
  refine go_aloadN C d4_5 (pc' := 6) rfl rfl rfl ?_
  refine go_getfield C (wd hw 21 rfl) F_23 d4_6 (pc' := 9) rfl ?_
  refine go_icmp C (2 : Int) (2 : Int) (by decide) (by decide) d4_9 (by decide) (pc' := 81) (by decide) (pcN := 12) rfl (fun (c_26 : ¬ (2 : Int) < (2 : Int)) => ?_) (fun (c_26 : (2 : Int) < (2 : Int)) => by omega)
  refine go_aloadN C d4_81 (pc' := 82) rfl rfl rfl ?_
  refine go_iloadN C d4_82 (pc' := 83) rfl rfl ?_
  refine go_putfield C (wd hw 21 rfl) F_23 E_24 (Or.inl (wd hw 22 rfl)) (wd hw 5 rfl) (ty := .int) (by decide) rfl rfl ga d4_83 (pc' := 86) rfl ?_
  intro h_27 W_28
  have F_29 := Fld.other W_28 F_22 (Or.inr (slot_ne (a0 := a0) (Or.inl (wd hw 15 rfl)) (Or.inl (wd hw 22 rfl)) (by decide) (t := (.array .int)) (t' := .int) (by decide) (by decide)))
  have F_30 := Fld.same W_28 F_23
  have E_31 := Exa.wr W_28 E_24
  have A_32 := Av.other A_25 W_28 (Ne.symm (own_ne_arr E_24 (wd hw 5 rfl) A_25))
  refine go_return C rfl d4_86 (by decide) (by decide) ?_
  exact ⟨rfl, E_31, F_29, F_30, A_32⟩
set_option maxRecDepth 65536 in
set_option maxHeartbeats 40000000 in
theorem sat_rd2f (l : Launch) (Z : State) (a0 : Array Value) (hw : ∀ d ∈ tables_1, d.before a0 Z = true) (a r : Addr) (v0 v1 : Int32) (h0 : Heap) (n0 : Nat) (hf1 : v1.toInt = v0.toInt) (E1 : Exa Z h0 a "com/example/inevitable_path/inevitablepath/smv/IntList") (F1 : Fld Z h0 a "com/example/inevitable_path/inevitablepath/smv/IntList" "values" "[I" (.ref r)) (F2 : Fld Z h0 a "com/example/inevitable_path/inevitablepath/smv/IntList" "size" "I" (.int (2 : Int32))) (A1 : Av Z h0 r .int [.int v0, .int v1, .int (0 : Int32), .int (0 : Int32), .int (0 : Int32), .int (0 : Int32), .int (0 : Int32), .int (0 : Int32)]) (ga : n0 ≤ a) (gr : n0 ≤ r) :
    Sat l Z (⟨"com/example/inevitable_path/inevitablepath/smv/IntList", "removeDuplicates", "()V"⟩ : MethodName) prog_60_method_10_code 6 none ({ frames := 0, cells := 0, slots := 0, locals := 0 } : Room) [.ref a] h0 n0 (RN fun h => Exa Z h a "com/example/inevitable_path/inevitablepath/smv/IntList" ∧ Fld Z h a "com/example/inevitable_path/inevitablepath/smv/IntList" "values" "[I" (.ref r) ∧ Fld Z h a "com/example/inevitable_path/inevitablepath/smv/IntList" "size" "I" (.int (1 : Int32)) ∧ Av Z h r .int [.int v0, .int v1, .int (0 : Int32), .int (0 : Int32), .int (0 : Int32), .int (0 : Int32), .int (0 : Int32), .int (0 : Int32)]) := by
  refine sat_of (own := "com/example/inevitable_path/inevitablepath/smv/IntList") (nm := "removeDuplicates") rfl rfl (plainFor_of_name pn_1) #[.val (.ref a), .unset, .unset, .unset, .unset, .unset] (fun m => by first | (simp [entryFrame, mkF, argsToLocals, Value.category, maxLocals]; done) | rfl) ?_
  intro p e s m below meth c C
  refine go_iconst C (0 : Int32) d4_0 (pc' := 1) rfl (by decide) ?_
  refine go_istoreN C (Ls' := #[.val (.ref a), .val (.int (0 : Int32)), .unset, .unset, .unset, .unset]) d4_1 (pc' := 2) rfl rfl ?_
  refine go_iconst C (0 : Int32) d4_2 (pc' := 3) rfl (by decide) ?_
  refine go_istoreN C (Ls' := #[.val (.ref a), .val (.int (0 : Int32)), .val (.int (0 : Int32)), .unset, .unset, .unset]) d4_3 (pc' := 4) rfl rfl ?_
  refine go_iloadN C d4_4 (pc' := 5) rfl rfl ?_
  refine go_aloadN C d4_5 (pc' := 6) rfl rfl rfl ?_
  refine go_getfield C (wd hw 21 rfl) F2 d4_6 (pc' := 9) rfl ?_
  refine go_icmp C (0 : Int) (2 : Int) (by decide) (by decide) d4_9 (by decide) (pc' := 81) (by decide) (pcN := 12) rfl (fun (c_1 : ¬ (0 : Int) < (2 : Int)) => by omega) (fun (c_1 : (0 : Int) < (2 : Int)) => ?_)
  refine go_aloadN C d4_12 (pc' := 13) rfl rfl rfl ?_
  refine go_getfield C (wd hw 14 rfl) F1 d4_13 (pc' := 16) rfl ?_
  refine go_iloadN C d4_16 (pc' := 17) rfl rfl ?_
  refine go_iaload C A1 0 (.int v0) (by decide) rfl d4_17 (pc' := 18) rfl ?_
  refine go_istoreN C (Ls' := #[.val (.ref a), .val (.int (0 : Int32)), .val (.int (0 : Int32)), .val (.int v0), .unset, .unset]) d4_18 (pc' := 19) rfl rfl ?_
  refine go_iconst C (0 : Int32) d4_19 (pc' := 20) rfl (by decide) ?_
  refine go_istore C (Ls' := #[.val (.ref a), .val (.int (0 : Int32)), .val (.int (0 : Int32)), .val (.int v0), .val (.int (0 : Int32)), .unset]) d4_20 (pc' := 22) rfl rfl ?_
  refine go_iconst C (0 : Int32) d4_22 (pc' := 23) rfl (by decide) ?_
  refine go_istore C (Ls' := #[.val (.ref a), .val (.int (0 : Int32)), .val (.int (0 : Int32)), .val (.int v0), .val (.int (0 : Int32)), .val (.int (0 : Int32))]) d4_23 (pc' := 25) rfl rfl ?_
  refine go_iload C d4_25 (pc' := 27) rfl rfl ?_
  refine go_iloadN C d4_27 (pc' := 28) rfl rfl ?_
  refine go_icmp C (0 : Int) (0 : Int) (by decide) (by decide) d4_28 (by decide) (pc' := 60) (by decide) (pcN := 31) rfl (fun (c_2 : ¬ (0 : Int) < (0 : Int)) => ?_) (fun (c_2 : (0 : Int) < (0 : Int)) => by omega)
  refine go_iload C d4_60 (pc' := 62) rfl rfl ?_
  refine go_if0 C (0 : Int) (by decide) d4_62 (by decide) (pc' := 75) (by decide) (pcN := 65) rfl (fun (c_3 : ¬ (0 : Int) = 0) => by omega) (fun (c_3 : (0 : Int) = 0) => ?_)
  refine go_aloadN C d4_65 (pc' := 66) rfl rfl rfl ?_
  refine go_getfield C (wd hw 14 rfl) F1 d4_66 (pc' := 69) rfl ?_
  refine go_iloadN C d4_69 (pc' := 70) rfl rfl ?_
  refine go_iinc C (Ls' := #[.val (.ref a), .val (.int ((0 : Int32) + (1 : Int32))), .val (.int (0 : Int32)), .val (.int v0), .val (.int (0 : Int32)), .val (.int (0 : Int32))]) (1 : Int32) d4_70 (pc' := 73) rfl (by decide) rfl rfl ?_
  rw [(by decide : (0 : Int32) + (1 : Int32) = (1 : Int32))]
  refine go_iloadN C d4_73 (pc' := 74) rfl rfl ?_
  refine go_iastore C A1 0 (by decide) (show 0 < 8 from by decide) gr d4_74 (pc' := 75) rfl ?_
  intro h_4 W_5 A_6
  have F_8 := Fld.other W_5 F1 (Or.inl (own_ne_arr E1 (wd hw 5 rfl) A1))
  have F_9 := Fld.other W_5 F2 (Or.inl (own_ne_arr E1 (wd hw 5 rfl) A1))
  have E_10 := Exa.wr W_5 E1
  have A_11 : Av Z h_4 r .int [.int v0, .int v1, .int (0 : Int32), .int (0 : Int32), .int (0 : Int32), .int (0 : Int32), .int (0 : Int32), .int (0 : Int32)] := A_6
  refine go_iinc C (Ls' := #[.val (.ref a), .val (.int (1 : Int32)), .val (.int ((0 : Int32) + (1 : Int32))), .val (.int v0), .val (.int (0 : Int32)), .val (.int (0 : Int32))]) (1 : Int32) d4_75 (pc' := 78) rfl (by decide) rfl rfl ?_
  rw [(by decide : (0 : Int32) + (1 : Int32) = (1 : Int32))]
  refine go_goto C d4_78 (by decide) (pc' := 4) (by decide) ?_
  refine go_iloadN C d4_4 (pc' := 5) rfl rfl ?_
  refine go_aloadN C d4_5 (pc' := 6) rfl rfl rfl ?_
  refine go_getfield C (wd hw 21 rfl) F_9 d4_6 (pc' := 9) rfl ?_
  refine go_icmp C (1 : Int) (2 : Int) (by decide) (by decide) d4_9 (by decide) (pc' := 81) (by decide) (pcN := 12) rfl (fun (c_12 : ¬ (1 : Int) < (2 : Int)) => by omega) (fun (c_12 : (1 : Int) < (2 : Int)) => ?_)
  refine go_aloadN C d4_12 (pc' := 13) rfl rfl rfl ?_
  refine go_getfield C (wd hw 14 rfl) F_8 d4_13 (pc' := 16) rfl ?_
  refine go_iloadN C d4_16 (pc' := 17) rfl rfl ?_
  refine go_iaload C A_11 1 (.int v1) (by decide) rfl d4_17 (pc' := 18) rfl ?_
  refine go_istoreN C (Ls' := #[.val (.ref a), .val (.int (1 : Int32)), .val (.int (1 : Int32)), .val (.int v1), .val (.int (0 : Int32)), .val (.int (0 : Int32))]) d4_18 (pc' := 19) rfl rfl ?_
  refine go_iconst C (0 : Int32) d4_19 (pc' := 20) rfl (by decide) ?_
  refine go_istore C (Ls' := #[.val (.ref a), .val (.int (1 : Int32)), .val (.int (1 : Int32)), .val (.int v1), .val (.int (0 : Int32)), .val (.int (0 : Int32))]) d4_20 (pc' := 22) rfl rfl ?_
  refine go_iconst C (0 : Int32) d4_22 (pc' := 23) rfl (by decide) ?_
  refine go_istore C (Ls' := #[.val (.ref a), .val (.int (1 : Int32)), .val (.int (1 : Int32)), .val (.int v1), .val (.int (0 : Int32)), .val (.int (0 : Int32))]) d4_23 (pc' := 25) rfl rfl ?_
  refine go_iload C d4_25 (pc' := 27) rfl rfl ?_
  refine go_iloadN C d4_27 (pc' := 28) rfl rfl ?_
  refine go_icmp C (0 : Int) (1 : Int) (by decide) (by decide) d4_28 (by decide) (pc' := 60) (by decide) (pcN := 31) rfl (fun (c_13 : ¬ (0 : Int) < (1 : Int)) => by omega) (fun (c_13 : (0 : Int) < (1 : Int)) => ?_)
  refine go_iload C d4_31 (pc' := 33) rfl rfl ?_
  refine go_if0 C (0 : Int) (by decide) d4_33 (by decide) (pc' := 60) (by decide) (pcN := 36) rfl (fun (c_14 : ¬ (0 : Int) = 0) => by omega) (fun (c_14 : (0 : Int) = 0) => ?_)
  refine go_aloadN C d4_36 (pc' := 37) rfl rfl rfl ?_
  refine go_getfield C (wd hw 14 rfl) F_8 d4_37 (pc' := 40) rfl ?_
  refine go_iload C d4_40 (pc' := 42) rfl rfl ?_
  refine go_iaload C A_11 0 (.int v0) (by decide) rfl d4_42 (pc' := 43) rfl ?_
  refine go_iloadN C d4_43 (pc' := 44) rfl rfl ?_
  refine go_icmp C v0.toInt v1.toInt rfl rfl d4_44 (by decide) (pc' := 51) (by decide) (pcN := 47) rfl (fun (c_15 : ¬ v0.toInt = v1.toInt) => by omega) (fun (c_15 : v0.toInt = v1.toInt) => ?_)
  refine go_iconst C (1 : Int32) d4_47 (pc' := 48) rfl (by decide) ?_
  refine go_goto C d4_48 (by decide) (pc' := 52) (by decide) ?_
  refine go_istore C (Ls' := #[.val (.ref a), .val (.int (1 : Int32)), .val (.int (1 : Int32)), .val (.int v1), .val (.int (1 : Int32)), .val (.int (0 : Int32))]) d4_52 (pc' := 54) rfl rfl ?_
  refine go_iinc C (Ls' := #[.val (.ref a), .val (.int (1 : Int32)), .val (.int (1 : Int32)), .val (.int v1), .val (.int (1 : Int32)), .val (.int ((0 : Int32) + (1 : Int32)))]) (1 : Int32) d4_54 (pc' := 57) rfl (by decide) rfl rfl ?_
  rw [(by decide : (0 : Int32) + (1 : Int32) = (1 : Int32))]
  refine go_goto C d4_57 (by decide) (pc' := 25) (by decide) ?_
  refine go_iload C d4_25 (pc' := 27) rfl rfl ?_
  refine go_iloadN C d4_27 (pc' := 28) rfl rfl ?_
  refine go_icmp C (1 : Int) (1 : Int) (by decide) (by decide) d4_28 (by decide) (pc' := 60) (by decide) (pcN := 31) rfl (fun (c_16 : ¬ (1 : Int) < (1 : Int)) => ?_) (fun (c_16 : (1 : Int) < (1 : Int)) => by omega)
  refine go_iload C d4_60 (pc' := 62) rfl rfl ?_
  refine go_if0 C (1 : Int) (by decide) d4_62 (by decide) (pc' := 75) (by decide) (pcN := 65) rfl (fun (c_17 : ¬ (1 : Int) = 0) => ?_) (fun (c_17 : (1 : Int) = 0) => by omega)
  refine go_iinc C (Ls' := #[.val (.ref a), .val (.int (1 : Int32)), .val (.int ((1 : Int32) + (1 : Int32))), .val (.int v1), .val (.int (1 : Int32)), .val (.int (1 : Int32))]) (1 : Int32) d4_75 (pc' := 78) rfl (by decide) rfl rfl ?_
  rw [(by decide : (1 : Int32) + (1 : Int32) = (2 : Int32))]
  refine go_goto C d4_78 (by decide) (pc' := 4) (by decide) ?_
  refine go_iloadN C d4_4 (pc' := 5) rfl rfl ?_
  refine go_aloadN C d4_5 (pc' := 6) rfl rfl rfl ?_
  refine go_getfield C (wd hw 21 rfl) F_9 d4_6 (pc' := 9) rfl ?_
  refine go_icmp C (2 : Int) (2 : Int) (by decide) (by decide) d4_9 (by decide) (pc' := 81) (by decide) (pcN := 12) rfl (fun (c_18 : ¬ (2 : Int) < (2 : Int)) => ?_) (fun (c_18 : (2 : Int) < (2 : Int)) => by omega)
  refine go_aloadN C d4_81 (pc' := 82) rfl rfl rfl ?_
  refine go_iloadN C d4_82 (pc' := 83) rfl rfl ?_
  refine go_putfield C (wd hw 21 rfl) F_9 E_10 (Or.inl (wd hw 22 rfl)) (wd hw 5 rfl) (ty := .int) (by decide) rfl rfl ga d4_83 (pc' := 86) rfl ?_
  intro h_19 W_20
  have F_21 := Fld.other W_20 F_8 (Or.inr (slot_ne (a0 := a0) (Or.inl (wd hw 15 rfl)) (Or.inl (wd hw 22 rfl)) (by decide) (t := (.array .int)) (t' := .int) (by decide) (by decide)))
  have F_22 := Fld.same W_20 F_9
  have E_23 := Exa.wr W_20 E_10
  have A_24 := Av.other A_11 W_20 (Ne.symm (own_ne_arr E_10 (wd hw 5 rfl) A_11))
  refine go_return C rfl d4_86 (by decide) (by decide) ?_
  exact ⟨rfl, E_23, F_21, F_22, A_24⟩
set_option maxRecDepth 65536 in
set_option maxHeartbeats 40000000 in
theorem sat_rd3tt (l : Launch) (Z : State) (a0 : Array Value) (hw : ∀ d ∈ tables_1, d.before a0 Z = true) (a r : Addr) (v0 v1 v2 : Int32) (h0 : Heap) (n0 : Nat) (hf1 : ¬ v1.toInt = v0.toInt) (hf2 : ¬ v2.toInt = v0.toInt ∧ ¬ v2.toInt = v1.toInt) (E1 : Exa Z h0 a "com/example/inevitable_path/inevitablepath/smv/IntList") (F1 : Fld Z h0 a "com/example/inevitable_path/inevitablepath/smv/IntList" "values" "[I" (.ref r)) (F2 : Fld Z h0 a "com/example/inevitable_path/inevitablepath/smv/IntList" "size" "I" (.int (3 : Int32))) (A1 : Av Z h0 r .int [.int v0, .int v1, .int v2, .int (0 : Int32), .int (0 : Int32), .int (0 : Int32), .int (0 : Int32), .int (0 : Int32)]) (ga : n0 ≤ a) (gr : n0 ≤ r) :
    Sat l Z (⟨"com/example/inevitable_path/inevitablepath/smv/IntList", "removeDuplicates", "()V"⟩ : MethodName) prog_60_method_10_code 6 none ({ frames := 0, cells := 0, slots := 0, locals := 0 } : Room) [.ref a] h0 n0 (RN fun h => Exa Z h a "com/example/inevitable_path/inevitablepath/smv/IntList" ∧ Fld Z h a "com/example/inevitable_path/inevitablepath/smv/IntList" "values" "[I" (.ref r) ∧ Fld Z h a "com/example/inevitable_path/inevitablepath/smv/IntList" "size" "I" (.int (3 : Int32)) ∧ Av Z h r .int [.int v0, .int v1, .int v2, .int (0 : Int32), .int (0 : Int32), .int (0 : Int32), .int (0 : Int32), .int (0 : Int32)]) := by
  refine sat_of (own := "com/example/inevitable_path/inevitablepath/smv/IntList") (nm := "removeDuplicates") rfl rfl (plainFor_of_name pn_1) #[.val (.ref a), .unset, .unset, .unset, .unset, .unset] (fun m => by first | (simp [entryFrame, mkF, argsToLocals, Value.category, maxLocals]; done) | rfl) ?_
  intro p e s m below meth c C
  refine go_iconst C (0 : Int32) d4_0 (pc' := 1) rfl (by decide) ?_
  refine go_istoreN C (Ls' := #[.val (.ref a), .val (.int (0 : Int32)), .unset, .unset, .unset, .unset]) d4_1 (pc' := 2) rfl rfl ?_
  refine go_iconst C (0 : Int32) d4_2 (pc' := 3) rfl (by decide) ?_
  refine go_istoreN C (Ls' := #[.val (.ref a), .val (.int (0 : Int32)), .val (.int (0 : Int32)), .unset, .unset, .unset]) d4_3 (pc' := 4) rfl rfl ?_
  refine go_iloadN C d4_4 (pc' := 5) rfl rfl ?_
  refine go_aloadN C d4_5 (pc' := 6) rfl rfl rfl ?_
  refine go_getfield C (wd hw 21 rfl) F2 d4_6 (pc' := 9) rfl ?_
  refine go_icmp C (0 : Int) (3 : Int) (by decide) (by decide) d4_9 (by decide) (pc' := 81) (by decide) (pcN := 12) rfl (fun (c_1 : ¬ (0 : Int) < (3 : Int)) => by omega) (fun (c_1 : (0 : Int) < (3 : Int)) => ?_)
  refine go_aloadN C d4_12 (pc' := 13) rfl rfl rfl ?_
  refine go_getfield C (wd hw 14 rfl) F1 d4_13 (pc' := 16) rfl ?_
  refine go_iloadN C d4_16 (pc' := 17) rfl rfl ?_
  refine go_iaload C A1 0 (.int v0) (by decide) rfl d4_17 (pc' := 18) rfl ?_
  refine go_istoreN C (Ls' := #[.val (.ref a), .val (.int (0 : Int32)), .val (.int (0 : Int32)), .val (.int v0), .unset, .unset]) d4_18 (pc' := 19) rfl rfl ?_
  refine go_iconst C (0 : Int32) d4_19 (pc' := 20) rfl (by decide) ?_
  refine go_istore C (Ls' := #[.val (.ref a), .val (.int (0 : Int32)), .val (.int (0 : Int32)), .val (.int v0), .val (.int (0 : Int32)), .unset]) d4_20 (pc' := 22) rfl rfl ?_
  refine go_iconst C (0 : Int32) d4_22 (pc' := 23) rfl (by decide) ?_
  refine go_istore C (Ls' := #[.val (.ref a), .val (.int (0 : Int32)), .val (.int (0 : Int32)), .val (.int v0), .val (.int (0 : Int32)), .val (.int (0 : Int32))]) d4_23 (pc' := 25) rfl rfl ?_
  refine go_iload C d4_25 (pc' := 27) rfl rfl ?_
  refine go_iloadN C d4_27 (pc' := 28) rfl rfl ?_
  refine go_icmp C (0 : Int) (0 : Int) (by decide) (by decide) d4_28 (by decide) (pc' := 60) (by decide) (pcN := 31) rfl (fun (c_2 : ¬ (0 : Int) < (0 : Int)) => ?_) (fun (c_2 : (0 : Int) < (0 : Int)) => by omega)
  refine go_iload C d4_60 (pc' := 62) rfl rfl ?_
  refine go_if0 C (0 : Int) (by decide) d4_62 (by decide) (pc' := 75) (by decide) (pcN := 65) rfl (fun (c_3 : ¬ (0 : Int) = 0) => by omega) (fun (c_3 : (0 : Int) = 0) => ?_)
  refine go_aloadN C d4_65 (pc' := 66) rfl rfl rfl ?_
  refine go_getfield C (wd hw 14 rfl) F1 d4_66 (pc' := 69) rfl ?_
  refine go_iloadN C d4_69 (pc' := 70) rfl rfl ?_
  refine go_iinc C (Ls' := #[.val (.ref a), .val (.int ((0 : Int32) + (1 : Int32))), .val (.int (0 : Int32)), .val (.int v0), .val (.int (0 : Int32)), .val (.int (0 : Int32))]) (1 : Int32) d4_70 (pc' := 73) rfl (by decide) rfl rfl ?_
  rw [(by decide : (0 : Int32) + (1 : Int32) = (1 : Int32))]
  refine go_iloadN C d4_73 (pc' := 74) rfl rfl ?_
  refine go_iastore C A1 0 (by decide) (show 0 < 8 from by decide) gr d4_74 (pc' := 75) rfl ?_
  intro h_4 W_5 A_6
  have F_8 := Fld.other W_5 F1 (Or.inl (own_ne_arr E1 (wd hw 5 rfl) A1))
  have F_9 := Fld.other W_5 F2 (Or.inl (own_ne_arr E1 (wd hw 5 rfl) A1))
  have E_10 := Exa.wr W_5 E1
  have A_11 : Av Z h_4 r .int [.int v0, .int v1, .int v2, .int (0 : Int32), .int (0 : Int32), .int (0 : Int32), .int (0 : Int32), .int (0 : Int32)] := A_6
  refine go_iinc C (Ls' := #[.val (.ref a), .val (.int (1 : Int32)), .val (.int ((0 : Int32) + (1 : Int32))), .val (.int v0), .val (.int (0 : Int32)), .val (.int (0 : Int32))]) (1 : Int32) d4_75 (pc' := 78) rfl (by decide) rfl rfl ?_
  rw [(by decide : (0 : Int32) + (1 : Int32) = (1 : Int32))]
  refine go_goto C d4_78 (by decide) (pc' := 4) (by decide) ?_
  refine go_iloadN C d4_4 (pc' := 5) rfl rfl ?_
  refine go_aloadN C d4_5 (pc' := 6) rfl rfl rfl ?_
  refine go_getfield C (wd hw 21 rfl) F_9 d4_6 (pc' := 9) rfl ?_
  refine go_icmp C (1 : Int) (3 : Int) (by decide) (by decide) d4_9 (by decide) (pc' := 81) (by decide) (pcN := 12) rfl (fun (c_12 : ¬ (1 : Int) < (3 : Int)) => by omega) (fun (c_12 : (1 : Int) < (3 : Int)) => ?_)
  refine go_aloadN C d4_12 (pc' := 13) rfl rfl rfl ?_
  refine go_getfield C (wd hw 14 rfl) F_8 d4_13 (pc' := 16) rfl ?_
  refine go_iloadN C d4_16 (pc' := 17) rfl rfl ?_
  refine go_iaload C A_11 1 (.int v1) (by decide) rfl d4_17 (pc' := 18) rfl ?_
  refine go_istoreN C (Ls' := #[.val (.ref a), .val (.int (1 : Int32)), .val (.int (1 : Int32)), .val (.int v1), .val (.int (0 : Int32)), .val (.int (0 : Int32))]) d4_18 (pc' := 19) rfl rfl ?_
  refine go_iconst C (0 : Int32) d4_19 (pc' := 20) rfl (by decide) ?_
  refine go_istore C (Ls' := #[.val (.ref a), .val (.int (1 : Int32)), .val (.int (1 : Int32)), .val (.int v1), .val (.int (0 : Int32)), .val (.int (0 : Int32))]) d4_20 (pc' := 22) rfl rfl ?_
  refine go_iconst C (0 : Int32) d4_22 (pc' := 23) rfl (by decide) ?_
  refine go_istore C (Ls' := #[.val (.ref a), .val (.int (1 : Int32)), .val (.int (1 : Int32)), .val (.int v1), .val (.int (0 : Int32)), .val (.int (0 : Int32))]) d4_23 (pc' := 25) rfl rfl ?_
  refine go_iload C d4_25 (pc' := 27) rfl rfl ?_
  refine go_iloadN C d4_27 (pc' := 28) rfl rfl ?_
  refine go_icmp C (0 : Int) (1 : Int) (by decide) (by decide) d4_28 (by decide) (pc' := 60) (by decide) (pcN := 31) rfl (fun (c_13 : ¬ (0 : Int) < (1 : Int)) => by omega) (fun (c_13 : (0 : Int) < (1 : Int)) => ?_)
  refine go_iload C d4_31 (pc' := 33) rfl rfl ?_
  refine go_if0 C (0 : Int) (by decide) d4_33 (by decide) (pc' := 60) (by decide) (pcN := 36) rfl (fun (c_14 : ¬ (0 : Int) = 0) => by omega) (fun (c_14 : (0 : Int) = 0) => ?_)
  refine go_aloadN C d4_36 (pc' := 37) rfl rfl rfl ?_
  refine go_getfield C (wd hw 14 rfl) F_8 d4_37 (pc' := 40) rfl ?_
  refine go_iload C d4_40 (pc' := 42) rfl rfl ?_
  refine go_iaload C A_11 0 (.int v0) (by decide) rfl d4_42 (pc' := 43) rfl ?_
  refine go_iloadN C d4_43 (pc' := 44) rfl rfl ?_
  refine go_icmp C v0.toInt v1.toInt rfl rfl d4_44 (by decide) (pc' := 51) (by decide) (pcN := 47) rfl (fun (c_15 : ¬ v0.toInt = v1.toInt) => ?_) (fun (c_15 : v0.toInt = v1.toInt) => by omega)
  refine go_iconst C (0 : Int32) d4_51 (pc' := 52) rfl (by decide) ?_
  refine go_istore C (Ls' := #[.val (.ref a), .val (.int (1 : Int32)), .val (.int (1 : Int32)), .val (.int v1), .val (.int (0 : Int32)), .val (.int (0 : Int32))]) d4_52 (pc' := 54) rfl rfl ?_
  refine go_iinc C (Ls' := #[.val (.ref a), .val (.int (1 : Int32)), .val (.int (1 : Int32)), .val (.int v1), .val (.int (0 : Int32)), .val (.int ((0 : Int32) + (1 : Int32)))]) (1 : Int32) d4_54 (pc' := 57) rfl (by decide) rfl rfl ?_
  rw [(by decide : (0 : Int32) + (1 : Int32) = (1 : Int32))]
  refine go_goto C d4_57 (by decide) (pc' := 25) (by decide) ?_
  refine go_iload C d4_25 (pc' := 27) rfl rfl ?_
  refine go_iloadN C d4_27 (pc' := 28) rfl rfl ?_
  refine go_icmp C (1 : Int) (1 : Int) (by decide) (by decide) d4_28 (by decide) (pc' := 60) (by decide) (pcN := 31) rfl (fun (c_16 : ¬ (1 : Int) < (1 : Int)) => ?_) (fun (c_16 : (1 : Int) < (1 : Int)) => by omega)
  refine go_iload C d4_60 (pc' := 62) rfl rfl ?_
  refine go_if0 C (0 : Int) (by decide) d4_62 (by decide) (pc' := 75) (by decide) (pcN := 65) rfl (fun (c_17 : ¬ (0 : Int) = 0) => by omega) (fun (c_17 : (0 : Int) = 0) => ?_)
  refine go_aloadN C d4_65 (pc' := 66) rfl rfl rfl ?_
  refine go_getfield C (wd hw 14 rfl) F_8 d4_66 (pc' := 69) rfl ?_
  refine go_iloadN C d4_69 (pc' := 70) rfl rfl ?_
  refine go_iinc C (Ls' := #[.val (.ref a), .val (.int ((1 : Int32) + (1 : Int32))), .val (.int (1 : Int32)), .val (.int v1), .val (.int (0 : Int32)), .val (.int (1 : Int32))]) (1 : Int32) d4_70 (pc' := 73) rfl (by decide) rfl rfl ?_
  rw [(by decide : (1 : Int32) + (1 : Int32) = (2 : Int32))]
  refine go_iloadN C d4_73 (pc' := 74) rfl rfl ?_
  refine go_iastore C A_11 1 (by decide) (show 1 < 8 from by decide) gr d4_74 (pc' := 75) rfl ?_
  intro h_18 W_19 A_20
  have F_22 := Fld.other W_19 F_8 (Or.inl (own_ne_arr E_10 (wd hw 5 rfl) A_11))
  have F_23 := Fld.other W_19 F_9 (Or.inl (own_ne_arr E_10 (wd hw 5 rfl) A_11))
  have E_24 := Exa.wr W_19 E_10
  have A_25 : Av Z h_18 r .int [.int v0, .int v1, .int v2, .int (0 : Int32), .int (0 : Int32), .int (0 : Int32), .int (0 : Int32), .int (0 : Int32)] := A_20
  refine go_iinc C (Ls' := #[.val (.ref a), .val (.int (2 : Int32)), .val (.int ((1 : Int32) + (1 : Int32))), .val (.int v1), .val (.int (0 : Int32)), .val (.int (1 : Int32))]) (1 : Int32) d4_75 (pc' := 78) rfl (by decide) rfl rfl ?_
  rw [(by decide : (1 : Int32) + (1 : Int32) = (2 : Int32))]
  refine go_goto C d4_78 (by decide) (pc' := 4) (by decide) ?_
  refine go_iloadN C d4_4 (pc' := 5) rfl rfl ?_
  refine go_aloadN C d4_5 (pc' := 6) rfl rfl rfl ?_
  refine go_getfield C (wd hw 21 rfl) F_23 d4_6 (pc' := 9) rfl ?_
  refine go_icmp C (2 : Int) (3 : Int) (by decide) (by decide) d4_9 (by decide) (pc' := 81) (by decide) (pcN := 12) rfl (fun (c_26 : ¬ (2 : Int) < (3 : Int)) => by omega) (fun (c_26 : (2 : Int) < (3 : Int)) => ?_)
  refine go_aloadN C d4_12 (pc' := 13) rfl rfl rfl ?_
  refine go_getfield C (wd hw 14 rfl) F_22 d4_13 (pc' := 16) rfl ?_
  refine go_iloadN C d4_16 (pc' := 17) rfl rfl ?_
  refine go_iaload C A_25 2 (.int v2) (by decide) rfl d4_17 (pc' := 18) rfl ?_
  refine go_istoreN C (Ls' := #[.val (.ref a), .val (.int (2 : Int32)), .val (.int (2 : Int32)), .val (.int v2), .val (.int (0 : Int32)), .val (.int (1 : Int32))]) d4_18 (pc' := 19) rfl rfl ?_
  refine go_iconst C (0 : Int32) d4_19 (pc' := 20) rfl (by decide) ?_
  refine go_istore C (Ls' := #[.val (.ref a), .val (.int (2 : Int32)), .val (.int (2 : Int32)), .val (.int v2), .val (.int (0 : Int32)), .val (.int (1 : Int32))]) d4_20 (pc' := 22) rfl rfl ?_
  refine go_iconst C (0 : Int32) d4_22 (pc' := 23) rfl (by decide) ?_
  refine go_istore C (Ls' := #[.val (.ref a), .val (.int (2 : Int32)), .val (.int (2 : Int32)), .val (.int v2), .val (.int (0 : Int32)), .val (.int (0 : Int32))]) d4_23 (pc' := 25) rfl rfl ?_
  refine go_iload C d4_25 (pc' := 27) rfl rfl ?_
  refine go_iloadN C d4_27 (pc' := 28) rfl rfl ?_
  refine go_icmp C (0 : Int) (2 : Int) (by decide) (by decide) d4_28 (by decide) (pc' := 60) (by decide) (pcN := 31) rfl (fun (c_27 : ¬ (0 : Int) < (2 : Int)) => by omega) (fun (c_27 : (0 : Int) < (2 : Int)) => ?_)
  refine go_iload C d4_31 (pc' := 33) rfl rfl ?_
  refine go_if0 C (0 : Int) (by decide) d4_33 (by decide) (pc' := 60) (by decide) (pcN := 36) rfl (fun (c_28 : ¬ (0 : Int) = 0) => by omega) (fun (c_28 : (0 : Int) = 0) => ?_)
  refine go_aloadN C d4_36 (pc' := 37) rfl rfl rfl ?_
  refine go_getfield C (wd hw 14 rfl) F_22 d4_37 (pc' := 40) rfl ?_
  refine go_iload C d4_40 (pc' := 42) rfl rfl ?_
  refine go_iaload C A_25 0 (.int v0) (by decide) rfl d4_42 (pc' := 43) rfl ?_
  refine go_iloadN C d4_43 (pc' := 44) rfl rfl ?_
  refine go_icmp C v0.toInt v2.toInt rfl rfl d4_44 (by decide) (pc' := 51) (by decide) (pcN := 47) rfl (fun (c_29 : ¬ v0.toInt = v2.toInt) => ?_) (fun (c_29 : v0.toInt = v2.toInt) => by omega)
  refine go_iconst C (0 : Int32) d4_51 (pc' := 52) rfl (by decide) ?_
  refine go_istore C (Ls' := #[.val (.ref a), .val (.int (2 : Int32)), .val (.int (2 : Int32)), .val (.int v2), .val (.int (0 : Int32)), .val (.int (0 : Int32))]) d4_52 (pc' := 54) rfl rfl ?_
  refine go_iinc C (Ls' := #[.val (.ref a), .val (.int (2 : Int32)), .val (.int (2 : Int32)), .val (.int v2), .val (.int (0 : Int32)), .val (.int ((0 : Int32) + (1 : Int32)))]) (1 : Int32) d4_54 (pc' := 57) rfl (by decide) rfl rfl ?_
  rw [(by decide : (0 : Int32) + (1 : Int32) = (1 : Int32))]
  refine go_goto C d4_57 (by decide) (pc' := 25) (by decide) ?_
  refine go_iload C d4_25 (pc' := 27) rfl rfl ?_
  refine go_iloadN C d4_27 (pc' := 28) rfl rfl ?_
  refine go_icmp C (1 : Int) (2 : Int) (by decide) (by decide) d4_28 (by decide) (pc' := 60) (by decide) (pcN := 31) rfl (fun (c_30 : ¬ (1 : Int) < (2 : Int)) => by omega) (fun (c_30 : (1 : Int) < (2 : Int)) => ?_)
  refine go_iload C d4_31 (pc' := 33) rfl rfl ?_
  refine go_if0 C (0 : Int) (by decide) d4_33 (by decide) (pc' := 60) (by decide) (pcN := 36) rfl (fun (c_31 : ¬ (0 : Int) = 0) => by omega) (fun (c_31 : (0 : Int) = 0) => ?_)
  refine go_aloadN C d4_36 (pc' := 37) rfl rfl rfl ?_
  refine go_getfield C (wd hw 14 rfl) F_22 d4_37 (pc' := 40) rfl ?_
  refine go_iload C d4_40 (pc' := 42) rfl rfl ?_
  refine go_iaload C A_25 1 (.int v1) (by decide) rfl d4_42 (pc' := 43) rfl ?_
  refine go_iloadN C d4_43 (pc' := 44) rfl rfl ?_
  refine go_icmp C v1.toInt v2.toInt rfl rfl d4_44 (by decide) (pc' := 51) (by decide) (pcN := 47) rfl (fun (c_32 : ¬ v1.toInt = v2.toInt) => ?_) (fun (c_32 : v1.toInt = v2.toInt) => by omega)
  refine go_iconst C (0 : Int32) d4_51 (pc' := 52) rfl (by decide) ?_
  refine go_istore C (Ls' := #[.val (.ref a), .val (.int (2 : Int32)), .val (.int (2 : Int32)), .val (.int v2), .val (.int (0 : Int32)), .val (.int (1 : Int32))]) d4_52 (pc' := 54) rfl rfl ?_
  refine go_iinc C (Ls' := #[.val (.ref a), .val (.int (2 : Int32)), .val (.int (2 : Int32)), .val (.int v2), .val (.int (0 : Int32)), .val (.int ((1 : Int32) + (1 : Int32)))]) (1 : Int32) d4_54 (pc' := 57) rfl (by decide) rfl rfl ?_
  rw [(by decide : (1 : Int32) + (1 : Int32) = (2 : Int32))]
  refine go_goto C d4_57 (by decide) (pc' := 25) (by decide) ?_
  refine go_iload C d4_25 (pc' := 27) rfl rfl ?_
  refine go_iloadN C d4_27 (pc' := 28) rfl rfl ?_
  refine go_icmp C (2 : Int) (2 : Int) (by decide) (by decide) d4_28 (by decide) (pc' := 60) (by decide) (pcN := 31) rfl (fun (c_33 : ¬ (2 : Int) < (2 : Int)) => ?_) (fun (c_33 : (2 : Int) < (2 : Int)) => by omega)
  refine go_iload C d4_60 (pc' := 62) rfl rfl ?_
  refine go_if0 C (0 : Int) (by decide) d4_62 (by decide) (pc' := 75) (by decide) (pcN := 65) rfl (fun (c_34 : ¬ (0 : Int) = 0) => by omega) (fun (c_34 : (0 : Int) = 0) => ?_)
  refine go_aloadN C d4_65 (pc' := 66) rfl rfl rfl ?_
  refine go_getfield C (wd hw 14 rfl) F_22 d4_66 (pc' := 69) rfl ?_
  refine go_iloadN C d4_69 (pc' := 70) rfl rfl ?_
  refine go_iinc C (Ls' := #[.val (.ref a), .val (.int ((2 : Int32) + (1 : Int32))), .val (.int (2 : Int32)), .val (.int v2), .val (.int (0 : Int32)), .val (.int (2 : Int32))]) (1 : Int32) d4_70 (pc' := 73) rfl (by decide) rfl rfl ?_
  rw [(by decide : (2 : Int32) + (1 : Int32) = (3 : Int32))]
  refine go_iloadN C d4_73 (pc' := 74) rfl rfl ?_
  refine go_iastore C A_25 2 (by decide) (show 2 < 8 from by decide) gr d4_74 (pc' := 75) rfl ?_
  intro h_35 W_36 A_37
  have F_39 := Fld.other W_36 F_22 (Or.inl (own_ne_arr E_24 (wd hw 5 rfl) A_25))
  have F_40 := Fld.other W_36 F_23 (Or.inl (own_ne_arr E_24 (wd hw 5 rfl) A_25))
  have E_41 := Exa.wr W_36 E_24
  have A_42 : Av Z h_35 r .int [.int v0, .int v1, .int v2, .int (0 : Int32), .int (0 : Int32), .int (0 : Int32), .int (0 : Int32), .int (0 : Int32)] := A_37
  refine go_iinc C (Ls' := #[.val (.ref a), .val (.int (3 : Int32)), .val (.int ((2 : Int32) + (1 : Int32))), .val (.int v2), .val (.int (0 : Int32)), .val (.int (2 : Int32))]) (1 : Int32) d4_75 (pc' := 78) rfl (by decide) rfl rfl ?_
  rw [(by decide : (2 : Int32) + (1 : Int32) = (3 : Int32))]
  refine go_goto C d4_78 (by decide) (pc' := 4) (by decide) ?_
  refine go_iloadN C d4_4 (pc' := 5) rfl rfl ?_
  refine go_aloadN C d4_5 (pc' := 6) rfl rfl rfl ?_
  refine go_getfield C (wd hw 21 rfl) F_40 d4_6 (pc' := 9) rfl ?_
  refine go_icmp C (3 : Int) (3 : Int) (by decide) (by decide) d4_9 (by decide) (pc' := 81) (by decide) (pcN := 12) rfl (fun (c_43 : ¬ (3 : Int) < (3 : Int)) => ?_) (fun (c_43 : (3 : Int) < (3 : Int)) => by omega)
  refine go_aloadN C d4_81 (pc' := 82) rfl rfl rfl ?_
  refine go_iloadN C d4_82 (pc' := 83) rfl rfl ?_
  refine go_putfield C (wd hw 21 rfl) F_40 E_41 (Or.inl (wd hw 22 rfl)) (wd hw 5 rfl) (ty := .int) (by decide) rfl rfl ga d4_83 (pc' := 86) rfl ?_
  intro h_44 W_45
  have F_46 := Fld.other W_45 F_39 (Or.inr (slot_ne (a0 := a0) (Or.inl (wd hw 15 rfl)) (Or.inl (wd hw 22 rfl)) (by decide) (t := (.array .int)) (t' := .int) (by decide) (by decide)))
  have F_47 := Fld.same W_45 F_40
  have E_48 := Exa.wr W_45 E_41
  have A_49 := Av.other A_42 W_45 (Ne.symm (own_ne_arr E_41 (wd hw 5 rfl) A_42))
  refine go_return C rfl d4_86 (by decide) (by decide) ?_
  exact ⟨rfl, E_48, F_46, F_47, A_49⟩
set_option maxRecDepth 65536 in
set_option maxHeartbeats 40000000 in
theorem sat_rd3tf (l : Launch) (Z : State) (a0 : Array Value) (hw : ∀ d ∈ tables_1, d.before a0 Z = true) (a r : Addr) (v0 v1 v2 : Int32) (h0 : Heap) (n0 : Nat) (hf1 : ¬ v1.toInt = v0.toInt) (hf2 : v2.toInt = v0.toInt ∨ v2.toInt = v1.toInt) (E1 : Exa Z h0 a "com/example/inevitable_path/inevitablepath/smv/IntList") (F1 : Fld Z h0 a "com/example/inevitable_path/inevitablepath/smv/IntList" "values" "[I" (.ref r)) (F2 : Fld Z h0 a "com/example/inevitable_path/inevitablepath/smv/IntList" "size" "I" (.int (3 : Int32))) (A1 : Av Z h0 r .int [.int v0, .int v1, .int v2, .int (0 : Int32), .int (0 : Int32), .int (0 : Int32), .int (0 : Int32), .int (0 : Int32)]) (ga : n0 ≤ a) (gr : n0 ≤ r) :
    Sat l Z (⟨"com/example/inevitable_path/inevitablepath/smv/IntList", "removeDuplicates", "()V"⟩ : MethodName) prog_60_method_10_code 6 none ({ frames := 0, cells := 0, slots := 0, locals := 0 } : Room) [.ref a] h0 n0 (RN fun h => Exa Z h a "com/example/inevitable_path/inevitablepath/smv/IntList" ∧ Fld Z h a "com/example/inevitable_path/inevitablepath/smv/IntList" "values" "[I" (.ref r) ∧ Fld Z h a "com/example/inevitable_path/inevitablepath/smv/IntList" "size" "I" (.int (2 : Int32)) ∧ Av Z h r .int [.int v0, .int v1, .int v2, .int (0 : Int32), .int (0 : Int32), .int (0 : Int32), .int (0 : Int32), .int (0 : Int32)]) := by
  refine sat_of (own := "com/example/inevitable_path/inevitablepath/smv/IntList") (nm := "removeDuplicates") rfl rfl (plainFor_of_name pn_1) #[.val (.ref a), .unset, .unset, .unset, .unset, .unset] (fun m => by first | (simp [entryFrame, mkF, argsToLocals, Value.category, maxLocals]; done) | rfl) ?_
  intro p e s m below meth c C
  refine go_iconst C (0 : Int32) d4_0 (pc' := 1) rfl (by decide) ?_
  refine go_istoreN C (Ls' := #[.val (.ref a), .val (.int (0 : Int32)), .unset, .unset, .unset, .unset]) d4_1 (pc' := 2) rfl rfl ?_
  refine go_iconst C (0 : Int32) d4_2 (pc' := 3) rfl (by decide) ?_
  refine go_istoreN C (Ls' := #[.val (.ref a), .val (.int (0 : Int32)), .val (.int (0 : Int32)), .unset, .unset, .unset]) d4_3 (pc' := 4) rfl rfl ?_
  refine go_iloadN C d4_4 (pc' := 5) rfl rfl ?_
  refine go_aloadN C d4_5 (pc' := 6) rfl rfl rfl ?_
  refine go_getfield C (wd hw 21 rfl) F2 d4_6 (pc' := 9) rfl ?_
  refine go_icmp C (0 : Int) (3 : Int) (by decide) (by decide) d4_9 (by decide) (pc' := 81) (by decide) (pcN := 12) rfl (fun (c_1 : ¬ (0 : Int) < (3 : Int)) => by omega) (fun (c_1 : (0 : Int) < (3 : Int)) => ?_)
  refine go_aloadN C d4_12 (pc' := 13) rfl rfl rfl ?_
  refine go_getfield C (wd hw 14 rfl) F1 d4_13 (pc' := 16) rfl ?_
  refine go_iloadN C d4_16 (pc' := 17) rfl rfl ?_
  refine go_iaload C A1 0 (.int v0) (by decide) rfl d4_17 (pc' := 18) rfl ?_
  refine go_istoreN C (Ls' := #[.val (.ref a), .val (.int (0 : Int32)), .val (.int (0 : Int32)), .val (.int v0), .unset, .unset]) d4_18 (pc' := 19) rfl rfl ?_
  refine go_iconst C (0 : Int32) d4_19 (pc' := 20) rfl (by decide) ?_
  refine go_istore C (Ls' := #[.val (.ref a), .val (.int (0 : Int32)), .val (.int (0 : Int32)), .val (.int v0), .val (.int (0 : Int32)), .unset]) d4_20 (pc' := 22) rfl rfl ?_
  refine go_iconst C (0 : Int32) d4_22 (pc' := 23) rfl (by decide) ?_
  refine go_istore C (Ls' := #[.val (.ref a), .val (.int (0 : Int32)), .val (.int (0 : Int32)), .val (.int v0), .val (.int (0 : Int32)), .val (.int (0 : Int32))]) d4_23 (pc' := 25) rfl rfl ?_
  refine go_iload C d4_25 (pc' := 27) rfl rfl ?_
  refine go_iloadN C d4_27 (pc' := 28) rfl rfl ?_
  refine go_icmp C (0 : Int) (0 : Int) (by decide) (by decide) d4_28 (by decide) (pc' := 60) (by decide) (pcN := 31) rfl (fun (c_2 : ¬ (0 : Int) < (0 : Int)) => ?_) (fun (c_2 : (0 : Int) < (0 : Int)) => by omega)
  refine go_iload C d4_60 (pc' := 62) rfl rfl ?_
  refine go_if0 C (0 : Int) (by decide) d4_62 (by decide) (pc' := 75) (by decide) (pcN := 65) rfl (fun (c_3 : ¬ (0 : Int) = 0) => by omega) (fun (c_3 : (0 : Int) = 0) => ?_)
  refine go_aloadN C d4_65 (pc' := 66) rfl rfl rfl ?_
  refine go_getfield C (wd hw 14 rfl) F1 d4_66 (pc' := 69) rfl ?_
  refine go_iloadN C d4_69 (pc' := 70) rfl rfl ?_
  refine go_iinc C (Ls' := #[.val (.ref a), .val (.int ((0 : Int32) + (1 : Int32))), .val (.int (0 : Int32)), .val (.int v0), .val (.int (0 : Int32)), .val (.int (0 : Int32))]) (1 : Int32) d4_70 (pc' := 73) rfl (by decide) rfl rfl ?_
  rw [(by decide : (0 : Int32) + (1 : Int32) = (1 : Int32))]
  refine go_iloadN C d4_73 (pc' := 74) rfl rfl ?_
  refine go_iastore C A1 0 (by decide) (show 0 < 8 from by decide) gr d4_74 (pc' := 75) rfl ?_
  intro h_4 W_5 A_6
  have F_8 := Fld.other W_5 F1 (Or.inl (own_ne_arr E1 (wd hw 5 rfl) A1))
  have F_9 := Fld.other W_5 F2 (Or.inl (own_ne_arr E1 (wd hw 5 rfl) A1))
  have E_10 := Exa.wr W_5 E1
  have A_11 : Av Z h_4 r .int [.int v0, .int v1, .int v2, .int (0 : Int32), .int (0 : Int32), .int (0 : Int32), .int (0 : Int32), .int (0 : Int32)] := A_6
  refine go_iinc C (Ls' := #[.val (.ref a), .val (.int (1 : Int32)), .val (.int ((0 : Int32) + (1 : Int32))), .val (.int v0), .val (.int (0 : Int32)), .val (.int (0 : Int32))]) (1 : Int32) d4_75 (pc' := 78) rfl (by decide) rfl rfl ?_
  rw [(by decide : (0 : Int32) + (1 : Int32) = (1 : Int32))]
  refine go_goto C d4_78 (by decide) (pc' := 4) (by decide) ?_
  refine go_iloadN C d4_4 (pc' := 5) rfl rfl ?_
  refine go_aloadN C d4_5 (pc' := 6) rfl rfl rfl ?_
  refine go_getfield C (wd hw 21 rfl) F_9 d4_6 (pc' := 9) rfl ?_
  refine go_icmp C (1 : Int) (3 : Int) (by decide) (by decide) d4_9 (by decide) (pc' := 81) (by decide) (pcN := 12) rfl (fun (c_12 : ¬ (1 : Int) < (3 : Int)) => by omega) (fun (c_12 : (1 : Int) < (3 : Int)) => ?_)
  refine go_aloadN C d4_12 (pc' := 13) rfl rfl rfl ?_
  refine go_getfield C (wd hw 14 rfl) F_8 d4_13 (pc' := 16) rfl ?_
  refine go_iloadN C d4_16 (pc' := 17) rfl rfl ?_
  refine go_iaload C A_11 1 (.int v1) (by decide) rfl d4_17 (pc' := 18) rfl ?_
  refine go_istoreN C (Ls' := #[.val (.ref a), .val (.int (1 : Int32)), .val (.int (1 : Int32)), .val (.int v1), .val (.int (0 : Int32)), .val (.int (0 : Int32))]) d4_18 (pc' := 19) rfl rfl ?_
  refine go_iconst C (0 : Int32) d4_19 (pc' := 20) rfl (by decide) ?_
  refine go_istore C (Ls' := #[.val (.ref a), .val (.int (1 : Int32)), .val (.int (1 : Int32)), .val (.int v1), .val (.int (0 : Int32)), .val (.int (0 : Int32))]) d4_20 (pc' := 22) rfl rfl ?_
  refine go_iconst C (0 : Int32) d4_22 (pc' := 23) rfl (by decide) ?_
  refine go_istore C (Ls' := #[.val (.ref a), .val (.int (1 : Int32)), .val (.int (1 : Int32)), .val (.int v1), .val (.int (0 : Int32)), .val (.int (0 : Int32))]) d4_23 (pc' := 25) rfl rfl ?_
  refine go_iload C d4_25 (pc' := 27) rfl rfl ?_
  refine go_iloadN C d4_27 (pc' := 28) rfl rfl ?_
  refine go_icmp C (0 : Int) (1 : Int) (by decide) (by decide) d4_28 (by decide) (pc' := 60) (by decide) (pcN := 31) rfl (fun (c_13 : ¬ (0 : Int) < (1 : Int)) => by omega) (fun (c_13 : (0 : Int) < (1 : Int)) => ?_)
  refine go_iload C d4_31 (pc' := 33) rfl rfl ?_
  refine go_if0 C (0 : Int) (by decide) d4_33 (by decide) (pc' := 60) (by decide) (pcN := 36) rfl (fun (c_14 : ¬ (0 : Int) = 0) => by omega) (fun (c_14 : (0 : Int) = 0) => ?_)
  refine go_aloadN C d4_36 (pc' := 37) rfl rfl rfl ?_
  refine go_getfield C (wd hw 14 rfl) F_8 d4_37 (pc' := 40) rfl ?_
  refine go_iload C d4_40 (pc' := 42) rfl rfl ?_
  refine go_iaload C A_11 0 (.int v0) (by decide) rfl d4_42 (pc' := 43) rfl ?_
  refine go_iloadN C d4_43 (pc' := 44) rfl rfl ?_
  refine go_icmp C v0.toInt v1.toInt rfl rfl d4_44 (by decide) (pc' := 51) (by decide) (pcN := 47) rfl (fun (c_15 : ¬ v0.toInt = v1.toInt) => ?_) (fun (c_15 : v0.toInt = v1.toInt) => by omega)
  refine go_iconst C (0 : Int32) d4_51 (pc' := 52) rfl (by decide) ?_
  refine go_istore C (Ls' := #[.val (.ref a), .val (.int (1 : Int32)), .val (.int (1 : Int32)), .val (.int v1), .val (.int (0 : Int32)), .val (.int (0 : Int32))]) d4_52 (pc' := 54) rfl rfl ?_
  refine go_iinc C (Ls' := #[.val (.ref a), .val (.int (1 : Int32)), .val (.int (1 : Int32)), .val (.int v1), .val (.int (0 : Int32)), .val (.int ((0 : Int32) + (1 : Int32)))]) (1 : Int32) d4_54 (pc' := 57) rfl (by decide) rfl rfl ?_
  rw [(by decide : (0 : Int32) + (1 : Int32) = (1 : Int32))]
  refine go_goto C d4_57 (by decide) (pc' := 25) (by decide) ?_
  refine go_iload C d4_25 (pc' := 27) rfl rfl ?_
  refine go_iloadN C d4_27 (pc' := 28) rfl rfl ?_
  refine go_icmp C (1 : Int) (1 : Int) (by decide) (by decide) d4_28 (by decide) (pc' := 60) (by decide) (pcN := 31) rfl (fun (c_16 : ¬ (1 : Int) < (1 : Int)) => ?_) (fun (c_16 : (1 : Int) < (1 : Int)) => by omega)
  refine go_iload C d4_60 (pc' := 62) rfl rfl ?_
  refine go_if0 C (0 : Int) (by decide) d4_62 (by decide) (pc' := 75) (by decide) (pcN := 65) rfl (fun (c_17 : ¬ (0 : Int) = 0) => by omega) (fun (c_17 : (0 : Int) = 0) => ?_)
  refine go_aloadN C d4_65 (pc' := 66) rfl rfl rfl ?_
  refine go_getfield C (wd hw 14 rfl) F_8 d4_66 (pc' := 69) rfl ?_
  refine go_iloadN C d4_69 (pc' := 70) rfl rfl ?_
  refine go_iinc C (Ls' := #[.val (.ref a), .val (.int ((1 : Int32) + (1 : Int32))), .val (.int (1 : Int32)), .val (.int v1), .val (.int (0 : Int32)), .val (.int (1 : Int32))]) (1 : Int32) d4_70 (pc' := 73) rfl (by decide) rfl rfl ?_
  rw [(by decide : (1 : Int32) + (1 : Int32) = (2 : Int32))]
  refine go_iloadN C d4_73 (pc' := 74) rfl rfl ?_
  refine go_iastore C A_11 1 (by decide) (show 1 < 8 from by decide) gr d4_74 (pc' := 75) rfl ?_
  intro h_18 W_19 A_20
  have F_22 := Fld.other W_19 F_8 (Or.inl (own_ne_arr E_10 (wd hw 5 rfl) A_11))
  have F_23 := Fld.other W_19 F_9 (Or.inl (own_ne_arr E_10 (wd hw 5 rfl) A_11))
  have E_24 := Exa.wr W_19 E_10
  have A_25 : Av Z h_18 r .int [.int v0, .int v1, .int v2, .int (0 : Int32), .int (0 : Int32), .int (0 : Int32), .int (0 : Int32), .int (0 : Int32)] := A_20
  refine go_iinc C (Ls' := #[.val (.ref a), .val (.int (2 : Int32)), .val (.int ((1 : Int32) + (1 : Int32))), .val (.int v1), .val (.int (0 : Int32)), .val (.int (1 : Int32))]) (1 : Int32) d4_75 (pc' := 78) rfl (by decide) rfl rfl ?_
  rw [(by decide : (1 : Int32) + (1 : Int32) = (2 : Int32))]
  refine go_goto C d4_78 (by decide) (pc' := 4) (by decide) ?_
  refine go_iloadN C d4_4 (pc' := 5) rfl rfl ?_
  refine go_aloadN C d4_5 (pc' := 6) rfl rfl rfl ?_
  refine go_getfield C (wd hw 21 rfl) F_23 d4_6 (pc' := 9) rfl ?_
  refine go_icmp C (2 : Int) (3 : Int) (by decide) (by decide) d4_9 (by decide) (pc' := 81) (by decide) (pcN := 12) rfl (fun (c_26 : ¬ (2 : Int) < (3 : Int)) => by omega) (fun (c_26 : (2 : Int) < (3 : Int)) => ?_)
  refine go_aloadN C d4_12 (pc' := 13) rfl rfl rfl ?_
  refine go_getfield C (wd hw 14 rfl) F_22 d4_13 (pc' := 16) rfl ?_
  refine go_iloadN C d4_16 (pc' := 17) rfl rfl ?_
  refine go_iaload C A_25 2 (.int v2) (by decide) rfl d4_17 (pc' := 18) rfl ?_
  refine go_istoreN C (Ls' := #[.val (.ref a), .val (.int (2 : Int32)), .val (.int (2 : Int32)), .val (.int v2), .val (.int (0 : Int32)), .val (.int (1 : Int32))]) d4_18 (pc' := 19) rfl rfl ?_
  refine go_iconst C (0 : Int32) d4_19 (pc' := 20) rfl (by decide) ?_
  refine go_istore C (Ls' := #[.val (.ref a), .val (.int (2 : Int32)), .val (.int (2 : Int32)), .val (.int v2), .val (.int (0 : Int32)), .val (.int (1 : Int32))]) d4_20 (pc' := 22) rfl rfl ?_
  refine go_iconst C (0 : Int32) d4_22 (pc' := 23) rfl (by decide) ?_
  refine go_istore C (Ls' := #[.val (.ref a), .val (.int (2 : Int32)), .val (.int (2 : Int32)), .val (.int v2), .val (.int (0 : Int32)), .val (.int (0 : Int32))]) d4_23 (pc' := 25) rfl rfl ?_
  refine go_iload C d4_25 (pc' := 27) rfl rfl ?_
  refine go_iloadN C d4_27 (pc' := 28) rfl rfl ?_
  refine go_icmp C (0 : Int) (2 : Int) (by decide) (by decide) d4_28 (by decide) (pc' := 60) (by decide) (pcN := 31) rfl (fun (c_27 : ¬ (0 : Int) < (2 : Int)) => by omega) (fun (c_27 : (0 : Int) < (2 : Int)) => ?_)
  refine go_iload C d4_31 (pc' := 33) rfl rfl ?_
  refine go_if0 C (0 : Int) (by decide) d4_33 (by decide) (pc' := 60) (by decide) (pcN := 36) rfl (fun (c_28 : ¬ (0 : Int) = 0) => by omega) (fun (c_28 : (0 : Int) = 0) => ?_)
  refine go_aloadN C d4_36 (pc' := 37) rfl rfl rfl ?_
  refine go_getfield C (wd hw 14 rfl) F_22 d4_37 (pc' := 40) rfl ?_
  refine go_iload C d4_40 (pc' := 42) rfl rfl ?_
  refine go_iaload C A_25 0 (.int v0) (by decide) rfl d4_42 (pc' := 43) rfl ?_
  refine go_iloadN C d4_43 (pc' := 44) rfl rfl ?_
  refine go_icmp C v0.toInt v2.toInt rfl rfl d4_44 (by decide) (pc' := 51) (by decide) (pcN := 47) rfl (fun (c_29 : ¬ v0.toInt = v2.toInt) => ?_) (fun (c_29 : v0.toInt = v2.toInt) => ?_)
  · skip
    refine go_iconst C (0 : Int32) d4_51 (pc' := 52) rfl (by decide) ?_
    refine go_istore C (Ls' := #[.val (.ref a), .val (.int (2 : Int32)), .val (.int (2 : Int32)), .val (.int v2), .val (.int (0 : Int32)), .val (.int (0 : Int32))]) d4_52 (pc' := 54) rfl rfl ?_
    refine go_iinc C (Ls' := #[.val (.ref a), .val (.int (2 : Int32)), .val (.int (2 : Int32)), .val (.int v2), .val (.int (0 : Int32)), .val (.int ((0 : Int32) + (1 : Int32)))]) (1 : Int32) d4_54 (pc' := 57) rfl (by decide) rfl rfl ?_
    rw [(by decide : (0 : Int32) + (1 : Int32) = (1 : Int32))]
    refine go_goto C d4_57 (by decide) (pc' := 25) (by decide) ?_
    refine go_iload C d4_25 (pc' := 27) rfl rfl ?_
    refine go_iloadN C d4_27 (pc' := 28) rfl rfl ?_
    refine go_icmp C (1 : Int) (2 : Int) (by decide) (by decide) d4_28 (by decide) (pc' := 60) (by decide) (pcN := 31) rfl (fun (c_30 : ¬ (1 : Int) < (2 : Int)) => by omega) (fun (c_30 : (1 : Int) < (2 : Int)) => ?_)
    refine go_iload C d4_31 (pc' := 33) rfl rfl ?_
    refine go_if0 C (0 : Int) (by decide) d4_33 (by decide) (pc' := 60) (by decide) (pcN := 36) rfl (fun (c_31 : ¬ (0 : Int) = 0) => by omega) (fun (c_31 : (0 : Int) = 0) => ?_)
    refine go_aloadN C d4_36 (pc' := 37) rfl rfl rfl ?_
    refine go_getfield C (wd hw 14 rfl) F_22 d4_37 (pc' := 40) rfl ?_
    refine go_iload C d4_40 (pc' := 42) rfl rfl ?_
    refine go_iaload C A_25 1 (.int v1) (by decide) rfl d4_42 (pc' := 43) rfl ?_
    refine go_iloadN C d4_43 (pc' := 44) rfl rfl ?_
    refine go_icmp C v1.toInt v2.toInt rfl rfl d4_44 (by decide) (pc' := 51) (by decide) (pcN := 47) rfl (fun (c_32 : ¬ v1.toInt = v2.toInt) => by omega) (fun (c_32 : v1.toInt = v2.toInt) => ?_)
    refine go_iconst C (1 : Int32) d4_47 (pc' := 48) rfl (by decide) ?_
    refine go_goto C d4_48 (by decide) (pc' := 52) (by decide) ?_
    refine go_istore C (Ls' := #[.val (.ref a), .val (.int (2 : Int32)), .val (.int (2 : Int32)), .val (.int v2), .val (.int (1 : Int32)), .val (.int (1 : Int32))]) d4_52 (pc' := 54) rfl rfl ?_
    refine go_iinc C (Ls' := #[.val (.ref a), .val (.int (2 : Int32)), .val (.int (2 : Int32)), .val (.int v2), .val (.int (1 : Int32)), .val (.int ((1 : Int32) + (1 : Int32)))]) (1 : Int32) d4_54 (pc' := 57) rfl (by decide) rfl rfl ?_
    rw [(by decide : (1 : Int32) + (1 : Int32) = (2 : Int32))]
    refine go_goto C d4_57 (by decide) (pc' := 25) (by decide) ?_
    refine go_iload C d4_25 (pc' := 27) rfl rfl ?_
    refine go_iloadN C d4_27 (pc' := 28) rfl rfl ?_
    refine go_icmp C (2 : Int) (2 : Int) (by decide) (by decide) d4_28 (by decide) (pc' := 60) (by decide) (pcN := 31) rfl (fun (c_33 : ¬ (2 : Int) < (2 : Int)) => ?_) (fun (c_33 : (2 : Int) < (2 : Int)) => by omega)
    refine go_iload C d4_60 (pc' := 62) rfl rfl ?_
    refine go_if0 C (1 : Int) (by decide) d4_62 (by decide) (pc' := 75) (by decide) (pcN := 65) rfl (fun (c_34 : ¬ (1 : Int) = 0) => ?_) (fun (c_34 : (1 : Int) = 0) => by omega)
    refine go_iinc C (Ls' := #[.val (.ref a), .val (.int (2 : Int32)), .val (.int ((2 : Int32) + (1 : Int32))), .val (.int v2), .val (.int (1 : Int32)), .val (.int (2 : Int32))]) (1 : Int32) d4_75 (pc' := 78) rfl (by decide) rfl rfl ?_
    rw [(by decide : (2 : Int32) + (1 : Int32) = (3 : Int32))]
    refine go_goto C d4_78 (by decide) (pc' := 4) (by decide) ?_
    refine go_iloadN C d4_4 (pc' := 5) rfl rfl ?_
    refine go_aloadN C d4_5 (pc' := 6) rfl rfl rfl ?_
    refine go_getfield C (wd hw 21 rfl) F_23 d4_6 (pc' := 9) rfl ?_
    refine go_icmp C (3 : Int) (3 : Int) (by decide) (by decide) d4_9 (by decide) (pc' := 81) (by decide) (pcN := 12) rfl (fun (c_35 : ¬ (3 : Int) < (3 : Int)) => ?_) (fun (c_35 : (3 : Int) < (3 : Int)) => by omega)
    refine go_aloadN C d4_81 (pc' := 82) rfl rfl rfl ?_
    refine go_iloadN C d4_82 (pc' := 83) rfl rfl ?_
    refine go_putfield C (wd hw 21 rfl) F_23 E_24 (Or.inl (wd hw 22 rfl)) (wd hw 5 rfl) (ty := .int) (by decide) rfl rfl ga d4_83 (pc' := 86) rfl ?_
    intro h_36 W_37
    have F_38 := Fld.other W_37 F_22 (Or.inr (slot_ne (a0 := a0) (Or.inl (wd hw 15 rfl)) (Or.inl (wd hw 22 rfl)) (by decide) (t := (.array .int)) (t' := .int) (by decide) (by decide)))
    have F_39 := Fld.same W_37 F_23
    have E_40 := Exa.wr W_37 E_24
    have A_41 := Av.other A_25 W_37 (Ne.symm (own_ne_arr E_24 (wd hw 5 rfl) A_25))
    refine go_return C rfl d4_86 (by decide) (by decide) ?_
    exact ⟨rfl, E_40, F_38, F_39, A_41⟩
  · skip
    refine go_iconst C (1 : Int32) d4_47 (pc' := 48) rfl (by decide) ?_
    refine go_goto C d4_48 (by decide) (pc' := 52) (by decide) ?_
    refine go_istore C (Ls' := #[.val (.ref a), .val (.int (2 : Int32)), .val (.int (2 : Int32)), .val (.int v2), .val (.int (1 : Int32)), .val (.int (0 : Int32))]) d4_52 (pc' := 54) rfl rfl ?_
    refine go_iinc C (Ls' := #[.val (.ref a), .val (.int (2 : Int32)), .val (.int (2 : Int32)), .val (.int v2), .val (.int (1 : Int32)), .val (.int ((0 : Int32) + (1 : Int32)))]) (1 : Int32) d4_54 (pc' := 57) rfl (by decide) rfl rfl ?_
    rw [(by decide : (0 : Int32) + (1 : Int32) = (1 : Int32))]
    refine go_goto C d4_57 (by decide) (pc' := 25) (by decide) ?_
    refine go_iload C d4_25 (pc' := 27) rfl rfl ?_
    refine go_iloadN C d4_27 (pc' := 28) rfl rfl ?_
    refine go_icmp C (1 : Int) (2 : Int) (by decide) (by decide) d4_28 (by decide) (pc' := 60) (by decide) (pcN := 31) rfl (fun (c_42 : ¬ (1 : Int) < (2 : Int)) => by omega) (fun (c_42 : (1 : Int) < (2 : Int)) => ?_)
    refine go_iload C d4_31 (pc' := 33) rfl rfl ?_
    refine go_if0 C (1 : Int) (by decide) d4_33 (by decide) (pc' := 60) (by decide) (pcN := 36) rfl (fun (c_43 : ¬ (1 : Int) = 0) => ?_) (fun (c_43 : (1 : Int) = 0) => by omega)
    refine go_iload C d4_60 (pc' := 62) rfl rfl ?_
    refine go_if0 C (1 : Int) (by decide) d4_62 (by decide) (pc' := 75) (by decide) (pcN := 65) rfl (fun (c_44 : ¬ (1 : Int) = 0) => ?_) (fun (c_44 : (1 : Int) = 0) => by omega)
    refine go_iinc C (Ls' := #[.val (.ref a), .val (.int (2 : Int32)), .val (.int ((2 : Int32) + (1 : Int32))), .val (.int v2), .val (.int (1 : Int32)), .val (.int (1 : Int32))]) (1 : Int32) d4_75 (pc' := 78) rfl (by decide) rfl rfl ?_
    rw [(by decide : (2 : Int32) + (1 : Int32) = (3 : Int32))]
    refine go_goto C d4_78 (by decide) (pc' := 4) (by decide) ?_
    refine go_iloadN C d4_4 (pc' := 5) rfl rfl ?_
    refine go_aloadN C d4_5 (pc' := 6) rfl rfl rfl ?_
    refine go_getfield C (wd hw 21 rfl) F_23 d4_6 (pc' := 9) rfl ?_
    refine go_icmp C (3 : Int) (3 : Int) (by decide) (by decide) d4_9 (by decide) (pc' := 81) (by decide) (pcN := 12) rfl (fun (c_45 : ¬ (3 : Int) < (3 : Int)) => ?_) (fun (c_45 : (3 : Int) < (3 : Int)) => by omega)
    refine go_aloadN C d4_81 (pc' := 82) rfl rfl rfl ?_
    refine go_iloadN C d4_82 (pc' := 83) rfl rfl ?_
    refine go_putfield C (wd hw 21 rfl) F_23 E_24 (Or.inl (wd hw 22 rfl)) (wd hw 5 rfl) (ty := .int) (by decide) rfl rfl ga d4_83 (pc' := 86) rfl ?_
    intro h_46 W_47
    have F_48 := Fld.other W_47 F_22 (Or.inr (slot_ne (a0 := a0) (Or.inl (wd hw 15 rfl)) (Or.inl (wd hw 22 rfl)) (by decide) (t := (.array .int)) (t' := .int) (by decide) (by decide)))
    have F_49 := Fld.same W_47 F_23
    have E_50 := Exa.wr W_47 E_24
    have A_51 := Av.other A_25 W_47 (Ne.symm (own_ne_arr E_24 (wd hw 5 rfl) A_25))
    refine go_return C rfl d4_86 (by decide) (by decide) ?_
    exact ⟨rfl, E_50, F_48, F_49, A_51⟩
set_option maxRecDepth 65536 in
set_option maxHeartbeats 40000000 in
theorem sat_rd3ft (l : Launch) (Z : State) (a0 : Array Value) (hw : ∀ d ∈ tables_1, d.before a0 Z = true) (a r : Addr) (v0 v1 v2 : Int32) (h0 : Heap) (n0 : Nat) (hf1 : v1.toInt = v0.toInt) (hf2 : ¬ v2.toInt = v0.toInt ∧ ¬ v2.toInt = v1.toInt) (E1 : Exa Z h0 a "com/example/inevitable_path/inevitablepath/smv/IntList") (F1 : Fld Z h0 a "com/example/inevitable_path/inevitablepath/smv/IntList" "values" "[I" (.ref r)) (F2 : Fld Z h0 a "com/example/inevitable_path/inevitablepath/smv/IntList" "size" "I" (.int (3 : Int32))) (A1 : Av Z h0 r .int [.int v0, .int v1, .int v2, .int (0 : Int32), .int (0 : Int32), .int (0 : Int32), .int (0 : Int32), .int (0 : Int32)]) (ga : n0 ≤ a) (gr : n0 ≤ r) :
    Sat l Z (⟨"com/example/inevitable_path/inevitablepath/smv/IntList", "removeDuplicates", "()V"⟩ : MethodName) prog_60_method_10_code 6 none ({ frames := 0, cells := 0, slots := 0, locals := 0 } : Room) [.ref a] h0 n0 (RN fun h => Exa Z h a "com/example/inevitable_path/inevitablepath/smv/IntList" ∧ Fld Z h a "com/example/inevitable_path/inevitablepath/smv/IntList" "values" "[I" (.ref r) ∧ Fld Z h a "com/example/inevitable_path/inevitablepath/smv/IntList" "size" "I" (.int (2 : Int32)) ∧ Av Z h r .int [.int v0, .int v2, .int v2, .int (0 : Int32), .int (0 : Int32), .int (0 : Int32), .int (0 : Int32), .int (0 : Int32)]) := by
  refine sat_of (own := "com/example/inevitable_path/inevitablepath/smv/IntList") (nm := "removeDuplicates") rfl rfl (plainFor_of_name pn_1) #[.val (.ref a), .unset, .unset, .unset, .unset, .unset] (fun m => by first | (simp [entryFrame, mkF, argsToLocals, Value.category, maxLocals]; done) | rfl) ?_
  intro p e s m below meth c C
  refine go_iconst C (0 : Int32) d4_0 (pc' := 1) rfl (by decide) ?_
  refine go_istoreN C (Ls' := #[.val (.ref a), .val (.int (0 : Int32)), .unset, .unset, .unset, .unset]) d4_1 (pc' := 2) rfl rfl ?_
  refine go_iconst C (0 : Int32) d4_2 (pc' := 3) rfl (by decide) ?_
  refine go_istoreN C (Ls' := #[.val (.ref a), .val (.int (0 : Int32)), .val (.int (0 : Int32)), .unset, .unset, .unset]) d4_3 (pc' := 4) rfl rfl ?_
  refine go_iloadN C d4_4 (pc' := 5) rfl rfl ?_
  refine go_aloadN C d4_5 (pc' := 6) rfl rfl rfl ?_
  refine go_getfield C (wd hw 21 rfl) F2 d4_6 (pc' := 9) rfl ?_
  refine go_icmp C (0 : Int) (3 : Int) (by decide) (by decide) d4_9 (by decide) (pc' := 81) (by decide) (pcN := 12) rfl (fun (c_1 : ¬ (0 : Int) < (3 : Int)) => by omega) (fun (c_1 : (0 : Int) < (3 : Int)) => ?_)
  refine go_aloadN C d4_12 (pc' := 13) rfl rfl rfl ?_
  refine go_getfield C (wd hw 14 rfl) F1 d4_13 (pc' := 16) rfl ?_
  refine go_iloadN C d4_16 (pc' := 17) rfl rfl ?_
  refine go_iaload C A1 0 (.int v0) (by decide) rfl d4_17 (pc' := 18) rfl ?_
  refine go_istoreN C (Ls' := #[.val (.ref a), .val (.int (0 : Int32)), .val (.int (0 : Int32)), .val (.int v0), .unset, .unset]) d4_18 (pc' := 19) rfl rfl ?_
  refine go_iconst C (0 : Int32) d4_19 (pc' := 20) rfl (by decide) ?_
  refine go_istore C (Ls' := #[.val (.ref a), .val (.int (0 : Int32)), .val (.int (0 : Int32)), .val (.int v0), .val (.int (0 : Int32)), .unset]) d4_20 (pc' := 22) rfl rfl ?_
  refine go_iconst C (0 : Int32) d4_22 (pc' := 23) rfl (by decide) ?_
  refine go_istore C (Ls' := #[.val (.ref a), .val (.int (0 : Int32)), .val (.int (0 : Int32)), .val (.int v0), .val (.int (0 : Int32)), .val (.int (0 : Int32))]) d4_23 (pc' := 25) rfl rfl ?_
  refine go_iload C d4_25 (pc' := 27) rfl rfl ?_
  refine go_iloadN C d4_27 (pc' := 28) rfl rfl ?_
  refine go_icmp C (0 : Int) (0 : Int) (by decide) (by decide) d4_28 (by decide) (pc' := 60) (by decide) (pcN := 31) rfl (fun (c_2 : ¬ (0 : Int) < (0 : Int)) => ?_) (fun (c_2 : (0 : Int) < (0 : Int)) => by omega)
  refine go_iload C d4_60 (pc' := 62) rfl rfl ?_
  refine go_if0 C (0 : Int) (by decide) d4_62 (by decide) (pc' := 75) (by decide) (pcN := 65) rfl (fun (c_3 : ¬ (0 : Int) = 0) => by omega) (fun (c_3 : (0 : Int) = 0) => ?_)
  refine go_aloadN C d4_65 (pc' := 66) rfl rfl rfl ?_
  refine go_getfield C (wd hw 14 rfl) F1 d4_66 (pc' := 69) rfl ?_
  refine go_iloadN C d4_69 (pc' := 70) rfl rfl ?_
  refine go_iinc C (Ls' := #[.val (.ref a), .val (.int ((0 : Int32) + (1 : Int32))), .val (.int (0 : Int32)), .val (.int v0), .val (.int (0 : Int32)), .val (.int (0 : Int32))]) (1 : Int32) d4_70 (pc' := 73) rfl (by decide) rfl rfl ?_
  rw [(by decide : (0 : Int32) + (1 : Int32) = (1 : Int32))]
  refine go_iloadN C d4_73 (pc' := 74) rfl rfl ?_
  refine go_iastore C A1 0 (by decide) (show 0 < 8 from by decide) gr d4_74 (pc' := 75) rfl ?_
  intro h_4 W_5 A_6
  have F_8 := Fld.other W_5 F1 (Or.inl (own_ne_arr E1 (wd hw 5 rfl) A1))
  have F_9 := Fld.other W_5 F2 (Or.inl (own_ne_arr E1 (wd hw 5 rfl) A1))
  have E_10 := Exa.wr W_5 E1
  have A_11 : Av Z h_4 r .int [.int v0, .int v1, .int v2, .int (0 : Int32), .int (0 : Int32), .int (0 : Int32), .int (0 : Int32), .int (0 : Int32)] := A_6
  refine go_iinc C (Ls' := #[.val (.ref a), .val (.int (1 : Int32)), .val (.int ((0 : Int32) + (1 : Int32))), .val (.int v0), .val (.int (0 : Int32)), .val (.int (0 : Int32))]) (1 : Int32) d4_75 (pc' := 78) rfl (by decide) rfl rfl ?_
  rw [(by decide : (0 : Int32) + (1 : Int32) = (1 : Int32))]
  refine go_goto C d4_78 (by decide) (pc' := 4) (by decide) ?_
  refine go_iloadN C d4_4 (pc' := 5) rfl rfl ?_
  refine go_aloadN C d4_5 (pc' := 6) rfl rfl rfl ?_
  refine go_getfield C (wd hw 21 rfl) F_9 d4_6 (pc' := 9) rfl ?_
  refine go_icmp C (1 : Int) (3 : Int) (by decide) (by decide) d4_9 (by decide) (pc' := 81) (by decide) (pcN := 12) rfl (fun (c_12 : ¬ (1 : Int) < (3 : Int)) => by omega) (fun (c_12 : (1 : Int) < (3 : Int)) => ?_)
  refine go_aloadN C d4_12 (pc' := 13) rfl rfl rfl ?_
  refine go_getfield C (wd hw 14 rfl) F_8 d4_13 (pc' := 16) rfl ?_
  refine go_iloadN C d4_16 (pc' := 17) rfl rfl ?_
  refine go_iaload C A_11 1 (.int v1) (by decide) rfl d4_17 (pc' := 18) rfl ?_
  refine go_istoreN C (Ls' := #[.val (.ref a), .val (.int (1 : Int32)), .val (.int (1 : Int32)), .val (.int v1), .val (.int (0 : Int32)), .val (.int (0 : Int32))]) d4_18 (pc' := 19) rfl rfl ?_
  refine go_iconst C (0 : Int32) d4_19 (pc' := 20) rfl (by decide) ?_
  refine go_istore C (Ls' := #[.val (.ref a), .val (.int (1 : Int32)), .val (.int (1 : Int32)), .val (.int v1), .val (.int (0 : Int32)), .val (.int (0 : Int32))]) d4_20 (pc' := 22) rfl rfl ?_
  refine go_iconst C (0 : Int32) d4_22 (pc' := 23) rfl (by decide) ?_
  refine go_istore C (Ls' := #[.val (.ref a), .val (.int (1 : Int32)), .val (.int (1 : Int32)), .val (.int v1), .val (.int (0 : Int32)), .val (.int (0 : Int32))]) d4_23 (pc' := 25) rfl rfl ?_
  refine go_iload C d4_25 (pc' := 27) rfl rfl ?_
  refine go_iloadN C d4_27 (pc' := 28) rfl rfl ?_
  refine go_icmp C (0 : Int) (1 : Int) (by decide) (by decide) d4_28 (by decide) (pc' := 60) (by decide) (pcN := 31) rfl (fun (c_13 : ¬ (0 : Int) < (1 : Int)) => by omega) (fun (c_13 : (0 : Int) < (1 : Int)) => ?_)
  refine go_iload C d4_31 (pc' := 33) rfl rfl ?_
  refine go_if0 C (0 : Int) (by decide) d4_33 (by decide) (pc' := 60) (by decide) (pcN := 36) rfl (fun (c_14 : ¬ (0 : Int) = 0) => by omega) (fun (c_14 : (0 : Int) = 0) => ?_)
  refine go_aloadN C d4_36 (pc' := 37) rfl rfl rfl ?_
  refine go_getfield C (wd hw 14 rfl) F_8 d4_37 (pc' := 40) rfl ?_
  refine go_iload C d4_40 (pc' := 42) rfl rfl ?_
  refine go_iaload C A_11 0 (.int v0) (by decide) rfl d4_42 (pc' := 43) rfl ?_
  refine go_iloadN C d4_43 (pc' := 44) rfl rfl ?_
  refine go_icmp C v0.toInt v1.toInt rfl rfl d4_44 (by decide) (pc' := 51) (by decide) (pcN := 47) rfl (fun (c_15 : ¬ v0.toInt = v1.toInt) => by omega) (fun (c_15 : v0.toInt = v1.toInt) => ?_)
  refine go_iconst C (1 : Int32) d4_47 (pc' := 48) rfl (by decide) ?_
  refine go_goto C d4_48 (by decide) (pc' := 52) (by decide) ?_
  refine go_istore C (Ls' := #[.val (.ref a), .val (.int (1 : Int32)), .val (.int (1 : Int32)), .val (.int v1), .val (.int (1 : Int32)), .val (.int (0 : Int32))]) d4_52 (pc' := 54) rfl rfl ?_
  refine go_iinc C (Ls' := #[.val (.ref a), .val (.int (1 : Int32)), .val (.int (1 : Int32)), .val (.int v1), .val (.int (1 : Int32)), .val (.int ((0 : Int32) + (1 : Int32)))]) (1 : Int32) d4_54 (pc' := 57) rfl (by decide) rfl rfl ?_
  rw [(by decide : (0 : Int32) + (1 : Int32) = (1 : Int32))]
  refine go_goto C d4_57 (by decide) (pc' := 25) (by decide) ?_
  refine go_iload C d4_25 (pc' := 27) rfl rfl ?_
  refine go_iloadN C d4_27 (pc' := 28) rfl rfl ?_
  refine go_icmp C (1 : Int) (1 : Int) (by decide) (by decide) d4_28 (by decide) (pc' := 60) (by decide) (pcN := 31) rfl (fun (c_16 : ¬ (1 : Int) < (1 : Int)) => ?_) (fun (c_16 : (1 : Int) < (1 : Int)) => by omega)
  refine go_iload C d4_60 (pc' := 62) rfl rfl ?_
  refine go_if0 C (1 : Int) (by decide) d4_62 (by decide) (pc' := 75) (by decide) (pcN := 65) rfl (fun (c_17 : ¬ (1 : Int) = 0) => ?_) (fun (c_17 : (1 : Int) = 0) => by omega)
  refine go_iinc C (Ls' := #[.val (.ref a), .val (.int (1 : Int32)), .val (.int ((1 : Int32) + (1 : Int32))), .val (.int v1), .val (.int (1 : Int32)), .val (.int (1 : Int32))]) (1 : Int32) d4_75 (pc' := 78) rfl (by decide) rfl rfl ?_
  rw [(by decide : (1 : Int32) + (1 : Int32) = (2 : Int32))]
  refine go_goto C d4_78 (by decide) (pc' := 4) (by decide) ?_
  refine go_iloadN C d4_4 (pc' := 5) rfl rfl ?_
  refine go_aloadN C d4_5 (pc' := 6) rfl rfl rfl ?_
  refine go_getfield C (wd hw 21 rfl) F_9 d4_6 (pc' := 9) rfl ?_
  refine go_icmp C (2 : Int) (3 : Int) (by decide) (by decide) d4_9 (by decide) (pc' := 81) (by decide) (pcN := 12) rfl (fun (c_18 : ¬ (2 : Int) < (3 : Int)) => by omega) (fun (c_18 : (2 : Int) < (3 : Int)) => ?_)
  refine go_aloadN C d4_12 (pc' := 13) rfl rfl rfl ?_
  refine go_getfield C (wd hw 14 rfl) F_8 d4_13 (pc' := 16) rfl ?_
  refine go_iloadN C d4_16 (pc' := 17) rfl rfl ?_
  refine go_iaload C A_11 2 (.int v2) (by decide) rfl d4_17 (pc' := 18) rfl ?_
  refine go_istoreN C (Ls' := #[.val (.ref a), .val (.int (1 : Int32)), .val (.int (2 : Int32)), .val (.int v2), .val (.int (1 : Int32)), .val (.int (1 : Int32))]) d4_18 (pc' := 19) rfl rfl ?_
  refine go_iconst C (0 : Int32) d4_19 (pc' := 20) rfl (by decide) ?_
  refine go_istore C (Ls' := #[.val (.ref a), .val (.int (1 : Int32)), .val (.int (2 : Int32)), .val (.int v2), .val (.int (0 : Int32)), .val (.int (1 : Int32))]) d4_20 (pc' := 22) rfl rfl ?_
  refine go_iconst C (0 : Int32) d4_22 (pc' := 23) rfl (by decide) ?_
  refine go_istore C (Ls' := #[.val (.ref a), .val (.int (1 : Int32)), .val (.int (2 : Int32)), .val (.int v2), .val (.int (0 : Int32)), .val (.int (0 : Int32))]) d4_23 (pc' := 25) rfl rfl ?_
  refine go_iload C d4_25 (pc' := 27) rfl rfl ?_
  refine go_iloadN C d4_27 (pc' := 28) rfl rfl ?_
  refine go_icmp C (0 : Int) (1 : Int) (by decide) (by decide) d4_28 (by decide) (pc' := 60) (by decide) (pcN := 31) rfl (fun (c_19 : ¬ (0 : Int) < (1 : Int)) => by omega) (fun (c_19 : (0 : Int) < (1 : Int)) => ?_)
  refine go_iload C d4_31 (pc' := 33) rfl rfl ?_
  refine go_if0 C (0 : Int) (by decide) d4_33 (by decide) (pc' := 60) (by decide) (pcN := 36) rfl (fun (c_20 : ¬ (0 : Int) = 0) => by omega) (fun (c_20 : (0 : Int) = 0) => ?_)
  refine go_aloadN C d4_36 (pc' := 37) rfl rfl rfl ?_
  refine go_getfield C (wd hw 14 rfl) F_8 d4_37 (pc' := 40) rfl ?_
  refine go_iload C d4_40 (pc' := 42) rfl rfl ?_
  refine go_iaload C A_11 0 (.int v0) (by decide) rfl d4_42 (pc' := 43) rfl ?_
  refine go_iloadN C d4_43 (pc' := 44) rfl rfl ?_
  refine go_icmp C v0.toInt v2.toInt rfl rfl d4_44 (by decide) (pc' := 51) (by decide) (pcN := 47) rfl (fun (c_21 : ¬ v0.toInt = v2.toInt) => ?_) (fun (c_21 : v0.toInt = v2.toInt) => by omega)
  refine go_iconst C (0 : Int32) d4_51 (pc' := 52) rfl (by decide) ?_
  refine go_istore C (Ls' := #[.val (.ref a), .val (.int (1 : Int32)), .val (.int (2 : Int32)), .val (.int v2), .val (.int (0 : Int32)), .val (.int (0 : Int32))]) d4_52 (pc' := 54) rfl rfl ?_
  refine go_iinc C (Ls' := #[.val (.ref a), .val (.int (1 : Int32)), .val (.int (2 : Int32)), .val (.int v2), .val (.int (0 : Int32)), .val (.int ((0 : Int32) + (1 : Int32)))]) (1 : Int32) d4_54 (pc' := 57) rfl (by decide) rfl rfl ?_
  rw [(by decide : (0 : Int32) + (1 : Int32) = (1 : Int32))]
  refine go_goto C d4_57 (by decide) (pc' := 25) (by decide) ?_
  refine go_iload C d4_25 (pc' := 27) rfl rfl ?_
  refine go_iloadN C d4_27 (pc' := 28) rfl rfl ?_
  refine go_icmp C (1 : Int) (1 : Int) (by decide) (by decide) d4_28 (by decide) (pc' := 60) (by decide) (pcN := 31) rfl (fun (c_22 : ¬ (1 : Int) < (1 : Int)) => ?_) (fun (c_22 : (1 : Int) < (1 : Int)) => by omega)
  refine go_iload C d4_60 (pc' := 62) rfl rfl ?_
  refine go_if0 C (0 : Int) (by decide) d4_62 (by decide) (pc' := 75) (by decide) (pcN := 65) rfl (fun (c_23 : ¬ (0 : Int) = 0) => by omega) (fun (c_23 : (0 : Int) = 0) => ?_)
  refine go_aloadN C d4_65 (pc' := 66) rfl rfl rfl ?_
  refine go_getfield C (wd hw 14 rfl) F_8 d4_66 (pc' := 69) rfl ?_
  refine go_iloadN C d4_69 (pc' := 70) rfl rfl ?_
  refine go_iinc C (Ls' := #[.val (.ref a), .val (.int ((1 : Int32) + (1 : Int32))), .val (.int (2 : Int32)), .val (.int v2), .val (.int (0 : Int32)), .val (.int (1 : Int32))]) (1 : Int32) d4_70 (pc' := 73) rfl (by decide) rfl rfl ?_
  rw [(by decide : (1 : Int32) + (1 : Int32) = (2 : Int32))]
  refine go_iloadN C d4_73 (pc' := 74) rfl rfl ?_
  refine go_iastore C A_11 1 (by decide) (show 1 < 8 from by decide) gr d4_74 (pc' := 75) rfl ?_
  intro h_24 W_25 A_26
  have F_28 := Fld.other W_25 F_8 (Or.inl (own_ne_arr E_10 (wd hw 5 rfl) A_11))
  have F_29 := Fld.other W_25 F_9 (Or.inl (own_ne_arr E_10 (wd hw 5 rfl) A_11))
  have E_30 := Exa.wr W_25 E_10
  have A_31 : Av Z h_24 r .int [.int v0, .int v2, .int v2, .int (0 : Int32), .int (0 : Int32), .int (0 : Int32), .int (0 : Int32), .int (0 : Int32)] := A_26
  refine go_iinc C (Ls' := #[.val (.ref a), .val (.int (2 : Int32)), .val (.int ((2 : Int32) + (1 : Int32))), .val (.int v2), .val (.int (0 : Int32)), .val (.int (1 : Int32))]) (1 : Int32) d4_75 (pc' := 78) rfl (by decide) rfl rfl ?_
  rw [(by decide : (2 : Int32) + (1 : Int32) = (3 : Int32))]
  refine go_goto C d4_78 (by decide) (pc' := 4) (by decide) ?_
  refine go_iloadN C d4_4 (pc' := 5) rfl rfl ?_
  refine go_aloadN C d4_5 (pc' := 6) rfl rfl rfl ?_
  refine go_getfield C (wd hw 21 rfl) F_29 d4_6 (pc' := 9) rfl ?_
  refine go_icmp C (3 : Int) (3 : Int) (by decide) (by decide) d4_9 (by decide) (pc' := 81) (by decide) (pcN := 12) rfl (fun (c_32 : ¬ (3 : Int) < (3 : Int)) => ?_) (fun (c_32 : (3 : Int) < (3 : Int)) => by omega)
  refine go_aloadN C d4_81 (pc' := 82) rfl rfl rfl ?_
  refine go_iloadN C d4_82 (pc' := 83) rfl rfl ?_
  refine go_putfield C (wd hw 21 rfl) F_29 E_30 (Or.inl (wd hw 22 rfl)) (wd hw 5 rfl) (ty := .int) (by decide) rfl rfl ga d4_83 (pc' := 86) rfl ?_
  intro h_33 W_34
  have F_35 := Fld.other W_34 F_28 (Or.inr (slot_ne (a0 := a0) (Or.inl (wd hw 15 rfl)) (Or.inl (wd hw 22 rfl)) (by decide) (t := (.array .int)) (t' := .int) (by decide) (by decide)))
  have F_36 := Fld.same W_34 F_29
  have E_37 := Exa.wr W_34 E_30
  have A_38 := Av.other A_31 W_34 (Ne.symm (own_ne_arr E_30 (wd hw 5 rfl) A_31))
  refine go_return C rfl d4_86 (by decide) (by decide) ?_
  exact ⟨rfl, E_37, F_35, F_36, A_38⟩
set_option maxRecDepth 65536 in
set_option maxHeartbeats 40000000 in
theorem sat_rd3ff (l : Launch) (Z : State) (a0 : Array Value) (hw : ∀ d ∈ tables_1, d.before a0 Z = true) (a r : Addr) (v0 v1 v2 : Int32) (h0 : Heap) (n0 : Nat) (hf1 : v1.toInt = v0.toInt) (hf2 : v2.toInt = v0.toInt ∨ v2.toInt = v1.toInt) (E1 : Exa Z h0 a "com/example/inevitable_path/inevitablepath/smv/IntList") (F1 : Fld Z h0 a "com/example/inevitable_path/inevitablepath/smv/IntList" "values" "[I" (.ref r)) (F2 : Fld Z h0 a "com/example/inevitable_path/inevitablepath/smv/IntList" "size" "I" (.int (3 : Int32))) (A1 : Av Z h0 r .int [.int v0, .int v1, .int v2, .int (0 : Int32), .int (0 : Int32), .int (0 : Int32), .int (0 : Int32), .int (0 : Int32)]) (ga : n0 ≤ a) (gr : n0 ≤ r) :
    Sat l Z (⟨"com/example/inevitable_path/inevitablepath/smv/IntList", "removeDuplicates", "()V"⟩ : MethodName) prog_60_method_10_code 6 none ({ frames := 0, cells := 0, slots := 0, locals := 0 } : Room) [.ref a] h0 n0 (RN fun h => Exa Z h a "com/example/inevitable_path/inevitablepath/smv/IntList" ∧ Fld Z h a "com/example/inevitable_path/inevitablepath/smv/IntList" "values" "[I" (.ref r) ∧ Fld Z h a "com/example/inevitable_path/inevitablepath/smv/IntList" "size" "I" (.int (1 : Int32)) ∧ Av Z h r .int [.int v0, .int v1, .int v2, .int (0 : Int32), .int (0 : Int32), .int (0 : Int32), .int (0 : Int32), .int (0 : Int32)]) := by
  refine sat_of (own := "com/example/inevitable_path/inevitablepath/smv/IntList") (nm := "removeDuplicates") rfl rfl (plainFor_of_name pn_1) #[.val (.ref a), .unset, .unset, .unset, .unset, .unset] (fun m => by first | (simp [entryFrame, mkF, argsToLocals, Value.category, maxLocals]; done) | rfl) ?_
  intro p e s m below meth c C
  refine go_iconst C (0 : Int32) d4_0 (pc' := 1) rfl (by decide) ?_
  refine go_istoreN C (Ls' := #[.val (.ref a), .val (.int (0 : Int32)), .unset, .unset, .unset, .unset]) d4_1 (pc' := 2) rfl rfl ?_
  refine go_iconst C (0 : Int32) d4_2 (pc' := 3) rfl (by decide) ?_
  refine go_istoreN C (Ls' := #[.val (.ref a), .val (.int (0 : Int32)), .val (.int (0 : Int32)), .unset, .unset, .unset]) d4_3 (pc' := 4) rfl rfl ?_
  refine go_iloadN C d4_4 (pc' := 5) rfl rfl ?_
  refine go_aloadN C d4_5 (pc' := 6) rfl rfl rfl ?_
  refine go_getfield C (wd hw 21 rfl) F2 d4_6 (pc' := 9) rfl ?_
  refine go_icmp C (0 : Int) (3 : Int) (by decide) (by decide) d4_9 (by decide) (pc' := 81) (by decide) (pcN := 12) rfl (fun (c_1 : ¬ (0 : Int) < (3 : Int)) => by omega) (fun (c_1 : (0 : Int) < (3 : Int)) => ?_)
  refine go_aloadN C d4_12 (pc' := 13) rfl rfl rfl ?_
  refine go_getfield C (wd hw 14 rfl) F1 d4_13 (pc' := 16) rfl ?_
  refine go_iloadN C d4_16 (pc' := 17) rfl rfl ?_
  refine go_iaload C A1 0 (.int v0) (by decide) rfl d4_17 (pc' := 18) rfl ?_
  refine go_istoreN C (Ls' := #[.val (.ref a), .val (.int (0 : Int32)), .val (.int (0 : Int32)), .val (.int v0), .unset, .unset]) d4_18 (pc' := 19) rfl rfl ?_
  refine go_iconst C (0 : Int32) d4_19 (pc' := 20) rfl (by decide) ?_
  refine go_istore C (Ls' := #[.val (.ref a), .val (.int (0 : Int32)), .val (.int (0 : Int32)), .val (.int v0), .val (.int (0 : Int32)), .unset]) d4_20 (pc' := 22) rfl rfl ?_
  refine go_iconst C (0 : Int32) d4_22 (pc' := 23) rfl (by decide) ?_
  refine go_istore C (Ls' := #[.val (.ref a), .val (.int (0 : Int32)), .val (.int (0 : Int32)), .val (.int v0), .val (.int (0 : Int32)), .val (.int (0 : Int32))]) d4_23 (pc' := 25) rfl rfl ?_
  refine go_iload C d4_25 (pc' := 27) rfl rfl ?_
  refine go_iloadN C d4_27 (pc' := 28) rfl rfl ?_
  refine go_icmp C (0 : Int) (0 : Int) (by decide) (by decide) d4_28 (by decide) (pc' := 60) (by decide) (pcN := 31) rfl (fun (c_2 : ¬ (0 : Int) < (0 : Int)) => ?_) (fun (c_2 : (0 : Int) < (0 : Int)) => by omega)
  refine go_iload C d4_60 (pc' := 62) rfl rfl ?_
  refine go_if0 C (0 : Int) (by decide) d4_62 (by decide) (pc' := 75) (by decide) (pcN := 65) rfl (fun (c_3 : ¬ (0 : Int) = 0) => by omega) (fun (c_3 : (0 : Int) = 0) => ?_)
  refine go_aloadN C d4_65 (pc' := 66) rfl rfl rfl ?_
  refine go_getfield C (wd hw 14 rfl) F1 d4_66 (pc' := 69) rfl ?_
  refine go_iloadN C d4_69 (pc' := 70) rfl rfl ?_
  refine go_iinc C (Ls' := #[.val (.ref a), .val (.int ((0 : Int32) + (1 : Int32))), .val (.int (0 : Int32)), .val (.int v0), .val (.int (0 : Int32)), .val (.int (0 : Int32))]) (1 : Int32) d4_70 (pc' := 73) rfl (by decide) rfl rfl ?_
  rw [(by decide : (0 : Int32) + (1 : Int32) = (1 : Int32))]
  refine go_iloadN C d4_73 (pc' := 74) rfl rfl ?_
  refine go_iastore C A1 0 (by decide) (show 0 < 8 from by decide) gr d4_74 (pc' := 75) rfl ?_
  intro h_4 W_5 A_6
  have F_8 := Fld.other W_5 F1 (Or.inl (own_ne_arr E1 (wd hw 5 rfl) A1))
  have F_9 := Fld.other W_5 F2 (Or.inl (own_ne_arr E1 (wd hw 5 rfl) A1))
  have E_10 := Exa.wr W_5 E1
  have A_11 : Av Z h_4 r .int [.int v0, .int v1, .int v2, .int (0 : Int32), .int (0 : Int32), .int (0 : Int32), .int (0 : Int32), .int (0 : Int32)] := A_6
  refine go_iinc C (Ls' := #[.val (.ref a), .val (.int (1 : Int32)), .val (.int ((0 : Int32) + (1 : Int32))), .val (.int v0), .val (.int (0 : Int32)), .val (.int (0 : Int32))]) (1 : Int32) d4_75 (pc' := 78) rfl (by decide) rfl rfl ?_
  rw [(by decide : (0 : Int32) + (1 : Int32) = (1 : Int32))]
  refine go_goto C d4_78 (by decide) (pc' := 4) (by decide) ?_
  refine go_iloadN C d4_4 (pc' := 5) rfl rfl ?_
  refine go_aloadN C d4_5 (pc' := 6) rfl rfl rfl ?_
  refine go_getfield C (wd hw 21 rfl) F_9 d4_6 (pc' := 9) rfl ?_
  refine go_icmp C (1 : Int) (3 : Int) (by decide) (by decide) d4_9 (by decide) (pc' := 81) (by decide) (pcN := 12) rfl (fun (c_12 : ¬ (1 : Int) < (3 : Int)) => by omega) (fun (c_12 : (1 : Int) < (3 : Int)) => ?_)
  refine go_aloadN C d4_12 (pc' := 13) rfl rfl rfl ?_
  refine go_getfield C (wd hw 14 rfl) F_8 d4_13 (pc' := 16) rfl ?_
  refine go_iloadN C d4_16 (pc' := 17) rfl rfl ?_
  refine go_iaload C A_11 1 (.int v1) (by decide) rfl d4_17 (pc' := 18) rfl ?_
  refine go_istoreN C (Ls' := #[.val (.ref a), .val (.int (1 : Int32)), .val (.int (1 : Int32)), .val (.int v1), .val (.int (0 : Int32)), .val (.int (0 : Int32))]) d4_18 (pc' := 19) rfl rfl ?_
  refine go_iconst C (0 : Int32) d4_19 (pc' := 20) rfl (by decide) ?_
  refine go_istore C (Ls' := #[.val (.ref a), .val (.int (1 : Int32)), .val (.int (1 : Int32)), .val (.int v1), .val (.int (0 : Int32)), .val (.int (0 : Int32))]) d4_20 (pc' := 22) rfl rfl ?_
  refine go_iconst C (0 : Int32) d4_22 (pc' := 23) rfl (by decide) ?_
  refine go_istore C (Ls' := #[.val (.ref a), .val (.int (1 : Int32)), .val (.int (1 : Int32)), .val (.int v1), .val (.int (0 : Int32)), .val (.int (0 : Int32))]) d4_23 (pc' := 25) rfl rfl ?_
  refine go_iload C d4_25 (pc' := 27) rfl rfl ?_
  refine go_iloadN C d4_27 (pc' := 28) rfl rfl ?_
  refine go_icmp C (0 : Int) (1 : Int) (by decide) (by decide) d4_28 (by decide) (pc' := 60) (by decide) (pcN := 31) rfl (fun (c_13 : ¬ (0 : Int) < (1 : Int)) => by omega) (fun (c_13 : (0 : Int) < (1 : Int)) => ?_)
  refine go_iload C d4_31 (pc' := 33) rfl rfl ?_
  refine go_if0 C (0 : Int) (by decide) d4_33 (by decide) (pc' := 60) (by decide) (pcN := 36) rfl (fun (c_14 : ¬ (0 : Int) = 0) => by omega) (fun (c_14 : (0 : Int) = 0) => ?_)
  refine go_aloadN C d4_36 (pc' := 37) rfl rfl rfl ?_
  refine go_getfield C (wd hw 14 rfl) F_8 d4_37 (pc' := 40) rfl ?_
  refine go_iload C d4_40 (pc' := 42) rfl rfl ?_
  refine go_iaload C A_11 0 (.int v0) (by decide) rfl d4_42 (pc' := 43) rfl ?_
  refine go_iloadN C d4_43 (pc' := 44) rfl rfl ?_
  refine go_icmp C v0.toInt v1.toInt rfl rfl d4_44 (by decide) (pc' := 51) (by decide) (pcN := 47) rfl (fun (c_15 : ¬ v0.toInt = v1.toInt) => by omega) (fun (c_15 : v0.toInt = v1.toInt) => ?_)
  refine go_iconst C (1 : Int32) d4_47 (pc' := 48) rfl (by decide) ?_
  refine go_goto C d4_48 (by decide) (pc' := 52) (by decide) ?_
  refine go_istore C (Ls' := #[.val (.ref a), .val (.int (1 : Int32)), .val (.int (1 : Int32)), .val (.int v1), .val (.int (1 : Int32)), .val (.int (0 : Int32))]) d4_52 (pc' := 54) rfl rfl ?_
  refine go_iinc C (Ls' := #[.val (.ref a), .val (.int (1 : Int32)), .val (.int (1 : Int32)), .val (.int v1), .val (.int (1 : Int32)), .val (.int ((0 : Int32) + (1 : Int32)))]) (1 : Int32) d4_54 (pc' := 57) rfl (by decide) rfl rfl ?_
  rw [(by decide : (0 : Int32) + (1 : Int32) = (1 : Int32))]
  refine go_goto C d4_57 (by decide) (pc' := 25) (by decide) ?_
  refine go_iload C d4_25 (pc' := 27) rfl rfl ?_
  refine go_iloadN C d4_27 (pc' := 28) rfl rfl ?_
  refine go_icmp C (1 : Int) (1 : Int) (by decide) (by decide) d4_28 (by decide) (pc' := 60) (by decide) (pcN := 31) rfl (fun (c_16 : ¬ (1 : Int) < (1 : Int)) => ?_) (fun (c_16 : (1 : Int) < (1 : Int)) => by omega)
  refine go_iload C d4_60 (pc' := 62) rfl rfl ?_
  refine go_if0 C (1 : Int) (by decide) d4_62 (by decide) (pc' := 75) (by decide) (pcN := 65) rfl (fun (c_17 : ¬ (1 : Int) = 0) => ?_) (fun (c_17 : (1 : Int) = 0) => by omega)
  refine go_iinc C (Ls' := #[.val (.ref a), .val (.int (1 : Int32)), .val (.int ((1 : Int32) + (1 : Int32))), .val (.int v1), .val (.int (1 : Int32)), .val (.int (1 : Int32))]) (1 : Int32) d4_75 (pc' := 78) rfl (by decide) rfl rfl ?_
  rw [(by decide : (1 : Int32) + (1 : Int32) = (2 : Int32))]
  refine go_goto C d4_78 (by decide) (pc' := 4) (by decide) ?_
  refine go_iloadN C d4_4 (pc' := 5) rfl rfl ?_
  refine go_aloadN C d4_5 (pc' := 6) rfl rfl rfl ?_
  refine go_getfield C (wd hw 21 rfl) F_9 d4_6 (pc' := 9) rfl ?_
  refine go_icmp C (2 : Int) (3 : Int) (by decide) (by decide) d4_9 (by decide) (pc' := 81) (by decide) (pcN := 12) rfl (fun (c_18 : ¬ (2 : Int) < (3 : Int)) => by omega) (fun (c_18 : (2 : Int) < (3 : Int)) => ?_)
  refine go_aloadN C d4_12 (pc' := 13) rfl rfl rfl ?_
  refine go_getfield C (wd hw 14 rfl) F_8 d4_13 (pc' := 16) rfl ?_
  refine go_iloadN C d4_16 (pc' := 17) rfl rfl ?_
  refine go_iaload C A_11 2 (.int v2) (by decide) rfl d4_17 (pc' := 18) rfl ?_
  refine go_istoreN C (Ls' := #[.val (.ref a), .val (.int (1 : Int32)), .val (.int (2 : Int32)), .val (.int v2), .val (.int (1 : Int32)), .val (.int (1 : Int32))]) d4_18 (pc' := 19) rfl rfl ?_
  refine go_iconst C (0 : Int32) d4_19 (pc' := 20) rfl (by decide) ?_
  refine go_istore C (Ls' := #[.val (.ref a), .val (.int (1 : Int32)), .val (.int (2 : Int32)), .val (.int v2), .val (.int (0 : Int32)), .val (.int (1 : Int32))]) d4_20 (pc' := 22) rfl rfl ?_
  refine go_iconst C (0 : Int32) d4_22 (pc' := 23) rfl (by decide) ?_
  refine go_istore C (Ls' := #[.val (.ref a), .val (.int (1 : Int32)), .val (.int (2 : Int32)), .val (.int v2), .val (.int (0 : Int32)), .val (.int (0 : Int32))]) d4_23 (pc' := 25) rfl rfl ?_
  refine go_iload C d4_25 (pc' := 27) rfl rfl ?_
  refine go_iloadN C d4_27 (pc' := 28) rfl rfl ?_
  refine go_icmp C (0 : Int) (1 : Int) (by decide) (by decide) d4_28 (by decide) (pc' := 60) (by decide) (pcN := 31) rfl (fun (c_19 : ¬ (0 : Int) < (1 : Int)) => by omega) (fun (c_19 : (0 : Int) < (1 : Int)) => ?_)
  refine go_iload C d4_31 (pc' := 33) rfl rfl ?_
  refine go_if0 C (0 : Int) (by decide) d4_33 (by decide) (pc' := 60) (by decide) (pcN := 36) rfl (fun (c_20 : ¬ (0 : Int) = 0) => by omega) (fun (c_20 : (0 : Int) = 0) => ?_)
  refine go_aloadN C d4_36 (pc' := 37) rfl rfl rfl ?_
  refine go_getfield C (wd hw 14 rfl) F_8 d4_37 (pc' := 40) rfl ?_
  refine go_iload C d4_40 (pc' := 42) rfl rfl ?_
  refine go_iaload C A_11 0 (.int v0) (by decide) rfl d4_42 (pc' := 43) rfl ?_
  refine go_iloadN C d4_43 (pc' := 44) rfl rfl ?_
  refine go_icmp C v0.toInt v2.toInt rfl rfl d4_44 (by decide) (pc' := 51) (by decide) (pcN := 47) rfl (fun (c_21 : ¬ v0.toInt = v2.toInt) => by omega) (fun (c_21 : v0.toInt = v2.toInt) => ?_)
  refine go_iconst C (1 : Int32) d4_47 (pc' := 48) rfl (by decide) ?_
  refine go_goto C d4_48 (by decide) (pc' := 52) (by decide) ?_
  refine go_istore C (Ls' := #[.val (.ref a), .val (.int (1 : Int32)), .val (.int (2 : Int32)), .val (.int v2), .val (.int (1 : Int32)), .val (.int (0 : Int32))]) d4_52 (pc' := 54) rfl rfl ?_
  refine go_iinc C (Ls' := #[.val (.ref a), .val (.int (1 : Int32)), .val (.int (2 : Int32)), .val (.int v2), .val (.int (1 : Int32)), .val (.int ((0 : Int32) + (1 : Int32)))]) (1 : Int32) d4_54 (pc' := 57) rfl (by decide) rfl rfl ?_
  rw [(by decide : (0 : Int32) + (1 : Int32) = (1 : Int32))]
  refine go_goto C d4_57 (by decide) (pc' := 25) (by decide) ?_
  refine go_iload C d4_25 (pc' := 27) rfl rfl ?_
  refine go_iloadN C d4_27 (pc' := 28) rfl rfl ?_
  refine go_icmp C (1 : Int) (1 : Int) (by decide) (by decide) d4_28 (by decide) (pc' := 60) (by decide) (pcN := 31) rfl (fun (c_22 : ¬ (1 : Int) < (1 : Int)) => ?_) (fun (c_22 : (1 : Int) < (1 : Int)) => by omega)
  refine go_iload C d4_60 (pc' := 62) rfl rfl ?_
  refine go_if0 C (1 : Int) (by decide) d4_62 (by decide) (pc' := 75) (by decide) (pcN := 65) rfl (fun (c_23 : ¬ (1 : Int) = 0) => ?_) (fun (c_23 : (1 : Int) = 0) => by omega)
  refine go_iinc C (Ls' := #[.val (.ref a), .val (.int (1 : Int32)), .val (.int ((2 : Int32) + (1 : Int32))), .val (.int v2), .val (.int (1 : Int32)), .val (.int (1 : Int32))]) (1 : Int32) d4_75 (pc' := 78) rfl (by decide) rfl rfl ?_
  rw [(by decide : (2 : Int32) + (1 : Int32) = (3 : Int32))]
  refine go_goto C d4_78 (by decide) (pc' := 4) (by decide) ?_
  refine go_iloadN C d4_4 (pc' := 5) rfl rfl ?_
  refine go_aloadN C d4_5 (pc' := 6) rfl rfl rfl ?_
  refine go_getfield C (wd hw 21 rfl) F_9 d4_6 (pc' := 9) rfl ?_
  refine go_icmp C (3 : Int) (3 : Int) (by decide) (by decide) d4_9 (by decide) (pc' := 81) (by decide) (pcN := 12) rfl (fun (c_24 : ¬ (3 : Int) < (3 : Int)) => ?_) (fun (c_24 : (3 : Int) < (3 : Int)) => by omega)
  refine go_aloadN C d4_81 (pc' := 82) rfl rfl rfl ?_
  refine go_iloadN C d4_82 (pc' := 83) rfl rfl ?_
  refine go_putfield C (wd hw 21 rfl) F_9 E_10 (Or.inl (wd hw 22 rfl)) (wd hw 5 rfl) (ty := .int) (by decide) rfl rfl ga d4_83 (pc' := 86) rfl ?_
  intro h_25 W_26
  have F_27 := Fld.other W_26 F_8 (Or.inr (slot_ne (a0 := a0) (Or.inl (wd hw 15 rfl)) (Or.inl (wd hw 22 rfl)) (by decide) (t := (.array .int)) (t' := .int) (by decide) (by decide)))
  have F_28 := Fld.same W_26 F_9
  have E_29 := Exa.wr W_26 E_10
  have A_30 := Av.other A_11 W_26 (Ne.symm (own_ne_arr E_10 (wd hw 5 rfl) A_11))
  refine go_return C rfl d4_86 (by decide) (by decide) ?_
  exact ⟨rfl, E_29, F_27, F_28, A_30⟩
set_option maxRecDepth 65536 in
set_option maxHeartbeats 40000000 in
theorem sat_rd4ttt (l : Launch) (Z : State) (a0 : Array Value) (hw : ∀ d ∈ tables_1, d.before a0 Z = true) (a r : Addr) (v0 v1 v2 v3 : Int32) (h0 : Heap) (n0 : Nat) (hf1 : ¬ v1.toInt = v0.toInt) (hf2 : ¬ v2.toInt = v0.toInt ∧ ¬ v2.toInt = v1.toInt) (hf3 : ¬ v3.toInt = v0.toInt ∧ ¬ v3.toInt = v1.toInt ∧ ¬ v3.toInt = v2.toInt) (E1 : Exa Z h0 a "com/example/inevitable_path/inevitablepath/smv/IntList") (F1 : Fld Z h0 a "com/example/inevitable_path/inevitablepath/smv/IntList" "values" "[I" (.ref r)) (F2 : Fld Z h0 a "com/example/inevitable_path/inevitablepath/smv/IntList" "size" "I" (.int (4 : Int32))) (A1 : Av Z h0 r .int [.int v0, .int v1, .int v2, .int v3, .int (0 : Int32), .int (0 : Int32), .int (0 : Int32), .int (0 : Int32)]) (ga : n0 ≤ a) (gr : n0 ≤ r) :
    Sat l Z (⟨"com/example/inevitable_path/inevitablepath/smv/IntList", "removeDuplicates", "()V"⟩ : MethodName) prog_60_method_10_code 6 none ({ frames := 0, cells := 0, slots := 0, locals := 0 } : Room) [.ref a] h0 n0 (RN fun h => Exa Z h a "com/example/inevitable_path/inevitablepath/smv/IntList" ∧ Fld Z h a "com/example/inevitable_path/inevitablepath/smv/IntList" "values" "[I" (.ref r) ∧ Fld Z h a "com/example/inevitable_path/inevitablepath/smv/IntList" "size" "I" (.int (4 : Int32)) ∧ Av Z h r .int [.int v0, .int v1, .int v2, .int v3, .int (0 : Int32), .int (0 : Int32), .int (0 : Int32), .int (0 : Int32)]) := by
  refine sat_of (own := "com/example/inevitable_path/inevitablepath/smv/IntList") (nm := "removeDuplicates") rfl rfl (plainFor_of_name pn_1) #[.val (.ref a), .unset, .unset, .unset, .unset, .unset] (fun m => by first | (simp [entryFrame, mkF, argsToLocals, Value.category, maxLocals]; done) | rfl) ?_
  intro p e s m below meth c C
  refine go_iconst C (0 : Int32) d4_0 (pc' := 1) rfl (by decide) ?_
  refine go_istoreN C (Ls' := #[.val (.ref a), .val (.int (0 : Int32)), .unset, .unset, .unset, .unset]) d4_1 (pc' := 2) rfl rfl ?_
  refine go_iconst C (0 : Int32) d4_2 (pc' := 3) rfl (by decide) ?_
  refine go_istoreN C (Ls' := #[.val (.ref a), .val (.int (0 : Int32)), .val (.int (0 : Int32)), .unset, .unset, .unset]) d4_3 (pc' := 4) rfl rfl ?_
  refine go_iloadN C d4_4 (pc' := 5) rfl rfl ?_
  refine go_aloadN C d4_5 (pc' := 6) rfl rfl rfl ?_
  refine go_getfield C (wd hw 21 rfl) F2 d4_6 (pc' := 9) rfl ?_
  refine go_icmp C (0 : Int) (4 : Int) (by decide) (by decide) d4_9 (by decide) (pc' := 81) (by decide) (pcN := 12) rfl (fun (c_1 : ¬ (0 : Int) < (4 : Int)) => by omega) (fun (c_1 : (0 : Int) < (4 : Int)) => ?_)
  refine go_aloadN C d4_12 (pc' := 13) rfl rfl rfl ?_
  refine go_getfield C (wd hw 14 rfl) F1 d4_13 (pc' := 16) rfl ?_
  refine go_iloadN C d4_16 (pc' := 17) rfl rfl ?_
  refine go_iaload C A1 0 (.int v0) (by decide) rfl d4_17 (pc' := 18) rfl ?_
  refine go_istoreN C (Ls' := #[.val (.ref a), .val (.int (0 : Int32)), .val (.int (0 : Int32)), .val (.int v0), .unset, .unset]) d4_18 (pc' := 19) rfl rfl ?_
  refine go_iconst C (0 : Int32) d4_19 (pc' := 20) rfl (by decide) ?_
  refine go_istore C (Ls' := #[.val (.ref a), .val (.int (0 : Int32)), .val (.int (0 : Int32)), .val (.int v0), .val (.int (0 : Int32)), .unset]) d4_20 (pc' := 22) rfl rfl ?_
  refine go_iconst C (0 : Int32) d4_22 (pc' := 23) rfl (by decide) ?_
  refine go_istore C (Ls' := #[.val (.ref a), .val (.int (0 : Int32)), .val (.int (0 : Int32)), .val (.int v0), .val (.int (0 : Int32)), .val (.int (0 : Int32))]) d4_23 (pc' := 25) rfl rfl ?_
  refine go_iload C d4_25 (pc' := 27) rfl rfl ?_
  refine go_iloadN C d4_27 (pc' := 28) rfl rfl ?_
  refine go_icmp C (0 : Int) (0 : Int) (by decide) (by decide) d4_28 (by decide) (pc' := 60) (by decide) (pcN := 31) rfl (fun (c_2 : ¬ (0 : Int) < (0 : Int)) => ?_) (fun (c_2 : (0 : Int) < (0 : Int)) => by omega)
  refine go_iload C d4_60 (pc' := 62) rfl rfl ?_
  refine go_if0 C (0 : Int) (by decide) d4_62 (by decide) (pc' := 75) (by decide) (pcN := 65) rfl (fun (c_3 : ¬ (0 : Int) = 0) => by omega) (fun (c_3 : (0 : Int) = 0) => ?_)
  refine go_aloadN C d4_65 (pc' := 66) rfl rfl rfl ?_
  refine go_getfield C (wd hw 14 rfl) F1 d4_66 (pc' := 69) rfl ?_
  refine go_iloadN C d4_69 (pc' := 70) rfl rfl ?_
  refine go_iinc C (Ls' := #[.val (.ref a), .val (.int ((0 : Int32) + (1 : Int32))), .val (.int (0 : Int32)), .val (.int v0), .val (.int (0 : Int32)), .val (.int (0 : Int32))]) (1 : Int32) d4_70 (pc' := 73) rfl (by decide) rfl rfl ?_
  rw [(by decide : (0 : Int32) + (1 : Int32) = (1 : Int32))]
  refine go_iloadN C d4_73 (pc' := 74) rfl rfl ?_
  refine go_iastore C A1 0 (by decide) (show 0 < 8 from by decide) gr d4_74 (pc' := 75) rfl ?_
  intro h_4 W_5 A_6
  have F_8 := Fld.other W_5 F1 (Or.inl (own_ne_arr E1 (wd hw 5 rfl) A1))
  have F_9 := Fld.other W_5 F2 (Or.inl (own_ne_arr E1 (wd hw 5 rfl) A1))
  have E_10 := Exa.wr W_5 E1
  have A_11 : Av Z h_4 r .int [.int v0, .int v1, .int v2, .int v3, .int (0 : Int32), .int (0 : Int32), .int (0 : Int32), .int (0 : Int32)] := A_6
  refine go_iinc C (Ls' := #[.val (.ref a), .val (.int (1 : Int32)), .val (.int ((0 : Int32) + (1 : Int32))), .val (.int v0), .val (.int (0 : Int32)), .val (.int (0 : Int32))]) (1 : Int32) d4_75 (pc' := 78) rfl (by decide) rfl rfl ?_
  rw [(by decide : (0 : Int32) + (1 : Int32) = (1 : Int32))]
  refine go_goto C d4_78 (by decide) (pc' := 4) (by decide) ?_
  refine go_iloadN C d4_4 (pc' := 5) rfl rfl ?_
  refine go_aloadN C d4_5 (pc' := 6) rfl rfl rfl ?_
  refine go_getfield C (wd hw 21 rfl) F_9 d4_6 (pc' := 9) rfl ?_
  refine go_icmp C (1 : Int) (4 : Int) (by decide) (by decide) d4_9 (by decide) (pc' := 81) (by decide) (pcN := 12) rfl (fun (c_12 : ¬ (1 : Int) < (4 : Int)) => by omega) (fun (c_12 : (1 : Int) < (4 : Int)) => ?_)
  refine go_aloadN C d4_12 (pc' := 13) rfl rfl rfl ?_
  refine go_getfield C (wd hw 14 rfl) F_8 d4_13 (pc' := 16) rfl ?_
  refine go_iloadN C d4_16 (pc' := 17) rfl rfl ?_
  refine go_iaload C A_11 1 (.int v1) (by decide) rfl d4_17 (pc' := 18) rfl ?_
  refine go_istoreN C (Ls' := #[.val (.ref a), .val (.int (1 : Int32)), .val (.int (1 : Int32)), .val (.int v1), .val (.int (0 : Int32)), .val (.int (0 : Int32))]) d4_18 (pc' := 19) rfl rfl ?_
  refine go_iconst C (0 : Int32) d4_19 (pc' := 20) rfl (by decide) ?_
  refine go_istore C (Ls' := #[.val (.ref a), .val (.int (1 : Int32)), .val (.int (1 : Int32)), .val (.int v1), .val (.int (0 : Int32)), .val (.int (0 : Int32))]) d4_20 (pc' := 22) rfl rfl ?_
  refine go_iconst C (0 : Int32) d4_22 (pc' := 23) rfl (by decide) ?_
  refine go_istore C (Ls' := #[.val (.ref a), .val (.int (1 : Int32)), .val (.int (1 : Int32)), .val (.int v1), .val (.int (0 : Int32)), .val (.int (0 : Int32))]) d4_23 (pc' := 25) rfl rfl ?_
  refine go_iload C d4_25 (pc' := 27) rfl rfl ?_
  refine go_iloadN C d4_27 (pc' := 28) rfl rfl ?_
  refine go_icmp C (0 : Int) (1 : Int) (by decide) (by decide) d4_28 (by decide) (pc' := 60) (by decide) (pcN := 31) rfl (fun (c_13 : ¬ (0 : Int) < (1 : Int)) => by omega) (fun (c_13 : (0 : Int) < (1 : Int)) => ?_)
  refine go_iload C d4_31 (pc' := 33) rfl rfl ?_
  refine go_if0 C (0 : Int) (by decide) d4_33 (by decide) (pc' := 60) (by decide) (pcN := 36) rfl (fun (c_14 : ¬ (0 : Int) = 0) => by omega) (fun (c_14 : (0 : Int) = 0) => ?_)
  refine go_aloadN C d4_36 (pc' := 37) rfl rfl rfl ?_
  refine go_getfield C (wd hw 14 rfl) F_8 d4_37 (pc' := 40) rfl ?_
  refine go_iload C d4_40 (pc' := 42) rfl rfl ?_
  refine go_iaload C A_11 0 (.int v0) (by decide) rfl d4_42 (pc' := 43) rfl ?_
  refine go_iloadN C d4_43 (pc' := 44) rfl rfl ?_
  refine go_icmp C v0.toInt v1.toInt rfl rfl d4_44 (by decide) (pc' := 51) (by decide) (pcN := 47) rfl (fun (c_15 : ¬ v0.toInt = v1.toInt) => ?_) (fun (c_15 : v0.toInt = v1.toInt) => by omega)
  refine go_iconst C (0 : Int32) d4_51 (pc' := 52) rfl (by decide) ?_
  refine go_istore C (Ls' := #[.val (.ref a), .val (.int (1 : Int32)), .val (.int (1 : Int32)), .val (.int v1), .val (.int (0 : Int32)), .val (.int (0 : Int32))]) d4_52 (pc' := 54) rfl rfl ?_
  refine go_iinc C (Ls' := #[.val (.ref a), .val (.int (1 : Int32)), .val (.int (1 : Int32)), .val (.int v1), .val (.int (0 : Int32)), .val (.int ((0 : Int32) + (1 : Int32)))]) (1 : Int32) d4_54 (pc' := 57) rfl (by decide) rfl rfl ?_
  rw [(by decide : (0 : Int32) + (1 : Int32) = (1 : Int32))]
  refine go_goto C d4_57 (by decide) (pc' := 25) (by decide) ?_
  refine go_iload C d4_25 (pc' := 27) rfl rfl ?_
  refine go_iloadN C d4_27 (pc' := 28) rfl rfl ?_
  refine go_icmp C (1 : Int) (1 : Int) (by decide) (by decide) d4_28 (by decide) (pc' := 60) (by decide) (pcN := 31) rfl (fun (c_16 : ¬ (1 : Int) < (1 : Int)) => ?_) (fun (c_16 : (1 : Int) < (1 : Int)) => by omega)
  refine go_iload C d4_60 (pc' := 62) rfl rfl ?_
  refine go_if0 C (0 : Int) (by decide) d4_62 (by decide) (pc' := 75) (by decide) (pcN := 65) rfl (fun (c_17 : ¬ (0 : Int) = 0) => by omega) (fun (c_17 : (0 : Int) = 0) => ?_)
  refine go_aloadN C d4_65 (pc' := 66) rfl rfl rfl ?_
  refine go_getfield C (wd hw 14 rfl) F_8 d4_66 (pc' := 69) rfl ?_
  refine go_iloadN C d4_69 (pc' := 70) rfl rfl ?_
  refine go_iinc C (Ls' := #[.val (.ref a), .val (.int ((1 : Int32) + (1 : Int32))), .val (.int (1 : Int32)), .val (.int v1), .val (.int (0 : Int32)), .val (.int (1 : Int32))]) (1 : Int32) d4_70 (pc' := 73) rfl (by decide) rfl rfl ?_
  rw [(by decide : (1 : Int32) + (1 : Int32) = (2 : Int32))]
  refine go_iloadN C d4_73 (pc' := 74) rfl rfl ?_
  refine go_iastore C A_11 1 (by decide) (show 1 < 8 from by decide) gr d4_74 (pc' := 75) rfl ?_
  intro h_18 W_19 A_20
  have F_22 := Fld.other W_19 F_8 (Or.inl (own_ne_arr E_10 (wd hw 5 rfl) A_11))
  have F_23 := Fld.other W_19 F_9 (Or.inl (own_ne_arr E_10 (wd hw 5 rfl) A_11))
  have E_24 := Exa.wr W_19 E_10
  have A_25 : Av Z h_18 r .int [.int v0, .int v1, .int v2, .int v3, .int (0 : Int32), .int (0 : Int32), .int (0 : Int32), .int (0 : Int32)] := A_20
  refine go_iinc C (Ls' := #[.val (.ref a), .val (.int (2 : Int32)), .val (.int ((1 : Int32) + (1 : Int32))), .val (.int v1), .val (.int (0 : Int32)), .val (.int (1 : Int32))]) (1 : Int32) d4_75 (pc' := 78) rfl (by decide) rfl rfl ?_
  rw [(by decide : (1 : Int32) + (1 : Int32) = (2 : Int32))]
  refine go_goto C d4_78 (by decide) (pc' := 4) (by decide) ?_
  refine go_iloadN C d4_4 (pc' := 5) rfl rfl ?_
  refine go_aloadN C d4_5 (pc' := 6) rfl rfl rfl ?_
  refine go_getfield C (wd hw 21 rfl) F_23 d4_6 (pc' := 9) rfl ?_
  refine go_icmp C (2 : Int) (4 : Int) (by decide) (by decide) d4_9 (by decide) (pc' := 81) (by decide) (pcN := 12) rfl (fun (c_26 : ¬ (2 : Int) < (4 : Int)) => by omega) (fun (c_26 : (2 : Int) < (4 : Int)) => ?_)
  refine go_aloadN C d4_12 (pc' := 13) rfl rfl rfl ?_
  refine go_getfield C (wd hw 14 rfl) F_22 d4_13 (pc' := 16) rfl ?_
  refine go_iloadN C d4_16 (pc' := 17) rfl rfl ?_
  refine go_iaload C A_25 2 (.int v2) (by decide) rfl d4_17 (pc' := 18) rfl ?_
  refine go_istoreN C (Ls' := #[.val (.ref a), .val (.int (2 : Int32)), .val (.int (2 : Int32)), .val (.int v2), .val (.int (0 : Int32)), .val (.int (1 : Int32))]) d4_18 (pc' := 19) rfl rfl ?_
  refine go_iconst C (0 : Int32) d4_19 (pc' := 20) rfl (by decide) ?_
  refine go_istore C (Ls' := #[.val (.ref a), .val (.int (2 : Int32)), .val (.int (2 : Int32)), .val (.int v2), .val (.int (0 : Int32)), .val (.int (1 : Int32))]) d4_20 (pc' := 22) rfl rfl ?_
  refine go_iconst C (0 : Int32) d4_22 (pc' := 23) rfl (by decide) ?_
  refine go_istore C (Ls' := #[.val (.ref a), .val (.int (2 : Int32)), .val (.int (2 : Int32)), .val (.int v2), .val (.int (0 : Int32)), .val (.int (0 : Int32))]) d4_23 (pc' := 25) rfl rfl ?_
  refine go_iload C d4_25 (pc' := 27) rfl rfl ?_
  refine go_iloadN C d4_27 (pc' := 28) rfl rfl ?_
  refine go_icmp C (0 : Int) (2 : Int) (by decide) (by decide) d4_28 (by decide) (pc' := 60) (by decide) (pcN := 31) rfl (fun (c_27 : ¬ (0 : Int) < (2 : Int)) => by omega) (fun (c_27 : (0 : Int) < (2 : Int)) => ?_)
  refine go_iload C d4_31 (pc' := 33) rfl rfl ?_
  refine go_if0 C (0 : Int) (by decide) d4_33 (by decide) (pc' := 60) (by decide) (pcN := 36) rfl (fun (c_28 : ¬ (0 : Int) = 0) => by omega) (fun (c_28 : (0 : Int) = 0) => ?_)
  refine go_aloadN C d4_36 (pc' := 37) rfl rfl rfl ?_
  refine go_getfield C (wd hw 14 rfl) F_22 d4_37 (pc' := 40) rfl ?_
  refine go_iload C d4_40 (pc' := 42) rfl rfl ?_
  refine go_iaload C A_25 0 (.int v0) (by decide) rfl d4_42 (pc' := 43) rfl ?_
  refine go_iloadN C d4_43 (pc' := 44) rfl rfl ?_
  refine go_icmp C v0.toInt v2.toInt rfl rfl d4_44 (by decide) (pc' := 51) (by decide) (pcN := 47) rfl (fun (c_29 : ¬ v0.toInt = v2.toInt) => ?_) (fun (c_29 : v0.toInt = v2.toInt) => by omega)
  refine go_iconst C (0 : Int32) d4_51 (pc' := 52) rfl (by decide) ?_
  refine go_istore C (Ls' := #[.val (.ref a), .val (.int (2 : Int32)), .val (.int (2 : Int32)), .val (.int v2), .val (.int (0 : Int32)), .val (.int (0 : Int32))]) d4_52 (pc' := 54) rfl rfl ?_
  refine go_iinc C (Ls' := #[.val (.ref a), .val (.int (2 : Int32)), .val (.int (2 : Int32)), .val (.int v2), .val (.int (0 : Int32)), .val (.int ((0 : Int32) + (1 : Int32)))]) (1 : Int32) d4_54 (pc' := 57) rfl (by decide) rfl rfl ?_
  rw [(by decide : (0 : Int32) + (1 : Int32) = (1 : Int32))]
  refine go_goto C d4_57 (by decide) (pc' := 25) (by decide) ?_
  refine go_iload C d4_25 (pc' := 27) rfl rfl ?_
  refine go_iloadN C d4_27 (pc' := 28) rfl rfl ?_
  refine go_icmp C (1 : Int) (2 : Int) (by decide) (by decide) d4_28 (by decide) (pc' := 60) (by decide) (pcN := 31) rfl (fun (c_30 : ¬ (1 : Int) < (2 : Int)) => by omega) (fun (c_30 : (1 : Int) < (2 : Int)) => ?_)
  refine go_iload C d4_31 (pc' := 33) rfl rfl ?_
  refine go_if0 C (0 : Int) (by decide) d4_33 (by decide) (pc' := 60) (by decide) (pcN := 36) rfl (fun (c_31 : ¬ (0 : Int) = 0) => by omega) (fun (c_31 : (0 : Int) = 0) => ?_)
  refine go_aloadN C d4_36 (pc' := 37) rfl rfl rfl ?_
  refine go_getfield C (wd hw 14 rfl) F_22 d4_37 (pc' := 40) rfl ?_
  refine go_iload C d4_40 (pc' := 42) rfl rfl ?_
  refine go_iaload C A_25 1 (.int v1) (by decide) rfl d4_42 (pc' := 43) rfl ?_
  refine go_iloadN C d4_43 (pc' := 44) rfl rfl ?_
  refine go_icmp C v1.toInt v2.toInt rfl rfl d4_44 (by decide) (pc' := 51) (by decide) (pcN := 47) rfl (fun (c_32 : ¬ v1.toInt = v2.toInt) => ?_) (fun (c_32 : v1.toInt = v2.toInt) => by omega)
  refine go_iconst C (0 : Int32) d4_51 (pc' := 52) rfl (by decide) ?_
  refine go_istore C (Ls' := #[.val (.ref a), .val (.int (2 : Int32)), .val (.int (2 : Int32)), .val (.int v2), .val (.int (0 : Int32)), .val (.int (1 : Int32))]) d4_52 (pc' := 54) rfl rfl ?_
  refine go_iinc C (Ls' := #[.val (.ref a), .val (.int (2 : Int32)), .val (.int (2 : Int32)), .val (.int v2), .val (.int (0 : Int32)), .val (.int ((1 : Int32) + (1 : Int32)))]) (1 : Int32) d4_54 (pc' := 57) rfl (by decide) rfl rfl ?_
  rw [(by decide : (1 : Int32) + (1 : Int32) = (2 : Int32))]
  refine go_goto C d4_57 (by decide) (pc' := 25) (by decide) ?_
  refine go_iload C d4_25 (pc' := 27) rfl rfl ?_
  refine go_iloadN C d4_27 (pc' := 28) rfl rfl ?_
  refine go_icmp C (2 : Int) (2 : Int) (by decide) (by decide) d4_28 (by decide) (pc' := 60) (by decide) (pcN := 31) rfl (fun (c_33 : ¬ (2 : Int) < (2 : Int)) => ?_) (fun (c_33 : (2 : Int) < (2 : Int)) => by omega)
  refine go_iload C d4_60 (pc' := 62) rfl rfl ?_
  refine go_if0 C (0 : Int) (by decide) d4_62 (by decide) (pc' := 75) (by decide) (pcN := 65) rfl (fun (c_34 : ¬ (0 : Int) = 0) => by omega) (fun (c_34 : (0 : Int) = 0) => ?_)
  refine go_aloadN C d4_65 (pc' := 66) rfl rfl rfl ?_
  refine go_getfield C (wd hw 14 rfl) F_22 d4_66 (pc' := 69) rfl ?_
  refine go_iloadN C d4_69 (pc' := 70) rfl rfl ?_
  refine go_iinc C (Ls' := #[.val (.ref a), .val (.int ((2 : Int32) + (1 : Int32))), .val (.int (2 : Int32)), .val (.int v2), .val (.int (0 : Int32)), .val (.int (2 : Int32))]) (1 : Int32) d4_70 (pc' := 73) rfl (by decide) rfl rfl ?_
  rw [(by decide : (2 : Int32) + (1 : Int32) = (3 : Int32))]
  refine go_iloadN C d4_73 (pc' := 74) rfl rfl ?_
  refine go_iastore C A_25 2 (by decide) (show 2 < 8 from by decide) gr d4_74 (pc' := 75) rfl ?_
  intro h_35 W_36 A_37
  have F_39 := Fld.other W_36 F_22 (Or.inl (own_ne_arr E_24 (wd hw 5 rfl) A_25))
  have F_40 := Fld.other W_36 F_23 (Or.inl (own_ne_arr E_24 (wd hw 5 rfl) A_25))
  have E_41 := Exa.wr W_36 E_24
  have A_42 : Av Z h_35 r .int [.int v0, .int v1, .int v2, .int v3, .int (0 : Int32), .int (0 : Int32), .int (0 : Int32), .int (0 : Int32)] := A_37
  refine go_iinc C (Ls' := #[.val (.ref a), .val (.int (3 : Int32)), .val (.int ((2 : Int32) + (1 : Int32))), .val (.int v2), .val (.int (0 : Int32)), .val (.int (2 : Int32))]) (1 : Int32) d4_75 (pc' := 78) rfl (by decide) rfl rfl ?_
  rw [(by decide : (2 : Int32) + (1 : Int32) = (3 : Int32))]
  refine go_goto C d4_78 (by decide) (pc' := 4) (by decide) ?_
  refine go_iloadN C d4_4 (pc' := 5) rfl rfl ?_
  refine go_aloadN C d4_5 (pc' := 6) rfl rfl rfl ?_
  refine go_getfield C (wd hw 21 rfl) F_40 d4_6 (pc' := 9) rfl ?_
  refine go_icmp C (3 : Int) (4 : Int) (by decide) (by decide) d4_9 (by decide) (pc' := 81) (by decide) (pcN := 12) rfl (fun (c_43 : ¬ (3 : Int) < (4 : Int)) => by omega) (fun (c_43 : (3 : Int) < (4 : Int)) => ?_)
  refine go_aloadN C d4_12 (pc' := 13) rfl rfl rfl ?_
  refine go_getfield C (wd hw 14 rfl) F_39 d4_13 (pc' := 16) rfl ?_
  refine go_iloadN C d4_16 (pc' := 17) rfl rfl ?_
  refine go_iaload C A_42 3 (.int v3) (by decide) rfl d4_17 (pc' := 18) rfl ?_
  refine go_istoreN C (Ls' := #[.val (.ref a), .val (.int (3 : Int32)), .val (.int (3 : Int32)), .val (.int v3), .val (.int (0 : Int32)), .val (.int (2 : Int32))]) d4_18 (pc' := 19) rfl rfl ?_
  refine go_iconst C (0 : Int32) d4_19 (pc' := 20) rfl (by decide) ?_
  refine go_istore C (Ls' := #[.val (.ref a), .val (.int (3 : Int32)), .val (.int (3 : Int32)), .val (.int v3), .val (.int (0 : Int32)), .val (.int (2 : Int32))]) d4_20 (pc' := 22) rfl rfl ?_
  refine go_iconst C (0 : Int32) d4_22 (pc' := 23) rfl (by decide) ?_
  refine go_istore C (Ls' := #[.val (.ref a), .val (.int (3 : Int32)), .val (.int (3 : Int32)), .val (.int v3), .val (.int (0 : Int32)), .val (.int (0 : Int32))]) d4_23 (pc' := 25) rfl rfl ?_
  refine go_iload C d4_25 (pc' := 27) rfl rfl ?_
  refine go_iloadN C d4_27 (pc' := 28) rfl rfl ?_
  refine go_icmp C (0 : Int) (3 : Int) (by decide) (by decide) d4_28 (by decide) (pc' := 60) (by decide) (pcN := 31) rfl (fun (c_44 : ¬ (0 : Int) < (3 : Int)) => by omega) (fun (c_44 : (0 : Int) < (3 : Int)) => ?_)
  refine go_iload C d4_31 (pc' := 33) rfl rfl ?_
  refine go_if0 C (0 : Int) (by decide) d4_33 (by decide) (pc' := 60) (by decide) (pcN := 36) rfl (fun (c_45 : ¬ (0 : Int) = 0) => by omega) (fun (c_45 : (0 : Int) = 0) => ?_)
  refine go_aloadN C d4_36 (pc' := 37) rfl rfl rfl ?_
  refine go_getfield C (wd hw 14 rfl) F_39 d4_37 (pc' := 40) rfl ?_
  refine go_iload C d4_40 (pc' := 42) rfl rfl ?_
  refine go_iaload C A_42 0 (.int v0) (by decide) rfl d4_42 (pc' := 43) rfl ?_
  refine go_iloadN C d4_43 (pc' := 44) rfl rfl ?_
  refine go_icmp C v0.toInt v3.toInt rfl rfl d4_44 (by decide) (pc' := 51) (by decide) (pcN := 47) rfl (fun (c_46 : ¬ v0.toInt = v3.toInt) => ?_) (fun (c_46 : v0.toInt = v3.toInt) => by omega)
  refine go_iconst C (0 : Int32) d4_51 (pc' := 52) rfl (by decide) ?_
  refine go_istore C (Ls' := #[.val (.ref a), .val (.int (3 : Int32)), .val (.int (3 : Int32)), .val (.int v3), .val (.int (0 : Int32)), .val (.int (0 : Int32))]) d4_52 (pc' := 54) rfl rfl ?_
  refine go_iinc C (Ls' := #[.val (.ref a), .val (.int (3 : Int32)), .val (.int (3 : Int32)), .val (.int v3), .val (.int (0 : Int32)), .val (.int ((0 : Int32) + (1 : Int32)))]) (1 : Int32) d4_54 (pc' := 57) rfl (by decide) rfl rfl ?_
  rw [(by decide : (0 : Int32) + (1 : Int32) = (1 : Int32))]
  refine go_goto C d4_57 (by decide) (pc' := 25) (by decide) ?_
  refine go_iload C d4_25 (pc' := 27) rfl rfl ?_
  refine go_iloadN C d4_27 (pc' := 28) rfl rfl ?_
  refine go_icmp C (1 : Int) (3 : Int) (by decide) (by decide) d4_28 (by decide) (pc' := 60) (by decide) (pcN := 31) rfl (fun (c_47 : ¬ (1 : Int) < (3 : Int)) => by omega) (fun (c_47 : (1 : Int) < (3 : Int)) => ?_)
  refine go_iload C d4_31 (pc' := 33) rfl rfl ?_
  refine go_if0 C (0 : Int) (by decide) d4_33 (by decide) (pc' := 60) (by decide) (pcN := 36) rfl (fun (c_48 : ¬ (0 : Int) = 0) => by omega) (fun (c_48 : (0 : Int) = 0) => ?_)
  refine go_aloadN C d4_36 (pc' := 37) rfl rfl rfl ?_
  refine go_getfield C (wd hw 14 rfl) F_39 d4_37 (pc' := 40) rfl ?_
  refine go_iload C d4_40 (pc' := 42) rfl rfl ?_
  refine go_iaload C A_42 1 (.int v1) (by decide) rfl d4_42 (pc' := 43) rfl ?_
  refine go_iloadN C d4_43 (pc' := 44) rfl rfl ?_
  refine go_icmp C v1.toInt v3.toInt rfl rfl d4_44 (by decide) (pc' := 51) (by decide) (pcN := 47) rfl (fun (c_49 : ¬ v1.toInt = v3.toInt) => ?_) (fun (c_49 : v1.toInt = v3.toInt) => by omega)
  refine go_iconst C (0 : Int32) d4_51 (pc' := 52) rfl (by decide) ?_
  refine go_istore C (Ls' := #[.val (.ref a), .val (.int (3 : Int32)), .val (.int (3 : Int32)), .val (.int v3), .val (.int (0 : Int32)), .val (.int (1 : Int32))]) d4_52 (pc' := 54) rfl rfl ?_
  refine go_iinc C (Ls' := #[.val (.ref a), .val (.int (3 : Int32)), .val (.int (3 : Int32)), .val (.int v3), .val (.int (0 : Int32)), .val (.int ((1 : Int32) + (1 : Int32)))]) (1 : Int32) d4_54 (pc' := 57) rfl (by decide) rfl rfl ?_
  rw [(by decide : (1 : Int32) + (1 : Int32) = (2 : Int32))]
  refine go_goto C d4_57 (by decide) (pc' := 25) (by decide) ?_
  refine go_iload C d4_25 (pc' := 27) rfl rfl ?_
  refine go_iloadN C d4_27 (pc' := 28) rfl rfl ?_
  refine go_icmp C (2 : Int) (3 : Int) (by decide) (by decide) d4_28 (by decide) (pc' := 60) (by decide) (pcN := 31) rfl (fun (c_50 : ¬ (2 : Int) < (3 : Int)) => by omega) (fun (c_50 : (2 : Int) < (3 : Int)) => ?_)
  refine go_iload C d4_31 (pc' := 33) rfl rfl ?_
  refine go_if0 C (0 : Int) (by decide) d4_33 (by decide) (pc' := 60) (by decide) (pcN := 36) rfl (fun (c_51 : ¬ (0 : Int) = 0) => by omega) (fun (c_51 : (0 : Int) = 0) => ?_)
  refine go_aloadN C d4_36 (pc' := 37) rfl rfl rfl ?_
  refine go_getfield C (wd hw 14 rfl) F_39 d4_37 (pc' := 40) rfl ?_
  refine go_iload C d4_40 (pc' := 42) rfl rfl ?_
  refine go_iaload C A_42 2 (.int v2) (by decide) rfl d4_42 (pc' := 43) rfl ?_
  refine go_iloadN C d4_43 (pc' := 44) rfl rfl ?_
  refine go_icmp C v2.toInt v3.toInt rfl rfl d4_44 (by decide) (pc' := 51) (by decide) (pcN := 47) rfl (fun (c_52 : ¬ v2.toInt = v3.toInt) => ?_) (fun (c_52 : v2.toInt = v3.toInt) => by omega)
  refine go_iconst C (0 : Int32) d4_51 (pc' := 52) rfl (by decide) ?_
  refine go_istore C (Ls' := #[.val (.ref a), .val (.int (3 : Int32)), .val (.int (3 : Int32)), .val (.int v3), .val (.int (0 : Int32)), .val (.int (2 : Int32))]) d4_52 (pc' := 54) rfl rfl ?_
  refine go_iinc C (Ls' := #[.val (.ref a), .val (.int (3 : Int32)), .val (.int (3 : Int32)), .val (.int v3), .val (.int (0 : Int32)), .val (.int ((2 : Int32) + (1 : Int32)))]) (1 : Int32) d4_54 (pc' := 57) rfl (by decide) rfl rfl ?_
  rw [(by decide : (2 : Int32) + (1 : Int32) = (3 : Int32))]
  refine go_goto C d4_57 (by decide) (pc' := 25) (by decide) ?_
  refine go_iload C d4_25 (pc' := 27) rfl rfl ?_
  refine go_iloadN C d4_27 (pc' := 28) rfl rfl ?_
  refine go_icmp C (3 : Int) (3 : Int) (by decide) (by decide) d4_28 (by decide) (pc' := 60) (by decide) (pcN := 31) rfl (fun (c_53 : ¬ (3 : Int) < (3 : Int)) => ?_) (fun (c_53 : (3 : Int) < (3 : Int)) => by omega)
  refine go_iload C d4_60 (pc' := 62) rfl rfl ?_
  refine go_if0 C (0 : Int) (by decide) d4_62 (by decide) (pc' := 75) (by decide) (pcN := 65) rfl (fun (c_54 : ¬ (0 : Int) = 0) => by omega) (fun (c_54 : (0 : Int) = 0) => ?_)
  refine go_aloadN C d4_65 (pc' := 66) rfl rfl rfl ?_
  refine go_getfield C (wd hw 14 rfl) F_39 d4_66 (pc' := 69) rfl ?_
  refine go_iloadN C d4_69 (pc' := 70) rfl rfl ?_
  refine go_iinc C (Ls' := #[.val (.ref a), .val (.int ((3 : Int32) + (1 : Int32))), .val (.int (3 : Int32)), .val (.int v3), .val (.int (0 : Int32)), .val (.int (3 : Int32))]) (1 : Int32) d4_70 (pc' := 73) rfl (by decide) rfl rfl ?_
  rw [(by decide : (3 : Int32) + (1 : Int32) = (4 : Int32))]
  refine go_iloadN C d4_73 (pc' := 74) rfl rfl ?_
  refine go_iastore C A_42 3 (by decide) (show 3 < 8 from by decide) gr d4_74 (pc' := 75) rfl ?_
  intro h_55 W_56 A_57
  have F_59 := Fld.other W_56 F_39 (Or.inl (own_ne_arr E_41 (wd hw 5 rfl) A_42))
  have F_60 := Fld.other W_56 F_40 (Or.inl (own_ne_arr E_41 (wd hw 5 rfl) A_42))
  have E_61 := Exa.wr W_56 E_41
  have A_62 : Av Z h_55 r .int [.int v0, .int v1, .int v2, .int v3, .int (0 : Int32), .int (0 : Int32), .int (0 : Int32), .int (0 : Int32)] := A_57
  refine go_iinc C (Ls' := #[.val (.ref a), .val (.int (4 : Int32)), .val (.int ((3 : Int32) + (1 : Int32))), .val (.int v3), .val (.int (0 : Int32)), .val (.int (3 : Int32))]) (1 : Int32) d4_75 (pc' := 78) rfl (by decide) rfl rfl ?_
  rw [(by decide : (3 : Int32) + (1 : Int32) = (4 : Int32))]
  refine go_goto C d4_78 (by decide) (pc' := 4) (by decide) ?_
  refine go_iloadN C d4_4 (pc' := 5) rfl rfl ?_
  refine go_aloadN C d4_5 (pc' := 6) rfl rfl rfl ?_
  refine go_getfield C (wd hw 21 rfl) F_60 d4_6 (pc' := 9) rfl ?_
  refine go_icmp C (4 : Int) (4 : Int) (by decide) (by decide) d4_9 (by decide) (pc' := 81) (by decide) (pcN := 12) rfl (fun (c_63 : ¬ (4 : Int) < (4 : Int)) => ?_) (fun (c_63 : (4 : Int) < (4 : Int)) => by omega)
  refine go_aloadN C d4_81 (pc' := 82) rfl rfl rfl ?_
  refine go_iloadN C d4_82 (pc' := 83) rfl rfl ?_
  refine go_putfield C (wd hw 21 rfl) F_60 E_61 (Or.inl (wd hw 22 rfl)) (wd hw 5 rfl) (ty := .int) (by decide) rfl rfl ga d4_83 (pc' := 86) rfl ?_
  intro h_64 W_65
  have F_66 := Fld.other W_65 F_59 (Or.inr (slot_ne (a0 := a0) (Or.inl (wd hw 15 rfl)) (Or.inl (wd hw 22 rfl)) (by decide) (t := (.array .int)) (t' := .int) (by decide) (by decide)))
  have F_67 := Fld.same W_65 F_60
  have E_68 := Exa.wr W_65 E_61
  have A_69 := Av.other A_62 W_65 (Ne.symm (own_ne_arr E_61 (wd hw 5 rfl) A_62))
  refine go_return C rfl d4_86 (by decide) (by decide) ?_
  exact ⟨rfl, E_68, F_66, F_67, A_69⟩
set_option maxRecDepth 65536 in
set_option maxHeartbeats 40000000 in
theorem sat_rd4ttf (l : Launch) (Z : State) (a0 : Array Value) (hw : ∀ d ∈ tables_1, d.before a0 Z = true) (a r : Addr) (v0 v1 v2 v3 : Int32) (h0 : Heap) (n0 : Nat) (hf1 : ¬ v1.toInt = v0.toInt) (hf2 : ¬ v2.toInt = v0.toInt ∧ ¬ v2.toInt = v1.toInt) (hf3 : v3.toInt = v0.toInt ∨ v3.toInt = v1.toInt ∨ v3.toInt = v2.toInt) (E1 : Exa Z h0 a "com/example/inevitable_path/inevitablepath/smv/IntList") (F1 : Fld Z h0 a "com/example/inevitable_path/inevitablepath/smv/IntList" "values" "[I" (.ref r)) (F2 : Fld Z h0 a "com/example/inevitable_path/inevitablepath/smv/IntList" "size" "I" (.int (4 : Int32))) (A1 : Av Z h0 r .int [.int v0, .int v1, .int v2, .int v3, .int (0 : Int32), .int (0 : Int32), .int (0 : Int32), .int (0 : Int32)]) (ga : n0 ≤ a) (gr : n0 ≤ r) :
    Sat l Z (⟨"com/example/inevitable_path/inevitablepath/smv/IntList", "removeDuplicates", "()V"⟩ : MethodName) prog_60_method_10_code 6 none ({ frames := 0, cells := 0, slots := 0, locals := 0 } : Room) [.ref a] h0 n0 (RN fun h => Exa Z h a "com/example/inevitable_path/inevitablepath/smv/IntList" ∧ Fld Z h a "com/example/inevitable_path/inevitablepath/smv/IntList" "values" "[I" (.ref r) ∧ Fld Z h a "com/example/inevitable_path/inevitablepath/smv/IntList" "size" "I" (.int (3 : Int32)) ∧ Av Z h r .int [.int v0, .int v1, .int v2, .int v3, .int (0 : Int32), .int (0 : Int32), .int (0 : Int32), .int (0 : Int32)]) := by
  refine sat_of (own := "com/example/inevitable_path/inevitablepath/smv/IntList") (nm := "removeDuplicates") rfl rfl (plainFor_of_name pn_1) #[.val (.ref a), .unset, .unset, .unset, .unset, .unset] (fun m => by first | (simp [entryFrame, mkF, argsToLocals, Value.category, maxLocals]; done) | rfl) ?_
  intro p e s m below meth c C
  refine go_iconst C (0 : Int32) d4_0 (pc' := 1) rfl (by decide) ?_
  refine go_istoreN C (Ls' := #[.val (.ref a), .val (.int (0 : Int32)), .unset, .unset, .unset, .unset]) d4_1 (pc' := 2) rfl rfl ?_
  refine go_iconst C (0 : Int32) d4_2 (pc' := 3) rfl (by decide) ?_
  refine go_istoreN C (Ls' := #[.val (.ref a), .val (.int (0 : Int32)), .val (.int (0 : Int32)), .unset, .unset, .unset]) d4_3 (pc' := 4) rfl rfl ?_
  refine go_iloadN C d4_4 (pc' := 5) rfl rfl ?_
  refine go_aloadN C d4_5 (pc' := 6) rfl rfl rfl ?_
  refine go_getfield C (wd hw 21 rfl) F2 d4_6 (pc' := 9) rfl ?_
  refine go_icmp C (0 : Int) (4 : Int) (by decide) (by decide) d4_9 (by decide) (pc' := 81) (by decide) (pcN := 12) rfl (fun (c_1 : ¬ (0 : Int) < (4 : Int)) => by omega) (fun (c_1 : (0 : Int) < (4 : Int)) => ?_)
  refine go_aloadN C d4_12 (pc' := 13) rfl rfl rfl ?_
  refine go_getfield C (wd hw 14 rfl) F1 d4_13 (pc' := 16) rfl ?_
  refine go_iloadN C d4_16 (pc' := 17) rfl rfl ?_
  refine go_iaload C A1 0 (.int v0) (by decide) rfl d4_17 (pc' := 18) rfl ?_
  refine go_istoreN C (Ls' := #[.val (.ref a), .val (.int (0 : Int32)), .val (.int (0 : Int32)), .val (.int v0), .unset, .unset]) d4_18 (pc' := 19) rfl rfl ?_
  refine go_iconst C (0 : Int32) d4_19 (pc' := 20) rfl (by decide) ?_
  refine go_istore C (Ls' := #[.val (.ref a), .val (.int (0 : Int32)), .val (.int (0 : Int32)), .val (.int v0), .val (.int (0 : Int32)), .unset]) d4_20 (pc' := 22) rfl rfl ?_
  refine go_iconst C (0 : Int32) d4_22 (pc' := 23) rfl (by decide) ?_
  refine go_istore C (Ls' := #[.val (.ref a), .val (.int (0 : Int32)), .val (.int (0 : Int32)), .val (.int v0), .val (.int (0 : Int32)), .val (.int (0 : Int32))]) d4_23 (pc' := 25) rfl rfl ?_
  refine go_iload C d4_25 (pc' := 27) rfl rfl ?_
  refine go_iloadN C d4_27 (pc' := 28) rfl rfl ?_
  refine go_icmp C (0 : Int) (0 : Int) (by decide) (by decide) d4_28 (by decide) (pc' := 60) (by decide) (pcN := 31) rfl (fun (c_2 : ¬ (0 : Int) < (0 : Int)) => ?_) (fun (c_2 : (0 : Int) < (0 : Int)) => by omega)
  refine go_iload C d4_60 (pc' := 62) rfl rfl ?_
  refine go_if0 C (0 : Int) (by decide) d4_62 (by decide) (pc' := 75) (by decide) (pcN := 65) rfl (fun (c_3 : ¬ (0 : Int) = 0) => by omega) (fun (c_3 : (0 : Int) = 0) => ?_)
  refine go_aloadN C d4_65 (pc' := 66) rfl rfl rfl ?_
  refine go_getfield C (wd hw 14 rfl) F1 d4_66 (pc' := 69) rfl ?_
  refine go_iloadN C d4_69 (pc' := 70) rfl rfl ?_
  refine go_iinc C (Ls' := #[.val (.ref a), .val (.int ((0 : Int32) + (1 : Int32))), .val (.int (0 : Int32)), .val (.int v0), .val (.int (0 : Int32)), .val (.int (0 : Int32))]) (1 : Int32) d4_70 (pc' := 73) rfl (by decide) rfl rfl ?_
  rw [(by decide : (0 : Int32) + (1 : Int32) = (1 : Int32))]
  refine go_iloadN C d4_73 (pc' := 74) rfl rfl ?_
  refine go_iastore C A1 0 (by decide) (show 0 < 8 from by decide) gr d4_74 (pc' := 75) rfl ?_
  intro h_4 W_5 A_6
  have F_8 := Fld.other W_5 F1 (Or.inl (own_ne_arr E1 (wd hw 5 rfl) A1))
  have F_9 := Fld.other W_5 F2 (Or.inl (own_ne_arr E1 (wd hw 5 rfl) A1))
  have E_10 := Exa.wr W_5 E1
  have A_11 : Av Z h_4 r .int [.int v0, .int v1, .int v2, .int v3, .int (0 : Int32), .int (0 : Int32), .int (0 : Int32), .int (0 : Int32)] := A_6
  refine go_iinc C (Ls' := #[.val (.ref a), .val (.int (1 : Int32)), .val (.int ((0 : Int32) + (1 : Int32))), .val (.int v0), .val (.int (0 : Int32)), .val (.int (0 : Int32))]) (1 : Int32) d4_75 (pc' := 78) rfl (by decide) rfl rfl ?_
  rw [(by decide : (0 : Int32) + (1 : Int32) = (1 : Int32))]
  refine go_goto C d4_78 (by decide) (pc' := 4) (by decide) ?_
  refine go_iloadN C d4_4 (pc' := 5) rfl rfl ?_
  refine go_aloadN C d4_5 (pc' := 6) rfl rfl rfl ?_
  refine go_getfield C (wd hw 21 rfl) F_9 d4_6 (pc' := 9) rfl ?_
  refine go_icmp C (1 : Int) (4 : Int) (by decide) (by decide) d4_9 (by decide) (pc' := 81) (by decide) (pcN := 12) rfl (fun (c_12 : ¬ (1 : Int) < (4 : Int)) => by omega) (fun (c_12 : (1 : Int) < (4 : Int)) => ?_)
  refine go_aloadN C d4_12 (pc' := 13) rfl rfl rfl ?_
  refine go_getfield C (wd hw 14 rfl) F_8 d4_13 (pc' := 16) rfl ?_
  refine go_iloadN C d4_16 (pc' := 17) rfl rfl ?_
  refine go_iaload C A_11 1 (.int v1) (by decide) rfl d4_17 (pc' := 18) rfl ?_
  refine go_istoreN C (Ls' := #[.val (.ref a), .val (.int (1 : Int32)), .val (.int (1 : Int32)), .val (.int v1), .val (.int (0 : Int32)), .val (.int (0 : Int32))]) d4_18 (pc' := 19) rfl rfl ?_
  refine go_iconst C (0 : Int32) d4_19 (pc' := 20) rfl (by decide) ?_
  refine go_istore C (Ls' := #[.val (.ref a), .val (.int (1 : Int32)), .val (.int (1 : Int32)), .val (.int v1), .val (.int (0 : Int32)), .val (.int (0 : Int32))]) d4_20 (pc' := 22) rfl rfl ?_
  refine go_iconst C (0 : Int32) d4_22 (pc' := 23) rfl (by decide) ?_
  refine go_istore C (Ls' := #[.val (.ref a), .val (.int (1 : Int32)), .val (.int (1 : Int32)), .val (.int v1), .val (.int (0 : Int32)), .val (.int (0 : Int32))]) d4_23 (pc' := 25) rfl rfl ?_
  refine go_iload C d4_25 (pc' := 27) rfl rfl ?_
  refine go_iloadN C d4_27 (pc' := 28) rfl rfl ?_
  refine go_icmp C (0 : Int) (1 : Int) (by decide) (by decide) d4_28 (by decide) (pc' := 60) (by decide) (pcN := 31) rfl (fun (c_13 : ¬ (0 : Int) < (1 : Int)) => by omega) (fun (c_13 : (0 : Int) < (1 : Int)) => ?_)
  refine go_iload C d4_31 (pc' := 33) rfl rfl ?_
  refine go_if0 C (0 : Int) (by decide) d4_33 (by decide) (pc' := 60) (by decide) (pcN := 36) rfl (fun (c_14 : ¬ (0 : Int) = 0) => by omega) (fun (c_14 : (0 : Int) = 0) => ?_)
  refine go_aloadN C d4_36 (pc' := 37) rfl rfl rfl ?_
  refine go_getfield C (wd hw 14 rfl) F_8 d4_37 (pc' := 40) rfl ?_
  refine go_iload C d4_40 (pc' := 42) rfl rfl ?_
  refine go_iaload C A_11 0 (.int v0) (by decide) rfl d4_42 (pc' := 43) rfl ?_
  refine go_iloadN C d4_43 (pc' := 44) rfl rfl ?_
  refine go_icmp C v0.toInt v1.toInt rfl rfl d4_44 (by decide) (pc' := 51) (by decide) (pcN := 47) rfl (fun (c_15 : ¬ v0.toInt = v1.toInt) => ?_) (fun (c_15 : v0.toInt = v1.toInt) => by omega)
  refine go_iconst C (0 : Int32) d4_51 (pc' := 52) rfl (by decide) ?_
  refine go_istore C (Ls' := #[.val (.ref a), .val (.int (1 : Int32)), .val (.int (1 : Int32)), .val (.int v1), .val (.int (0 : Int32)), .val (.int (0 : Int32))]) d4_52 (pc' := 54) rfl rfl ?_
  refine go_iinc C (Ls' := #[.val (.ref a), .val (.int (1 : Int32)), .val (.int (1 : Int32)), .val (.int v1), .val (.int (0 : Int32)), .val (.int ((0 : Int32) + (1 : Int32)))]) (1 : Int32) d4_54 (pc' := 57) rfl (by decide) rfl rfl ?_
  rw [(by decide : (0 : Int32) + (1 : Int32) = (1 : Int32))]
  refine go_goto C d4_57 (by decide) (pc' := 25) (by decide) ?_
  refine go_iload C d4_25 (pc' := 27) rfl rfl ?_
  refine go_iloadN C d4_27 (pc' := 28) rfl rfl ?_
  refine go_icmp C (1 : Int) (1 : Int) (by decide) (by decide) d4_28 (by decide) (pc' := 60) (by decide) (pcN := 31) rfl (fun (c_16 : ¬ (1 : Int) < (1 : Int)) => ?_) (fun (c_16 : (1 : Int) < (1 : Int)) => by omega)
  refine go_iload C d4_60 (pc' := 62) rfl rfl ?_
  refine go_if0 C (0 : Int) (by decide) d4_62 (by decide) (pc' := 75) (by decide) (pcN := 65) rfl (fun (c_17 : ¬ (0 : Int) = 0) => by omega) (fun (c_17 : (0 : Int) = 0) => ?_)
  refine go_aloadN C d4_65 (pc' := 66) rfl rfl rfl ?_
  refine go_getfield C (wd hw 14 rfl) F_8 d4_66 (pc' := 69) rfl ?_
  refine go_iloadN C d4_69 (pc' := 70) rfl rfl ?_
  refine go_iinc C (Ls' := #[.val (.ref a), .val (.int ((1 : Int32) + (1 : Int32))), .val (.int (1 : Int32)), .val (.int v1), .val (.int (0 : Int32)), .val (.int (1 : Int32))]) (1 : Int32) d4_70 (pc' := 73) rfl (by decide) rfl rfl ?_
  rw [(by decide : (1 : Int32) + (1 : Int32) = (2 : Int32))]
  refine go_iloadN C d4_73 (pc' := 74) rfl rfl ?_
  refine go_iastore C A_11 1 (by decide) (show 1 < 8 from by decide) gr d4_74 (pc' := 75) rfl ?_
  intro h_18 W_19 A_20
  have F_22 := Fld.other W_19 F_8 (Or.inl (own_ne_arr E_10 (wd hw 5 rfl) A_11))
  have F_23 := Fld.other W_19 F_9 (Or.inl (own_ne_arr E_10 (wd hw 5 rfl) A_11))
  have E_24 := Exa.wr W_19 E_10
  have A_25 : Av Z h_18 r .int [.int v0, .int v1, .int v2, .int v3, .int (0 : Int32), .int (0 : Int32), .int (0 : Int32), .int (0 : Int32)] := A_20
  refine go_iinc C (Ls' := #[.val (.ref a), .val (.int (2 : Int32)), .val (.int ((1 : Int32) + (1 : Int32))), .val (.int v1), .val (.int (0 : Int32)), .val (.int (1 : Int32))]) (1 : Int32) d4_75 (pc' := 78) rfl (by decide) rfl rfl ?_
  rw [(by decide : (1 : Int32) + (1 : Int32) = (2 : Int32))]
  refine go_goto C d4_78 (by decide) (pc' := 4) (by decide) ?_
  refine go_iloadN C d4_4 (pc' := 5) rfl rfl ?_
  refine go_aloadN C d4_5 (pc' := 6) rfl rfl rfl ?_
  refine go_getfield C (wd hw 21 rfl) F_23 d4_6 (pc' := 9) rfl ?_
  refine go_icmp C (2 : Int) (4 : Int) (by decide) (by decide) d4_9 (by decide) (pc' := 81) (by decide) (pcN := 12) rfl (fun (c_26 : ¬ (2 : Int) < (4 : Int)) => by omega) (fun (c_26 : (2 : Int) < (4 : Int)) => ?_)
  refine go_aloadN C d4_12 (pc' := 13) rfl rfl rfl ?_
  refine go_getfield C (wd hw 14 rfl) F_22 d4_13 (pc' := 16) rfl ?_
  refine go_iloadN C d4_16 (pc' := 17) rfl rfl ?_
  refine go_iaload C A_25 2 (.int v2) (by decide) rfl d4_17 (pc' := 18) rfl ?_
  refine go_istoreN C (Ls' := #[.val (.ref a), .val (.int (2 : Int32)), .val (.int (2 : Int32)), .val (.int v2), .val (.int (0 : Int32)), .val (.int (1 : Int32))]) d4_18 (pc' := 19) rfl rfl ?_
  refine go_iconst C (0 : Int32) d4_19 (pc' := 20) rfl (by decide) ?_
  refine go_istore C (Ls' := #[.val (.ref a), .val (.int (2 : Int32)), .val (.int (2 : Int32)), .val (.int v2), .val (.int (0 : Int32)), .val (.int (1 : Int32))]) d4_20 (pc' := 22) rfl rfl ?_
  refine go_iconst C (0 : Int32) d4_22 (pc' := 23) rfl (by decide) ?_
  refine go_istore C (Ls' := #[.val (.ref a), .val (.int (2 : Int32)), .val (.int (2 : Int32)), .val (.int v2), .val (.int (0 : Int32)), .val (.int (0 : Int32))]) d4_23 (pc' := 25) rfl rfl ?_
  refine go_iload C d4_25 (pc' := 27) rfl rfl ?_
  refine go_iloadN C d4_27 (pc' := 28) rfl rfl ?_
  refine go_icmp C (0 : Int) (2 : Int) (by decide) (by decide) d4_28 (by decide) (pc' := 60) (by decide) (pcN := 31) rfl (fun (c_27 : ¬ (0 : Int) < (2 : Int)) => by omega) (fun (c_27 : (0 : Int) < (2 : Int)) => ?_)
  refine go_iload C d4_31 (pc' := 33) rfl rfl ?_
  refine go_if0 C (0 : Int) (by decide) d4_33 (by decide) (pc' := 60) (by decide) (pcN := 36) rfl (fun (c_28 : ¬ (0 : Int) = 0) => by omega) (fun (c_28 : (0 : Int) = 0) => ?_)
  refine go_aloadN C d4_36 (pc' := 37) rfl rfl rfl ?_
  refine go_getfield C (wd hw 14 rfl) F_22 d4_37 (pc' := 40) rfl ?_
  refine go_iload C d4_40 (pc' := 42) rfl rfl ?_
  refine go_iaload C A_25 0 (.int v0) (by decide) rfl d4_42 (pc' := 43) rfl ?_
  refine go_iloadN C d4_43 (pc' := 44) rfl rfl ?_
  refine go_icmp C v0.toInt v2.toInt rfl rfl d4_44 (by decide) (pc' := 51) (by decide) (pcN := 47) rfl (fun (c_29 : ¬ v0.toInt = v2.toInt) => ?_) (fun (c_29 : v0.toInt = v2.toInt) => by omega)
  refine go_iconst C (0 : Int32) d4_51 (pc' := 52) rfl (by decide) ?_
  refine go_istore C (Ls' := #[.val (.ref a), .val (.int (2 : Int32)), .val (.int (2 : Int32)), .val (.int v2), .val (.int (0 : Int32)), .val (.int (0 : Int32))]) d4_52 (pc' := 54) rfl rfl ?_
  refine go_iinc C (Ls' := #[.val (.ref a), .val (.int (2 : Int32)), .val (.int (2 : Int32)), .val (.int v2), .val (.int (0 : Int32)), .val (.int ((0 : Int32) + (1 : Int32)))]) (1 : Int32) d4_54 (pc' := 57) rfl (by decide) rfl rfl ?_
  rw [(by decide : (0 : Int32) + (1 : Int32) = (1 : Int32))]
  refine go_goto C d4_57 (by decide) (pc' := 25) (by decide) ?_
  refine go_iload C d4_25 (pc' := 27) rfl rfl ?_
  refine go_iloadN C d4_27 (pc' := 28) rfl rfl ?_
  refine go_icmp C (1 : Int) (2 : Int) (by decide) (by decide) d4_28 (by decide) (pc' := 60) (by decide) (pcN := 31) rfl (fun (c_30 : ¬ (1 : Int) < (2 : Int)) => by omega) (fun (c_30 : (1 : Int) < (2 : Int)) => ?_)
  refine go_iload C d4_31 (pc' := 33) rfl rfl ?_
  refine go_if0 C (0 : Int) (by decide) d4_33 (by decide) (pc' := 60) (by decide) (pcN := 36) rfl (fun (c_31 : ¬ (0 : Int) = 0) => by omega) (fun (c_31 : (0 : Int) = 0) => ?_)
  refine go_aloadN C d4_36 (pc' := 37) rfl rfl rfl ?_
  refine go_getfield C (wd hw 14 rfl) F_22 d4_37 (pc' := 40) rfl ?_
  refine go_iload C d4_40 (pc' := 42) rfl rfl ?_
  refine go_iaload C A_25 1 (.int v1) (by decide) rfl d4_42 (pc' := 43) rfl ?_
  refine go_iloadN C d4_43 (pc' := 44) rfl rfl ?_
  refine go_icmp C v1.toInt v2.toInt rfl rfl d4_44 (by decide) (pc' := 51) (by decide) (pcN := 47) rfl (fun (c_32 : ¬ v1.toInt = v2.toInt) => ?_) (fun (c_32 : v1.toInt = v2.toInt) => by omega)
  refine go_iconst C (0 : Int32) d4_51 (pc' := 52) rfl (by decide) ?_
  refine go_istore C (Ls' := #[.val (.ref a), .val (.int (2 : Int32)), .val (.int (2 : Int32)), .val (.int v2), .val (.int (0 : Int32)), .val (.int (1 : Int32))]) d4_52 (pc' := 54) rfl rfl ?_
  refine go_iinc C (Ls' := #[.val (.ref a), .val (.int (2 : Int32)), .val (.int (2 : Int32)), .val (.int v2), .val (.int (0 : Int32)), .val (.int ((1 : Int32) + (1 : Int32)))]) (1 : Int32) d4_54 (pc' := 57) rfl (by decide) rfl rfl ?_
  rw [(by decide : (1 : Int32) + (1 : Int32) = (2 : Int32))]
  refine go_goto C d4_57 (by decide) (pc' := 25) (by decide) ?_
  refine go_iload C d4_25 (pc' := 27) rfl rfl ?_
  refine go_iloadN C d4_27 (pc' := 28) rfl rfl ?_
  refine go_icmp C (2 : Int) (2 : Int) (by decide) (by decide) d4_28 (by decide) (pc' := 60) (by decide) (pcN := 31) rfl (fun (c_33 : ¬ (2 : Int) < (2 : Int)) => ?_) (fun (c_33 : (2 : Int) < (2 : Int)) => by omega)
  refine go_iload C d4_60 (pc' := 62) rfl rfl ?_
  refine go_if0 C (0 : Int) (by decide) d4_62 (by decide) (pc' := 75) (by decide) (pcN := 65) rfl (fun (c_34 : ¬ (0 : Int) = 0) => by omega) (fun (c_34 : (0 : Int) = 0) => ?_)
  refine go_aloadN C d4_65 (pc' := 66) rfl rfl rfl ?_
  refine go_getfield C (wd hw 14 rfl) F_22 d4_66 (pc' := 69) rfl ?_
  refine go_iloadN C d4_69 (pc' := 70) rfl rfl ?_
  refine go_iinc C (Ls' := #[.val (.ref a), .val (.int ((2 : Int32) + (1 : Int32))), .val (.int (2 : Int32)), .val (.int v2), .val (.int (0 : Int32)), .val (.int (2 : Int32))]) (1 : Int32) d4_70 (pc' := 73) rfl (by decide) rfl rfl ?_
  rw [(by decide : (2 : Int32) + (1 : Int32) = (3 : Int32))]
  refine go_iloadN C d4_73 (pc' := 74) rfl rfl ?_
  refine go_iastore C A_25 2 (by decide) (show 2 < 8 from by decide) gr d4_74 (pc' := 75) rfl ?_
  intro h_35 W_36 A_37
  have F_39 := Fld.other W_36 F_22 (Or.inl (own_ne_arr E_24 (wd hw 5 rfl) A_25))
  have F_40 := Fld.other W_36 F_23 (Or.inl (own_ne_arr E_24 (wd hw 5 rfl) A_25))
  have E_41 := Exa.wr W_36 E_24
  have A_42 : Av Z h_35 r .int [.int v0, .int v1, .int v2, .int v3, .int (0 : Int32), .int (0 : Int32), .int (0 : Int32), .int (0 : Int32)] := A_37
  refine go_iinc C (Ls' := #[.val (.ref a), .val (.int (3 : Int32)), .val (.int ((2 : Int32) + (1 : Int32))), .val (.int v2), .val (.int (0 : Int32)), .val (.int (2 : Int32))]) (1 : Int32) d4_75 (pc' := 78) rfl (by decide) rfl rfl ?_
  rw [(by decide : (2 : Int32) + (1 : Int32) = (3 : Int32))]
  refine go_goto C d4_78 (by decide) (pc' := 4) (by decide) ?_
  refine go_iloadN C d4_4 (pc' := 5) rfl rfl ?_
  refine go_aloadN C d4_5 (pc' := 6) rfl rfl rfl ?_
  refine go_getfield C (wd hw 21 rfl) F_40 d4_6 (pc' := 9) rfl ?_
  refine go_icmp C (3 : Int) (4 : Int) (by decide) (by decide) d4_9 (by decide) (pc' := 81) (by decide) (pcN := 12) rfl (fun (c_43 : ¬ (3 : Int) < (4 : Int)) => by omega) (fun (c_43 : (3 : Int) < (4 : Int)) => ?_)
  refine go_aloadN C d4_12 (pc' := 13) rfl rfl rfl ?_
  refine go_getfield C (wd hw 14 rfl) F_39 d4_13 (pc' := 16) rfl ?_
  refine go_iloadN C d4_16 (pc' := 17) rfl rfl ?_
  refine go_iaload C A_42 3 (.int v3) (by decide) rfl d4_17 (pc' := 18) rfl ?_
  refine go_istoreN C (Ls' := #[.val (.ref a), .val (.int (3 : Int32)), .val (.int (3 : Int32)), .val (.int v3), .val (.int (0 : Int32)), .val (.int (2 : Int32))]) d4_18 (pc' := 19) rfl rfl ?_
  refine go_iconst C (0 : Int32) d4_19 (pc' := 20) rfl (by decide) ?_
  refine go_istore C (Ls' := #[.val (.ref a), .val (.int (3 : Int32)), .val (.int (3 : Int32)), .val (.int v3), .val (.int (0 : Int32)), .val (.int (2 : Int32))]) d4_20 (pc' := 22) rfl rfl ?_
  refine go_iconst C (0 : Int32) d4_22 (pc' := 23) rfl (by decide) ?_
  refine go_istore C (Ls' := #[.val (.ref a), .val (.int (3 : Int32)), .val (.int (3 : Int32)), .val (.int v3), .val (.int (0 : Int32)), .val (.int (0 : Int32))]) d4_23 (pc' := 25) rfl rfl ?_
  refine go_iload C d4_25 (pc' := 27) rfl rfl ?_
  refine go_iloadN C d4_27 (pc' := 28) rfl rfl ?_
  refine go_icmp C (0 : Int) (3 : Int) (by decide) (by decide) d4_28 (by decide) (pc' := 60) (by decide) (pcN := 31) rfl (fun (c_44 : ¬ (0 : Int) < (3 : Int)) => by omega) (fun (c_44 : (0 : Int) < (3 : Int)) => ?_)
  refine go_iload C d4_31 (pc' := 33) rfl rfl ?_
  refine go_if0 C (0 : Int) (by decide) d4_33 (by decide) (pc' := 60) (by decide) (pcN := 36) rfl (fun (c_45 : ¬ (0 : Int) = 0) => by omega) (fun (c_45 : (0 : Int) = 0) => ?_)
  refine go_aloadN C d4_36 (pc' := 37) rfl rfl rfl ?_
  refine go_getfield C (wd hw 14 rfl) F_39 d4_37 (pc' := 40) rfl ?_
  refine go_iload C d4_40 (pc' := 42) rfl rfl ?_
  refine go_iaload C A_42 0 (.int v0) (by decide) rfl d4_42 (pc' := 43) rfl ?_
  refine go_iloadN C d4_43 (pc' := 44) rfl rfl ?_
  refine go_icmp C v0.toInt v3.toInt rfl rfl d4_44 (by decide) (pc' := 51) (by decide) (pcN := 47) rfl (fun (c_46 : ¬ v0.toInt = v3.toInt) => ?_) (fun (c_46 : v0.toInt = v3.toInt) => ?_)
  · skip
    refine go_iconst C (0 : Int32) d4_51 (pc' := 52) rfl (by decide) ?_
    refine go_istore C (Ls' := #[.val (.ref a), .val (.int (3 : Int32)), .val (.int (3 : Int32)), .val (.int v3), .val (.int (0 : Int32)), .val (.int (0 : Int32))]) d4_52 (pc' := 54) rfl rfl ?_
    refine go_iinc C (Ls' := #[.val (.ref a), .val (.int (3 : Int32)), .val (.int (3 : Int32)), .val (.int v3), .val (.int (0 : Int32)), .val (.int ((0 : Int32) + (1 : Int32)))]) (1 : Int32) d4_54 (pc' := 57) rfl (by decide) rfl rfl ?_
    rw [(by decide : (0 : Int32) + (1 : Int32) = (1 : Int32))]
    refine go_goto C d4_57 (by decide) (pc' := 25) (by decide) ?_
    refine go_iload C d4_25 (pc' := 27) rfl rfl ?_
    refine go_iloadN C d4_27 (pc' := 28) rfl rfl ?_
    refine go_icmp C (1 : Int) (3 : Int) (by decide) (by decide) d4_28 (by decide) (pc' := 60) (by decide) (pcN := 31) rfl (fun (c_47 : ¬ (1 : Int) < (3 : Int)) => by omega) (fun (c_47 : (1 : Int) < (3 : Int)) => ?_)
    refine go_iload C d4_31 (pc' := 33) rfl rfl ?_
    refine go_if0 C (0 : Int) (by decide) d4_33 (by decide) (pc' := 60) (by decide) (pcN := 36) rfl (fun (c_48 : ¬ (0 : Int) = 0) => by omega) (fun (c_48 : (0 : Int) = 0) => ?_)
    refine go_aloadN C d4_36 (pc' := 37) rfl rfl rfl ?_
    refine go_getfield C (wd hw 14 rfl) F_39 d4_37 (pc' := 40) rfl ?_
    refine go_iload C d4_40 (pc' := 42) rfl rfl ?_
    refine go_iaload C A_42 1 (.int v1) (by decide) rfl d4_42 (pc' := 43) rfl ?_
    refine go_iloadN C d4_43 (pc' := 44) rfl rfl ?_
    refine go_icmp C v1.toInt v3.toInt rfl rfl d4_44 (by decide) (pc' := 51) (by decide) (pcN := 47) rfl (fun (c_49 : ¬ v1.toInt = v3.toInt) => ?_) (fun (c_49 : v1.toInt = v3.toInt) => ?_)
    · skip
      refine go_iconst C (0 : Int32) d4_51 (pc' := 52) rfl (by decide) ?_
      refine go_istore C (Ls' := #[.val (.ref a), .val (.int (3 : Int32)), .val (.int (3 : Int32)), .val (.int v3), .val (.int (0 : Int32)), .val (.int (1 : Int32))]) d4_52 (pc' := 54) rfl rfl ?_
      refine go_iinc C (Ls' := #[.val (.ref a), .val (.int (3 : Int32)), .val (.int (3 : Int32)), .val (.int v3), .val (.int (0 : Int32)), .val (.int ((1 : Int32) + (1 : Int32)))]) (1 : Int32) d4_54 (pc' := 57) rfl (by decide) rfl rfl ?_
      rw [(by decide : (1 : Int32) + (1 : Int32) = (2 : Int32))]
      refine go_goto C d4_57 (by decide) (pc' := 25) (by decide) ?_
      refine go_iload C d4_25 (pc' := 27) rfl rfl ?_
      refine go_iloadN C d4_27 (pc' := 28) rfl rfl ?_
      refine go_icmp C (2 : Int) (3 : Int) (by decide) (by decide) d4_28 (by decide) (pc' := 60) (by decide) (pcN := 31) rfl (fun (c_50 : ¬ (2 : Int) < (3 : Int)) => by omega) (fun (c_50 : (2 : Int) < (3 : Int)) => ?_)
      refine go_iload C d4_31 (pc' := 33) rfl rfl ?_
      refine go_if0 C (0 : Int) (by decide) d4_33 (by decide) (pc' := 60) (by decide) (pcN := 36) rfl (fun (c_51 : ¬ (0 : Int) = 0) => by omega) (fun (c_51 : (0 : Int) = 0) => ?_)
      refine go_aloadN C d4_36 (pc' := 37) rfl rfl rfl ?_
      refine go_getfield C (wd hw 14 rfl) F_39 d4_37 (pc' := 40) rfl ?_
      refine go_iload C d4_40 (pc' := 42) rfl rfl ?_
      refine go_iaload C A_42 2 (.int v2) (by decide) rfl d4_42 (pc' := 43) rfl ?_
      refine go_iloadN C d4_43 (pc' := 44) rfl rfl ?_
      refine go_icmp C v2.toInt v3.toInt rfl rfl d4_44 (by decide) (pc' := 51) (by decide) (pcN := 47) rfl (fun (c_52 : ¬ v2.toInt = v3.toInt) => by omega) (fun (c_52 : v2.toInt = v3.toInt) => ?_)
      refine go_iconst C (1 : Int32) d4_47 (pc' := 48) rfl (by decide) ?_
      refine go_goto C d4_48 (by decide) (pc' := 52) (by decide) ?_
      refine go_istore C (Ls' := #[.val (.ref a), .val (.int (3 : Int32)), .val (.int (3 : Int32)), .val (.int v3), .val (.int (1 : Int32)), .val (.int (2 : Int32))]) d4_52 (pc' := 54) rfl rfl ?_
      refine go_iinc C (Ls' := #[.val (.ref a), .val (.int (3 : Int32)), .val (.int (3 : Int32)), .val (.int v3), .val (.int (1 : Int32)), .val (.int ((2 : Int32) + (1 : Int32)))]) (1 : Int32) d4_54 (pc' := 57) rfl (by decide) rfl rfl ?_
      rw [(by decide : (2 : Int32) + (1 : Int32) = (3 : Int32))]
      refine go_goto C d4_57 (by decide) (pc' := 25) (by decide) ?_
      refine go_iload C d4_25 (pc' := 27) rfl rfl ?_
      refine go_iloadN C d4_27 (pc' := 28) rfl rfl ?_
      refine go_icmp C (3 : Int) (3 : Int) (by decide) (by decide) d4_28 (by decide) (pc' := 60) (by decide) (pcN := 31) rfl (fun (c_53 : ¬ (3 : Int) < (3 : Int)) => ?_) (fun (c_53 : (3 : Int) < (3 : Int)) => by omega)
      refine go_iload C d4_60 (pc' := 62) rfl rfl ?_
      refine go_if0 C (1 : Int) (by decide) d4_62 (by decide) (pc' := 75) (by decide) (pcN := 65) rfl (fun (c_54 : ¬ (1 : Int) = 0) => ?_) (fun (c_54 : (1 : Int) = 0) => by omega)
      refine go_iinc C (Ls' := #[.val (.ref a), .val (.int (3 : Int32)), .val (.int ((3 : Int32) + (1 : Int32))), .val (.int v3), .val (.int (1 : Int32)), .val (.int (3 : Int32))]) (1 : Int32) d4_75 (pc' := 78) rfl (by decide) rfl rfl ?_
      rw [(by decide : (3 : Int32) + (1 : Int32) = (4 : Int32))]
      refine go_goto C d4_78 (by decide) (pc' := 4) (by decide) ?_
      refine go_iloadN C d4_4 (pc' := 5) rfl rfl ?_
      refine go_aloadN C d4_5 (pc' := 6) rfl rfl rfl ?_
      refine go_getfield C (wd hw 21 rfl) F_40 d4_6 (pc' := 9) rfl ?_
      refine go_icmp C (4 : Int) (4 : Int) (by decide) (by decide) d4_9 (by decide) (pc' := 81) (by decide) (pcN := 12) rfl (fun (c_55 : ¬ (4 : Int) < (4 : Int)) => ?_) (fun (c_55 : (4 : Int) < (4 : Int)) => by omega)
      refine go_aloadN C d4_81 (pc' := 82) rfl rfl rfl ?_
      refine go_iloadN C d4_82 (pc' := 83) rfl rfl ?_
      refine go_putfield C (wd hw 21 rfl) F_40 E_41 (Or.inl (wd hw 22 rfl)) (wd hw 5 rfl) (ty := .int) (by decide) rfl rfl ga d4_83 (pc' := 86) rfl ?_
      intro h_56 W_57
      have F_58 := Fld.other W_57 F_39 (Or.inr (slot_ne (a0 := a0) (Or.inl (wd hw 15 rfl)) (Or.inl (wd hw 22 rfl)) (by decide) (t := (.array .int)) (t' := .int) (by decide) (by decide)))
      have F_59 := Fld.same W_57 F_40
      have E_60 := Exa.wr W_57 E_41
      have A_61 := Av.other A_42 W_57 (Ne.symm (own_ne_arr E_41 (wd hw 5 rfl) A_42))
      refine go_return C rfl d4_86 (by decide) (by decide) ?_
      exact ⟨rfl, E_60, F_58, F_59, A_61⟩
    · skip
      refine go_iconst C (1 : Int32) d4_47 (pc' := 48) rfl (by decide) ?_
      refine go_goto C d4_48 (by decide) (pc' := 52) (by decide) ?_
      refine go_istore C (Ls' := #[.val (.ref a), .val (.int (3 : Int32)), .val (.int (3 : Int32)), .val (.int v3), .val (.int (1 : Int32)), .val (.int (1 : Int32))]) d4_52 (pc' := 54) rfl rfl ?_
      refine go_iinc C (Ls' := #[.val (.ref a), .val (.int (3 : Int32)), .val (.int (3 : Int32)), .val (.int v3), .val (.int (1 : Int32)), .val (.int ((1 : Int32) + (1 : Int32)))]) (1 : Int32) d4_54 (pc' := 57) rfl (by decide) rfl rfl ?_
      rw [(by decide : (1 : Int32) + (1 : Int32) = (2 : Int32))]
      refine go_goto C d4_57 (by decide) (pc' := 25) (by decide) ?_
      refine go_iload C d4_25 (pc' := 27) rfl rfl ?_
      refine go_iloadN C d4_27 (pc' := 28) rfl rfl ?_
      refine go_icmp C (2 : Int) (3 : Int) (by decide) (by decide) d4_28 (by decide) (pc' := 60) (by decide) (pcN := 31) rfl (fun (c_62 : ¬ (2 : Int) < (3 : Int)) => by omega) (fun (c_62 : (2 : Int) < (3 : Int)) => ?_)
      refine go_iload C d4_31 (pc' := 33) rfl rfl ?_
      refine go_if0 C (1 : Int) (by decide) d4_33 (by decide) (pc' := 60) (by decide) (pcN := 36) rfl (fun (c_63 : ¬ (1 : Int) = 0) => ?_) (fun (c_63 : (1 : Int) = 0) => by omega)
      refine go_iload C d4_60 (pc' := 62) rfl rfl ?_
      refine go_if0 C (1 : Int) (by decide) d4_62 (by decide) (pc' := 75) (by decide) (pcN := 65) rfl (fun (c_64 : ¬ (1 : Int) = 0) => ?_) (fun (c_64 : (1 : Int) = 0) => by omega)
      refine go_iinc C (Ls' := #[.val (.ref a), .val (.int (3 : Int32)), .val (.int ((3 : Int32) + (1 : Int32))), .val (.int v3), .val (.int (1 : Int32)), .val (.int (2 : Int32))]) (1 : Int32) d4_75 (pc' := 78) rfl (by decide) rfl rfl ?_
      rw [(by decide : (3 : Int32) + (1 : Int32) = (4 : Int32))]
      refine go_goto C d4_78 (by decide) (pc' := 4) (by decide) ?_
      refine go_iloadN C d4_4 (pc' := 5) rfl rfl ?_
      refine go_aloadN C d4_5 (pc' := 6) rfl rfl rfl ?_
      refine go_getfield C (wd hw 21 rfl) F_40 d4_6 (pc' := 9) rfl ?_
      refine go_icmp C (4 : Int) (4 : Int) (by decide) (by decide) d4_9 (by decide) (pc' := 81) (by decide) (pcN := 12) rfl (fun (c_65 : ¬ (4 : Int) < (4 : Int)) => ?_) (fun (c_65 : (4 : Int) < (4 : Int)) => by omega)
      refine go_aloadN C d4_81 (pc' := 82) rfl rfl rfl ?_
      refine go_iloadN C d4_82 (pc' := 83) rfl rfl ?_
      refine go_putfield C (wd hw 21 rfl) F_40 E_41 (Or.inl (wd hw 22 rfl)) (wd hw 5 rfl) (ty := .int) (by decide) rfl rfl ga d4_83 (pc' := 86) rfl ?_
      intro h_66 W_67
      have F_68 := Fld.other W_67 F_39 (Or.inr (slot_ne (a0 := a0) (Or.inl (wd hw 15 rfl)) (Or.inl (wd hw 22 rfl)) (by decide) (t := (.array .int)) (t' := .int) (by decide) (by decide)))
      have F_69 := Fld.same W_67 F_40
      have E_70 := Exa.wr W_67 E_41
      have A_71 := Av.other A_42 W_67 (Ne.symm (own_ne_arr E_41 (wd hw 5 rfl) A_42))
      refine go_return C rfl d4_86 (by decide) (by decide) ?_
      exact ⟨rfl, E_70, F_68, F_69, A_71⟩
  · skip
    refine go_iconst C (1 : Int32) d4_47 (pc' := 48) rfl (by decide) ?_
    refine go_goto C d4_48 (by decide) (pc' := 52) (by decide) ?_
    refine go_istore C (Ls' := #[.val (.ref a), .val (.int (3 : Int32)), .val (.int (3 : Int32)), .val (.int v3), .val (.int (1 : Int32)), .val (.int (0 : Int32))]) d4_52 (pc' := 54) rfl rfl ?_
    refine go_iinc C (Ls' := #[.val (.ref a), .val (.int (3 : Int32)), .val (.int (3 : Int32)), .val (.int v3), .val (.int (1 : Int32)), .val (.int ((0 : Int32) + (1 : Int32)))]) (1 : Int32) d4_54 (pc' := 57) rfl (by decide) rfl rfl ?_
    rw [(by decide : (0 : Int32) + (1 : Int32) = (1 : Int32))]
    refine go_goto C d4_57 (by decide) (pc' := 25) (by decide) ?_
    refine go_iload C d4_25 (pc' := 27) rfl rfl ?_
    refine go_iloadN C d4_27 (pc' := 28) rfl rfl ?_
    refine go_icmp C (1 : Int) (3 : Int) (by decide) (by decide) d4_28 (by decide) (pc' := 60) (by decide) (pcN := 31) rfl (fun (c_72 : ¬ (1 : Int) < (3 : Int)) => by omega) (fun (c_72 : (1 : Int) < (3 : Int)) => ?_)
    refine go_iload C d4_31 (pc' := 33) rfl rfl ?_
    refine go_if0 C (1 : Int) (by decide) d4_33 (by decide) (pc' := 60) (by decide) (pcN := 36) rfl (fun (c_73 : ¬ (1 : Int) = 0) => ?_) (fun (c_73 : (1 : Int) = 0) => by omega)
    refine go_iload C d4_60 (pc' := 62) rfl rfl ?_
    refine go_if0 C (1 : Int) (by decide) d4_62 (by decide) (pc' := 75) (by decide) (pcN := 65) rfl (fun (c_74 : ¬ (1 : Int) = 0) => ?_) (fun (c_74 : (1 : Int) = 0) => by omega)
    refine go_iinc C (Ls' := #[.val (.ref a), .val (.int (3 : Int32)), .val (.int ((3 : Int32) + (1 : Int32))), .val (.int v3), .val (.int (1 : Int32)), .val (.int (1 : Int32))]) (1 : Int32) d4_75 (pc' := 78) rfl (by decide) rfl rfl ?_
    rw [(by decide : (3 : Int32) + (1 : Int32) = (4 : Int32))]
    refine go_goto C d4_78 (by decide) (pc' := 4) (by decide) ?_
    refine go_iloadN C d4_4 (pc' := 5) rfl rfl ?_
    refine go_aloadN C d4_5 (pc' := 6) rfl rfl rfl ?_
    refine go_getfield C (wd hw 21 rfl) F_40 d4_6 (pc' := 9) rfl ?_
    refine go_icmp C (4 : Int) (4 : Int) (by decide) (by decide) d4_9 (by decide) (pc' := 81) (by decide) (pcN := 12) rfl (fun (c_75 : ¬ (4 : Int) < (4 : Int)) => ?_) (fun (c_75 : (4 : Int) < (4 : Int)) => by omega)
    refine go_aloadN C d4_81 (pc' := 82) rfl rfl rfl ?_
    refine go_iloadN C d4_82 (pc' := 83) rfl rfl ?_
    refine go_putfield C (wd hw 21 rfl) F_40 E_41 (Or.inl (wd hw 22 rfl)) (wd hw 5 rfl) (ty := .int) (by decide) rfl rfl ga d4_83 (pc' := 86) rfl ?_
    intro h_76 W_77
    have F_78 := Fld.other W_77 F_39 (Or.inr (slot_ne (a0 := a0) (Or.inl (wd hw 15 rfl)) (Or.inl (wd hw 22 rfl)) (by decide) (t := (.array .int)) (t' := .int) (by decide) (by decide)))
    have F_79 := Fld.same W_77 F_40
    have E_80 := Exa.wr W_77 E_41
    have A_81 := Av.other A_42 W_77 (Ne.symm (own_ne_arr E_41 (wd hw 5 rfl) A_42))
    refine go_return C rfl d4_86 (by decide) (by decide) ?_
    exact ⟨rfl, E_80, F_78, F_79, A_81⟩
set_option maxRecDepth 65536 in
set_option maxHeartbeats 40000000 in
theorem sat_rd4tft (l : Launch) (Z : State) (a0 : Array Value) (hw : ∀ d ∈ tables_1, d.before a0 Z = true) (a r : Addr) (v0 v1 v2 v3 : Int32) (h0 : Heap) (n0 : Nat) (hf1 : ¬ v1.toInt = v0.toInt) (hf2 : v2.toInt = v0.toInt ∨ v2.toInt = v1.toInt) (hf3 : ¬ v3.toInt = v0.toInt ∧ ¬ v3.toInt = v1.toInt ∧ ¬ v3.toInt = v2.toInt) (E1 : Exa Z h0 a "com/example/inevitable_path/inevitablepath/smv/IntList") (F1 : Fld Z h0 a "com/example/inevitable_path/inevitablepath/smv/IntList" "values" "[I" (.ref r)) (F2 : Fld Z h0 a "com/example/inevitable_path/inevitablepath/smv/IntList" "size" "I" (.int (4 : Int32))) (A1 : Av Z h0 r .int [.int v0, .int v1, .int v2, .int v3, .int (0 : Int32), .int (0 : Int32), .int (0 : Int32), .int (0 : Int32)]) (ga : n0 ≤ a) (gr : n0 ≤ r) :
    Sat l Z (⟨"com/example/inevitable_path/inevitablepath/smv/IntList", "removeDuplicates", "()V"⟩ : MethodName) prog_60_method_10_code 6 none ({ frames := 0, cells := 0, slots := 0, locals := 0 } : Room) [.ref a] h0 n0 (RN fun h => Exa Z h a "com/example/inevitable_path/inevitablepath/smv/IntList" ∧ Fld Z h a "com/example/inevitable_path/inevitablepath/smv/IntList" "values" "[I" (.ref r) ∧ Fld Z h a "com/example/inevitable_path/inevitablepath/smv/IntList" "size" "I" (.int (3 : Int32)) ∧ Av Z h r .int [.int v0, .int v1, .int v3, .int v3, .int (0 : Int32), .int (0 : Int32), .int (0 : Int32), .int (0 : Int32)]) := by
  refine sat_of (own := "com/example/inevitable_path/inevitablepath/smv/IntList") (nm := "removeDuplicates") rfl rfl (plainFor_of_name pn_1) #[.val (.ref a), .unset, .unset, .unset, .unset, .unset] (fun m => by first | (simp [entryFrame, mkF, argsToLocals, Value.category, maxLocals]; done) | rfl) ?_
  intro p e s m below meth c C
  refine go_iconst C (0 : Int32) d4_0 (pc' := 1) rfl (by decide) ?_
  refine go_istoreN C (Ls' := #[.val (.ref a), .val (.int (0 : Int32)), .unset, .unset, .unset, .unset]) d4_1 (pc' := 2) rfl rfl ?_
  refine go_iconst C (0 : Int32) d4_2 (pc' := 3) rfl (by decide) ?_
  refine go_istoreN C (Ls' := #[.val (.ref a), .val (.int (0 : Int32)), .val (.int (0 : Int32)), .unset, .unset, .unset]) d4_3 (pc' := 4) rfl rfl ?_
  refine go_iloadN C d4_4 (pc' := 5) rfl rfl ?_
  refine go_aloadN C d4_5 (pc' := 6) rfl rfl rfl ?_
  refine go_getfield C (wd hw 21 rfl) F2 d4_6 (pc' := 9) rfl ?_
  refine go_icmp C (0 : Int) (4 : Int) (by decide) (by decide) d4_9 (by decide) (pc' := 81) (by decide) (pcN := 12) rfl (fun (c_1 : ¬ (0 : Int) < (4 : Int)) => by omega) (fun (c_1 : (0 : Int) < (4 : Int)) => ?_)
  refine go_aloadN C d4_12 (pc' := 13) rfl rfl rfl ?_
  refine go_getfield C (wd hw 14 rfl) F1 d4_13 (pc' := 16) rfl ?_
  refine go_iloadN C d4_16 (pc' := 17) rfl rfl ?_
  refine go_iaload C A1 0 (.int v0) (by decide) rfl d4_17 (pc' := 18) rfl ?_
  refine go_istoreN C (Ls' := #[.val (.ref a), .val (.int (0 : Int32)), .val (.int (0 : Int32)), .val (.int v0), .unset, .unset]) d4_18 (pc' := 19) rfl rfl ?_
  refine go_iconst C (0 : Int32) d4_19 (pc' := 20) rfl (by decide) ?_
  refine go_istore C (Ls' := #[.val (.ref a), .val (.int (0 : Int32)), .val (.int (0 : Int32)), .val (.int v0), .val (.int (0 : Int32)), .unset]) d4_20 (pc' := 22) rfl rfl ?_
  refine go_iconst C (0 : Int32) d4_22 (pc' := 23) rfl (by decide) ?_
  refine go_istore C (Ls' := #[.val (.ref a), .val (.int (0 : Int32)), .val (.int (0 : Int32)), .val (.int v0), .val (.int (0 : Int32)), .val (.int (0 : Int32))]) d4_23 (pc' := 25) rfl rfl ?_
  refine go_iload C d4_25 (pc' := 27) rfl rfl ?_
  refine go_iloadN C d4_27 (pc' := 28) rfl rfl ?_
  refine go_icmp C (0 : Int) (0 : Int) (by decide) (by decide) d4_28 (by decide) (pc' := 60) (by decide) (pcN := 31) rfl (fun (c_2 : ¬ (0 : Int) < (0 : Int)) => ?_) (fun (c_2 : (0 : Int) < (0 : Int)) => by omega)
  refine go_iload C d4_60 (pc' := 62) rfl rfl ?_
  refine go_if0 C (0 : Int) (by decide) d4_62 (by decide) (pc' := 75) (by decide) (pcN := 65) rfl (fun (c_3 : ¬ (0 : Int) = 0) => by omega) (fun (c_3 : (0 : Int) = 0) => ?_)
  refine go_aloadN C d4_65 (pc' := 66) rfl rfl rfl ?_
  refine go_getfield C (wd hw 14 rfl) F1 d4_66 (pc' := 69) rfl ?_
  refine go_iloadN C d4_69 (pc' := 70) rfl rfl ?_
  refine go_iinc C (Ls' := #[.val (.ref a), .val (.int ((0 : Int32) + (1 : Int32))), .val (.int (0 : Int32)), .val (.int v0), .val (.int (0 : Int32)), .val (.int (0 : Int32))]) (1 : Int32) d4_70 (pc' := 73) rfl (by decide) rfl rfl ?_
  rw [(by decide : (0 : Int32) + (1 : Int32) = (1 : Int32))]
  refine go_iloadN C d4_73 (pc' := 74) rfl rfl ?_
  refine go_iastore C A1 0 (by decide) (show 0 < 8 from by decide) gr d4_74 (pc' := 75) rfl ?_
  intro h_4 W_5 A_6
  have F_8 := Fld.other W_5 F1 (Or.inl (own_ne_arr E1 (wd hw 5 rfl) A1))
  have F_9 := Fld.other W_5 F2 (Or.inl (own_ne_arr E1 (wd hw 5 rfl) A1))
  have E_10 := Exa.wr W_5 E1
  have A_11 : Av Z h_4 r .int [.int v0, .int v1, .int v2, .int v3, .int (0 : Int32), .int (0 : Int32), .int (0 : Int32), .int (0 : Int32)] := A_6
  refine go_iinc C (Ls' := #[.val (.ref a), .val (.int (1 : Int32)), .val (.int ((0 : Int32) + (1 : Int32))), .val (.int v0), .val (.int (0 : Int32)), .val (.int (0 : Int32))]) (1 : Int32) d4_75 (pc' := 78) rfl (by decide) rfl rfl ?_
  rw [(by decide : (0 : Int32) + (1 : Int32) = (1 : Int32))]
  refine go_goto C d4_78 (by decide) (pc' := 4) (by decide) ?_
  refine go_iloadN C d4_4 (pc' := 5) rfl rfl ?_
  refine go_aloadN C d4_5 (pc' := 6) rfl rfl rfl ?_
  refine go_getfield C (wd hw 21 rfl) F_9 d4_6 (pc' := 9) rfl ?_
  refine go_icmp C (1 : Int) (4 : Int) (by decide) (by decide) d4_9 (by decide) (pc' := 81) (by decide) (pcN := 12) rfl (fun (c_12 : ¬ (1 : Int) < (4 : Int)) => by omega) (fun (c_12 : (1 : Int) < (4 : Int)) => ?_)
  refine go_aloadN C d4_12 (pc' := 13) rfl rfl rfl ?_
  refine go_getfield C (wd hw 14 rfl) F_8 d4_13 (pc' := 16) rfl ?_
  refine go_iloadN C d4_16 (pc' := 17) rfl rfl ?_
  refine go_iaload C A_11 1 (.int v1) (by decide) rfl d4_17 (pc' := 18) rfl ?_
  refine go_istoreN C (Ls' := #[.val (.ref a), .val (.int (1 : Int32)), .val (.int (1 : Int32)), .val (.int v1), .val (.int (0 : Int32)), .val (.int (0 : Int32))]) d4_18 (pc' := 19) rfl rfl ?_
  refine go_iconst C (0 : Int32) d4_19 (pc' := 20) rfl (by decide) ?_
  refine go_istore C (Ls' := #[.val (.ref a), .val (.int (1 : Int32)), .val (.int (1 : Int32)), .val (.int v1), .val (.int (0 : Int32)), .val (.int (0 : Int32))]) d4_20 (pc' := 22) rfl rfl ?_
  refine go_iconst C (0 : Int32) d4_22 (pc' := 23) rfl (by decide) ?_
  refine go_istore C (Ls' := #[.val (.ref a), .val (.int (1 : Int32)), .val (.int (1 : Int32)), .val (.int v1), .val (.int (0 : Int32)), .val (.int (0 : Int32))]) d4_23 (pc' := 25) rfl rfl ?_
  refine go_iload C d4_25 (pc' := 27) rfl rfl ?_
  refine go_iloadN C d4_27 (pc' := 28) rfl rfl ?_
  refine go_icmp C (0 : Int) (1 : Int) (by decide) (by decide) d4_28 (by decide) (pc' := 60) (by decide) (pcN := 31) rfl (fun (c_13 : ¬ (0 : Int) < (1 : Int)) => by omega) (fun (c_13 : (0 : Int) < (1 : Int)) => ?_)
  refine go_iload C d4_31 (pc' := 33) rfl rfl ?_
  refine go_if0 C (0 : Int) (by decide) d4_33 (by decide) (pc' := 60) (by decide) (pcN := 36) rfl (fun (c_14 : ¬ (0 : Int) = 0) => by omega) (fun (c_14 : (0 : Int) = 0) => ?_)
  refine go_aloadN C d4_36 (pc' := 37) rfl rfl rfl ?_
  refine go_getfield C (wd hw 14 rfl) F_8 d4_37 (pc' := 40) rfl ?_
  refine go_iload C d4_40 (pc' := 42) rfl rfl ?_
  refine go_iaload C A_11 0 (.int v0) (by decide) rfl d4_42 (pc' := 43) rfl ?_
  refine go_iloadN C d4_43 (pc' := 44) rfl rfl ?_
  refine go_icmp C v0.toInt v1.toInt rfl rfl d4_44 (by decide) (pc' := 51) (by decide) (pcN := 47) rfl (fun (c_15 : ¬ v0.toInt = v1.toInt) => ?_) (fun (c_15 : v0.toInt = v1.toInt) => by omega)
  refine go_iconst C (0 : Int32) d4_51 (pc' := 52) rfl (by decide) ?_
  refine go_istore C (Ls' := #[.val (.ref a), .val (.int (1 : Int32)), .val (.int (1 : Int32)), .val (.int v1), .val (.int (0 : Int32)), .val (.int (0 : Int32))]) d4_52 (pc' := 54) rfl rfl ?_
  refine go_iinc C (Ls' := #[.val (.ref a), .val (.int (1 : Int32)), .val (.int (1 : Int32)), .val (.int v1), .val (.int (0 : Int32)), .val (.int ((0 : Int32) + (1 : Int32)))]) (1 : Int32) d4_54 (pc' := 57) rfl (by decide) rfl rfl ?_
  rw [(by decide : (0 : Int32) + (1 : Int32) = (1 : Int32))]
  refine go_goto C d4_57 (by decide) (pc' := 25) (by decide) ?_
  refine go_iload C d4_25 (pc' := 27) rfl rfl ?_
  refine go_iloadN C d4_27 (pc' := 28) rfl rfl ?_
  refine go_icmp C (1 : Int) (1 : Int) (by decide) (by decide) d4_28 (by decide) (pc' := 60) (by decide) (pcN := 31) rfl (fun (c_16 : ¬ (1 : Int) < (1 : Int)) => ?_) (fun (c_16 : (1 : Int) < (1 : Int)) => by omega)
  refine go_iload C d4_60 (pc' := 62) rfl rfl ?_
  refine go_if0 C (0 : Int) (by decide) d4_62 (by decide) (pc' := 75) (by decide) (pcN := 65) rfl (fun (c_17 : ¬ (0 : Int) = 0) => by omega) (fun (c_17 : (0 : Int) = 0) => ?_)
  refine go_aloadN C d4_65 (pc' := 66) rfl rfl rfl ?_
  refine go_getfield C (wd hw 14 rfl) F_8 d4_66 (pc' := 69) rfl ?_
  refine go_iloadN C d4_69 (pc' := 70) rfl rfl ?_
  refine go_iinc C (Ls' := #[.val (.ref a), .val (.int ((1 : Int32) + (1 : Int32))), .val (.int (1 : Int32)), .val (.int v1), .val (.int (0 : Int32)), .val (.int (1 : Int32))]) (1 : Int32) d4_70 (pc' := 73) rfl (by decide) rfl rfl ?_
  rw [(by decide : (1 : Int32) + (1 : Int32) = (2 : Int32))]
  refine go_iloadN C d4_73 (pc' := 74) rfl rfl ?_
  refine go_iastore C A_11 1 (by decide) (show 1 < 8 from by decide) gr d4_74 (pc' := 75) rfl ?_
  intro h_18 W_19 A_20
  have F_22 := Fld.other W_19 F_8 (Or.inl (own_ne_arr E_10 (wd hw 5 rfl) A_11))
  have F_23 := Fld.other W_19 F_9 (Or.inl (own_ne_arr E_10 (wd hw 5 rfl) A_11))
  have E_24 := Exa.wr W_19 E_10
  have A_25 : Av Z h_18 r .int [.int v0, .int v1, .int v2, .int v3, .int (0 : Int32), .int (0 : Int32), .int (0 : Int32), .int (0 : Int32)] := A_20
  refine go_iinc C (Ls' := #[.val (.ref a), .val (.int (2 : Int32)), .val (.int ((1 : Int32) + (1 : Int32))), .val (.int v1), .val (.int (0 : Int32)), .val (.int (1 : Int32))]) (1 : Int32) d4_75 (pc' := 78) rfl (by decide) rfl rfl ?_
  rw [(by decide : (1 : Int32) + (1 : Int32) = (2 : Int32))]
  refine go_goto C d4_78 (by decide) (pc' := 4) (by decide) ?_
  refine go_iloadN C d4_4 (pc' := 5) rfl rfl ?_
  refine go_aloadN C d4_5 (pc' := 6) rfl rfl rfl ?_
  refine go_getfield C (wd hw 21 rfl) F_23 d4_6 (pc' := 9) rfl ?_
  refine go_icmp C (2 : Int) (4 : Int) (by decide) (by decide) d4_9 (by decide) (pc' := 81) (by decide) (pcN := 12) rfl (fun (c_26 : ¬ (2 : Int) < (4 : Int)) => by omega) (fun (c_26 : (2 : Int) < (4 : Int)) => ?_)
  refine go_aloadN C d4_12 (pc' := 13) rfl rfl rfl ?_
  refine go_getfield C (wd hw 14 rfl) F_22 d4_13 (pc' := 16) rfl ?_
  refine go_iloadN C d4_16 (pc' := 17) rfl rfl ?_
  refine go_iaload C A_25 2 (.int v2) (by decide) rfl d4_17 (pc' := 18) rfl ?_
  refine go_istoreN C (Ls' := #[.val (.ref a), .val (.int (2 : Int32)), .val (.int (2 : Int32)), .val (.int v2), .val (.int (0 : Int32)), .val (.int (1 : Int32))]) d4_18 (pc' := 19) rfl rfl ?_
  refine go_iconst C (0 : Int32) d4_19 (pc' := 20) rfl (by decide) ?_
  refine go_istore C (Ls' := #[.val (.ref a), .val (.int (2 : Int32)), .val (.int (2 : Int32)), .val (.int v2), .val (.int (0 : Int32)), .val (.int (1 : Int32))]) d4_20 (pc' := 22) rfl rfl ?_
  refine go_iconst C (0 : Int32) d4_22 (pc' := 23) rfl (by decide) ?_
  refine go_istore C (Ls' := #[.val (.ref a), .val (.int (2 : Int32)), .val (.int (2 : Int32)), .val (.int v2), .val (.int (0 : Int32)), .val (.int (0 : Int32))]) d4_23 (pc' := 25) rfl rfl ?_
  refine go_iload C d4_25 (pc' := 27) rfl rfl ?_
  refine go_iloadN C d4_27 (pc' := 28) rfl rfl ?_
  refine go_icmp C (0 : Int) (2 : Int) (by decide) (by decide) d4_28 (by decide) (pc' := 60) (by decide) (pcN := 31) rfl (fun (c_27 : ¬ (0 : Int) < (2 : Int)) => by omega) (fun (c_27 : (0 : Int) < (2 : Int)) => ?_)
  refine go_iload C d4_31 (pc' := 33) rfl rfl ?_
  refine go_if0 C (0 : Int) (by decide) d4_33 (by decide) (pc' := 60) (by decide) (pcN := 36) rfl (fun (c_28 : ¬ (0 : Int) = 0) => by omega) (fun (c_28 : (0 : Int) = 0) => ?_)
  refine go_aloadN C d4_36 (pc' := 37) rfl rfl rfl ?_
  refine go_getfield C (wd hw 14 rfl) F_22 d4_37 (pc' := 40) rfl ?_
  refine go_iload C d4_40 (pc' := 42) rfl rfl ?_
  refine go_iaload C A_25 0 (.int v0) (by decide) rfl d4_42 (pc' := 43) rfl ?_
  refine go_iloadN C d4_43 (pc' := 44) rfl rfl ?_
  refine go_icmp C v0.toInt v2.toInt rfl rfl d4_44 (by decide) (pc' := 51) (by decide) (pcN := 47) rfl (fun (c_29 : ¬ v0.toInt = v2.toInt) => ?_) (fun (c_29 : v0.toInt = v2.toInt) => ?_)
  · skip
    refine go_iconst C (0 : Int32) d4_51 (pc' := 52) rfl (by decide) ?_
    refine go_istore C (Ls' := #[.val (.ref a), .val (.int (2 : Int32)), .val (.int (2 : Int32)), .val (.int v2), .val (.int (0 : Int32)), .val (.int (0 : Int32))]) d4_52 (pc' := 54) rfl rfl ?_
    refine go_iinc C (Ls' := #[.val (.ref a), .val (.int (2 : Int32)), .val (.int (2 : Int32)), .val (.int v2), .val (.int (0 : Int32)), .val (.int ((0 : Int32) + (1 : Int32)))]) (1 : Int32) d4_54 (pc' := 57) rfl (by decide) rfl rfl ?_
    rw [(by decide : (0 : Int32) + (1 : Int32) = (1 : Int32))]
    refine go_goto C d4_57 (by decide) (pc' := 25) (by decide) ?_
    refine go_iload C d4_25 (pc' := 27) rfl rfl ?_
    refine go_iloadN C d4_27 (pc' := 28) rfl rfl ?_
    refine go_icmp C (1 : Int) (2 : Int) (by decide) (by decide) d4_28 (by decide) (pc' := 60) (by decide) (pcN := 31) rfl (fun (c_30 : ¬ (1 : Int) < (2 : Int)) => by omega) (fun (c_30 : (1 : Int) < (2 : Int)) => ?_)
    refine go_iload C d4_31 (pc' := 33) rfl rfl ?_
    refine go_if0 C (0 : Int) (by decide) d4_33 (by decide) (pc' := 60) (by decide) (pcN := 36) rfl (fun (c_31 : ¬ (0 : Int) = 0) => by omega) (fun (c_31 : (0 : Int) = 0) => ?_)
    refine go_aloadN C d4_36 (pc' := 37) rfl rfl rfl ?_
    refine go_getfield C (wd hw 14 rfl) F_22 d4_37 (pc' := 40) rfl ?_
    refine go_iload C d4_40 (pc' := 42) rfl rfl ?_
    refine go_iaload C A_25 1 (.int v1) (by decide) rfl d4_42 (pc' := 43) rfl ?_
    refine go_iloadN C d4_43 (pc' := 44) rfl rfl ?_
    refine go_icmp C v1.toInt v2.toInt rfl rfl d4_44 (by decide) (pc' := 51) (by decide) (pcN := 47) rfl (fun (c_32 : ¬ v1.toInt = v2.toInt) => by omega) (fun (c_32 : v1.toInt = v2.toInt) => ?_)
    refine go_iconst C (1 : Int32) d4_47 (pc' := 48) rfl (by decide) ?_
    refine go_goto C d4_48 (by decide) (pc' := 52) (by decide) ?_
    refine go_istore C (Ls' := #[.val (.ref a), .val (.int (2 : Int32)), .val (.int (2 : Int32)), .val (.int v2), .val (.int (1 : Int32)), .val (.int (1 : Int32))]) d4_52 (pc' := 54) rfl rfl ?_
    refine go_iinc C (Ls' := #[.val (.ref a), .val (.int (2 : Int32)), .val (.int (2 : Int32)), .val (.int v2), .val (.int (1 : Int32)), .val (.int ((1 : Int32) + (1 : Int32)))]) (1 : Int32) d4_54 (pc' := 57) rfl (by decide) rfl rfl ?_
    rw [(by decide : (1 : Int32) + (1 : Int32) = (2 : Int32))]
    refine go_goto C d4_57 (by decide) (pc' := 25) (by decide) ?_
    refine go_iload C d4_25 (pc' := 27) rfl rfl ?_
    refine go_iloadN C d4_27 (pc' := 28) rfl rfl ?_
    refine go_icmp C (2 : Int) (2 : Int) (by decide) (by decide) d4_28 (by decide) (pc' := 60) (by decide) (pcN := 31) rfl (fun (c_33 : ¬ (2 : Int) < (2 : Int)) => ?_) (fun (c_33 : (2 : Int) < (2 : Int)) => by omega)
    refine go_iload C d4_60 (pc' := 62) rfl rfl ?_
    refine go_if0 C (1 : Int) (by decide) d4_62 (by decide) (pc' := 75) (by decide) (pcN := 65) rfl (fun (c_34 : ¬ (1 : Int) = 0) => ?_) (fun (c_34 : (1 : Int) = 0) => by omega)
    refine go_iinc C (Ls' := #[.val (.ref a), .val (.int (2 : Int32)), .val (.int ((2 : Int32) + (1 : Int32))), .val (.int v2), .val (.int (1 : Int32)), .val (.int (2 : Int32))]) (1 : Int32) d4_75 (pc' := 78) rfl (by decide) rfl rfl ?_
    rw [(by decide : (2 : Int32) + (1 : Int32) = (3 : Int32))]
    refine go_goto C d4_78 (by decide) (pc' := 4) (by decide) ?_
    refine go_iloadN C d4_4 (pc' := 5) rfl rfl ?_
    refine go_aloadN C d4_5 (pc' := 6) rfl rfl rfl ?_
    refine go_getfield C (wd hw 21 rfl) F_23 d4_6 (pc' := 9) rfl ?_
    refine go_icmp C (3 : Int) (4 : Int) (by decide) (by decide) d4_9 (by decide) (pc' := 81) (by decide) (pcN := 12) rfl (fun (c_35 : ¬ (3 : Int) < (4 : Int)) => by omega) (fun (c_35 : (3 : Int) < (4 : Int)) => ?_)
    refine go_aloadN C d4_12 (pc' := 13) rfl rfl rfl ?_
    refine go_getfield C (wd hw 14 rfl) F_22 d4_13 (pc' := 16) rfl ?_
    refine go_iloadN C d4_16 (pc' := 17) rfl rfl ?_
    refine go_iaload C A_25 3 (.int v3) (by decide) rfl d4_17 (pc' := 18) rfl ?_
    refine go_istoreN C (Ls' := #[.val (.ref a), .val (.int (2 : Int32)), .val (.int (3 : Int32)), .val (.int v3), .val (.int (1 : Int32)), .val (.int (2 : Int32))]) d4_18 (pc' := 19) rfl rfl ?_
    refine go_iconst C (0 : Int32) d4_19 (pc' := 20) rfl (by decide) ?_
    refine go_istore C (Ls' := #[.val (.ref a), .val (.int (2 : Int32)), .val (.int (3 : Int32)), .val (.int v3), .val (.int (0 : Int32)), .val (.int (2 : Int32))]) d4_20 (pc' := 22) rfl rfl ?_
    refine go_iconst C (0 : Int32) d4_22 (pc' := 23) rfl (by decide) ?_
    refine go_istore C (Ls' := #[.val (.ref a), .val (.int (2 : Int32)), .val (.int (3 : Int32)), .val (.int v3), .val (.int (0 : Int32)), .val (.int (0 : Int32))]) d4_23 (pc' := 25) rfl rfl ?_
    refine go_iload C d4_25 (pc' := 27) rfl rfl ?_
    refine go_iloadN C d4_27 (pc' := 28) rfl rfl ?_
    refine go_icmp C (0 : Int) (2 : Int) (by decide) (by decide) d4_28 (by decide) (pc' := 60) (by decide) (pcN := 31) rfl (fun (c_36 : ¬ (0 : Int) < (2 : Int)) => by omega) (fun (c_36 : (0 : Int) < (2 : Int)) => ?_)
    refine go_iload C d4_31 (pc' := 33) rfl rfl ?_
    refine go_if0 C (0 : Int) (by decide) d4_33 (by decide) (pc' := 60) (by decide) (pcN := 36) rfl (fun (c_37 : ¬ (0 : Int) = 0) => by omega) (fun (c_37 : (0 : Int) = 0) => ?_)
    refine go_aloadN C d4_36 (pc' := 37) rfl rfl rfl ?_
    refine go_getfield C (wd hw 14 rfl) F_22 d4_37 (pc' := 40) rfl ?_
    refine go_iload C d4_40 (pc' := 42) rfl rfl ?_
    refine go_iaload C A_25 0 (.int v0) (by decide) rfl d4_42 (pc' := 43) rfl ?_
    refine go_iloadN C d4_43 (pc' := 44) rfl rfl ?_
    refine go_icmp C v0.toInt v3.toInt rfl rfl d4_44 (by decide) (pc' := 51) (by decide) (pcN := 47) rfl (fun (c_38 : ¬ v0.toInt = v3.toInt) => ?_) (fun (c_38 : v0.toInt = v3.toInt) => by omega)
    refine go_iconst C (0 : Int32) d4_51 (pc' := 52) rfl (by decide) ?_
    refine go_istore C (Ls' := #[.val (.ref a), .val (.int (2 : Int32)), .val (.int (3 : Int32)), .val (.int v3), .val (.int (0 : Int32)), .val (.int (0 : Int32))]) d4_52 (pc' := 54) rfl rfl ?_
    refine go_iinc C (Ls' := #[.val (.ref a), .val (.int (2 : Int32)), .val (.int (3 : Int32)), .val (.int v3), .val (.int (0 : Int32)), .val (.int ((0 : Int32) + (1 : Int32)))]) (1 : Int32) d4_54 (pc' := 57) rfl (by decide) rfl rfl ?_
    rw [(by decide : (0 : Int32) + (1 : Int32) = (1 : Int32))]
    refine go_goto C d4_57 (by decide) (pc' := 25) (by decide) ?_
    refine go_iload C d4_25 (pc' := 27) rfl rfl ?_
    refine go_iloadN C d4_27 (pc' := 28) rfl rfl ?_
    refine go_icmp C (1 : Int) (2 : Int) (by decide) (by decide) d4_28 (by decide) (pc' := 60) (by decide) (pcN := 31) rfl (fun (c_39 : ¬ (1 : Int) < (2 : Int)) => by omega) (fun (c_39 : (1 : Int) < (2 : Int)) => ?_)
    refine go_iload C d4_31 (pc' := 33) rfl rfl ?_
    refine go_if0 C (0 : Int) (by decide) d4_33 (by decide) (pc' := 60) (by decide) (pcN := 36) rfl (fun (c_40 : ¬ (0 : Int) = 0) => by omega) (fun (c_40 : (0 : Int) = 0) => ?_)
    refine go_aloadN C d4_36 (pc' := 37) rfl rfl rfl ?_
    refine go_getfield C (wd hw 14 rfl) F_22 d4_37 (pc' := 40) rfl ?_
    refine go_iload C d4_40 (pc' := 42) rfl rfl ?_
    refine go_iaload C A_25 1 (.int v1) (by decide) rfl d4_42 (pc' := 43) rfl ?_
    refine go_iloadN C d4_43 (pc' := 44) rfl rfl ?_
    refine go_icmp C v1.toInt v3.toInt rfl rfl d4_44 (by decide) (pc' := 51) (by decide) (pcN := 47) rfl (fun (c_41 : ¬ v1.toInt = v3.toInt) => ?_) (fun (c_41 : v1.toInt = v3.toInt) => by omega)
    refine go_iconst C (0 : Int32) d4_51 (pc' := 52) rfl (by decide) ?_
    refine go_istore C (Ls' := #[.val (.ref a), .val (.int (2 : Int32)), .val (.int (3 : Int32)), .val (.int v3), .val (.int (0 : Int32)), .val (.int (1 : Int32))]) d4_52 (pc' := 54) rfl rfl ?_
    refine go_iinc C (Ls' := #[.val (.ref a), .val (.int (2 : Int32)), .val (.int (3 : Int32)), .val (.int v3), .val (.int (0 : Int32)), .val (.int ((1 : Int32) + (1 : Int32)))]) (1 : Int32) d4_54 (pc' := 57) rfl (by decide) rfl rfl ?_
    rw [(by decide : (1 : Int32) + (1 : Int32) = (2 : Int32))]
    refine go_goto C d4_57 (by decide) (pc' := 25) (by decide) ?_
    refine go_iload C d4_25 (pc' := 27) rfl rfl ?_
    refine go_iloadN C d4_27 (pc' := 28) rfl rfl ?_
    refine go_icmp C (2 : Int) (2 : Int) (by decide) (by decide) d4_28 (by decide) (pc' := 60) (by decide) (pcN := 31) rfl (fun (c_42 : ¬ (2 : Int) < (2 : Int)) => ?_) (fun (c_42 : (2 : Int) < (2 : Int)) => by omega)
    refine go_iload C d4_60 (pc' := 62) rfl rfl ?_
    refine go_if0 C (0 : Int) (by decide) d4_62 (by decide) (pc' := 75) (by decide) (pcN := 65) rfl (fun (c_43 : ¬ (0 : Int) = 0) => by omega) (fun (c_43 : (0 : Int) = 0) => ?_)
    refine go_aloadN C d4_65 (pc' := 66) rfl rfl rfl ?_
    refine go_getfield C (wd hw 14 rfl) F_22 d4_66 (pc' := 69) rfl ?_
    refine go_iloadN C d4_69 (pc' := 70) rfl rfl ?_
    refine go_iinc C (Ls' := #[.val (.ref a), .val (.int ((2 : Int32) + (1 : Int32))), .val (.int (3 : Int32)), .val (.int v3), .val (.int (0 : Int32)), .val (.int (2 : Int32))]) (1 : Int32) d4_70 (pc' := 73) rfl (by decide) rfl rfl ?_
    rw [(by decide : (2 : Int32) + (1 : Int32) = (3 : Int32))]
    refine go_iloadN C d4_73 (pc' := 74) rfl rfl ?_
    refine go_iastore C A_25 2 (by decide) (show 2 < 8 from by decide) gr d4_74 (pc' := 75) rfl ?_
    intro h_44 W_45 A_46
    have F_48 := Fld.other W_45 F_22 (Or.inl (own_ne_arr E_24 (wd hw 5 rfl) A_25))
    have F_49 := Fld.other W_45 F_23 (Or.inl (own_ne_arr E_24 (wd hw 5 rfl) A_25))
    have E_50 := Exa.wr W_45 E_24
    have A_51 : Av Z h_44 r .int [.int v0, .int v1, .int v3, .int v3, .int (0 : Int32), .int (0 : Int32), .int (0 : Int32), .int (0 : Int32)] := A_46
    refine go_iinc C (Ls' := #[.val (.ref a), .val (.int (3 : Int32)), .val (.int ((3 : Int32) + (1 : Int32))), .val (.int v3), .val (.int (0 : Int32)), .val (.int (2 : Int32))]) (1 : Int32) d4_75 (pc' := 78) rfl (by decide) rfl rfl ?_
    rw [(by decide : (3 : Int32) + (1 : Int32) = (4 : Int32))]
    refine go_goto C d4_78 (by decide) (pc' := 4) (by decide) ?_
    refine go_iloadN C d4_4 (pc' := 5) rfl rfl ?_
    refine go_aloadN C d4_5 (pc' := 6) rfl rfl rfl ?_
    refine go_getfield C (wd hw 21 rfl) F_49 d4_6 (pc' := 9) rfl ?_
    refine go_icmp C (4 : Int) (4 : Int) (by decide) (by decide) d4_9 (by decide) (pc' := 81) (by decide) (pcN := 12) rfl (fun (c_52 : ¬ (4 : Int) < (4 : Int)) => ?_) (fun (c_52 : (4 : Int) < (4 : Int)) => by omega)
    refine go_aloadN C d4_81 (pc' := 82) rfl rfl rfl ?_
    refine go_iloadN C d4_82 (pc' := 83) rfl rfl ?_
    refine go_putfield C (wd hw 21 rfl) F_49 E_50 (Or.inl (wd hw 22 rfl)) (wd hw 5 rfl) (ty := .int) (by decide) rfl rfl ga d4_83 (pc' := 86) rfl ?_
    intro h_53 W_54
    have F_55 := Fld.other W_54 F_48 (Or.inr (slot_ne (a0 := a0) (Or.inl (wd hw 15 rfl)) (Or.inl (wd hw 22 rfl)) (by decide) (t := (.array .int)) (t' := .int) (by decide) (by decide)))
    have F_56 := Fld.same W_54 F_49
    have E_57 := Exa.wr W_54 E_50
    have A_58 := Av.other A_51 W_54 (Ne.symm (own_ne_arr E_50 (wd hw 5 rfl) A_51))
    refine go_return C rfl d4_86 (by decide) (by decide) ?_
    exact ⟨rfl, E_57, F_55, F_56, A_58⟩
  · skip
    refine go_iconst C (1 : Int32) d4_47 (pc' := 48) rfl (by decide) ?_
    refine go_goto C d4_48 (by decide) (pc' := 52) (by decide) ?_
    refine go_istore C (Ls' := #[.val (.ref a), .val (.int (2 : Int32)), .val (.int (2 : Int32)), .val (.int v2), .val (.int (1 : Int32)), .val (.int (0 : Int32))]) d4_52 (pc' := 54) rfl rfl ?_
    refine go_iinc C (Ls' := #[.val (.ref a), .val (.int (2 : Int32)), .val (.int (2 : Int32)), .val (.int v2), .val (.int (1 : Int32)), .val (.int ((0 : Int32) + (1 : Int32)))]) (1 : Int32) d4_54 (pc' := 57) rfl (by decide) rfl rfl ?_
    rw [(by decide : (0 : Int32) + (1 : Int32) = (1 : Int32))]
    refine go_goto C d4_57 (by decide) (pc' := 25) (by decide) ?_
    refine go_iload C d4_25 (pc' := 27) rfl rfl ?_
    refine go_iloadN C d4_27 (pc' := 28) rfl rfl ?_
    refine go_icmp C (1 : Int) (2 : Int) (by decide) (by decide) d4_28 (by decide) (pc' := 60) (by decide) (pcN := 31) rfl (fun (c_59 : ¬ (1 : Int) < (2 : Int)) => by omega) (fun (c_59 : (1 : Int) < (2 : Int)) => ?_)
    refine go_iload C d4_31 (pc' := 33) rfl rfl ?_
    refine go_if0 C (1 : Int) (by decide) d4_33 (by decide) (pc' := 60) (by decide) (pcN := 36) rfl (fun (c_60 : ¬ (1 : Int) = 0) => ?_) (fun (c_60 : (1 : Int) = 0) => by omega)
    refine go_iload C d4_60 (pc' := 62) rfl rfl ?_
    refine go_if0 C (1 : Int) (by decide) d4_62 (by decide) (pc' := 75) (by decide) (pcN := 65) rfl (fun (c_61 : ¬ (1 : Int) = 0) => ?_) (fun (c_61 : (1 : Int) = 0) => by omega)
    refine go_iinc C (Ls' := #[.val (.ref a), .val (.int (2 : Int32)), .val (.int ((2 : Int32) + (1 : Int32))), .val (.int v2), .val (.int (1 : Int32)), .val (.int (1 : Int32))]) (1 : Int32) d4_75 (pc' := 78) rfl (by decide) rfl rfl ?_
    rw [(by decide : (2 : Int32) + (1 : Int32) = (3 : Int32))]
    refine go_goto C d4_78 (by decide) (pc' := 4) (by decide) ?_
    refine go_iloadN C d4_4 (pc' := 5) rfl rfl ?_
    refine go_aloadN C d4_5 (pc' := 6) rfl rfl rfl ?_
    refine go_getfield C (wd hw 21 rfl) F_23 d4_6 (pc' := 9) rfl ?_
    refine go_icmp C (3 : Int) (4 : Int) (by decide) (by decide) d4_9 (by decide) (pc' := 81) (by decide) (pcN := 12) rfl (fun (c_62 : ¬ (3 : Int) < (4 : Int)) => by omega) (fun (c_62 : (3 : Int) < (4 : Int)) => ?_)
    refine go_aloadN C d4_12 (pc' := 13) rfl rfl rfl ?_
    refine go_getfield C (wd hw 14 rfl) F_22 d4_13 (pc' := 16) rfl ?_
    refine go_iloadN C d4_16 (pc' := 17) rfl rfl ?_
    refine go_iaload C A_25 3 (.int v3) (by decide) rfl d4_17 (pc' := 18) rfl ?_
    refine go_istoreN C (Ls' := #[.val (.ref a), .val (.int (2 : Int32)), .val (.int (3 : Int32)), .val (.int v3), .val (.int (1 : Int32)), .val (.int (1 : Int32))]) d4_18 (pc' := 19) rfl rfl ?_
    refine go_iconst C (0 : Int32) d4_19 (pc' := 20) rfl (by decide) ?_
    refine go_istore C (Ls' := #[.val (.ref a), .val (.int (2 : Int32)), .val (.int (3 : Int32)), .val (.int v3), .val (.int (0 : Int32)), .val (.int (1 : Int32))]) d4_20 (pc' := 22) rfl rfl ?_
    refine go_iconst C (0 : Int32) d4_22 (pc' := 23) rfl (by decide) ?_
    refine go_istore C (Ls' := #[.val (.ref a), .val (.int (2 : Int32)), .val (.int (3 : Int32)), .val (.int v3), .val (.int (0 : Int32)), .val (.int (0 : Int32))]) d4_23 (pc' := 25) rfl rfl ?_
    refine go_iload C d4_25 (pc' := 27) rfl rfl ?_
    refine go_iloadN C d4_27 (pc' := 28) rfl rfl ?_
    refine go_icmp C (0 : Int) (2 : Int) (by decide) (by decide) d4_28 (by decide) (pc' := 60) (by decide) (pcN := 31) rfl (fun (c_63 : ¬ (0 : Int) < (2 : Int)) => by omega) (fun (c_63 : (0 : Int) < (2 : Int)) => ?_)
    refine go_iload C d4_31 (pc' := 33) rfl rfl ?_
    refine go_if0 C (0 : Int) (by decide) d4_33 (by decide) (pc' := 60) (by decide) (pcN := 36) rfl (fun (c_64 : ¬ (0 : Int) = 0) => by omega) (fun (c_64 : (0 : Int) = 0) => ?_)
    refine go_aloadN C d4_36 (pc' := 37) rfl rfl rfl ?_
    refine go_getfield C (wd hw 14 rfl) F_22 d4_37 (pc' := 40) rfl ?_
    refine go_iload C d4_40 (pc' := 42) rfl rfl ?_
    refine go_iaload C A_25 0 (.int v0) (by decide) rfl d4_42 (pc' := 43) rfl ?_
    refine go_iloadN C d4_43 (pc' := 44) rfl rfl ?_
    refine go_icmp C v0.toInt v3.toInt rfl rfl d4_44 (by decide) (pc' := 51) (by decide) (pcN := 47) rfl (fun (c_65 : ¬ v0.toInt = v3.toInt) => ?_) (fun (c_65 : v0.toInt = v3.toInt) => by omega)
    refine go_iconst C (0 : Int32) d4_51 (pc' := 52) rfl (by decide) ?_
    refine go_istore C (Ls' := #[.val (.ref a), .val (.int (2 : Int32)), .val (.int (3 : Int32)), .val (.int v3), .val (.int (0 : Int32)), .val (.int (0 : Int32))]) d4_52 (pc' := 54) rfl rfl ?_
    refine go_iinc C (Ls' := #[.val (.ref a), .val (.int (2 : Int32)), .val (.int (3 : Int32)), .val (.int v3), .val (.int (0 : Int32)), .val (.int ((0 : Int32) + (1 : Int32)))]) (1 : Int32) d4_54 (pc' := 57) rfl (by decide) rfl rfl ?_
    rw [(by decide : (0 : Int32) + (1 : Int32) = (1 : Int32))]
    refine go_goto C d4_57 (by decide) (pc' := 25) (by decide) ?_
    refine go_iload C d4_25 (pc' := 27) rfl rfl ?_
    refine go_iloadN C d4_27 (pc' := 28) rfl rfl ?_
    refine go_icmp C (1 : Int) (2 : Int) (by decide) (by decide) d4_28 (by decide) (pc' := 60) (by decide) (pcN := 31) rfl (fun (c_66 : ¬ (1 : Int) < (2 : Int)) => by omega) (fun (c_66 : (1 : Int) < (2 : Int)) => ?_)
    refine go_iload C d4_31 (pc' := 33) rfl rfl ?_
    refine go_if0 C (0 : Int) (by decide) d4_33 (by decide) (pc' := 60) (by decide) (pcN := 36) rfl (fun (c_67 : ¬ (0 : Int) = 0) => by omega) (fun (c_67 : (0 : Int) = 0) => ?_)
    refine go_aloadN C d4_36 (pc' := 37) rfl rfl rfl ?_
    refine go_getfield C (wd hw 14 rfl) F_22 d4_37 (pc' := 40) rfl ?_
    refine go_iload C d4_40 (pc' := 42) rfl rfl ?_
    refine go_iaload C A_25 1 (.int v1) (by decide) rfl d4_42 (pc' := 43) rfl ?_
    refine go_iloadN C d4_43 (pc' := 44) rfl rfl ?_
    refine go_icmp C v1.toInt v3.toInt rfl rfl d4_44 (by decide) (pc' := 51) (by decide) (pcN := 47) rfl (fun (c_68 : ¬ v1.toInt = v3.toInt) => ?_) (fun (c_68 : v1.toInt = v3.toInt) => by omega)
    refine go_iconst C (0 : Int32) d4_51 (pc' := 52) rfl (by decide) ?_
    refine go_istore C (Ls' := #[.val (.ref a), .val (.int (2 : Int32)), .val (.int (3 : Int32)), .val (.int v3), .val (.int (0 : Int32)), .val (.int (1 : Int32))]) d4_52 (pc' := 54) rfl rfl ?_
    refine go_iinc C (Ls' := #[.val (.ref a), .val (.int (2 : Int32)), .val (.int (3 : Int32)), .val (.int v3), .val (.int (0 : Int32)), .val (.int ((1 : Int32) + (1 : Int32)))]) (1 : Int32) d4_54 (pc' := 57) rfl (by decide) rfl rfl ?_
    rw [(by decide : (1 : Int32) + (1 : Int32) = (2 : Int32))]
    refine go_goto C d4_57 (by decide) (pc' := 25) (by decide) ?_
    refine go_iload C d4_25 (pc' := 27) rfl rfl ?_
    refine go_iloadN C d4_27 (pc' := 28) rfl rfl ?_
    refine go_icmp C (2 : Int) (2 : Int) (by decide) (by decide) d4_28 (by decide) (pc' := 60) (by decide) (pcN := 31) rfl (fun (c_69 : ¬ (2 : Int) < (2 : Int)) => ?_) (fun (c_69 : (2 : Int) < (2 : Int)) => by omega)
    refine go_iload C d4_60 (pc' := 62) rfl rfl ?_
    refine go_if0 C (0 : Int) (by decide) d4_62 (by decide) (pc' := 75) (by decide) (pcN := 65) rfl (fun (c_70 : ¬ (0 : Int) = 0) => by omega) (fun (c_70 : (0 : Int) = 0) => ?_)
    refine go_aloadN C d4_65 (pc' := 66) rfl rfl rfl ?_
    refine go_getfield C (wd hw 14 rfl) F_22 d4_66 (pc' := 69) rfl ?_
    refine go_iloadN C d4_69 (pc' := 70) rfl rfl ?_
    refine go_iinc C (Ls' := #[.val (.ref a), .val (.int ((2 : Int32) + (1 : Int32))), .val (.int (3 : Int32)), .val (.int v3), .val (.int (0 : Int32)), .val (.int (2 : Int32))]) (1 : Int32) d4_70 (pc' := 73) rfl (by decide) rfl rfl ?_
    rw [(by decide : (2 : Int32) + (1 : Int32) = (3 : Int32))]
    refine go_iloadN C d4_73 (pc' := 74) rfl rfl ?_
    refine go_iastore C A_25 2 (by decide) (show 2 < 8 from by decide) gr d4_74 (pc' := 75) rfl ?_
    intro h_71 W_72 A_73
    have F_75 := Fld.other W_72 F_22 (Or.inl (own_ne_arr E_24 (wd hw 5 rfl) A_25))
    have F_76 := Fld.other W_72 F_23 (Or.inl (own_ne_arr E_24 (wd hw 5 rfl) A_25))
    have E_77 := Exa.wr W_72 E_24
    have A_78 : Av Z h_71 r .int [.int v0, .int v1, .int v3, .int v3, .int (0 : Int32), .int (0 : Int32), .int (0 : Int32), .int (0 : Int32)] := A_73
    refine go_iinc C (Ls' := #[.val (.ref a), .val (.int (3 : Int32)), .val (.int ((3 : Int32) + (1 : Int32))), .val (.int v3), .val (.int (0 : Int32)), .val (.int (2 : Int32))]) (1 : Int32) d4_75 (pc' := 78) rfl (by decide) rfl rfl ?_
    rw [(by decide : (3 : Int32) + (1 : Int32) = (4 : Int32))]
    refine go_goto C d4_78 (by decide) (pc' := 4) (by decide) ?_
    refine go_iloadN C d4_4 (pc' := 5) rfl rfl ?_
    refine go_aloadN C d4_5 (pc' := 6) rfl rfl rfl ?_
    refine go_getfield C (wd hw 21 rfl) F_76 d4_6 (pc' := 9) rfl ?_
    refine go_icmp C (4 : Int) (4 : Int) (by decide) (by decide) d4_9 (by decide) (pc' := 81) (by decide) (pcN := 12) rfl (fun (c_79 : ¬ (4 : Int) < (4 : Int)) => ?_) (fun (c_79 : (4 : Int) < (4 : Int)) => by omega)
    refine go_aloadN C d4_81 (pc' := 82) rfl rfl rfl ?_
    refine go_iloadN C d4_82 (pc' := 83) rfl rfl ?_
    refine go_putfield C (wd hw 21 rfl) F_76 E_77 (Or.inl (wd hw 22 rfl)) (wd hw 5 rfl) (ty := .int) (by decide) rfl rfl ga d4_83 (pc' := 86) rfl ?_
    intro h_80 W_81
    have F_82 := Fld.other W_81 F_75 (Or.inr (slot_ne (a0 := a0) (Or.inl (wd hw 15 rfl)) (Or.inl (wd hw 22 rfl)) (by decide) (t := (.array .int)) (t' := .int) (by decide) (by decide)))
    have F_83 := Fld.same W_81 F_76
    have E_84 := Exa.wr W_81 E_77
    have A_85 := Av.other A_78 W_81 (Ne.symm (own_ne_arr E_77 (wd hw 5 rfl) A_78))
    refine go_return C rfl d4_86 (by decide) (by decide) ?_
    exact ⟨rfl, E_84, F_82, F_83, A_85⟩
set_option maxRecDepth 65536 in
set_option maxHeartbeats 40000000 in
theorem sat_rd4tff (l : Launch) (Z : State) (a0 : Array Value) (hw : ∀ d ∈ tables_1, d.before a0 Z = true) (a r : Addr) (v0 v1 v2 v3 : Int32) (h0 : Heap) (n0 : Nat) (hf1 : ¬ v1.toInt = v0.toInt) (hf2 : v2.toInt = v0.toInt ∨ v2.toInt = v1.toInt) (hf3 : v3.toInt = v0.toInt ∨ v3.toInt = v1.toInt ∨ v3.toInt = v2.toInt) (E1 : Exa Z h0 a "com/example/inevitable_path/inevitablepath/smv/IntList") (F1 : Fld Z h0 a "com/example/inevitable_path/inevitablepath/smv/IntList" "values" "[I" (.ref r)) (F2 : Fld Z h0 a "com/example/inevitable_path/inevitablepath/smv/IntList" "size" "I" (.int (4 : Int32))) (A1 : Av Z h0 r .int [.int v0, .int v1, .int v2, .int v3, .int (0 : Int32), .int (0 : Int32), .int (0 : Int32), .int (0 : Int32)]) (ga : n0 ≤ a) (gr : n0 ≤ r) :
    Sat l Z (⟨"com/example/inevitable_path/inevitablepath/smv/IntList", "removeDuplicates", "()V"⟩ : MethodName) prog_60_method_10_code 6 none ({ frames := 0, cells := 0, slots := 0, locals := 0 } : Room) [.ref a] h0 n0 (RN fun h => Exa Z h a "com/example/inevitable_path/inevitablepath/smv/IntList" ∧ Fld Z h a "com/example/inevitable_path/inevitablepath/smv/IntList" "values" "[I" (.ref r) ∧ Fld Z h a "com/example/inevitable_path/inevitablepath/smv/IntList" "size" "I" (.int (2 : Int32)) ∧ Av Z h r .int [.int v0, .int v1, .int v2, .int v3, .int (0 : Int32), .int (0 : Int32), .int (0 : Int32), .int (0 : Int32)]) := by
  refine sat_of (own := "com/example/inevitable_path/inevitablepath/smv/IntList") (nm := "removeDuplicates") rfl rfl (plainFor_of_name pn_1) #[.val (.ref a), .unset, .unset, .unset, .unset, .unset] (fun m => by first | (simp [entryFrame, mkF, argsToLocals, Value.category, maxLocals]; done) | rfl) ?_
  intro p e s m below meth c C
  refine go_iconst C (0 : Int32) d4_0 (pc' := 1) rfl (by decide) ?_
  refine go_istoreN C (Ls' := #[.val (.ref a), .val (.int (0 : Int32)), .unset, .unset, .unset, .unset]) d4_1 (pc' := 2) rfl rfl ?_
  refine go_iconst C (0 : Int32) d4_2 (pc' := 3) rfl (by decide) ?_
  refine go_istoreN C (Ls' := #[.val (.ref a), .val (.int (0 : Int32)), .val (.int (0 : Int32)), .unset, .unset, .unset]) d4_3 (pc' := 4) rfl rfl ?_
  refine go_iloadN C d4_4 (pc' := 5) rfl rfl ?_
  refine go_aloadN C d4_5 (pc' := 6) rfl rfl rfl ?_
  refine go_getfield C (wd hw 21 rfl) F2 d4_6 (pc' := 9) rfl ?_
  refine go_icmp C (0 : Int) (4 : Int) (by decide) (by decide) d4_9 (by decide) (pc' := 81) (by decide) (pcN := 12) rfl (fun (c_1 : ¬ (0 : Int) < (4 : Int)) => by omega) (fun (c_1 : (0 : Int) < (4 : Int)) => ?_)
  refine go_aloadN C d4_12 (pc' := 13) rfl rfl rfl ?_
  refine go_getfield C (wd hw 14 rfl) F1 d4_13 (pc' := 16) rfl ?_
  refine go_iloadN C d4_16 (pc' := 17) rfl rfl ?_
  refine go_iaload C A1 0 (.int v0) (by decide) rfl d4_17 (pc' := 18) rfl ?_
  refine go_istoreN C (Ls' := #[.val (.ref a), .val (.int (0 : Int32)), .val (.int (0 : Int32)), .val (.int v0), .unset, .unset]) d4_18 (pc' := 19) rfl rfl ?_
  refine go_iconst C (0 : Int32) d4_19 (pc' := 20) rfl (by decide) ?_
  refine go_istore C (Ls' := #[.val (.ref a), .val (.int (0 : Int32)), .val (.int (0 : Int32)), .val (.int v0), .val (.int (0 : Int32)), .unset]) d4_20 (pc' := 22) rfl rfl ?_
  refine go_iconst C (0 : Int32) d4_22 (pc' := 23) rfl (by decide) ?_
  refine go_istore C (Ls' := #[.val (.ref a), .val (.int (0 : Int32)), .val (.int (0 : Int32)), .val (.int v0), .val (.int (0 : Int32)), .val (.int (0 : Int32))]) d4_23 (pc' := 25) rfl rfl ?_
  refine go_iload C d4_25 (pc' := 27) rfl rfl ?_
  refine go_iloadN C d4_27 (pc' := 28) rfl rfl ?_
  refine go_icmp C (0 : Int) (0 : Int) (by decide) (by decide) d4_28 (by decide) (pc' := 60) (by decide) (pcN := 31) rfl (fun (c_2 : ¬ (0 : Int) < (0 : Int)) => ?_) (fun (c_2 : (0 : Int) < (0 : Int)) => by omega)
  refine go_iload C d4_60 (pc' := 62) rfl rfl ?_
  refine go_if0 C (0 : Int) (by decide) d4_62 (by decide) (pc' := 75) (by decide) (pcN := 65) rfl (fun (c_3 : ¬ (0 : Int) = 0) => by omega) (fun (c_3 : (0 : Int) = 0) => ?_)
  refine go_aloadN C d4_65 (pc' := 66) rfl rfl rfl ?_
  refine go_getfield C (wd hw 14 rfl) F1 d4_66 (pc' := 69) rfl ?_
  refine go_iloadN C d4_69 (pc' := 70) rfl rfl ?_
  refine go_iinc C (Ls' := #[.val (.ref a), .val (.int ((0 : Int32) + (1 : Int32))), .val (.int (0 : Int32)), .val (.int v0), .val (.int (0 : Int32)), .val (.int (0 : Int32))]) (1 : Int32) d4_70 (pc' := 73) rfl (by decide) rfl rfl ?_
  rw [(by decide : (0 : Int32) + (1 : Int32) = (1 : Int32))]
  refine go_iloadN C d4_73 (pc' := 74) rfl rfl ?_
  refine go_iastore C A1 0 (by decide) (show 0 < 8 from by decide) gr d4_74 (pc' := 75) rfl ?_
  intro h_4 W_5 A_6
  have F_8 := Fld.other W_5 F1 (Or.inl (own_ne_arr E1 (wd hw 5 rfl) A1))
  have F_9 := Fld.other W_5 F2 (Or.inl (own_ne_arr E1 (wd hw 5 rfl) A1))
  have E_10 := Exa.wr W_5 E1
  have A_11 : Av Z h_4 r .int [.int v0, .int v1, .int v2, .int v3, .int (0 : Int32), .int (0 : Int32), .int (0 : Int32), .int (0 : Int32)] := A_6
  refine go_iinc C (Ls' := #[.val (.ref a), .val (.int (1 : Int32)), .val (.int ((0 : Int32) + (1 : Int32))), .val (.int v0), .val (.int (0 : Int32)), .val (.int (0 : Int32))]) (1 : Int32) d4_75 (pc' := 78) rfl (by decide) rfl rfl ?_
  rw [(by decide : (0 : Int32) + (1 : Int32) = (1 : Int32))]
  refine go_goto C d4_78 (by decide) (pc' := 4) (by decide) ?_
  refine go_iloadN C d4_4 (pc' := 5) rfl rfl ?_
  refine go_aloadN C d4_5 (pc' := 6) rfl rfl rfl ?_
  refine go_getfield C (wd hw 21 rfl) F_9 d4_6 (pc' := 9) rfl ?_
  refine go_icmp C (1 : Int) (4 : Int) (by decide) (by decide) d4_9 (by decide) (pc' := 81) (by decide) (pcN := 12) rfl (fun (c_12 : ¬ (1 : Int) < (4 : Int)) => by omega) (fun (c_12 : (1 : Int) < (4 : Int)) => ?_)
  refine go_aloadN C d4_12 (pc' := 13) rfl rfl rfl ?_
  refine go_getfield C (wd hw 14 rfl) F_8 d4_13 (pc' := 16) rfl ?_
  refine go_iloadN C d4_16 (pc' := 17) rfl rfl ?_
  refine go_iaload C A_11 1 (.int v1) (by decide) rfl d4_17 (pc' := 18) rfl ?_
  refine go_istoreN C (Ls' := #[.val (.ref a), .val (.int (1 : Int32)), .val (.int (1 : Int32)), .val (.int v1), .val (.int (0 : Int32)), .val (.int (0 : Int32))]) d4_18 (pc' := 19) rfl rfl ?_
  refine go_iconst C (0 : Int32) d4_19 (pc' := 20) rfl (by decide) ?_
  refine go_istore C (Ls' := #[.val (.ref a), .val (.int (1 : Int32)), .val (.int (1 : Int32)), .val (.int v1), .val (.int (0 : Int32)), .val (.int (0 : Int32))]) d4_20 (pc' := 22) rfl rfl ?_
  refine go_iconst C (0 : Int32) d4_22 (pc' := 23) rfl (by decide) ?_
  refine go_istore C (Ls' := #[.val (.ref a), .val (.int (1 : Int32)), .val (.int (1 : Int32)), .val (.int v1), .val (.int (0 : Int32)), .val (.int (0 : Int32))]) d4_23 (pc' := 25) rfl rfl ?_
  refine go_iload C d4_25 (pc' := 27) rfl rfl ?_
  refine go_iloadN C d4_27 (pc' := 28) rfl rfl ?_
  refine go_icmp C (0 : Int) (1 : Int) (by decide) (by decide) d4_28 (by decide) (pc' := 60) (by decide) (pcN := 31) rfl (fun (c_13 : ¬ (0 : Int) < (1 : Int)) => by omega) (fun (c_13 : (0 : Int) < (1 : Int)) => ?_)
  refine go_iload C d4_31 (pc' := 33) rfl rfl ?_
  refine go_if0 C (0 : Int) (by decide) d4_33 (by decide) (pc' := 60) (by decide) (pcN := 36) rfl (fun (c_14 : ¬ (0 : Int) = 0) => by omega) (fun (c_14 : (0 : Int) = 0) => ?_)
  refine go_aloadN C d4_36 (pc' := 37) rfl rfl rfl ?_
  refine go_getfield C (wd hw 14 rfl) F_8 d4_37 (pc' := 40) rfl ?_
  refine go_iload C d4_40 (pc' := 42) rfl rfl ?_
  refine go_iaload C A_11 0 (.int v0) (by decide) rfl d4_42 (pc' := 43) rfl ?_
  refine go_iloadN C d4_43 (pc' := 44) rfl rfl ?_
  refine go_icmp C v0.toInt v1.toInt rfl rfl d4_44 (by decide) (pc' := 51) (by decide) (pcN := 47) rfl (fun (c_15 : ¬ v0.toInt = v1.toInt) => ?_) (fun (c_15 : v0.toInt = v1.toInt) => by omega)
  refine go_iconst C (0 : Int32) d4_51 (pc' := 52) rfl (by decide) ?_
  refine go_istore C (Ls' := #[.val (.ref a), .val (.int (1 : Int32)), .val (.int (1 : Int32)), .val (.int v1), .val (.int (0 : Int32)), .val (.int (0 : Int32))]) d4_52 (pc' := 54) rfl rfl ?_
  refine go_iinc C (Ls' := #[.val (.ref a), .val (.int (1 : Int32)), .val (.int (1 : Int32)), .val (.int v1), .val (.int (0 : Int32)), .val (.int ((0 : Int32) + (1 : Int32)))]) (1 : Int32) d4_54 (pc' := 57) rfl (by decide) rfl rfl ?_
  rw [(by decide : (0 : Int32) + (1 : Int32) = (1 : Int32))]
  refine go_goto C d4_57 (by decide) (pc' := 25) (by decide) ?_
  refine go_iload C d4_25 (pc' := 27) rfl rfl ?_
  refine go_iloadN C d4_27 (pc' := 28) rfl rfl ?_
  refine go_icmp C (1 : Int) (1 : Int) (by decide) (by decide) d4_28 (by decide) (pc' := 60) (by decide) (pcN := 31) rfl (fun (c_16 : ¬ (1 : Int) < (1 : Int)) => ?_) (fun (c_16 : (1 : Int) < (1 : Int)) => by omega)
  refine go_iload C d4_60 (pc' := 62) rfl rfl ?_
  refine go_if0 C (0 : Int) (by decide) d4_62 (by decide) (pc' := 75) (by decide) (pcN := 65) rfl (fun (c_17 : ¬ (0 : Int) = 0) => by omega) (fun (c_17 : (0 : Int) = 0) => ?_)
  refine go_aloadN C d4_65 (pc' := 66) rfl rfl rfl ?_
  refine go_getfield C (wd hw 14 rfl) F_8 d4_66 (pc' := 69) rfl ?_
  refine go_iloadN C d4_69 (pc' := 70) rfl rfl ?_
  refine go_iinc C (Ls' := #[.val (.ref a), .val (.int ((1 : Int32) + (1 : Int32))), .val (.int (1 : Int32)), .val (.int v1), .val (.int (0 : Int32)), .val (.int (1 : Int32))]) (1 : Int32) d4_70 (pc' := 73) rfl (by decide) rfl rfl ?_
  rw [(by decide : (1 : Int32) + (1 : Int32) = (2 : Int32))]
  refine go_iloadN C d4_73 (pc' := 74) rfl rfl ?_
  refine go_iastore C A_11 1 (by decide) (show 1 < 8 from by decide) gr d4_74 (pc' := 75) rfl ?_
  intro h_18 W_19 A_20
  have F_22 := Fld.other W_19 F_8 (Or.inl (own_ne_arr E_10 (wd hw 5 rfl) A_11))
  have F_23 := Fld.other W_19 F_9 (Or.inl (own_ne_arr E_10 (wd hw 5 rfl) A_11))
  have E_24 := Exa.wr W_19 E_10
  have A_25 : Av Z h_18 r .int [.int v0, .int v1, .int v2, .int v3, .int (0 : Int32), .int (0 : Int32), .int (0 : Int32), .int (0 : Int32)] := A_20
  refine go_iinc C (Ls' := #[.val (.ref a), .val (.int (2 : Int32)), .val (.int ((1 : Int32) + (1 : Int32))), .val (.int v1), .val (.int (0 : Int32)), .val (.int (1 : Int32))]) (1 : Int32) d4_75 (pc' := 78) rfl (by decide) rfl rfl ?_
  rw [(by decide : (1 : Int32) + (1 : Int32) = (2 : Int32))]
  refine go_goto C d4_78 (by decide) (pc' := 4) (by decide) ?_
  refine go_iloadN C d4_4 (pc' := 5) rfl rfl ?_
  refine go_aloadN C d4_5 (pc' := 6) rfl rfl rfl ?_
  refine go_getfield C (wd hw 21 rfl) F_23 d4_6 (pc' := 9) rfl ?_
  refine go_icmp C (2 : Int) (4 : Int) (by decide) (by decide) d4_9 (by decide) (pc' := 81) (by decide) (pcN := 12) rfl (fun (c_26 : ¬ (2 : Int) < (4 : Int)) => by omega) (fun (c_26 : (2 : Int) < (4 : Int)) => ?_)
  refine go_aloadN C d4_12 (pc' := 13) rfl rfl rfl ?_
  refine go_getfield C (wd hw 14 rfl) F_22 d4_13 (pc' := 16) rfl ?_
  refine go_iloadN C d4_16 (pc' := 17) rfl rfl ?_
  refine go_iaload C A_25 2 (.int v2) (by decide) rfl d4_17 (pc' := 18) rfl ?_
  refine go_istoreN C (Ls' := #[.val (.ref a), .val (.int (2 : Int32)), .val (.int (2 : Int32)), .val (.int v2), .val (.int (0 : Int32)), .val (.int (1 : Int32))]) d4_18 (pc' := 19) rfl rfl ?_
  refine go_iconst C (0 : Int32) d4_19 (pc' := 20) rfl (by decide) ?_
  refine go_istore C (Ls' := #[.val (.ref a), .val (.int (2 : Int32)), .val (.int (2 : Int32)), .val (.int v2), .val (.int (0 : Int32)), .val (.int (1 : Int32))]) d4_20 (pc' := 22) rfl rfl ?_
  refine go_iconst C (0 : Int32) d4_22 (pc' := 23) rfl (by decide) ?_
  refine go_istore C (Ls' := #[.val (.ref a), .val (.int (2 : Int32)), .val (.int (2 : Int32)), .val (.int v2), .val (.int (0 : Int32)), .val (.int (0 : Int32))]) d4_23 (pc' := 25) rfl rfl ?_
  refine go_iload C d4_25 (pc' := 27) rfl rfl ?_
  refine go_iloadN C d4_27 (pc' := 28) rfl rfl ?_
  refine go_icmp C (0 : Int) (2 : Int) (by decide) (by decide) d4_28 (by decide) (pc' := 60) (by decide) (pcN := 31) rfl (fun (c_27 : ¬ (0 : Int) < (2 : Int)) => by omega) (fun (c_27 : (0 : Int) < (2 : Int)) => ?_)
  refine go_iload C d4_31 (pc' := 33) rfl rfl ?_
  refine go_if0 C (0 : Int) (by decide) d4_33 (by decide) (pc' := 60) (by decide) (pcN := 36) rfl (fun (c_28 : ¬ (0 : Int) = 0) => by omega) (fun (c_28 : (0 : Int) = 0) => ?_)
  refine go_aloadN C d4_36 (pc' := 37) rfl rfl rfl ?_
  refine go_getfield C (wd hw 14 rfl) F_22 d4_37 (pc' := 40) rfl ?_
  refine go_iload C d4_40 (pc' := 42) rfl rfl ?_
  refine go_iaload C A_25 0 (.int v0) (by decide) rfl d4_42 (pc' := 43) rfl ?_
  refine go_iloadN C d4_43 (pc' := 44) rfl rfl ?_
  refine go_icmp C v0.toInt v2.toInt rfl rfl d4_44 (by decide) (pc' := 51) (by decide) (pcN := 47) rfl (fun (c_29 : ¬ v0.toInt = v2.toInt) => ?_) (fun (c_29 : v0.toInt = v2.toInt) => ?_)
  · skip
    refine go_iconst C (0 : Int32) d4_51 (pc' := 52) rfl (by decide) ?_
    refine go_istore C (Ls' := #[.val (.ref a), .val (.int (2 : Int32)), .val (.int (2 : Int32)), .val (.int v2), .val (.int (0 : Int32)), .val (.int (0 : Int32))]) d4_52 (pc' := 54) rfl rfl ?_
    refine go_iinc C (Ls' := #[.val (.ref a), .val (.int (2 : Int32)), .val (.int (2 : Int32)), .val (.int v2), .val (.int (0 : Int32)), .val (.int ((0 : Int32) + (1 : Int32)))]) (1 : Int32) d4_54 (pc' := 57) rfl (by decide) rfl rfl ?_
    rw [(by decide : (0 : Int32) + (1 : Int32) = (1 : Int32))]
    refine go_goto C d4_57 (by decide) (pc' := 25) (by decide) ?_
    refine go_iload C d4_25 (pc' := 27) rfl rfl ?_
    refine go_iloadN C d4_27 (pc' := 28) rfl rfl ?_
    refine go_icmp C (1 : Int) (2 : Int) (by decide) (by decide) d4_28 (by decide) (pc' := 60) (by decide) (pcN := 31) rfl (fun (c_30 : ¬ (1 : Int) < (2 : Int)) => by omega) (fun (c_30 : (1 : Int) < (2 : Int)) => ?_)
    refine go_iload C d4_31 (pc' := 33) rfl rfl ?_
    refine go_if0 C (0 : Int) (by decide) d4_33 (by decide) (pc' := 60) (by decide) (pcN := 36) rfl (fun (c_31 : ¬ (0 : Int) = 0) => by omega) (fun (c_31 : (0 : Int) = 0) => ?_)
    refine go_aloadN C d4_36 (pc' := 37) rfl rfl rfl ?_
    refine go_getfield C (wd hw 14 rfl) F_22 d4_37 (pc' := 40) rfl ?_
    refine go_iload C d4_40 (pc' := 42) rfl rfl ?_
    refine go_iaload C A_25 1 (.int v1) (by decide) rfl d4_42 (pc' := 43) rfl ?_
    refine go_iloadN C d4_43 (pc' := 44) rfl rfl ?_
    refine go_icmp C v1.toInt v2.toInt rfl rfl d4_44 (by decide) (pc' := 51) (by decide) (pcN := 47) rfl (fun (c_32 : ¬ v1.toInt = v2.toInt) => by omega) (fun (c_32 : v1.toInt = v2.toInt) => ?_)
    refine go_iconst C (1 : Int32) d4_47 (pc' := 48) rfl (by decide) ?_
    refine go_goto C d4_48 (by decide) (pc' := 52) (by decide) ?_
    refine go_istore C (Ls' := #[.val (.ref a), .val (.int (2 : Int32)), .val (.int (2 : Int32)), .val (.int v2), .val (.int (1 : Int32)), .val (.int (1 : Int32))]) d4_52 (pc' := 54) rfl rfl ?_
    refine go_iinc C (Ls' := #[.val (.ref a), .val (.int (2 : Int32)), .val (.int (2 : Int32)), .val (.int v2), .val (.int (1 : Int32)), .val (.int ((1 : Int32) + (1 : Int32)))]) (1 : Int32) d4_54 (pc' := 57) rfl (by decide) rfl rfl ?_
    rw [(by decide : (1 : Int32) + (1 : Int32) = (2 : Int32))]
    refine go_goto C d4_57 (by decide) (pc' := 25) (by decide) ?_
    refine go_iload C d4_25 (pc' := 27) rfl rfl ?_
    refine go_iloadN C d4_27 (pc' := 28) rfl rfl ?_
    refine go_icmp C (2 : Int) (2 : Int) (by decide) (by decide) d4_28 (by decide) (pc' := 60) (by decide) (pcN := 31) rfl (fun (c_33 : ¬ (2 : Int) < (2 : Int)) => ?_) (fun (c_33 : (2 : Int) < (2 : Int)) => by omega)
    refine go_iload C d4_60 (pc' := 62) rfl rfl ?_
    refine go_if0 C (1 : Int) (by decide) d4_62 (by decide) (pc' := 75) (by decide) (pcN := 65) rfl (fun (c_34 : ¬ (1 : Int) = 0) => ?_) (fun (c_34 : (1 : Int) = 0) => by omega)
    refine go_iinc C (Ls' := #[.val (.ref a), .val (.int (2 : Int32)), .val (.int ((2 : Int32) + (1 : Int32))), .val (.int v2), .val (.int (1 : Int32)), .val (.int (2 : Int32))]) (1 : Int32) d4_75 (pc' := 78) rfl (by decide) rfl rfl ?_
    rw [(by decide : (2 : Int32) + (1 : Int32) = (3 : Int32))]
    refine go_goto C d4_78 (by decide) (pc' := 4) (by decide) ?_
    refine go_iloadN C d4_4 (pc' := 5) rfl rfl ?_
    refine go_aloadN C d4_5 (pc' := 6) rfl rfl rfl ?_
    refine go_getfield C (wd hw 21 rfl) F_23 d4_6 (pc' := 9) rfl ?_
    refine go_icmp C (3 : Int) (4 : Int) (by decide) (by decide) d4_9 (by decide) (pc' := 81) (by decide) (pcN := 12) rfl (fun (c_35 : ¬ (3 : Int) < (4 : Int)) => by omega) (fun (c_35 : (3 : Int) < (4 : Int)) => ?_)
    refine go_aloadN C d4_12 (pc' := 13) rfl rfl rfl ?_
    refine go_getfield C (wd hw 14 rfl) F_22 d4_13 (pc' := 16) rfl ?_
    refine go_iloadN C d4_16 (pc' := 17) rfl rfl ?_
    refine go_iaload C A_25 3 (.int v3) (by decide) rfl d4_17 (pc' := 18) rfl ?_
    refine go_istoreN C (Ls' := #[.val (.ref a), .val (.int (2 : Int32)), .val (.int (3 : Int32)), .val (.int v3), .val (.int (1 : Int32)), .val (.int (2 : Int32))]) d4_18 (pc' := 19) rfl rfl ?_
    refine go_iconst C (0 : Int32) d4_19 (pc' := 20) rfl (by decide) ?_
    refine go_istore C (Ls' := #[.val (.ref a), .val (.int (2 : Int32)), .val (.int (3 : Int32)), .val (.int v3), .val (.int (0 : Int32)), .val (.int (2 : Int32))]) d4_20 (pc' := 22) rfl rfl ?_
    refine go_iconst C (0 : Int32) d4_22 (pc' := 23) rfl (by decide) ?_
    refine go_istore C (Ls' := #[.val (.ref a), .val (.int (2 : Int32)), .val (.int (3 : Int32)), .val (.int v3), .val (.int (0 : Int32)), .val (.int (0 : Int32))]) d4_23 (pc' := 25) rfl rfl ?_
    refine go_iload C d4_25 (pc' := 27) rfl rfl ?_
    refine go_iloadN C d4_27 (pc' := 28) rfl rfl ?_
    refine go_icmp C (0 : Int) (2 : Int) (by decide) (by decide) d4_28 (by decide) (pc' := 60) (by decide) (pcN := 31) rfl (fun (c_36 : ¬ (0 : Int) < (2 : Int)) => by omega) (fun (c_36 : (0 : Int) < (2 : Int)) => ?_)
    refine go_iload C d4_31 (pc' := 33) rfl rfl ?_
    refine go_if0 C (0 : Int) (by decide) d4_33 (by decide) (pc' := 60) (by decide) (pcN := 36) rfl (fun (c_37 : ¬ (0 : Int) = 0) => by omega) (fun (c_37 : (0 : Int) = 0) => ?_)
    refine go_aloadN C d4_36 (pc' := 37) rfl rfl rfl ?_
    refine go_getfield C (wd hw 14 rfl) F_22 d4_37 (pc' := 40) rfl ?_
    refine go_iload C d4_40 (pc' := 42) rfl rfl ?_
    refine go_iaload C A_25 0 (.int v0) (by decide) rfl d4_42 (pc' := 43) rfl ?_
    refine go_iloadN C d4_43 (pc' := 44) rfl rfl ?_
    refine go_icmp C v0.toInt v3.toInt rfl rfl d4_44 (by decide) (pc' := 51) (by decide) (pcN := 47) rfl (fun (c_38 : ¬ v0.toInt = v3.toInt) => ?_) (fun (c_38 : v0.toInt = v3.toInt) => ?_)
    · skip
      refine go_iconst C (0 : Int32) d4_51 (pc' := 52) rfl (by decide) ?_
      refine go_istore C (Ls' := #[.val (.ref a), .val (.int (2 : Int32)), .val (.int (3 : Int32)), .val (.int v3), .val (.int (0 : Int32)), .val (.int (0 : Int32))]) d4_52 (pc' := 54) rfl rfl ?_
      refine go_iinc C (Ls' := #[.val (.ref a), .val (.int (2 : Int32)), .val (.int (3 : Int32)), .val (.int v3), .val (.int (0 : Int32)), .val (.int ((0 : Int32) + (1 : Int32)))]) (1 : Int32) d4_54 (pc' := 57) rfl (by decide) rfl rfl ?_
      rw [(by decide : (0 : Int32) + (1 : Int32) = (1 : Int32))]
      refine go_goto C d4_57 (by decide) (pc' := 25) (by decide) ?_
      refine go_iload C d4_25 (pc' := 27) rfl rfl ?_
      refine go_iloadN C d4_27 (pc' := 28) rfl rfl ?_
      refine go_icmp C (1 : Int) (2 : Int) (by decide) (by decide) d4_28 (by decide) (pc' := 60) (by decide) (pcN := 31) rfl (fun (c_39 : ¬ (1 : Int) < (2 : Int)) => by omega) (fun (c_39 : (1 : Int) < (2 : Int)) => ?_)
      refine go_iload C d4_31 (pc' := 33) rfl rfl ?_
      refine go_if0 C (0 : Int) (by decide) d4_33 (by decide) (pc' := 60) (by decide) (pcN := 36) rfl (fun (c_40 : ¬ (0 : Int) = 0) => by omega) (fun (c_40 : (0 : Int) = 0) => ?_)
      refine go_aloadN C d4_36 (pc' := 37) rfl rfl rfl ?_
      refine go_getfield C (wd hw 14 rfl) F_22 d4_37 (pc' := 40) rfl ?_
      refine go_iload C d4_40 (pc' := 42) rfl rfl ?_
      refine go_iaload C A_25 1 (.int v1) (by decide) rfl d4_42 (pc' := 43) rfl ?_
      refine go_iloadN C d4_43 (pc' := 44) rfl rfl ?_
      refine go_icmp C v1.toInt v3.toInt rfl rfl d4_44 (by decide) (pc' := 51) (by decide) (pcN := 47) rfl (fun (c_41 : ¬ v1.toInt = v3.toInt) => by omega) (fun (c_41 : v1.toInt = v3.toInt) => ?_)
      refine go_iconst C (1 : Int32) d4_47 (pc' := 48) rfl (by decide) ?_
      refine go_goto C d4_48 (by decide) (pc' := 52) (by decide) ?_
      refine go_istore C (Ls' := #[.val (.ref a), .val (.int (2 : Int32)), .val (.int (3 : Int32)), .val (.int v3), .val (.int (1 : Int32)), .val (.int (1 : Int32))]) d4_52 (pc' := 54) rfl rfl ?_
      refine go_iinc C (Ls' := #[.val (.ref a), .val (.int (2 : Int32)), .val (.int (3 : Int32)), .val (.int v3), .val (.int (1 : Int32)), .val (.int ((1 : Int32) + (1 : Int32)))]) (1 : Int32) d4_54 (pc' := 57) rfl (by decide) rfl rfl ?_
      rw [(by decide : (1 : Int32) + (1 : Int32) = (2 : Int32))]
      refine go_goto C d4_57 (by decide) (pc' := 25) (by decide) ?_
      refine go_iload C d4_25 (pc' := 27) rfl rfl ?_
      refine go_iloadN C d4_27 (pc' := 28) rfl rfl ?_
      refine go_icmp C (2 : Int) (2 : Int) (by decide) (by decide) d4_28 (by decide) (pc' := 60) (by decide) (pcN := 31) rfl (fun (c_42 : ¬ (2 : Int) < (2 : Int)) => ?_) (fun (c_42 : (2 : Int) < (2 : Int)) => by omega)
      refine go_iload C d4_60 (pc' := 62) rfl rfl ?_
      refine go_if0 C (1 : Int) (by decide) d4_62 (by decide) (pc' := 75) (by decide) (pcN := 65) rfl (fun (c_43 : ¬ (1 : Int) = 0) => ?_) (fun (c_43 : (1 : Int) = 0) => by omega)
      refine go_iinc C (Ls' := #[.val (.ref a), .val (.int (2 : Int32)), .val (.int ((3 : Int32) + (1 : Int32))), .val (.int v3), .val (.int (1 : Int32)), .val (.int (2 : Int32))]) (1 : Int32) d4_75 (pc' := 78) rfl (by decide) rfl rfl ?_
      rw [(by decide : (3 : Int32) + (1 : Int32) = (4 : Int32))]
      refine go_goto C d4_78 (by decide) (pc' := 4) (by decide) ?_
      refine go_iloadN C d4_4 (pc' := 5) rfl rfl ?_
      refine go_aloadN C d4_5 (pc' := 6) rfl rfl rfl ?_
      refine go_getfield C (wd hw 21 rfl) F_23 d4_6 (pc' := 9) rfl ?_
      refine go_icmp C (4 : Int) (4 : Int) (by decide) (by decide) d4_9 (by decide) (pc' := 81) (by decide) (pcN := 12) rfl (fun (c_44 : ¬ (4 : Int) < (4 : Int)) => ?_) (fun (c_44 : (4 : Int) < (4 : Int)) => by omega)
      refine go_aloadN C d4_81 (pc' := 82) rfl rfl rfl ?_
      refine go_iloadN C d4_82 (pc' := 83) rfl rfl ?_
      refine go_putfield C (wd hw 21 rfl) F_23 E_24 (Or.inl (wd hw 22 rfl)) (wd hw 5 rfl) (ty := .int) (by decide) rfl rfl ga d4_83 (pc' := 86) rfl ?_
      intro h_45 W_46
      have F_47 := Fld.other W_46 F_22 (Or.inr (slot_ne (a0 := a0) (Or.inl (wd hw 15 rfl)) (Or.inl (wd hw 22 rfl)) (by decide) (t := (.array .int)) (t' := .int) (by decide) (by decide)))
      have F_48 := Fld.same W_46 F_23
      have E_49 := Exa.wr W_46 E_24
      have A_50 := Av.other A_25 W_46 (Ne.symm (own_ne_arr E_24 (wd hw 5 rfl) A_25))
      refine go_return C rfl d4_86 (by decide) (by decide) ?_
      exact ⟨rfl, E_49, F_47, F_48, A_50⟩
    · skip
      refine go_iconst C (1 : Int32) d4_47 (pc' := 48) rfl (by decide) ?_
      refine go_goto C d4_48 (by decide) (pc' := 52) (by decide) ?_
      refine go_istore C (Ls' := #[.val (.ref a), .val (.int (2 : Int32)), .val (.int (3 : Int32)), .val (.int v3), .val (.int (1 : Int32)), .val (.int (0 : Int32))]) d4_52 (pc' := 54) rfl rfl ?_
      refine go_iinc C (Ls' := #[.val (.ref a), .val (.int (2 : Int32)), .val (.int (3 : Int32)), .val (.int v3), .val (.int (1 : Int32)), .val (.int ((0 : Int32) + (1 : Int32)))]) (1 : Int32) d4_54 (pc' := 57) rfl (by decide) rfl rfl ?_
      rw [(by decide : (0 : Int32) + (1 : Int32) = (1 : Int32))]
      refine go_goto C d4_57 (by decide) (pc' := 25) (by decide) ?_
      refine go_iload C d4_25 (pc' := 27) rfl rfl ?_
      refine go_iloadN C d4_27 (pc' := 28) rfl rfl ?_
      refine go_icmp C (1 : Int) (2 : Int) (by decide) (by decide) d4_28 (by decide) (pc' := 60) (by decide) (pcN := 31) rfl (fun (c_51 : ¬ (1 : Int) < (2 : Int)) => by omega) (fun (c_51 : (1 : Int) < (2 : Int)) => ?_)
      refine go_iload C d4_31 (pc' := 33) rfl rfl ?_
      refine go_if0 C (1 : Int) (by decide) d4_33 (by decide) (pc' := 60) (by decide) (pcN := 36) rfl (fun (c_52 : ¬ (1 : Int) = 0) => ?_) (fun (c_52 : (1 : Int) = 0) => by omega)
      refine go_iload C d4_60 (pc' := 62) rfl rfl ?_
      refine go_if0 C (1 : Int) (by decide) d4_62 (by decide) (pc' := 75) (by decide) (pcN := 65) rfl (fun (c_53 : ¬ (1 : Int) = 0) => ?_) (fun (c_53 : (1 : Int) = 0) => by omega)
      refine go_iinc C (Ls' := #[.val (.ref a), .val (.int (2 : Int32)), .val (.int ((3 : Int32) + (1 : Int32))), .val (.int v3), .val (.int (1 : Int32)), .val (.int (1 : Int32))]) (1 : Int32) d4_75 (pc' := 78) rfl (by decide) rfl rfl ?_
      rw [(by decide : (3 : Int32) + (1 : Int32) = (4 : Int32))]
      refine go_goto C d4_78 (by decide) (pc' := 4) (by decide) ?_
      refine go_iloadN C d4_4 (pc' := 5) rfl rfl ?_
      refine go_aloadN C d4_5 (pc' := 6) rfl rfl rfl ?_
      refine go_getfield C (wd hw 21 rfl) F_23 d4_6 (pc' := 9) rfl ?_
      refine go_icmp C (4 : Int) (4 : Int) (by decide) (by decide) d4_9 (by decide) (pc' := 81) (by decide) (pcN := 12) rfl (fun (c_54 : ¬ (4 : Int) < (4 : Int)) => ?_) (fun (c_54 : (4 : Int) < (4 : Int)) => by omega)
      refine go_aloadN C d4_81 (pc' := 82) rfl rfl rfl ?_
      refine go_iloadN C d4_82 (pc' := 83) rfl rfl ?_
      refine go_putfield C (wd hw 21 rfl) F_23 E_24 (Or.inl (wd hw 22 rfl)) (wd hw 5 rfl) (ty := .int) (by decide) rfl rfl ga d4_83 (pc' := 86) rfl ?_
      intro h_55 W_56
      have F_57 := Fld.other W_56 F_22 (Or.inr (slot_ne (a0 := a0) (Or.inl (wd hw 15 rfl)) (Or.inl (wd hw 22 rfl)) (by decide) (t := (.array .int)) (t' := .int) (by decide) (by decide)))
      have F_58 := Fld.same W_56 F_23
      have E_59 := Exa.wr W_56 E_24
      have A_60 := Av.other A_25 W_56 (Ne.symm (own_ne_arr E_24 (wd hw 5 rfl) A_25))
      refine go_return C rfl d4_86 (by decide) (by decide) ?_
      exact ⟨rfl, E_59, F_57, F_58, A_60⟩
  · skip
    refine go_iconst C (1 : Int32) d4_47 (pc' := 48) rfl (by decide) ?_
    refine go_goto C d4_48 (by decide) (pc' := 52) (by decide) ?_
    refine go_istore C (Ls' := #[.val (.ref a), .val (.int (2 : Int32)), .val (.int (2 : Int32)), .val (.int v2), .val (.int (1 : Int32)), .val (.int (0 : Int32))]) d4_52 (pc' := 54) rfl rfl ?_
    refine go_iinc C (Ls' := #[.val (.ref a), .val (.int (2 : Int32)), .val (.int (2 : Int32)), .val (.int v2), .val (.int (1 : Int32)), .val (.int ((0 : Int32) + (1 : Int32)))]) (1 : Int32) d4_54 (pc' := 57) rfl (by decide) rfl rfl ?_
    rw [(by decide : (0 : Int32) + (1 : Int32) = (1 : Int32))]
    refine go_goto C d4_57 (by decide) (pc' := 25) (by decide) ?_
    refine go_iload C d4_25 (pc' := 27) rfl rfl ?_
    refine go_iloadN C d4_27 (pc' := 28) rfl rfl ?_
    refine go_icmp C (1 : Int) (2 : Int) (by decide) (by decide) d4_28 (by decide) (pc' := 60) (by decide) (pcN := 31) rfl (fun (c_61 : ¬ (1 : Int) < (2 : Int)) => by omega) (fun (c_61 : (1 : Int) < (2 : Int)) => ?_)
    refine go_iload C d4_31 (pc' := 33) rfl rfl ?_
    refine go_if0 C (1 : Int) (by decide) d4_33 (by decide) (pc' := 60) (by decide) (pcN := 36) rfl (fun (c_62 : ¬ (1 : Int) = 0) => ?_) (fun (c_62 : (1 : Int) = 0) => by omega)
    refine go_iload C d4_60 (pc' := 62) rfl rfl ?_
    refine go_if0 C (1 : Int) (by decide) d4_62 (by decide) (pc' := 75) (by decide) (pcN := 65) rfl (fun (c_63 : ¬ (1 : Int) = 0) => ?_) (fun (c_63 : (1 : Int) = 0) => by omega)
    refine go_iinc C (Ls' := #[.val (.ref a), .val (.int (2 : Int32)), .val (.int ((2 : Int32) + (1 : Int32))), .val (.int v2), .val (.int (1 : Int32)), .val (.int (1 : Int32))]) (1 : Int32) d4_75 (pc' := 78) rfl (by decide) rfl rfl ?_
    rw [(by decide : (2 : Int32) + (1 : Int32) = (3 : Int32))]
    refine go_goto C d4_78 (by decide) (pc' := 4) (by decide) ?_
    refine go_iloadN C d4_4 (pc' := 5) rfl rfl ?_
    refine go_aloadN C d4_5 (pc' := 6) rfl rfl rfl ?_
    refine go_getfield C (wd hw 21 rfl) F_23 d4_6 (pc' := 9) rfl ?_
    refine go_icmp C (3 : Int) (4 : Int) (by decide) (by decide) d4_9 (by decide) (pc' := 81) (by decide) (pcN := 12) rfl (fun (c_64 : ¬ (3 : Int) < (4 : Int)) => by omega) (fun (c_64 : (3 : Int) < (4 : Int)) => ?_)
    refine go_aloadN C d4_12 (pc' := 13) rfl rfl rfl ?_
    refine go_getfield C (wd hw 14 rfl) F_22 d4_13 (pc' := 16) rfl ?_
    refine go_iloadN C d4_16 (pc' := 17) rfl rfl ?_
    refine go_iaload C A_25 3 (.int v3) (by decide) rfl d4_17 (pc' := 18) rfl ?_
    refine go_istoreN C (Ls' := #[.val (.ref a), .val (.int (2 : Int32)), .val (.int (3 : Int32)), .val (.int v3), .val (.int (1 : Int32)), .val (.int (1 : Int32))]) d4_18 (pc' := 19) rfl rfl ?_
    refine go_iconst C (0 : Int32) d4_19 (pc' := 20) rfl (by decide) ?_
    refine go_istore C (Ls' := #[.val (.ref a), .val (.int (2 : Int32)), .val (.int (3 : Int32)), .val (.int v3), .val (.int (0 : Int32)), .val (.int (1 : Int32))]) d4_20 (pc' := 22) rfl rfl ?_
    refine go_iconst C (0 : Int32) d4_22 (pc' := 23) rfl (by decide) ?_
    refine go_istore C (Ls' := #[.val (.ref a), .val (.int (2 : Int32)), .val (.int (3 : Int32)), .val (.int v3), .val (.int (0 : Int32)), .val (.int (0 : Int32))]) d4_23 (pc' := 25) rfl rfl ?_
    refine go_iload C d4_25 (pc' := 27) rfl rfl ?_
    refine go_iloadN C d4_27 (pc' := 28) rfl rfl ?_
    refine go_icmp C (0 : Int) (2 : Int) (by decide) (by decide) d4_28 (by decide) (pc' := 60) (by decide) (pcN := 31) rfl (fun (c_65 : ¬ (0 : Int) < (2 : Int)) => by omega) (fun (c_65 : (0 : Int) < (2 : Int)) => ?_)
    refine go_iload C d4_31 (pc' := 33) rfl rfl ?_
    refine go_if0 C (0 : Int) (by decide) d4_33 (by decide) (pc' := 60) (by decide) (pcN := 36) rfl (fun (c_66 : ¬ (0 : Int) = 0) => by omega) (fun (c_66 : (0 : Int) = 0) => ?_)
    refine go_aloadN C d4_36 (pc' := 37) rfl rfl rfl ?_
    refine go_getfield C (wd hw 14 rfl) F_22 d4_37 (pc' := 40) rfl ?_
    refine go_iload C d4_40 (pc' := 42) rfl rfl ?_
    refine go_iaload C A_25 0 (.int v0) (by decide) rfl d4_42 (pc' := 43) rfl ?_
    refine go_iloadN C d4_43 (pc' := 44) rfl rfl ?_
    refine go_icmp C v0.toInt v3.toInt rfl rfl d4_44 (by decide) (pc' := 51) (by decide) (pcN := 47) rfl (fun (c_67 : ¬ v0.toInt = v3.toInt) => ?_) (fun (c_67 : v0.toInt = v3.toInt) => ?_)
    · skip
      refine go_iconst C (0 : Int32) d4_51 (pc' := 52) rfl (by decide) ?_
      refine go_istore C (Ls' := #[.val (.ref a), .val (.int (2 : Int32)), .val (.int (3 : Int32)), .val (.int v3), .val (.int (0 : Int32)), .val (.int (0 : Int32))]) d4_52 (pc' := 54) rfl rfl ?_
      refine go_iinc C (Ls' := #[.val (.ref a), .val (.int (2 : Int32)), .val (.int (3 : Int32)), .val (.int v3), .val (.int (0 : Int32)), .val (.int ((0 : Int32) + (1 : Int32)))]) (1 : Int32) d4_54 (pc' := 57) rfl (by decide) rfl rfl ?_
      rw [(by decide : (0 : Int32) + (1 : Int32) = (1 : Int32))]
      refine go_goto C d4_57 (by decide) (pc' := 25) (by decide) ?_
      refine go_iload C d4_25 (pc' := 27) rfl rfl ?_
      refine go_iloadN C d4_27 (pc' := 28) rfl rfl ?_
      refine go_icmp C (1 : Int) (2 : Int) (by decide) (by decide) d4_28 (by decide) (pc' := 60) (by decide) (pcN := 31) rfl (fun (c_68 : ¬ (1 : Int) < (2 : Int)) => by omega) (fun (c_68 : (1 : Int) < (2 : Int)) => ?_)
      refine go_iload C d4_31 (pc' := 33) rfl rfl ?_
      refine go_if0 C (0 : Int) (by decide) d4_33 (by decide) (pc' := 60) (by decide) (pcN := 36) rfl (fun (c_69 : ¬ (0 : Int) = 0) => by omega) (fun (c_69 : (0 : Int) = 0) => ?_)
      refine go_aloadN C d4_36 (pc' := 37) rfl rfl rfl ?_
      refine go_getfield C (wd hw 14 rfl) F_22 d4_37 (pc' := 40) rfl ?_
      refine go_iload C d4_40 (pc' := 42) rfl rfl ?_
      refine go_iaload C A_25 1 (.int v1) (by decide) rfl d4_42 (pc' := 43) rfl ?_
      refine go_iloadN C d4_43 (pc' := 44) rfl rfl ?_
      refine go_icmp C v1.toInt v3.toInt rfl rfl d4_44 (by decide) (pc' := 51) (by decide) (pcN := 47) rfl (fun (c_70 : ¬ v1.toInt = v3.toInt) => by omega) (fun (c_70 : v1.toInt = v3.toInt) => ?_)
      refine go_iconst C (1 : Int32) d4_47 (pc' := 48) rfl (by decide) ?_
      refine go_goto C d4_48 (by decide) (pc' := 52) (by decide) ?_
      refine go_istore C (Ls' := #[.val (.ref a), .val (.int (2 : Int32)), .val (.int (3 : Int32)), .val (.int v3), .val (.int (1 : Int32)), .val (.int (1 : Int32))]) d4_52 (pc' := 54) rfl rfl ?_
      refine go_iinc C (Ls' := #[.val (.ref a), .val (.int (2 : Int32)), .val (.int (3 : Int32)), .val (.int v3), .val (.int (1 : Int32)), .val (.int ((1 : Int32) + (1 : Int32)))]) (1 : Int32) d4_54 (pc' := 57) rfl (by decide) rfl rfl ?_
      rw [(by decide : (1 : Int32) + (1 : Int32) = (2 : Int32))]
      refine go_goto C d4_57 (by decide) (pc' := 25) (by decide) ?_
      refine go_iload C d4_25 (pc' := 27) rfl rfl ?_
      refine go_iloadN C d4_27 (pc' := 28) rfl rfl ?_
      refine go_icmp C (2 : Int) (2 : Int) (by decide) (by decide) d4_28 (by decide) (pc' := 60) (by decide) (pcN := 31) rfl (fun (c_71 : ¬ (2 : Int) < (2 : Int)) => ?_) (fun (c_71 : (2 : Int) < (2 : Int)) => by omega)
      refine go_iload C d4_60 (pc' := 62) rfl rfl ?_
      refine go_if0 C (1 : Int) (by decide) d4_62 (by decide) (pc' := 75) (by decide) (pcN := 65) rfl (fun (c_72 : ¬ (1 : Int) = 0) => ?_) (fun (c_72 : (1 : Int) = 0) => by omega)
      refine go_iinc C (Ls' := #[.val (.ref a), .val (.int (2 : Int32)), .val (.int ((3 : Int32) + (1 : Int32))), .val (.int v3), .val (.int (1 : Int32)), .val (.int (2 : Int32))]) (1 : Int32) d4_75 (pc' := 78) rfl (by decide) rfl rfl ?_
      rw [(by decide : (3 : Int32) + (1 : Int32) = (4 : Int32))]
      refine go_goto C d4_78 (by decide) (pc' := 4) (by decide) ?_
      refine go_iloadN C d4_4 (pc' := 5) rfl rfl ?_
      refine go_aloadN C d4_5 (pc' := 6) rfl rfl rfl ?_
      refine go_getfield C (wd hw 21 rfl) F_23 d4_6 (pc' := 9) rfl ?_
      refine go_icmp C (4 : Int) (4 : Int) (by decide) (by decide) d4_9 (by decide) (pc' := 81) (by decide) (pcN := 12) rfl (fun (c_73 : ¬ (4 : Int) < (4 : Int)) => ?_) (fun (c_73 : (4 : Int) < (4 : Int)) => by omega)
      refine go_aloadN C d4_81 (pc' := 82) rfl rfl rfl ?_
      refine go_iloadN C d4_82 (pc' := 83) rfl rfl ?_
      refine go_putfield C (wd hw 21 rfl) F_23 E_24 (Or.inl (wd hw 22 rfl)) (wd hw 5 rfl) (ty := .int) (by decide) rfl rfl ga d4_83 (pc' := 86) rfl ?_
      intro h_74 W_75
      have F_76 := Fld.other W_75 F_22 (Or.inr (slot_ne (a0 := a0) (Or.inl (wd hw 15 rfl)) (Or.inl (wd hw 22 rfl)) (by decide) (t := (.array .int)) (t' := .int) (by decide) (by decide)))
      have F_77 := Fld.same W_75 F_23
      have E_78 := Exa.wr W_75 E_24
      have A_79 := Av.other A_25 W_75 (Ne.symm (own_ne_arr E_24 (wd hw 5 rfl) A_25))
      refine go_return C rfl d4_86 (by decide) (by decide) ?_
      exact ⟨rfl, E_78, F_76, F_77, A_79⟩
    · skip
      refine go_iconst C (1 : Int32) d4_47 (pc' := 48) rfl (by decide) ?_
      refine go_goto C d4_48 (by decide) (pc' := 52) (by decide) ?_
      refine go_istore C (Ls' := #[.val (.ref a), .val (.int (2 : Int32)), .val (.int (3 : Int32)), .val (.int v3), .val (.int (1 : Int32)), .val (.int (0 : Int32))]) d4_52 (pc' := 54) rfl rfl ?_
      refine go_iinc C (Ls' := #[.val (.ref a), .val (.int (2 : Int32)), .val (.int (3 : Int32)), .val (.int v3), .val (.int (1 : Int32)), .val (.int ((0 : Int32) + (1 : Int32)))]) (1 : Int32) d4_54 (pc' := 57) rfl (by decide) rfl rfl ?_
      rw [(by decide : (0 : Int32) + (1 : Int32) = (1 : Int32))]
      refine go_goto C d4_57 (by decide) (pc' := 25) (by decide) ?_
      refine go_iload C d4_25 (pc' := 27) rfl rfl ?_
      refine go_iloadN C d4_27 (pc' := 28) rfl rfl ?_
      refine go_icmp C (1 : Int) (2 : Int) (by decide) (by decide) d4_28 (by decide) (pc' := 60) (by decide) (pcN := 31) rfl (fun (c_80 : ¬ (1 : Int) < (2 : Int)) => by omega) (fun (c_80 : (1 : Int) < (2 : Int)) => ?_)
      refine go_iload C d4_31 (pc' := 33) rfl rfl ?_
      refine go_if0 C (1 : Int) (by decide) d4_33 (by decide) (pc' := 60) (by decide) (pcN := 36) rfl (fun (c_81 : ¬ (1 : Int) = 0) => ?_) (fun (c_81 : (1 : Int) = 0) => by omega)
      refine go_iload C d4_60 (pc' := 62) rfl rfl ?_
      refine go_if0 C (1 : Int) (by decide) d4_62 (by decide) (pc' := 75) (by decide) (pcN := 65) rfl (fun (c_82 : ¬ (1 : Int) = 0) => ?_) (fun (c_82 : (1 : Int) = 0) => by omega)
      refine go_iinc C (Ls' := #[.val (.ref a), .val (.int (2 : Int32)), .val (.int ((3 : Int32) + (1 : Int32))), .val (.int v3), .val (.int (1 : Int32)), .val (.int (1 : Int32))]) (1 : Int32) d4_75 (pc' := 78) rfl (by decide) rfl rfl ?_
      rw [(by decide : (3 : Int32) + (1 : Int32) = (4 : Int32))]
      refine go_goto C d4_78 (by decide) (pc' := 4) (by decide) ?_
      refine go_iloadN C d4_4 (pc' := 5) rfl rfl ?_
      refine go_aloadN C d4_5 (pc' := 6) rfl rfl rfl ?_
      refine go_getfield C (wd hw 21 rfl) F_23 d4_6 (pc' := 9) rfl ?_
      refine go_icmp C (4 : Int) (4 : Int) (by decide) (by decide) d4_9 (by decide) (pc' := 81) (by decide) (pcN := 12) rfl (fun (c_83 : ¬ (4 : Int) < (4 : Int)) => ?_) (fun (c_83 : (4 : Int) < (4 : Int)) => by omega)
      refine go_aloadN C d4_81 (pc' := 82) rfl rfl rfl ?_
      refine go_iloadN C d4_82 (pc' := 83) rfl rfl ?_
      refine go_putfield C (wd hw 21 rfl) F_23 E_24 (Or.inl (wd hw 22 rfl)) (wd hw 5 rfl) (ty := .int) (by decide) rfl rfl ga d4_83 (pc' := 86) rfl ?_
      intro h_84 W_85
      have F_86 := Fld.other W_85 F_22 (Or.inr (slot_ne (a0 := a0) (Or.inl (wd hw 15 rfl)) (Or.inl (wd hw 22 rfl)) (by decide) (t := (.array .int)) (t' := .int) (by decide) (by decide)))
      have F_87 := Fld.same W_85 F_23
      have E_88 := Exa.wr W_85 E_24
      have A_89 := Av.other A_25 W_85 (Ne.symm (own_ne_arr E_24 (wd hw 5 rfl) A_25))
      refine go_return C rfl d4_86 (by decide) (by decide) ?_
      exact ⟨rfl, E_88, F_86, F_87, A_89⟩
set_option maxRecDepth 65536 in
set_option maxHeartbeats 40000000 in
theorem sat_rd4ftt (l : Launch) (Z : State) (a0 : Array Value) (hw : ∀ d ∈ tables_1, d.before a0 Z = true) (a r : Addr) (v0 v1 v2 v3 : Int32) (h0 : Heap) (n0 : Nat) (hf1 : v1.toInt = v0.toInt) (hf2 : ¬ v2.toInt = v0.toInt ∧ ¬ v2.toInt = v1.toInt) (hf3 : ¬ v3.toInt = v0.toInt ∧ ¬ v3.toInt = v1.toInt ∧ ¬ v3.toInt = v2.toInt) (E1 : Exa Z h0 a "com/example/inevitable_path/inevitablepath/smv/IntList") (F1 : Fld Z h0 a "com/example/inevitable_path/inevitablepath/smv/IntList" "values" "[I" (.ref r)) (F2 : Fld Z h0 a "com/example/inevitable_path/inevitablepath/smv/IntList" "size" "I" (.int (4 : Int32))) (A1 : Av Z h0 r .int [.int v0, .int v1, .int v2, .int v3, .int (0 : Int32), .int (0 : Int32), .int (0 : Int32), .int (0 : Int32)]) (ga : n0 ≤ a) (gr : n0 ≤ r) :
    Sat l Z (⟨"com/example/inevitable_path/inevitablepath/smv/IntList", "removeDuplicates", "()V"⟩ : MethodName) prog_60_method_10_code 6 none ({ frames := 0, cells := 0, slots := 0, locals := 0 } : Room) [.ref a] h0 n0 (RN fun h => Exa Z h a "com/example/inevitable_path/inevitablepath/smv/IntList" ∧ Fld Z h a "com/example/inevitable_path/inevitablepath/smv/IntList" "values" "[I" (.ref r) ∧ Fld Z h a "com/example/inevitable_path/inevitablepath/smv/IntList" "size" "I" (.int (3 : Int32)) ∧ Av Z h r .int [.int v0, .int v2, .int v3, .int v3, .int (0 : Int32), .int (0 : Int32), .int (0 : Int32), .int (0 : Int32)]) := by
  refine sat_of (own := "com/example/inevitable_path/inevitablepath/smv/IntList") (nm := "removeDuplicates") rfl rfl (plainFor_of_name pn_1) #[.val (.ref a), .unset, .unset, .unset, .unset, .unset] (fun m => by first | (simp [entryFrame, mkF, argsToLocals, Value.category, maxLocals]; done) | rfl) ?_
  intro p e s m below meth c C
  refine go_iconst C (0 : Int32) d4_0 (pc' := 1) rfl (by decide) ?_
  refine go_istoreN C (Ls' := #[.val (.ref a), .val (.int (0 : Int32)), .unset, .unset, .unset, .unset]) d4_1 (pc' := 2) rfl rfl ?_
  refine go_iconst C (0 : Int32) d4_2 (pc' := 3) rfl (by decide) ?_
  refine go_istoreN C (Ls' := #[.val (.ref a), .val (.int (0 : Int32)), .val (.int (0 : Int32)), .unset, .unset, .unset]) d4_3 (pc' := 4) rfl rfl ?_
  refine go_iloadN C d4_4 (pc' := 5) rfl rfl ?_
  refine go_aloadN C d4_5 (pc' := 6) rfl rfl rfl ?_
  refine go_getfield C (wd hw 21 rfl) F2 d4_6 (pc' := 9) rfl ?_
  refine go_icmp C (0 : Int) (4 : Int) (by decide) (by decide) d4_9 (by decide) (pc' := 81) (by decide) (pcN := 12) rfl (fun (c_1 : ¬ (0 : Int) < (4 : Int)) => by omega) (fun (c_1 : (0 : Int) < (4 : Int)) => ?_)
  refine go_aloadN C d4_12 (pc' := 13) rfl rfl rfl ?_
  refine go_getfield C (wd hw 14 rfl) F1 d4_13 (pc' := 16) rfl ?_
  refine go_iloadN C d4_16 (pc' := 17) rfl rfl ?_
  refine go_iaload C A1 0 (.int v0) (by decide) rfl d4_17 (pc' := 18) rfl ?_
  refine go_istoreN C (Ls' := #[.val (.ref a), .val (.int (0 : Int32)), .val (.int (0 : Int32)), .val (.int v0), .unset, .unset]) d4_18 (pc' := 19) rfl rfl ?_
  refine go_iconst C (0 : Int32) d4_19 (pc' := 20) rfl (by decide) ?_
  refine go_istore C (Ls' := #[.val (.ref a), .val (.int (0 : Int32)), .val (.int (0 : Int32)), .val (.int v0), .val (.int (0 : Int32)), .unset]) d4_20 (pc' := 22) rfl rfl ?_
  refine go_iconst C (0 : Int32) d4_22 (pc' := 23) rfl (by decide) ?_
  refine go_istore C (Ls' := #[.val (.ref a), .val (.int (0 : Int32)), .val (.int (0 : Int32)), .val (.int v0), .val (.int (0 : Int32)), .val (.int (0 : Int32))]) d4_23 (pc' := 25) rfl rfl ?_
  refine go_iload C d4_25 (pc' := 27) rfl rfl ?_
  refine go_iloadN C d4_27 (pc' := 28) rfl rfl ?_
  refine go_icmp C (0 : Int) (0 : Int) (by decide) (by decide) d4_28 (by decide) (pc' := 60) (by decide) (pcN := 31) rfl (fun (c_2 : ¬ (0 : Int) < (0 : Int)) => ?_) (fun (c_2 : (0 : Int) < (0 : Int)) => by omega)
  refine go_iload C d4_60 (pc' := 62) rfl rfl ?_
  refine go_if0 C (0 : Int) (by decide) d4_62 (by decide) (pc' := 75) (by decide) (pcN := 65) rfl (fun (c_3 : ¬ (0 : Int) = 0) => by omega) (fun (c_3 : (0 : Int) = 0) => ?_)
  refine go_aloadN C d4_65 (pc' := 66) rfl rfl rfl ?_
  refine go_getfield C (wd hw 14 rfl) F1 d4_66 (pc' := 69) rfl ?_
  refine go_iloadN C d4_69 (pc' := 70) rfl rfl ?_
  refine go_iinc C (Ls' := #[.val (.ref a), .val (.int ((0 : Int32) + (1 : Int32))), .val (.int (0 : Int32)), .val (.int v0), .val (.int (0 : Int32)), .val (.int (0 : Int32))]) (1 : Int32) d4_70 (pc' := 73) rfl (by decide) rfl rfl ?_
  rw [(by decide : (0 : Int32) + (1 : Int32) = (1 : Int32))]
  refine go_iloadN C d4_73 (pc' := 74) rfl rfl ?_
  refine go_iastore C A1 0 (by decide) (show 0 < 8 from by decide) gr d4_74 (pc' := 75) rfl ?_
  intro h_4 W_5 A_6
  have F_8 := Fld.other W_5 F1 (Or.inl (own_ne_arr E1 (wd hw 5 rfl) A1))
  have F_9 := Fld.other W_5 F2 (Or.inl (own_ne_arr E1 (wd hw 5 rfl) A1))
  have E_10 := Exa.wr W_5 E1
  have A_11 : Av Z h_4 r .int [.int v0, .int v1, .int v2, .int v3, .int (0 : Int32), .int (0 : Int32), .int (0 : Int32), .int (0 : Int32)] := A_6
  refine go_iinc C (Ls' := #[.val (.ref a), .val (.int (1 : Int32)), .val (.int ((0 : Int32) + (1 : Int32))), .val (.int v0), .val (.int (0 : Int32)), .val (.int (0 : Int32))]) (1 : Int32) d4_75 (pc' := 78) rfl (by decide) rfl rfl ?_
  rw [(by decide : (0 : Int32) + (1 : Int32) = (1 : Int32))]
  refine go_goto C d4_78 (by decide) (pc' := 4) (by decide) ?_
  refine go_iloadN C d4_4 (pc' := 5) rfl rfl ?_
  refine go_aloadN C d4_5 (pc' := 6) rfl rfl rfl ?_
  refine go_getfield C (wd hw 21 rfl) F_9 d4_6 (pc' := 9) rfl ?_
  refine go_icmp C (1 : Int) (4 : Int) (by decide) (by decide) d4_9 (by decide) (pc' := 81) (by decide) (pcN := 12) rfl (fun (c_12 : ¬ (1 : Int) < (4 : Int)) => by omega) (fun (c_12 : (1 : Int) < (4 : Int)) => ?_)
  refine go_aloadN C d4_12 (pc' := 13) rfl rfl rfl ?_
  refine go_getfield C (wd hw 14 rfl) F_8 d4_13 (pc' := 16) rfl ?_
  refine go_iloadN C d4_16 (pc' := 17) rfl rfl ?_
  refine go_iaload C A_11 1 (.int v1) (by decide) rfl d4_17 (pc' := 18) rfl ?_
  refine go_istoreN C (Ls' := #[.val (.ref a), .val (.int (1 : Int32)), .val (.int (1 : Int32)), .val (.int v1), .val (.int (0 : Int32)), .val (.int (0 : Int32))]) d4_18 (pc' := 19) rfl rfl ?_
  refine go_iconst C (0 : Int32) d4_19 (pc' := 20) rfl (by decide) ?_
  refine go_istore C (Ls' := #[.val (.ref a), .val (.int (1 : Int32)), .val (.int (1 : Int32)), .val (.int v1), .val (.int (0 : Int32)), .val (.int (0 : Int32))]) d4_20 (pc' := 22) rfl rfl ?_
  refine go_iconst C (0 : Int32) d4_22 (pc' := 23) rfl (by decide) ?_
  refine go_istore C (Ls' := #[.val (.ref a), .val (.int (1 : Int32)), .val (.int (1 : Int32)), .val (.int v1), .val (.int (0 : Int32)), .val (.int (0 : Int32))]) d4_23 (pc' := 25) rfl rfl ?_
  refine go_iload C d4_25 (pc' := 27) rfl rfl ?_
  refine go_iloadN C d4_27 (pc' := 28) rfl rfl ?_
  refine go_icmp C (0 : Int) (1 : Int) (by decide) (by decide) d4_28 (by decide) (pc' := 60) (by decide) (pcN := 31) rfl (fun (c_13 : ¬ (0 : Int) < (1 : Int)) => by omega) (fun (c_13 : (0 : Int) < (1 : Int)) => ?_)
  refine go_iload C d4_31 (pc' := 33) rfl rfl ?_
  refine go_if0 C (0 : Int) (by decide) d4_33 (by decide) (pc' := 60) (by decide) (pcN := 36) rfl (fun (c_14 : ¬ (0 : Int) = 0) => by omega) (fun (c_14 : (0 : Int) = 0) => ?_)
  refine go_aloadN C d4_36 (pc' := 37) rfl rfl rfl ?_
  refine go_getfield C (wd hw 14 rfl) F_8 d4_37 (pc' := 40) rfl ?_
  refine go_iload C d4_40 (pc' := 42) rfl rfl ?_
  refine go_iaload C A_11 0 (.int v0) (by decide) rfl d4_42 (pc' := 43) rfl ?_
  refine go_iloadN C d4_43 (pc' := 44) rfl rfl ?_
  refine go_icmp C v0.toInt v1.toInt rfl rfl d4_44 (by decide) (pc' := 51) (by decide) (pcN := 47) rfl (fun (c_15 : ¬ v0.toInt = v1.toInt) => by omega) (fun (c_15 : v0.toInt = v1.toInt) => ?_)
  refine go_iconst C (1 : Int32) d4_47 (pc' := 48) rfl (by decide) ?_
  refine go_goto C d4_48 (by decide) (pc' := 52) (by decide) ?_
  refine go_istore C (Ls' := #[.val (.ref a), .val (.int (1 : Int32)), .val (.int (1 : Int32)), .val (.int v1), .val (.int (1 : Int32)), .val (.int (0 : Int32))]) d4_52 (pc' := 54) rfl rfl ?_
  refine go_iinc C (Ls' := #[.val (.ref a), .val (.int (1 : Int32)), .val (.int (1 : Int32)), .val (.int v1), .val (.int (1 : Int32)), .val (.int ((0 : Int32) + (1 : Int32)))]) (1 : Int32) d4_54 (pc' := 57) rfl (by decide) rfl rfl ?_
  rw [(by decide : (0 : Int32) + (1 : Int32) = (1 : Int32))]
  refine go_goto C d4_57 (by decide) (pc' := 25) (by decide) ?_
  refine go_iload C d4_25 (pc' := 27) rfl rfl ?_
  refine go_iloadN C d4_27 (pc' := 28) rfl rfl ?_
  refine go_icmp C (1 : Int) (1 : Int) (by decide) (by decide) d4_28 (by decide) (pc' := 60) (by decide) (pcN := 31) rfl (fun (c_16 : ¬ (1 : Int) < (1 : Int)) => ?_) (fun (c_16 : (1 : Int) < (1 : Int)) => by omega)
  refine go_iload C d4_60 (pc' := 62) rfl rfl ?_
  refine go_if0 C (1 : Int) (by decide) d4_62 (by decide) (pc' := 75) (by decide) (pcN := 65) rfl (fun (c_17 : ¬ (1 : Int) = 0) => ?_) (fun (c_17 : (1 : Int) = 0) => by omega)
  refine go_iinc C (Ls' := #[.val (.ref a), .val (.int (1 : Int32)), .val (.int ((1 : Int32) + (1 : Int32))), .val (.int v1), .val (.int (1 : Int32)), .val (.int (1 : Int32))]) (1 : Int32) d4_75 (pc' := 78) rfl (by decide) rfl rfl ?_
  rw [(by decide : (1 : Int32) + (1 : Int32) = (2 : Int32))]
  refine go_goto C d4_78 (by decide) (pc' := 4) (by decide) ?_
  refine go_iloadN C d4_4 (pc' := 5) rfl rfl ?_
  refine go_aloadN C d4_5 (pc' := 6) rfl rfl rfl ?_
  refine go_getfield C (wd hw 21 rfl) F_9 d4_6 (pc' := 9) rfl ?_
  refine go_icmp C (2 : Int) (4 : Int) (by decide) (by decide) d4_9 (by decide) (pc' := 81) (by decide) (pcN := 12) rfl (fun (c_18 : ¬ (2 : Int) < (4 : Int)) => by omega) (fun (c_18 : (2 : Int) < (4 : Int)) => ?_)
  refine go_aloadN C d4_12 (pc' := 13) rfl rfl rfl ?_
  refine go_getfield C (wd hw 14 rfl) F_8 d4_13 (pc' := 16) rfl ?_
  refine go_iloadN C d4_16 (pc' := 17) rfl rfl ?_
  refine go_iaload C A_11 2 (.int v2) (by decide) rfl d4_17 (pc' := 18) rfl ?_
  refine go_istoreN C (Ls' := #[.val (.ref a), .val (.int (1 : Int32)), .val (.int (2 : Int32)), .val (.int v2), .val (.int (1 : Int32)), .val (.int (1 : Int32))]) d4_18 (pc' := 19) rfl rfl ?_
  refine go_iconst C (0 : Int32) d4_19 (pc' := 20) rfl (by decide) ?_
  refine go_istore C (Ls' := #[.val (.ref a), .val (.int (1 : Int32)), .val (.int (2 : Int32)), .val (.int v2), .val (.int (0 : Int32)), .val (.int (1 : Int32))]) d4_20 (pc' := 22) rfl rfl ?_
  refine go_iconst C (0 : Int32) d4_22 (pc' := 23) rfl (by decide) ?_
  refine go_istore C (Ls' := #[.val (.ref a), .val (.int (1 : Int32)), .val (.int (2 : Int32)), .val (.int v2), .val (.int (0 : Int32)), .val (.int (0 : Int32))]) d4_23 (pc' := 25) rfl rfl ?_
  refine go_iload C d4_25 (pc' := 27) rfl rfl ?_
  refine go_iloadN C d4_27 (pc' := 28) rfl rfl ?_
  refine go_icmp C (0 : Int) (1 : Int) (by decide) (by decide) d4_28 (by decide) (pc' := 60) (by decide) (pcN := 31) rfl (fun (c_19 : ¬ (0 : Int) < (1 : Int)) => by omega) (fun (c_19 : (0 : Int) < (1 : Int)) => ?_)
  refine go_iload C d4_31 (pc' := 33) rfl rfl ?_
  refine go_if0 C (0 : Int) (by decide) d4_33 (by decide) (pc' := 60) (by decide) (pcN := 36) rfl (fun (c_20 : ¬ (0 : Int) = 0) => by omega) (fun (c_20 : (0 : Int) = 0) => ?_)
  refine go_aloadN C d4_36 (pc' := 37) rfl rfl rfl ?_
  refine go_getfield C (wd hw 14 rfl) F_8 d4_37 (pc' := 40) rfl ?_
  refine go_iload C d4_40 (pc' := 42) rfl rfl ?_
  refine go_iaload C A_11 0 (.int v0) (by decide) rfl d4_42 (pc' := 43) rfl ?_
  refine go_iloadN C d4_43 (pc' := 44) rfl rfl ?_
  refine go_icmp C v0.toInt v2.toInt rfl rfl d4_44 (by decide) (pc' := 51) (by decide) (pcN := 47) rfl (fun (c_21 : ¬ v0.toInt = v2.toInt) => ?_) (fun (c_21 : v0.toInt = v2.toInt) => by omega)
  refine go_iconst C (0 : Int32) d4_51 (pc' := 52) rfl (by decide) ?_
  refine go_istore C (Ls' := #[.val (.ref a), .val (.int (1 : Int32)), .val (.int (2 : Int32)), .val (.int v2), .val (.int (0 : Int32)), .val (.int (0 : Int32))]) d4_52 (pc' := 54) rfl rfl ?_
  refine go_iinc C (Ls' := #[.val (.ref a), .val (.int (1 : Int32)), .val (.int (2 : Int32)), .val (.int v2), .val (.int (0 : Int32)), .val (.int ((0 : Int32) + (1 : Int32)))]) (1 : Int32) d4_54 (pc' := 57) rfl (by decide) rfl rfl ?_
  rw [(by decide : (0 : Int32) + (1 : Int32) = (1 : Int32))]
  refine go_goto C d4_57 (by decide) (pc' := 25) (by decide) ?_
  refine go_iload C d4_25 (pc' := 27) rfl rfl ?_
  refine go_iloadN C d4_27 (pc' := 28) rfl rfl ?_
  refine go_icmp C (1 : Int) (1 : Int) (by decide) (by decide) d4_28 (by decide) (pc' := 60) (by decide) (pcN := 31) rfl (fun (c_22 : ¬ (1 : Int) < (1 : Int)) => ?_) (fun (c_22 : (1 : Int) < (1 : Int)) => by omega)
  refine go_iload C d4_60 (pc' := 62) rfl rfl ?_
  refine go_if0 C (0 : Int) (by decide) d4_62 (by decide) (pc' := 75) (by decide) (pcN := 65) rfl (fun (c_23 : ¬ (0 : Int) = 0) => by omega) (fun (c_23 : (0 : Int) = 0) => ?_)
  refine go_aloadN C d4_65 (pc' := 66) rfl rfl rfl ?_
  refine go_getfield C (wd hw 14 rfl) F_8 d4_66 (pc' := 69) rfl ?_
  refine go_iloadN C d4_69 (pc' := 70) rfl rfl ?_
  refine go_iinc C (Ls' := #[.val (.ref a), .val (.int ((1 : Int32) + (1 : Int32))), .val (.int (2 : Int32)), .val (.int v2), .val (.int (0 : Int32)), .val (.int (1 : Int32))]) (1 : Int32) d4_70 (pc' := 73) rfl (by decide) rfl rfl ?_
  rw [(by decide : (1 : Int32) + (1 : Int32) = (2 : Int32))]
  refine go_iloadN C d4_73 (pc' := 74) rfl rfl ?_
  refine go_iastore C A_11 1 (by decide) (show 1 < 8 from by decide) gr d4_74 (pc' := 75) rfl ?_
  intro h_24 W_25 A_26
  have F_28 := Fld.other W_25 F_8 (Or.inl (own_ne_arr E_10 (wd hw 5 rfl) A_11))
  have F_29 := Fld.other W_25 F_9 (Or.inl (own_ne_arr E_10 (wd hw 5 rfl) A_11))
  have E_30 := Exa.wr W_25 E_10
  have A_31 : Av Z h_24 r .int [.int v0, .int v2, .int v2, .int v3, .int (0 : Int32), .int (0 : Int32), .int (0 : Int32), .int (0 : Int32)] := A_26
  refine go_iinc C (Ls' := #[.val (.ref a), .val (.int (2 : Int32)), .val (.int ((2 : Int32) + (1 : Int32))), .val (.int v2), .val (.int (0 : Int32)), .val (.int (1 : Int32))]) (1 : Int32) d4_75 (pc' := 78) rfl (by decide) rfl rfl ?_
  rw [(by decide : (2 : Int32) + (1 : Int32) = (3 : Int32))]
  refine go_goto C d4_78 (by decide) (pc' := 4) (by decide) ?_
  refine go_iloadN C d4_4 (pc' := 5) rfl rfl ?_
  refine go_aloadN C d4_5 (pc' := 6) rfl rfl rfl ?_
  refine go_getfield C (wd hw 21 rfl) F_29 d4_6 (pc' := 9) rfl ?_
  refine go_icmp C (3 : Int) (4 : Int) (by decide) (by decide) d4_9 (by decide) (pc' := 81) (by decide) (pcN := 12) rfl (fun (c_32 : ¬ (3 : Int) < (4 : Int)) => by omega) (fun (c_32 : (3 : Int) < (4 : Int)) => ?_)
  refine go_aloadN C d4_12 (pc' := 13) rfl rfl rfl ?_
  refine go_getfield C (wd hw 14 rfl) F_28 d4_13 (pc' := 16) rfl ?_
  refine go_iloadN C d4_16 (pc' := 17) rfl rfl ?_
  refine go_iaload C A_31 3 (.int v3) (by decide) rfl d4_17 (pc' := 18) rfl ?_
  refine go_istoreN C (Ls' := #[.val (.ref a), .val (.int (2 : Int32)), .val (.int (3 : Int32)), .val (.int v3), .val (.int (0 : Int32)), .val (.int (1 : Int32))]) d4_18 (pc' := 19) rfl rfl ?_
  refine go_iconst C (0 : Int32) d4_19 (pc' := 20) rfl (by decide) ?_
  refine go_istore C (Ls' := #[.val (.ref a), .val (.int (2 : Int32)), .val (.int (3 : Int32)), .val (.int v3), .val (.int (0 : Int32)), .val (.int (1 : Int32))]) d4_20 (pc' := 22) rfl rfl ?_
  refine go_iconst C (0 : Int32) d4_22 (pc' := 23) rfl (by decide) ?_
  refine go_istore C (Ls' := #[.val (.ref a), .val (.int (2 : Int32)), .val (.int (3 : Int32)), .val (.int v3), .val (.int (0 : Int32)), .val (.int (0 : Int32))]) d4_23 (pc' := 25) rfl rfl ?_
  refine go_iload C d4_25 (pc' := 27) rfl rfl ?_
  refine go_iloadN C d4_27 (pc' := 28) rfl rfl ?_
  refine go_icmp C (0 : Int) (2 : Int) (by decide) (by decide) d4_28 (by decide) (pc' := 60) (by decide) (pcN := 31) rfl (fun (c_33 : ¬ (0 : Int) < (2 : Int)) => by omega) (fun (c_33 : (0 : Int) < (2 : Int)) => ?_)
  refine go_iload C d4_31 (pc' := 33) rfl rfl ?_
  refine go_if0 C (0 : Int) (by decide) d4_33 (by decide) (pc' := 60) (by decide) (pcN := 36) rfl (fun (c_34 : ¬ (0 : Int) = 0) => by omega) (fun (c_34 : (0 : Int) = 0) => ?_)
  refine go_aloadN C d4_36 (pc' := 37) rfl rfl rfl ?_
  refine go_getfield C (wd hw 14 rfl) F_28 d4_37 (pc' := 40) rfl ?_
  refine go_iload C d4_40 (pc' := 42) rfl rfl ?_
  refine go_iaload C A_31 0 (.int v0) (by decide) rfl d4_42 (pc' := 43) rfl ?_
  refine go_iloadN C d4_43 (pc' := 44) rfl rfl ?_
  refine go_icmp C v0.toInt v3.toInt rfl rfl d4_44 (by decide) (pc' := 51) (by decide) (pcN := 47) rfl (fun (c_35 : ¬ v0.toInt = v3.toInt) => ?_) (fun (c_35 : v0.toInt = v3.toInt) => by omega)
  refine go_iconst C (0 : Int32) d4_51 (pc' := 52) rfl (by decide) ?_
  refine go_istore C (Ls' := #[.val (.ref a), .val (.int (2 : Int32)), .val (.int (3 : Int32)), .val (.int v3), .val (.int (0 : Int32)), .val (.int (0 : Int32))]) d4_52 (pc' := 54) rfl rfl ?_
  refine go_iinc C (Ls' := #[.val (.ref a), .val (.int (2 : Int32)), .val (.int (3 : Int32)), .val (.int v3), .val (.int (0 : Int32)), .val (.int ((0 : Int32) + (1 : Int32)))]) (1 : Int32) d4_54 (pc' := 57) rfl (by decide) rfl rfl ?_
  rw [(by decide : (0 : Int32) + (1 : Int32) = (1 : Int32))]
  refine go_goto C d4_57 (by decide) (pc' := 25) (by decide) ?_
  refine go_iload C d4_25 (pc' := 27) rfl rfl ?_
  refine go_iloadN C d4_27 (pc' := 28) rfl rfl ?_
  refine go_icmp C (1 : Int) (2 : Int) (by decide) (by decide) d4_28 (by decide) (pc' := 60) (by decide) (pcN := 31) rfl (fun (c_36 : ¬ (1 : Int) < (2 : Int)) => by omega) (fun (c_36 : (1 : Int) < (2 : Int)) => ?_)
  refine go_iload C d4_31 (pc' := 33) rfl rfl ?_
  refine go_if0 C (0 : Int) (by decide) d4_33 (by decide) (pc' := 60) (by decide) (pcN := 36) rfl (fun (c_37 : ¬ (0 : Int) = 0) => by omega) (fun (c_37 : (0 : Int) = 0) => ?_)
  refine go_aloadN C d4_36 (pc' := 37) rfl rfl rfl ?_
  refine go_getfield C (wd hw 14 rfl) F_28 d4_37 (pc' := 40) rfl ?_
  refine go_iload C d4_40 (pc' := 42) rfl rfl ?_
  refine go_iaload C A_31 1 (.int v2) (by decide) rfl d4_42 (pc' := 43) rfl ?_
  refine go_iloadN C d4_43 (pc' := 44) rfl rfl ?_
  refine go_icmp C v2.toInt v3.toInt rfl rfl d4_44 (by decide) (pc' := 51) (by decide) (pcN := 47) rfl (fun (c_38 : ¬ v2.toInt = v3.toInt) => ?_) (fun (c_38 : v2.toInt = v3.toInt) => by omega)
  refine go_iconst C (0 : Int32) d4_51 (pc' := 52) rfl (by decide) ?_
  refine go_istore C (Ls' := #[.val (.ref a), .val (.int (2 : Int32)), .val (.int (3 : Int32)), .val (.int v3), .val (.int (0 : Int32)), .val (.int (1 : Int32))]) d4_52 (pc' := 54) rfl rfl ?_
  refine go_iinc C (Ls' := #[.val (.ref a), .val (.int (2 : Int32)), .val (.int (3 : Int32)), .val (.int v3), .val (.int (0 : Int32)), .val (.int ((1 : Int32) + (1 : Int32)))]) (1 : Int32) d4_54 (pc' := 57) rfl (by decide) rfl rfl ?_
  rw [(by decide : (1 : Int32) + (1 : Int32) = (2 : Int32))]
  refine go_goto C d4_57 (by decide) (pc' := 25) (by decide) ?_
  refine go_iload C d4_25 (pc' := 27) rfl rfl ?_
  refine go_iloadN C d4_27 (pc' := 28) rfl rfl ?_
  refine go_icmp C (2 : Int) (2 : Int) (by decide) (by decide) d4_28 (by decide) (pc' := 60) (by decide) (pcN := 31) rfl (fun (c_39 : ¬ (2 : Int) < (2 : Int)) => ?_) (fun (c_39 : (2 : Int) < (2 : Int)) => by omega)
  refine go_iload C d4_60 (pc' := 62) rfl rfl ?_
  refine go_if0 C (0 : Int) (by decide) d4_62 (by decide) (pc' := 75) (by decide) (pcN := 65) rfl (fun (c_40 : ¬ (0 : Int) = 0) => by omega) (fun (c_40 : (0 : Int) = 0) => ?_)
  refine go_aloadN C d4_65 (pc' := 66) rfl rfl rfl ?_
  refine go_getfield C (wd hw 14 rfl) F_28 d4_66 (pc' := 69) rfl ?_
  refine go_iloadN C d4_69 (pc' := 70) rfl rfl ?_
  refine go_iinc C (Ls' := #[.val (.ref a), .val (.int ((2 : Int32) + (1 : Int32))), .val (.int (3 : Int32)), .val (.int v3), .val (.int (0 : Int32)), .val (.int (2 : Int32))]) (1 : Int32) d4_70 (pc' := 73) rfl (by decide) rfl rfl ?_
  rw [(by decide : (2 : Int32) + (1 : Int32) = (3 : Int32))]
  refine go_iloadN C d4_73 (pc' := 74) rfl rfl ?_
  refine go_iastore C A_31 2 (by decide) (show 2 < 8 from by decide) gr d4_74 (pc' := 75) rfl ?_
  intro h_41 W_42 A_43
  have F_45 := Fld.other W_42 F_28 (Or.inl (own_ne_arr E_30 (wd hw 5 rfl) A_31))
  have F_46 := Fld.other W_42 F_29 (Or.inl (own_ne_arr E_30 (wd hw 5 rfl) A_31))
  have E_47 := Exa.wr W_42 E_30
  have A_48 : Av Z h_41 r .int [.int v0, .int v2, .int v3, .int v3, .int (0 : Int32), .int (0 : Int32), .int (0 : Int32), .int (0 : Int32)] := A_43
  refine go_iinc C (Ls' := #[.val (.ref a), .val (.int (3 : Int32)), .val (.int ((3 : Int32) + (1 : Int32))), .val (.int v3), .val (.int (0 : Int32)), .val (.int (2 : Int32))]) (1 : Int32) d4_75 (pc' := 78) rfl (by decide) rfl rfl ?_
  rw [(by decide : (3 : Int32) + (1 : Int32) = (4 : Int32))]
  refine go_goto C d4_78 (by decide) (pc' := 4) (by decide) ?_
  refine go_iloadN C d4_4 (pc' := 5) rfl rfl ?_
  refine go_aloadN C d4_5 (pc' := 6) rfl rfl rfl ?_
  refine go_getfield C (wd hw 21 rfl) F_46 d4_6 (pc' := 9) rfl ?_
  refine go_icmp C (4 : Int) (4 : Int) (by decide) (by decide) d4_9 (by decide) (pc' := 81) (by decide) (pcN := 12) rfl (fun (c_49 : ¬ (4 : Int) < (4 : Int)) => ?_) (fun (c_49 : (4 : Int) < (4 : Int)) => by omega)
  refine go_aloadN C d4_81 (pc' := 82) rfl rfl rfl ?_
  refine go_iloadN C d4_82 (pc' := 83) rfl rfl ?_
  refine go_putfield C (wd hw 21 rfl) F_46 E_47 (Or.inl (wd hw 22 rfl)) (wd hw 5 rfl) (ty := .int) (by decide) rfl rfl ga d4_83 (pc' := 86) rfl ?_
  intro h_50 W_51
  have F_52 := Fld.other W_51 F_45 (Or.inr (slot_ne (a0 := a0) (Or.inl (wd hw 15 rfl)) (Or.inl (wd hw 22 rfl)) (by decide) (t := (.array .int)) (t' := .int) (by decide) (by decide)))
  have F_53 := Fld.same W_51 F_46
  have E_54 := Exa.wr W_51 E_47
  have A_55 := Av.other A_48 W_51 (Ne.symm (own_ne_arr E_47 (wd hw 5 rfl) A_48))
  refine go_return C rfl d4_86 (by decide) (by decide) ?_
  exact ⟨rfl, E_54, F_52, F_53, A_55⟩
set_option maxRecDepth 65536 in
set_option maxHeartbeats 40000000 in
theorem sat_rd4ftf (l : Launch) (Z : State) (a0 : Array Value) (hw : ∀ d ∈ tables_1, d.before a0 Z = true) (a r : Addr) (v0 v1 v2 v3 : Int32) (h0 : Heap) (n0 : Nat) (hf1 : v1.toInt = v0.toInt) (hf2 : ¬ v2.toInt = v0.toInt ∧ ¬ v2.toInt = v1.toInt) (hf3 : v3.toInt = v0.toInt ∨ v3.toInt = v1.toInt ∨ v3.toInt = v2.toInt) (E1 : Exa Z h0 a "com/example/inevitable_path/inevitablepath/smv/IntList") (F1 : Fld Z h0 a "com/example/inevitable_path/inevitablepath/smv/IntList" "values" "[I" (.ref r)) (F2 : Fld Z h0 a "com/example/inevitable_path/inevitablepath/smv/IntList" "size" "I" (.int (4 : Int32))) (A1 : Av Z h0 r .int [.int v0, .int v1, .int v2, .int v3, .int (0 : Int32), .int (0 : Int32), .int (0 : Int32), .int (0 : Int32)]) (ga : n0 ≤ a) (gr : n0 ≤ r) :
    Sat l Z (⟨"com/example/inevitable_path/inevitablepath/smv/IntList", "removeDuplicates", "()V"⟩ : MethodName) prog_60_method_10_code 6 none ({ frames := 0, cells := 0, slots := 0, locals := 0 } : Room) [.ref a] h0 n0 (RN fun h => Exa Z h a "com/example/inevitable_path/inevitablepath/smv/IntList" ∧ Fld Z h a "com/example/inevitable_path/inevitablepath/smv/IntList" "values" "[I" (.ref r) ∧ Fld Z h a "com/example/inevitable_path/inevitablepath/smv/IntList" "size" "I" (.int (2 : Int32)) ∧ Av Z h r .int [.int v0, .int v2, .int v2, .int v3, .int (0 : Int32), .int (0 : Int32), .int (0 : Int32), .int (0 : Int32)]) := by
  refine sat_of (own := "com/example/inevitable_path/inevitablepath/smv/IntList") (nm := "removeDuplicates") rfl rfl (plainFor_of_name pn_1) #[.val (.ref a), .unset, .unset, .unset, .unset, .unset] (fun m => by first | (simp [entryFrame, mkF, argsToLocals, Value.category, maxLocals]; done) | rfl) ?_
  intro p e s m below meth c C
  refine go_iconst C (0 : Int32) d4_0 (pc' := 1) rfl (by decide) ?_
  refine go_istoreN C (Ls' := #[.val (.ref a), .val (.int (0 : Int32)), .unset, .unset, .unset, .unset]) d4_1 (pc' := 2) rfl rfl ?_
  refine go_iconst C (0 : Int32) d4_2 (pc' := 3) rfl (by decide) ?_
  refine go_istoreN C (Ls' := #[.val (.ref a), .val (.int (0 : Int32)), .val (.int (0 : Int32)), .unset, .unset, .unset]) d4_3 (pc' := 4) rfl rfl ?_
  refine go_iloadN C d4_4 (pc' := 5) rfl rfl ?_
  refine go_aloadN C d4_5 (pc' := 6) rfl rfl rfl ?_
  refine go_getfield C (wd hw 21 rfl) F2 d4_6 (pc' := 9) rfl ?_
  refine go_icmp C (0 : Int) (4 : Int) (by decide) (by decide) d4_9 (by decide) (pc' := 81) (by decide) (pcN := 12) rfl (fun (c_1 : ¬ (0 : Int) < (4 : Int)) => by omega) (fun (c_1 : (0 : Int) < (4 : Int)) => ?_)
  refine go_aloadN C d4_12 (pc' := 13) rfl rfl rfl ?_
  refine go_getfield C (wd hw 14 rfl) F1 d4_13 (pc' := 16) rfl ?_
  refine go_iloadN C d4_16 (pc' := 17) rfl rfl ?_
  refine go_iaload C A1 0 (.int v0) (by decide) rfl d4_17 (pc' := 18) rfl ?_
  refine go_istoreN C (Ls' := #[.val (.ref a), .val (.int (0 : Int32)), .val (.int (0 : Int32)), .val (.int v0), .unset, .unset]) d4_18 (pc' := 19) rfl rfl ?_
  refine go_iconst C (0 : Int32) d4_19 (pc' := 20) rfl (by decide) ?_
  refine go_istore C (Ls' := #[.val (.ref a), .val (.int (0 : Int32)), .val (.int (0 : Int32)), .val (.int v0), .val (.int (0 : Int32)), .unset]) d4_20 (pc' := 22) rfl rfl ?_
  refine go_iconst C (0 : Int32) d4_22 (pc' := 23) rfl (by decide) ?_
  refine go_istore C (Ls' := #[.val (.ref a), .val (.int (0 : Int32)), .val (.int (0 : Int32)), .val (.int v0), .val (.int (0 : Int32)), .val (.int (0 : Int32))]) d4_23 (pc' := 25) rfl rfl ?_
  refine go_iload C d4_25 (pc' := 27) rfl rfl ?_
  refine go_iloadN C d4_27 (pc' := 28) rfl rfl ?_
  refine go_icmp C (0 : Int) (0 : Int) (by decide) (by decide) d4_28 (by decide) (pc' := 60) (by decide) (pcN := 31) rfl (fun (c_2 : ¬ (0 : Int) < (0 : Int)) => ?_) (fun (c_2 : (0 : Int) < (0 : Int)) => by omega)
  refine go_iload C d4_60 (pc' := 62) rfl rfl ?_
  refine go_if0 C (0 : Int) (by decide) d4_62 (by decide) (pc' := 75) (by decide) (pcN := 65) rfl (fun (c_3 : ¬ (0 : Int) = 0) => by omega) (fun (c_3 : (0 : Int) = 0) => ?_)
  refine go_aloadN C d4_65 (pc' := 66) rfl rfl rfl ?_
  refine go_getfield C (wd hw 14 rfl) F1 d4_66 (pc' := 69) rfl ?_
  refine go_iloadN C d4_69 (pc' := 70) rfl rfl ?_
  refine go_iinc C (Ls' := #[.val (.ref a), .val (.int ((0 : Int32) + (1 : Int32))), .val (.int (0 : Int32)), .val (.int v0), .val (.int (0 : Int32)), .val (.int (0 : Int32))]) (1 : Int32) d4_70 (pc' := 73) rfl (by decide) rfl rfl ?_
  rw [(by decide : (0 : Int32) + (1 : Int32) = (1 : Int32))]
  refine go_iloadN C d4_73 (pc' := 74) rfl rfl ?_
  refine go_iastore C A1 0 (by decide) (show 0 < 8 from by decide) gr d4_74 (pc' := 75) rfl ?_
  intro h_4 W_5 A_6
  have F_8 := Fld.other W_5 F1 (Or.inl (own_ne_arr E1 (wd hw 5 rfl) A1))
  have F_9 := Fld.other W_5 F2 (Or.inl (own_ne_arr E1 (wd hw 5 rfl) A1))
  have E_10 := Exa.wr W_5 E1
  have A_11 : Av Z h_4 r .int [.int v0, .int v1, .int v2, .int v3, .int (0 : Int32), .int (0 : Int32), .int (0 : Int32), .int (0 : Int32)] := A_6
  refine go_iinc C (Ls' := #[.val (.ref a), .val (.int (1 : Int32)), .val (.int ((0 : Int32) + (1 : Int32))), .val (.int v0), .val (.int (0 : Int32)), .val (.int (0 : Int32))]) (1 : Int32) d4_75 (pc' := 78) rfl (by decide) rfl rfl ?_
  rw [(by decide : (0 : Int32) + (1 : Int32) = (1 : Int32))]
  refine go_goto C d4_78 (by decide) (pc' := 4) (by decide) ?_
  refine go_iloadN C d4_4 (pc' := 5) rfl rfl ?_
  refine go_aloadN C d4_5 (pc' := 6) rfl rfl rfl ?_
  refine go_getfield C (wd hw 21 rfl) F_9 d4_6 (pc' := 9) rfl ?_
  refine go_icmp C (1 : Int) (4 : Int) (by decide) (by decide) d4_9 (by decide) (pc' := 81) (by decide) (pcN := 12) rfl (fun (c_12 : ¬ (1 : Int) < (4 : Int)) => by omega) (fun (c_12 : (1 : Int) < (4 : Int)) => ?_)
  refine go_aloadN C d4_12 (pc' := 13) rfl rfl rfl ?_
  refine go_getfield C (wd hw 14 rfl) F_8 d4_13 (pc' := 16) rfl ?_
  refine go_iloadN C d4_16 (pc' := 17) rfl rfl ?_
  refine go_iaload C A_11 1 (.int v1) (by decide) rfl d4_17 (pc' := 18) rfl ?_
  refine go_istoreN C (Ls' := #[.val (.ref a), .val (.int (1 : Int32)), .val (.int (1 : Int32)), .val (.int v1), .val (.int (0 : Int32)), .val (.int (0 : Int32))]) d4_18 (pc' := 19) rfl rfl ?_
  refine go_iconst C (0 : Int32) d4_19 (pc' := 20) rfl (by decide) ?_
  refine go_istore C (Ls' := #[.val (.ref a), .val (.int (1 : Int32)), .val (.int (1 : Int32)), .val (.int v1), .val (.int (0 : Int32)), .val (.int (0 : Int32))]) d4_20 (pc' := 22) rfl rfl ?_
  refine go_iconst C (0 : Int32) d4_22 (pc' := 23) rfl (by decide) ?_
  refine go_istore C (Ls' := #[.val (.ref a), .val (.int (1 : Int32)), .val (.int (1 : Int32)), .val (.int v1), .val (.int (0 : Int32)), .val (.int (0 : Int32))]) d4_23 (pc' := 25) rfl rfl ?_
  refine go_iload C d4_25 (pc' := 27) rfl rfl ?_
  refine go_iloadN C d4_27 (pc' := 28) rfl rfl ?_
  refine go_icmp C (0 : Int) (1 : Int) (by decide) (by decide) d4_28 (by decide) (pc' := 60) (by decide) (pcN := 31) rfl (fun (c_13 : ¬ (0 : Int) < (1 : Int)) => by omega) (fun (c_13 : (0 : Int) < (1 : Int)) => ?_)
  refine go_iload C d4_31 (pc' := 33) rfl rfl ?_
  refine go_if0 C (0 : Int) (by decide) d4_33 (by decide) (pc' := 60) (by decide) (pcN := 36) rfl (fun (c_14 : ¬ (0 : Int) = 0) => by omega) (fun (c_14 : (0 : Int) = 0) => ?_)
  refine go_aloadN C d4_36 (pc' := 37) rfl rfl rfl ?_
  refine go_getfield C (wd hw 14 rfl) F_8 d4_37 (pc' := 40) rfl ?_
  refine go_iload C d4_40 (pc' := 42) rfl rfl ?_
  refine go_iaload C A_11 0 (.int v0) (by decide) rfl d4_42 (pc' := 43) rfl ?_
  refine go_iloadN C d4_43 (pc' := 44) rfl rfl ?_
  refine go_icmp C v0.toInt v1.toInt rfl rfl d4_44 (by decide) (pc' := 51) (by decide) (pcN := 47) rfl (fun (c_15 : ¬ v0.toInt = v1.toInt) => by omega) (fun (c_15 : v0.toInt = v1.toInt) => ?_)
  refine go_iconst C (1 : Int32) d4_47 (pc' := 48) rfl (by decide) ?_
  refine go_goto C d4_48 (by decide) (pc' := 52) (by decide) ?_
  refine go_istore C (Ls' := #[.val (.ref a), .val (.int (1 : Int32)), .val (.int (1 : Int32)), .val (.int v1), .val (.int (1 : Int32)), .val (.int (0 : Int32))]) d4_52 (pc' := 54) rfl rfl ?_
  refine go_iinc C (Ls' := #[.val (.ref a), .val (.int (1 : Int32)), .val (.int (1 : Int32)), .val (.int v1), .val (.int (1 : Int32)), .val (.int ((0 : Int32) + (1 : Int32)))]) (1 : Int32) d4_54 (pc' := 57) rfl (by decide) rfl rfl ?_
  rw [(by decide : (0 : Int32) + (1 : Int32) = (1 : Int32))]
  refine go_goto C d4_57 (by decide) (pc' := 25) (by decide) ?_
  refine go_iload C d4_25 (pc' := 27) rfl rfl ?_
  refine go_iloadN C d4_27 (pc' := 28) rfl rfl ?_
  refine go_icmp C (1 : Int) (1 : Int) (by decide) (by decide) d4_28 (by decide) (pc' := 60) (by decide) (pcN := 31) rfl (fun (c_16 : ¬ (1 : Int) < (1 : Int)) => ?_) (fun (c_16 : (1 : Int) < (1 : Int)) => by omega)
  refine go_iload C d4_60 (pc' := 62) rfl rfl ?_
  refine go_if0 C (1 : Int) (by decide) d4_62 (by decide) (pc' := 75) (by decide) (pcN := 65) rfl (fun (c_17 : ¬ (1 : Int) = 0) => ?_) (fun (c_17 : (1 : Int) = 0) => by omega)
  refine go_iinc C (Ls' := #[.val (.ref a), .val (.int (1 : Int32)), .val (.int ((1 : Int32) + (1 : Int32))), .val (.int v1), .val (.int (1 : Int32)), .val (.int (1 : Int32))]) (1 : Int32) d4_75 (pc' := 78) rfl (by decide) rfl rfl ?_
  rw [(by decide : (1 : Int32) + (1 : Int32) = (2 : Int32))]
  refine go_goto C d4_78 (by decide) (pc' := 4) (by decide) ?_
  refine go_iloadN C d4_4 (pc' := 5) rfl rfl ?_
  refine go_aloadN C d4_5 (pc' := 6) rfl rfl rfl ?_
  refine go_getfield C (wd hw 21 rfl) F_9 d4_6 (pc' := 9) rfl ?_
  refine go_icmp C (2 : Int) (4 : Int) (by decide) (by decide) d4_9 (by decide) (pc' := 81) (by decide) (pcN := 12) rfl (fun (c_18 : ¬ (2 : Int) < (4 : Int)) => by omega) (fun (c_18 : (2 : Int) < (4 : Int)) => ?_)
  refine go_aloadN C d4_12 (pc' := 13) rfl rfl rfl ?_
  refine go_getfield C (wd hw 14 rfl) F_8 d4_13 (pc' := 16) rfl ?_
  refine go_iloadN C d4_16 (pc' := 17) rfl rfl ?_
  refine go_iaload C A_11 2 (.int v2) (by decide) rfl d4_17 (pc' := 18) rfl ?_
  refine go_istoreN C (Ls' := #[.val (.ref a), .val (.int (1 : Int32)), .val (.int (2 : Int32)), .val (.int v2), .val (.int (1 : Int32)), .val (.int (1 : Int32))]) d4_18 (pc' := 19) rfl rfl ?_
  refine go_iconst C (0 : Int32) d4_19 (pc' := 20) rfl (by decide) ?_
  refine go_istore C (Ls' := #[.val (.ref a), .val (.int (1 : Int32)), .val (.int (2 : Int32)), .val (.int v2), .val (.int (0 : Int32)), .val (.int (1 : Int32))]) d4_20 (pc' := 22) rfl rfl ?_
  refine go_iconst C (0 : Int32) d4_22 (pc' := 23) rfl (by decide) ?_
  refine go_istore C (Ls' := #[.val (.ref a), .val (.int (1 : Int32)), .val (.int (2 : Int32)), .val (.int v2), .val (.int (0 : Int32)), .val (.int (0 : Int32))]) d4_23 (pc' := 25) rfl rfl ?_
  refine go_iload C d4_25 (pc' := 27) rfl rfl ?_
  refine go_iloadN C d4_27 (pc' := 28) rfl rfl ?_
  refine go_icmp C (0 : Int) (1 : Int) (by decide) (by decide) d4_28 (by decide) (pc' := 60) (by decide) (pcN := 31) rfl (fun (c_19 : ¬ (0 : Int) < (1 : Int)) => by omega) (fun (c_19 : (0 : Int) < (1 : Int)) => ?_)
  refine go_iload C d4_31 (pc' := 33) rfl rfl ?_
  refine go_if0 C (0 : Int) (by decide) d4_33 (by decide) (pc' := 60) (by decide) (pcN := 36) rfl (fun (c_20 : ¬ (0 : Int) = 0) => by omega) (fun (c_20 : (0 : Int) = 0) => ?_)
  refine go_aloadN C d4_36 (pc' := 37) rfl rfl rfl ?_
  refine go_getfield C (wd hw 14 rfl) F_8 d4_37 (pc' := 40) rfl ?_
  refine go_iload C d4_40 (pc' := 42) rfl rfl ?_
  refine go_iaload C A_11 0 (.int v0) (by decide) rfl d4_42 (pc' := 43) rfl ?_
  refine go_iloadN C d4_43 (pc' := 44) rfl rfl ?_
  refine go_icmp C v0.toInt v2.toInt rfl rfl d4_44 (by decide) (pc' := 51) (by decide) (pcN := 47) rfl (fun (c_21 : ¬ v0.toInt = v2.toInt) => ?_) (fun (c_21 : v0.toInt = v2.toInt) => by omega)
  refine go_iconst C (0 : Int32) d4_51 (pc' := 52) rfl (by decide) ?_
  refine go_istore C (Ls' := #[.val (.ref a), .val (.int (1 : Int32)), .val (.int (2 : Int32)), .val (.int v2), .val (.int (0 : Int32)), .val (.int (0 : Int32))]) d4_52 (pc' := 54) rfl rfl ?_
  refine go_iinc C (Ls' := #[.val (.ref a), .val (.int (1 : Int32)), .val (.int (2 : Int32)), .val (.int v2), .val (.int (0 : Int32)), .val (.int ((0 : Int32) + (1 : Int32)))]) (1 : Int32) d4_54 (pc' := 57) rfl (by decide) rfl rfl ?_
  rw [(by decide : (0 : Int32) + (1 : Int32) = (1 : Int32))]
  refine go_goto C d4_57 (by decide) (pc' := 25) (by decide) ?_
  refine go_iload C d4_25 (pc' := 27) rfl rfl ?_
  refine go_iloadN C d4_27 (pc' := 28) rfl rfl ?_
  refine go_icmp C (1 : Int) (1 : Int) (by decide) (by decide) d4_28 (by decide) (pc' := 60) (by decide) (pcN := 31) rfl (fun (c_22 : ¬ (1 : Int) < (1 : Int)) => ?_) (fun (c_22 : (1 : Int) < (1 : Int)) => by omega)
  refine go_iload C d4_60 (pc' := 62) rfl rfl ?_
  refine go_if0 C (0 : Int) (by decide) d4_62 (by decide) (pc' := 75) (by decide) (pcN := 65) rfl (fun (c_23 : ¬ (0 : Int) = 0) => by omega) (fun (c_23 : (0 : Int) = 0) => ?_)
  refine go_aloadN C d4_65 (pc' := 66) rfl rfl rfl ?_
  refine go_getfield C (wd hw 14 rfl) F_8 d4_66 (pc' := 69) rfl ?_
  refine go_iloadN C d4_69 (pc' := 70) rfl rfl ?_
  refine go_iinc C (Ls' := #[.val (.ref a), .val (.int ((1 : Int32) + (1 : Int32))), .val (.int (2 : Int32)), .val (.int v2), .val (.int (0 : Int32)), .val (.int (1 : Int32))]) (1 : Int32) d4_70 (pc' := 73) rfl (by decide) rfl rfl ?_
  rw [(by decide : (1 : Int32) + (1 : Int32) = (2 : Int32))]
  refine go_iloadN C d4_73 (pc' := 74) rfl rfl ?_
  refine go_iastore C A_11 1 (by decide) (show 1 < 8 from by decide) gr d4_74 (pc' := 75) rfl ?_
  intro h_24 W_25 A_26
  have F_28 := Fld.other W_25 F_8 (Or.inl (own_ne_arr E_10 (wd hw 5 rfl) A_11))
  have F_29 := Fld.other W_25 F_9 (Or.inl (own_ne_arr E_10 (wd hw 5 rfl) A_11))
  have E_30 := Exa.wr W_25 E_10
  have A_31 : Av Z h_24 r .int [.int v0, .int v2, .int v2, .int v3, .int (0 : Int32), .int (0 : Int32), .int (0 : Int32), .int (0 : Int32)] := A_26
  refine go_iinc C (Ls' := #[.val (.ref a), .val (.int (2 : Int32)), .val (.int ((2 : Int32) + (1 : Int32))), .val (.int v2), .val (.int (0 : Int32)), .val (.int (1 : Int32))]) (1 : Int32) d4_75 (pc' := 78) rfl (by decide) rfl rfl ?_
  rw [(by decide : (2 : Int32) + (1 : Int32) = (3 : Int32))]
  refine go_goto C d4_78 (by decide) (pc' := 4) (by decide) ?_
  refine go_iloadN C d4_4 (pc' := 5) rfl rfl ?_
  refine go_aloadN C d4_5 (pc' := 6) rfl rfl rfl ?_
  refine go_getfield C (wd hw 21 rfl) F_29 d4_6 (pc' := 9) rfl ?_
  refine go_icmp C (3 : Int) (4 : Int) (by decide) (by decide) d4_9 (by decide) (pc' := 81) (by decide) (pcN := 12) rfl (fun (c_32 : ¬ (3 : Int) < (4 : Int)) => by omega) (fun (c_32 : (3 : Int) < (4 : Int)) => ?_)
  refine go_aloadN C d4_12 (pc' := 13) rfl rfl rfl ?_
  refine go_getfield C (wd hw 14 rfl) F_28 d4_13 (pc' := 16) rfl ?_
  refine go_iloadN C d4_16 (pc' := 17) rfl rfl ?_
  refine go_iaload C A_31 3 (.int v3) (by decide) rfl d4_17 (pc' := 18) rfl ?_
  refine go_istoreN C (Ls' := #[.val (.ref a), .val (.int (2 : Int32)), .val (.int (3 : Int32)), .val (.int v3), .val (.int (0 : Int32)), .val (.int (1 : Int32))]) d4_18 (pc' := 19) rfl rfl ?_
  refine go_iconst C (0 : Int32) d4_19 (pc' := 20) rfl (by decide) ?_
  refine go_istore C (Ls' := #[.val (.ref a), .val (.int (2 : Int32)), .val (.int (3 : Int32)), .val (.int v3), .val (.int (0 : Int32)), .val (.int (1 : Int32))]) d4_20 (pc' := 22) rfl rfl ?_
  refine go_iconst C (0 : Int32) d4_22 (pc' := 23) rfl (by decide) ?_
  refine go_istore C (Ls' := #[.val (.ref a), .val (.int (2 : Int32)), .val (.int (3 : Int32)), .val (.int v3), .val (.int (0 : Int32)), .val (.int (0 : Int32))]) d4_23 (pc' := 25) rfl rfl ?_
  refine go_iload C d4_25 (pc' := 27) rfl rfl ?_
  refine go_iloadN C d4_27 (pc' := 28) rfl rfl ?_
  refine go_icmp C (0 : Int) (2 : Int) (by decide) (by decide) d4_28 (by decide) (pc' := 60) (by decide) (pcN := 31) rfl (fun (c_33 : ¬ (0 : Int) < (2 : Int)) => by omega) (fun (c_33 : (0 : Int) < (2 : Int)) => ?_)
  refine go_iload C d4_31 (pc' := 33) rfl rfl ?_
  refine go_if0 C (0 : Int) (by decide) d4_33 (by decide) (pc' := 60) (by decide) (pcN := 36) rfl (fun (c_34 : ¬ (0 : Int) = 0) => by omega) (fun (c_34 : (0 : Int) = 0) => ?_)
  refine go_aloadN C d4_36 (pc' := 37) rfl rfl rfl ?_
  refine go_getfield C (wd hw 14 rfl) F_28 d4_37 (pc' := 40) rfl ?_
  refine go_iload C d4_40 (pc' := 42) rfl rfl ?_
  refine go_iaload C A_31 0 (.int v0) (by decide) rfl d4_42 (pc' := 43) rfl ?_
  refine go_iloadN C d4_43 (pc' := 44) rfl rfl ?_
  refine go_icmp C v0.toInt v3.toInt rfl rfl d4_44 (by decide) (pc' := 51) (by decide) (pcN := 47) rfl (fun (c_35 : ¬ v0.toInt = v3.toInt) => ?_) (fun (c_35 : v0.toInt = v3.toInt) => ?_)
  · skip
    refine go_iconst C (0 : Int32) d4_51 (pc' := 52) rfl (by decide) ?_
    refine go_istore C (Ls' := #[.val (.ref a), .val (.int (2 : Int32)), .val (.int (3 : Int32)), .val (.int v3), .val (.int (0 : Int32)), .val (.int (0 : Int32))]) d4_52 (pc' := 54) rfl rfl ?_
    refine go_iinc C (Ls' := #[.val (.ref a), .val (.int (2 : Int32)), .val (.int (3 : Int32)), .val (.int v3), .val (.int (0 : Int32)), .val (.int ((0 : Int32) + (1 : Int32)))]) (1 : Int32) d4_54 (pc' := 57) rfl (by decide) rfl rfl ?_
    rw [(by decide : (0 : Int32) + (1 : Int32) = (1 : Int32))]
    refine go_goto C d4_57 (by decide) (pc' := 25) (by decide) ?_
    refine go_iload C d4_25 (pc' := 27) rfl rfl ?_
    refine go_iloadN C d4_27 (pc' := 28) rfl rfl ?_
    refine go_icmp C (1 : Int) (2 : Int) (by decide) (by decide) d4_28 (by decide) (pc' := 60) (by decide) (pcN := 31) rfl (fun (c_36 : ¬ (1 : Int) < (2 : Int)) => by omega) (fun (c_36 : (1 : Int) < (2 : Int)) => ?_)
    refine go_iload C d4_31 (pc' := 33) rfl rfl ?_
    refine go_if0 C (0 : Int) (by decide) d4_33 (by decide) (pc' := 60) (by decide) (pcN := 36) rfl (fun (c_37 : ¬ (0 : Int) = 0) => by omega) (fun (c_37 : (0 : Int) = 0) => ?_)
    refine go_aloadN C d4_36 (pc' := 37) rfl rfl rfl ?_
    refine go_getfield C (wd hw 14 rfl) F_28 d4_37 (pc' := 40) rfl ?_
    refine go_iload C d4_40 (pc' := 42) rfl rfl ?_
    refine go_iaload C A_31 1 (.int v2) (by decide) rfl d4_42 (pc' := 43) rfl ?_
    refine go_iloadN C d4_43 (pc' := 44) rfl rfl ?_
    refine go_icmp C v2.toInt v3.toInt rfl rfl d4_44 (by decide) (pc' := 51) (by decide) (pcN := 47) rfl (fun (c_38 : ¬ v2.toInt = v3.toInt) => by omega) (fun (c_38 : v2.toInt = v3.toInt) => ?_)
    refine go_iconst C (1 : Int32) d4_47 (pc' := 48) rfl (by decide) ?_
    refine go_goto C d4_48 (by decide) (pc' := 52) (by decide) ?_
    refine go_istore C (Ls' := #[.val (.ref a), .val (.int (2 : Int32)), .val (.int (3 : Int32)), .val (.int v3), .val (.int (1 : Int32)), .val (.int (1 : Int32))]) d4_52 (pc' := 54) rfl rfl ?_
    refine go_iinc C (Ls' := #[.val (.ref a), .val (.int (2 : Int32)), .val (.int (3 : Int32)), .val (.int v3), .val (.int (1 : Int32)), .val (.int ((1 : Int32) + (1 : Int32)))]) (1 : Int32) d4_54 (pc' := 57) rfl (by decide) rfl rfl ?_
    rw [(by decide : (1 : Int32) + (1 : Int32) = (2 : Int32))]
    refine go_goto C d4_57 (by decide) (pc' := 25) (by decide) ?_
    refine go_iload C d4_25 (pc' := 27) rfl rfl ?_
    refine go_iloadN C d4_27 (pc' := 28) rfl rfl ?_
    refine go_icmp C (2 : Int) (2 : Int) (by decide) (by decide) d4_28 (by decide) (pc' := 60) (by decide) (pcN := 31) rfl (fun (c_39 : ¬ (2 : Int) < (2 : Int)) => ?_) (fun (c_39 : (2 : Int) < (2 : Int)) => by omega)
    refine go_iload C d4_60 (pc' := 62) rfl rfl ?_
    refine go_if0 C (1 : Int) (by decide) d4_62 (by decide) (pc' := 75) (by decide) (pcN := 65) rfl (fun (c_40 : ¬ (1 : Int) = 0) => ?_) (fun (c_40 : (1 : Int) = 0) => by omega)
    refine go_iinc C (Ls' := #[.val (.ref a), .val (.int (2 : Int32)), .val (.int ((3 : Int32) + (1 : Int32))), .val (.int v3), .val (.int (1 : Int32)), .val (.int (2 : Int32))]) (1 : Int32) d4_75 (pc' := 78) rfl (by decide) rfl rfl ?_
    rw [(by decide : (3 : Int32) + (1 : Int32) = (4 : Int32))]
    refine go_goto C d4_78 (by decide) (pc' := 4) (by decide) ?_
    refine go_iloadN C d4_4 (pc' := 5) rfl rfl ?_
    refine go_aloadN C d4_5 (pc' := 6) rfl rfl rfl ?_
    refine go_getfield C (wd hw 21 rfl) F_29 d4_6 (pc' := 9) rfl ?_
    refine go_icmp C (4 : Int) (4 : Int) (by decide) (by decide) d4_9 (by decide) (pc' := 81) (by decide) (pcN := 12) rfl (fun (c_41 : ¬ (4 : Int) < (4 : Int)) => ?_) (fun (c_41 : (4 : Int) < (4 : Int)) => by omega)
    refine go_aloadN C d4_81 (pc' := 82) rfl rfl rfl ?_
    refine go_iloadN C d4_82 (pc' := 83) rfl rfl ?_
    refine go_putfield C (wd hw 21 rfl) F_29 E_30 (Or.inl (wd hw 22 rfl)) (wd hw 5 rfl) (ty := .int) (by decide) rfl rfl ga d4_83 (pc' := 86) rfl ?_
    intro h_42 W_43
    have F_44 := Fld.other W_43 F_28 (Or.inr (slot_ne (a0 := a0) (Or.inl (wd hw 15 rfl)) (Or.inl (wd hw 22 rfl)) (by decide) (t := (.array .int)) (t' := .int) (by decide) (by decide)))
    have F_45 := Fld.same W_43 F_29
    have E_46 := Exa.wr W_43 E_30
    have A_47 := Av.other A_31 W_43 (Ne.symm (own_ne_arr E_30 (wd hw 5 rfl) A_31))
    refine go_return C rfl d4_86 (by decide) (by decide) ?_
    exact ⟨rfl, E_46, F_44, F_45, A_47⟩
  · skip
    refine go_iconst C (1 : Int32) d4_47 (pc' := 48) rfl (by decide) ?_
    refine go_goto C d4_48 (by decide) (pc' := 52) (by decide) ?_
    refine go_istore C (Ls' := #[.val (.ref a), .val (.int (2 : Int32)), .val (.int (3 : Int32)), .val (.int v3), .val (.int (1 : Int32)), .val (.int (0 : Int32))]) d4_52 (pc' := 54) rfl rfl ?_
    refine go_iinc C (Ls' := #[.val (.ref a), .val (.int (2 : Int32)), .val (.int (3 : Int32)), .val (.int v3), .val (.int (1 : Int32)), .val (.int ((0 : Int32) + (1 : Int32)))]) (1 : Int32) d4_54 (pc' := 57) rfl (by decide) rfl rfl ?_
    rw [(by decide : (0 : Int32) + (1 : Int32) = (1 : Int32))]
    refine go_goto C d4_57 (by decide) (pc' := 25) (by decide) ?_
    refine go_iload C d4_25 (pc' := 27) rfl rfl ?_
    refine go_iloadN C d4_27 (pc' := 28) rfl rfl ?_
    refine go_icmp C (1 : Int) (2 : Int) (by decide) (by decide) d4_28 (by decide) (pc' := 60) (by decide) (pcN := 31) rfl (fun (c_48 : ¬ (1 : Int) < (2 : Int)) => by omega) (fun (c_48 : (1 : Int) < (2 : Int)) => ?_)
    refine go_iload C d4_31 (pc' := 33) rfl rfl ?_
    refine go_if0 C (1 : Int) (by decide) d4_33 (by decide) (pc' := 60) (by decide) (pcN := 36) rfl (fun (c_49 : ¬ (1 : Int) = 0) => ?_) (fun (c_49 : (1 : Int) = 0) => by omega)
    refine go_iload C d4_60 (pc' := 62) rfl rfl ?_
    refine go_if0 C (1 : Int) (by decide) d4_62 (by decide) (pc' := 75) (by decide) (pcN := 65) rfl (fun (c_50 : ¬ (1 : Int) = 0) => ?_) (fun (c_50 : (1 : Int) = 0) => by omega)
    refine go_iinc C (Ls' := #[.val (.ref a), .val (.int (2 : Int32)), .val (.int ((3 : Int32) + (1 : Int32))), .val (.int v3), .val (.int (1 : Int32)), .val (.int (1 : Int32))]) (1 : Int32) d4_75 (pc' := 78) rfl (by decide) rfl rfl ?_
    rw [(by decide : (3 : Int32) + (1 : Int32) = (4 : Int32))]
    refine go_goto C d4_78 (by decide) (pc' := 4) (by decide) ?_
    refine go_iloadN C d4_4 (pc' := 5) rfl rfl ?_
    refine go_aloadN C d4_5 (pc' := 6) rfl rfl rfl ?_
    refine go_getfield C (wd hw 21 rfl) F_29 d4_6 (pc' := 9) rfl ?_
    refine go_icmp C (4 : Int) (4 : Int) (by decide) (by decide) d4_9 (by decide) (pc' := 81) (by decide) (pcN := 12) rfl (fun (c_51 : ¬ (4 : Int) < (4 : Int)) => ?_) (fun (c_51 : (4 : Int) < (4 : Int)) => by omega)
    refine go_aloadN C d4_81 (pc' := 82) rfl rfl rfl ?_
    refine go_iloadN C d4_82 (pc' := 83) rfl rfl ?_
    refine go_putfield C (wd hw 21 rfl) F_29 E_30 (Or.inl (wd hw 22 rfl)) (wd hw 5 rfl) (ty := .int) (by decide) rfl rfl ga d4_83 (pc' := 86) rfl ?_
    intro h_52 W_53
    have F_54 := Fld.other W_53 F_28 (Or.inr (slot_ne (a0 := a0) (Or.inl (wd hw 15 rfl)) (Or.inl (wd hw 22 rfl)) (by decide) (t := (.array .int)) (t' := .int) (by decide) (by decide)))
    have F_55 := Fld.same W_53 F_29
    have E_56 := Exa.wr W_53 E_30
    have A_57 := Av.other A_31 W_53 (Ne.symm (own_ne_arr E_30 (wd hw 5 rfl) A_31))
    refine go_return C rfl d4_86 (by decide) (by decide) ?_
    exact ⟨rfl, E_56, F_54, F_55, A_57⟩
set_option maxRecDepth 65536 in
set_option maxHeartbeats 40000000 in
theorem sat_rd4fft (l : Launch) (Z : State) (a0 : Array Value) (hw : ∀ d ∈ tables_1, d.before a0 Z = true) (a r : Addr) (v0 v1 v2 v3 : Int32) (h0 : Heap) (n0 : Nat) (hf1 : v1.toInt = v0.toInt) (hf2 : v2.toInt = v0.toInt ∨ v2.toInt = v1.toInt) (hf3 : ¬ v3.toInt = v0.toInt ∧ ¬ v3.toInt = v1.toInt ∧ ¬ v3.toInt = v2.toInt) (E1 : Exa Z h0 a "com/example/inevitable_path/inevitablepath/smv/IntList") (F1 : Fld Z h0 a "com/example/inevitable_path/inevitablepath/smv/IntList" "values" "[I" (.ref r)) (F2 : Fld Z h0 a "com/example/inevitable_path/inevitablepath/smv/IntList" "size" "I" (.int (4 : Int32))) (A1 : Av Z h0 r .int [.int v0, .int v1, .int v2, .int v3, .int (0 : Int32), .int (0 : Int32), .int (0 : Int32), .int (0 : Int32)]) (ga : n0 ≤ a) (gr : n0 ≤ r) :
    Sat l Z (⟨"com/example/inevitable_path/inevitablepath/smv/IntList", "removeDuplicates", "()V"⟩ : MethodName) prog_60_method_10_code 6 none ({ frames := 0, cells := 0, slots := 0, locals := 0 } : Room) [.ref a] h0 n0 (RN fun h => Exa Z h a "com/example/inevitable_path/inevitablepath/smv/IntList" ∧ Fld Z h a "com/example/inevitable_path/inevitablepath/smv/IntList" "values" "[I" (.ref r) ∧ Fld Z h a "com/example/inevitable_path/inevitablepath/smv/IntList" "size" "I" (.int (2 : Int32)) ∧ Av Z h r .int [.int v0, .int v3, .int v2, .int v3, .int (0 : Int32), .int (0 : Int32), .int (0 : Int32), .int (0 : Int32)]) := by
  refine sat_of (own := "com/example/inevitable_path/inevitablepath/smv/IntList") (nm := "removeDuplicates") rfl rfl (plainFor_of_name pn_1) #[.val (.ref a), .unset, .unset, .unset, .unset, .unset] (fun m => by first | (simp [entryFrame, mkF, argsToLocals, Value.category, maxLocals]; done) | rfl) ?_
  intro p e s m below meth c C
  refine go_iconst C (0 : Int32) d4_0 (pc' := 1) rfl (by decide) ?_
  refine go_istoreN C (Ls' := #[.val (.ref a), .val (.int (0 : Int32)), .unset, .unset, .unset, .unset]) d4_1 (pc' := 2) rfl rfl ?_
  refine go_iconst C (0 : Int32) d4_2 (pc' := 3) rfl (by decide) ?_
  refine go_istoreN C (Ls' := #[.val (.ref a), .val (.int (0 : Int32)), .val (.int (0 : Int32)), .unset, .unset, .unset]) d4_3 (pc' := 4) rfl rfl ?_
  refine go_iloadN C d4_4 (pc' := 5) rfl rfl ?_
  refine go_aloadN C d4_5 (pc' := 6) rfl rfl rfl ?_
  refine go_getfield C (wd hw 21 rfl) F2 d4_6 (pc' := 9) rfl ?_
  refine go_icmp C (0 : Int) (4 : Int) (by decide) (by decide) d4_9 (by decide) (pc' := 81) (by decide) (pcN := 12) rfl (fun (c_1 : ¬ (0 : Int) < (4 : Int)) => by omega) (fun (c_1 : (0 : Int) < (4 : Int)) => ?_)
  refine go_aloadN C d4_12 (pc' := 13) rfl rfl rfl ?_
  refine go_getfield C (wd hw 14 rfl) F1 d4_13 (pc' := 16) rfl ?_
  refine go_iloadN C d4_16 (pc' := 17) rfl rfl ?_
  refine go_iaload C A1 0 (.int v0) (by decide) rfl d4_17 (pc' := 18) rfl ?_
  refine go_istoreN C (Ls' := #[.val (.ref a), .val (.int (0 : Int32)), .val (.int (0 : Int32)), .val (.int v0), .unset, .unset]) d4_18 (pc' := 19) rfl rfl ?_
  refine go_iconst C (0 : Int32) d4_19 (pc' := 20) rfl (by decide) ?_
  refine go_istore C (Ls' := #[.val (.ref a), .val (.int (0 : Int32)), .val (.int (0 : Int32)), .val (.int v0), .val (.int (0 : Int32)), .unset]) d4_20 (pc' := 22) rfl rfl ?_
  refine go_iconst C (0 : Int32) d4_22 (pc' := 23) rfl (by decide) ?_
  refine go_istore C (Ls' := #[.val (.ref a), .val (.int (0 : Int32)), .val (.int (0 : Int32)), .val (.int v0), .val (.int (0 : Int32)), .val (.int (0 : Int32))]) d4_23 (pc' := 25) rfl rfl ?_
  refine go_iload C d4_25 (pc' := 27) rfl rfl ?_
  refine go_iloadN C d4_27 (pc' := 28) rfl rfl ?_
  refine go_icmp C (0 : Int) (0 : Int) (by decide) (by decide) d4_28 (by decide) (pc' := 60) (by decide) (pcN := 31) rfl (fun (c_2 : ¬ (0 : Int) < (0 : Int)) => ?_) (fun (c_2 : (0 : Int) < (0 : Int)) => by omega)
  refine go_iload C d4_60 (pc' := 62) rfl rfl ?_
  refine go_if0 C (0 : Int) (by decide) d4_62 (by decide) (pc' := 75) (by decide) (pcN := 65) rfl (fun (c_3 : ¬ (0 : Int) = 0) => by omega) (fun (c_3 : (0 : Int) = 0) => ?_)
  refine go_aloadN C d4_65 (pc' := 66) rfl rfl rfl ?_
  refine go_getfield C (wd hw 14 rfl) F1 d4_66 (pc' := 69) rfl ?_
  refine go_iloadN C d4_69 (pc' := 70) rfl rfl ?_
  refine go_iinc C (Ls' := #[.val (.ref a), .val (.int ((0 : Int32) + (1 : Int32))), .val (.int (0 : Int32)), .val (.int v0), .val (.int (0 : Int32)), .val (.int (0 : Int32))]) (1 : Int32) d4_70 (pc' := 73) rfl (by decide) rfl rfl ?_
  rw [(by decide : (0 : Int32) + (1 : Int32) = (1 : Int32))]
  refine go_iloadN C d4_73 (pc' := 74) rfl rfl ?_
  refine go_iastore C A1 0 (by decide) (show 0 < 8 from by decide) gr d4_74 (pc' := 75) rfl ?_
  intro h_4 W_5 A_6
  have F_8 := Fld.other W_5 F1 (Or.inl (own_ne_arr E1 (wd hw 5 rfl) A1))
  have F_9 := Fld.other W_5 F2 (Or.inl (own_ne_arr E1 (wd hw 5 rfl) A1))
  have E_10 := Exa.wr W_5 E1
  have A_11 : Av Z h_4 r .int [.int v0, .int v1, .int v2, .int v3, .int (0 : Int32), .int (0 : Int32), .int (0 : Int32), .int (0 : Int32)] := A_6
  refine go_iinc C (Ls' := #[.val (.ref a), .val (.int (1 : Int32)), .val (.int ((0 : Int32) + (1 : Int32))), .val (.int v0), .val (.int (0 : Int32)), .val (.int (0 : Int32))]) (1 : Int32) d4_75 (pc' := 78) rfl (by decide) rfl rfl ?_
  rw [(by decide : (0 : Int32) + (1 : Int32) = (1 : Int32))]
  refine go_goto C d4_78 (by decide) (pc' := 4) (by decide) ?_
  refine go_iloadN C d4_4 (pc' := 5) rfl rfl ?_
  refine go_aloadN C d4_5 (pc' := 6) rfl rfl rfl ?_
  refine go_getfield C (wd hw 21 rfl) F_9 d4_6 (pc' := 9) rfl ?_
  refine go_icmp C (1 : Int) (4 : Int) (by decide) (by decide) d4_9 (by decide) (pc' := 81) (by decide) (pcN := 12) rfl (fun (c_12 : ¬ (1 : Int) < (4 : Int)) => by omega) (fun (c_12 : (1 : Int) < (4 : Int)) => ?_)
  refine go_aloadN C d4_12 (pc' := 13) rfl rfl rfl ?_
  refine go_getfield C (wd hw 14 rfl) F_8 d4_13 (pc' := 16) rfl ?_
  refine go_iloadN C d4_16 (pc' := 17) rfl rfl ?_
  refine go_iaload C A_11 1 (.int v1) (by decide) rfl d4_17 (pc' := 18) rfl ?_
  refine go_istoreN C (Ls' := #[.val (.ref a), .val (.int (1 : Int32)), .val (.int (1 : Int32)), .val (.int v1), .val (.int (0 : Int32)), .val (.int (0 : Int32))]) d4_18 (pc' := 19) rfl rfl ?_
  refine go_iconst C (0 : Int32) d4_19 (pc' := 20) rfl (by decide) ?_
  refine go_istore C (Ls' := #[.val (.ref a), .val (.int (1 : Int32)), .val (.int (1 : Int32)), .val (.int v1), .val (.int (0 : Int32)), .val (.int (0 : Int32))]) d4_20 (pc' := 22) rfl rfl ?_
  refine go_iconst C (0 : Int32) d4_22 (pc' := 23) rfl (by decide) ?_
  refine go_istore C (Ls' := #[.val (.ref a), .val (.int (1 : Int32)), .val (.int (1 : Int32)), .val (.int v1), .val (.int (0 : Int32)), .val (.int (0 : Int32))]) d4_23 (pc' := 25) rfl rfl ?_
  refine go_iload C d4_25 (pc' := 27) rfl rfl ?_
  refine go_iloadN C d4_27 (pc' := 28) rfl rfl ?_
  refine go_icmp C (0 : Int) (1 : Int) (by decide) (by decide) d4_28 (by decide) (pc' := 60) (by decide) (pcN := 31) rfl (fun (c_13 : ¬ (0 : Int) < (1 : Int)) => by omega) (fun (c_13 : (0 : Int) < (1 : Int)) => ?_)
  refine go_iload C d4_31 (pc' := 33) rfl rfl ?_
  refine go_if0 C (0 : Int) (by decide) d4_33 (by decide) (pc' := 60) (by decide) (pcN := 36) rfl (fun (c_14 : ¬ (0 : Int) = 0) => by omega) (fun (c_14 : (0 : Int) = 0) => ?_)
  refine go_aloadN C d4_36 (pc' := 37) rfl rfl rfl ?_
  refine go_getfield C (wd hw 14 rfl) F_8 d4_37 (pc' := 40) rfl ?_
  refine go_iload C d4_40 (pc' := 42) rfl rfl ?_
  refine go_iaload C A_11 0 (.int v0) (by decide) rfl d4_42 (pc' := 43) rfl ?_
  refine go_iloadN C d4_43 (pc' := 44) rfl rfl ?_
  refine go_icmp C v0.toInt v1.toInt rfl rfl d4_44 (by decide) (pc' := 51) (by decide) (pcN := 47) rfl (fun (c_15 : ¬ v0.toInt = v1.toInt) => by omega) (fun (c_15 : v0.toInt = v1.toInt) => ?_)
  refine go_iconst C (1 : Int32) d4_47 (pc' := 48) rfl (by decide) ?_
  refine go_goto C d4_48 (by decide) (pc' := 52) (by decide) ?_
  refine go_istore C (Ls' := #[.val (.ref a), .val (.int (1 : Int32)), .val (.int (1 : Int32)), .val (.int v1), .val (.int (1 : Int32)), .val (.int (0 : Int32))]) d4_52 (pc' := 54) rfl rfl ?_
  refine go_iinc C (Ls' := #[.val (.ref a), .val (.int (1 : Int32)), .val (.int (1 : Int32)), .val (.int v1), .val (.int (1 : Int32)), .val (.int ((0 : Int32) + (1 : Int32)))]) (1 : Int32) d4_54 (pc' := 57) rfl (by decide) rfl rfl ?_
  rw [(by decide : (0 : Int32) + (1 : Int32) = (1 : Int32))]
  refine go_goto C d4_57 (by decide) (pc' := 25) (by decide) ?_
  refine go_iload C d4_25 (pc' := 27) rfl rfl ?_
  refine go_iloadN C d4_27 (pc' := 28) rfl rfl ?_
  refine go_icmp C (1 : Int) (1 : Int) (by decide) (by decide) d4_28 (by decide) (pc' := 60) (by decide) (pcN := 31) rfl (fun (c_16 : ¬ (1 : Int) < (1 : Int)) => ?_) (fun (c_16 : (1 : Int) < (1 : Int)) => by omega)
  refine go_iload C d4_60 (pc' := 62) rfl rfl ?_
  refine go_if0 C (1 : Int) (by decide) d4_62 (by decide) (pc' := 75) (by decide) (pcN := 65) rfl (fun (c_17 : ¬ (1 : Int) = 0) => ?_) (fun (c_17 : (1 : Int) = 0) => by omega)
  refine go_iinc C (Ls' := #[.val (.ref a), .val (.int (1 : Int32)), .val (.int ((1 : Int32) + (1 : Int32))), .val (.int v1), .val (.int (1 : Int32)), .val (.int (1 : Int32))]) (1 : Int32) d4_75 (pc' := 78) rfl (by decide) rfl rfl ?_
  rw [(by decide : (1 : Int32) + (1 : Int32) = (2 : Int32))]
  refine go_goto C d4_78 (by decide) (pc' := 4) (by decide) ?_
  refine go_iloadN C d4_4 (pc' := 5) rfl rfl ?_
  refine go_aloadN C d4_5 (pc' := 6) rfl rfl rfl ?_
  refine go_getfield C (wd hw 21 rfl) F_9 d4_6 (pc' := 9) rfl ?_
  refine go_icmp C (2 : Int) (4 : Int) (by decide) (by decide) d4_9 (by decide) (pc' := 81) (by decide) (pcN := 12) rfl (fun (c_18 : ¬ (2 : Int) < (4 : Int)) => by omega) (fun (c_18 : (2 : Int) < (4 : Int)) => ?_)
  refine go_aloadN C d4_12 (pc' := 13) rfl rfl rfl ?_
  refine go_getfield C (wd hw 14 rfl) F_8 d4_13 (pc' := 16) rfl ?_
  refine go_iloadN C d4_16 (pc' := 17) rfl rfl ?_
  refine go_iaload C A_11 2 (.int v2) (by decide) rfl d4_17 (pc' := 18) rfl ?_
  refine go_istoreN C (Ls' := #[.val (.ref a), .val (.int (1 : Int32)), .val (.int (2 : Int32)), .val (.int v2), .val (.int (1 : Int32)), .val (.int (1 : Int32))]) d4_18 (pc' := 19) rfl rfl ?_
  refine go_iconst C (0 : Int32) d4_19 (pc' := 20) rfl (by decide) ?_
  refine go_istore C (Ls' := #[.val (.ref a), .val (.int (1 : Int32)), .val (.int (2 : Int32)), .val (.int v2), .val (.int (0 : Int32)), .val (.int (1 : Int32))]) d4_20 (pc' := 22) rfl rfl ?_
  refine go_iconst C (0 : Int32) d4_22 (pc' := 23) rfl (by decide) ?_
  refine go_istore C (Ls' := #[.val (.ref a), .val (.int (1 : Int32)), .val (.int (2 : Int32)), .val (.int v2), .val (.int (0 : Int32)), .val (.int (0 : Int32))]) d4_23 (pc' := 25) rfl rfl ?_
  refine go_iload C d4_25 (pc' := 27) rfl rfl ?_
  refine go_iloadN C d4_27 (pc' := 28) rfl rfl ?_
  refine go_icmp C (0 : Int) (1 : Int) (by decide) (by decide) d4_28 (by decide) (pc' := 60) (by decide) (pcN := 31) rfl (fun (c_19 : ¬ (0 : Int) < (1 : Int)) => by omega) (fun (c_19 : (0 : Int) < (1 : Int)) => ?_)
  refine go_iload C d4_31 (pc' := 33) rfl rfl ?_
  refine go_if0 C (0 : Int) (by decide) d4_33 (by decide) (pc' := 60) (by decide) (pcN := 36) rfl (fun (c_20 : ¬ (0 : Int) = 0) => by omega) (fun (c_20 : (0 : Int) = 0) => ?_)
  refine go_aloadN C d4_36 (pc' := 37) rfl rfl rfl ?_
  refine go_getfield C (wd hw 14 rfl) F_8 d4_37 (pc' := 40) rfl ?_
  refine go_iload C d4_40 (pc' := 42) rfl rfl ?_
  refine go_iaload C A_11 0 (.int v0) (by decide) rfl d4_42 (pc' := 43) rfl ?_
  refine go_iloadN C d4_43 (pc' := 44) rfl rfl ?_
  refine go_icmp C v0.toInt v2.toInt rfl rfl d4_44 (by decide) (pc' := 51) (by decide) (pcN := 47) rfl (fun (c_21 : ¬ v0.toInt = v2.toInt) => by omega) (fun (c_21 : v0.toInt = v2.toInt) => ?_)
  refine go_iconst C (1 : Int32) d4_47 (pc' := 48) rfl (by decide) ?_
  refine go_goto C d4_48 (by decide) (pc' := 52) (by decide) ?_
  refine go_istore C (Ls' := #[.val (.ref a), .val (.int (1 : Int32)), .val (.int (2 : Int32)), .val (.int v2), .val (.int (1 : Int32)), .val (.int (0 : Int32))]) d4_52 (pc' := 54) rfl rfl ?_
  refine go_iinc C (Ls' := #[.val (.ref a), .val (.int (1 : Int32)), .val (.int (2 : Int32)), .val (.int v2), .val (.int (1 : Int32)), .val (.int ((0 : Int32) + (1 : Int32)))]) (1 : Int32) d4_54 (pc' := 57) rfl (by decide) rfl rfl ?_
  rw [(by decide : (0 : Int32) + (1 : Int32) = (1 : Int32))]
  refine go_goto C d4_57 (by decide) (pc' := 25) (by decide) ?_
  refine go_iload C d4_25 (pc' := 27) rfl rfl ?_
  refine go_iloadN C d4_27 (pc' := 28) rfl rfl ?_
  refine go_icmp C (1 : Int) (1 : Int) (by decide) (by decide) d4_28 (by decide) (pc' := 60) (by decide) (pcN := 31) rfl (fun (c_22 : ¬ (1 : Int) < (1 : Int)) => ?_) (fun (c_22 : (1 : Int) < (1 : Int)) => by omega)
  refine go_iload C d4_60 (pc' := 62) rfl rfl ?_
  refine go_if0 C (1 : Int) (by decide) d4_62 (by decide) (pc' := 75) (by decide) (pcN := 65) rfl (fun (c_23 : ¬ (1 : Int) = 0) => ?_) (fun (c_23 : (1 : Int) = 0) => by omega)
  refine go_iinc C (Ls' := #[.val (.ref a), .val (.int (1 : Int32)), .val (.int ((2 : Int32) + (1 : Int32))), .val (.int v2), .val (.int (1 : Int32)), .val (.int (1 : Int32))]) (1 : Int32) d4_75 (pc' := 78) rfl (by decide) rfl rfl ?_
  rw [(by decide : (2 : Int32) + (1 : Int32) = (3 : Int32))]
  refine go_goto C d4_78 (by decide) (pc' := 4) (by decide) ?_
  refine go_iloadN C d4_4 (pc' := 5) rfl rfl ?_
  refine go_aloadN C d4_5 (pc' := 6) rfl rfl rfl ?_
  refine go_getfield C (wd hw 21 rfl) F_9 d4_6 (pc' := 9) rfl ?_
  refine go_icmp C (3 : Int) (4 : Int) (by decide) (by decide) d4_9 (by decide) (pc' := 81) (by decide) (pcN := 12) rfl (fun (c_24 : ¬ (3 : Int) < (4 : Int)) => by omega) (fun (c_24 : (3 : Int) < (4 : Int)) => ?_)
  refine go_aloadN C d4_12 (pc' := 13) rfl rfl rfl ?_
  refine go_getfield C (wd hw 14 rfl) F_8 d4_13 (pc' := 16) rfl ?_
  refine go_iloadN C d4_16 (pc' := 17) rfl rfl ?_
  refine go_iaload C A_11 3 (.int v3) (by decide) rfl d4_17 (pc' := 18) rfl ?_
  refine go_istoreN C (Ls' := #[.val (.ref a), .val (.int (1 : Int32)), .val (.int (3 : Int32)), .val (.int v3), .val (.int (1 : Int32)), .val (.int (1 : Int32))]) d4_18 (pc' := 19) rfl rfl ?_
  refine go_iconst C (0 : Int32) d4_19 (pc' := 20) rfl (by decide) ?_
  refine go_istore C (Ls' := #[.val (.ref a), .val (.int (1 : Int32)), .val (.int (3 : Int32)), .val (.int v3), .val (.int (0 : Int32)), .val (.int (1 : Int32))]) d4_20 (pc' := 22) rfl rfl ?_
  refine go_iconst C (0 : Int32) d4_22 (pc' := 23) rfl (by decide) ?_
  refine go_istore C (Ls' := #[.val (.ref a), .val (.int (1 : Int32)), .val (.int (3 : Int32)), .val (.int v3), .val (.int (0 : Int32)), .val (.int (0 : Int32))]) d4_23 (pc' := 25) rfl rfl ?_
  refine go_iload C d4_25 (pc' := 27) rfl rfl ?_
  refine go_iloadN C d4_27 (pc' := 28) rfl rfl ?_
  refine go_icmp C (0 : Int) (1 : Int) (by decide) (by decide) d4_28 (by decide) (pc' := 60) (by decide) (pcN := 31) rfl (fun (c_25 : ¬ (0 : Int) < (1 : Int)) => by omega) (fun (c_25 : (0 : Int) < (1 : Int)) => ?_)
  refine go_iload C d4_31 (pc' := 33) rfl rfl ?_
  refine go_if0 C (0 : Int) (by decide) d4_33 (by decide) (pc' := 60) (by decide) (pcN := 36) rfl (fun (c_26 : ¬ (0 : Int) = 0) => by omega) (fun (c_26 : (0 : Int) = 0) => ?_)
  refine go_aloadN C d4_36 (pc' := 37) rfl rfl rfl ?_
  refine go_getfield C (wd hw 14 rfl) F_8 d4_37 (pc' := 40) rfl ?_
  refine go_iload C d4_40 (pc' := 42) rfl rfl ?_
  refine go_iaload C A_11 0 (.int v0) (by decide) rfl d4_42 (pc' := 43) rfl ?_
  refine go_iloadN C d4_43 (pc' := 44) rfl rfl ?_
  refine go_icmp C v0.toInt v3.toInt rfl rfl d4_44 (by decide) (pc' := 51) (by decide) (pcN := 47) rfl (fun (c_27 : ¬ v0.toInt = v3.toInt) => ?_) (fun (c_27 : v0.toInt = v3.toInt) => by omega)
  refine go_iconst C (0 : Int32) d4_51 (pc' := 52) rfl (by decide) ?_
  refine go_istore C (Ls' := #[.val (.ref a), .val (.int (1 : Int32)), .val (.int (3 : Int32)), .val (.int v3), .val (.int (0 : Int32)), .val (.int (0 : Int32))]) d4_52 (pc' := 54) rfl rfl ?_
  refine go_iinc C (Ls' := #[.val (.ref a), .val (.int (1 : Int32)), .val (.int (3 : Int32)), .val (.int v3), .val (.int (0 : Int32)), .val (.int ((0 : Int32) + (1 : Int32)))]) (1 : Int32) d4_54 (pc' := 57) rfl (by decide) rfl rfl ?_
  rw [(by decide : (0 : Int32) + (1 : Int32) = (1 : Int32))]
  refine go_goto C d4_57 (by decide) (pc' := 25) (by decide) ?_
  refine go_iload C d4_25 (pc' := 27) rfl rfl ?_
  refine go_iloadN C d4_27 (pc' := 28) rfl rfl ?_
  refine go_icmp C (1 : Int) (1 : Int) (by decide) (by decide) d4_28 (by decide) (pc' := 60) (by decide) (pcN := 31) rfl (fun (c_28 : ¬ (1 : Int) < (1 : Int)) => ?_) (fun (c_28 : (1 : Int) < (1 : Int)) => by omega)
  refine go_iload C d4_60 (pc' := 62) rfl rfl ?_
  refine go_if0 C (0 : Int) (by decide) d4_62 (by decide) (pc' := 75) (by decide) (pcN := 65) rfl (fun (c_29 : ¬ (0 : Int) = 0) => by omega) (fun (c_29 : (0 : Int) = 0) => ?_)
  refine go_aloadN C d4_65 (pc' := 66) rfl rfl rfl ?_
  refine go_getfield C (wd hw 14 rfl) F_8 d4_66 (pc' := 69) rfl ?_
  refine go_iloadN C d4_69 (pc' := 70) rfl rfl ?_
  refine go_iinc C (Ls' := #[.val (.ref a), .val (.int ((1 : Int32) + (1 : Int32))), .val (.int (3 : Int32)), .val (.int v3), .val (.int (0 : Int32)), .val (.int (1 : Int32))]) (1 : Int32) d4_70 (pc' := 73) rfl (by decide) rfl rfl ?_
  rw [(by decide : (1 : Int32) + (1 : Int32) = (2 : Int32))]
  refine go_iloadN C d4_73 (pc' := 74) rfl rfl ?_
  refine go_iastore C A_11 1 (by decide) (show 1 < 8 from by decide) gr d4_74 (pc' := 75) rfl ?_
  intro h_30 W_31 A_32
  have F_34 := Fld.other W_31 F_8 (Or.inl (own_ne_arr E_10 (wd hw 5 rfl) A_11))
  have F_35 := Fld.other W_31 F_9 (Or.inl (own_ne_arr E_10 (wd hw 5 rfl) A_11))
  have E_36 := Exa.wr W_31 E_10
  have A_37 : Av Z h_30 r .int [.int v0, .int v3, .int v2, .int v3, .int (0 : Int32), .int (0 : Int32), .int (0 : Int32), .int (0 : Int32)] := A_32
  refine go_iinc C (Ls' := #[.val (.ref a), .val (.int (2 : Int32)), .val (.int ((3 : Int32) + (1 : Int32))), .val (.int v3), .val (.int (0 : Int32)), .val (.int (1 : Int32))]) (1 : Int32) d4_75 (pc' := 78) rfl (by decide) rfl rfl ?_
  rw [(by decide : (3 : Int32) + (1 : Int32) = (4 : Int32))]
  refine go_goto C d4_78 (by decide) (pc' := 4) (by decide) ?_
  refine go_iloadN C d4_4 (pc' := 5) rfl rfl ?_
  refine go_aloadN C d4_5 (pc' := 6) rfl rfl rfl ?_
  refine go_getfield C (wd hw 21 rfl) F_35 d4_6 (pc' := 9) rfl ?_
  refine go_icmp C (4 : Int) (4 : Int) (by decide) (by decide) d4_9 (by decide) (pc' := 81) (by decide) (pcN := 12) rfl (fun (c_38 : ¬ (4 : Int) < (4 : Int)) => ?_) (fun (c_38 : (4 : Int) < (4 : Int)) => by omega)
  refine go_aloadN C d4_81 (pc' := 82) rfl rfl rfl ?_
  refine go_iloadN C d4_82 (pc' := 83) rfl rfl ?_
  refine go_putfield C (wd hw 21 rfl) F_35 E_36 (Or.inl (wd hw 22 rfl)) (wd hw 5 rfl) (ty := .int) (by decide) rfl rfl ga d4_83 (pc' := 86) rfl ?_
  intro h_39 W_40
  have F_41 := Fld.other W_40 F_34 (Or.inr (slot_ne (a0 := a0) (Or.inl (wd hw 15 rfl)) (Or.inl (wd hw 22 rfl)) (by decide) (t := (.array .int)) (t' := .int) (by decide) (by decide)))
  have F_42 := Fld.same W_40 F_35
  have E_43 := Exa.wr W_40 E_36
  have A_44 := Av.other A_37 W_40 (Ne.symm (own_ne_arr E_36 (wd hw 5 rfl) A_37))
  refine go_return C rfl d4_86 (by decide) (by decide) ?_
  exact ⟨rfl, E_43, F_41, F_42, A_44⟩
set_option maxRecDepth 65536 in
set_option maxHeartbeats 40000000 in
theorem sat_rd4fff (l : Launch) (Z : State) (a0 : Array Value) (hw : ∀ d ∈ tables_1, d.before a0 Z = true) (a r : Addr) (v0 v1 v2 v3 : Int32) (h0 : Heap) (n0 : Nat) (hf1 : v1.toInt = v0.toInt) (hf2 : v2.toInt = v0.toInt ∨ v2.toInt = v1.toInt) (hf3 : v3.toInt = v0.toInt ∨ v3.toInt = v1.toInt ∨ v3.toInt = v2.toInt) (E1 : Exa Z h0 a "com/example/inevitable_path/inevitablepath/smv/IntList") (F1 : Fld Z h0 a "com/example/inevitable_path/inevitablepath/smv/IntList" "values" "[I" (.ref r)) (F2 : Fld Z h0 a "com/example/inevitable_path/inevitablepath/smv/IntList" "size" "I" (.int (4 : Int32))) (A1 : Av Z h0 r .int [.int v0, .int v1, .int v2, .int v3, .int (0 : Int32), .int (0 : Int32), .int (0 : Int32), .int (0 : Int32)]) (ga : n0 ≤ a) (gr : n0 ≤ r) :
    Sat l Z (⟨"com/example/inevitable_path/inevitablepath/smv/IntList", "removeDuplicates", "()V"⟩ : MethodName) prog_60_method_10_code 6 none ({ frames := 0, cells := 0, slots := 0, locals := 0 } : Room) [.ref a] h0 n0 (RN fun h => Exa Z h a "com/example/inevitable_path/inevitablepath/smv/IntList" ∧ Fld Z h a "com/example/inevitable_path/inevitablepath/smv/IntList" "values" "[I" (.ref r) ∧ Fld Z h a "com/example/inevitable_path/inevitablepath/smv/IntList" "size" "I" (.int (1 : Int32)) ∧ Av Z h r .int [.int v0, .int v1, .int v2, .int v3, .int (0 : Int32), .int (0 : Int32), .int (0 : Int32), .int (0 : Int32)]) := by
  refine sat_of (own := "com/example/inevitable_path/inevitablepath/smv/IntList") (nm := "removeDuplicates") rfl rfl (plainFor_of_name pn_1) #[.val (.ref a), .unset, .unset, .unset, .unset, .unset] (fun m => by first | (simp [entryFrame, mkF, argsToLocals, Value.category, maxLocals]; done) | rfl) ?_
  intro p e s m below meth c C
  refine go_iconst C (0 : Int32) d4_0 (pc' := 1) rfl (by decide) ?_
  refine go_istoreN C (Ls' := #[.val (.ref a), .val (.int (0 : Int32)), .unset, .unset, .unset, .unset]) d4_1 (pc' := 2) rfl rfl ?_
  refine go_iconst C (0 : Int32) d4_2 (pc' := 3) rfl (by decide) ?_
  refine go_istoreN C (Ls' := #[.val (.ref a), .val (.int (0 : Int32)), .val (.int (0 : Int32)), .unset, .unset, .unset]) d4_3 (pc' := 4) rfl rfl ?_
  refine go_iloadN C d4_4 (pc' := 5) rfl rfl ?_
  refine go_aloadN C d4_5 (pc' := 6) rfl rfl rfl ?_
  refine go_getfield C (wd hw 21 rfl) F2 d4_6 (pc' := 9) rfl ?_
  refine go_icmp C (0 : Int) (4 : Int) (by decide) (by decide) d4_9 (by decide) (pc' := 81) (by decide) (pcN := 12) rfl (fun (c_1 : ¬ (0 : Int) < (4 : Int)) => by omega) (fun (c_1 : (0 : Int) < (4 : Int)) => ?_)
  refine go_aloadN C d4_12 (pc' := 13) rfl rfl rfl ?_
  refine go_getfield C (wd hw 14 rfl) F1 d4_13 (pc' := 16) rfl ?_
  refine go_iloadN C d4_16 (pc' := 17) rfl rfl ?_
  refine go_iaload C A1 0 (.int v0) (by decide) rfl d4_17 (pc' := 18) rfl ?_
  refine go_istoreN C (Ls' := #[.val (.ref a), .val (.int (0 : Int32)), .val (.int (0 : Int32)), .val (.int v0), .unset, .unset]) d4_18 (pc' := 19) rfl rfl ?_
  refine go_iconst C (0 : Int32) d4_19 (pc' := 20) rfl (by decide) ?_
  refine go_istore C (Ls' := #[.val (.ref a), .val (.int (0 : Int32)), .val (.int (0 : Int32)), .val (.int v0), .val (.int (0 : Int32)), .unset]) d4_20 (pc' := 22) rfl rfl ?_
  refine go_iconst C (0 : Int32) d4_22 (pc' := 23) rfl (by decide) ?_
  refine go_istore C (Ls' := #[.val (.ref a), .val (.int (0 : Int32)), .val (.int (0 : Int32)), .val (.int v0), .val (.int (0 : Int32)), .val (.int (0 : Int32))]) d4_23 (pc' := 25) rfl rfl ?_
  refine go_iload C d4_25 (pc' := 27) rfl rfl ?_
  refine go_iloadN C d4_27 (pc' := 28) rfl rfl ?_
  refine go_icmp C (0 : Int) (0 : Int) (by decide) (by decide) d4_28 (by decide) (pc' := 60) (by decide) (pcN := 31) rfl (fun (c_2 : ¬ (0 : Int) < (0 : Int)) => ?_) (fun (c_2 : (0 : Int) < (0 : Int)) => by omega)
  refine go_iload C d4_60 (pc' := 62) rfl rfl ?_
  refine go_if0 C (0 : Int) (by decide) d4_62 (by decide) (pc' := 75) (by decide) (pcN := 65) rfl (fun (c_3 : ¬ (0 : Int) = 0) => by omega) (fun (c_3 : (0 : Int) = 0) => ?_)
  refine go_aloadN C d4_65 (pc' := 66) rfl rfl rfl ?_
  refine go_getfield C (wd hw 14 rfl) F1 d4_66 (pc' := 69) rfl ?_
  refine go_iloadN C d4_69 (pc' := 70) rfl rfl ?_
  refine go_iinc C (Ls' := #[.val (.ref a), .val (.int ((0 : Int32) + (1 : Int32))), .val (.int (0 : Int32)), .val (.int v0), .val (.int (0 : Int32)), .val (.int (0 : Int32))]) (1 : Int32) d4_70 (pc' := 73) rfl (by decide) rfl rfl ?_
  rw [(by decide : (0 : Int32) + (1 : Int32) = (1 : Int32))]
  refine go_iloadN C d4_73 (pc' := 74) rfl rfl ?_
  refine go_iastore C A1 0 (by decide) (show 0 < 8 from by decide) gr d4_74 (pc' := 75) rfl ?_
  intro h_4 W_5 A_6
  have F_8 := Fld.other W_5 F1 (Or.inl (own_ne_arr E1 (wd hw 5 rfl) A1))
  have F_9 := Fld.other W_5 F2 (Or.inl (own_ne_arr E1 (wd hw 5 rfl) A1))
  have E_10 := Exa.wr W_5 E1
  have A_11 : Av Z h_4 r .int [.int v0, .int v1, .int v2, .int v3, .int (0 : Int32), .int (0 : Int32), .int (0 : Int32), .int (0 : Int32)] := A_6
  refine go_iinc C (Ls' := #[.val (.ref a), .val (.int (1 : Int32)), .val (.int ((0 : Int32) + (1 : Int32))), .val (.int v0), .val (.int (0 : Int32)), .val (.int (0 : Int32))]) (1 : Int32) d4_75 (pc' := 78) rfl (by decide) rfl rfl ?_
  rw [(by decide : (0 : Int32) + (1 : Int32) = (1 : Int32))]
  refine go_goto C d4_78 (by decide) (pc' := 4) (by decide) ?_
  refine go_iloadN C d4_4 (pc' := 5) rfl rfl ?_
  refine go_aloadN C d4_5 (pc' := 6) rfl rfl rfl ?_
  refine go_getfield C (wd hw 21 rfl) F_9 d4_6 (pc' := 9) rfl ?_
  refine go_icmp C (1 : Int) (4 : Int) (by decide) (by decide) d4_9 (by decide) (pc' := 81) (by decide) (pcN := 12) rfl (fun (c_12 : ¬ (1 : Int) < (4 : Int)) => by omega) (fun (c_12 : (1 : Int) < (4 : Int)) => ?_)
  refine go_aloadN C d4_12 (pc' := 13) rfl rfl rfl ?_
  refine go_getfield C (wd hw 14 rfl) F_8 d4_13 (pc' := 16) rfl ?_
  refine go_iloadN C d4_16 (pc' := 17) rfl rfl ?_
  refine go_iaload C A_11 1 (.int v1) (by decide) rfl d4_17 (pc' := 18) rfl ?_
  refine go_istoreN C (Ls' := #[.val (.ref a), .val (.int (1 : Int32)), .val (.int (1 : Int32)), .val (.int v1), .val (.int (0 : Int32)), .val (.int (0 : Int32))]) d4_18 (pc' := 19) rfl rfl ?_
  refine go_iconst C (0 : Int32) d4_19 (pc' := 20) rfl (by decide) ?_
  refine go_istore C (Ls' := #[.val (.ref a), .val (.int (1 : Int32)), .val (.int (1 : Int32)), .val (.int v1), .val (.int (0 : Int32)), .val (.int (0 : Int32))]) d4_20 (pc' := 22) rfl rfl ?_
  refine go_iconst C (0 : Int32) d4_22 (pc' := 23) rfl (by decide) ?_
  refine go_istore C (Ls' := #[.val (.ref a), .val (.int (1 : Int32)), .val (.int (1 : Int32)), .val (.int v1), .val (.int (0 : Int32)), .val (.int (0 : Int32))]) d4_23 (pc' := 25) rfl rfl ?_
  refine go_iload C d4_25 (pc' := 27) rfl rfl ?_
  refine go_iloadN C d4_27 (pc' := 28) rfl rfl ?_
  refine go_icmp C (0 : Int) (1 : Int) (by decide) (by decide) d4_28 (by decide) (pc' := 60) (by decide) (pcN := 31) rfl (fun (c_13 : ¬ (0 : Int) < (1 : Int)) => by omega) (fun (c_13 : (0 : Int) < (1 : Int)) => ?_)
  refine go_iload C d4_31 (pc' := 33) rfl rfl ?_
  refine go_if0 C (0 : Int) (by decide) d4_33 (by decide) (pc' := 60) (by decide) (pcN := 36) rfl (fun (c_14 : ¬ (0 : Int) = 0) => by omega) (fun (c_14 : (0 : Int) = 0) => ?_)
  refine go_aloadN C d4_36 (pc' := 37) rfl rfl rfl ?_
  refine go_getfield C (wd hw 14 rfl) F_8 d4_37 (pc' := 40) rfl ?_
  refine go_iload C d4_40 (pc' := 42) rfl rfl ?_
  refine go_iaload C A_11 0 (.int v0) (by decide) rfl d4_42 (pc' := 43) rfl ?_
  refine go_iloadN C d4_43 (pc' := 44) rfl rfl ?_
  refine go_icmp C v0.toInt v1.toInt rfl rfl d4_44 (by decide) (pc' := 51) (by decide) (pcN := 47) rfl (fun (c_15 : ¬ v0.toInt = v1.toInt) => by omega) (fun (c_15 : v0.toInt = v1.toInt) => ?_)
  refine go_iconst C (1 : Int32) d4_47 (pc' := 48) rfl (by decide) ?_
  refine go_goto C d4_48 (by decide) (pc' := 52) (by decide) ?_
  refine go_istore C (Ls' := #[.val (.ref a), .val (.int (1 : Int32)), .val (.int (1 : Int32)), .val (.int v1), .val (.int (1 : Int32)), .val (.int (0 : Int32))]) d4_52 (pc' := 54) rfl rfl ?_
  refine go_iinc C (Ls' := #[.val (.ref a), .val (.int (1 : Int32)), .val (.int (1 : Int32)), .val (.int v1), .val (.int (1 : Int32)), .val (.int ((0 : Int32) + (1 : Int32)))]) (1 : Int32) d4_54 (pc' := 57) rfl (by decide) rfl rfl ?_
  rw [(by decide : (0 : Int32) + (1 : Int32) = (1 : Int32))]
  refine go_goto C d4_57 (by decide) (pc' := 25) (by decide) ?_
  refine go_iload C d4_25 (pc' := 27) rfl rfl ?_
  refine go_iloadN C d4_27 (pc' := 28) rfl rfl ?_
  refine go_icmp C (1 : Int) (1 : Int) (by decide) (by decide) d4_28 (by decide) (pc' := 60) (by decide) (pcN := 31) rfl (fun (c_16 : ¬ (1 : Int) < (1 : Int)) => ?_) (fun (c_16 : (1 : Int) < (1 : Int)) => by omega)
  refine go_iload C d4_60 (pc' := 62) rfl rfl ?_
  refine go_if0 C (1 : Int) (by decide) d4_62 (by decide) (pc' := 75) (by decide) (pcN := 65) rfl (fun (c_17 : ¬ (1 : Int) = 0) => ?_) (fun (c_17 : (1 : Int) = 0) => by omega)
  refine go_iinc C (Ls' := #[.val (.ref a), .val (.int (1 : Int32)), .val (.int ((1 : Int32) + (1 : Int32))), .val (.int v1), .val (.int (1 : Int32)), .val (.int (1 : Int32))]) (1 : Int32) d4_75 (pc' := 78) rfl (by decide) rfl rfl ?_
  rw [(by decide : (1 : Int32) + (1 : Int32) = (2 : Int32))]
  refine go_goto C d4_78 (by decide) (pc' := 4) (by decide) ?_
  refine go_iloadN C d4_4 (pc' := 5) rfl rfl ?_
  refine go_aloadN C d4_5 (pc' := 6) rfl rfl rfl ?_
  refine go_getfield C (wd hw 21 rfl) F_9 d4_6 (pc' := 9) rfl ?_
  refine go_icmp C (2 : Int) (4 : Int) (by decide) (by decide) d4_9 (by decide) (pc' := 81) (by decide) (pcN := 12) rfl (fun (c_18 : ¬ (2 : Int) < (4 : Int)) => by omega) (fun (c_18 : (2 : Int) < (4 : Int)) => ?_)
  refine go_aloadN C d4_12 (pc' := 13) rfl rfl rfl ?_
  refine go_getfield C (wd hw 14 rfl) F_8 d4_13 (pc' := 16) rfl ?_
  refine go_iloadN C d4_16 (pc' := 17) rfl rfl ?_
  refine go_iaload C A_11 2 (.int v2) (by decide) rfl d4_17 (pc' := 18) rfl ?_
  refine go_istoreN C (Ls' := #[.val (.ref a), .val (.int (1 : Int32)), .val (.int (2 : Int32)), .val (.int v2), .val (.int (1 : Int32)), .val (.int (1 : Int32))]) d4_18 (pc' := 19) rfl rfl ?_
  refine go_iconst C (0 : Int32) d4_19 (pc' := 20) rfl (by decide) ?_
  refine go_istore C (Ls' := #[.val (.ref a), .val (.int (1 : Int32)), .val (.int (2 : Int32)), .val (.int v2), .val (.int (0 : Int32)), .val (.int (1 : Int32))]) d4_20 (pc' := 22) rfl rfl ?_
  refine go_iconst C (0 : Int32) d4_22 (pc' := 23) rfl (by decide) ?_
  refine go_istore C (Ls' := #[.val (.ref a), .val (.int (1 : Int32)), .val (.int (2 : Int32)), .val (.int v2), .val (.int (0 : Int32)), .val (.int (0 : Int32))]) d4_23 (pc' := 25) rfl rfl ?_
  refine go_iload C d4_25 (pc' := 27) rfl rfl ?_
  refine go_iloadN C d4_27 (pc' := 28) rfl rfl ?_
  refine go_icmp C (0 : Int) (1 : Int) (by decide) (by decide) d4_28 (by decide) (pc' := 60) (by decide) (pcN := 31) rfl (fun (c_19 : ¬ (0 : Int) < (1 : Int)) => by omega) (fun (c_19 : (0 : Int) < (1 : Int)) => ?_)
  refine go_iload C d4_31 (pc' := 33) rfl rfl ?_
  refine go_if0 C (0 : Int) (by decide) d4_33 (by decide) (pc' := 60) (by decide) (pcN := 36) rfl (fun (c_20 : ¬ (0 : Int) = 0) => by omega) (fun (c_20 : (0 : Int) = 0) => ?_)
  refine go_aloadN C d4_36 (pc' := 37) rfl rfl rfl ?_
  refine go_getfield C (wd hw 14 rfl) F_8 d4_37 (pc' := 40) rfl ?_
  refine go_iload C d4_40 (pc' := 42) rfl rfl ?_
  refine go_iaload C A_11 0 (.int v0) (by decide) rfl d4_42 (pc' := 43) rfl ?_
  refine go_iloadN C d4_43 (pc' := 44) rfl rfl ?_
  refine go_icmp C v0.toInt v2.toInt rfl rfl d4_44 (by decide) (pc' := 51) (by decide) (pcN := 47) rfl (fun (c_21 : ¬ v0.toInt = v2.toInt) => by omega) (fun (c_21 : v0.toInt = v2.toInt) => ?_)
  refine go_iconst C (1 : Int32) d4_47 (pc' := 48) rfl (by decide) ?_
  refine go_goto C d4_48 (by decide) (pc' := 52) (by decide) ?_
  refine go_istore C (Ls' := #[.val (.ref a), .val (.int (1 : Int32)), .val (.int (2 : Int32)), .val (.int v2), .val (.int (1 : Int32)), .val (.int (0 : Int32))]) d4_52 (pc' := 54) rfl rfl ?_
  refine go_iinc C (Ls' := #[.val (.ref a), .val (.int (1 : Int32)), .val (.int (2 : Int32)), .val (.int v2), .val (.int (1 : Int32)), .val (.int ((0 : Int32) + (1 : Int32)))]) (1 : Int32) d4_54 (pc' := 57) rfl (by decide) rfl rfl ?_
  rw [(by decide : (0 : Int32) + (1 : Int32) = (1 : Int32))]
  refine go_goto C d4_57 (by decide) (pc' := 25) (by decide) ?_
  refine go_iload C d4_25 (pc' := 27) rfl rfl ?_
  refine go_iloadN C d4_27 (pc' := 28) rfl rfl ?_
  refine go_icmp C (1 : Int) (1 : Int) (by decide) (by decide) d4_28 (by decide) (pc' := 60) (by decide) (pcN := 31) rfl (fun (c_22 : ¬ (1 : Int) < (1 : Int)) => ?_) (fun (c_22 : (1 : Int) < (1 : Int)) => by omega)
  refine go_iload C d4_60 (pc' := 62) rfl rfl ?_
  refine go_if0 C (1 : Int) (by decide) d4_62 (by decide) (pc' := 75) (by decide) (pcN := 65) rfl (fun (c_23 : ¬ (1 : Int) = 0) => ?_) (fun (c_23 : (1 : Int) = 0) => by omega)
  refine go_iinc C (Ls' := #[.val (.ref a), .val (.int (1 : Int32)), .val (.int ((2 : Int32) + (1 : Int32))), .val (.int v2), .val (.int (1 : Int32)), .val (.int (1 : Int32))]) (1 : Int32) d4_75 (pc' := 78) rfl (by decide) rfl rfl ?_
  rw [(by decide : (2 : Int32) + (1 : Int32) = (3 : Int32))]
  refine go_goto C d4_78 (by decide) (pc' := 4) (by decide) ?_
  refine go_iloadN C d4_4 (pc' := 5) rfl rfl ?_
  refine go_aloadN C d4_5 (pc' := 6) rfl rfl rfl ?_
  refine go_getfield C (wd hw 21 rfl) F_9 d4_6 (pc' := 9) rfl ?_
  refine go_icmp C (3 : Int) (4 : Int) (by decide) (by decide) d4_9 (by decide) (pc' := 81) (by decide) (pcN := 12) rfl (fun (c_24 : ¬ (3 : Int) < (4 : Int)) => by omega) (fun (c_24 : (3 : Int) < (4 : Int)) => ?_)
  refine go_aloadN C d4_12 (pc' := 13) rfl rfl rfl ?_
  refine go_getfield C (wd hw 14 rfl) F_8 d4_13 (pc' := 16) rfl ?_
  refine go_iloadN C d4_16 (pc' := 17) rfl rfl ?_
  refine go_iaload C A_11 3 (.int v3) (by decide) rfl d4_17 (pc' := 18) rfl ?_
  refine go_istoreN C (Ls' := #[.val (.ref a), .val (.int (1 : Int32)), .val (.int (3 : Int32)), .val (.int v3), .val (.int (1 : Int32)), .val (.int (1 : Int32))]) d4_18 (pc' := 19) rfl rfl ?_
  refine go_iconst C (0 : Int32) d4_19 (pc' := 20) rfl (by decide) ?_
  refine go_istore C (Ls' := #[.val (.ref a), .val (.int (1 : Int32)), .val (.int (3 : Int32)), .val (.int v3), .val (.int (0 : Int32)), .val (.int (1 : Int32))]) d4_20 (pc' := 22) rfl rfl ?_
  refine go_iconst C (0 : Int32) d4_22 (pc' := 23) rfl (by decide) ?_
  refine go_istore C (Ls' := #[.val (.ref a), .val (.int (1 : Int32)), .val (.int (3 : Int32)), .val (.int v3), .val (.int (0 : Int32)), .val (.int (0 : Int32))]) d4_23 (pc' := 25) rfl rfl ?_
  refine go_iload C d4_25 (pc' := 27) rfl rfl ?_
  refine go_iloadN C d4_27 (pc' := 28) rfl rfl ?_
  refine go_icmp C (0 : Int) (1 : Int) (by decide) (by decide) d4_28 (by decide) (pc' := 60) (by decide) (pcN := 31) rfl (fun (c_25 : ¬ (0 : Int) < (1 : Int)) => by omega) (fun (c_25 : (0 : Int) < (1 : Int)) => ?_)
  refine go_iload C d4_31 (pc' := 33) rfl rfl ?_
  refine go_if0 C (0 : Int) (by decide) d4_33 (by decide) (pc' := 60) (by decide) (pcN := 36) rfl (fun (c_26 : ¬ (0 : Int) = 0) => by omega) (fun (c_26 : (0 : Int) = 0) => ?_)
  refine go_aloadN C d4_36 (pc' := 37) rfl rfl rfl ?_
  refine go_getfield C (wd hw 14 rfl) F_8 d4_37 (pc' := 40) rfl ?_
  refine go_iload C d4_40 (pc' := 42) rfl rfl ?_
  refine go_iaload C A_11 0 (.int v0) (by decide) rfl d4_42 (pc' := 43) rfl ?_
  refine go_iloadN C d4_43 (pc' := 44) rfl rfl ?_
  refine go_icmp C v0.toInt v3.toInt rfl rfl d4_44 (by decide) (pc' := 51) (by decide) (pcN := 47) rfl (fun (c_27 : ¬ v0.toInt = v3.toInt) => by omega) (fun (c_27 : v0.toInt = v3.toInt) => ?_)
  refine go_iconst C (1 : Int32) d4_47 (pc' := 48) rfl (by decide) ?_
  refine go_goto C d4_48 (by decide) (pc' := 52) (by decide) ?_
  refine go_istore C (Ls' := #[.val (.ref a), .val (.int (1 : Int32)), .val (.int (3 : Int32)), .val (.int v3), .val (.int (1 : Int32)), .val (.int (0 : Int32))]) d4_52 (pc' := 54) rfl rfl ?_
  refine go_iinc C (Ls' := #[.val (.ref a), .val (.int (1 : Int32)), .val (.int (3 : Int32)), .val (.int v3), .val (.int (1 : Int32)), .val (.int ((0 : Int32) + (1 : Int32)))]) (1 : Int32) d4_54 (pc' := 57) rfl (by decide) rfl rfl ?_
  rw [(by decide : (0 : Int32) + (1 : Int32) = (1 : Int32))]
  refine go_goto C d4_57 (by decide) (pc' := 25) (by decide) ?_
  refine go_iload C d4_25 (pc' := 27) rfl rfl ?_
  refine go_iloadN C d4_27 (pc' := 28) rfl rfl ?_
  refine go_icmp C (1 : Int) (1 : Int) (by decide) (by decide) d4_28 (by decide) (pc' := 60) (by decide) (pcN := 31) rfl (fun (c_28 : ¬ (1 : Int) < (1 : Int)) => ?_) (fun (c_28 : (1 : Int) < (1 : Int)) => by omega)
  refine go_iload C d4_60 (pc' := 62) rfl rfl ?_
  refine go_if0 C (1 : Int) (by decide) d4_62 (by decide) (pc' := 75) (by decide) (pcN := 65) rfl (fun (c_29 : ¬ (1 : Int) = 0) => ?_) (fun (c_29 : (1 : Int) = 0) => by omega)
  refine go_iinc C (Ls' := #[.val (.ref a), .val (.int (1 : Int32)), .val (.int ((3 : Int32) + (1 : Int32))), .val (.int v3), .val (.int (1 : Int32)), .val (.int (1 : Int32))]) (1 : Int32) d4_75 (pc' := 78) rfl (by decide) rfl rfl ?_
  rw [(by decide : (3 : Int32) + (1 : Int32) = (4 : Int32))]
  refine go_goto C d4_78 (by decide) (pc' := 4) (by decide) ?_
  refine go_iloadN C d4_4 (pc' := 5) rfl rfl ?_
  refine go_aloadN C d4_5 (pc' := 6) rfl rfl rfl ?_
  refine go_getfield C (wd hw 21 rfl) F_9 d4_6 (pc' := 9) rfl ?_
  refine go_icmp C (4 : Int) (4 : Int) (by decide) (by decide) d4_9 (by decide) (pc' := 81) (by decide) (pcN := 12) rfl (fun (c_30 : ¬ (4 : Int) < (4 : Int)) => ?_) (fun (c_30 : (4 : Int) < (4 : Int)) => by omega)
  refine go_aloadN C d4_81 (pc' := 82) rfl rfl rfl ?_
  refine go_iloadN C d4_82 (pc' := 83) rfl rfl ?_
  refine go_putfield C (wd hw 21 rfl) F_9 E_10 (Or.inl (wd hw 22 rfl)) (wd hw 5 rfl) (ty := .int) (by decide) rfl rfl ga d4_83 (pc' := 86) rfl ?_
  intro h_31 W_32
  have F_33 := Fld.other W_32 F_8 (Or.inr (slot_ne (a0 := a0) (Or.inl (wd hw 15 rfl)) (Or.inl (wd hw 22 rfl)) (by decide) (t := (.array .int)) (t' := .int) (by decide) (by decide)))
  have F_34 := Fld.same W_32 F_9
  have E_35 := Exa.wr W_32 E_10
  have A_36 := Av.other A_11 W_32 (Ne.symm (own_ne_arr E_10 (wd hw 5 rfl) A_11))
  refine go_return C rfl d4_86 (by decide) (by decide) ?_
  exact ⟨rfl, E_35, F_33, F_34, A_36⟩
set_option maxRecDepth 65536 in
set_option maxHeartbeats 40000000 in
theorem sat_pick (l : Launch) (Z : State) (a0 : Array Value) (hw : ∀ d ∈ tables_1, d.before a0 Z = true) (x mm i : Int32) (h0 : Heap) (n0 : Nat)  :
    Sat l Z (⟨"com/example/inevitable_path/inevitablepath/smv/IntListRemoveDuplicatesPinLaw", "pick", "(III)I"⟩ : MethodName) method_2_code 3 (some .int) ({ frames := 0, cells := 0, slots := 0, locals := 0 } : Room) [.int x, .int mm, .int i] h0 n0 (RV fun r h => (∃ z : Int32, r = .int z) ∧ h = h0) := by
  refine sat_of (own := "com/example/inevitable_path/inevitablepath/smv/IntListRemoveDuplicatesPinLaw") (nm := "pick") rfl rfl (plainFor_of_name pn_0) #[.val (.int x), .val (.int mm), .val (.int i)] (fun m => by first | (simp [entryFrame, mkF, argsToLocals, Value.category, maxLocals]; done) | rfl) ?_
  intro p e s m below meth c C
  refine go_iloadN C d1_0 (pc' := 1) rfl rfl ?_
  refine go_iloadN C d1_1 (pc' := 2) rfl rfl ?_
  refine go_ishr C d1_2 (pc' := 3) rfl ?_
  refine go_iconst C (1 : Int32) d1_3 (pc' := 4) rfl (by decide) ?_
  refine go_iand C d1_4 (pc' := 5) rfl ?_
  refine go_if0 C (((mm >>> (i &&& 31)) &&& (1 : Int32)).toInt) rfl d1_5 (by decide) (pc' := 14) (by decide) (pcN := 8) rfl (fun (c_1 : (((mm >>> (i &&& 31)) &&& (1 : Int32)).toInt) = 0) => ?_) (fun (c_1 : ¬ (((mm >>> (i &&& 31)) &&& (1 : Int32)).toInt) = 0) => ?_)
  · skip
    refine go_iloadN C d1_14 (pc' := 15) rfl rfl ?_
    refine go_ireturnI C rfl d1_15 (by decide) (by decide) ?_
    exact ⟨_, rfl, ⟨_, rfl⟩, rfl⟩
  · skip
    refine go_iloadN C d1_8 (pc' := 9) rfl rfl ?_
    refine go_iconst C (3 : Int32) d1_9 (pc' := 10) rfl (by decide) ?_
    refine go_iand C d1_10 (pc' := 11) rfl ?_
    refine go_goto C d1_11 (by decide) (pc' := 15) (by decide) ?_
    refine go_ireturnI C rfl d1_15 (by decide) (by decide) ?_
    exact ⟨_, rfl, ⟨_, rfl⟩, rfl⟩
theorem own_k5 (x : Int32) : (x &&& (7 : Int32)) % (5 : Int32) = 0 ∨ (x &&& (7 : Int32)) % (5 : Int32) = 1 ∨ (x &&& (7 : Int32)) % (5 : Int32) = 2 ∨ (x &&& (7 : Int32)) % (5 : Int32) = 3 ∨ (x &&& (7 : Int32)) % (5 : Int32) = 4 := by
  have h : (x &&& (7 : Int32)).toInt = x.toInt % 2 ^ 3 := Jvm.Kit.i32_mask x _ (k := 3) (by decide) (by decide)
  have k5 : ((5 : Int32)).toInt = 5 := by decide
  have g : ((x &&& (7 : Int32)) % (5 : Int32)).toInt = (x.toInt % 2 ^ 3) % 5 := by rw [Jvm.Kit.i32_rem_nonneg (by omega), h, k5]
  have : ((x &&& (7 : Int32)) % (5 : Int32)).toInt = 0 ∨ ((x &&& (7 : Int32)) % (5 : Int32)).toInt = 1 ∨ ((x &&& (7 : Int32)) % (5 : Int32)).toInt = 2 ∨ ((x &&& (7 : Int32)) % (5 : Int32)).toInt = 3 ∨ ((x &&& (7 : Int32)) % (5 : Int32)).toInt = 4 := by omega
  rcases this with q | q | q | q | q
  · exact Or.inl (int_eq q)
  · exact Or.inr (Or.inl (int_eq q))
  · exact Or.inr (Or.inr (Or.inl (int_eq q)))
  · exact Or.inr (Or.inr (Or.inr (Or.inl (int_eq q))))
  · exact Or.inr (Or.inr (Or.inr (Or.inr (int_eq q))))
set_option maxRecDepth 65536 in
set_option maxHeartbeats 40000000 in
theorem law_sat (l : Launch) (Z : State) (a0 : Array Value) (hw : ∀ d ∈ tables_1, d.before a0 Z = true) (x0 x1 x2 x3 x4 x5 : Int32)  :
    Sat l Z x code maxLocals ret room_1 [.int x0, .int x1, .int x2, .int x3, .int x4, .int x5] Z.heap Z.heap.size (RV fun r _ => r = .int 1) := by
  refine sat_of (own := "com/example/inevitable_path/inevitablepath/smv/IntListRemoveDuplicatesPinLaw") (nm := "law") rfl rfl (plainFor_of_name pn_0) #[.val (.int x0), .val (.int x1), .val (.int x2), .val (.int x3), .val (.int x4), .val (.int x5), .unset, .unset, .unset, .unset, .unset, .unset, .unset, .unset, .unset, .unset, .unset, .unset, .unset] (fun m => by first | (simp [entryFrame, mkF, argsToLocals, Value.category, maxLocals]; done) | rfl) ?_
  intro p e s m below meth c C
  refine go_iloadN C at_0 (pc' := 1) rfl rfl ?_
  refine go_bipush C (7 : Int32) at_1 (pc' := 3) rfl (by decide) ?_
  refine go_iand C at_3 (pc' := 4) rfl ?_
  refine go_iconst C (5 : Int32) at_4 (pc' := 5) rfl (by decide) ?_
  refine go_irem C at_5 (pc' := 6) rfl (by decide) ?_
  refine go_istore C (Ls' := #[.val (.int x0), .val (.int x1), .val (.int x2), .val (.int x3), .val (.int x4), .val (.int x5), .val (.int ((x0 &&& (7 : Int32)) % (5 : Int32))), .unset, .unset, .unset, .unset, .unset, .unset, .unset, .unset, .unset, .unset, .unset, .unset]) at_6 (pc' := 8) rfl rfl ?_
  rcases own_k5 x0 with hn | hn | hn | hn | hn
  · rw [hn]
    refine go_iloadN C at_8 (pc' := 9) rfl rfl ?_
    refine go_iload C at_9 (pc' := 11) rfl rfl ?_
    refine go_iconst C (0 : Int32) at_11 (pc' := 12) rfl (by decide) ?_
    refine go_staticV C (as := [.int x1, .int x5, .int (0 : Int32)]) (rest := []) (W := 0) (sat_pick l Z a0 hw x1 x5 (0 : Int32) _ _) (wd hw 0 rfl) (wd hw 1 rfl) (wd hw 2 rfl) (wd hw 3 rfl) (by decide) pd_1 rfl rfl rfl (by decide) (by decide) (ce' := 0) (sl' := 0) rfl rfl (by decide) (by decide) at_12 (pc' := 15) rfl rfl ?_
    intro r_1 h_2 e_3
    obtain ⟨⟨v0, rfl⟩, e_3⟩ := e_3
    rw [e_3]
    clear e_3
    refine go_istore C (Ls' := #[.val (.int x0), .val (.int x1), .val (.int x2), .val (.int x3), .val (.int x4), .val (.int x5), .val (.int (0 : Int32)), .val (.int v0), .unset, .unset, .unset, .unset, .unset, .unset, .unset, .unset, .unset, .unset, .unset]) at_15 (pc' := 17) rfl rfl ?_
    refine go_iloadN C at_17 (pc' := 18) rfl rfl ?_
    refine go_iload C at_18 (pc' := 20) rfl rfl ?_
    refine go_iconst C (1 : Int32) at_20 (pc' := 21) rfl (by decide) ?_
    refine go_staticV C (as := [.int x2, .int x5, .int (1 : Int32)]) (rest := []) (W := 0) (sat_pick l Z a0 hw x2 x5 (1 : Int32) _ _) (wd hw 0 rfl) (wd hw 1 rfl) (wd hw 2 rfl) (wd hw 3 rfl) (by decide) pd_1 rfl rfl rfl (by decide) (by decide) (ce' := 0) (sl' := 0) rfl rfl (by decide) (by decide) at_21 (pc' := 24) rfl rfl ?_
    intro r_4 h_5 e_6
    obtain ⟨⟨v1, rfl⟩, e_6⟩ := e_6
    rw [e_6]
    clear e_6
    refine go_istore C (Ls' := #[.val (.int x0), .val (.int x1), .val (.int x2), .val (.int x3), .val (.int x4), .val (.int x5), .val (.int (0 : Int32)), .val (.int v0), .val (.int v1), .unset, .unset, .unset, .unset, .unset, .unset, .unset, .unset, .unset, .unset]) at_24 (pc' := 26) rfl rfl ?_
    refine go_iloadN C at_26 (pc' := 27) rfl rfl ?_
    refine go_iload C at_27 (pc' := 29) rfl rfl ?_
    refine go_iconst C (2 : Int32) at_29 (pc' := 30) rfl (by decide) ?_
    refine go_staticV C (as := [.int x3, .int x5, .int (2 : Int32)]) (rest := []) (W := 0) (sat_pick l Z a0 hw x3 x5 (2 : Int32) _ _) (wd hw 0 rfl) (wd hw 1 rfl) (wd hw 2 rfl) (wd hw 3 rfl) (by decide) pd_1 rfl rfl rfl (by decide) (by decide) (ce' := 0) (sl' := 0) rfl rfl (by decide) (by decide) at_30 (pc' := 33) rfl rfl ?_
    intro r_7 h_8 e_9
    obtain ⟨⟨v2, rfl⟩, e_9⟩ := e_9
    rw [e_9]
    clear e_9
    refine go_istore C (Ls' := #[.val (.int x0), .val (.int x1), .val (.int x2), .val (.int x3), .val (.int x4), .val (.int x5), .val (.int (0 : Int32)), .val (.int v0), .val (.int v1), .val (.int v2), .unset, .unset, .unset, .unset, .unset, .unset, .unset, .unset, .unset]) at_33 (pc' := 35) rfl rfl ?_
    refine go_iload C at_35 (pc' := 37) rfl rfl ?_
    refine go_iload C at_37 (pc' := 39) rfl rfl ?_
    refine go_iconst C (3 : Int32) at_39 (pc' := 40) rfl (by decide) ?_
    refine go_staticV C (as := [.int x4, .int x5, .int (3 : Int32)]) (rest := []) (W := 0) (sat_pick l Z a0 hw x4 x5 (3 : Int32) _ _) (wd hw 0 rfl) (wd hw 1 rfl) (wd hw 2 rfl) (wd hw 3 rfl) (by decide) pd_1 rfl rfl rfl (by decide) (by decide) (ce' := 0) (sl' := 0) rfl rfl (by decide) (by decide) at_40 (pc' := 43) rfl rfl ?_
    intro r_10 h_11 e_12
    obtain ⟨⟨v3, rfl⟩, e_12⟩ := e_12
    rw [e_12]
    clear e_12
    refine go_istore C (Ls' := #[.val (.int x0), .val (.int x1), .val (.int x2), .val (.int x3), .val (.int x4), .val (.int x5), .val (.int (0 : Int32)), .val (.int v0), .val (.int v1), .val (.int v2), .val (.int v3), .unset, .unset, .unset, .unset, .unset, .unset, .unset, .unset]) at_43 (pc' := 45) rfl rfl ?_
    refine go_new C (wd hw 4 rfl) (wd hw 5 rfl) (wd hw 6 rfl) at_45 (pc' := 48) rfl (ce' := 1) (sl' := 2) rfl rfl (by decide) (by decide) ?_
    intro h_13 a_14 g_15 E_16 E_17 D_18
    have g_19 : Z.heap.size ≤ a_14 := own_ge (Nat.le_refl _) g_15
    have z_20 : Z.heap.size ≤ h_13.size := Nat.le_trans (Nat.le_refl _) E_16.1
    have F_21 : Fld Z h_13 a_14 "com/example/inevitable_path/inevitablepath/smv/IntList" "values" "[I" (.null) := D_18 (Or.inl (wd hw 15 rfl)) (ty := (.array .int)) (by decide)
    have F_22 : Fld Z h_13 a_14 "com/example/inevitable_path/inevitablepath/smv/IntList" "size" "I" (.int (0 : Int32)) := D_18 (Or.inl (wd hw 22 rfl)) (ty := .int) (by decide)
    refine go_dup C at_48 (pc' := 49) rfl rfl ?_
    refine go_specialN C (as := []) (rest := [.ref a_14]) (W := 1) (sat_init l Z a0 hw a_14 _ _ E_17 F_21 F_22 g_19 z_20) rfl (wd hw 7 rfl) (wd hw 8 rfl) (wd hw 6 rfl) (wd hw 9 rfl) (by decide) pd_2 rfl rfl rfl (by decide) (by decide) (ce' := 2) (sl' := 10) rfl rfl (by decide) (by decide) at_49 (pc' := 52) rfl rfl ?_
    intro h_23 q_24
    obtain ⟨r_25, g_26, E_27, F_28, F_29, A_30⟩ := q_24
    have A_31 : Av Z h_23 r_25 .int [.int (0 : Int32), .int (0 : Int32), .int (0 : Int32), .int (0 : Int32), .int (0 : Int32), .int (0 : Int32), .int (0 : Int32), .int (0 : Int32)] := A_30
    refine go_astore C (Ls' := #[.val (.int x0), .val (.int x1), .val (.int x2), .val (.int x3), .val (.int x4), .val (.int x5), .val (.int (0 : Int32)), .val (.int v0), .val (.int v1), .val (.int v2), .val (.int v3), .val (.ref a_14), .unset, .unset, .unset, .unset, .unset, .unset, .unset]) at_52 (pc' := 54) rfl rfl rfl ?_
    refine go_iload C at_54 (pc' := 56) rfl rfl ?_
    refine go_if0 C (0 : Int) (by decide) at_56 (by decide) (pc' := 66) (by decide) (pcN := 59) rfl (fun (c_32 : ¬ 0 < (0 : Int)) => ?_) (fun (c_32 : 0 < (0 : Int)) => by omega)
    refine go_iload C at_66 (pc' := 68) rfl rfl ?_
    refine go_iconst C (1 : Int32) at_68 (pc' := 69) rfl (by decide) ?_
    refine go_icmp C (0 : Int) (1 : Int) (by decide) (by decide) at_69 (by decide) (pc' := 79) (by decide) (pcN := 72) rfl (fun (c_33 : ¬ (1 : Int) < (0 : Int)) => ?_) (fun (c_33 : (1 : Int) < (0 : Int)) => by omega)
    refine go_iload C at_79 (pc' := 81) rfl rfl ?_
    refine go_iconst C (2 : Int32) at_81 (pc' := 82) rfl (by decide) ?_
    refine go_icmp C (0 : Int) (2 : Int) (by decide) (by decide) at_82 (by decide) (pc' := 92) (by decide) (pcN := 85) rfl (fun (c_34 : ¬ (2 : Int) < (0 : Int)) => ?_) (fun (c_34 : (2 : Int) < (0 : Int)) => by omega)
    refine go_iload C at_92 (pc' := 94) rfl rfl ?_
    refine go_iconst C (3 : Int32) at_94 (pc' := 95) rfl (by decide) ?_
    refine go_icmp C (0 : Int) (3 : Int) (by decide) (by decide) at_95 (by decide) (pc' := 105) (by decide) (pcN := 98) rfl (fun (c_35 : ¬ (3 : Int) < (0 : Int)) => ?_) (fun (c_35 : (3 : Int) < (0 : Int)) => by omega)
    refine go_aload C at_105 (pc' := 107) rfl rfl rfl ?_
    refine go_virtualN C (as := []) (rest := []) (W := 0) (sat_rd0 l Z a0 hw a_14 r_25  _ _  E_27 F_28 F_29 A_31 g_19 g_26) E_27 (wd hw 16 rfl) (wd hw 17 rfl) (wd hw 19 rfl) (wd hw 18 rfl) (wd hw 6 rfl) (wd hw 20 rfl) (by decide) pd_2 rfl rfl rfl (by decide) (by decide) (ce' := 2) (sl' := 10) rfl rfl (by decide) (by decide) at_107 (pc' := 110) rfl rfl ?_
    intro h_36 q_37
    obtain ⟨E_38, F_39, F_40, A_41⟩ := q_37
    refine go_iload C at_110 (pc' := 112) rfl rfl ?_
    refine go_if0 C (0 : Int) (by decide) at_112 (by decide) (pc' := 119) (by decide) (pcN := 115) rfl (fun (c_42 : ¬ 0 < (0 : Int)) => ?_) (fun (c_42 : 0 < (0 : Int)) => by omega)
    refine go_iconst C (0 : Int32) at_119 (pc' := 120) rfl (by decide) ?_
    refine go_istore C (Ls' := #[.val (.int x0), .val (.int x1), .val (.int x2), .val (.int x3), .val (.int x4), .val (.int x5), .val (.int (0 : Int32)), .val (.int v0), .val (.int v1), .val (.int v2), .val (.int v3), .val (.ref a_14), .val (.int (0 : Int32)), .unset, .unset, .unset, .unset, .unset, .unset]) at_120 (pc' := 122) rfl rfl ?_
    refine go_iload C at_122 (pc' := 124) rfl rfl ?_
    refine go_iconst C (1 : Int32) at_124 (pc' := 125) rfl (by decide) ?_
    refine go_icmp C (0 : Int) (1 : Int) (by decide) (by decide) at_125 (by decide) (pc' := 139) (by decide) (pcN := 128) rfl (fun (c_43 : ¬ (1 : Int) < (0 : Int)) => ?_) (fun (c_43 : (1 : Int) < (0 : Int)) => by omega)
    refine go_iconst C (0 : Int32) at_139 (pc' := 140) rfl (by decide) ?_
    refine go_istore C (Ls' := #[.val (.int x0), .val (.int x1), .val (.int x2), .val (.int x3), .val (.int x4), .val (.int x5), .val (.int (0 : Int32)), .val (.int v0), .val (.int v1), .val (.int v2), .val (.int v3), .val (.ref a_14), .val (.int (0 : Int32)), .val (.int (0 : Int32)), .unset, .unset, .unset, .unset, .unset]) at_140 (pc' := 142) rfl rfl ?_
    refine go_iload C at_142 (pc' := 144) rfl rfl ?_
    refine go_iconst C (2 : Int32) at_144 (pc' := 145) rfl (by decide) ?_
    refine go_icmp C (0 : Int) (2 : Int) (by decide) (by decide) at_145 (by decide) (pc' := 166) (by decide) (pcN := 148) rfl (fun (c_44 : ¬ (2 : Int) < (0 : Int)) => ?_) (fun (c_44 : (2 : Int) < (0 : Int)) => by omega)
    refine go_iconst C (0 : Int32) at_166 (pc' := 167) rfl (by decide) ?_
    refine go_istore C (Ls' := #[.val (.int x0), .val (.int x1), .val (.int x2), .val (.int x3), .val (.int x4), .val (.int x5), .val (.int (0 : Int32)), .val (.int v0), .val (.int v1), .val (.int v2), .val (.int v3), .val (.ref a_14), .val (.int (0 : Int32)), .val (.int (0 : Int32)), .val (.int (0 : Int32)), .unset, .unset, .unset, .unset]) at_167 (pc' := 169) rfl rfl ?_
    refine go_iload C at_169 (pc' := 171) rfl rfl ?_
    refine go_iconst C (3 : Int32) at_171 (pc' := 172) rfl (by decide) ?_
    refine go_icmp C (0 : Int) (3 : Int) (by decide) (by decide) at_172 (by decide) (pc' := 200) (by decide) (pcN := 175) rfl (fun (c_45 : ¬ (3 : Int) < (0 : Int)) => ?_) (fun (c_45 : (3 : Int) < (0 : Int)) => by omega)
    refine go_iconst C (0 : Int32) at_200 (pc' := 201) rfl (by decide) ?_
    refine go_istore C (Ls' := #[.val (.int x0), .val (.int x1), .val (.int x2), .val (.int x3), .val (.int x4), .val (.int x5), .val (.int (0 : Int32)), .val (.int v0), .val (.int v1), .val (.int v2), .val (.int v3), .val (.ref a_14), .val (.int (0 : Int32)), .val (.int (0 : Int32)), .val (.int (0 : Int32)), .val (.int (0 : Int32)), .unset, .unset, .unset]) at_201 (pc' := 203) rfl rfl ?_
    refine go_iconst C (4 : Int32) at_203 (pc' := 204) rfl (by decide) ?_
    refine go_newarray C (wd hw 13 rfl) rfl 4 4 (by decide) (by decide) (by decide) (ce' := 3) (sl' := 14) rfl rfl (by decide) (by decide) at_204 (pc' := 206) rfl ?_
    intro h_46 a_47 g_48 E_49 A_50
    have n_51 : a_14 ≠ a_47 := own_ne_new E_38.lt g_48
    have n_52 : r_25 ≠ a_47 := own_ne_new A_41.lt g_48
    have g_53 : Z.heap.size ≤ a_47 := own_ge (Nat.le_of_lt (Nat.lt_of_le_of_lt g_19 E_38.lt)) g_48
    have F_54 := Fld.ext E_49 F_39
    have F_55 := Fld.ext E_49 F_40
    have E_56 := Exa.ext E_49 E_38
    have A_57 := Av.ext A_41 E_49
    have z_58 : Z.heap.size ≤ h_46.size := Nat.le_trans (Nat.le_of_lt (Nat.lt_of_le_of_lt g_19 E_38.lt)) E_49.1
    have A_59 : Av Z h_46 a_47 .int [.int (0 : Int32), .int (0 : Int32), .int (0 : Int32), .int (0 : Int32)] := A_50
    refine go_astore C (Ls' := #[.val (.int x0), .val (.int x1), .val (.int x2), .val (.int x3), .val (.int x4), .val (.int x5), .val (.int (0 : Int32)), .val (.int v0), .val (.int v1), .val (.int v2), .val (.int v3), .val (.ref a_14), .val (.int (0 : Int32)), .val (.int (0 : Int32)), .val (.int (0 : Int32)), .val (.int (0 : Int32)), .val (.ref a_47), .unset, .unset]) at_206 (pc' := 208) rfl rfl rfl ?_
    refine go_iconst C (0 : Int32) at_208 (pc' := 209) rfl (by decide) ?_
    refine go_istore C (Ls' := #[.val (.int x0), .val (.int x1), .val (.int x2), .val (.int x3), .val (.int x4), .val (.int x5), .val (.int (0 : Int32)), .val (.int v0), .val (.int v1), .val (.int v2), .val (.int v3), .val (.ref a_14), .val (.int (0 : Int32)), .val (.int (0 : Int32)), .val (.int (0 : Int32)), .val (.int (0 : Int32)), .val (.ref a_47), .val (.int (0 : Int32)), .unset]) at_209 (pc' := 211) rfl rfl ?_
    refine go_iload C at_211 (pc' := 213) rfl rfl ?_
    refine go_if0 C (0 : Int) (by decide) at_213 (by decide) (pc' := 226) (by decide) (pcN := 216) rfl (fun (c_60 : (0 : Int) = 0) => ?_) (fun (c_60 : ¬ (0 : Int) = 0) => by omega)
    refine go_iload C at_226 (pc' := 228) rfl rfl ?_
    refine go_if0 C (0 : Int) (by decide) at_228 (by decide) (pc' := 241) (by decide) (pcN := 231) rfl (fun (c_61 : (0 : Int) = 0) => ?_) (fun (c_61 : ¬ (0 : Int) = 0) => by omega)
    refine go_iload C at_241 (pc' := 243) rfl rfl ?_
    refine go_if0 C (0 : Int) (by decide) at_243 (by decide) (pc' := 256) (by decide) (pcN := 246) rfl (fun (c_62 : (0 : Int) = 0) => ?_) (fun (c_62 : ¬ (0 : Int) = 0) => by omega)
    refine go_iload C at_256 (pc' := 258) rfl rfl ?_
    refine go_if0 C (0 : Int) (by decide) at_258 (by decide) (pc' := 271) (by decide) (pcN := 261) rfl (fun (c_63 : (0 : Int) = 0) => ?_) (fun (c_63 : ¬ (0 : Int) = 0) => by omega)
    refine go_aload C at_271 (pc' := 273) rfl rfl rfl ?_
    refine go_virtualP C (as := []) (rest := []) (W := 0) (.int (0 : Int32)) (sat_size l Z a0 hw a_14 _ _ _ F_55) E_56 (wd hw 23 rfl) (wd hw 24 rfl) (wd hw 26 rfl) (wd hw 25 rfl) (wd hw 6 rfl) (wd hw 27 rfl) (by decide) pd_3 rfl rfl rfl (by decide) (by decide) rfl rfl (by decide) (by decide) at_273 (pc' := 276) rfl rfl ?_
    refine go_iload C at_276 (pc' := 278) rfl rfl ?_
    refine go_icmp C (0 : Int) (0 : Int) (by decide) (by decide) at_278 (by decide) (pc' := 283) (by decide) (pcN := 281) rfl (fun (c_64 : (0 : Int) = (0 : Int)) => ?_) (fun (c_64 : ¬ (0 : Int) = (0 : Int)) => by omega)
    refine go_iconst C (1 : Int32) at_283 (pc' := 284) rfl (by decide) ?_
    refine go_istore C (Ls' := #[.val (.int x0), .val (.int x1), .val (.int x2), .val (.int x3), .val (.int x4), .val (.int x5), .val (.int (0 : Int32)), .val (.int v0), .val (.int v1), .val (.int v2), .val (.int v3), .val (.ref a_14), .val (.int (0 : Int32)), .val (.int (0 : Int32)), .val (.int (0 : Int32)), .val (.int (0 : Int32)), .val (.ref a_47), .val (.int (0 : Int32)), .val (.int (1 : Int32))]) at_284 (pc' := 286) rfl rfl ?_
    refine go_iload C at_286 (pc' := 288) rfl rfl ?_
    refine go_if0 C (0 : Int) (by decide) at_288 (by decide) (pc' := 316) (by decide) (pcN := 291) rfl (fun (c_65 : ¬ 0 < (0 : Int)) => ?_) (fun (c_65 : 0 < (0 : Int)) => by omega)
    refine go_iload C at_316 (pc' := 318) rfl rfl ?_
    refine go_iconst C (1 : Int32) at_318 (pc' := 319) rfl (by decide) ?_
    refine go_icmp C (0 : Int) (1 : Int) (by decide) (by decide) at_319 (by decide) (pc' := 347) (by decide) (pcN := 322) rfl (fun (c_66 : ¬ (1 : Int) < (0 : Int)) => ?_) (fun (c_66 : (1 : Int) < (0 : Int)) => by omega)
    refine go_iload C at_347 (pc' := 349) rfl rfl ?_
    refine go_iconst C (2 : Int32) at_349 (pc' := 350) rfl (by decide) ?_
    refine go_icmp C (0 : Int) (2 : Int) (by decide) (by decide) at_350 (by decide) (pc' := 378) (by decide) (pcN := 353) rfl (fun (c_67 : ¬ (2 : Int) < (0 : Int)) => ?_) (fun (c_67 : (2 : Int) < (0 : Int)) => by omega)
    refine go_iload C at_378 (pc' := 380) rfl rfl ?_
    refine go_iconst C (3 : Int32) at_380 (pc' := 381) rfl (by decide) ?_
    refine go_icmp C (0 : Int) (3 : Int) (by decide) (by decide) at_381 (by decide) (pc' := 409) (by decide) (pcN := 384) rfl (fun (c_68 : ¬ (3 : Int) < (0 : Int)) => ?_) (fun (c_68 : (3 : Int) < (0 : Int)) => by omega)
    refine go_iload C at_409 (pc' := 411) rfl rfl ?_
    refine go_ireturnN C (z' := (1 : Int32)) rfl (by simp) rfl at_411 (by decide) (by decide) ?_
    exact ⟨_, rfl, rfl⟩
  · rw [hn]
    refine go_iloadN C at_8 (pc' := 9) rfl rfl ?_
    refine go_iload C at_9 (pc' := 11) rfl rfl ?_
    refine go_iconst C (0 : Int32) at_11 (pc' := 12) rfl (by decide) ?_
    refine go_staticV C (as := [.int x1, .int x5, .int (0 : Int32)]) (rest := []) (W := 0) (sat_pick l Z a0 hw x1 x5 (0 : Int32) _ _) (wd hw 0 rfl) (wd hw 1 rfl) (wd hw 2 rfl) (wd hw 3 rfl) (by decide) pd_1 rfl rfl rfl (by decide) (by decide) (ce' := 0) (sl' := 0) rfl rfl (by decide) (by decide) at_12 (pc' := 15) rfl rfl ?_
    intro r_69 h_70 e_71
    obtain ⟨⟨v0, rfl⟩, e_71⟩ := e_71
    rw [e_71]
    clear e_71
    refine go_istore C (Ls' := #[.val (.int x0), .val (.int x1), .val (.int x2), .val (.int x3), .val (.int x4), .val (.int x5), .val (.int (1 : Int32)), .val (.int v0), .unset, .unset, .unset, .unset, .unset, .unset, .unset, .unset, .unset, .unset, .unset]) at_15 (pc' := 17) rfl rfl ?_
    refine go_iloadN C at_17 (pc' := 18) rfl rfl ?_
    refine go_iload C at_18 (pc' := 20) rfl rfl ?_
    refine go_iconst C (1 : Int32) at_20 (pc' := 21) rfl (by decide) ?_
    refine go_staticV C (as := [.int x2, .int x5, .int (1 : Int32)]) (rest := []) (W := 0) (sat_pick l Z a0 hw x2 x5 (1 : Int32) _ _) (wd hw 0 rfl) (wd hw 1 rfl) (wd hw 2 rfl) (wd hw 3 rfl) (by decide) pd_1 rfl rfl rfl (by decide) (by decide) (ce' := 0) (sl' := 0) rfl rfl (by decide) (by decide) at_21 (pc' := 24) rfl rfl ?_
    intro r_72 h_73 e_74
    obtain ⟨⟨v1, rfl⟩, e_74⟩ := e_74
    rw [e_74]
    clear e_74
    refine go_istore C (Ls' := #[.val (.int x0), .val (.int x1), .val (.int x2), .val (.int x3), .val (.int x4), .val (.int x5), .val (.int (1 : Int32)), .val (.int v0), .val (.int v1), .unset, .unset, .unset, .unset, .unset, .unset, .unset, .unset, .unset, .unset]) at_24 (pc' := 26) rfl rfl ?_
    refine go_iloadN C at_26 (pc' := 27) rfl rfl ?_
    refine go_iload C at_27 (pc' := 29) rfl rfl ?_
    refine go_iconst C (2 : Int32) at_29 (pc' := 30) rfl (by decide) ?_
    refine go_staticV C (as := [.int x3, .int x5, .int (2 : Int32)]) (rest := []) (W := 0) (sat_pick l Z a0 hw x3 x5 (2 : Int32) _ _) (wd hw 0 rfl) (wd hw 1 rfl) (wd hw 2 rfl) (wd hw 3 rfl) (by decide) pd_1 rfl rfl rfl (by decide) (by decide) (ce' := 0) (sl' := 0) rfl rfl (by decide) (by decide) at_30 (pc' := 33) rfl rfl ?_
    intro r_75 h_76 e_77
    obtain ⟨⟨v2, rfl⟩, e_77⟩ := e_77
    rw [e_77]
    clear e_77
    refine go_istore C (Ls' := #[.val (.int x0), .val (.int x1), .val (.int x2), .val (.int x3), .val (.int x4), .val (.int x5), .val (.int (1 : Int32)), .val (.int v0), .val (.int v1), .val (.int v2), .unset, .unset, .unset, .unset, .unset, .unset, .unset, .unset, .unset]) at_33 (pc' := 35) rfl rfl ?_
    refine go_iload C at_35 (pc' := 37) rfl rfl ?_
    refine go_iload C at_37 (pc' := 39) rfl rfl ?_
    refine go_iconst C (3 : Int32) at_39 (pc' := 40) rfl (by decide) ?_
    refine go_staticV C (as := [.int x4, .int x5, .int (3 : Int32)]) (rest := []) (W := 0) (sat_pick l Z a0 hw x4 x5 (3 : Int32) _ _) (wd hw 0 rfl) (wd hw 1 rfl) (wd hw 2 rfl) (wd hw 3 rfl) (by decide) pd_1 rfl rfl rfl (by decide) (by decide) (ce' := 0) (sl' := 0) rfl rfl (by decide) (by decide) at_40 (pc' := 43) rfl rfl ?_
    intro r_78 h_79 e_80
    obtain ⟨⟨v3, rfl⟩, e_80⟩ := e_80
    rw [e_80]
    clear e_80
    refine go_istore C (Ls' := #[.val (.int x0), .val (.int x1), .val (.int x2), .val (.int x3), .val (.int x4), .val (.int x5), .val (.int (1 : Int32)), .val (.int v0), .val (.int v1), .val (.int v2), .val (.int v3), .unset, .unset, .unset, .unset, .unset, .unset, .unset, .unset]) at_43 (pc' := 45) rfl rfl ?_
    refine go_new C (wd hw 4 rfl) (wd hw 5 rfl) (wd hw 6 rfl) at_45 (pc' := 48) rfl (ce' := 1) (sl' := 2) rfl rfl (by decide) (by decide) ?_
    intro h_81 a_82 g_83 E_84 E_85 D_86
    have g_87 : Z.heap.size ≤ a_82 := own_ge (Nat.le_refl _) g_83
    have z_88 : Z.heap.size ≤ h_81.size := Nat.le_trans (Nat.le_refl _) E_84.1
    have F_89 : Fld Z h_81 a_82 "com/example/inevitable_path/inevitablepath/smv/IntList" "values" "[I" (.null) := D_86 (Or.inl (wd hw 15 rfl)) (ty := (.array .int)) (by decide)
    have F_90 : Fld Z h_81 a_82 "com/example/inevitable_path/inevitablepath/smv/IntList" "size" "I" (.int (0 : Int32)) := D_86 (Or.inl (wd hw 22 rfl)) (ty := .int) (by decide)
    refine go_dup C at_48 (pc' := 49) rfl rfl ?_
    refine go_specialN C (as := []) (rest := [.ref a_82]) (W := 1) (sat_init l Z a0 hw a_82 _ _ E_85 F_89 F_90 g_87 z_88) rfl (wd hw 7 rfl) (wd hw 8 rfl) (wd hw 6 rfl) (wd hw 9 rfl) (by decide) pd_2 rfl rfl rfl (by decide) (by decide) (ce' := 2) (sl' := 10) rfl rfl (by decide) (by decide) at_49 (pc' := 52) rfl rfl ?_
    intro h_91 q_92
    obtain ⟨r_93, g_94, E_95, F_96, F_97, A_98⟩ := q_92
    have A_99 : Av Z h_91 r_93 .int [.int (0 : Int32), .int (0 : Int32), .int (0 : Int32), .int (0 : Int32), .int (0 : Int32), .int (0 : Int32), .int (0 : Int32), .int (0 : Int32)] := A_98
    refine go_astore C (Ls' := #[.val (.int x0), .val (.int x1), .val (.int x2), .val (.int x3), .val (.int x4), .val (.int x5), .val (.int (1 : Int32)), .val (.int v0), .val (.int v1), .val (.int v2), .val (.int v3), .val (.ref a_82), .unset, .unset, .unset, .unset, .unset, .unset, .unset]) at_52 (pc' := 54) rfl rfl rfl ?_
    refine go_iload C at_54 (pc' := 56) rfl rfl ?_
    refine go_if0 C (1 : Int) (by decide) at_56 (by decide) (pc' := 66) (by decide) (pcN := 59) rfl (fun (c_100 : ¬ 0 < (1 : Int)) => by omega) (fun (c_100 : 0 < (1 : Int)) => ?_)
    refine go_aload C at_59 (pc' := 61) rfl rfl rfl ?_
    refine go_iload C at_61 (pc' := 63) rfl rfl ?_
    refine go_virtualN C (as := [.int v0]) (rest := []) (W := 0) (sat_add l Z a0 hw a_82 r_93 v0 (0 : Int32) (8 : Int32) 0 [.int (0 : Int32), .int (0 : Int32), .int (0 : Int32), .int (0 : Int32), .int (0 : Int32), .int (0 : Int32), .int (0 : Int32), .int (0 : Int32)] [.int v0, .int (0 : Int32), .int (0 : Int32), .int (0 : Int32), .int (0 : Int32), .int (0 : Int32), .int (0 : Int32), .int (0 : Int32)] _ _ E_95 F_96 F_97 A_99 g_87 g_94 (by decide) (show 0 < 8 from by decide) rfl rfl) E_95 (wd hw 28 rfl) (wd hw 29 rfl) (wd hw 31 rfl) (wd hw 30 rfl) (wd hw 6 rfl) (wd hw 32 rfl) (by decide) pd_4 rfl rfl rfl (by decide) (by decide) (ce' := 2) (sl' := 10) rfl rfl (by decide) (by decide) at_63 (pc' := 66) rfl rfl ?_
    intro h_101 q_102
    rw [(by decide : (0 : Int32) + 1 = (1 : Int32))] at q_102
    obtain ⟨E_103, F_104, F_105, A_106⟩ := q_102
    refine go_iload C at_66 (pc' := 68) rfl rfl ?_
    refine go_iconst C (1 : Int32) at_68 (pc' := 69) rfl (by decide) ?_
    refine go_icmp C (1 : Int) (1 : Int) (by decide) (by decide) at_69 (by decide) (pc' := 79) (by decide) (pcN := 72) rfl (fun (c_107 : ¬ (1 : Int) < (1 : Int)) => ?_) (fun (c_107 : (1 : Int) < (1 : Int)) => by omega)
    refine go_iload C at_79 (pc' := 81) rfl rfl ?_
    refine go_iconst C (2 : Int32) at_81 (pc' := 82) rfl (by decide) ?_
    refine go_icmp C (1 : Int) (2 : Int) (by decide) (by decide) at_82 (by decide) (pc' := 92) (by decide) (pcN := 85) rfl (fun (c_108 : ¬ (2 : Int) < (1 : Int)) => ?_) (fun (c_108 : (2 : Int) < (1 : Int)) => by omega)
    refine go_iload C at_92 (pc' := 94) rfl rfl ?_
    refine go_iconst C (3 : Int32) at_94 (pc' := 95) rfl (by decide) ?_
    refine go_icmp C (1 : Int) (3 : Int) (by decide) (by decide) at_95 (by decide) (pc' := 105) (by decide) (pcN := 98) rfl (fun (c_109 : ¬ (3 : Int) < (1 : Int)) => ?_) (fun (c_109 : (3 : Int) < (1 : Int)) => by omega)
    refine go_aload C at_105 (pc' := 107) rfl rfl rfl ?_
    refine go_virtualN C (as := []) (rest := []) (W := 0) (sat_rd1 l Z a0 hw a_82 r_93 v0 _ _  E_103 F_104 F_105 A_106 g_87 g_94) E_103 (wd hw 16 rfl) (wd hw 17 rfl) (wd hw 19 rfl) (wd hw 18 rfl) (wd hw 6 rfl) (wd hw 20 rfl) (by decide) pd_2 rfl rfl rfl (by decide) (by decide) (ce' := 2) (sl' := 10) rfl rfl (by decide) (by decide) at_107 (pc' := 110) rfl rfl ?_
    intro h_110 q_111
    obtain ⟨E_112, F_113, F_114, A_115⟩ := q_111
    refine go_iload C at_110 (pc' := 112) rfl rfl ?_
    refine go_if0 C (1 : Int) (by decide) at_112 (by decide) (pc' := 119) (by decide) (pcN := 115) rfl (fun (c_116 : ¬ 0 < (1 : Int)) => by omega) (fun (c_116 : 0 < (1 : Int)) => ?_)
    refine go_iconst C (1 : Int32) at_115 (pc' := 116) rfl (by decide) ?_
    refine go_goto C at_116 (by decide) (pc' := 120) (by decide) ?_
    refine go_istore C (Ls' := #[.val (.int x0), .val (.int x1), .val (.int x2), .val (.int x3), .val (.int x4), .val (.int x5), .val (.int (1 : Int32)), .val (.int v0), .val (.int v1), .val (.int v2), .val (.int v3), .val (.ref a_82), .val (.int (1 : Int32)), .unset, .unset, .unset, .unset, .unset, .unset]) at_120 (pc' := 122) rfl rfl ?_
    refine go_iload C at_122 (pc' := 124) rfl rfl ?_
    refine go_iconst C (1 : Int32) at_124 (pc' := 125) rfl (by decide) ?_
    refine go_icmp C (1 : Int) (1 : Int) (by decide) (by decide) at_125 (by decide) (pc' := 139) (by decide) (pcN := 128) rfl (fun (c_117 : ¬ (1 : Int) < (1 : Int)) => ?_) (fun (c_117 : (1 : Int) < (1 : Int)) => by omega)
    refine go_iconst C (0 : Int32) at_139 (pc' := 140) rfl (by decide) ?_
    refine go_istore C (Ls' := #[.val (.int x0), .val (.int x1), .val (.int x2), .val (.int x3), .val (.int x4), .val (.int x5), .val (.int (1 : Int32)), .val (.int v0), .val (.int v1), .val (.int v2), .val (.int v3), .val (.ref a_82), .val (.int (1 : Int32)), .val (.int (0 : Int32)), .unset, .unset, .unset, .unset, .unset]) at_140 (pc' := 142) rfl rfl ?_
    refine go_iload C at_142 (pc' := 144) rfl rfl ?_
    refine go_iconst C (2 : Int32) at_144 (pc' := 145) rfl (by decide) ?_
    refine go_icmp C (1 : Int) (2 : Int) (by decide) (by decide) at_145 (by decide) (pc' := 166) (by decide) (pcN := 148) rfl (fun (c_118 : ¬ (2 : Int) < (1 : Int)) => ?_) (fun (c_118 : (2 : Int) < (1 : Int)) => by omega)
    refine go_iconst C (0 : Int32) at_166 (pc' := 167) rfl (by decide) ?_
    refine go_istore C (Ls' := #[.val (.int x0), .val (.int x1), .val (.int x2), .val (.int x3), .val (.int x4), .val (.int x5), .val (.int (1 : Int32)), .val (.int v0), .val (.int v1), .val (.int v2), .val (.int v3), .val (.ref a_82), .val (.int (1 : Int32)), .val (.int (0 : Int32)), .val (.int (0 : Int32)), .unset, .unset, .unset, .unset]) at_167 (pc' := 169) rfl rfl ?_
    refine go_iload C at_169 (pc' := 171) rfl rfl ?_
    refine go_iconst C (3 : Int32) at_171 (pc' := 172) rfl (by decide) ?_
    refine go_icmp C (1 : Int) (3 : Int) (by decide) (by decide) at_172 (by decide) (pc' := 200) (by decide) (pcN := 175) rfl (fun (c_119 : ¬ (3 : Int) < (1 : Int)) => ?_) (fun (c_119 : (3 : Int) < (1 : Int)) => by omega)
    refine go_iconst C (0 : Int32) at_200 (pc' := 201) rfl (by decide) ?_
    refine go_istore C (Ls' := #[.val (.int x0), .val (.int x1), .val (.int x2), .val (.int x3), .val (.int x4), .val (.int x5), .val (.int (1 : Int32)), .val (.int v0), .val (.int v1), .val (.int v2), .val (.int v3), .val (.ref a_82), .val (.int (1 : Int32)), .val (.int (0 : Int32)), .val (.int (0 : Int32)), .val (.int (0 : Int32)), .unset, .unset, .unset]) at_201 (pc' := 203) rfl rfl ?_
    refine go_iconst C (4 : Int32) at_203 (pc' := 204) rfl (by decide) ?_
    refine go_newarray C (wd hw 13 rfl) rfl 4 4 (by decide) (by decide) (by decide) (ce' := 3) (sl' := 14) rfl rfl (by decide) (by decide) at_204 (pc' := 206) rfl ?_
    intro h_120 a_121 g_122 E_123 A_124
    have n_125 : a_82 ≠ a_121 := own_ne_new E_112.lt g_122
    have n_126 : r_93 ≠ a_121 := own_ne_new A_115.lt g_122
    have g_127 : Z.heap.size ≤ a_121 := own_ge (Nat.le_of_lt (Nat.lt_of_le_of_lt g_87 E_112.lt)) g_122
    have F_128 := Fld.ext E_123 F_113
    have F_129 := Fld.ext E_123 F_114
    have E_130 := Exa.ext E_123 E_112
    have A_131 := Av.ext A_115 E_123
    have z_132 : Z.heap.size ≤ h_120.size := Nat.le_trans (Nat.le_of_lt (Nat.lt_of_le_of_lt g_87 E_112.lt)) E_123.1
    have A_133 : Av Z h_120 a_121 .int [.int (0 : Int32), .int (0 : Int32), .int (0 : Int32), .int (0 : Int32)] := A_124
    refine go_astore C (Ls' := #[.val (.int x0), .val (.int x1), .val (.int x2), .val (.int x3), .val (.int x4), .val (.int x5), .val (.int (1 : Int32)), .val (.int v0), .val (.int v1), .val (.int v2), .val (.int v3), .val (.ref a_82), .val (.int (1 : Int32)), .val (.int (0 : Int32)), .val (.int (0 : Int32)), .val (.int (0 : Int32)), .val (.ref a_121), .unset, .unset]) at_206 (pc' := 208) rfl rfl rfl ?_
    refine go_iconst C (0 : Int32) at_208 (pc' := 209) rfl (by decide) ?_
    refine go_istore C (Ls' := #[.val (.int x0), .val (.int x1), .val (.int x2), .val (.int x3), .val (.int x4), .val (.int x5), .val (.int (1 : Int32)), .val (.int v0), .val (.int v1), .val (.int v2), .val (.int v3), .val (.ref a_82), .val (.int (1 : Int32)), .val (.int (0 : Int32)), .val (.int (0 : Int32)), .val (.int (0 : Int32)), .val (.ref a_121), .val (.int (0 : Int32)), .unset]) at_209 (pc' := 211) rfl rfl ?_
    refine go_iload C at_211 (pc' := 213) rfl rfl ?_
    refine go_if0 C (1 : Int) (by decide) at_213 (by decide) (pc' := 226) (by decide) (pcN := 216) rfl (fun (c_134 : (1 : Int) = 0) => by omega) (fun (c_134 : ¬ (1 : Int) = 0) => ?_)
    refine go_aload C at_216 (pc' := 218) rfl rfl rfl ?_
    refine go_iload C at_218 (pc' := 220) rfl rfl ?_
    refine go_iload C at_220 (pc' := 222) rfl rfl ?_
    refine go_iastore C A_133 0 (by decide) (show 0 < 4 from by decide) g_127 at_222 (pc' := 223) rfl ?_
    intro h_135 W_136 A_137
    have z_138 : Z.heap.size ≤ h_135.size := W_136.size.symm ▸ z_132
    have F_139 := Fld.other W_136 F_128 (Or.inl n_125)
    have F_140 := Fld.other W_136 F_129 (Or.inl n_125)
    have E_141 := Exa.wr W_136 E_130
    have A_142 := Av.other A_131 W_136 n_126
    have A_143 : Av Z h_135 a_121 .int [.int v0, .int (0 : Int32), .int (0 : Int32), .int (0 : Int32)] := A_137
    refine go_iinc C (Ls' := #[.val (.int x0), .val (.int x1), .val (.int x2), .val (.int x3), .val (.int x4), .val (.int x5), .val (.int (1 : Int32)), .val (.int v0), .val (.int v1), .val (.int v2), .val (.int v3), .val (.ref a_82), .val (.int (1 : Int32)), .val (.int (0 : Int32)), .val (.int (0 : Int32)), .val (.int (0 : Int32)), .val (.ref a_121), .val (.int ((0 : Int32) + (1 : Int32))), .unset]) (1 : Int32) at_223 (pc' := 226) rfl (by decide) rfl rfl ?_
    rw [(by decide : (0 : Int32) + (1 : Int32) = (1 : Int32))]
    refine go_iload C at_226 (pc' := 228) rfl rfl ?_
    refine go_if0 C (0 : Int) (by decide) at_228 (by decide) (pc' := 241) (by decide) (pcN := 231) rfl (fun (c_144 : (0 : Int) = 0) => ?_) (fun (c_144 : ¬ (0 : Int) = 0) => by omega)
    refine go_iload C at_241 (pc' := 243) rfl rfl ?_
    refine go_if0 C (0 : Int) (by decide) at_243 (by decide) (pc' := 256) (by decide) (pcN := 246) rfl (fun (c_145 : (0 : Int) = 0) => ?_) (fun (c_145 : ¬ (0 : Int) = 0) => by omega)
    refine go_iload C at_256 (pc' := 258) rfl rfl ?_
    refine go_if0 C (0 : Int) (by decide) at_258 (by decide) (pc' := 271) (by decide) (pcN := 261) rfl (fun (c_146 : (0 : Int) = 0) => ?_) (fun (c_146 : ¬ (0 : Int) = 0) => by omega)
    refine go_aload C at_271 (pc' := 273) rfl rfl rfl ?_
    refine go_virtualP C (as := []) (rest := []) (W := 0) (.int (1 : Int32)) (sat_size l Z a0 hw a_82 _ _ _ F_140) E_141 (wd hw 23 rfl) (wd hw 24 rfl) (wd hw 26 rfl) (wd hw 25 rfl) (wd hw 6 rfl) (wd hw 27 rfl) (by decide) pd_3 rfl rfl rfl (by decide) (by decide) rfl rfl (by decide) (by decide) at_273 (pc' := 276) rfl rfl ?_
    refine go_iload C at_276 (pc' := 278) rfl rfl ?_
    refine go_icmp C (1 : Int) (1 : Int) (by decide) (by decide) at_278 (by decide) (pc' := 283) (by decide) (pcN := 281) rfl (fun (c_147 : (1 : Int) = (1 : Int)) => ?_) (fun (c_147 : ¬ (1 : Int) = (1 : Int)) => by omega)
    refine go_iconst C (1 : Int32) at_283 (pc' := 284) rfl (by decide) ?_
    refine go_istore C (Ls' := #[.val (.int x0), .val (.int x1), .val (.int x2), .val (.int x3), .val (.int x4), .val (.int x5), .val (.int (1 : Int32)), .val (.int v0), .val (.int v1), .val (.int v2), .val (.int v3), .val (.ref a_82), .val (.int (1 : Int32)), .val (.int (0 : Int32)), .val (.int (0 : Int32)), .val (.int (0 : Int32)), .val (.ref a_121), .val (.int (1 : Int32)), .val (.int (1 : Int32))]) at_284 (pc' := 286) rfl rfl ?_
    refine go_iload C at_286 (pc' := 288) rfl rfl ?_
    refine go_if0 C (1 : Int) (by decide) at_288 (by decide) (pc' := 316) (by decide) (pcN := 291) rfl (fun (c_148 : ¬ 0 < (1 : Int)) => by omega) (fun (c_148 : 0 < (1 : Int)) => ?_)
    refine go_iload C at_291 (pc' := 293) rfl rfl ?_
    refine go_if0 C (1 : Int) (by decide) at_293 (by decide) (pc' := 313) (by decide) (pcN := 296) rfl (fun (c_149 : (1 : Int) = 0) => by omega) (fun (c_149 : ¬ (1 : Int) = 0) => ?_)
    refine go_aload C at_296 (pc' := 298) rfl rfl rfl ?_
    refine go_iconst C (0 : Int32) at_298 (pc' := 299) rfl (by decide) ?_
    refine go_virtualP C (as := [.int (0 : Int32)]) (rest := []) (W := 0) (.int v0) (sat_get l Z a0 hw a_82 r_93 (0 : Int32) v0 0 [.int v0, .int (0 : Int32), .int (0 : Int32), .int (0 : Int32), .int (0 : Int32), .int (0 : Int32), .int (0 : Int32), .int (0 : Int32)] _ _ F_139 A_142 (by decide) rfl) E_141 (wd hw 33 rfl) (wd hw 34 rfl) (wd hw 36 rfl) (wd hw 35 rfl) (wd hw 6 rfl) (wd hw 37 rfl) (by decide) pd_5 rfl rfl rfl (by decide) (by decide) rfl rfl (by decide) (by decide) at_299 (pc' := 302) rfl rfl ?_
    refine go_aload C at_302 (pc' := 304) rfl rfl rfl ?_
    refine go_iconst C (0 : Int32) at_304 (pc' := 305) rfl (by decide) ?_
    refine go_iaload C A_143 0 (.int v0) (by decide) rfl at_305 (pc' := 306) rfl ?_
    refine go_icmp C v0.toInt v0.toInt rfl rfl at_306 (by decide) (pc' := 313) (by decide) (pcN := 309) rfl (fun (c_150 : ¬ v0.toInt = v0.toInt) => by omega) (fun (c_150 : v0.toInt = v0.toInt) => ?_)
    refine go_iconst C (1 : Int32) at_309 (pc' := 310) rfl (by decide) ?_
    refine go_goto C at_310 (by decide) (pc' := 314) (by decide) ?_
    refine go_istore C (Ls' := #[.val (.int x0), .val (.int x1), .val (.int x2), .val (.int x3), .val (.int x4), .val (.int x5), .val (.int (1 : Int32)), .val (.int v0), .val (.int v1), .val (.int v2), .val (.int v3), .val (.ref a_82), .val (.int (1 : Int32)), .val (.int (0 : Int32)), .val (.int (0 : Int32)), .val (.int (0 : Int32)), .val (.ref a_121), .val (.int (1 : Int32)), .val (.int (1 : Int32))]) at_314 (pc' := 316) rfl rfl ?_
    refine go_iload C at_316 (pc' := 318) rfl rfl ?_
    refine go_iconst C (1 : Int32) at_318 (pc' := 319) rfl (by decide) ?_
    refine go_icmp C (1 : Int) (1 : Int) (by decide) (by decide) at_319 (by decide) (pc' := 347) (by decide) (pcN := 322) rfl (fun (c_151 : ¬ (1 : Int) < (1 : Int)) => ?_) (fun (c_151 : (1 : Int) < (1 : Int)) => by omega)
    refine go_iload C at_347 (pc' := 349) rfl rfl ?_
    refine go_iconst C (2 : Int32) at_349 (pc' := 350) rfl (by decide) ?_
    refine go_icmp C (1 : Int) (2 : Int) (by decide) (by decide) at_350 (by decide) (pc' := 378) (by decide) (pcN := 353) rfl (fun (c_152 : ¬ (2 : Int) < (1 : Int)) => ?_) (fun (c_152 : (2 : Int) < (1 : Int)) => by omega)
    refine go_iload C at_378 (pc' := 380) rfl rfl ?_
    refine go_iconst C (3 : Int32) at_380 (pc' := 381) rfl (by decide) ?_
    refine go_icmp C (1 : Int) (3 : Int) (by decide) (by decide) at_381 (by decide) (pc' := 409) (by decide) (pcN := 384) rfl (fun (c_153 : ¬ (3 : Int) < (1 : Int)) => ?_) (fun (c_153 : (3 : Int) < (1 : Int)) => by omega)
    refine go_iload C at_409 (pc' := 411) rfl rfl ?_
    refine go_ireturnN C (z' := (1 : Int32)) rfl (by simp) rfl at_411 (by decide) (by decide) ?_
    exact ⟨_, rfl, rfl⟩
  · rw [hn]
    refine go_iloadN C at_8 (pc' := 9) rfl rfl ?_
    refine go_iload C at_9 (pc' := 11) rfl rfl ?_
    refine go_iconst C (0 : Int32) at_11 (pc' := 12) rfl (by decide) ?_
    refine go_staticV C (as := [.int x1, .int x5, .int (0 : Int32)]) (rest := []) (W := 0) (sat_pick l Z a0 hw x1 x5 (0 : Int32) _ _) (wd hw 0 rfl) (wd hw 1 rfl) (wd hw 2 rfl) (wd hw 3 rfl) (by decide) pd_1 rfl rfl rfl (by decide) (by decide) (ce' := 0) (sl' := 0) rfl rfl (by decide) (by decide) at_12 (pc' := 15) rfl rfl ?_
    intro r_154 h_155 e_156
    obtain ⟨⟨v0, rfl⟩, e_156⟩ := e_156
    rw [e_156]
    clear e_156
    refine go_istore C (Ls' := #[.val (.int x0), .val (.int x1), .val (.int x2), .val (.int x3), .val (.int x4), .val (.int x5), .val (.int (2 : Int32)), .val (.int v0), .unset, .unset, .unset, .unset, .unset, .unset, .unset, .unset, .unset, .unset, .unset]) at_15 (pc' := 17) rfl rfl ?_
    refine go_iloadN C at_17 (pc' := 18) rfl rfl ?_
    refine go_iload C at_18 (pc' := 20) rfl rfl ?_
    refine go_iconst C (1 : Int32) at_20 (pc' := 21) rfl (by decide) ?_
    refine go_staticV C (as := [.int x2, .int x5, .int (1 : Int32)]) (rest := []) (W := 0) (sat_pick l Z a0 hw x2 x5 (1 : Int32) _ _) (wd hw 0 rfl) (wd hw 1 rfl) (wd hw 2 rfl) (wd hw 3 rfl) (by decide) pd_1 rfl rfl rfl (by decide) (by decide) (ce' := 0) (sl' := 0) rfl rfl (by decide) (by decide) at_21 (pc' := 24) rfl rfl ?_
    intro r_157 h_158 e_159
    obtain ⟨⟨v1, rfl⟩, e_159⟩ := e_159
    rw [e_159]
    clear e_159
    refine go_istore C (Ls' := #[.val (.int x0), .val (.int x1), .val (.int x2), .val (.int x3), .val (.int x4), .val (.int x5), .val (.int (2 : Int32)), .val (.int v0), .val (.int v1), .unset, .unset, .unset, .unset, .unset, .unset, .unset, .unset, .unset, .unset]) at_24 (pc' := 26) rfl rfl ?_
    refine go_iloadN C at_26 (pc' := 27) rfl rfl ?_
    refine go_iload C at_27 (pc' := 29) rfl rfl ?_
    refine go_iconst C (2 : Int32) at_29 (pc' := 30) rfl (by decide) ?_
    refine go_staticV C (as := [.int x3, .int x5, .int (2 : Int32)]) (rest := []) (W := 0) (sat_pick l Z a0 hw x3 x5 (2 : Int32) _ _) (wd hw 0 rfl) (wd hw 1 rfl) (wd hw 2 rfl) (wd hw 3 rfl) (by decide) pd_1 rfl rfl rfl (by decide) (by decide) (ce' := 0) (sl' := 0) rfl rfl (by decide) (by decide) at_30 (pc' := 33) rfl rfl ?_
    intro r_160 h_161 e_162
    obtain ⟨⟨v2, rfl⟩, e_162⟩ := e_162
    rw [e_162]
    clear e_162
    refine go_istore C (Ls' := #[.val (.int x0), .val (.int x1), .val (.int x2), .val (.int x3), .val (.int x4), .val (.int x5), .val (.int (2 : Int32)), .val (.int v0), .val (.int v1), .val (.int v2), .unset, .unset, .unset, .unset, .unset, .unset, .unset, .unset, .unset]) at_33 (pc' := 35) rfl rfl ?_
    refine go_iload C at_35 (pc' := 37) rfl rfl ?_
    refine go_iload C at_37 (pc' := 39) rfl rfl ?_
    refine go_iconst C (3 : Int32) at_39 (pc' := 40) rfl (by decide) ?_
    refine go_staticV C (as := [.int x4, .int x5, .int (3 : Int32)]) (rest := []) (W := 0) (sat_pick l Z a0 hw x4 x5 (3 : Int32) _ _) (wd hw 0 rfl) (wd hw 1 rfl) (wd hw 2 rfl) (wd hw 3 rfl) (by decide) pd_1 rfl rfl rfl (by decide) (by decide) (ce' := 0) (sl' := 0) rfl rfl (by decide) (by decide) at_40 (pc' := 43) rfl rfl ?_
    intro r_163 h_164 e_165
    obtain ⟨⟨v3, rfl⟩, e_165⟩ := e_165
    rw [e_165]
    clear e_165
    refine go_istore C (Ls' := #[.val (.int x0), .val (.int x1), .val (.int x2), .val (.int x3), .val (.int x4), .val (.int x5), .val (.int (2 : Int32)), .val (.int v0), .val (.int v1), .val (.int v2), .val (.int v3), .unset, .unset, .unset, .unset, .unset, .unset, .unset, .unset]) at_43 (pc' := 45) rfl rfl ?_
    refine go_new C (wd hw 4 rfl) (wd hw 5 rfl) (wd hw 6 rfl) at_45 (pc' := 48) rfl (ce' := 1) (sl' := 2) rfl rfl (by decide) (by decide) ?_
    intro h_166 a_167 g_168 E_169 E_170 D_171
    have g_172 : Z.heap.size ≤ a_167 := own_ge (Nat.le_refl _) g_168
    have z_173 : Z.heap.size ≤ h_166.size := Nat.le_trans (Nat.le_refl _) E_169.1
    have F_174 : Fld Z h_166 a_167 "com/example/inevitable_path/inevitablepath/smv/IntList" "values" "[I" (.null) := D_171 (Or.inl (wd hw 15 rfl)) (ty := (.array .int)) (by decide)
    have F_175 : Fld Z h_166 a_167 "com/example/inevitable_path/inevitablepath/smv/IntList" "size" "I" (.int (0 : Int32)) := D_171 (Or.inl (wd hw 22 rfl)) (ty := .int) (by decide)
    refine go_dup C at_48 (pc' := 49) rfl rfl ?_
    refine go_specialN C (as := []) (rest := [.ref a_167]) (W := 1) (sat_init l Z a0 hw a_167 _ _ E_170 F_174 F_175 g_172 z_173) rfl (wd hw 7 rfl) (wd hw 8 rfl) (wd hw 6 rfl) (wd hw 9 rfl) (by decide) pd_2 rfl rfl rfl (by decide) (by decide) (ce' := 2) (sl' := 10) rfl rfl (by decide) (by decide) at_49 (pc' := 52) rfl rfl ?_
    intro h_176 q_177
    obtain ⟨r_178, g_179, E_180, F_181, F_182, A_183⟩ := q_177
    have A_184 : Av Z h_176 r_178 .int [.int (0 : Int32), .int (0 : Int32), .int (0 : Int32), .int (0 : Int32), .int (0 : Int32), .int (0 : Int32), .int (0 : Int32), .int (0 : Int32)] := A_183
    refine go_astore C (Ls' := #[.val (.int x0), .val (.int x1), .val (.int x2), .val (.int x3), .val (.int x4), .val (.int x5), .val (.int (2 : Int32)), .val (.int v0), .val (.int v1), .val (.int v2), .val (.int v3), .val (.ref a_167), .unset, .unset, .unset, .unset, .unset, .unset, .unset]) at_52 (pc' := 54) rfl rfl rfl ?_
    refine go_iload C at_54 (pc' := 56) rfl rfl ?_
    refine go_if0 C (2 : Int) (by decide) at_56 (by decide) (pc' := 66) (by decide) (pcN := 59) rfl (fun (c_185 : ¬ 0 < (2 : Int)) => by omega) (fun (c_185 : 0 < (2 : Int)) => ?_)
    refine go_aload C at_59 (pc' := 61) rfl rfl rfl ?_
    refine go_iload C at_61 (pc' := 63) rfl rfl ?_
    refine go_virtualN C (as := [.int v0]) (rest := []) (W := 0) (sat_add l Z a0 hw a_167 r_178 v0 (0 : Int32) (8 : Int32) 0 [.int (0 : Int32), .int (0 : Int32), .int (0 : Int32), .int (0 : Int32), .int (0 : Int32), .int (0 : Int32), .int (0 : Int32), .int (0 : Int32)] [.int v0, .int (0 : Int32), .int (0 : Int32), .int (0 : Int32), .int (0 : Int32), .int (0 : Int32), .int (0 : Int32), .int (0 : Int32)] _ _ E_180 F_181 F_182 A_184 g_172 g_179 (by decide) (show 0 < 8 from by decide) rfl rfl) E_180 (wd hw 28 rfl) (wd hw 29 rfl) (wd hw 31 rfl) (wd hw 30 rfl) (wd hw 6 rfl) (wd hw 32 rfl) (by decide) pd_4 rfl rfl rfl (by decide) (by decide) (ce' := 2) (sl' := 10) rfl rfl (by decide) (by decide) at_63 (pc' := 66) rfl rfl ?_
    intro h_186 q_187
    rw [(by decide : (0 : Int32) + 1 = (1 : Int32))] at q_187
    obtain ⟨E_188, F_189, F_190, A_191⟩ := q_187
    refine go_iload C at_66 (pc' := 68) rfl rfl ?_
    refine go_iconst C (1 : Int32) at_68 (pc' := 69) rfl (by decide) ?_
    refine go_icmp C (2 : Int) (1 : Int) (by decide) (by decide) at_69 (by decide) (pc' := 79) (by decide) (pcN := 72) rfl (fun (c_192 : ¬ (1 : Int) < (2 : Int)) => by omega) (fun (c_192 : (1 : Int) < (2 : Int)) => ?_)
    refine go_aload C at_72 (pc' := 74) rfl rfl rfl ?_
    refine go_iload C at_74 (pc' := 76) rfl rfl ?_
    refine go_virtualN C (as := [.int v1]) (rest := []) (W := 0) (sat_add l Z a0 hw a_167 r_178 v1 (1 : Int32) (8 : Int32) 1 [.int v0, .int (0 : Int32), .int (0 : Int32), .int (0 : Int32), .int (0 : Int32), .int (0 : Int32), .int (0 : Int32), .int (0 : Int32)] [.int v0, .int v1, .int (0 : Int32), .int (0 : Int32), .int (0 : Int32), .int (0 : Int32), .int (0 : Int32), .int (0 : Int32)] _ _ E_188 F_189 F_190 A_191 g_172 g_179 (by decide) (show 1 < 8 from by decide) rfl rfl) E_188 (wd hw 28 rfl) (wd hw 29 rfl) (wd hw 31 rfl) (wd hw 30 rfl) (wd hw 6 rfl) (wd hw 32 rfl) (by decide) pd_4 rfl rfl rfl (by decide) (by decide) (ce' := 2) (sl' := 10) rfl rfl (by decide) (by decide) at_76 (pc' := 79) rfl rfl ?_
    intro h_193 q_194
    rw [(by decide : (1 : Int32) + 1 = (2 : Int32))] at q_194
    obtain ⟨E_195, F_196, F_197, A_198⟩ := q_194
    refine go_iload C at_79 (pc' := 81) rfl rfl ?_
    refine go_iconst C (2 : Int32) at_81 (pc' := 82) rfl (by decide) ?_
    refine go_icmp C (2 : Int) (2 : Int) (by decide) (by decide) at_82 (by decide) (pc' := 92) (by decide) (pcN := 85) rfl (fun (c_199 : ¬ (2 : Int) < (2 : Int)) => ?_) (fun (c_199 : (2 : Int) < (2 : Int)) => by omega)
    refine go_iload C at_92 (pc' := 94) rfl rfl ?_
    refine go_iconst C (3 : Int32) at_94 (pc' := 95) rfl (by decide) ?_
    refine go_icmp C (2 : Int) (3 : Int) (by decide) (by decide) at_95 (by decide) (pc' := 105) (by decide) (pcN := 98) rfl (fun (c_200 : ¬ (3 : Int) < (2 : Int)) => ?_) (fun (c_200 : (3 : Int) < (2 : Int)) => by omega)
    refine go_aload C at_105 (pc' := 107) rfl rfl rfl ?_
    rcases (by omega : (¬ v1.toInt = v0.toInt) ∨ (v1.toInt = v0.toInt)) with hf1 | hf1
    · skip
      refine go_virtualN C (as := []) (rest := []) (W := 0) (sat_rd2t l Z a0 hw a_167 r_178 v0 v1 _ _ hf1 E_195 F_196 F_197 A_198 g_172 g_179) E_195 (wd hw 16 rfl) (wd hw 17 rfl) (wd hw 19 rfl) (wd hw 18 rfl) (wd hw 6 rfl) (wd hw 20 rfl) (by decide) pd_2 rfl rfl rfl (by decide) (by decide) (ce' := 2) (sl' := 10) rfl rfl (by decide) (by decide) at_107 (pc' := 110) rfl rfl ?_
      intro h_201 q_202
      obtain ⟨E_203, F_204, F_205, A_206⟩ := q_202
      refine go_iload C at_110 (pc' := 112) rfl rfl ?_
      refine go_if0 C (2 : Int) (by decide) at_112 (by decide) (pc' := 119) (by decide) (pcN := 115) rfl (fun (c_207 : ¬ 0 < (2 : Int)) => by omega) (fun (c_207 : 0 < (2 : Int)) => ?_)
      refine go_iconst C (1 : Int32) at_115 (pc' := 116) rfl (by decide) ?_
      refine go_goto C at_116 (by decide) (pc' := 120) (by decide) ?_
      refine go_istore C (Ls' := #[.val (.int x0), .val (.int x1), .val (.int x2), .val (.int x3), .val (.int x4), .val (.int x5), .val (.int (2 : Int32)), .val (.int v0), .val (.int v1), .val (.int v2), .val (.int v3), .val (.ref a_167), .val (.int (1 : Int32)), .unset, .unset, .unset, .unset, .unset, .unset]) at_120 (pc' := 122) rfl rfl ?_
      refine go_iload C at_122 (pc' := 124) rfl rfl ?_
      refine go_iconst C (1 : Int32) at_124 (pc' := 125) rfl (by decide) ?_
      refine go_icmp C (2 : Int) (1 : Int) (by decide) (by decide) at_125 (by decide) (pc' := 139) (by decide) (pcN := 128) rfl (fun (c_208 : ¬ (1 : Int) < (2 : Int)) => by omega) (fun (c_208 : (1 : Int) < (2 : Int)) => ?_)
      refine go_iload C at_128 (pc' := 130) rfl rfl ?_
      refine go_iload C at_130 (pc' := 132) rfl rfl ?_
      refine go_icmp C v1.toInt v0.toInt rfl rfl at_132 (by decide) (pc' := 139) (by decide) (pcN := 135) rfl (fun (c_209 : v1.toInt = v0.toInt) => by omega) (fun (c_209 : ¬ v1.toInt = v0.toInt) => ?_)
      refine go_iconst C (1 : Int32) at_135 (pc' := 136) rfl (by decide) ?_
      refine go_goto C at_136 (by decide) (pc' := 140) (by decide) ?_
      refine go_istore C (Ls' := #[.val (.int x0), .val (.int x1), .val (.int x2), .val (.int x3), .val (.int x4), .val (.int x5), .val (.int (2 : Int32)), .val (.int v0), .val (.int v1), .val (.int v2), .val (.int v3), .val (.ref a_167), .val (.int (1 : Int32)), .val (.int (1 : Int32)), .unset, .unset, .unset, .unset, .unset]) at_140 (pc' := 142) rfl rfl ?_
      refine go_iload C at_142 (pc' := 144) rfl rfl ?_
      refine go_iconst C (2 : Int32) at_144 (pc' := 145) rfl (by decide) ?_
      refine go_icmp C (2 : Int) (2 : Int) (by decide) (by decide) at_145 (by decide) (pc' := 166) (by decide) (pcN := 148) rfl (fun (c_210 : ¬ (2 : Int) < (2 : Int)) => ?_) (fun (c_210 : (2 : Int) < (2 : Int)) => by omega)
      refine go_iconst C (0 : Int32) at_166 (pc' := 167) rfl (by decide) ?_
      refine go_istore C (Ls' := #[.val (.int x0), .val (.int x1), .val (.int x2), .val (.int x3), .val (.int x4), .val (.int x5), .val (.int (2 : Int32)), .val (.int v0), .val (.int v1), .val (.int v2), .val (.int v3), .val (.ref a_167), .val (.int (1 : Int32)), .val (.int (1 : Int32)), .val (.int (0 : Int32)), .unset, .unset, .unset, .unset]) at_167 (pc' := 169) rfl rfl ?_
      refine go_iload C at_169 (pc' := 171) rfl rfl ?_
      refine go_iconst C (3 : Int32) at_171 (pc' := 172) rfl (by decide) ?_
      refine go_icmp C (2 : Int) (3 : Int) (by decide) (by decide) at_172 (by decide) (pc' := 200) (by decide) (pcN := 175) rfl (fun (c_211 : ¬ (3 : Int) < (2 : Int)) => ?_) (fun (c_211 : (3 : Int) < (2 : Int)) => by omega)
      refine go_iconst C (0 : Int32) at_200 (pc' := 201) rfl (by decide) ?_
      refine go_istore C (Ls' := #[.val (.int x0), .val (.int x1), .val (.int x2), .val (.int x3), .val (.int x4), .val (.int x5), .val (.int (2 : Int32)), .val (.int v0), .val (.int v1), .val (.int v2), .val (.int v3), .val (.ref a_167), .val (.int (1 : Int32)), .val (.int (1 : Int32)), .val (.int (0 : Int32)), .val (.int (0 : Int32)), .unset, .unset, .unset]) at_201 (pc' := 203) rfl rfl ?_
      refine go_iconst C (4 : Int32) at_203 (pc' := 204) rfl (by decide) ?_
      refine go_newarray C (wd hw 13 rfl) rfl 4 4 (by decide) (by decide) (by decide) (ce' := 3) (sl' := 14) rfl rfl (by decide) (by decide) at_204 (pc' := 206) rfl ?_
      intro h_212 a_213 g_214 E_215 A_216
      have n_217 : a_167 ≠ a_213 := own_ne_new E_203.lt g_214
      have n_218 : r_178 ≠ a_213 := own_ne_new A_206.lt g_214
      have g_219 : Z.heap.size ≤ a_213 := own_ge (Nat.le_of_lt (Nat.lt_of_le_of_lt g_172 E_203.lt)) g_214
      have F_220 := Fld.ext E_215 F_204
      have F_221 := Fld.ext E_215 F_205
      have E_222 := Exa.ext E_215 E_203
      have A_223 := Av.ext A_206 E_215
      have z_224 : Z.heap.size ≤ h_212.size := Nat.le_trans (Nat.le_of_lt (Nat.lt_of_le_of_lt g_172 E_203.lt)) E_215.1
      have A_225 : Av Z h_212 a_213 .int [.int (0 : Int32), .int (0 : Int32), .int (0 : Int32), .int (0 : Int32)] := A_216
      refine go_astore C (Ls' := #[.val (.int x0), .val (.int x1), .val (.int x2), .val (.int x3), .val (.int x4), .val (.int x5), .val (.int (2 : Int32)), .val (.int v0), .val (.int v1), .val (.int v2), .val (.int v3), .val (.ref a_167), .val (.int (1 : Int32)), .val (.int (1 : Int32)), .val (.int (0 : Int32)), .val (.int (0 : Int32)), .val (.ref a_213), .unset, .unset]) at_206 (pc' := 208) rfl rfl rfl ?_
      refine go_iconst C (0 : Int32) at_208 (pc' := 209) rfl (by decide) ?_
      refine go_istore C (Ls' := #[.val (.int x0), .val (.int x1), .val (.int x2), .val (.int x3), .val (.int x4), .val (.int x5), .val (.int (2 : Int32)), .val (.int v0), .val (.int v1), .val (.int v2), .val (.int v3), .val (.ref a_167), .val (.int (1 : Int32)), .val (.int (1 : Int32)), .val (.int (0 : Int32)), .val (.int (0 : Int32)), .val (.ref a_213), .val (.int (0 : Int32)), .unset]) at_209 (pc' := 211) rfl rfl ?_
      refine go_iload C at_211 (pc' := 213) rfl rfl ?_
      refine go_if0 C (1 : Int) (by decide) at_213 (by decide) (pc' := 226) (by decide) (pcN := 216) rfl (fun (c_226 : (1 : Int) = 0) => by omega) (fun (c_226 : ¬ (1 : Int) = 0) => ?_)
      refine go_aload C at_216 (pc' := 218) rfl rfl rfl ?_
      refine go_iload C at_218 (pc' := 220) rfl rfl ?_
      refine go_iload C at_220 (pc' := 222) rfl rfl ?_
      refine go_iastore C A_225 0 (by decide) (show 0 < 4 from by decide) g_219 at_222 (pc' := 223) rfl ?_
      intro h_227 W_228 A_229
      have z_230 : Z.heap.size ≤ h_227.size := W_228.size.symm ▸ z_224
      have F_231 := Fld.other W_228 F_220 (Or.inl n_217)
      have F_232 := Fld.other W_228 F_221 (Or.inl n_217)
      have E_233 := Exa.wr W_228 E_222
      have A_234 := Av.other A_223 W_228 n_218
      have A_235 : Av Z h_227 a_213 .int [.int v0, .int (0 : Int32), .int (0 : Int32), .int (0 : Int32)] := A_229
      refine go_iinc C (Ls' := #[.val (.int x0), .val (.int x1), .val (.int x2), .val (.int x3), .val (.int x4), .val (.int x5), .val (.int (2 : Int32)), .val (.int v0), .val (.int v1), .val (.int v2), .val (.int v3), .val (.ref a_167), .val (.int (1 : Int32)), .val (.int (1 : Int32)), .val (.int (0 : Int32)), .val (.int (0 : Int32)), .val (.ref a_213), .val (.int ((0 : Int32) + (1 : Int32))), .unset]) (1 : Int32) at_223 (pc' := 226) rfl (by decide) rfl rfl ?_
      rw [(by decide : (0 : Int32) + (1 : Int32) = (1 : Int32))]
      refine go_iload C at_226 (pc' := 228) rfl rfl ?_
      refine go_if0 C (1 : Int) (by decide) at_228 (by decide) (pc' := 241) (by decide) (pcN := 231) rfl (fun (c_236 : (1 : Int) = 0) => by omega) (fun (c_236 : ¬ (1 : Int) = 0) => ?_)
      refine go_aload C at_231 (pc' := 233) rfl rfl rfl ?_
      refine go_iload C at_233 (pc' := 235) rfl rfl ?_
      refine go_iload C at_235 (pc' := 237) rfl rfl ?_
      refine go_iastore C A_235 1 (by decide) (show 1 < 4 from by decide) g_219 at_237 (pc' := 238) rfl ?_
      intro h_237 W_238 A_239
      have z_240 : Z.heap.size ≤ h_237.size := W_238.size.symm ▸ z_230
      have F_241 := Fld.other W_238 F_231 (Or.inl n_217)
      have F_242 := Fld.other W_238 F_232 (Or.inl n_217)
      have E_243 := Exa.wr W_238 E_233
      have A_244 := Av.other A_234 W_238 n_218
      have A_245 : Av Z h_237 a_213 .int [.int v0, .int v1, .int (0 : Int32), .int (0 : Int32)] := A_239
      refine go_iinc C (Ls' := #[.val (.int x0), .val (.int x1), .val (.int x2), .val (.int x3), .val (.int x4), .val (.int x5), .val (.int (2 : Int32)), .val (.int v0), .val (.int v1), .val (.int v2), .val (.int v3), .val (.ref a_167), .val (.int (1 : Int32)), .val (.int (1 : Int32)), .val (.int (0 : Int32)), .val (.int (0 : Int32)), .val (.ref a_213), .val (.int ((1 : Int32) + (1 : Int32))), .unset]) (1 : Int32) at_238 (pc' := 241) rfl (by decide) rfl rfl ?_
      rw [(by decide : (1 : Int32) + (1 : Int32) = (2 : Int32))]
      refine go_iload C at_241 (pc' := 243) rfl rfl ?_
      refine go_if0 C (0 : Int) (by decide) at_243 (by decide) (pc' := 256) (by decide) (pcN := 246) rfl (fun (c_246 : (0 : Int) = 0) => ?_) (fun (c_246 : ¬ (0 : Int) = 0) => by omega)
      refine go_iload C at_256 (pc' := 258) rfl rfl ?_
      refine go_if0 C (0 : Int) (by decide) at_258 (by decide) (pc' := 271) (by decide) (pcN := 261) rfl (fun (c_247 : (0 : Int) = 0) => ?_) (fun (c_247 : ¬ (0 : Int) = 0) => by omega)
      refine go_aload C at_271 (pc' := 273) rfl rfl rfl ?_
      refine go_virtualP C (as := []) (rest := []) (W := 0) (.int (2 : Int32)) (sat_size l Z a0 hw a_167 _ _ _ F_242) E_243 (wd hw 23 rfl) (wd hw 24 rfl) (wd hw 26 rfl) (wd hw 25 rfl) (wd hw 6 rfl) (wd hw 27 rfl) (by decide) pd_3 rfl rfl rfl (by decide) (by decide) rfl rfl (by decide) (by decide) at_273 (pc' := 276) rfl rfl ?_
      refine go_iload C at_276 (pc' := 278) rfl rfl ?_
      refine go_icmp C (2 : Int) (2 : Int) (by decide) (by decide) at_278 (by decide) (pc' := 283) (by decide) (pcN := 281) rfl (fun (c_248 : (2 : Int) = (2 : Int)) => ?_) (fun (c_248 : ¬ (2 : Int) = (2 : Int)) => by omega)
      refine go_iconst C (1 : Int32) at_283 (pc' := 284) rfl (by decide) ?_
      refine go_istore C (Ls' := #[.val (.int x0), .val (.int x1), .val (.int x2), .val (.int x3), .val (.int x4), .val (.int x5), .val (.int (2 : Int32)), .val (.int v0), .val (.int v1), .val (.int v2), .val (.int v3), .val (.ref a_167), .val (.int (1 : Int32)), .val (.int (1 : Int32)), .val (.int (0 : Int32)), .val (.int (0 : Int32)), .val (.ref a_213), .val (.int (2 : Int32)), .val (.int (1 : Int32))]) at_284 (pc' := 286) rfl rfl ?_
      refine go_iload C at_286 (pc' := 288) rfl rfl ?_
      refine go_if0 C (2 : Int) (by decide) at_288 (by decide) (pc' := 316) (by decide) (pcN := 291) rfl (fun (c_249 : ¬ 0 < (2 : Int)) => by omega) (fun (c_249 : 0 < (2 : Int)) => ?_)
      refine go_iload C at_291 (pc' := 293) rfl rfl ?_
      refine go_if0 C (1 : Int) (by decide) at_293 (by decide) (pc' := 313) (by decide) (pcN := 296) rfl (fun (c_250 : (1 : Int) = 0) => by omega) (fun (c_250 : ¬ (1 : Int) = 0) => ?_)
      refine go_aload C at_296 (pc' := 298) rfl rfl rfl ?_
      refine go_iconst C (0 : Int32) at_298 (pc' := 299) rfl (by decide) ?_
      refine go_virtualP C (as := [.int (0 : Int32)]) (rest := []) (W := 0) (.int v0) (sat_get l Z a0 hw a_167 r_178 (0 : Int32) v0 0 [.int v0, .int v1, .int (0 : Int32), .int (0 : Int32), .int (0 : Int32), .int (0 : Int32), .int (0 : Int32), .int (0 : Int32)] _ _ F_241 A_244 (by decide) rfl) E_243 (wd hw 33 rfl) (wd hw 34 rfl) (wd hw 36 rfl) (wd hw 35 rfl) (wd hw 6 rfl) (wd hw 37 rfl) (by decide) pd_5 rfl rfl rfl (by decide) (by decide) rfl rfl (by decide) (by decide) at_299 (pc' := 302) rfl rfl ?_
      refine go_aload C at_302 (pc' := 304) rfl rfl rfl ?_
      refine go_iconst C (0 : Int32) at_304 (pc' := 305) rfl (by decide) ?_
      refine go_iaload C A_245 0 (.int v0) (by decide) rfl at_305 (pc' := 306) rfl ?_
      refine go_icmp C v0.toInt v0.toInt rfl rfl at_306 (by decide) (pc' := 313) (by decide) (pcN := 309) rfl (fun (c_251 : ¬ v0.toInt = v0.toInt) => by omega) (fun (c_251 : v0.toInt = v0.toInt) => ?_)
      refine go_iconst C (1 : Int32) at_309 (pc' := 310) rfl (by decide) ?_
      refine go_goto C at_310 (by decide) (pc' := 314) (by decide) ?_
      refine go_istore C (Ls' := #[.val (.int x0), .val (.int x1), .val (.int x2), .val (.int x3), .val (.int x4), .val (.int x5), .val (.int (2 : Int32)), .val (.int v0), .val (.int v1), .val (.int v2), .val (.int v3), .val (.ref a_167), .val (.int (1 : Int32)), .val (.int (1 : Int32)), .val (.int (0 : Int32)), .val (.int (0 : Int32)), .val (.ref a_213), .val (.int (2 : Int32)), .val (.int (1 : Int32))]) at_314 (pc' := 316) rfl rfl ?_
      refine go_iload C at_316 (pc' := 318) rfl rfl ?_
      refine go_iconst C (1 : Int32) at_318 (pc' := 319) rfl (by decide) ?_
      refine go_icmp C (2 : Int) (1 : Int) (by decide) (by decide) at_319 (by decide) (pc' := 347) (by decide) (pcN := 322) rfl (fun (c_252 : ¬ (1 : Int) < (2 : Int)) => by omega) (fun (c_252 : (1 : Int) < (2 : Int)) => ?_)
      refine go_iload C at_322 (pc' := 324) rfl rfl ?_
      refine go_if0 C (1 : Int) (by decide) at_324 (by decide) (pc' := 344) (by decide) (pcN := 327) rfl (fun (c_253 : (1 : Int) = 0) => by omega) (fun (c_253 : ¬ (1 : Int) = 0) => ?_)
      refine go_aload C at_327 (pc' := 329) rfl rfl rfl ?_
      refine go_iconst C (1 : Int32) at_329 (pc' := 330) rfl (by decide) ?_
      refine go_virtualP C (as := [.int (1 : Int32)]) (rest := []) (W := 0) (.int v1) (sat_get l Z a0 hw a_167 r_178 (1 : Int32) v1 1 [.int v0, .int v1, .int (0 : Int32), .int (0 : Int32), .int (0 : Int32), .int (0 : Int32), .int (0 : Int32), .int (0 : Int32)] _ _ F_241 A_244 (by decide) rfl) E_243 (wd hw 33 rfl) (wd hw 34 rfl) (wd hw 36 rfl) (wd hw 35 rfl) (wd hw 6 rfl) (wd hw 37 rfl) (by decide) pd_5 rfl rfl rfl (by decide) (by decide) rfl rfl (by decide) (by decide) at_330 (pc' := 333) rfl rfl ?_
      refine go_aload C at_333 (pc' := 335) rfl rfl rfl ?_
      refine go_iconst C (1 : Int32) at_335 (pc' := 336) rfl (by decide) ?_
      refine go_iaload C A_245 1 (.int v1) (by decide) rfl at_336 (pc' := 337) rfl ?_
      refine go_icmp C v1.toInt v1.toInt rfl rfl at_337 (by decide) (pc' := 344) (by decide) (pcN := 340) rfl (fun (c_254 : ¬ v1.toInt = v1.toInt) => by omega) (fun (c_254 : v1.toInt = v1.toInt) => ?_)
      refine go_iconst C (1 : Int32) at_340 (pc' := 341) rfl (by decide) ?_
      refine go_goto C at_341 (by decide) (pc' := 345) (by decide) ?_
      refine go_istore C (Ls' := #[.val (.int x0), .val (.int x1), .val (.int x2), .val (.int x3), .val (.int x4), .val (.int x5), .val (.int (2 : Int32)), .val (.int v0), .val (.int v1), .val (.int v2), .val (.int v3), .val (.ref a_167), .val (.int (1 : Int32)), .val (.int (1 : Int32)), .val (.int (0 : Int32)), .val (.int (0 : Int32)), .val (.ref a_213), .val (.int (2 : Int32)), .val (.int (1 : Int32))]) at_345 (pc' := 347) rfl rfl ?_
      refine go_iload C at_347 (pc' := 349) rfl rfl ?_
      refine go_iconst C (2 : Int32) at_349 (pc' := 350) rfl (by decide) ?_
      refine go_icmp C (2 : Int) (2 : Int) (by decide) (by decide) at_350 (by decide) (pc' := 378) (by decide) (pcN := 353) rfl (fun (c_255 : ¬ (2 : Int) < (2 : Int)) => ?_) (fun (c_255 : (2 : Int) < (2 : Int)) => by omega)
      refine go_iload C at_378 (pc' := 380) rfl rfl ?_
      refine go_iconst C (3 : Int32) at_380 (pc' := 381) rfl (by decide) ?_
      refine go_icmp C (2 : Int) (3 : Int) (by decide) (by decide) at_381 (by decide) (pc' := 409) (by decide) (pcN := 384) rfl (fun (c_256 : ¬ (3 : Int) < (2 : Int)) => ?_) (fun (c_256 : (3 : Int) < (2 : Int)) => by omega)
      refine go_iload C at_409 (pc' := 411) rfl rfl ?_
      refine go_ireturnN C (z' := (1 : Int32)) rfl (by simp) rfl at_411 (by decide) (by decide) ?_
      exact ⟨_, rfl, rfl⟩
    · skip
      refine go_virtualN C (as := []) (rest := []) (W := 0) (sat_rd2f l Z a0 hw a_167 r_178 v0 v1 _ _ hf1 E_195 F_196 F_197 A_198 g_172 g_179) E_195 (wd hw 16 rfl) (wd hw 17 rfl) (wd hw 19 rfl) (wd hw 18 rfl) (wd hw 6 rfl) (wd hw 20 rfl) (by decide) pd_2 rfl rfl rfl (by decide) (by decide) (ce' := 2) (sl' := 10) rfl rfl (by decide) (by decide) at_107 (pc' := 110) rfl rfl ?_
      intro h_257 q_258
      obtain ⟨E_259, F_260, F_261, A_262⟩ := q_258
      refine go_iload C at_110 (pc' := 112) rfl rfl ?_
      refine go_if0 C (2 : Int) (by decide) at_112 (by decide) (pc' := 119) (by decide) (pcN := 115) rfl (fun (c_263 : ¬ 0 < (2 : Int)) => by omega) (fun (c_263 : 0 < (2 : Int)) => ?_)
      refine go_iconst C (1 : Int32) at_115 (pc' := 116) rfl (by decide) ?_
      refine go_goto C at_116 (by decide) (pc' := 120) (by decide) ?_
      refine go_istore C (Ls' := #[.val (.int x0), .val (.int x1), .val (.int x2), .val (.int x3), .val (.int x4), .val (.int x5), .val (.int (2 : Int32)), .val (.int v0), .val (.int v1), .val (.int v2), .val (.int v3), .val (.ref a_167), .val (.int (1 : Int32)), .unset, .unset, .unset, .unset, .unset, .unset]) at_120 (pc' := 122) rfl rfl ?_
      refine go_iload C at_122 (pc' := 124) rfl rfl ?_
      refine go_iconst C (1 : Int32) at_124 (pc' := 125) rfl (by decide) ?_
      refine go_icmp C (2 : Int) (1 : Int) (by decide) (by decide) at_125 (by decide) (pc' := 139) (by decide) (pcN := 128) rfl (fun (c_264 : ¬ (1 : Int) < (2 : Int)) => by omega) (fun (c_264 : (1 : Int) < (2 : Int)) => ?_)
      refine go_iload C at_128 (pc' := 130) rfl rfl ?_
      refine go_iload C at_130 (pc' := 132) rfl rfl ?_
      refine go_icmp C v1.toInt v0.toInt rfl rfl at_132 (by decide) (pc' := 139) (by decide) (pcN := 135) rfl (fun (c_265 : v1.toInt = v0.toInt) => ?_) (fun (c_265 : ¬ v1.toInt = v0.toInt) => by omega)
      refine go_iconst C (0 : Int32) at_139 (pc' := 140) rfl (by decide) ?_
      refine go_istore C (Ls' := #[.val (.int x0), .val (.int x1), .val (.int x2), .val (.int x3), .val (.int x4), .val (.int x5), .val (.int (2 : Int32)), .val (.int v0), .val (.int v1), .val (.int v2), .val (.int v3), .val (.ref a_167), .val (.int (1 : Int32)), .val (.int (0 : Int32)), .unset, .unset, .unset, .unset, .unset]) at_140 (pc' := 142) rfl rfl ?_
      refine go_iload C at_142 (pc' := 144) rfl rfl ?_
      refine go_iconst C (2 : Int32) at_144 (pc' := 145) rfl (by decide) ?_
      refine go_icmp C (2 : Int) (2 : Int) (by decide) (by decide) at_145 (by decide) (pc' := 166) (by decide) (pcN := 148) rfl (fun (c_266 : ¬ (2 : Int) < (2 : Int)) => ?_) (fun (c_266 : (2 : Int) < (2 : Int)) => by omega)
      refine go_iconst C (0 : Int32) at_166 (pc' := 167) rfl (by decide) ?_
      refine go_istore C (Ls' := #[.val (.int x0), .val (.int x1), .val (.int x2), .val (.int x3), .val (.int x4), .val (.int x5), .val (.int (2 : Int32)), .val (.int v0), .val (.int v1), .val (.int v2), .val (.int v3), .val (.ref a_167), .val (.int (1 : Int32)), .val (.int (0 : Int32)), .val (.int (0 : Int32)), .unset, .unset, .unset, .unset]) at_167 (pc' := 169) rfl rfl ?_
      refine go_iload C at_169 (pc' := 171) rfl rfl ?_
      refine go_iconst C (3 : Int32) at_171 (pc' := 172) rfl (by decide) ?_
      refine go_icmp C (2 : Int) (3 : Int) (by decide) (by decide) at_172 (by decide) (pc' := 200) (by decide) (pcN := 175) rfl (fun (c_267 : ¬ (3 : Int) < (2 : Int)) => ?_) (fun (c_267 : (3 : Int) < (2 : Int)) => by omega)
      refine go_iconst C (0 : Int32) at_200 (pc' := 201) rfl (by decide) ?_
      refine go_istore C (Ls' := #[.val (.int x0), .val (.int x1), .val (.int x2), .val (.int x3), .val (.int x4), .val (.int x5), .val (.int (2 : Int32)), .val (.int v0), .val (.int v1), .val (.int v2), .val (.int v3), .val (.ref a_167), .val (.int (1 : Int32)), .val (.int (0 : Int32)), .val (.int (0 : Int32)), .val (.int (0 : Int32)), .unset, .unset, .unset]) at_201 (pc' := 203) rfl rfl ?_
      refine go_iconst C (4 : Int32) at_203 (pc' := 204) rfl (by decide) ?_
      refine go_newarray C (wd hw 13 rfl) rfl 4 4 (by decide) (by decide) (by decide) (ce' := 3) (sl' := 14) rfl rfl (by decide) (by decide) at_204 (pc' := 206) rfl ?_
      intro h_268 a_269 g_270 E_271 A_272
      have n_273 : a_167 ≠ a_269 := own_ne_new E_259.lt g_270
      have n_274 : r_178 ≠ a_269 := own_ne_new A_262.lt g_270
      have g_275 : Z.heap.size ≤ a_269 := own_ge (Nat.le_of_lt (Nat.lt_of_le_of_lt g_172 E_259.lt)) g_270
      have F_276 := Fld.ext E_271 F_260
      have F_277 := Fld.ext E_271 F_261
      have E_278 := Exa.ext E_271 E_259
      have A_279 := Av.ext A_262 E_271
      have z_280 : Z.heap.size ≤ h_268.size := Nat.le_trans (Nat.le_of_lt (Nat.lt_of_le_of_lt g_172 E_259.lt)) E_271.1
      have A_281 : Av Z h_268 a_269 .int [.int (0 : Int32), .int (0 : Int32), .int (0 : Int32), .int (0 : Int32)] := A_272
      refine go_astore C (Ls' := #[.val (.int x0), .val (.int x1), .val (.int x2), .val (.int x3), .val (.int x4), .val (.int x5), .val (.int (2 : Int32)), .val (.int v0), .val (.int v1), .val (.int v2), .val (.int v3), .val (.ref a_167), .val (.int (1 : Int32)), .val (.int (0 : Int32)), .val (.int (0 : Int32)), .val (.int (0 : Int32)), .val (.ref a_269), .unset, .unset]) at_206 (pc' := 208) rfl rfl rfl ?_
      refine go_iconst C (0 : Int32) at_208 (pc' := 209) rfl (by decide) ?_
      refine go_istore C (Ls' := #[.val (.int x0), .val (.int x1), .val (.int x2), .val (.int x3), .val (.int x4), .val (.int x5), .val (.int (2 : Int32)), .val (.int v0), .val (.int v1), .val (.int v2), .val (.int v3), .val (.ref a_167), .val (.int (1 : Int32)), .val (.int (0 : Int32)), .val (.int (0 : Int32)), .val (.int (0 : Int32)), .val (.ref a_269), .val (.int (0 : Int32)), .unset]) at_209 (pc' := 211) rfl rfl ?_
      refine go_iload C at_211 (pc' := 213) rfl rfl ?_
      refine go_if0 C (1 : Int) (by decide) at_213 (by decide) (pc' := 226) (by decide) (pcN := 216) rfl (fun (c_282 : (1 : Int) = 0) => by omega) (fun (c_282 : ¬ (1 : Int) = 0) => ?_)
      refine go_aload C at_216 (pc' := 218) rfl rfl rfl ?_
      refine go_iload C at_218 (pc' := 220) rfl rfl ?_
      refine go_iload C at_220 (pc' := 222) rfl rfl ?_
      refine go_iastore C A_281 0 (by decide) (show 0 < 4 from by decide) g_275 at_222 (pc' := 223) rfl ?_
      intro h_283 W_284 A_285
      have z_286 : Z.heap.size ≤ h_283.size := W_284.size.symm ▸ z_280
      have F_287 := Fld.other W_284 F_276 (Or.inl n_273)
      have F_288 := Fld.other W_284 F_277 (Or.inl n_273)
      have E_289 := Exa.wr W_284 E_278
      have A_290 := Av.other A_279 W_284 n_274
      have A_291 : Av Z h_283 a_269 .int [.int v0, .int (0 : Int32), .int (0 : Int32), .int (0 : Int32)] := A_285
      refine go_iinc C (Ls' := #[.val (.int x0), .val (.int x1), .val (.int x2), .val (.int x3), .val (.int x4), .val (.int x5), .val (.int (2 : Int32)), .val (.int v0), .val (.int v1), .val (.int v2), .val (.int v3), .val (.ref a_167), .val (.int (1 : Int32)), .val (.int (0 : Int32)), .val (.int (0 : Int32)), .val (.int (0 : Int32)), .val (.ref a_269), .val (.int ((0 : Int32) + (1 : Int32))), .unset]) (1 : Int32) at_223 (pc' := 226) rfl (by decide) rfl rfl ?_
      rw [(by decide : (0 : Int32) + (1 : Int32) = (1 : Int32))]
      refine go_iload C at_226 (pc' := 228) rfl rfl ?_
      refine go_if0 C (0 : Int) (by decide) at_228 (by decide) (pc' := 241) (by decide) (pcN := 231) rfl (fun (c_292 : (0 : Int) = 0) => ?_) (fun (c_292 : ¬ (0 : Int) = 0) => by omega)
      refine go_iload C at_241 (pc' := 243) rfl rfl ?_
      refine go_if0 C (0 : Int) (by decide) at_243 (by decide) (pc' := 256) (by decide) (pcN := 246) rfl (fun (c_293 : (0 : Int) = 0) => ?_) (fun (c_293 : ¬ (0 : Int) = 0) => by omega)
      refine go_iload C at_256 (pc' := 258) rfl rfl ?_
      refine go_if0 C (0 : Int) (by decide) at_258 (by decide) (pc' := 271) (by decide) (pcN := 261) rfl (fun (c_294 : (0 : Int) = 0) => ?_) (fun (c_294 : ¬ (0 : Int) = 0) => by omega)
      refine go_aload C at_271 (pc' := 273) rfl rfl rfl ?_
      refine go_virtualP C (as := []) (rest := []) (W := 0) (.int (1 : Int32)) (sat_size l Z a0 hw a_167 _ _ _ F_288) E_289 (wd hw 23 rfl) (wd hw 24 rfl) (wd hw 26 rfl) (wd hw 25 rfl) (wd hw 6 rfl) (wd hw 27 rfl) (by decide) pd_3 rfl rfl rfl (by decide) (by decide) rfl rfl (by decide) (by decide) at_273 (pc' := 276) rfl rfl ?_
      refine go_iload C at_276 (pc' := 278) rfl rfl ?_
      refine go_icmp C (1 : Int) (1 : Int) (by decide) (by decide) at_278 (by decide) (pc' := 283) (by decide) (pcN := 281) rfl (fun (c_295 : (1 : Int) = (1 : Int)) => ?_) (fun (c_295 : ¬ (1 : Int) = (1 : Int)) => by omega)
      refine go_iconst C (1 : Int32) at_283 (pc' := 284) rfl (by decide) ?_
      refine go_istore C (Ls' := #[.val (.int x0), .val (.int x1), .val (.int x2), .val (.int x3), .val (.int x4), .val (.int x5), .val (.int (2 : Int32)), .val (.int v0), .val (.int v1), .val (.int v2), .val (.int v3), .val (.ref a_167), .val (.int (1 : Int32)), .val (.int (0 : Int32)), .val (.int (0 : Int32)), .val (.int (0 : Int32)), .val (.ref a_269), .val (.int (1 : Int32)), .val (.int (1 : Int32))]) at_284 (pc' := 286) rfl rfl ?_
      refine go_iload C at_286 (pc' := 288) rfl rfl ?_
      refine go_if0 C (1 : Int) (by decide) at_288 (by decide) (pc' := 316) (by decide) (pcN := 291) rfl (fun (c_296 : ¬ 0 < (1 : Int)) => by omega) (fun (c_296 : 0 < (1 : Int)) => ?_)
      refine go_iload C at_291 (pc' := 293) rfl rfl ?_
      refine go_if0 C (1 : Int) (by decide) at_293 (by decide) (pc' := 313) (by decide) (pcN := 296) rfl (fun (c_297 : (1 : Int) = 0) => by omega) (fun (c_297 : ¬ (1 : Int) = 0) => ?_)
      refine go_aload C at_296 (pc' := 298) rfl rfl rfl ?_
      refine go_iconst C (0 : Int32) at_298 (pc' := 299) rfl (by decide) ?_
      refine go_virtualP C (as := [.int (0 : Int32)]) (rest := []) (W := 0) (.int v0) (sat_get l Z a0 hw a_167 r_178 (0 : Int32) v0 0 [.int v0, .int v1, .int (0 : Int32), .int (0 : Int32), .int (0 : Int32), .int (0 : Int32), .int (0 : Int32), .int (0 : Int32)] _ _ F_287 A_290 (by decide) rfl) E_289 (wd hw 33 rfl) (wd hw 34 rfl) (wd hw 36 rfl) (wd hw 35 rfl) (wd hw 6 rfl) (wd hw 37 rfl) (by decide) pd_5 rfl rfl rfl (by decide) (by decide) rfl rfl (by decide) (by decide) at_299 (pc' := 302) rfl rfl ?_
      refine go_aload C at_302 (pc' := 304) rfl rfl rfl ?_
      refine go_iconst C (0 : Int32) at_304 (pc' := 305) rfl (by decide) ?_
      refine go_iaload C A_291 0 (.int v0) (by decide) rfl at_305 (pc' := 306) rfl ?_
      refine go_icmp C v0.toInt v0.toInt rfl rfl at_306 (by decide) (pc' := 313) (by decide) (pcN := 309) rfl (fun (c_298 : ¬ v0.toInt = v0.toInt) => by omega) (fun (c_298 : v0.toInt = v0.toInt) => ?_)
      refine go_iconst C (1 : Int32) at_309 (pc' := 310) rfl (by decide) ?_
      refine go_goto C at_310 (by decide) (pc' := 314) (by decide) ?_
      refine go_istore C (Ls' := #[.val (.int x0), .val (.int x1), .val (.int x2), .val (.int x3), .val (.int x4), .val (.int x5), .val (.int (2 : Int32)), .val (.int v0), .val (.int v1), .val (.int v2), .val (.int v3), .val (.ref a_167), .val (.int (1 : Int32)), .val (.int (0 : Int32)), .val (.int (0 : Int32)), .val (.int (0 : Int32)), .val (.ref a_269), .val (.int (1 : Int32)), .val (.int (1 : Int32))]) at_314 (pc' := 316) rfl rfl ?_
      refine go_iload C at_316 (pc' := 318) rfl rfl ?_
      refine go_iconst C (1 : Int32) at_318 (pc' := 319) rfl (by decide) ?_
      refine go_icmp C (1 : Int) (1 : Int) (by decide) (by decide) at_319 (by decide) (pc' := 347) (by decide) (pcN := 322) rfl (fun (c_299 : ¬ (1 : Int) < (1 : Int)) => ?_) (fun (c_299 : (1 : Int) < (1 : Int)) => by omega)
      refine go_iload C at_347 (pc' := 349) rfl rfl ?_
      refine go_iconst C (2 : Int32) at_349 (pc' := 350) rfl (by decide) ?_
      refine go_icmp C (1 : Int) (2 : Int) (by decide) (by decide) at_350 (by decide) (pc' := 378) (by decide) (pcN := 353) rfl (fun (c_300 : ¬ (2 : Int) < (1 : Int)) => ?_) (fun (c_300 : (2 : Int) < (1 : Int)) => by omega)
      refine go_iload C at_378 (pc' := 380) rfl rfl ?_
      refine go_iconst C (3 : Int32) at_380 (pc' := 381) rfl (by decide) ?_
      refine go_icmp C (1 : Int) (3 : Int) (by decide) (by decide) at_381 (by decide) (pc' := 409) (by decide) (pcN := 384) rfl (fun (c_301 : ¬ (3 : Int) < (1 : Int)) => ?_) (fun (c_301 : (3 : Int) < (1 : Int)) => by omega)
      refine go_iload C at_409 (pc' := 411) rfl rfl ?_
      refine go_ireturnN C (z' := (1 : Int32)) rfl (by simp) rfl at_411 (by decide) (by decide) ?_
      exact ⟨_, rfl, rfl⟩
  · rw [hn]
    refine go_iloadN C at_8 (pc' := 9) rfl rfl ?_
    refine go_iload C at_9 (pc' := 11) rfl rfl ?_
    refine go_iconst C (0 : Int32) at_11 (pc' := 12) rfl (by decide) ?_
    refine go_staticV C (as := [.int x1, .int x5, .int (0 : Int32)]) (rest := []) (W := 0) (sat_pick l Z a0 hw x1 x5 (0 : Int32) _ _) (wd hw 0 rfl) (wd hw 1 rfl) (wd hw 2 rfl) (wd hw 3 rfl) (by decide) pd_1 rfl rfl rfl (by decide) (by decide) (ce' := 0) (sl' := 0) rfl rfl (by decide) (by decide) at_12 (pc' := 15) rfl rfl ?_
    intro r_302 h_303 e_304
    obtain ⟨⟨v0, rfl⟩, e_304⟩ := e_304
    rw [e_304]
    clear e_304
    refine go_istore C (Ls' := #[.val (.int x0), .val (.int x1), .val (.int x2), .val (.int x3), .val (.int x4), .val (.int x5), .val (.int (3 : Int32)), .val (.int v0), .unset, .unset, .unset, .unset, .unset, .unset, .unset, .unset, .unset, .unset, .unset]) at_15 (pc' := 17) rfl rfl ?_
    refine go_iloadN C at_17 (pc' := 18) rfl rfl ?_
    refine go_iload C at_18 (pc' := 20) rfl rfl ?_
    refine go_iconst C (1 : Int32) at_20 (pc' := 21) rfl (by decide) ?_
    refine go_staticV C (as := [.int x2, .int x5, .int (1 : Int32)]) (rest := []) (W := 0) (sat_pick l Z a0 hw x2 x5 (1 : Int32) _ _) (wd hw 0 rfl) (wd hw 1 rfl) (wd hw 2 rfl) (wd hw 3 rfl) (by decide) pd_1 rfl rfl rfl (by decide) (by decide) (ce' := 0) (sl' := 0) rfl rfl (by decide) (by decide) at_21 (pc' := 24) rfl rfl ?_
    intro r_305 h_306 e_307
    obtain ⟨⟨v1, rfl⟩, e_307⟩ := e_307
    rw [e_307]
    clear e_307
    refine go_istore C (Ls' := #[.val (.int x0), .val (.int x1), .val (.int x2), .val (.int x3), .val (.int x4), .val (.int x5), .val (.int (3 : Int32)), .val (.int v0), .val (.int v1), .unset, .unset, .unset, .unset, .unset, .unset, .unset, .unset, .unset, .unset]) at_24 (pc' := 26) rfl rfl ?_
    refine go_iloadN C at_26 (pc' := 27) rfl rfl ?_
    refine go_iload C at_27 (pc' := 29) rfl rfl ?_
    refine go_iconst C (2 : Int32) at_29 (pc' := 30) rfl (by decide) ?_
    refine go_staticV C (as := [.int x3, .int x5, .int (2 : Int32)]) (rest := []) (W := 0) (sat_pick l Z a0 hw x3 x5 (2 : Int32) _ _) (wd hw 0 rfl) (wd hw 1 rfl) (wd hw 2 rfl) (wd hw 3 rfl) (by decide) pd_1 rfl rfl rfl (by decide) (by decide) (ce' := 0) (sl' := 0) rfl rfl (by decide) (by decide) at_30 (pc' := 33) rfl rfl ?_
    intro r_308 h_309 e_310
    obtain ⟨⟨v2, rfl⟩, e_310⟩ := e_310
    rw [e_310]
    clear e_310
    refine go_istore C (Ls' := #[.val (.int x0), .val (.int x1), .val (.int x2), .val (.int x3), .val (.int x4), .val (.int x5), .val (.int (3 : Int32)), .val (.int v0), .val (.int v1), .val (.int v2), .unset, .unset, .unset, .unset, .unset, .unset, .unset, .unset, .unset]) at_33 (pc' := 35) rfl rfl ?_
    refine go_iload C at_35 (pc' := 37) rfl rfl ?_
    refine go_iload C at_37 (pc' := 39) rfl rfl ?_
    refine go_iconst C (3 : Int32) at_39 (pc' := 40) rfl (by decide) ?_
    refine go_staticV C (as := [.int x4, .int x5, .int (3 : Int32)]) (rest := []) (W := 0) (sat_pick l Z a0 hw x4 x5 (3 : Int32) _ _) (wd hw 0 rfl) (wd hw 1 rfl) (wd hw 2 rfl) (wd hw 3 rfl) (by decide) pd_1 rfl rfl rfl (by decide) (by decide) (ce' := 0) (sl' := 0) rfl rfl (by decide) (by decide) at_40 (pc' := 43) rfl rfl ?_
    intro r_311 h_312 e_313
    obtain ⟨⟨v3, rfl⟩, e_313⟩ := e_313
    rw [e_313]
    clear e_313
    refine go_istore C (Ls' := #[.val (.int x0), .val (.int x1), .val (.int x2), .val (.int x3), .val (.int x4), .val (.int x5), .val (.int (3 : Int32)), .val (.int v0), .val (.int v1), .val (.int v2), .val (.int v3), .unset, .unset, .unset, .unset, .unset, .unset, .unset, .unset]) at_43 (pc' := 45) rfl rfl ?_
    refine go_new C (wd hw 4 rfl) (wd hw 5 rfl) (wd hw 6 rfl) at_45 (pc' := 48) rfl (ce' := 1) (sl' := 2) rfl rfl (by decide) (by decide) ?_
    intro h_314 a_315 g_316 E_317 E_318 D_319
    have g_320 : Z.heap.size ≤ a_315 := own_ge (Nat.le_refl _) g_316
    have z_321 : Z.heap.size ≤ h_314.size := Nat.le_trans (Nat.le_refl _) E_317.1
    have F_322 : Fld Z h_314 a_315 "com/example/inevitable_path/inevitablepath/smv/IntList" "values" "[I" (.null) := D_319 (Or.inl (wd hw 15 rfl)) (ty := (.array .int)) (by decide)
    have F_323 : Fld Z h_314 a_315 "com/example/inevitable_path/inevitablepath/smv/IntList" "size" "I" (.int (0 : Int32)) := D_319 (Or.inl (wd hw 22 rfl)) (ty := .int) (by decide)
    refine go_dup C at_48 (pc' := 49) rfl rfl ?_
    refine go_specialN C (as := []) (rest := [.ref a_315]) (W := 1) (sat_init l Z a0 hw a_315 _ _ E_318 F_322 F_323 g_320 z_321) rfl (wd hw 7 rfl) (wd hw 8 rfl) (wd hw 6 rfl) (wd hw 9 rfl) (by decide) pd_2 rfl rfl rfl (by decide) (by decide) (ce' := 2) (sl' := 10) rfl rfl (by decide) (by decide) at_49 (pc' := 52) rfl rfl ?_
    intro h_324 q_325
    obtain ⟨r_326, g_327, E_328, F_329, F_330, A_331⟩ := q_325
    have A_332 : Av Z h_324 r_326 .int [.int (0 : Int32), .int (0 : Int32), .int (0 : Int32), .int (0 : Int32), .int (0 : Int32), .int (0 : Int32), .int (0 : Int32), .int (0 : Int32)] := A_331
    refine go_astore C (Ls' := #[.val (.int x0), .val (.int x1), .val (.int x2), .val (.int x3), .val (.int x4), .val (.int x5), .val (.int (3 : Int32)), .val (.int v0), .val (.int v1), .val (.int v2), .val (.int v3), .val (.ref a_315), .unset, .unset, .unset, .unset, .unset, .unset, .unset]) at_52 (pc' := 54) rfl rfl rfl ?_
    refine go_iload C at_54 (pc' := 56) rfl rfl ?_
    refine go_if0 C (3 : Int) (by decide) at_56 (by decide) (pc' := 66) (by decide) (pcN := 59) rfl (fun (c_333 : ¬ 0 < (3 : Int)) => by omega) (fun (c_333 : 0 < (3 : Int)) => ?_)
    refine go_aload C at_59 (pc' := 61) rfl rfl rfl ?_
    refine go_iload C at_61 (pc' := 63) rfl rfl ?_
    refine go_virtualN C (as := [.int v0]) (rest := []) (W := 0) (sat_add l Z a0 hw a_315 r_326 v0 (0 : Int32) (8 : Int32) 0 [.int (0 : Int32), .int (0 : Int32), .int (0 : Int32), .int (0 : Int32), .int (0 : Int32), .int (0 : Int32), .int (0 : Int32), .int (0 : Int32)] [.int v0, .int (0 : Int32), .int (0 : Int32), .int (0 : Int32), .int (0 : Int32), .int (0 : Int32), .int (0 : Int32), .int (0 : Int32)] _ _ E_328 F_329 F_330 A_332 g_320 g_327 (by decide) (show 0 < 8 from by decide) rfl rfl) E_328 (wd hw 28 rfl) (wd hw 29 rfl) (wd hw 31 rfl) (wd hw 30 rfl) (wd hw 6 rfl) (wd hw 32 rfl) (by decide) pd_4 rfl rfl rfl (by decide) (by decide) (ce' := 2) (sl' := 10) rfl rfl (by decide) (by decide) at_63 (pc' := 66) rfl rfl ?_
    intro h_334 q_335
    rw [(by decide : (0 : Int32) + 1 = (1 : Int32))] at q_335
    obtain ⟨E_336, F_337, F_338, A_339⟩ := q_335
    refine go_iload C at_66 (pc' := 68) rfl rfl ?_
    refine go_iconst C (1 : Int32) at_68 (pc' := 69) rfl (by decide) ?_
    refine go_icmp C (3 : Int) (1 : Int) (by decide) (by decide) at_69 (by decide) (pc' := 79) (by decide) (pcN := 72) rfl (fun (c_340 : ¬ (1 : Int) < (3 : Int)) => by omega) (fun (c_340 : (1 : Int) < (3 : Int)) => ?_)
    refine go_aload C at_72 (pc' := 74) rfl rfl rfl ?_
    refine go_iload C at_74 (pc' := 76) rfl rfl ?_
    refine go_virtualN C (as := [.int v1]) (rest := []) (W := 0) (sat_add l Z a0 hw a_315 r_326 v1 (1 : Int32) (8 : Int32) 1 [.int v0, .int (0 : Int32), .int (0 : Int32), .int (0 : Int32), .int (0 : Int32), .int (0 : Int32), .int (0 : Int32), .int (0 : Int32)] [.int v0, .int v1, .int (0 : Int32), .int (0 : Int32), .int (0 : Int32), .int (0 : Int32), .int (0 : Int32), .int (0 : Int32)] _ _ E_336 F_337 F_338 A_339 g_320 g_327 (by decide) (show 1 < 8 from by decide) rfl rfl) E_336 (wd hw 28 rfl) (wd hw 29 rfl) (wd hw 31 rfl) (wd hw 30 rfl) (wd hw 6 rfl) (wd hw 32 rfl) (by decide) pd_4 rfl rfl rfl (by decide) (by decide) (ce' := 2) (sl' := 10) rfl rfl (by decide) (by decide) at_76 (pc' := 79) rfl rfl ?_
    intro h_341 q_342
    rw [(by decide : (1 : Int32) + 1 = (2 : Int32))] at q_342
    obtain ⟨E_343, F_344, F_345, A_346⟩ := q_342
    refine go_iload C at_79 (pc' := 81) rfl rfl ?_
    refine go_iconst C (2 : Int32) at_81 (pc' := 82) rfl (by decide) ?_
    refine go_icmp C (3 : Int) (2 : Int) (by decide) (by decide) at_82 (by decide) (pc' := 92) (by decide) (pcN := 85) rfl (fun (c_347 : ¬ (2 : Int) < (3 : Int)) => by omega) (fun (c_347 : (2 : Int) < (3 : Int)) => ?_)
    refine go_aload C at_85 (pc' := 87) rfl rfl rfl ?_
    refine go_iload C at_87 (pc' := 89) rfl rfl ?_
    refine go_virtualN C (as := [.int v2]) (rest := []) (W := 0) (sat_add l Z a0 hw a_315 r_326 v2 (2 : Int32) (8 : Int32) 2 [.int v0, .int v1, .int (0 : Int32), .int (0 : Int32), .int (0 : Int32), .int (0 : Int32), .int (0 : Int32), .int (0 : Int32)] [.int v0, .int v1, .int v2, .int (0 : Int32), .int (0 : Int32), .int (0 : Int32), .int (0 : Int32), .int (0 : Int32)] _ _ E_343 F_344 F_345 A_346 g_320 g_327 (by decide) (show 2 < 8 from by decide) rfl rfl) E_343 (wd hw 28 rfl) (wd hw 29 rfl) (wd hw 31 rfl) (wd hw 30 rfl) (wd hw 6 rfl) (wd hw 32 rfl) (by decide) pd_4 rfl rfl rfl (by decide) (by decide) (ce' := 2) (sl' := 10) rfl rfl (by decide) (by decide) at_89 (pc' := 92) rfl rfl ?_
    intro h_348 q_349
    rw [(by decide : (2 : Int32) + 1 = (3 : Int32))] at q_349
    obtain ⟨E_350, F_351, F_352, A_353⟩ := q_349
    refine go_iload C at_92 (pc' := 94) rfl rfl ?_
    refine go_iconst C (3 : Int32) at_94 (pc' := 95) rfl (by decide) ?_
    refine go_icmp C (3 : Int) (3 : Int) (by decide) (by decide) at_95 (by decide) (pc' := 105) (by decide) (pcN := 98) rfl (fun (c_354 : ¬ (3 : Int) < (3 : Int)) => ?_) (fun (c_354 : (3 : Int) < (3 : Int)) => by omega)
    refine go_aload C at_105 (pc' := 107) rfl rfl rfl ?_
    rcases (by omega : (¬ v1.toInt = v0.toInt) ∨ (v1.toInt = v0.toInt)) with hf1 | hf1
    · skip
      rcases (by omega : (¬ v2.toInt = v0.toInt ∧ ¬ v2.toInt = v1.toInt) ∨ (v2.toInt = v0.toInt ∨ v2.toInt = v1.toInt)) with hf2 | hf2
      · skip
        refine go_virtualN C (as := []) (rest := []) (W := 0) (sat_rd3tt l Z a0 hw a_315 r_326 v0 v1 v2 _ _ hf1 hf2 E_350 F_351 F_352 A_353 g_320 g_327) E_350 (wd hw 16 rfl) (wd hw 17 rfl) (wd hw 19 rfl) (wd hw 18 rfl) (wd hw 6 rfl) (wd hw 20 rfl) (by decide) pd_2 rfl rfl rfl (by decide) (by decide) (ce' := 2) (sl' := 10) rfl rfl (by decide) (by decide) at_107 (pc' := 110) rfl rfl ?_
        intro h_355 q_356
        obtain ⟨E_357, F_358, F_359, A_360⟩ := q_356
        refine go_iload C at_110 (pc' := 112) rfl rfl ?_
        refine go_if0 C (3 : Int) (by decide) at_112 (by decide) (pc' := 119) (by decide) (pcN := 115) rfl (fun (c_361 : ¬ 0 < (3 : Int)) => by omega) (fun (c_361 : 0 < (3 : Int)) => ?_)
        refine go_iconst C (1 : Int32) at_115 (pc' := 116) rfl (by decide) ?_
        refine go_goto C at_116 (by decide) (pc' := 120) (by decide) ?_
        refine go_istore C (Ls' := #[.val (.int x0), .val (.int x1), .val (.int x2), .val (.int x3), .val (.int x4), .val (.int x5), .val (.int (3 : Int32)), .val (.int v0), .val (.int v1), .val (.int v2), .val (.int v3), .val (.ref a_315), .val (.int (1 : Int32)), .unset, .unset, .unset, .unset, .unset, .unset]) at_120 (pc' := 122) rfl rfl ?_
        refine go_iload C at_122 (pc' := 124) rfl rfl ?_
        refine go_iconst C (1 : Int32) at_124 (pc' := 125) rfl (by decide) ?_
        refine go_icmp C (3 : Int) (1 : Int) (by decide) (by decide) at_125 (by decide) (pc' := 139) (by decide) (pcN := 128) rfl (fun (c_362 : ¬ (1 : Int) < (3 : Int)) => by omega) (fun (c_362 : (1 : Int) < (3 : Int)) => ?_)
        refine go_iload C at_128 (pc' := 130) rfl rfl ?_
        refine go_iload C at_130 (pc' := 132) rfl rfl ?_
        refine go_icmp C v1.toInt v0.toInt rfl rfl at_132 (by decide) (pc' := 139) (by decide) (pcN := 135) rfl (fun (c_363 : v1.toInt = v0.toInt) => by omega) (fun (c_363 : ¬ v1.toInt = v0.toInt) => ?_)
        refine go_iconst C (1 : Int32) at_135 (pc' := 136) rfl (by decide) ?_
        refine go_goto C at_136 (by decide) (pc' := 140) (by decide) ?_
        refine go_istore C (Ls' := #[.val (.int x0), .val (.int x1), .val (.int x2), .val (.int x3), .val (.int x4), .val (.int x5), .val (.int (3 : Int32)), .val (.int v0), .val (.int v1), .val (.int v2), .val (.int v3), .val (.ref a_315), .val (.int (1 : Int32)), .val (.int (1 : Int32)), .unset, .unset, .unset, .unset, .unset]) at_140 (pc' := 142) rfl rfl ?_
        refine go_iload C at_142 (pc' := 144) rfl rfl ?_
        refine go_iconst C (2 : Int32) at_144 (pc' := 145) rfl (by decide) ?_
        refine go_icmp C (3 : Int) (2 : Int) (by decide) (by decide) at_145 (by decide) (pc' := 166) (by decide) (pcN := 148) rfl (fun (c_364 : ¬ (2 : Int) < (3 : Int)) => by omega) (fun (c_364 : (2 : Int) < (3 : Int)) => ?_)
        refine go_iload C at_148 (pc' := 150) rfl rfl ?_
        refine go_iload C at_150 (pc' := 152) rfl rfl ?_
        refine go_icmp C v2.toInt v0.toInt rfl rfl at_152 (by decide) (pc' := 166) (by decide) (pcN := 155) rfl (fun (c_365 : v2.toInt = v0.toInt) => by omega) (fun (c_365 : ¬ v2.toInt = v0.toInt) => ?_)
        refine go_iload C at_155 (pc' := 157) rfl rfl ?_
        refine go_iload C at_157 (pc' := 159) rfl rfl ?_
        refine go_icmp C v2.toInt v1.toInt rfl rfl at_159 (by decide) (pc' := 166) (by decide) (pcN := 162) rfl (fun (c_366 : v2.toInt = v1.toInt) => by omega) (fun (c_366 : ¬ v2.toInt = v1.toInt) => ?_)
        refine go_iconst C (1 : Int32) at_162 (pc' := 163) rfl (by decide) ?_
        refine go_goto C at_163 (by decide) (pc' := 167) (by decide) ?_
        refine go_istore C (Ls' := #[.val (.int x0), .val (.int x1), .val (.int x2), .val (.int x3), .val (.int x4), .val (.int x5), .val (.int (3 : Int32)), .val (.int v0), .val (.int v1), .val (.int v2), .val (.int v3), .val (.ref a_315), .val (.int (1 : Int32)), .val (.int (1 : Int32)), .val (.int (1 : Int32)), .unset, .unset, .unset, .unset]) at_167 (pc' := 169) rfl rfl ?_
        refine go_iload C at_169 (pc' := 171) rfl rfl ?_
        refine go_iconst C (3 : Int32) at_171 (pc' := 172) rfl (by decide) ?_
        refine go_icmp C (3 : Int) (3 : Int) (by decide) (by decide) at_172 (by decide) (pc' := 200) (by decide) (pcN := 175) rfl (fun (c_367 : ¬ (3 : Int) < (3 : Int)) => ?_) (fun (c_367 : (3 : Int) < (3 : Int)) => by omega)
        refine go_iconst C (0 : Int32) at_200 (pc' := 201) rfl (by decide) ?_
        refine go_istore C (Ls' := #[.val (.int x0), .val (.int x1), .val (.int x2), .val (.int x3), .val (.int x4), .val (.int x5), .val (.int (3 : Int32)), .val (.int v0), .val (.int v1), .val (.int v2), .val (.int v3), .val (.ref a_315), .val (.int (1 : Int32)), .val (.int (1 : Int32)), .val (.int (1 : Int32)), .val (.int (0 : Int32)), .unset, .unset, .unset]) at_201 (pc' := 203) rfl rfl ?_
        refine go_iconst C (4 : Int32) at_203 (pc' := 204) rfl (by decide) ?_
        refine go_newarray C (wd hw 13 rfl) rfl 4 4 (by decide) (by decide) (by decide) (ce' := 3) (sl' := 14) rfl rfl (by decide) (by decide) at_204 (pc' := 206) rfl ?_
        intro h_368 a_369 g_370 E_371 A_372
        have n_373 : a_315 ≠ a_369 := own_ne_new E_357.lt g_370
        have n_374 : r_326 ≠ a_369 := own_ne_new A_360.lt g_370
        have g_375 : Z.heap.size ≤ a_369 := own_ge (Nat.le_of_lt (Nat.lt_of_le_of_lt g_320 E_357.lt)) g_370
        have F_376 := Fld.ext E_371 F_358
        have F_377 := Fld.ext E_371 F_359
        have E_378 := Exa.ext E_371 E_357
        have A_379 := Av.ext A_360 E_371
        have z_380 : Z.heap.size ≤ h_368.size := Nat.le_trans (Nat.le_of_lt (Nat.lt_of_le_of_lt g_320 E_357.lt)) E_371.1
        have A_381 : Av Z h_368 a_369 .int [.int (0 : Int32), .int (0 : Int32), .int (0 : Int32), .int (0 : Int32)] := A_372
        refine go_astore C (Ls' := #[.val (.int x0), .val (.int x1), .val (.int x2), .val (.int x3), .val (.int x4), .val (.int x5), .val (.int (3 : Int32)), .val (.int v0), .val (.int v1), .val (.int v2), .val (.int v3), .val (.ref a_315), .val (.int (1 : Int32)), .val (.int (1 : Int32)), .val (.int (1 : Int32)), .val (.int (0 : Int32)), .val (.ref a_369), .unset, .unset]) at_206 (pc' := 208) rfl rfl rfl ?_
        refine go_iconst C (0 : Int32) at_208 (pc' := 209) rfl (by decide) ?_
        refine go_istore C (Ls' := #[.val (.int x0), .val (.int x1), .val (.int x2), .val (.int x3), .val (.int x4), .val (.int x5), .val (.int (3 : Int32)), .val (.int v0), .val (.int v1), .val (.int v2), .val (.int v3), .val (.ref a_315), .val (.int (1 : Int32)), .val (.int (1 : Int32)), .val (.int (1 : Int32)), .val (.int (0 : Int32)), .val (.ref a_369), .val (.int (0 : Int32)), .unset]) at_209 (pc' := 211) rfl rfl ?_
        refine go_iload C at_211 (pc' := 213) rfl rfl ?_
        refine go_if0 C (1 : Int) (by decide) at_213 (by decide) (pc' := 226) (by decide) (pcN := 216) rfl (fun (c_382 : (1 : Int) = 0) => by omega) (fun (c_382 : ¬ (1 : Int) = 0) => ?_)
        refine go_aload C at_216 (pc' := 218) rfl rfl rfl ?_
        refine go_iload C at_218 (pc' := 220) rfl rfl ?_
        refine go_iload C at_220 (pc' := 222) rfl rfl ?_
        refine go_iastore C A_381 0 (by decide) (show 0 < 4 from by decide) g_375 at_222 (pc' := 223) rfl ?_
        intro h_383 W_384 A_385
        have z_386 : Z.heap.size ≤ h_383.size := W_384.size.symm ▸ z_380
        have F_387 := Fld.other W_384 F_376 (Or.inl n_373)
        have F_388 := Fld.other W_384 F_377 (Or.inl n_373)
        have E_389 := Exa.wr W_384 E_378
        have A_390 := Av.other A_379 W_384 n_374
        have A_391 : Av Z h_383 a_369 .int [.int v0, .int (0 : Int32), .int (0 : Int32), .int (0 : Int32)] := A_385
        refine go_iinc C (Ls' := #[.val (.int x0), .val (.int x1), .val (.int x2), .val (.int x3), .val (.int x4), .val (.int x5), .val (.int (3 : Int32)), .val (.int v0), .val (.int v1), .val (.int v2), .val (.int v3), .val (.ref a_315), .val (.int (1 : Int32)), .val (.int (1 : Int32)), .val (.int (1 : Int32)), .val (.int (0 : Int32)), .val (.ref a_369), .val (.int ((0 : Int32) + (1 : Int32))), .unset]) (1 : Int32) at_223 (pc' := 226) rfl (by decide) rfl rfl ?_
        rw [(by decide : (0 : Int32) + (1 : Int32) = (1 : Int32))]
        refine go_iload C at_226 (pc' := 228) rfl rfl ?_
        refine go_if0 C (1 : Int) (by decide) at_228 (by decide) (pc' := 241) (by decide) (pcN := 231) rfl (fun (c_392 : (1 : Int) = 0) => by omega) (fun (c_392 : ¬ (1 : Int) = 0) => ?_)
        refine go_aload C at_231 (pc' := 233) rfl rfl rfl ?_
        refine go_iload C at_233 (pc' := 235) rfl rfl ?_
        refine go_iload C at_235 (pc' := 237) rfl rfl ?_
        refine go_iastore C A_391 1 (by decide) (show 1 < 4 from by decide) g_375 at_237 (pc' := 238) rfl ?_
        intro h_393 W_394 A_395
        have z_396 : Z.heap.size ≤ h_393.size := W_394.size.symm ▸ z_386
        have F_397 := Fld.other W_394 F_387 (Or.inl n_373)
        have F_398 := Fld.other W_394 F_388 (Or.inl n_373)
        have E_399 := Exa.wr W_394 E_389
        have A_400 := Av.other A_390 W_394 n_374
        have A_401 : Av Z h_393 a_369 .int [.int v0, .int v1, .int (0 : Int32), .int (0 : Int32)] := A_395
        refine go_iinc C (Ls' := #[.val (.int x0), .val (.int x1), .val (.int x2), .val (.int x3), .val (.int x4), .val (.int x5), .val (.int (3 : Int32)), .val (.int v0), .val (.int v1), .val (.int v2), .val (.int v3), .val (.ref a_315), .val (.int (1 : Int32)), .val (.int (1 : Int32)), .val (.int (1 : Int32)), .val (.int (0 : Int32)), .val (.ref a_369), .val (.int ((1 : Int32) + (1 : Int32))), .unset]) (1 : Int32) at_238 (pc' := 241) rfl (by decide) rfl rfl ?_
        rw [(by decide : (1 : Int32) + (1 : Int32) = (2 : Int32))]
        refine go_iload C at_241 (pc' := 243) rfl rfl ?_
        refine go_if0 C (1 : Int) (by decide) at_243 (by decide) (pc' := 256) (by decide) (pcN := 246) rfl (fun (c_402 : (1 : Int) = 0) => by omega) (fun (c_402 : ¬ (1 : Int) = 0) => ?_)
        refine go_aload C at_246 (pc' := 248) rfl rfl rfl ?_
        refine go_iload C at_248 (pc' := 250) rfl rfl ?_
        refine go_iload C at_250 (pc' := 252) rfl rfl ?_
        refine go_iastore C A_401 2 (by decide) (show 2 < 4 from by decide) g_375 at_252 (pc' := 253) rfl ?_
        intro h_403 W_404 A_405
        have z_406 : Z.heap.size ≤ h_403.size := W_404.size.symm ▸ z_396
        have F_407 := Fld.other W_404 F_397 (Or.inl n_373)
        have F_408 := Fld.other W_404 F_398 (Or.inl n_373)
        have E_409 := Exa.wr W_404 E_399
        have A_410 := Av.other A_400 W_404 n_374
        have A_411 : Av Z h_403 a_369 .int [.int v0, .int v1, .int v2, .int (0 : Int32)] := A_405
        refine go_iinc C (Ls' := #[.val (.int x0), .val (.int x1), .val (.int x2), .val (.int x3), .val (.int x4), .val (.int x5), .val (.int (3 : Int32)), .val (.int v0), .val (.int v1), .val (.int v2), .val (.int v3), .val (.ref a_315), .val (.int (1 : Int32)), .val (.int (1 : Int32)), .val (.int (1 : Int32)), .val (.int (0 : Int32)), .val (.ref a_369), .val (.int ((2 : Int32) + (1 : Int32))), .unset]) (1 : Int32) at_253 (pc' := 256) rfl (by decide) rfl rfl ?_
        rw [(by decide : (2 : Int32) + (1 : Int32) = (3 : Int32))]
        refine go_iload C at_256 (pc' := 258) rfl rfl ?_
        refine go_if0 C (0 : Int) (by decide) at_258 (by decide) (pc' := 271) (by decide) (pcN := 261) rfl (fun (c_412 : (0 : Int) = 0) => ?_) (fun (c_412 : ¬ (0 : Int) = 0) => by omega)
        refine go_aload C at_271 (pc' := 273) rfl rfl rfl ?_
        refine go_virtualP C (as := []) (rest := []) (W := 0) (.int (3 : Int32)) (sat_size l Z a0 hw a_315 _ _ _ F_408) E_409 (wd hw 23 rfl) (wd hw 24 rfl) (wd hw 26 rfl) (wd hw 25 rfl) (wd hw 6 rfl) (wd hw 27 rfl) (by decide) pd_3 rfl rfl rfl (by decide) (by decide) rfl rfl (by decide) (by decide) at_273 (pc' := 276) rfl rfl ?_
        refine go_iload C at_276 (pc' := 278) rfl rfl ?_
        refine go_icmp C (3 : Int) (3 : Int) (by decide) (by decide) at_278 (by decide) (pc' := 283) (by decide) (pcN := 281) rfl (fun (c_413 : (3 : Int) = (3 : Int)) => ?_) (fun (c_413 : ¬ (3 : Int) = (3 : Int)) => by omega)
        refine go_iconst C (1 : Int32) at_283 (pc' := 284) rfl (by decide) ?_
        refine go_istore C (Ls' := #[.val (.int x0), .val (.int x1), .val (.int x2), .val (.int x3), .val (.int x4), .val (.int x5), .val (.int (3 : Int32)), .val (.int v0), .val (.int v1), .val (.int v2), .val (.int v3), .val (.ref a_315), .val (.int (1 : Int32)), .val (.int (1 : Int32)), .val (.int (1 : Int32)), .val (.int (0 : Int32)), .val (.ref a_369), .val (.int (3 : Int32)), .val (.int (1 : Int32))]) at_284 (pc' := 286) rfl rfl ?_
        refine go_iload C at_286 (pc' := 288) rfl rfl ?_
        refine go_if0 C (3 : Int) (by decide) at_288 (by decide) (pc' := 316) (by decide) (pcN := 291) rfl (fun (c_414 : ¬ 0 < (3 : Int)) => by omega) (fun (c_414 : 0 < (3 : Int)) => ?_)
        refine go_iload C at_291 (pc' := 293) rfl rfl ?_
        refine go_if0 C (1 : Int) (by decide) at_293 (by decide) (pc' := 313) (by decide) (pcN := 296) rfl (fun (c_415 : (1 : Int) = 0) => by omega) (fun (c_415 : ¬ (1 : Int) = 0) => ?_)
        refine go_aload C at_296 (pc' := 298) rfl rfl rfl ?_
        refine go_iconst C (0 : Int32) at_298 (pc' := 299) rfl (by decide) ?_
        refine go_virtualP C (as := [.int (0 : Int32)]) (rest := []) (W := 0) (.int v0) (sat_get l Z a0 hw a_315 r_326 (0 : Int32) v0 0 [.int v0, .int v1, .int v2, .int (0 : Int32), .int (0 : Int32), .int (0 : Int32), .int (0 : Int32), .int (0 : Int32)] _ _ F_407 A_410 (by decide) rfl) E_409 (wd hw 33 rfl) (wd hw 34 rfl) (wd hw 36 rfl) (wd hw 35 rfl) (wd hw 6 rfl) (wd hw 37 rfl) (by decide) pd_5 rfl rfl rfl (by decide) (by decide) rfl rfl (by decide) (by decide) at_299 (pc' := 302) rfl rfl ?_
        refine go_aload C at_302 (pc' := 304) rfl rfl rfl ?_
        refine go_iconst C (0 : Int32) at_304 (pc' := 305) rfl (by decide) ?_
        refine go_iaload C A_411 0 (.int v0) (by decide) rfl at_305 (pc' := 306) rfl ?_
        refine go_icmp C v0.toInt v0.toInt rfl rfl at_306 (by decide) (pc' := 313) (by decide) (pcN := 309) rfl (fun (c_416 : ¬ v0.toInt = v0.toInt) => by omega) (fun (c_416 : v0.toInt = v0.toInt) => ?_)
        refine go_iconst C (1 : Int32) at_309 (pc' := 310) rfl (by decide) ?_
        refine go_goto C at_310 (by decide) (pc' := 314) (by decide) ?_
        refine go_istore C (Ls' := #[.val (.int x0), .val (.int x1), .val (.int x2), .val (.int x3), .val (.int x4), .val (.int x5), .val (.int (3 : Int32)), .val (.int v0), .val (.int v1), .val (.int v2), .val (.int v3), .val (.ref a_315), .val (.int (1 : Int32)), .val (.int (1 : Int32)), .val (.int (1 : Int32)), .val (.int (0 : Int32)), .val (.ref a_369), .val (.int (3 : Int32)), .val (.int (1 : Int32))]) at_314 (pc' := 316) rfl rfl ?_
        refine go_iload C at_316 (pc' := 318) rfl rfl ?_
        refine go_iconst C (1 : Int32) at_318 (pc' := 319) rfl (by decide) ?_
        refine go_icmp C (3 : Int) (1 : Int) (by decide) (by decide) at_319 (by decide) (pc' := 347) (by decide) (pcN := 322) rfl (fun (c_417 : ¬ (1 : Int) < (3 : Int)) => by omega) (fun (c_417 : (1 : Int) < (3 : Int)) => ?_)
        refine go_iload C at_322 (pc' := 324) rfl rfl ?_
        refine go_if0 C (1 : Int) (by decide) at_324 (by decide) (pc' := 344) (by decide) (pcN := 327) rfl (fun (c_418 : (1 : Int) = 0) => by omega) (fun (c_418 : ¬ (1 : Int) = 0) => ?_)
        refine go_aload C at_327 (pc' := 329) rfl rfl rfl ?_
        refine go_iconst C (1 : Int32) at_329 (pc' := 330) rfl (by decide) ?_
        refine go_virtualP C (as := [.int (1 : Int32)]) (rest := []) (W := 0) (.int v1) (sat_get l Z a0 hw a_315 r_326 (1 : Int32) v1 1 [.int v0, .int v1, .int v2, .int (0 : Int32), .int (0 : Int32), .int (0 : Int32), .int (0 : Int32), .int (0 : Int32)] _ _ F_407 A_410 (by decide) rfl) E_409 (wd hw 33 rfl) (wd hw 34 rfl) (wd hw 36 rfl) (wd hw 35 rfl) (wd hw 6 rfl) (wd hw 37 rfl) (by decide) pd_5 rfl rfl rfl (by decide) (by decide) rfl rfl (by decide) (by decide) at_330 (pc' := 333) rfl rfl ?_
        refine go_aload C at_333 (pc' := 335) rfl rfl rfl ?_
        refine go_iconst C (1 : Int32) at_335 (pc' := 336) rfl (by decide) ?_
        refine go_iaload C A_411 1 (.int v1) (by decide) rfl at_336 (pc' := 337) rfl ?_
        refine go_icmp C v1.toInt v1.toInt rfl rfl at_337 (by decide) (pc' := 344) (by decide) (pcN := 340) rfl (fun (c_419 : ¬ v1.toInt = v1.toInt) => by omega) (fun (c_419 : v1.toInt = v1.toInt) => ?_)
        refine go_iconst C (1 : Int32) at_340 (pc' := 341) rfl (by decide) ?_
        refine go_goto C at_341 (by decide) (pc' := 345) (by decide) ?_
        refine go_istore C (Ls' := #[.val (.int x0), .val (.int x1), .val (.int x2), .val (.int x3), .val (.int x4), .val (.int x5), .val (.int (3 : Int32)), .val (.int v0), .val (.int v1), .val (.int v2), .val (.int v3), .val (.ref a_315), .val (.int (1 : Int32)), .val (.int (1 : Int32)), .val (.int (1 : Int32)), .val (.int (0 : Int32)), .val (.ref a_369), .val (.int (3 : Int32)), .val (.int (1 : Int32))]) at_345 (pc' := 347) rfl rfl ?_
        refine go_iload C at_347 (pc' := 349) rfl rfl ?_
        refine go_iconst C (2 : Int32) at_349 (pc' := 350) rfl (by decide) ?_
        refine go_icmp C (3 : Int) (2 : Int) (by decide) (by decide) at_350 (by decide) (pc' := 378) (by decide) (pcN := 353) rfl (fun (c_420 : ¬ (2 : Int) < (3 : Int)) => by omega) (fun (c_420 : (2 : Int) < (3 : Int)) => ?_)
        refine go_iload C at_353 (pc' := 355) rfl rfl ?_
        refine go_if0 C (1 : Int) (by decide) at_355 (by decide) (pc' := 375) (by decide) (pcN := 358) rfl (fun (c_421 : (1 : Int) = 0) => by omega) (fun (c_421 : ¬ (1 : Int) = 0) => ?_)
        refine go_aload C at_358 (pc' := 360) rfl rfl rfl ?_
        refine go_iconst C (2 : Int32) at_360 (pc' := 361) rfl (by decide) ?_
        refine go_virtualP C (as := [.int (2 : Int32)]) (rest := []) (W := 0) (.int v2) (sat_get l Z a0 hw a_315 r_326 (2 : Int32) v2 2 [.int v0, .int v1, .int v2, .int (0 : Int32), .int (0 : Int32), .int (0 : Int32), .int (0 : Int32), .int (0 : Int32)] _ _ F_407 A_410 (by decide) rfl) E_409 (wd hw 33 rfl) (wd hw 34 rfl) (wd hw 36 rfl) (wd hw 35 rfl) (wd hw 6 rfl) (wd hw 37 rfl) (by decide) pd_5 rfl rfl rfl (by decide) (by decide) rfl rfl (by decide) (by decide) at_361 (pc' := 364) rfl rfl ?_
        refine go_aload C at_364 (pc' := 366) rfl rfl rfl ?_
        refine go_iconst C (2 : Int32) at_366 (pc' := 367) rfl (by decide) ?_
        refine go_iaload C A_411 2 (.int v2) (by decide) rfl at_367 (pc' := 368) rfl ?_
        refine go_icmp C v2.toInt v2.toInt rfl rfl at_368 (by decide) (pc' := 375) (by decide) (pcN := 371) rfl (fun (c_422 : ¬ v2.toInt = v2.toInt) => by omega) (fun (c_422 : v2.toInt = v2.toInt) => ?_)
        refine go_iconst C (1 : Int32) at_371 (pc' := 372) rfl (by decide) ?_
        refine go_goto C at_372 (by decide) (pc' := 376) (by decide) ?_
        refine go_istore C (Ls' := #[.val (.int x0), .val (.int x1), .val (.int x2), .val (.int x3), .val (.int x4), .val (.int x5), .val (.int (3 : Int32)), .val (.int v0), .val (.int v1), .val (.int v2), .val (.int v3), .val (.ref a_315), .val (.int (1 : Int32)), .val (.int (1 : Int32)), .val (.int (1 : Int32)), .val (.int (0 : Int32)), .val (.ref a_369), .val (.int (3 : Int32)), .val (.int (1 : Int32))]) at_376 (pc' := 378) rfl rfl ?_
        refine go_iload C at_378 (pc' := 380) rfl rfl ?_
        refine go_iconst C (3 : Int32) at_380 (pc' := 381) rfl (by decide) ?_
        refine go_icmp C (3 : Int) (3 : Int) (by decide) (by decide) at_381 (by decide) (pc' := 409) (by decide) (pcN := 384) rfl (fun (c_423 : ¬ (3 : Int) < (3 : Int)) => ?_) (fun (c_423 : (3 : Int) < (3 : Int)) => by omega)
        refine go_iload C at_409 (pc' := 411) rfl rfl ?_
        refine go_ireturnN C (z' := (1 : Int32)) rfl (by simp) rfl at_411 (by decide) (by decide) ?_
        exact ⟨_, rfl, rfl⟩
      · skip
        refine go_virtualN C (as := []) (rest := []) (W := 0) (sat_rd3tf l Z a0 hw a_315 r_326 v0 v1 v2 _ _ hf1 hf2 E_350 F_351 F_352 A_353 g_320 g_327) E_350 (wd hw 16 rfl) (wd hw 17 rfl) (wd hw 19 rfl) (wd hw 18 rfl) (wd hw 6 rfl) (wd hw 20 rfl) (by decide) pd_2 rfl rfl rfl (by decide) (by decide) (ce' := 2) (sl' := 10) rfl rfl (by decide) (by decide) at_107 (pc' := 110) rfl rfl ?_
        intro h_424 q_425
        obtain ⟨E_426, F_427, F_428, A_429⟩ := q_425
        refine go_iload C at_110 (pc' := 112) rfl rfl ?_
        refine go_if0 C (3 : Int) (by decide) at_112 (by decide) (pc' := 119) (by decide) (pcN := 115) rfl (fun (c_430 : ¬ 0 < (3 : Int)) => by omega) (fun (c_430 : 0 < (3 : Int)) => ?_)
        refine go_iconst C (1 : Int32) at_115 (pc' := 116) rfl (by decide) ?_
        refine go_goto C at_116 (by decide) (pc' := 120) (by decide) ?_
        refine go_istore C (Ls' := #[.val (.int x0), .val (.int x1), .val (.int x2), .val (.int x3), .val (.int x4), .val (.int x5), .val (.int (3 : Int32)), .val (.int v0), .val (.int v1), .val (.int v2), .val (.int v3), .val (.ref a_315), .val (.int (1 : Int32)), .unset, .unset, .unset, .unset, .unset, .unset]) at_120 (pc' := 122) rfl rfl ?_
        refine go_iload C at_122 (pc' := 124) rfl rfl ?_
        refine go_iconst C (1 : Int32) at_124 (pc' := 125) rfl (by decide) ?_
        refine go_icmp C (3 : Int) (1 : Int) (by decide) (by decide) at_125 (by decide) (pc' := 139) (by decide) (pcN := 128) rfl (fun (c_431 : ¬ (1 : Int) < (3 : Int)) => by omega) (fun (c_431 : (1 : Int) < (3 : Int)) => ?_)
        refine go_iload C at_128 (pc' := 130) rfl rfl ?_
        refine go_iload C at_130 (pc' := 132) rfl rfl ?_
        refine go_icmp C v1.toInt v0.toInt rfl rfl at_132 (by decide) (pc' := 139) (by decide) (pcN := 135) rfl (fun (c_432 : v1.toInt = v0.toInt) => by omega) (fun (c_432 : ¬ v1.toInt = v0.toInt) => ?_)
        refine go_iconst C (1 : Int32) at_135 (pc' := 136) rfl (by decide) ?_
        refine go_goto C at_136 (by decide) (pc' := 140) (by decide) ?_
        refine go_istore C (Ls' := #[.val (.int x0), .val (.int x1), .val (.int x2), .val (.int x3), .val (.int x4), .val (.int x5), .val (.int (3 : Int32)), .val (.int v0), .val (.int v1), .val (.int v2), .val (.int v3), .val (.ref a_315), .val (.int (1 : Int32)), .val (.int (1 : Int32)), .unset, .unset, .unset, .unset, .unset]) at_140 (pc' := 142) rfl rfl ?_
        refine go_iload C at_142 (pc' := 144) rfl rfl ?_
        refine go_iconst C (2 : Int32) at_144 (pc' := 145) rfl (by decide) ?_
        refine go_icmp C (3 : Int) (2 : Int) (by decide) (by decide) at_145 (by decide) (pc' := 166) (by decide) (pcN := 148) rfl (fun (c_433 : ¬ (2 : Int) < (3 : Int)) => by omega) (fun (c_433 : (2 : Int) < (3 : Int)) => ?_)
        refine go_iload C at_148 (pc' := 150) rfl rfl ?_
        refine go_iload C at_150 (pc' := 152) rfl rfl ?_
        refine go_icmp C v2.toInt v0.toInt rfl rfl at_152 (by decide) (pc' := 166) (by decide) (pcN := 155) rfl (fun (c_434 : v2.toInt = v0.toInt) => ?_) (fun (c_434 : ¬ v2.toInt = v0.toInt) => ?_)
        · skip
          refine go_iconst C (0 : Int32) at_166 (pc' := 167) rfl (by decide) ?_
          refine go_istore C (Ls' := #[.val (.int x0), .val (.int x1), .val (.int x2), .val (.int x3), .val (.int x4), .val (.int x5), .val (.int (3 : Int32)), .val (.int v0), .val (.int v1), .val (.int v2), .val (.int v3), .val (.ref a_315), .val (.int (1 : Int32)), .val (.int (1 : Int32)), .val (.int (0 : Int32)), .unset, .unset, .unset, .unset]) at_167 (pc' := 169) rfl rfl ?_
          refine go_iload C at_169 (pc' := 171) rfl rfl ?_
          refine go_iconst C (3 : Int32) at_171 (pc' := 172) rfl (by decide) ?_
          refine go_icmp C (3 : Int) (3 : Int) (by decide) (by decide) at_172 (by decide) (pc' := 200) (by decide) (pcN := 175) rfl (fun (c_435 : ¬ (3 : Int) < (3 : Int)) => ?_) (fun (c_435 : (3 : Int) < (3 : Int)) => by omega)
          refine go_iconst C (0 : Int32) at_200 (pc' := 201) rfl (by decide) ?_
          refine go_istore C (Ls' := #[.val (.int x0), .val (.int x1), .val (.int x2), .val (.int x3), .val (.int x4), .val (.int x5), .val (.int (3 : Int32)), .val (.int v0), .val (.int v1), .val (.int v2), .val (.int v3), .val (.ref a_315), .val (.int (1 : Int32)), .val (.int (1 : Int32)), .val (.int (0 : Int32)), .val (.int (0 : Int32)), .unset, .unset, .unset]) at_201 (pc' := 203) rfl rfl ?_
          refine go_iconst C (4 : Int32) at_203 (pc' := 204) rfl (by decide) ?_
          refine go_newarray C (wd hw 13 rfl) rfl 4 4 (by decide) (by decide) (by decide) (ce' := 3) (sl' := 14) rfl rfl (by decide) (by decide) at_204 (pc' := 206) rfl ?_
          intro h_436 a_437 g_438 E_439 A_440
          have n_441 : a_315 ≠ a_437 := own_ne_new E_426.lt g_438
          have n_442 : r_326 ≠ a_437 := own_ne_new A_429.lt g_438
          have g_443 : Z.heap.size ≤ a_437 := own_ge (Nat.le_of_lt (Nat.lt_of_le_of_lt g_320 E_426.lt)) g_438
          have F_444 := Fld.ext E_439 F_427
          have F_445 := Fld.ext E_439 F_428
          have E_446 := Exa.ext E_439 E_426
          have A_447 := Av.ext A_429 E_439
          have z_448 : Z.heap.size ≤ h_436.size := Nat.le_trans (Nat.le_of_lt (Nat.lt_of_le_of_lt g_320 E_426.lt)) E_439.1
          have A_449 : Av Z h_436 a_437 .int [.int (0 : Int32), .int (0 : Int32), .int (0 : Int32), .int (0 : Int32)] := A_440
          refine go_astore C (Ls' := #[.val (.int x0), .val (.int x1), .val (.int x2), .val (.int x3), .val (.int x4), .val (.int x5), .val (.int (3 : Int32)), .val (.int v0), .val (.int v1), .val (.int v2), .val (.int v3), .val (.ref a_315), .val (.int (1 : Int32)), .val (.int (1 : Int32)), .val (.int (0 : Int32)), .val (.int (0 : Int32)), .val (.ref a_437), .unset, .unset]) at_206 (pc' := 208) rfl rfl rfl ?_
          refine go_iconst C (0 : Int32) at_208 (pc' := 209) rfl (by decide) ?_
          refine go_istore C (Ls' := #[.val (.int x0), .val (.int x1), .val (.int x2), .val (.int x3), .val (.int x4), .val (.int x5), .val (.int (3 : Int32)), .val (.int v0), .val (.int v1), .val (.int v2), .val (.int v3), .val (.ref a_315), .val (.int (1 : Int32)), .val (.int (1 : Int32)), .val (.int (0 : Int32)), .val (.int (0 : Int32)), .val (.ref a_437), .val (.int (0 : Int32)), .unset]) at_209 (pc' := 211) rfl rfl ?_
          refine go_iload C at_211 (pc' := 213) rfl rfl ?_
          refine go_if0 C (1 : Int) (by decide) at_213 (by decide) (pc' := 226) (by decide) (pcN := 216) rfl (fun (c_450 : (1 : Int) = 0) => by omega) (fun (c_450 : ¬ (1 : Int) = 0) => ?_)
          refine go_aload C at_216 (pc' := 218) rfl rfl rfl ?_
          refine go_iload C at_218 (pc' := 220) rfl rfl ?_
          refine go_iload C at_220 (pc' := 222) rfl rfl ?_
          refine go_iastore C A_449 0 (by decide) (show 0 < 4 from by decide) g_443 at_222 (pc' := 223) rfl ?_
          intro h_451 W_452 A_453
          have z_454 : Z.heap.size ≤ h_451.size := W_452.size.symm ▸ z_448
          have F_455 := Fld.other W_452 F_444 (Or.inl n_441)
          have F_456 := Fld.other W_452 F_445 (Or.inl n_441)
          have E_457 := Exa.wr W_452 E_446
          have A_458 := Av.other A_447 W_452 n_442
          have A_459 : Av Z h_451 a_437 .int [.int v0, .int (0 : Int32), .int (0 : Int32), .int (0 : Int32)] := A_453
          refine go_iinc C (Ls' := #[.val (.int x0), .val (.int x1), .val (.int x2), .val (.int x3), .val (.int x4), .val (.int x5), .val (.int (3 : Int32)), .val (.int v0), .val (.int v1), .val (.int v2), .val (.int v3), .val (.ref a_315), .val (.int (1 : Int32)), .val (.int (1 : Int32)), .val (.int (0 : Int32)), .val (.int (0 : Int32)), .val (.ref a_437), .val (.int ((0 : Int32) + (1 : Int32))), .unset]) (1 : Int32) at_223 (pc' := 226) rfl (by decide) rfl rfl ?_
          rw [(by decide : (0 : Int32) + (1 : Int32) = (1 : Int32))]
          refine go_iload C at_226 (pc' := 228) rfl rfl ?_
          refine go_if0 C (1 : Int) (by decide) at_228 (by decide) (pc' := 241) (by decide) (pcN := 231) rfl (fun (c_460 : (1 : Int) = 0) => by omega) (fun (c_460 : ¬ (1 : Int) = 0) => ?_)
          refine go_aload C at_231 (pc' := 233) rfl rfl rfl ?_
          refine go_iload C at_233 (pc' := 235) rfl rfl ?_
          refine go_iload C at_235 (pc' := 237) rfl rfl ?_
          refine go_iastore C A_459 1 (by decide) (show 1 < 4 from by decide) g_443 at_237 (pc' := 238) rfl ?_
          intro h_461 W_462 A_463
          have z_464 : Z.heap.size ≤ h_461.size := W_462.size.symm ▸ z_454
          have F_465 := Fld.other W_462 F_455 (Or.inl n_441)
          have F_466 := Fld.other W_462 F_456 (Or.inl n_441)
          have E_467 := Exa.wr W_462 E_457
          have A_468 := Av.other A_458 W_462 n_442
          have A_469 : Av Z h_461 a_437 .int [.int v0, .int v1, .int (0 : Int32), .int (0 : Int32)] := A_463
          refine go_iinc C (Ls' := #[.val (.int x0), .val (.int x1), .val (.int x2), .val (.int x3), .val (.int x4), .val (.int x5), .val (.int (3 : Int32)), .val (.int v0), .val (.int v1), .val (.int v2), .val (.int v3), .val (.ref a_315), .val (.int (1 : Int32)), .val (.int (1 : Int32)), .val (.int (0 : Int32)), .val (.int (0 : Int32)), .val (.ref a_437), .val (.int ((1 : Int32) + (1 : Int32))), .unset]) (1 : Int32) at_238 (pc' := 241) rfl (by decide) rfl rfl ?_
          rw [(by decide : (1 : Int32) + (1 : Int32) = (2 : Int32))]
          refine go_iload C at_241 (pc' := 243) rfl rfl ?_
          refine go_if0 C (0 : Int) (by decide) at_243 (by decide) (pc' := 256) (by decide) (pcN := 246) rfl (fun (c_470 : (0 : Int) = 0) => ?_) (fun (c_470 : ¬ (0 : Int) = 0) => by omega)
          refine go_iload C at_256 (pc' := 258) rfl rfl ?_
          refine go_if0 C (0 : Int) (by decide) at_258 (by decide) (pc' := 271) (by decide) (pcN := 261) rfl (fun (c_471 : (0 : Int) = 0) => ?_) (fun (c_471 : ¬ (0 : Int) = 0) => by omega)
          refine go_aload C at_271 (pc' := 273) rfl rfl rfl ?_
          refine go_virtualP C (as := []) (rest := []) (W := 0) (.int (2 : Int32)) (sat_size l Z a0 hw a_315 _ _ _ F_466) E_467 (wd hw 23 rfl) (wd hw 24 rfl) (wd hw 26 rfl) (wd hw 25 rfl) (wd hw 6 rfl) (wd hw 27 rfl) (by decide) pd_3 rfl rfl rfl (by decide) (by decide) rfl rfl (by decide) (by decide) at_273 (pc' := 276) rfl rfl ?_
          refine go_iload C at_276 (pc' := 278) rfl rfl ?_
          refine go_icmp C (2 : Int) (2 : Int) (by decide) (by decide) at_278 (by decide) (pc' := 283) (by decide) (pcN := 281) rfl (fun (c_472 : (2 : Int) = (2 : Int)) => ?_) (fun (c_472 : ¬ (2 : Int) = (2 : Int)) => by omega)
          refine go_iconst C (1 : Int32) at_283 (pc' := 284) rfl (by decide) ?_
          refine go_istore C (Ls' := #[.val (.int x0), .val (.int x1), .val (.int x2), .val (.int x3), .val (.int x4), .val (.int x5), .val (.int (3 : Int32)), .val (.int v0), .val (.int v1), .val (.int v2), .val (.int v3), .val (.ref a_315), .val (.int (1 : Int32)), .val (.int (1 : Int32)), .val (.int (0 : Int32)), .val (.int (0 : Int32)), .val (.ref a_437), .val (.int (2 : Int32)), .val (.int (1 : Int32))]) at_284 (pc' := 286) rfl rfl ?_
          refine go_iload C at_286 (pc' := 288) rfl rfl ?_
          refine go_if0 C (2 : Int) (by decide) at_288 (by decide) (pc' := 316) (by decide) (pcN := 291) rfl (fun (c_473 : ¬ 0 < (2 : Int)) => by omega) (fun (c_473 : 0 < (2 : Int)) => ?_)
          refine go_iload C at_291 (pc' := 293) rfl rfl ?_
          refine go_if0 C (1 : Int) (by decide) at_293 (by decide) (pc' := 313) (by decide) (pcN := 296) rfl (fun (c_474 : (1 : Int) = 0) => by omega) (fun (c_474 : ¬ (1 : Int) = 0) => ?_)
          refine go_aload C at_296 (pc' := 298) rfl rfl rfl ?_
          refine go_iconst C (0 : Int32) at_298 (pc' := 299) rfl (by decide) ?_
          refine go_virtualP C (as := [.int (0 : Int32)]) (rest := []) (W := 0) (.int v0) (sat_get l Z a0 hw a_315 r_326 (0 : Int32) v0 0 [.int v0, .int v1, .int v2, .int (0 : Int32), .int (0 : Int32), .int (0 : Int32), .int (0 : Int32), .int (0 : Int32)] _ _ F_465 A_468 (by decide) rfl) E_467 (wd hw 33 rfl) (wd hw 34 rfl) (wd hw 36 rfl) (wd hw 35 rfl) (wd hw 6 rfl) (wd hw 37 rfl) (by decide) pd_5 rfl rfl rfl (by decide) (by decide) rfl rfl (by decide) (by decide) at_299 (pc' := 302) rfl rfl ?_
          refine go_aload C at_302 (pc' := 304) rfl rfl rfl ?_
          refine go_iconst C (0 : Int32) at_304 (pc' := 305) rfl (by decide) ?_
          refine go_iaload C A_469 0 (.int v0) (by decide) rfl at_305 (pc' := 306) rfl ?_
          refine go_icmp C v0.toInt v0.toInt rfl rfl at_306 (by decide) (pc' := 313) (by decide) (pcN := 309) rfl (fun (c_475 : ¬ v0.toInt = v0.toInt) => by omega) (fun (c_475 : v0.toInt = v0.toInt) => ?_)
          refine go_iconst C (1 : Int32) at_309 (pc' := 310) rfl (by decide) ?_
          refine go_goto C at_310 (by decide) (pc' := 314) (by decide) ?_
          refine go_istore C (Ls' := #[.val (.int x0), .val (.int x1), .val (.int x2), .val (.int x3), .val (.int x4), .val (.int x5), .val (.int (3 : Int32)), .val (.int v0), .val (.int v1), .val (.int v2), .val (.int v3), .val (.ref a_315), .val (.int (1 : Int32)), .val (.int (1 : Int32)), .val (.int (0 : Int32)), .val (.int (0 : Int32)), .val (.ref a_437), .val (.int (2 : Int32)), .val (.int (1 : Int32))]) at_314 (pc' := 316) rfl rfl ?_
          refine go_iload C at_316 (pc' := 318) rfl rfl ?_
          refine go_iconst C (1 : Int32) at_318 (pc' := 319) rfl (by decide) ?_
          refine go_icmp C (2 : Int) (1 : Int) (by decide) (by decide) at_319 (by decide) (pc' := 347) (by decide) (pcN := 322) rfl (fun (c_476 : ¬ (1 : Int) < (2 : Int)) => by omega) (fun (c_476 : (1 : Int) < (2 : Int)) => ?_)
          refine go_iload C at_322 (pc' := 324) rfl rfl ?_
          refine go_if0 C (1 : Int) (by decide) at_324 (by decide) (pc' := 344) (by decide) (pcN := 327) rfl (fun (c_477 : (1 : Int) = 0) => by omega) (fun (c_477 : ¬ (1 : Int) = 0) => ?_)
          refine go_aload C at_327 (pc' := 329) rfl rfl rfl ?_
          refine go_iconst C (1 : Int32) at_329 (pc' := 330) rfl (by decide) ?_
          refine go_virtualP C (as := [.int (1 : Int32)]) (rest := []) (W := 0) (.int v1) (sat_get l Z a0 hw a_315 r_326 (1 : Int32) v1 1 [.int v0, .int v1, .int v2, .int (0 : Int32), .int (0 : Int32), .int (0 : Int32), .int (0 : Int32), .int (0 : Int32)] _ _ F_465 A_468 (by decide) rfl) E_467 (wd hw 33 rfl) (wd hw 34 rfl) (wd hw 36 rfl) (wd hw 35 rfl) (wd hw 6 rfl) (wd hw 37 rfl) (by decide) pd_5 rfl rfl rfl (by decide) (by decide) rfl rfl (by decide) (by decide) at_330 (pc' := 333) rfl rfl ?_
          refine go_aload C at_333 (pc' := 335) rfl rfl rfl ?_
          refine go_iconst C (1 : Int32) at_335 (pc' := 336) rfl (by decide) ?_
          refine go_iaload C A_469 1 (.int v1) (by decide) rfl at_336 (pc' := 337) rfl ?_
          refine go_icmp C v1.toInt v1.toInt rfl rfl at_337 (by decide) (pc' := 344) (by decide) (pcN := 340) rfl (fun (c_478 : ¬ v1.toInt = v1.toInt) => by omega) (fun (c_478 : v1.toInt = v1.toInt) => ?_)
          refine go_iconst C (1 : Int32) at_340 (pc' := 341) rfl (by decide) ?_
          refine go_goto C at_341 (by decide) (pc' := 345) (by decide) ?_
          refine go_istore C (Ls' := #[.val (.int x0), .val (.int x1), .val (.int x2), .val (.int x3), .val (.int x4), .val (.int x5), .val (.int (3 : Int32)), .val (.int v0), .val (.int v1), .val (.int v2), .val (.int v3), .val (.ref a_315), .val (.int (1 : Int32)), .val (.int (1 : Int32)), .val (.int (0 : Int32)), .val (.int (0 : Int32)), .val (.ref a_437), .val (.int (2 : Int32)), .val (.int (1 : Int32))]) at_345 (pc' := 347) rfl rfl ?_
          refine go_iload C at_347 (pc' := 349) rfl rfl ?_
          refine go_iconst C (2 : Int32) at_349 (pc' := 350) rfl (by decide) ?_
          refine go_icmp C (2 : Int) (2 : Int) (by decide) (by decide) at_350 (by decide) (pc' := 378) (by decide) (pcN := 353) rfl (fun (c_479 : ¬ (2 : Int) < (2 : Int)) => ?_) (fun (c_479 : (2 : Int) < (2 : Int)) => by omega)
          refine go_iload C at_378 (pc' := 380) rfl rfl ?_
          refine go_iconst C (3 : Int32) at_380 (pc' := 381) rfl (by decide) ?_
          refine go_icmp C (2 : Int) (3 : Int) (by decide) (by decide) at_381 (by decide) (pc' := 409) (by decide) (pcN := 384) rfl (fun (c_480 : ¬ (3 : Int) < (2 : Int)) => ?_) (fun (c_480 : (3 : Int) < (2 : Int)) => by omega)
          refine go_iload C at_409 (pc' := 411) rfl rfl ?_
          refine go_ireturnN C (z' := (1 : Int32)) rfl (by simp) rfl at_411 (by decide) (by decide) ?_
          exact ⟨_, rfl, rfl⟩
        · skip
          refine go_iload C at_155 (pc' := 157) rfl rfl ?_
          refine go_iload C at_157 (pc' := 159) rfl rfl ?_
          refine go_icmp C v2.toInt v1.toInt rfl rfl at_159 (by decide) (pc' := 166) (by decide) (pcN := 162) rfl (fun (c_481 : v2.toInt = v1.toInt) => ?_) (fun (c_481 : ¬ v2.toInt = v1.toInt) => by omega)
          refine go_iconst C (0 : Int32) at_166 (pc' := 167) rfl (by decide) ?_
          refine go_istore C (Ls' := #[.val (.int x0), .val (.int x1), .val (.int x2), .val (.int x3), .val (.int x4), .val (.int x5), .val (.int (3 : Int32)), .val (.int v0), .val (.int v1), .val (.int v2), .val (.int v3), .val (.ref a_315), .val (.int (1 : Int32)), .val (.int (1 : Int32)), .val (.int (0 : Int32)), .unset, .unset, .unset, .unset]) at_167 (pc' := 169) rfl rfl ?_
          refine go_iload C at_169 (pc' := 171) rfl rfl ?_
          refine go_iconst C (3 : Int32) at_171 (pc' := 172) rfl (by decide) ?_
          refine go_icmp C (3 : Int) (3 : Int) (by decide) (by decide) at_172 (by decide) (pc' := 200) (by decide) (pcN := 175) rfl (fun (c_482 : ¬ (3 : Int) < (3 : Int)) => ?_) (fun (c_482 : (3 : Int) < (3 : Int)) => by omega)
          refine go_iconst C (0 : Int32) at_200 (pc' := 201) rfl (by decide) ?_
          refine go_istore C (Ls' := #[.val (.int x0), .val (.int x1), .val (.int x2), .val (.int x3), .val (.int x4), .val (.int x5), .val (.int (3 : Int32)), .val (.int v0), .val (.int v1), .val (.int v2), .val (.int v3), .val (.ref a_315), .val (.int (1 : Int32)), .val (.int (1 : Int32)), .val (.int (0 : Int32)), .val (.int (0 : Int32)), .unset, .unset, .unset]) at_201 (pc' := 203) rfl rfl ?_
          refine go_iconst C (4 : Int32) at_203 (pc' := 204) rfl (by decide) ?_
          refine go_newarray C (wd hw 13 rfl) rfl 4 4 (by decide) (by decide) (by decide) (ce' := 3) (sl' := 14) rfl rfl (by decide) (by decide) at_204 (pc' := 206) rfl ?_
          intro h_483 a_484 g_485 E_486 A_487
          have n_488 : a_315 ≠ a_484 := own_ne_new E_426.lt g_485
          have n_489 : r_326 ≠ a_484 := own_ne_new A_429.lt g_485
          have g_490 : Z.heap.size ≤ a_484 := own_ge (Nat.le_of_lt (Nat.lt_of_le_of_lt g_320 E_426.lt)) g_485
          have F_491 := Fld.ext E_486 F_427
          have F_492 := Fld.ext E_486 F_428
          have E_493 := Exa.ext E_486 E_426
          have A_494 := Av.ext A_429 E_486
          have z_495 : Z.heap.size ≤ h_483.size := Nat.le_trans (Nat.le_of_lt (Nat.lt_of_le_of_lt g_320 E_426.lt)) E_486.1
          have A_496 : Av Z h_483 a_484 .int [.int (0 : Int32), .int (0 : Int32), .int (0 : Int32), .int (0 : Int32)] := A_487
          refine go_astore C (Ls' := #[.val (.int x0), .val (.int x1), .val (.int x2), .val (.int x3), .val (.int x4), .val (.int x5), .val (.int (3 : Int32)), .val (.int v0), .val (.int v1), .val (.int v2), .val (.int v3), .val (.ref a_315), .val (.int (1 : Int32)), .val (.int (1 : Int32)), .val (.int (0 : Int32)), .val (.int (0 : Int32)), .val (.ref a_484), .unset, .unset]) at_206 (pc' := 208) rfl rfl rfl ?_
          refine go_iconst C (0 : Int32) at_208 (pc' := 209) rfl (by decide) ?_
          refine go_istore C (Ls' := #[.val (.int x0), .val (.int x1), .val (.int x2), .val (.int x3), .val (.int x4), .val (.int x5), .val (.int (3 : Int32)), .val (.int v0), .val (.int v1), .val (.int v2), .val (.int v3), .val (.ref a_315), .val (.int (1 : Int32)), .val (.int (1 : Int32)), .val (.int (0 : Int32)), .val (.int (0 : Int32)), .val (.ref a_484), .val (.int (0 : Int32)), .unset]) at_209 (pc' := 211) rfl rfl ?_
          refine go_iload C at_211 (pc' := 213) rfl rfl ?_
          refine go_if0 C (1 : Int) (by decide) at_213 (by decide) (pc' := 226) (by decide) (pcN := 216) rfl (fun (c_497 : (1 : Int) = 0) => by omega) (fun (c_497 : ¬ (1 : Int) = 0) => ?_)
          refine go_aload C at_216 (pc' := 218) rfl rfl rfl ?_
          refine go_iload C at_218 (pc' := 220) rfl rfl ?_
          refine go_iload C at_220 (pc' := 222) rfl rfl ?_
          refine go_iastore C A_496 0 (by decide) (show 0 < 4 from by decide) g_490 at_222 (pc' := 223) rfl ?_
          intro h_498 W_499 A_500
          have z_501 : Z.heap.size ≤ h_498.size := W_499.size.symm ▸ z_495
          have F_502 := Fld.other W_499 F_491 (Or.inl n_488)
          have F_503 := Fld.other W_499 F_492 (Or.inl n_488)
          have E_504 := Exa.wr W_499 E_493
          have A_505 := Av.other A_494 W_499 n_489
          have A_506 : Av Z h_498 a_484 .int [.int v0, .int (0 : Int32), .int (0 : Int32), .int (0 : Int32)] := A_500
          refine go_iinc C (Ls' := #[.val (.int x0), .val (.int x1), .val (.int x2), .val (.int x3), .val (.int x4), .val (.int x5), .val (.int (3 : Int32)), .val (.int v0), .val (.int v1), .val (.int v2), .val (.int v3), .val (.ref a_315), .val (.int (1 : Int32)), .val (.int (1 : Int32)), .val (.int (0 : Int32)), .val (.int (0 : Int32)), .val (.ref a_484), .val (.int ((0 : Int32) + (1 : Int32))), .unset]) (1 : Int32) at_223 (pc' := 226) rfl (by decide) rfl rfl ?_
          rw [(by decide : (0 : Int32) + (1 : Int32) = (1 : Int32))]
          refine go_iload C at_226 (pc' := 228) rfl rfl ?_
          refine go_if0 C (1 : Int) (by decide) at_228 (by decide) (pc' := 241) (by decide) (pcN := 231) rfl (fun (c_507 : (1 : Int) = 0) => by omega) (fun (c_507 : ¬ (1 : Int) = 0) => ?_)
          refine go_aload C at_231 (pc' := 233) rfl rfl rfl ?_
          refine go_iload C at_233 (pc' := 235) rfl rfl ?_
          refine go_iload C at_235 (pc' := 237) rfl rfl ?_
          refine go_iastore C A_506 1 (by decide) (show 1 < 4 from by decide) g_490 at_237 (pc' := 238) rfl ?_
          intro h_508 W_509 A_510
          have z_511 : Z.heap.size ≤ h_508.size := W_509.size.symm ▸ z_501
          have F_512 := Fld.other W_509 F_502 (Or.inl n_488)
          have F_513 := Fld.other W_509 F_503 (Or.inl n_488)
          have E_514 := Exa.wr W_509 E_504
          have A_515 := Av.other A_505 W_509 n_489
          have A_516 : Av Z h_508 a_484 .int [.int v0, .int v1, .int (0 : Int32), .int (0 : Int32)] := A_510
          refine go_iinc C (Ls' := #[.val (.int x0), .val (.int x1), .val (.int x2), .val (.int x3), .val (.int x4), .val (.int x5), .val (.int (3 : Int32)), .val (.int v0), .val (.int v1), .val (.int v2), .val (.int v3), .val (.ref a_315), .val (.int (1 : Int32)), .val (.int (1 : Int32)), .val (.int (0 : Int32)), .val (.int (0 : Int32)), .val (.ref a_484), .val (.int ((1 : Int32) + (1 : Int32))), .unset]) (1 : Int32) at_238 (pc' := 241) rfl (by decide) rfl rfl ?_
          rw [(by decide : (1 : Int32) + (1 : Int32) = (2 : Int32))]
          refine go_iload C at_241 (pc' := 243) rfl rfl ?_
          refine go_if0 C (0 : Int) (by decide) at_243 (by decide) (pc' := 256) (by decide) (pcN := 246) rfl (fun (c_517 : (0 : Int) = 0) => ?_) (fun (c_517 : ¬ (0 : Int) = 0) => by omega)
          refine go_iload C at_256 (pc' := 258) rfl rfl ?_
          refine go_if0 C (0 : Int) (by decide) at_258 (by decide) (pc' := 271) (by decide) (pcN := 261) rfl (fun (c_518 : (0 : Int) = 0) => ?_) (fun (c_518 : ¬ (0 : Int) = 0) => by omega)
          refine go_aload C at_271 (pc' := 273) rfl rfl rfl ?_
          refine go_virtualP C (as := []) (rest := []) (W := 0) (.int (2 : Int32)) (sat_size l Z a0 hw a_315 _ _ _ F_513) E_514 (wd hw 23 rfl) (wd hw 24 rfl) (wd hw 26 rfl) (wd hw 25 rfl) (wd hw 6 rfl) (wd hw 27 rfl) (by decide) pd_3 rfl rfl rfl (by decide) (by decide) rfl rfl (by decide) (by decide) at_273 (pc' := 276) rfl rfl ?_
          refine go_iload C at_276 (pc' := 278) rfl rfl ?_
          refine go_icmp C (2 : Int) (2 : Int) (by decide) (by decide) at_278 (by decide) (pc' := 283) (by decide) (pcN := 281) rfl (fun (c_519 : (2 : Int) = (2 : Int)) => ?_) (fun (c_519 : ¬ (2 : Int) = (2 : Int)) => by omega)
          refine go_iconst C (1 : Int32) at_283 (pc' := 284) rfl (by decide) ?_
          refine go_istore C (Ls' := #[.val (.int x0), .val (.int x1), .val (.int x2), .val (.int x3), .val (.int x4), .val (.int x5), .val (.int (3 : Int32)), .val (.int v0), .val (.int v1), .val (.int v2), .val (.int v3), .val (.ref a_315), .val (.int (1 : Int32)), .val (.int (1 : Int32)), .val (.int (0 : Int32)), .val (.int (0 : Int32)), .val (.ref a_484), .val (.int (2 : Int32)), .val (.int (1 : Int32))]) at_284 (pc' := 286) rfl rfl ?_
          refine go_iload C at_286 (pc' := 288) rfl rfl ?_
          refine go_if0 C (2 : Int) (by decide) at_288 (by decide) (pc' := 316) (by decide) (pcN := 291) rfl (fun (c_520 : ¬ 0 < (2 : Int)) => by omega) (fun (c_520 : 0 < (2 : Int)) => ?_)
          refine go_iload C at_291 (pc' := 293) rfl rfl ?_
          refine go_if0 C (1 : Int) (by decide) at_293 (by decide) (pc' := 313) (by decide) (pcN := 296) rfl (fun (c_521 : (1 : Int) = 0) => by omega) (fun (c_521 : ¬ (1 : Int) = 0) => ?_)
          refine go_aload C at_296 (pc' := 298) rfl rfl rfl ?_
          refine go_iconst C (0 : Int32) at_298 (pc' := 299) rfl (by decide) ?_
          refine go_virtualP C (as := [.int (0 : Int32)]) (rest := []) (W := 0) (.int v0) (sat_get l Z a0 hw a_315 r_326 (0 : Int32) v0 0 [.int v0, .int v1, .int v2, .int (0 : Int32), .int (0 : Int32), .int (0 : Int32), .int (0 : Int32), .int (0 : Int32)] _ _ F_512 A_515 (by decide) rfl) E_514 (wd hw 33 rfl) (wd hw 34 rfl) (wd hw 36 rfl) (wd hw 35 rfl) (wd hw 6 rfl) (wd hw 37 rfl) (by decide) pd_5 rfl rfl rfl (by decide) (by decide) rfl rfl (by decide) (by decide) at_299 (pc' := 302) rfl rfl ?_
          refine go_aload C at_302 (pc' := 304) rfl rfl rfl ?_
          refine go_iconst C (0 : Int32) at_304 (pc' := 305) rfl (by decide) ?_
          refine go_iaload C A_516 0 (.int v0) (by decide) rfl at_305 (pc' := 306) rfl ?_
          refine go_icmp C v0.toInt v0.toInt rfl rfl at_306 (by decide) (pc' := 313) (by decide) (pcN := 309) rfl (fun (c_522 : ¬ v0.toInt = v0.toInt) => by omega) (fun (c_522 : v0.toInt = v0.toInt) => ?_)
          refine go_iconst C (1 : Int32) at_309 (pc' := 310) rfl (by decide) ?_
          refine go_goto C at_310 (by decide) (pc' := 314) (by decide) ?_
          refine go_istore C (Ls' := #[.val (.int x0), .val (.int x1), .val (.int x2), .val (.int x3), .val (.int x4), .val (.int x5), .val (.int (3 : Int32)), .val (.int v0), .val (.int v1), .val (.int v2), .val (.int v3), .val (.ref a_315), .val (.int (1 : Int32)), .val (.int (1 : Int32)), .val (.int (0 : Int32)), .val (.int (0 : Int32)), .val (.ref a_484), .val (.int (2 : Int32)), .val (.int (1 : Int32))]) at_314 (pc' := 316) rfl rfl ?_
          refine go_iload C at_316 (pc' := 318) rfl rfl ?_
          refine go_iconst C (1 : Int32) at_318 (pc' := 319) rfl (by decide) ?_
          refine go_icmp C (2 : Int) (1 : Int) (by decide) (by decide) at_319 (by decide) (pc' := 347) (by decide) (pcN := 322) rfl (fun (c_523 : ¬ (1 : Int) < (2 : Int)) => by omega) (fun (c_523 : (1 : Int) < (2 : Int)) => ?_)
          refine go_iload C at_322 (pc' := 324) rfl rfl ?_
          refine go_if0 C (1 : Int) (by decide) at_324 (by decide) (pc' := 344) (by decide) (pcN := 327) rfl (fun (c_524 : (1 : Int) = 0) => by omega) (fun (c_524 : ¬ (1 : Int) = 0) => ?_)
          refine go_aload C at_327 (pc' := 329) rfl rfl rfl ?_
          refine go_iconst C (1 : Int32) at_329 (pc' := 330) rfl (by decide) ?_
          refine go_virtualP C (as := [.int (1 : Int32)]) (rest := []) (W := 0) (.int v1) (sat_get l Z a0 hw a_315 r_326 (1 : Int32) v1 1 [.int v0, .int v1, .int v2, .int (0 : Int32), .int (0 : Int32), .int (0 : Int32), .int (0 : Int32), .int (0 : Int32)] _ _ F_512 A_515 (by decide) rfl) E_514 (wd hw 33 rfl) (wd hw 34 rfl) (wd hw 36 rfl) (wd hw 35 rfl) (wd hw 6 rfl) (wd hw 37 rfl) (by decide) pd_5 rfl rfl rfl (by decide) (by decide) rfl rfl (by decide) (by decide) at_330 (pc' := 333) rfl rfl ?_
          refine go_aload C at_333 (pc' := 335) rfl rfl rfl ?_
          refine go_iconst C (1 : Int32) at_335 (pc' := 336) rfl (by decide) ?_
          refine go_iaload C A_516 1 (.int v1) (by decide) rfl at_336 (pc' := 337) rfl ?_
          refine go_icmp C v1.toInt v1.toInt rfl rfl at_337 (by decide) (pc' := 344) (by decide) (pcN := 340) rfl (fun (c_525 : ¬ v1.toInt = v1.toInt) => by omega) (fun (c_525 : v1.toInt = v1.toInt) => ?_)
          refine go_iconst C (1 : Int32) at_340 (pc' := 341) rfl (by decide) ?_
          refine go_goto C at_341 (by decide) (pc' := 345) (by decide) ?_
          refine go_istore C (Ls' := #[.val (.int x0), .val (.int x1), .val (.int x2), .val (.int x3), .val (.int x4), .val (.int x5), .val (.int (3 : Int32)), .val (.int v0), .val (.int v1), .val (.int v2), .val (.int v3), .val (.ref a_315), .val (.int (1 : Int32)), .val (.int (1 : Int32)), .val (.int (0 : Int32)), .val (.int (0 : Int32)), .val (.ref a_484), .val (.int (2 : Int32)), .val (.int (1 : Int32))]) at_345 (pc' := 347) rfl rfl ?_
          refine go_iload C at_347 (pc' := 349) rfl rfl ?_
          refine go_iconst C (2 : Int32) at_349 (pc' := 350) rfl (by decide) ?_
          refine go_icmp C (2 : Int) (2 : Int) (by decide) (by decide) at_350 (by decide) (pc' := 378) (by decide) (pcN := 353) rfl (fun (c_526 : ¬ (2 : Int) < (2 : Int)) => ?_) (fun (c_526 : (2 : Int) < (2 : Int)) => by omega)
          refine go_iload C at_378 (pc' := 380) rfl rfl ?_
          refine go_iconst C (3 : Int32) at_380 (pc' := 381) rfl (by decide) ?_
          refine go_icmp C (2 : Int) (3 : Int) (by decide) (by decide) at_381 (by decide) (pc' := 409) (by decide) (pcN := 384) rfl (fun (c_527 : ¬ (3 : Int) < (2 : Int)) => ?_) (fun (c_527 : (3 : Int) < (2 : Int)) => by omega)
          refine go_iload C at_409 (pc' := 411) rfl rfl ?_
          refine go_ireturnN C (z' := (1 : Int32)) rfl (by simp) rfl at_411 (by decide) (by decide) ?_
          exact ⟨_, rfl, rfl⟩
    · skip
      rcases (by omega : (¬ v2.toInt = v0.toInt ∧ ¬ v2.toInt = v1.toInt) ∨ (v2.toInt = v0.toInt ∨ v2.toInt = v1.toInt)) with hf2 | hf2
      · skip
        refine go_virtualN C (as := []) (rest := []) (W := 0) (sat_rd3ft l Z a0 hw a_315 r_326 v0 v1 v2 _ _ hf1 hf2 E_350 F_351 F_352 A_353 g_320 g_327) E_350 (wd hw 16 rfl) (wd hw 17 rfl) (wd hw 19 rfl) (wd hw 18 rfl) (wd hw 6 rfl) (wd hw 20 rfl) (by decide) pd_2 rfl rfl rfl (by decide) (by decide) (ce' := 2) (sl' := 10) rfl rfl (by decide) (by decide) at_107 (pc' := 110) rfl rfl ?_
        intro h_528 q_529
        obtain ⟨E_530, F_531, F_532, A_533⟩ := q_529
        refine go_iload C at_110 (pc' := 112) rfl rfl ?_
        refine go_if0 C (3 : Int) (by decide) at_112 (by decide) (pc' := 119) (by decide) (pcN := 115) rfl (fun (c_534 : ¬ 0 < (3 : Int)) => by omega) (fun (c_534 : 0 < (3 : Int)) => ?_)
        refine go_iconst C (1 : Int32) at_115 (pc' := 116) rfl (by decide) ?_
        refine go_goto C at_116 (by decide) (pc' := 120) (by decide) ?_
        refine go_istore C (Ls' := #[.val (.int x0), .val (.int x1), .val (.int x2), .val (.int x3), .val (.int x4), .val (.int x5), .val (.int (3 : Int32)), .val (.int v0), .val (.int v1), .val (.int v2), .val (.int v3), .val (.ref a_315), .val (.int (1 : Int32)), .unset, .unset, .unset, .unset, .unset, .unset]) at_120 (pc' := 122) rfl rfl ?_
        refine go_iload C at_122 (pc' := 124) rfl rfl ?_
        refine go_iconst C (1 : Int32) at_124 (pc' := 125) rfl (by decide) ?_
        refine go_icmp C (3 : Int) (1 : Int) (by decide) (by decide) at_125 (by decide) (pc' := 139) (by decide) (pcN := 128) rfl (fun (c_535 : ¬ (1 : Int) < (3 : Int)) => by omega) (fun (c_535 : (1 : Int) < (3 : Int)) => ?_)
        refine go_iload C at_128 (pc' := 130) rfl rfl ?_
        refine go_iload C at_130 (pc' := 132) rfl rfl ?_
        refine go_icmp C v1.toInt v0.toInt rfl rfl at_132 (by decide) (pc' := 139) (by decide) (pcN := 135) rfl (fun (c_536 : v1.toInt = v0.toInt) => ?_) (fun (c_536 : ¬ v1.toInt = v0.toInt) => by omega)
        refine go_iconst C (0 : Int32) at_139 (pc' := 140) rfl (by decide) ?_
        refine go_istore C (Ls' := #[.val (.int x0), .val (.int x1), .val (.int x2), .val (.int x3), .val (.int x4), .val (.int x5), .val (.int (3 : Int32)), .val (.int v0), .val (.int v1), .val (.int v2), .val (.int v3), .val (.ref a_315), .val (.int (1 : Int32)), .val (.int (0 : Int32)), .unset, .unset, .unset, .unset, .unset]) at_140 (pc' := 142) rfl rfl ?_
        refine go_iload C at_142 (pc' := 144) rfl rfl ?_
        refine go_iconst C (2 : Int32) at_144 (pc' := 145) rfl (by decide) ?_
        refine go_icmp C (3 : Int) (2 : Int) (by decide) (by decide) at_145 (by decide) (pc' := 166) (by decide) (pcN := 148) rfl (fun (c_537 : ¬ (2 : Int) < (3 : Int)) => by omega) (fun (c_537 : (2 : Int) < (3 : Int)) => ?_)
        refine go_iload C at_148 (pc' := 150) rfl rfl ?_
        refine go_iload C at_150 (pc' := 152) rfl rfl ?_
        refine go_icmp C v2.toInt v0.toInt rfl rfl at_152 (by decide) (pc' := 166) (by decide) (pcN := 155) rfl (fun (c_538 : v2.toInt = v0.toInt) => by omega) (fun (c_538 : ¬ v2.toInt = v0.toInt) => ?_)
        refine go_iload C at_155 (pc' := 157) rfl rfl ?_
        refine go_iload C at_157 (pc' := 159) rfl rfl ?_
        refine go_icmp C v2.toInt v1.toInt rfl rfl at_159 (by decide) (pc' := 166) (by decide) (pcN := 162) rfl (fun (c_539 : v2.toInt = v1.toInt) => by omega) (fun (c_539 : ¬ v2.toInt = v1.toInt) => ?_)
        refine go_iconst C (1 : Int32) at_162 (pc' := 163) rfl (by decide) ?_
        refine go_goto C at_163 (by decide) (pc' := 167) (by decide) ?_
        refine go_istore C (Ls' := #[.val (.int x0), .val (.int x1), .val (.int x2), .val (.int x3), .val (.int x4), .val (.int x5), .val (.int (3 : Int32)), .val (.int v0), .val (.int v1), .val (.int v2), .val (.int v3), .val (.ref a_315), .val (.int (1 : Int32)), .val (.int (0 : Int32)), .val (.int (1 : Int32)), .unset, .unset, .unset, .unset]) at_167 (pc' := 169) rfl rfl ?_
        refine go_iload C at_169 (pc' := 171) rfl rfl ?_
        refine go_iconst C (3 : Int32) at_171 (pc' := 172) rfl (by decide) ?_
        refine go_icmp C (3 : Int) (3 : Int) (by decide) (by decide) at_172 (by decide) (pc' := 200) (by decide) (pcN := 175) rfl (fun (c_540 : ¬ (3 : Int) < (3 : Int)) => ?_) (fun (c_540 : (3 : Int) < (3 : Int)) => by omega)
        refine go_iconst C (0 : Int32) at_200 (pc' := 201) rfl (by decide) ?_
        refine go_istore C (Ls' := #[.val (.int x0), .val (.int x1), .val (.int x2), .val (.int x3), .val (.int x4), .val (.int x5), .val (.int (3 : Int32)), .val (.int v0), .val (.int v1), .val (.int v2), .val (.int v3), .val (.ref a_315), .val (.int (1 : Int32)), .val (.int (0 : Int32)), .val (.int (1 : Int32)), .val (.int (0 : Int32)), .unset, .unset, .unset]) at_201 (pc' := 203) rfl rfl ?_
        refine go_iconst C (4 : Int32) at_203 (pc' := 204) rfl (by decide) ?_
        refine go_newarray C (wd hw 13 rfl) rfl 4 4 (by decide) (by decide) (by decide) (ce' := 3) (sl' := 14) rfl rfl (by decide) (by decide) at_204 (pc' := 206) rfl ?_
        intro h_541 a_542 g_543 E_544 A_545
        have n_546 : a_315 ≠ a_542 := own_ne_new E_530.lt g_543
        have n_547 : r_326 ≠ a_542 := own_ne_new A_533.lt g_543
        have g_548 : Z.heap.size ≤ a_542 := own_ge (Nat.le_of_lt (Nat.lt_of_le_of_lt g_320 E_530.lt)) g_543
        have F_549 := Fld.ext E_544 F_531
        have F_550 := Fld.ext E_544 F_532
        have E_551 := Exa.ext E_544 E_530
        have A_552 := Av.ext A_533 E_544
        have z_553 : Z.heap.size ≤ h_541.size := Nat.le_trans (Nat.le_of_lt (Nat.lt_of_le_of_lt g_320 E_530.lt)) E_544.1
        have A_554 : Av Z h_541 a_542 .int [.int (0 : Int32), .int (0 : Int32), .int (0 : Int32), .int (0 : Int32)] := A_545
        refine go_astore C (Ls' := #[.val (.int x0), .val (.int x1), .val (.int x2), .val (.int x3), .val (.int x4), .val (.int x5), .val (.int (3 : Int32)), .val (.int v0), .val (.int v1), .val (.int v2), .val (.int v3), .val (.ref a_315), .val (.int (1 : Int32)), .val (.int (0 : Int32)), .val (.int (1 : Int32)), .val (.int (0 : Int32)), .val (.ref a_542), .unset, .unset]) at_206 (pc' := 208) rfl rfl rfl ?_
        refine go_iconst C (0 : Int32) at_208 (pc' := 209) rfl (by decide) ?_
        refine go_istore C (Ls' := #[.val (.int x0), .val (.int x1), .val (.int x2), .val (.int x3), .val (.int x4), .val (.int x5), .val (.int (3 : Int32)), .val (.int v0), .val (.int v1), .val (.int v2), .val (.int v3), .val (.ref a_315), .val (.int (1 : Int32)), .val (.int (0 : Int32)), .val (.int (1 : Int32)), .val (.int (0 : Int32)), .val (.ref a_542), .val (.int (0 : Int32)), .unset]) at_209 (pc' := 211) rfl rfl ?_
        refine go_iload C at_211 (pc' := 213) rfl rfl ?_
        refine go_if0 C (1 : Int) (by decide) at_213 (by decide) (pc' := 226) (by decide) (pcN := 216) rfl (fun (c_555 : (1 : Int) = 0) => by omega) (fun (c_555 : ¬ (1 : Int) = 0) => ?_)
        refine go_aload C at_216 (pc' := 218) rfl rfl rfl ?_
        refine go_iload C at_218 (pc' := 220) rfl rfl ?_
        refine go_iload C at_220 (pc' := 222) rfl rfl ?_
        refine go_iastore C A_554 0 (by decide) (show 0 < 4 from by decide) g_548 at_222 (pc' := 223) rfl ?_
        intro h_556 W_557 A_558
        have z_559 : Z.heap.size ≤ h_556.size := W_557.size.symm ▸ z_553
        have F_560 := Fld.other W_557 F_549 (Or.inl n_546)
        have F_561 := Fld.other W_557 F_550 (Or.inl n_546)
        have E_562 := Exa.wr W_557 E_551
        have A_563 := Av.other A_552 W_557 n_547
        have A_564 : Av Z h_556 a_542 .int [.int v0, .int (0 : Int32), .int (0 : Int32), .int (0 : Int32)] := A_558
        refine go_iinc C (Ls' := #[.val (.int x0), .val (.int x1), .val (.int x2), .val (.int x3), .val (.int x4), .val (.int x5), .val (.int (3 : Int32)), .val (.int v0), .val (.int v1), .val (.int v2), .val (.int v3), .val (.ref a_315), .val (.int (1 : Int32)), .val (.int (0 : Int32)), .val (.int (1 : Int32)), .val (.int (0 : Int32)), .val (.ref a_542), .val (.int ((0 : Int32) + (1 : Int32))), .unset]) (1 : Int32) at_223 (pc' := 226) rfl (by decide) rfl rfl ?_
        rw [(by decide : (0 : Int32) + (1 : Int32) = (1 : Int32))]
        refine go_iload C at_226 (pc' := 228) rfl rfl ?_
        refine go_if0 C (0 : Int) (by decide) at_228 (by decide) (pc' := 241) (by decide) (pcN := 231) rfl (fun (c_565 : (0 : Int) = 0) => ?_) (fun (c_565 : ¬ (0 : Int) = 0) => by omega)
        refine go_iload C at_241 (pc' := 243) rfl rfl ?_
        refine go_if0 C (1 : Int) (by decide) at_243 (by decide) (pc' := 256) (by decide) (pcN := 246) rfl (fun (c_566 : (1 : Int) = 0) => by omega) (fun (c_566 : ¬ (1 : Int) = 0) => ?_)
        refine go_aload C at_246 (pc' := 248) rfl rfl rfl ?_
        refine go_iload C at_248 (pc' := 250) rfl rfl ?_
        refine go_iload C at_250 (pc' := 252) rfl rfl ?_
        refine go_iastore C A_564 1 (by decide) (show 1 < 4 from by decide) g_548 at_252 (pc' := 253) rfl ?_
        intro h_567 W_568 A_569
        have z_570 : Z.heap.size ≤ h_567.size := W_568.size.symm ▸ z_559
        have F_571 := Fld.other W_568 F_560 (Or.inl n_546)
        have F_572 := Fld.other W_568 F_561 (Or.inl n_546)
        have E_573 := Exa.wr W_568 E_562
        have A_574 := Av.other A_563 W_568 n_547
        have A_575 : Av Z h_567 a_542 .int [.int v0, .int v2, .int (0 : Int32), .int (0 : Int32)] := A_569
        refine go_iinc C (Ls' := #[.val (.int x0), .val (.int x1), .val (.int x2), .val (.int x3), .val (.int x4), .val (.int x5), .val (.int (3 : Int32)), .val (.int v0), .val (.int v1), .val (.int v2), .val (.int v3), .val (.ref a_315), .val (.int (1 : Int32)), .val (.int (0 : Int32)), .val (.int (1 : Int32)), .val (.int (0 : Int32)), .val (.ref a_542), .val (.int ((1 : Int32) + (1 : Int32))), .unset]) (1 : Int32) at_253 (pc' := 256) rfl (by decide) rfl rfl ?_
        rw [(by decide : (1 : Int32) + (1 : Int32) = (2 : Int32))]
        refine go_iload C at_256 (pc' := 258) rfl rfl ?_
        refine go_if0 C (0 : Int) (by decide) at_258 (by decide) (pc' := 271) (by decide) (pcN := 261) rfl (fun (c_576 : (0 : Int) = 0) => ?_) (fun (c_576 : ¬ (0 : Int) = 0) => by omega)
        refine go_aload C at_271 (pc' := 273) rfl rfl rfl ?_
        refine go_virtualP C (as := []) (rest := []) (W := 0) (.int (2 : Int32)) (sat_size l Z a0 hw a_315 _ _ _ F_572) E_573 (wd hw 23 rfl) (wd hw 24 rfl) (wd hw 26 rfl) (wd hw 25 rfl) (wd hw 6 rfl) (wd hw 27 rfl) (by decide) pd_3 rfl rfl rfl (by decide) (by decide) rfl rfl (by decide) (by decide) at_273 (pc' := 276) rfl rfl ?_
        refine go_iload C at_276 (pc' := 278) rfl rfl ?_
        refine go_icmp C (2 : Int) (2 : Int) (by decide) (by decide) at_278 (by decide) (pc' := 283) (by decide) (pcN := 281) rfl (fun (c_577 : (2 : Int) = (2 : Int)) => ?_) (fun (c_577 : ¬ (2 : Int) = (2 : Int)) => by omega)
        refine go_iconst C (1 : Int32) at_283 (pc' := 284) rfl (by decide) ?_
        refine go_istore C (Ls' := #[.val (.int x0), .val (.int x1), .val (.int x2), .val (.int x3), .val (.int x4), .val (.int x5), .val (.int (3 : Int32)), .val (.int v0), .val (.int v1), .val (.int v2), .val (.int v3), .val (.ref a_315), .val (.int (1 : Int32)), .val (.int (0 : Int32)), .val (.int (1 : Int32)), .val (.int (0 : Int32)), .val (.ref a_542), .val (.int (2 : Int32)), .val (.int (1 : Int32))]) at_284 (pc' := 286) rfl rfl ?_
        refine go_iload C at_286 (pc' := 288) rfl rfl ?_
        refine go_if0 C (2 : Int) (by decide) at_288 (by decide) (pc' := 316) (by decide) (pcN := 291) rfl (fun (c_578 : ¬ 0 < (2 : Int)) => by omega) (fun (c_578 : 0 < (2 : Int)) => ?_)
        refine go_iload C at_291 (pc' := 293) rfl rfl ?_
        refine go_if0 C (1 : Int) (by decide) at_293 (by decide) (pc' := 313) (by decide) (pcN := 296) rfl (fun (c_579 : (1 : Int) = 0) => by omega) (fun (c_579 : ¬ (1 : Int) = 0) => ?_)
        refine go_aload C at_296 (pc' := 298) rfl rfl rfl ?_
        refine go_iconst C (0 : Int32) at_298 (pc' := 299) rfl (by decide) ?_
        refine go_virtualP C (as := [.int (0 : Int32)]) (rest := []) (W := 0) (.int v0) (sat_get l Z a0 hw a_315 r_326 (0 : Int32) v0 0 [.int v0, .int v2, .int v2, .int (0 : Int32), .int (0 : Int32), .int (0 : Int32), .int (0 : Int32), .int (0 : Int32)] _ _ F_571 A_574 (by decide) rfl) E_573 (wd hw 33 rfl) (wd hw 34 rfl) (wd hw 36 rfl) (wd hw 35 rfl) (wd hw 6 rfl) (wd hw 37 rfl) (by decide) pd_5 rfl rfl rfl (by decide) (by decide) rfl rfl (by decide) (by decide) at_299 (pc' := 302) rfl rfl ?_
        refine go_aload C at_302 (pc' := 304) rfl rfl rfl ?_
        refine go_iconst C (0 : Int32) at_304 (pc' := 305) rfl (by decide) ?_
        refine go_iaload C A_575 0 (.int v0) (by decide) rfl at_305 (pc' := 306) rfl ?_
        refine go_icmp C v0.toInt v0.toInt rfl rfl at_306 (by decide) (pc' := 313) (by decide) (pcN := 309) rfl (fun (c_580 : ¬ v0.toInt = v0.toInt) => by omega) (fun (c_580 : v0.toInt = v0.toInt) => ?_)
        refine go_iconst C (1 : Int32) at_309 (pc' := 310) rfl (by decide) ?_
        refine go_goto C at_310 (by decide) (pc' := 314) (by decide) ?_
        refine go_istore C (Ls' := #[.val (.int x0), .val (.int x1), .val (.int x2), .val (.int x3), .val (.int x4), .val (.int x5), .val (.int (3 : Int32)), .val (.int v0), .val (.int v1), .val (.int v2), .val (.int v3), .val (.ref a_315), .val (.int (1 : Int32)), .val (.int (0 : Int32)), .val (.int (1 : Int32)), .val (.int (0 : Int32)), .val (.ref a_542), .val (.int (2 : Int32)), .val (.int (1 : Int32))]) at_314 (pc' := 316) rfl rfl ?_
        refine go_iload C at_316 (pc' := 318) rfl rfl ?_
        refine go_iconst C (1 : Int32) at_318 (pc' := 319) rfl (by decide) ?_
        refine go_icmp C (2 : Int) (1 : Int) (by decide) (by decide) at_319 (by decide) (pc' := 347) (by decide) (pcN := 322) rfl (fun (c_581 : ¬ (1 : Int) < (2 : Int)) => by omega) (fun (c_581 : (1 : Int) < (2 : Int)) => ?_)
        refine go_iload C at_322 (pc' := 324) rfl rfl ?_
        refine go_if0 C (1 : Int) (by decide) at_324 (by decide) (pc' := 344) (by decide) (pcN := 327) rfl (fun (c_582 : (1 : Int) = 0) => by omega) (fun (c_582 : ¬ (1 : Int) = 0) => ?_)
        refine go_aload C at_327 (pc' := 329) rfl rfl rfl ?_
        refine go_iconst C (1 : Int32) at_329 (pc' := 330) rfl (by decide) ?_
        refine go_virtualP C (as := [.int (1 : Int32)]) (rest := []) (W := 0) (.int v2) (sat_get l Z a0 hw a_315 r_326 (1 : Int32) v2 1 [.int v0, .int v2, .int v2, .int (0 : Int32), .int (0 : Int32), .int (0 : Int32), .int (0 : Int32), .int (0 : Int32)] _ _ F_571 A_574 (by decide) rfl) E_573 (wd hw 33 rfl) (wd hw 34 rfl) (wd hw 36 rfl) (wd hw 35 rfl) (wd hw 6 rfl) (wd hw 37 rfl) (by decide) pd_5 rfl rfl rfl (by decide) (by decide) rfl rfl (by decide) (by decide) at_330 (pc' := 333) rfl rfl ?_
        refine go_aload C at_333 (pc' := 335) rfl rfl rfl ?_
        refine go_iconst C (1 : Int32) at_335 (pc' := 336) rfl (by decide) ?_
        refine go_iaload C A_575 1 (.int v2) (by decide) rfl at_336 (pc' := 337) rfl ?_
        refine go_icmp C v2.toInt v2.toInt rfl rfl at_337 (by decide) (pc' := 344) (by decide) (pcN := 340) rfl (fun (c_583 : ¬ v2.toInt = v2.toInt) => by omega) (fun (c_583 : v2.toInt = v2.toInt) => ?_)
        refine go_iconst C (1 : Int32) at_340 (pc' := 341) rfl (by decide) ?_
        refine go_goto C at_341 (by decide) (pc' := 345) (by decide) ?_
        refine go_istore C (Ls' := #[.val (.int x0), .val (.int x1), .val (.int x2), .val (.int x3), .val (.int x4), .val (.int x5), .val (.int (3 : Int32)), .val (.int v0), .val (.int v1), .val (.int v2), .val (.int v3), .val (.ref a_315), .val (.int (1 : Int32)), .val (.int (0 : Int32)), .val (.int (1 : Int32)), .val (.int (0 : Int32)), .val (.ref a_542), .val (.int (2 : Int32)), .val (.int (1 : Int32))]) at_345 (pc' := 347) rfl rfl ?_
        refine go_iload C at_347 (pc' := 349) rfl rfl ?_
        refine go_iconst C (2 : Int32) at_349 (pc' := 350) rfl (by decide) ?_
        refine go_icmp C (2 : Int) (2 : Int) (by decide) (by decide) at_350 (by decide) (pc' := 378) (by decide) (pcN := 353) rfl (fun (c_584 : ¬ (2 : Int) < (2 : Int)) => ?_) (fun (c_584 : (2 : Int) < (2 : Int)) => by omega)
        refine go_iload C at_378 (pc' := 380) rfl rfl ?_
        refine go_iconst C (3 : Int32) at_380 (pc' := 381) rfl (by decide) ?_
        refine go_icmp C (2 : Int) (3 : Int) (by decide) (by decide) at_381 (by decide) (pc' := 409) (by decide) (pcN := 384) rfl (fun (c_585 : ¬ (3 : Int) < (2 : Int)) => ?_) (fun (c_585 : (3 : Int) < (2 : Int)) => by omega)
        refine go_iload C at_409 (pc' := 411) rfl rfl ?_
        refine go_ireturnN C (z' := (1 : Int32)) rfl (by simp) rfl at_411 (by decide) (by decide) ?_
        exact ⟨_, rfl, rfl⟩
      · skip
        refine go_virtualN C (as := []) (rest := []) (W := 0) (sat_rd3ff l Z a0 hw a_315 r_326 v0 v1 v2 _ _ hf1 hf2 E_350 F_351 F_352 A_353 g_320 g_327) E_350 (wd hw 16 rfl) (wd hw 17 rfl) (wd hw 19 rfl) (wd hw 18 rfl) (wd hw 6 rfl) (wd hw 20 rfl) (by decide) pd_2 rfl rfl rfl (by decide) (by decide) (ce' := 2) (sl' := 10) rfl rfl (by decide) (by decide) at_107 (pc' := 110) rfl rfl ?_
        intro h_586 q_587
        obtain ⟨E_588, F_589, F_590, A_591⟩ := q_587
        refine go_iload C at_110 (pc' := 112) rfl rfl ?_
        refine go_if0 C (3 : Int) (by decide) at_112 (by decide) (pc' := 119) (by decide) (pcN := 115) rfl (fun (c_592 : ¬ 0 < (3 : Int)) => by omega) (fun (c_592 : 0 < (3 : Int)) => ?_)
        refine go_iconst C (1 : Int32) at_115 (pc' := 116) rfl (by decide) ?_
        refine go_goto C at_116 (by decide) (pc' := 120) (by decide) ?_
        refine go_istore C (Ls' := #[.val (.int x0), .val (.int x1), .val (.int x2), .val (.int x3), .val (.int x4), .val (.int x5), .val (.int (3 : Int32)), .val (.int v0), .val (.int v1), .val (.int v2), .val (.int v3), .val (.ref a_315), .val (.int (1 : Int32)), .unset, .unset, .unset, .unset, .unset, .unset]) at_120 (pc' := 122) rfl rfl ?_
        refine go_iload C at_122 (pc' := 124) rfl rfl ?_
        refine go_iconst C (1 : Int32) at_124 (pc' := 125) rfl (by decide) ?_
        refine go_icmp C (3 : Int) (1 : Int) (by decide) (by decide) at_125 (by decide) (pc' := 139) (by decide) (pcN := 128) rfl (fun (c_593 : ¬ (1 : Int) < (3 : Int)) => by omega) (fun (c_593 : (1 : Int) < (3 : Int)) => ?_)
        refine go_iload C at_128 (pc' := 130) rfl rfl ?_
        refine go_iload C at_130 (pc' := 132) rfl rfl ?_
        refine go_icmp C v1.toInt v0.toInt rfl rfl at_132 (by decide) (pc' := 139) (by decide) (pcN := 135) rfl (fun (c_594 : v1.toInt = v0.toInt) => ?_) (fun (c_594 : ¬ v1.toInt = v0.toInt) => by omega)
        refine go_iconst C (0 : Int32) at_139 (pc' := 140) rfl (by decide) ?_
        refine go_istore C (Ls' := #[.val (.int x0), .val (.int x1), .val (.int x2), .val (.int x3), .val (.int x4), .val (.int x5), .val (.int (3 : Int32)), .val (.int v0), .val (.int v1), .val (.int v2), .val (.int v3), .val (.ref a_315), .val (.int (1 : Int32)), .val (.int (0 : Int32)), .unset, .unset, .unset, .unset, .unset]) at_140 (pc' := 142) rfl rfl ?_
        refine go_iload C at_142 (pc' := 144) rfl rfl ?_
        refine go_iconst C (2 : Int32) at_144 (pc' := 145) rfl (by decide) ?_
        refine go_icmp C (3 : Int) (2 : Int) (by decide) (by decide) at_145 (by decide) (pc' := 166) (by decide) (pcN := 148) rfl (fun (c_595 : ¬ (2 : Int) < (3 : Int)) => by omega) (fun (c_595 : (2 : Int) < (3 : Int)) => ?_)
        refine go_iload C at_148 (pc' := 150) rfl rfl ?_
        refine go_iload C at_150 (pc' := 152) rfl rfl ?_
        refine go_icmp C v2.toInt v0.toInt rfl rfl at_152 (by decide) (pc' := 166) (by decide) (pcN := 155) rfl (fun (c_596 : v2.toInt = v0.toInt) => ?_) (fun (c_596 : ¬ v2.toInt = v0.toInt) => by omega)
        refine go_iconst C (0 : Int32) at_166 (pc' := 167) rfl (by decide) ?_
        refine go_istore C (Ls' := #[.val (.int x0), .val (.int x1), .val (.int x2), .val (.int x3), .val (.int x4), .val (.int x5), .val (.int (3 : Int32)), .val (.int v0), .val (.int v1), .val (.int v2), .val (.int v3), .val (.ref a_315), .val (.int (1 : Int32)), .val (.int (0 : Int32)), .val (.int (0 : Int32)), .unset, .unset, .unset, .unset]) at_167 (pc' := 169) rfl rfl ?_
        refine go_iload C at_169 (pc' := 171) rfl rfl ?_
        refine go_iconst C (3 : Int32) at_171 (pc' := 172) rfl (by decide) ?_
        refine go_icmp C (3 : Int) (3 : Int) (by decide) (by decide) at_172 (by decide) (pc' := 200) (by decide) (pcN := 175) rfl (fun (c_597 : ¬ (3 : Int) < (3 : Int)) => ?_) (fun (c_597 : (3 : Int) < (3 : Int)) => by omega)
        refine go_iconst C (0 : Int32) at_200 (pc' := 201) rfl (by decide) ?_
        refine go_istore C (Ls' := #[.val (.int x0), .val (.int x1), .val (.int x2), .val (.int x3), .val (.int x4), .val (.int x5), .val (.int (3 : Int32)), .val (.int v0), .val (.int v1), .val (.int v2), .val (.int v3), .val (.ref a_315), .val (.int (1 : Int32)), .val (.int (0 : Int32)), .val (.int (0 : Int32)), .val (.int (0 : Int32)), .unset, .unset, .unset]) at_201 (pc' := 203) rfl rfl ?_
        refine go_iconst C (4 : Int32) at_203 (pc' := 204) rfl (by decide) ?_
        refine go_newarray C (wd hw 13 rfl) rfl 4 4 (by decide) (by decide) (by decide) (ce' := 3) (sl' := 14) rfl rfl (by decide) (by decide) at_204 (pc' := 206) rfl ?_
        intro h_598 a_599 g_600 E_601 A_602
        have n_603 : a_315 ≠ a_599 := own_ne_new E_588.lt g_600
        have n_604 : r_326 ≠ a_599 := own_ne_new A_591.lt g_600
        have g_605 : Z.heap.size ≤ a_599 := own_ge (Nat.le_of_lt (Nat.lt_of_le_of_lt g_320 E_588.lt)) g_600
        have F_606 := Fld.ext E_601 F_589
        have F_607 := Fld.ext E_601 F_590
        have E_608 := Exa.ext E_601 E_588
        have A_609 := Av.ext A_591 E_601
        have z_610 : Z.heap.size ≤ h_598.size := Nat.le_trans (Nat.le_of_lt (Nat.lt_of_le_of_lt g_320 E_588.lt)) E_601.1
        have A_611 : Av Z h_598 a_599 .int [.int (0 : Int32), .int (0 : Int32), .int (0 : Int32), .int (0 : Int32)] := A_602
        refine go_astore C (Ls' := #[.val (.int x0), .val (.int x1), .val (.int x2), .val (.int x3), .val (.int x4), .val (.int x5), .val (.int (3 : Int32)), .val (.int v0), .val (.int v1), .val (.int v2), .val (.int v3), .val (.ref a_315), .val (.int (1 : Int32)), .val (.int (0 : Int32)), .val (.int (0 : Int32)), .val (.int (0 : Int32)), .val (.ref a_599), .unset, .unset]) at_206 (pc' := 208) rfl rfl rfl ?_
        refine go_iconst C (0 : Int32) at_208 (pc' := 209) rfl (by decide) ?_
        refine go_istore C (Ls' := #[.val (.int x0), .val (.int x1), .val (.int x2), .val (.int x3), .val (.int x4), .val (.int x5), .val (.int (3 : Int32)), .val (.int v0), .val (.int v1), .val (.int v2), .val (.int v3), .val (.ref a_315), .val (.int (1 : Int32)), .val (.int (0 : Int32)), .val (.int (0 : Int32)), .val (.int (0 : Int32)), .val (.ref a_599), .val (.int (0 : Int32)), .unset]) at_209 (pc' := 211) rfl rfl ?_
        refine go_iload C at_211 (pc' := 213) rfl rfl ?_
        refine go_if0 C (1 : Int) (by decide) at_213 (by decide) (pc' := 226) (by decide) (pcN := 216) rfl (fun (c_612 : (1 : Int) = 0) => by omega) (fun (c_612 : ¬ (1 : Int) = 0) => ?_)
        refine go_aload C at_216 (pc' := 218) rfl rfl rfl ?_
        refine go_iload C at_218 (pc' := 220) rfl rfl ?_
        refine go_iload C at_220 (pc' := 222) rfl rfl ?_
        refine go_iastore C A_611 0 (by decide) (show 0 < 4 from by decide) g_605 at_222 (pc' := 223) rfl ?_
        intro h_613 W_614 A_615
        have z_616 : Z.heap.size ≤ h_613.size := W_614.size.symm ▸ z_610
        have F_617 := Fld.other W_614 F_606 (Or.inl n_603)
        have F_618 := Fld.other W_614 F_607 (Or.inl n_603)
        have E_619 := Exa.wr W_614 E_608
        have A_620 := Av.other A_609 W_614 n_604
        have A_621 : Av Z h_613 a_599 .int [.int v0, .int (0 : Int32), .int (0 : Int32), .int (0 : Int32)] := A_615
        refine go_iinc C (Ls' := #[.val (.int x0), .val (.int x1), .val (.int x2), .val (.int x3), .val (.int x4), .val (.int x5), .val (.int (3 : Int32)), .val (.int v0), .val (.int v1), .val (.int v2), .val (.int v3), .val (.ref a_315), .val (.int (1 : Int32)), .val (.int (0 : Int32)), .val (.int (0 : Int32)), .val (.int (0 : Int32)), .val (.ref a_599), .val (.int ((0 : Int32) + (1 : Int32))), .unset]) (1 : Int32) at_223 (pc' := 226) rfl (by decide) rfl rfl ?_
        rw [(by decide : (0 : Int32) + (1 : Int32) = (1 : Int32))]
        refine go_iload C at_226 (pc' := 228) rfl rfl ?_
        refine go_if0 C (0 : Int) (by decide) at_228 (by decide) (pc' := 241) (by decide) (pcN := 231) rfl (fun (c_622 : (0 : Int) = 0) => ?_) (fun (c_622 : ¬ (0 : Int) = 0) => by omega)
        refine go_iload C at_241 (pc' := 243) rfl rfl ?_
        refine go_if0 C (0 : Int) (by decide) at_243 (by decide) (pc' := 256) (by decide) (pcN := 246) rfl (fun (c_623 : (0 : Int) = 0) => ?_) (fun (c_623 : ¬ (0 : Int) = 0) => by omega)
        refine go_iload C at_256 (pc' := 258) rfl rfl ?_
        refine go_if0 C (0 : Int) (by decide) at_258 (by decide) (pc' := 271) (by decide) (pcN := 261) rfl (fun (c_624 : (0 : Int) = 0) => ?_) (fun (c_624 : ¬ (0 : Int) = 0) => by omega)
        refine go_aload C at_271 (pc' := 273) rfl rfl rfl ?_
        refine go_virtualP C (as := []) (rest := []) (W := 0) (.int (1 : Int32)) (sat_size l Z a0 hw a_315 _ _ _ F_618) E_619 (wd hw 23 rfl) (wd hw 24 rfl) (wd hw 26 rfl) (wd hw 25 rfl) (wd hw 6 rfl) (wd hw 27 rfl) (by decide) pd_3 rfl rfl rfl (by decide) (by decide) rfl rfl (by decide) (by decide) at_273 (pc' := 276) rfl rfl ?_
        refine go_iload C at_276 (pc' := 278) rfl rfl ?_
        refine go_icmp C (1 : Int) (1 : Int) (by decide) (by decide) at_278 (by decide) (pc' := 283) (by decide) (pcN := 281) rfl (fun (c_625 : (1 : Int) = (1 : Int)) => ?_) (fun (c_625 : ¬ (1 : Int) = (1 : Int)) => by omega)
        refine go_iconst C (1 : Int32) at_283 (pc' := 284) rfl (by decide) ?_
        refine go_istore C (Ls' := #[.val (.int x0), .val (.int x1), .val (.int x2), .val (.int x3), .val (.int x4), .val (.int x5), .val (.int (3 : Int32)), .val (.int v0), .val (.int v1), .val (.int v2), .val (.int v3), .val (.ref a_315), .val (.int (1 : Int32)), .val (.int (0 : Int32)), .val (.int (0 : Int32)), .val (.int (0 : Int32)), .val (.ref a_599), .val (.int (1 : Int32)), .val (.int (1 : Int32))]) at_284 (pc' := 286) rfl rfl ?_
        refine go_iload C at_286 (pc' := 288) rfl rfl ?_
        refine go_if0 C (1 : Int) (by decide) at_288 (by decide) (pc' := 316) (by decide) (pcN := 291) rfl (fun (c_626 : ¬ 0 < (1 : Int)) => by omega) (fun (c_626 : 0 < (1 : Int)) => ?_)
        refine go_iload C at_291 (pc' := 293) rfl rfl ?_
        refine go_if0 C (1 : Int) (by decide) at_293 (by decide) (pc' := 313) (by decide) (pcN := 296) rfl (fun (c_627 : (1 : Int) = 0) => by omega) (fun (c_627 : ¬ (1 : Int) = 0) => ?_)
        refine go_aload C at_296 (pc' := 298) rfl rfl rfl ?_
        refine go_iconst C (0 : Int32) at_298 (pc' := 299) rfl (by decide) ?_
        refine go_virtualP C (as := [.int (0 : Int32)]) (rest := []) (W := 0) (.int v0) (sat_get l Z a0 hw a_315 r_326 (0 : Int32) v0 0 [.int v0, .int v1, .int v2, .int (0 : Int32), .int (0 : Int32), .int (0 : Int32), .int (0 : Int32), .int (0 : Int32)] _ _ F_617 A_620 (by decide) rfl) E_619 (wd hw 33 rfl) (wd hw 34 rfl) (wd hw 36 rfl) (wd hw 35 rfl) (wd hw 6 rfl) (wd hw 37 rfl) (by decide) pd_5 rfl rfl rfl (by decide) (by decide) rfl rfl (by decide) (by decide) at_299 (pc' := 302) rfl rfl ?_
        refine go_aload C at_302 (pc' := 304) rfl rfl rfl ?_
        refine go_iconst C (0 : Int32) at_304 (pc' := 305) rfl (by decide) ?_
        refine go_iaload C A_621 0 (.int v0) (by decide) rfl at_305 (pc' := 306) rfl ?_
        refine go_icmp C v0.toInt v0.toInt rfl rfl at_306 (by decide) (pc' := 313) (by decide) (pcN := 309) rfl (fun (c_628 : ¬ v0.toInt = v0.toInt) => by omega) (fun (c_628 : v0.toInt = v0.toInt) => ?_)
        refine go_iconst C (1 : Int32) at_309 (pc' := 310) rfl (by decide) ?_
        refine go_goto C at_310 (by decide) (pc' := 314) (by decide) ?_
        refine go_istore C (Ls' := #[.val (.int x0), .val (.int x1), .val (.int x2), .val (.int x3), .val (.int x4), .val (.int x5), .val (.int (3 : Int32)), .val (.int v0), .val (.int v1), .val (.int v2), .val (.int v3), .val (.ref a_315), .val (.int (1 : Int32)), .val (.int (0 : Int32)), .val (.int (0 : Int32)), .val (.int (0 : Int32)), .val (.ref a_599), .val (.int (1 : Int32)), .val (.int (1 : Int32))]) at_314 (pc' := 316) rfl rfl ?_
        refine go_iload C at_316 (pc' := 318) rfl rfl ?_
        refine go_iconst C (1 : Int32) at_318 (pc' := 319) rfl (by decide) ?_
        refine go_icmp C (1 : Int) (1 : Int) (by decide) (by decide) at_319 (by decide) (pc' := 347) (by decide) (pcN := 322) rfl (fun (c_629 : ¬ (1 : Int) < (1 : Int)) => ?_) (fun (c_629 : (1 : Int) < (1 : Int)) => by omega)
        refine go_iload C at_347 (pc' := 349) rfl rfl ?_
        refine go_iconst C (2 : Int32) at_349 (pc' := 350) rfl (by decide) ?_
        refine go_icmp C (1 : Int) (2 : Int) (by decide) (by decide) at_350 (by decide) (pc' := 378) (by decide) (pcN := 353) rfl (fun (c_630 : ¬ (2 : Int) < (1 : Int)) => ?_) (fun (c_630 : (2 : Int) < (1 : Int)) => by omega)
        refine go_iload C at_378 (pc' := 380) rfl rfl ?_
        refine go_iconst C (3 : Int32) at_380 (pc' := 381) rfl (by decide) ?_
        refine go_icmp C (1 : Int) (3 : Int) (by decide) (by decide) at_381 (by decide) (pc' := 409) (by decide) (pcN := 384) rfl (fun (c_631 : ¬ (3 : Int) < (1 : Int)) => ?_) (fun (c_631 : (3 : Int) < (1 : Int)) => by omega)
        refine go_iload C at_409 (pc' := 411) rfl rfl ?_
        refine go_ireturnN C (z' := (1 : Int32)) rfl (by simp) rfl at_411 (by decide) (by decide) ?_
        exact ⟨_, rfl, rfl⟩
  · rw [hn]
    refine go_iloadN C at_8 (pc' := 9) rfl rfl ?_
    refine go_iload C at_9 (pc' := 11) rfl rfl ?_
    refine go_iconst C (0 : Int32) at_11 (pc' := 12) rfl (by decide) ?_
    refine go_staticV C (as := [.int x1, .int x5, .int (0 : Int32)]) (rest := []) (W := 0) (sat_pick l Z a0 hw x1 x5 (0 : Int32) _ _) (wd hw 0 rfl) (wd hw 1 rfl) (wd hw 2 rfl) (wd hw 3 rfl) (by decide) pd_1 rfl rfl rfl (by decide) (by decide) (ce' := 0) (sl' := 0) rfl rfl (by decide) (by decide) at_12 (pc' := 15) rfl rfl ?_
    intro r_632 h_633 e_634
    obtain ⟨⟨v0, rfl⟩, e_634⟩ := e_634
    rw [e_634]
    clear e_634
    refine go_istore C (Ls' := #[.val (.int x0), .val (.int x1), .val (.int x2), .val (.int x3), .val (.int x4), .val (.int x5), .val (.int (4 : Int32)), .val (.int v0), .unset, .unset, .unset, .unset, .unset, .unset, .unset, .unset, .unset, .unset, .unset]) at_15 (pc' := 17) rfl rfl ?_
    refine go_iloadN C at_17 (pc' := 18) rfl rfl ?_
    refine go_iload C at_18 (pc' := 20) rfl rfl ?_
    refine go_iconst C (1 : Int32) at_20 (pc' := 21) rfl (by decide) ?_
    refine go_staticV C (as := [.int x2, .int x5, .int (1 : Int32)]) (rest := []) (W := 0) (sat_pick l Z a0 hw x2 x5 (1 : Int32) _ _) (wd hw 0 rfl) (wd hw 1 rfl) (wd hw 2 rfl) (wd hw 3 rfl) (by decide) pd_1 rfl rfl rfl (by decide) (by decide) (ce' := 0) (sl' := 0) rfl rfl (by decide) (by decide) at_21 (pc' := 24) rfl rfl ?_
    intro r_635 h_636 e_637
    obtain ⟨⟨v1, rfl⟩, e_637⟩ := e_637
    rw [e_637]
    clear e_637
    refine go_istore C (Ls' := #[.val (.int x0), .val (.int x1), .val (.int x2), .val (.int x3), .val (.int x4), .val (.int x5), .val (.int (4 : Int32)), .val (.int v0), .val (.int v1), .unset, .unset, .unset, .unset, .unset, .unset, .unset, .unset, .unset, .unset]) at_24 (pc' := 26) rfl rfl ?_
    refine go_iloadN C at_26 (pc' := 27) rfl rfl ?_
    refine go_iload C at_27 (pc' := 29) rfl rfl ?_
    refine go_iconst C (2 : Int32) at_29 (pc' := 30) rfl (by decide) ?_
    refine go_staticV C (as := [.int x3, .int x5, .int (2 : Int32)]) (rest := []) (W := 0) (sat_pick l Z a0 hw x3 x5 (2 : Int32) _ _) (wd hw 0 rfl) (wd hw 1 rfl) (wd hw 2 rfl) (wd hw 3 rfl) (by decide) pd_1 rfl rfl rfl (by decide) (by decide) (ce' := 0) (sl' := 0) rfl rfl (by decide) (by decide) at_30 (pc' := 33) rfl rfl ?_
    intro r_638 h_639 e_640
    obtain ⟨⟨v2, rfl⟩, e_640⟩ := e_640
    rw [e_640]
    clear e_640
    refine go_istore C (Ls' := #[.val (.int x0), .val (.int x1), .val (.int x2), .val (.int x3), .val (.int x4), .val (.int x5), .val (.int (4 : Int32)), .val (.int v0), .val (.int v1), .val (.int v2), .unset, .unset, .unset, .unset, .unset, .unset, .unset, .unset, .unset]) at_33 (pc' := 35) rfl rfl ?_
    refine go_iload C at_35 (pc' := 37) rfl rfl ?_
    refine go_iload C at_37 (pc' := 39) rfl rfl ?_
    refine go_iconst C (3 : Int32) at_39 (pc' := 40) rfl (by decide) ?_
    refine go_staticV C (as := [.int x4, .int x5, .int (3 : Int32)]) (rest := []) (W := 0) (sat_pick l Z a0 hw x4 x5 (3 : Int32) _ _) (wd hw 0 rfl) (wd hw 1 rfl) (wd hw 2 rfl) (wd hw 3 rfl) (by decide) pd_1 rfl rfl rfl (by decide) (by decide) (ce' := 0) (sl' := 0) rfl rfl (by decide) (by decide) at_40 (pc' := 43) rfl rfl ?_
    intro r_641 h_642 e_643
    obtain ⟨⟨v3, rfl⟩, e_643⟩ := e_643
    rw [e_643]
    clear e_643
    refine go_istore C (Ls' := #[.val (.int x0), .val (.int x1), .val (.int x2), .val (.int x3), .val (.int x4), .val (.int x5), .val (.int (4 : Int32)), .val (.int v0), .val (.int v1), .val (.int v2), .val (.int v3), .unset, .unset, .unset, .unset, .unset, .unset, .unset, .unset]) at_43 (pc' := 45) rfl rfl ?_
    refine go_new C (wd hw 4 rfl) (wd hw 5 rfl) (wd hw 6 rfl) at_45 (pc' := 48) rfl (ce' := 1) (sl' := 2) rfl rfl (by decide) (by decide) ?_
    intro h_644 a_645 g_646 E_647 E_648 D_649
    have g_650 : Z.heap.size ≤ a_645 := own_ge (Nat.le_refl _) g_646
    have z_651 : Z.heap.size ≤ h_644.size := Nat.le_trans (Nat.le_refl _) E_647.1
    have F_652 : Fld Z h_644 a_645 "com/example/inevitable_path/inevitablepath/smv/IntList" "values" "[I" (.null) := D_649 (Or.inl (wd hw 15 rfl)) (ty := (.array .int)) (by decide)
    have F_653 : Fld Z h_644 a_645 "com/example/inevitable_path/inevitablepath/smv/IntList" "size" "I" (.int (0 : Int32)) := D_649 (Or.inl (wd hw 22 rfl)) (ty := .int) (by decide)
    refine go_dup C at_48 (pc' := 49) rfl rfl ?_
    refine go_specialN C (as := []) (rest := [.ref a_645]) (W := 1) (sat_init l Z a0 hw a_645 _ _ E_648 F_652 F_653 g_650 z_651) rfl (wd hw 7 rfl) (wd hw 8 rfl) (wd hw 6 rfl) (wd hw 9 rfl) (by decide) pd_2 rfl rfl rfl (by decide) (by decide) (ce' := 2) (sl' := 10) rfl rfl (by decide) (by decide) at_49 (pc' := 52) rfl rfl ?_
    intro h_654 q_655
    obtain ⟨r_656, g_657, E_658, F_659, F_660, A_661⟩ := q_655
    have A_662 : Av Z h_654 r_656 .int [.int (0 : Int32), .int (0 : Int32), .int (0 : Int32), .int (0 : Int32), .int (0 : Int32), .int (0 : Int32), .int (0 : Int32), .int (0 : Int32)] := A_661
    refine go_astore C (Ls' := #[.val (.int x0), .val (.int x1), .val (.int x2), .val (.int x3), .val (.int x4), .val (.int x5), .val (.int (4 : Int32)), .val (.int v0), .val (.int v1), .val (.int v2), .val (.int v3), .val (.ref a_645), .unset, .unset, .unset, .unset, .unset, .unset, .unset]) at_52 (pc' := 54) rfl rfl rfl ?_
    refine go_iload C at_54 (pc' := 56) rfl rfl ?_
    refine go_if0 C (4 : Int) (by decide) at_56 (by decide) (pc' := 66) (by decide) (pcN := 59) rfl (fun (c_663 : ¬ 0 < (4 : Int)) => by omega) (fun (c_663 : 0 < (4 : Int)) => ?_)
    refine go_aload C at_59 (pc' := 61) rfl rfl rfl ?_
    refine go_iload C at_61 (pc' := 63) rfl rfl ?_
    refine go_virtualN C (as := [.int v0]) (rest := []) (W := 0) (sat_add l Z a0 hw a_645 r_656 v0 (0 : Int32) (8 : Int32) 0 [.int (0 : Int32), .int (0 : Int32), .int (0 : Int32), .int (0 : Int32), .int (0 : Int32), .int (0 : Int32), .int (0 : Int32), .int (0 : Int32)] [.int v0, .int (0 : Int32), .int (0 : Int32), .int (0 : Int32), .int (0 : Int32), .int (0 : Int32), .int (0 : Int32), .int (0 : Int32)] _ _ E_658 F_659 F_660 A_662 g_650 g_657 (by decide) (show 0 < 8 from by decide) rfl rfl) E_658 (wd hw 28 rfl) (wd hw 29 rfl) (wd hw 31 rfl) (wd hw 30 rfl) (wd hw 6 rfl) (wd hw 32 rfl) (by decide) pd_4 rfl rfl rfl (by decide) (by decide) (ce' := 2) (sl' := 10) rfl rfl (by decide) (by decide) at_63 (pc' := 66) rfl rfl ?_
    intro h_664 q_665
    rw [(by decide : (0 : Int32) + 1 = (1 : Int32))] at q_665
    obtain ⟨E_666, F_667, F_668, A_669⟩ := q_665
    refine go_iload C at_66 (pc' := 68) rfl rfl ?_
    refine go_iconst C (1 : Int32) at_68 (pc' := 69) rfl (by decide) ?_
    refine go_icmp C (4 : Int) (1 : Int) (by decide) (by decide) at_69 (by decide) (pc' := 79) (by decide) (pcN := 72) rfl (fun (c_670 : ¬ (1 : Int) < (4 : Int)) => by omega) (fun (c_670 : (1 : Int) < (4 : Int)) => ?_)
    refine go_aload C at_72 (pc' := 74) rfl rfl rfl ?_
    refine go_iload C at_74 (pc' := 76) rfl rfl ?_
    refine go_virtualN C (as := [.int v1]) (rest := []) (W := 0) (sat_add l Z a0 hw a_645 r_656 v1 (1 : Int32) (8 : Int32) 1 [.int v0, .int (0 : Int32), .int (0 : Int32), .int (0 : Int32), .int (0 : Int32), .int (0 : Int32), .int (0 : Int32), .int (0 : Int32)] [.int v0, .int v1, .int (0 : Int32), .int (0 : Int32), .int (0 : Int32), .int (0 : Int32), .int (0 : Int32), .int (0 : Int32)] _ _ E_666 F_667 F_668 A_669 g_650 g_657 (by decide) (show 1 < 8 from by decide) rfl rfl) E_666 (wd hw 28 rfl) (wd hw 29 rfl) (wd hw 31 rfl) (wd hw 30 rfl) (wd hw 6 rfl) (wd hw 32 rfl) (by decide) pd_4 rfl rfl rfl (by decide) (by decide) (ce' := 2) (sl' := 10) rfl rfl (by decide) (by decide) at_76 (pc' := 79) rfl rfl ?_
    intro h_671 q_672
    rw [(by decide : (1 : Int32) + 1 = (2 : Int32))] at q_672
    obtain ⟨E_673, F_674, F_675, A_676⟩ := q_672
    refine go_iload C at_79 (pc' := 81) rfl rfl ?_
    refine go_iconst C (2 : Int32) at_81 (pc' := 82) rfl (by decide) ?_
    refine go_icmp C (4 : Int) (2 : Int) (by decide) (by decide) at_82 (by decide) (pc' := 92) (by decide) (pcN := 85) rfl (fun (c_677 : ¬ (2 : Int) < (4 : Int)) => by omega) (fun (c_677 : (2 : Int) < (4 : Int)) => ?_)
    refine go_aload C at_85 (pc' := 87) rfl rfl rfl ?_
    refine go_iload C at_87 (pc' := 89) rfl rfl ?_
    refine go_virtualN C (as := [.int v2]) (rest := []) (W := 0) (sat_add l Z a0 hw a_645 r_656 v2 (2 : Int32) (8 : Int32) 2 [.int v0, .int v1, .int (0 : Int32), .int (0 : Int32), .int (0 : Int32), .int (0 : Int32), .int (0 : Int32), .int (0 : Int32)] [.int v0, .int v1, .int v2, .int (0 : Int32), .int (0 : Int32), .int (0 : Int32), .int (0 : Int32), .int (0 : Int32)] _ _ E_673 F_674 F_675 A_676 g_650 g_657 (by decide) (show 2 < 8 from by decide) rfl rfl) E_673 (wd hw 28 rfl) (wd hw 29 rfl) (wd hw 31 rfl) (wd hw 30 rfl) (wd hw 6 rfl) (wd hw 32 rfl) (by decide) pd_4 rfl rfl rfl (by decide) (by decide) (ce' := 2) (sl' := 10) rfl rfl (by decide) (by decide) at_89 (pc' := 92) rfl rfl ?_
    intro h_678 q_679
    rw [(by decide : (2 : Int32) + 1 = (3 : Int32))] at q_679
    obtain ⟨E_680, F_681, F_682, A_683⟩ := q_679
    refine go_iload C at_92 (pc' := 94) rfl rfl ?_
    refine go_iconst C (3 : Int32) at_94 (pc' := 95) rfl (by decide) ?_
    refine go_icmp C (4 : Int) (3 : Int) (by decide) (by decide) at_95 (by decide) (pc' := 105) (by decide) (pcN := 98) rfl (fun (c_684 : ¬ (3 : Int) < (4 : Int)) => by omega) (fun (c_684 : (3 : Int) < (4 : Int)) => ?_)
    refine go_aload C at_98 (pc' := 100) rfl rfl rfl ?_
    refine go_iload C at_100 (pc' := 102) rfl rfl ?_
    refine go_virtualN C (as := [.int v3]) (rest := []) (W := 0) (sat_add l Z a0 hw a_645 r_656 v3 (3 : Int32) (8 : Int32) 3 [.int v0, .int v1, .int v2, .int (0 : Int32), .int (0 : Int32), .int (0 : Int32), .int (0 : Int32), .int (0 : Int32)] [.int v0, .int v1, .int v2, .int v3, .int (0 : Int32), .int (0 : Int32), .int (0 : Int32), .int (0 : Int32)] _ _ E_680 F_681 F_682 A_683 g_650 g_657 (by decide) (show 3 < 8 from by decide) rfl rfl) E_680 (wd hw 28 rfl) (wd hw 29 rfl) (wd hw 31 rfl) (wd hw 30 rfl) (wd hw 6 rfl) (wd hw 32 rfl) (by decide) pd_4 rfl rfl rfl (by decide) (by decide) (ce' := 2) (sl' := 10) rfl rfl (by decide) (by decide) at_102 (pc' := 105) rfl rfl ?_
    intro h_685 q_686
    rw [(by decide : (3 : Int32) + 1 = (4 : Int32))] at q_686
    obtain ⟨E_687, F_688, F_689, A_690⟩ := q_686
    refine go_aload C at_105 (pc' := 107) rfl rfl rfl ?_
    rcases (by omega : (¬ v1.toInt = v0.toInt) ∨ (v1.toInt = v0.toInt)) with hf1 | hf1
    · skip
      rcases (by omega : (¬ v2.toInt = v0.toInt ∧ ¬ v2.toInt = v1.toInt) ∨ (v2.toInt = v0.toInt ∨ v2.toInt = v1.toInt)) with hf2 | hf2
      · skip
        rcases (by omega : (¬ v3.toInt = v0.toInt ∧ ¬ v3.toInt = v1.toInt ∧ ¬ v3.toInt = v2.toInt) ∨ (v3.toInt = v0.toInt ∨ v3.toInt = v1.toInt ∨ v3.toInt = v2.toInt)) with hf3 | hf3
        · skip
          refine go_virtualN C (as := []) (rest := []) (W := 0) (sat_rd4ttt l Z a0 hw a_645 r_656 v0 v1 v2 v3 _ _ hf1 hf2 hf3 E_687 F_688 F_689 A_690 g_650 g_657) E_687 (wd hw 16 rfl) (wd hw 17 rfl) (wd hw 19 rfl) (wd hw 18 rfl) (wd hw 6 rfl) (wd hw 20 rfl) (by decide) pd_2 rfl rfl rfl (by decide) (by decide) (ce' := 2) (sl' := 10) rfl rfl (by decide) (by decide) at_107 (pc' := 110) rfl rfl ?_
          intro h_691 q_692
          obtain ⟨E_693, F_694, F_695, A_696⟩ := q_692
          refine go_iload C at_110 (pc' := 112) rfl rfl ?_
          refine go_if0 C (4 : Int) (by decide) at_112 (by decide) (pc' := 119) (by decide) (pcN := 115) rfl (fun (c_697 : ¬ 0 < (4 : Int)) => by omega) (fun (c_697 : 0 < (4 : Int)) => ?_)
          refine go_iconst C (1 : Int32) at_115 (pc' := 116) rfl (by decide) ?_
          refine go_goto C at_116 (by decide) (pc' := 120) (by decide) ?_
          refine go_istore C (Ls' := #[.val (.int x0), .val (.int x1), .val (.int x2), .val (.int x3), .val (.int x4), .val (.int x5), .val (.int (4 : Int32)), .val (.int v0), .val (.int v1), .val (.int v2), .val (.int v3), .val (.ref a_645), .val (.int (1 : Int32)), .unset, .unset, .unset, .unset, .unset, .unset]) at_120 (pc' := 122) rfl rfl ?_
          refine go_iload C at_122 (pc' := 124) rfl rfl ?_
          refine go_iconst C (1 : Int32) at_124 (pc' := 125) rfl (by decide) ?_
          refine go_icmp C (4 : Int) (1 : Int) (by decide) (by decide) at_125 (by decide) (pc' := 139) (by decide) (pcN := 128) rfl (fun (c_698 : ¬ (1 : Int) < (4 : Int)) => by omega) (fun (c_698 : (1 : Int) < (4 : Int)) => ?_)
          refine go_iload C at_128 (pc' := 130) rfl rfl ?_
          refine go_iload C at_130 (pc' := 132) rfl rfl ?_
          refine go_icmp C v1.toInt v0.toInt rfl rfl at_132 (by decide) (pc' := 139) (by decide) (pcN := 135) rfl (fun (c_699 : v1.toInt = v0.toInt) => by omega) (fun (c_699 : ¬ v1.toInt = v0.toInt) => ?_)
          refine go_iconst C (1 : Int32) at_135 (pc' := 136) rfl (by decide) ?_
          refine go_goto C at_136 (by decide) (pc' := 140) (by decide) ?_
          refine go_istore C (Ls' := #[.val (.int x0), .val (.int x1), .val (.int x2), .val (.int x3), .val (.int x4), .val (.int x5), .val (.int (4 : Int32)), .val (.int v0), .val (.int v1), .val (.int v2), .val (.int v3), .val (.ref a_645), .val (.int (1 : Int32)), .val (.int (1 : Int32)), .unset, .unset, .unset, .unset, .unset]) at_140 (pc' := 142) rfl rfl ?_
          refine go_iload C at_142 (pc' := 144) rfl rfl ?_
          refine go_iconst C (2 : Int32) at_144 (pc' := 145) rfl (by decide) ?_
          refine go_icmp C (4 : Int) (2 : Int) (by decide) (by decide) at_145 (by decide) (pc' := 166) (by decide) (pcN := 148) rfl (fun (c_700 : ¬ (2 : Int) < (4 : Int)) => by omega) (fun (c_700 : (2 : Int) < (4 : Int)) => ?_)
          refine go_iload C at_148 (pc' := 150) rfl rfl ?_
          refine go_iload C at_150 (pc' := 152) rfl rfl ?_
          refine go_icmp C v2.toInt v0.toInt rfl rfl at_152 (by decide) (pc' := 166) (by decide) (pcN := 155) rfl (fun (c_701 : v2.toInt = v0.toInt) => by omega) (fun (c_701 : ¬ v2.toInt = v0.toInt) => ?_)
          refine go_iload C at_155 (pc' := 157) rfl rfl ?_
          refine go_iload C at_157 (pc' := 159) rfl rfl ?_
          refine go_icmp C v2.toInt v1.toInt rfl rfl at_159 (by decide) (pc' := 166) (by decide) (pcN := 162) rfl (fun (c_702 : v2.toInt = v1.toInt) => by omega) (fun (c_702 : ¬ v2.toInt = v1.toInt) => ?_)
          refine go_iconst C (1 : Int32) at_162 (pc' := 163) rfl (by decide) ?_
          refine go_goto C at_163 (by decide) (pc' := 167) (by decide) ?_
          refine go_istore C (Ls' := #[.val (.int x0), .val (.int x1), .val (.int x2), .val (.int x3), .val (.int x4), .val (.int x5), .val (.int (4 : Int32)), .val (.int v0), .val (.int v1), .val (.int v2), .val (.int v3), .val (.ref a_645), .val (.int (1 : Int32)), .val (.int (1 : Int32)), .val (.int (1 : Int32)), .unset, .unset, .unset, .unset]) at_167 (pc' := 169) rfl rfl ?_
          refine go_iload C at_169 (pc' := 171) rfl rfl ?_
          refine go_iconst C (3 : Int32) at_171 (pc' := 172) rfl (by decide) ?_
          refine go_icmp C (4 : Int) (3 : Int) (by decide) (by decide) at_172 (by decide) (pc' := 200) (by decide) (pcN := 175) rfl (fun (c_703 : ¬ (3 : Int) < (4 : Int)) => by omega) (fun (c_703 : (3 : Int) < (4 : Int)) => ?_)
          refine go_iload C at_175 (pc' := 177) rfl rfl ?_
          refine go_iload C at_177 (pc' := 179) rfl rfl ?_
          refine go_icmp C v3.toInt v0.toInt rfl rfl at_179 (by decide) (pc' := 200) (by decide) (pcN := 182) rfl (fun (c_704 : v3.toInt = v0.toInt) => by omega) (fun (c_704 : ¬ v3.toInt = v0.toInt) => ?_)
          refine go_iload C at_182 (pc' := 184) rfl rfl ?_
          refine go_iload C at_184 (pc' := 186) rfl rfl ?_
          refine go_icmp C v3.toInt v1.toInt rfl rfl at_186 (by decide) (pc' := 200) (by decide) (pcN := 189) rfl (fun (c_705 : v3.toInt = v1.toInt) => by omega) (fun (c_705 : ¬ v3.toInt = v1.toInt) => ?_)
          refine go_iload C at_189 (pc' := 191) rfl rfl ?_
          refine go_iload C at_191 (pc' := 193) rfl rfl ?_
          refine go_icmp C v3.toInt v2.toInt rfl rfl at_193 (by decide) (pc' := 200) (by decide) (pcN := 196) rfl (fun (c_706 : v3.toInt = v2.toInt) => by omega) (fun (c_706 : ¬ v3.toInt = v2.toInt) => ?_)
          refine go_iconst C (1 : Int32) at_196 (pc' := 197) rfl (by decide) ?_
          refine go_goto C at_197 (by decide) (pc' := 201) (by decide) ?_
          refine go_istore C (Ls' := #[.val (.int x0), .val (.int x1), .val (.int x2), .val (.int x3), .val (.int x4), .val (.int x5), .val (.int (4 : Int32)), .val (.int v0), .val (.int v1), .val (.int v2), .val (.int v3), .val (.ref a_645), .val (.int (1 : Int32)), .val (.int (1 : Int32)), .val (.int (1 : Int32)), .val (.int (1 : Int32)), .unset, .unset, .unset]) at_201 (pc' := 203) rfl rfl ?_
          refine go_iconst C (4 : Int32) at_203 (pc' := 204) rfl (by decide) ?_
          refine go_newarray C (wd hw 13 rfl) rfl 4 4 (by decide) (by decide) (by decide) (ce' := 3) (sl' := 14) rfl rfl (by decide) (by decide) at_204 (pc' := 206) rfl ?_
          intro h_707 a_708 g_709 E_710 A_711
          have n_712 : a_645 ≠ a_708 := own_ne_new E_693.lt g_709
          have n_713 : r_656 ≠ a_708 := own_ne_new A_696.lt g_709
          have g_714 : Z.heap.size ≤ a_708 := own_ge (Nat.le_of_lt (Nat.lt_of_le_of_lt g_650 E_693.lt)) g_709
          have F_715 := Fld.ext E_710 F_694
          have F_716 := Fld.ext E_710 F_695
          have E_717 := Exa.ext E_710 E_693
          have A_718 := Av.ext A_696 E_710
          have z_719 : Z.heap.size ≤ h_707.size := Nat.le_trans (Nat.le_of_lt (Nat.lt_of_le_of_lt g_650 E_693.lt)) E_710.1
          have A_720 : Av Z h_707 a_708 .int [.int (0 : Int32), .int (0 : Int32), .int (0 : Int32), .int (0 : Int32)] := A_711
          refine go_astore C (Ls' := #[.val (.int x0), .val (.int x1), .val (.int x2), .val (.int x3), .val (.int x4), .val (.int x5), .val (.int (4 : Int32)), .val (.int v0), .val (.int v1), .val (.int v2), .val (.int v3), .val (.ref a_645), .val (.int (1 : Int32)), .val (.int (1 : Int32)), .val (.int (1 : Int32)), .val (.int (1 : Int32)), .val (.ref a_708), .unset, .unset]) at_206 (pc' := 208) rfl rfl rfl ?_
          refine go_iconst C (0 : Int32) at_208 (pc' := 209) rfl (by decide) ?_
          refine go_istore C (Ls' := #[.val (.int x0), .val (.int x1), .val (.int x2), .val (.int x3), .val (.int x4), .val (.int x5), .val (.int (4 : Int32)), .val (.int v0), .val (.int v1), .val (.int v2), .val (.int v3), .val (.ref a_645), .val (.int (1 : Int32)), .val (.int (1 : Int32)), .val (.int (1 : Int32)), .val (.int (1 : Int32)), .val (.ref a_708), .val (.int (0 : Int32)), .unset]) at_209 (pc' := 211) rfl rfl ?_
          refine go_iload C at_211 (pc' := 213) rfl rfl ?_
          refine go_if0 C (1 : Int) (by decide) at_213 (by decide) (pc' := 226) (by decide) (pcN := 216) rfl (fun (c_721 : (1 : Int) = 0) => by omega) (fun (c_721 : ¬ (1 : Int) = 0) => ?_)
          refine go_aload C at_216 (pc' := 218) rfl rfl rfl ?_
          refine go_iload C at_218 (pc' := 220) rfl rfl ?_
          refine go_iload C at_220 (pc' := 222) rfl rfl ?_
          refine go_iastore C A_720 0 (by decide) (show 0 < 4 from by decide) g_714 at_222 (pc' := 223) rfl ?_
          intro h_722 W_723 A_724
          have z_725 : Z.heap.size ≤ h_722.size := W_723.size.symm ▸ z_719
          have F_726 := Fld.other W_723 F_715 (Or.inl n_712)
          have F_727 := Fld.other W_723 F_716 (Or.inl n_712)
          have E_728 := Exa.wr W_723 E_717
          have A_729 := Av.other A_718 W_723 n_713
          have A_730 : Av Z h_722 a_708 .int [.int v0, .int (0 : Int32), .int (0 : Int32), .int (0 : Int32)] := A_724
          refine go_iinc C (Ls' := #[.val (.int x0), .val (.int x1), .val (.int x2), .val (.int x3), .val (.int x4), .val (.int x5), .val (.int (4 : Int32)), .val (.int v0), .val (.int v1), .val (.int v2), .val (.int v3), .val (.ref a_645), .val (.int (1 : Int32)), .val (.int (1 : Int32)), .val (.int (1 : Int32)), .val (.int (1 : Int32)), .val (.ref a_708), .val (.int ((0 : Int32) + (1 : Int32))), .unset]) (1 : Int32) at_223 (pc' := 226) rfl (by decide) rfl rfl ?_
          rw [(by decide : (0 : Int32) + (1 : Int32) = (1 : Int32))]
          refine go_iload C at_226 (pc' := 228) rfl rfl ?_
          refine go_if0 C (1 : Int) (by decide) at_228 (by decide) (pc' := 241) (by decide) (pcN := 231) rfl (fun (c_731 : (1 : Int) = 0) => by omega) (fun (c_731 : ¬ (1 : Int) = 0) => ?_)
          refine go_aload C at_231 (pc' := 233) rfl rfl rfl ?_
          refine go_iload C at_233 (pc' := 235) rfl rfl ?_
          refine go_iload C at_235 (pc' := 237) rfl rfl ?_
          refine go_iastore C A_730 1 (by decide) (show 1 < 4 from by decide) g_714 at_237 (pc' := 238) rfl ?_
          intro h_732 W_733 A_734
          have z_735 : Z.heap.size ≤ h_732.size := W_733.size.symm ▸ z_725
          have F_736 := Fld.other W_733 F_726 (Or.inl n_712)
          have F_737 := Fld.other W_733 F_727 (Or.inl n_712)
          have E_738 := Exa.wr W_733 E_728
          have A_739 := Av.other A_729 W_733 n_713
          have A_740 : Av Z h_732 a_708 .int [.int v0, .int v1, .int (0 : Int32), .int (0 : Int32)] := A_734
          refine go_iinc C (Ls' := #[.val (.int x0), .val (.int x1), .val (.int x2), .val (.int x3), .val (.int x4), .val (.int x5), .val (.int (4 : Int32)), .val (.int v0), .val (.int v1), .val (.int v2), .val (.int v3), .val (.ref a_645), .val (.int (1 : Int32)), .val (.int (1 : Int32)), .val (.int (1 : Int32)), .val (.int (1 : Int32)), .val (.ref a_708), .val (.int ((1 : Int32) + (1 : Int32))), .unset]) (1 : Int32) at_238 (pc' := 241) rfl (by decide) rfl rfl ?_
          rw [(by decide : (1 : Int32) + (1 : Int32) = (2 : Int32))]
          refine go_iload C at_241 (pc' := 243) rfl rfl ?_
          refine go_if0 C (1 : Int) (by decide) at_243 (by decide) (pc' := 256) (by decide) (pcN := 246) rfl (fun (c_741 : (1 : Int) = 0) => by omega) (fun (c_741 : ¬ (1 : Int) = 0) => ?_)
          refine go_aload C at_246 (pc' := 248) rfl rfl rfl ?_
          refine go_iload C at_248 (pc' := 250) rfl rfl ?_
          refine go_iload C at_250 (pc' := 252) rfl rfl ?_
          refine go_iastore C A_740 2 (by decide) (show 2 < 4 from by decide) g_714 at_252 (pc' := 253) rfl ?_
          intro h_742 W_743 A_744
          have z_745 : Z.heap.size ≤ h_742.size := W_743.size.symm ▸ z_735
          have F_746 := Fld.other W_743 F_736 (Or.inl n_712)
          have F_747 := Fld.other W_743 F_737 (Or.inl n_712)
          have E_748 := Exa.wr W_743 E_738
          have A_749 := Av.other A_739 W_743 n_713
          have A_750 : Av Z h_742 a_708 .int [.int v0, .int v1, .int v2, .int (0 : Int32)] := A_744
          refine go_iinc C (Ls' := #[.val (.int x0), .val (.int x1), .val (.int x2), .val (.int x3), .val (.int x4), .val (.int x5), .val (.int (4 : Int32)), .val (.int v0), .val (.int v1), .val (.int v2), .val (.int v3), .val (.ref a_645), .val (.int (1 : Int32)), .val (.int (1 : Int32)), .val (.int (1 : Int32)), .val (.int (1 : Int32)), .val (.ref a_708), .val (.int ((2 : Int32) + (1 : Int32))), .unset]) (1 : Int32) at_253 (pc' := 256) rfl (by decide) rfl rfl ?_
          rw [(by decide : (2 : Int32) + (1 : Int32) = (3 : Int32))]
          refine go_iload C at_256 (pc' := 258) rfl rfl ?_
          refine go_if0 C (1 : Int) (by decide) at_258 (by decide) (pc' := 271) (by decide) (pcN := 261) rfl (fun (c_751 : (1 : Int) = 0) => by omega) (fun (c_751 : ¬ (1 : Int) = 0) => ?_)
          refine go_aload C at_261 (pc' := 263) rfl rfl rfl ?_
          refine go_iload C at_263 (pc' := 265) rfl rfl ?_
          refine go_iload C at_265 (pc' := 267) rfl rfl ?_
          refine go_iastore C A_750 3 (by decide) (show 3 < 4 from by decide) g_714 at_267 (pc' := 268) rfl ?_
          intro h_752 W_753 A_754
          have z_755 : Z.heap.size ≤ h_752.size := W_753.size.symm ▸ z_745
          have F_756 := Fld.other W_753 F_746 (Or.inl n_712)
          have F_757 := Fld.other W_753 F_747 (Or.inl n_712)
          have E_758 := Exa.wr W_753 E_748
          have A_759 := Av.other A_749 W_753 n_713
          have A_760 : Av Z h_752 a_708 .int [.int v0, .int v1, .int v2, .int v3] := A_754
          refine go_iinc C (Ls' := #[.val (.int x0), .val (.int x1), .val (.int x2), .val (.int x3), .val (.int x4), .val (.int x5), .val (.int (4 : Int32)), .val (.int v0), .val (.int v1), .val (.int v2), .val (.int v3), .val (.ref a_645), .val (.int (1 : Int32)), .val (.int (1 : Int32)), .val (.int (1 : Int32)), .val (.int (1 : Int32)), .val (.ref a_708), .val (.int ((3 : Int32) + (1 : Int32))), .unset]) (1 : Int32) at_268 (pc' := 271) rfl (by decide) rfl rfl ?_
          rw [(by decide : (3 : Int32) + (1 : Int32) = (4 : Int32))]
          refine go_aload C at_271 (pc' := 273) rfl rfl rfl ?_
          refine go_virtualP C (as := []) (rest := []) (W := 0) (.int (4 : Int32)) (sat_size l Z a0 hw a_645 _ _ _ F_757) E_758 (wd hw 23 rfl) (wd hw 24 rfl) (wd hw 26 rfl) (wd hw 25 rfl) (wd hw 6 rfl) (wd hw 27 rfl) (by decide) pd_3 rfl rfl rfl (by decide) (by decide) rfl rfl (by decide) (by decide) at_273 (pc' := 276) rfl rfl ?_
          refine go_iload C at_276 (pc' := 278) rfl rfl ?_
          refine go_icmp C (4 : Int) (4 : Int) (by decide) (by decide) at_278 (by decide) (pc' := 283) (by decide) (pcN := 281) rfl (fun (c_761 : (4 : Int) = (4 : Int)) => ?_) (fun (c_761 : ¬ (4 : Int) = (4 : Int)) => by omega)
          refine go_iconst C (1 : Int32) at_283 (pc' := 284) rfl (by decide) ?_
          refine go_istore C (Ls' := #[.val (.int x0), .val (.int x1), .val (.int x2), .val (.int x3), .val (.int x4), .val (.int x5), .val (.int (4 : Int32)), .val (.int v0), .val (.int v1), .val (.int v2), .val (.int v3), .val (.ref a_645), .val (.int (1 : Int32)), .val (.int (1 : Int32)), .val (.int (1 : Int32)), .val (.int (1 : Int32)), .val (.ref a_708), .val (.int (4 : Int32)), .val (.int (1 : Int32))]) at_284 (pc' := 286) rfl rfl ?_
          refine go_iload C at_286 (pc' := 288) rfl rfl ?_
          refine go_if0 C (4 : Int) (by decide) at_288 (by decide) (pc' := 316) (by decide) (pcN := 291) rfl (fun (c_762 : ¬ 0 < (4 : Int)) => by omega) (fun (c_762 : 0 < (4 : Int)) => ?_)
          refine go_iload C at_291 (pc' := 293) rfl rfl ?_
          refine go_if0 C (1 : Int) (by decide) at_293 (by decide) (pc' := 313) (by decide) (pcN := 296) rfl (fun (c_763 : (1 : Int) = 0) => by omega) (fun (c_763 : ¬ (1 : Int) = 0) => ?_)
          refine go_aload C at_296 (pc' := 298) rfl rfl rfl ?_
          refine go_iconst C (0 : Int32) at_298 (pc' := 299) rfl (by decide) ?_
          refine go_virtualP C (as := [.int (0 : Int32)]) (rest := []) (W := 0) (.int v0) (sat_get l Z a0 hw a_645 r_656 (0 : Int32) v0 0 [.int v0, .int v1, .int v2, .int v3, .int (0 : Int32), .int (0 : Int32), .int (0 : Int32), .int (0 : Int32)] _ _ F_756 A_759 (by decide) rfl) E_758 (wd hw 33 rfl) (wd hw 34 rfl) (wd hw 36 rfl) (wd hw 35 rfl) (wd hw 6 rfl) (wd hw 37 rfl) (by decide) pd_5 rfl rfl rfl (by decide) (by decide) rfl rfl (by decide) (by decide) at_299 (pc' := 302) rfl rfl ?_
          refine go_aload C at_302 (pc' := 304) rfl rfl rfl ?_
          refine go_iconst C (0 : Int32) at_304 (pc' := 305) rfl (by decide) ?_
          refine go_iaload C A_760 0 (.int v0) (by decide) rfl at_305 (pc' := 306) rfl ?_
          refine go_icmp C v0.toInt v0.toInt rfl rfl at_306 (by decide) (pc' := 313) (by decide) (pcN := 309) rfl (fun (c_764 : ¬ v0.toInt = v0.toInt) => by omega) (fun (c_764 : v0.toInt = v0.toInt) => ?_)
          refine go_iconst C (1 : Int32) at_309 (pc' := 310) rfl (by decide) ?_
          refine go_goto C at_310 (by decide) (pc' := 314) (by decide) ?_
          refine go_istore C (Ls' := #[.val (.int x0), .val (.int x1), .val (.int x2), .val (.int x3), .val (.int x4), .val (.int x5), .val (.int (4 : Int32)), .val (.int v0), .val (.int v1), .val (.int v2), .val (.int v3), .val (.ref a_645), .val (.int (1 : Int32)), .val (.int (1 : Int32)), .val (.int (1 : Int32)), .val (.int (1 : Int32)), .val (.ref a_708), .val (.int (4 : Int32)), .val (.int (1 : Int32))]) at_314 (pc' := 316) rfl rfl ?_
          refine go_iload C at_316 (pc' := 318) rfl rfl ?_
          refine go_iconst C (1 : Int32) at_318 (pc' := 319) rfl (by decide) ?_
          refine go_icmp C (4 : Int) (1 : Int) (by decide) (by decide) at_319 (by decide) (pc' := 347) (by decide) (pcN := 322) rfl (fun (c_765 : ¬ (1 : Int) < (4 : Int)) => by omega) (fun (c_765 : (1 : Int) < (4 : Int)) => ?_)
          refine go_iload C at_322 (pc' := 324) rfl rfl ?_
          refine go_if0 C (1 : Int) (by decide) at_324 (by decide) (pc' := 344) (by decide) (pcN := 327) rfl (fun (c_766 : (1 : Int) = 0) => by omega) (fun (c_766 : ¬ (1 : Int) = 0) => ?_)
          refine go_aload C at_327 (pc' := 329) rfl rfl rfl ?_
          refine go_iconst C (1 : Int32) at_329 (pc' := 330) rfl (by decide) ?_
          refine go_virtualP C (as := [.int (1 : Int32)]) (rest := []) (W := 0) (.int v1) (sat_get l Z a0 hw a_645 r_656 (1 : Int32) v1 1 [.int v0, .int v1, .int v2, .int v3, .int (0 : Int32), .int (0 : Int32), .int (0 : Int32), .int (0 : Int32)] _ _ F_756 A_759 (by decide) rfl) E_758 (wd hw 33 rfl) (wd hw 34 rfl) (wd hw 36 rfl) (wd hw 35 rfl) (wd hw 6 rfl) (wd hw 37 rfl) (by decide) pd_5 rfl rfl rfl (by decide) (by decide) rfl rfl (by decide) (by decide) at_330 (pc' := 333) rfl rfl ?_
          refine go_aload C at_333 (pc' := 335) rfl rfl rfl ?_
          refine go_iconst C (1 : Int32) at_335 (pc' := 336) rfl (by decide) ?_
          refine go_iaload C A_760 1 (.int v1) (by decide) rfl at_336 (pc' := 337) rfl ?_
          refine go_icmp C v1.toInt v1.toInt rfl rfl at_337 (by decide) (pc' := 344) (by decide) (pcN := 340) rfl (fun (c_767 : ¬ v1.toInt = v1.toInt) => by omega) (fun (c_767 : v1.toInt = v1.toInt) => ?_)
          refine go_iconst C (1 : Int32) at_340 (pc' := 341) rfl (by decide) ?_
          refine go_goto C at_341 (by decide) (pc' := 345) (by decide) ?_
          refine go_istore C (Ls' := #[.val (.int x0), .val (.int x1), .val (.int x2), .val (.int x3), .val (.int x4), .val (.int x5), .val (.int (4 : Int32)), .val (.int v0), .val (.int v1), .val (.int v2), .val (.int v3), .val (.ref a_645), .val (.int (1 : Int32)), .val (.int (1 : Int32)), .val (.int (1 : Int32)), .val (.int (1 : Int32)), .val (.ref a_708), .val (.int (4 : Int32)), .val (.int (1 : Int32))]) at_345 (pc' := 347) rfl rfl ?_
          refine go_iload C at_347 (pc' := 349) rfl rfl ?_
          refine go_iconst C (2 : Int32) at_349 (pc' := 350) rfl (by decide) ?_
          refine go_icmp C (4 : Int) (2 : Int) (by decide) (by decide) at_350 (by decide) (pc' := 378) (by decide) (pcN := 353) rfl (fun (c_768 : ¬ (2 : Int) < (4 : Int)) => by omega) (fun (c_768 : (2 : Int) < (4 : Int)) => ?_)
          refine go_iload C at_353 (pc' := 355) rfl rfl ?_
          refine go_if0 C (1 : Int) (by decide) at_355 (by decide) (pc' := 375) (by decide) (pcN := 358) rfl (fun (c_769 : (1 : Int) = 0) => by omega) (fun (c_769 : ¬ (1 : Int) = 0) => ?_)
          refine go_aload C at_358 (pc' := 360) rfl rfl rfl ?_
          refine go_iconst C (2 : Int32) at_360 (pc' := 361) rfl (by decide) ?_
          refine go_virtualP C (as := [.int (2 : Int32)]) (rest := []) (W := 0) (.int v2) (sat_get l Z a0 hw a_645 r_656 (2 : Int32) v2 2 [.int v0, .int v1, .int v2, .int v3, .int (0 : Int32), .int (0 : Int32), .int (0 : Int32), .int (0 : Int32)] _ _ F_756 A_759 (by decide) rfl) E_758 (wd hw 33 rfl) (wd hw 34 rfl) (wd hw 36 rfl) (wd hw 35 rfl) (wd hw 6 rfl) (wd hw 37 rfl) (by decide) pd_5 rfl rfl rfl (by decide) (by decide) rfl rfl (by decide) (by decide) at_361 (pc' := 364) rfl rfl ?_
          refine go_aload C at_364 (pc' := 366) rfl rfl rfl ?_
          refine go_iconst C (2 : Int32) at_366 (pc' := 367) rfl (by decide) ?_
          refine go_iaload C A_760 2 (.int v2) (by decide) rfl at_367 (pc' := 368) rfl ?_
          refine go_icmp C v2.toInt v2.toInt rfl rfl at_368 (by decide) (pc' := 375) (by decide) (pcN := 371) rfl (fun (c_770 : ¬ v2.toInt = v2.toInt) => by omega) (fun (c_770 : v2.toInt = v2.toInt) => ?_)
          refine go_iconst C (1 : Int32) at_371 (pc' := 372) rfl (by decide) ?_
          refine go_goto C at_372 (by decide) (pc' := 376) (by decide) ?_
          refine go_istore C (Ls' := #[.val (.int x0), .val (.int x1), .val (.int x2), .val (.int x3), .val (.int x4), .val (.int x5), .val (.int (4 : Int32)), .val (.int v0), .val (.int v1), .val (.int v2), .val (.int v3), .val (.ref a_645), .val (.int (1 : Int32)), .val (.int (1 : Int32)), .val (.int (1 : Int32)), .val (.int (1 : Int32)), .val (.ref a_708), .val (.int (4 : Int32)), .val (.int (1 : Int32))]) at_376 (pc' := 378) rfl rfl ?_
          refine go_iload C at_378 (pc' := 380) rfl rfl ?_
          refine go_iconst C (3 : Int32) at_380 (pc' := 381) rfl (by decide) ?_
          refine go_icmp C (4 : Int) (3 : Int) (by decide) (by decide) at_381 (by decide) (pc' := 409) (by decide) (pcN := 384) rfl (fun (c_771 : ¬ (3 : Int) < (4 : Int)) => by omega) (fun (c_771 : (3 : Int) < (4 : Int)) => ?_)
          refine go_iload C at_384 (pc' := 386) rfl rfl ?_
          refine go_if0 C (1 : Int) (by decide) at_386 (by decide) (pc' := 406) (by decide) (pcN := 389) rfl (fun (c_772 : (1 : Int) = 0) => by omega) (fun (c_772 : ¬ (1 : Int) = 0) => ?_)
          refine go_aload C at_389 (pc' := 391) rfl rfl rfl ?_
          refine go_iconst C (3 : Int32) at_391 (pc' := 392) rfl (by decide) ?_
          refine go_virtualP C (as := [.int (3 : Int32)]) (rest := []) (W := 0) (.int v3) (sat_get l Z a0 hw a_645 r_656 (3 : Int32) v3 3 [.int v0, .int v1, .int v2, .int v3, .int (0 : Int32), .int (0 : Int32), .int (0 : Int32), .int (0 : Int32)] _ _ F_756 A_759 (by decide) rfl) E_758 (wd hw 33 rfl) (wd hw 34 rfl) (wd hw 36 rfl) (wd hw 35 rfl) (wd hw 6 rfl) (wd hw 37 rfl) (by decide) pd_5 rfl rfl rfl (by decide) (by decide) rfl rfl (by decide) (by decide) at_392 (pc' := 395) rfl rfl ?_
          refine go_aload C at_395 (pc' := 397) rfl rfl rfl ?_
          refine go_iconst C (3 : Int32) at_397 (pc' := 398) rfl (by decide) ?_
          refine go_iaload C A_760 3 (.int v3) (by decide) rfl at_398 (pc' := 399) rfl ?_
          refine go_icmp C v3.toInt v3.toInt rfl rfl at_399 (by decide) (pc' := 406) (by decide) (pcN := 402) rfl (fun (c_773 : ¬ v3.toInt = v3.toInt) => by omega) (fun (c_773 : v3.toInt = v3.toInt) => ?_)
          refine go_iconst C (1 : Int32) at_402 (pc' := 403) rfl (by decide) ?_
          refine go_goto C at_403 (by decide) (pc' := 407) (by decide) ?_
          refine go_istore C (Ls' := #[.val (.int x0), .val (.int x1), .val (.int x2), .val (.int x3), .val (.int x4), .val (.int x5), .val (.int (4 : Int32)), .val (.int v0), .val (.int v1), .val (.int v2), .val (.int v3), .val (.ref a_645), .val (.int (1 : Int32)), .val (.int (1 : Int32)), .val (.int (1 : Int32)), .val (.int (1 : Int32)), .val (.ref a_708), .val (.int (4 : Int32)), .val (.int (1 : Int32))]) at_407 (pc' := 409) rfl rfl ?_
          refine go_iload C at_409 (pc' := 411) rfl rfl ?_
          refine go_ireturnN C (z' := (1 : Int32)) rfl (by simp) rfl at_411 (by decide) (by decide) ?_
          exact ⟨_, rfl, rfl⟩
        · skip
          refine go_virtualN C (as := []) (rest := []) (W := 0) (sat_rd4ttf l Z a0 hw a_645 r_656 v0 v1 v2 v3 _ _ hf1 hf2 hf3 E_687 F_688 F_689 A_690 g_650 g_657) E_687 (wd hw 16 rfl) (wd hw 17 rfl) (wd hw 19 rfl) (wd hw 18 rfl) (wd hw 6 rfl) (wd hw 20 rfl) (by decide) pd_2 rfl rfl rfl (by decide) (by decide) (ce' := 2) (sl' := 10) rfl rfl (by decide) (by decide) at_107 (pc' := 110) rfl rfl ?_
          intro h_774 q_775
          obtain ⟨E_776, F_777, F_778, A_779⟩ := q_775
          refine go_iload C at_110 (pc' := 112) rfl rfl ?_
          refine go_if0 C (4 : Int) (by decide) at_112 (by decide) (pc' := 119) (by decide) (pcN := 115) rfl (fun (c_780 : ¬ 0 < (4 : Int)) => by omega) (fun (c_780 : 0 < (4 : Int)) => ?_)
          refine go_iconst C (1 : Int32) at_115 (pc' := 116) rfl (by decide) ?_
          refine go_goto C at_116 (by decide) (pc' := 120) (by decide) ?_
          refine go_istore C (Ls' := #[.val (.int x0), .val (.int x1), .val (.int x2), .val (.int x3), .val (.int x4), .val (.int x5), .val (.int (4 : Int32)), .val (.int v0), .val (.int v1), .val (.int v2), .val (.int v3), .val (.ref a_645), .val (.int (1 : Int32)), .unset, .unset, .unset, .unset, .unset, .unset]) at_120 (pc' := 122) rfl rfl ?_
          refine go_iload C at_122 (pc' := 124) rfl rfl ?_
          refine go_iconst C (1 : Int32) at_124 (pc' := 125) rfl (by decide) ?_
          refine go_icmp C (4 : Int) (1 : Int) (by decide) (by decide) at_125 (by decide) (pc' := 139) (by decide) (pcN := 128) rfl (fun (c_781 : ¬ (1 : Int) < (4 : Int)) => by omega) (fun (c_781 : (1 : Int) < (4 : Int)) => ?_)
          refine go_iload C at_128 (pc' := 130) rfl rfl ?_
          refine go_iload C at_130 (pc' := 132) rfl rfl ?_
          refine go_icmp C v1.toInt v0.toInt rfl rfl at_132 (by decide) (pc' := 139) (by decide) (pcN := 135) rfl (fun (c_782 : v1.toInt = v0.toInt) => by omega) (fun (c_782 : ¬ v1.toInt = v0.toInt) => ?_)
          refine go_iconst C (1 : Int32) at_135 (pc' := 136) rfl (by decide) ?_
          refine go_goto C at_136 (by decide) (pc' := 140) (by decide) ?_
          refine go_istore C (Ls' := #[.val (.int x0), .val (.int x1), .val (.int x2), .val (.int x3), .val (.int x4), .val (.int x5), .val (.int (4 : Int32)), .val (.int v0), .val (.int v1), .val (.int v2), .val (.int v3), .val (.ref a_645), .val (.int (1 : Int32)), .val (.int (1 : Int32)), .unset, .unset, .unset, .unset, .unset]) at_140 (pc' := 142) rfl rfl ?_
          refine go_iload C at_142 (pc' := 144) rfl rfl ?_
          refine go_iconst C (2 : Int32) at_144 (pc' := 145) rfl (by decide) ?_
          refine go_icmp C (4 : Int) (2 : Int) (by decide) (by decide) at_145 (by decide) (pc' := 166) (by decide) (pcN := 148) rfl (fun (c_783 : ¬ (2 : Int) < (4 : Int)) => by omega) (fun (c_783 : (2 : Int) < (4 : Int)) => ?_)
          refine go_iload C at_148 (pc' := 150) rfl rfl ?_
          refine go_iload C at_150 (pc' := 152) rfl rfl ?_
          refine go_icmp C v2.toInt v0.toInt rfl rfl at_152 (by decide) (pc' := 166) (by decide) (pcN := 155) rfl (fun (c_784 : v2.toInt = v0.toInt) => by omega) (fun (c_784 : ¬ v2.toInt = v0.toInt) => ?_)
          refine go_iload C at_155 (pc' := 157) rfl rfl ?_
          refine go_iload C at_157 (pc' := 159) rfl rfl ?_
          refine go_icmp C v2.toInt v1.toInt rfl rfl at_159 (by decide) (pc' := 166) (by decide) (pcN := 162) rfl (fun (c_785 : v2.toInt = v1.toInt) => by omega) (fun (c_785 : ¬ v2.toInt = v1.toInt) => ?_)
          refine go_iconst C (1 : Int32) at_162 (pc' := 163) rfl (by decide) ?_
          refine go_goto C at_163 (by decide) (pc' := 167) (by decide) ?_
          refine go_istore C (Ls' := #[.val (.int x0), .val (.int x1), .val (.int x2), .val (.int x3), .val (.int x4), .val (.int x5), .val (.int (4 : Int32)), .val (.int v0), .val (.int v1), .val (.int v2), .val (.int v3), .val (.ref a_645), .val (.int (1 : Int32)), .val (.int (1 : Int32)), .val (.int (1 : Int32)), .unset, .unset, .unset, .unset]) at_167 (pc' := 169) rfl rfl ?_
          refine go_iload C at_169 (pc' := 171) rfl rfl ?_
          refine go_iconst C (3 : Int32) at_171 (pc' := 172) rfl (by decide) ?_
          refine go_icmp C (4 : Int) (3 : Int) (by decide) (by decide) at_172 (by decide) (pc' := 200) (by decide) (pcN := 175) rfl (fun (c_786 : ¬ (3 : Int) < (4 : Int)) => by omega) (fun (c_786 : (3 : Int) < (4 : Int)) => ?_)
          refine go_iload C at_175 (pc' := 177) rfl rfl ?_
          refine go_iload C at_177 (pc' := 179) rfl rfl ?_
          refine go_icmp C v3.toInt v0.toInt rfl rfl at_179 (by decide) (pc' := 200) (by decide) (pcN := 182) rfl (fun (c_787 : v3.toInt = v0.toInt) => ?_) (fun (c_787 : ¬ v3.toInt = v0.toInt) => ?_)
          · skip
            refine go_iconst C (0 : Int32) at_200 (pc' := 201) rfl (by decide) ?_
            refine go_istore C (Ls' := #[.val (.int x0), .val (.int x1), .val (.int x2), .val (.int x3), .val (.int x4), .val (.int x5), .val (.int (4 : Int32)), .val (.int v0), .val (.int v1), .val (.int v2), .val (.int v3), .val (.ref a_645), .val (.int (1 : Int32)), .val (.int (1 : Int32)), .val (.int (1 : Int32)), .val (.int (0 : Int32)), .unset, .unset, .unset]) at_201 (pc' := 203) rfl rfl ?_
            refine go_iconst C (4 : Int32) at_203 (pc' := 204) rfl (by decide) ?_
            refine go_newarray C (wd hw 13 rfl) rfl 4 4 (by decide) (by decide) (by decide) (ce' := 3) (sl' := 14) rfl rfl (by decide) (by decide) at_204 (pc' := 206) rfl ?_
            intro h_788 a_789 g_790 E_791 A_792
            have n_793 : a_645 ≠ a_789 := own_ne_new E_776.lt g_790
            have n_794 : r_656 ≠ a_789 := own_ne_new A_779.lt g_790
            have g_795 : Z.heap.size ≤ a_789 := own_ge (Nat.le_of_lt (Nat.lt_of_le_of_lt g_650 E_776.lt)) g_790
            have F_796 := Fld.ext E_791 F_777
            have F_797 := Fld.ext E_791 F_778
            have E_798 := Exa.ext E_791 E_776
            have A_799 := Av.ext A_779 E_791
            have z_800 : Z.heap.size ≤ h_788.size := Nat.le_trans (Nat.le_of_lt (Nat.lt_of_le_of_lt g_650 E_776.lt)) E_791.1
            have A_801 : Av Z h_788 a_789 .int [.int (0 : Int32), .int (0 : Int32), .int (0 : Int32), .int (0 : Int32)] := A_792
            refine go_astore C (Ls' := #[.val (.int x0), .val (.int x1), .val (.int x2), .val (.int x3), .val (.int x4), .val (.int x5), .val (.int (4 : Int32)), .val (.int v0), .val (.int v1), .val (.int v2), .val (.int v3), .val (.ref a_645), .val (.int (1 : Int32)), .val (.int (1 : Int32)), .val (.int (1 : Int32)), .val (.int (0 : Int32)), .val (.ref a_789), .unset, .unset]) at_206 (pc' := 208) rfl rfl rfl ?_
            refine go_iconst C (0 : Int32) at_208 (pc' := 209) rfl (by decide) ?_
            refine go_istore C (Ls' := #[.val (.int x0), .val (.int x1), .val (.int x2), .val (.int x3), .val (.int x4), .val (.int x5), .val (.int (4 : Int32)), .val (.int v0), .val (.int v1), .val (.int v2), .val (.int v3), .val (.ref a_645), .val (.int (1 : Int32)), .val (.int (1 : Int32)), .val (.int (1 : Int32)), .val (.int (0 : Int32)), .val (.ref a_789), .val (.int (0 : Int32)), .unset]) at_209 (pc' := 211) rfl rfl ?_
            refine go_iload C at_211 (pc' := 213) rfl rfl ?_
            refine go_if0 C (1 : Int) (by decide) at_213 (by decide) (pc' := 226) (by decide) (pcN := 216) rfl (fun (c_802 : (1 : Int) = 0) => by omega) (fun (c_802 : ¬ (1 : Int) = 0) => ?_)
            refine go_aload C at_216 (pc' := 218) rfl rfl rfl ?_
            refine go_iload C at_218 (pc' := 220) rfl rfl ?_
            refine go_iload C at_220 (pc' := 222) rfl rfl ?_
            refine go_iastore C A_801 0 (by decide) (show 0 < 4 from by decide) g_795 at_222 (pc' := 223) rfl ?_
            intro h_803 W_804 A_805
            have z_806 : Z.heap.size ≤ h_803.size := W_804.size.symm ▸ z_800
            have F_807 := Fld.other W_804 F_796 (Or.inl n_793)
            have F_808 := Fld.other W_804 F_797 (Or.inl n_793)
            have E_809 := Exa.wr W_804 E_798
            have A_810 := Av.other A_799 W_804 n_794
            have A_811 : Av Z h_803 a_789 .int [.int v0, .int (0 : Int32), .int (0 : Int32), .int (0 : Int32)] := A_805
            refine go_iinc C (Ls' := #[.val (.int x0), .val (.int x1), .val (.int x2), .val (.int x3), .val (.int x4), .val (.int x5), .val (.int (4 : Int32)), .val (.int v0), .val (.int v1), .val (.int v2), .val (.int v3), .val (.ref a_645), .val (.int (1 : Int32)), .val (.int (1 : Int32)), .val (.int (1 : Int32)), .val (.int (0 : Int32)), .val (.ref a_789), .val (.int ((0 : Int32) + (1 : Int32))), .unset]) (1 : Int32) at_223 (pc' := 226) rfl (by decide) rfl rfl ?_
            rw [(by decide : (0 : Int32) + (1 : Int32) = (1 : Int32))]
            refine go_iload C at_226 (pc' := 228) rfl rfl ?_
            refine go_if0 C (1 : Int) (by decide) at_228 (by decide) (pc' := 241) (by decide) (pcN := 231) rfl (fun (c_812 : (1 : Int) = 0) => by omega) (fun (c_812 : ¬ (1 : Int) = 0) => ?_)
            refine go_aload C at_231 (pc' := 233) rfl rfl rfl ?_
            refine go_iload C at_233 (pc' := 235) rfl rfl ?_
            refine go_iload C at_235 (pc' := 237) rfl rfl ?_
            refine go_iastore C A_811 1 (by decide) (show 1 < 4 from by decide) g_795 at_237 (pc' := 238) rfl ?_
            intro h_813 W_814 A_815
            have z_816 : Z.heap.size ≤ h_813.size := W_814.size.symm ▸ z_806
            have F_817 := Fld.other W_814 F_807 (Or.inl n_793)
            have F_818 := Fld.other W_814 F_808 (Or.inl n_793)
            have E_819 := Exa.wr W_814 E_809
            have A_820 := Av.other A_810 W_814 n_794
            have A_821 : Av Z h_813 a_789 .int [.int v0, .int v1, .int (0 : Int32), .int (0 : Int32)] := A_815
            refine go_iinc C (Ls' := #[.val (.int x0), .val (.int x1), .val (.int x2), .val (.int x3), .val (.int x4), .val (.int x5), .val (.int (4 : Int32)), .val (.int v0), .val (.int v1), .val (.int v2), .val (.int v3), .val (.ref a_645), .val (.int (1 : Int32)), .val (.int (1 : Int32)), .val (.int (1 : Int32)), .val (.int (0 : Int32)), .val (.ref a_789), .val (.int ((1 : Int32) + (1 : Int32))), .unset]) (1 : Int32) at_238 (pc' := 241) rfl (by decide) rfl rfl ?_
            rw [(by decide : (1 : Int32) + (1 : Int32) = (2 : Int32))]
            refine go_iload C at_241 (pc' := 243) rfl rfl ?_
            refine go_if0 C (1 : Int) (by decide) at_243 (by decide) (pc' := 256) (by decide) (pcN := 246) rfl (fun (c_822 : (1 : Int) = 0) => by omega) (fun (c_822 : ¬ (1 : Int) = 0) => ?_)
            refine go_aload C at_246 (pc' := 248) rfl rfl rfl ?_
            refine go_iload C at_248 (pc' := 250) rfl rfl ?_
            refine go_iload C at_250 (pc' := 252) rfl rfl ?_
            refine go_iastore C A_821 2 (by decide) (show 2 < 4 from by decide) g_795 at_252 (pc' := 253) rfl ?_
            intro h_823 W_824 A_825
            have z_826 : Z.heap.size ≤ h_823.size := W_824.size.symm ▸ z_816
            have F_827 := Fld.other W_824 F_817 (Or.inl n_793)
            have F_828 := Fld.other W_824 F_818 (Or.inl n_793)
            have E_829 := Exa.wr W_824 E_819
            have A_830 := Av.other A_820 W_824 n_794
            have A_831 : Av Z h_823 a_789 .int [.int v0, .int v1, .int v2, .int (0 : Int32)] := A_825
            refine go_iinc C (Ls' := #[.val (.int x0), .val (.int x1), .val (.int x2), .val (.int x3), .val (.int x4), .val (.int x5), .val (.int (4 : Int32)), .val (.int v0), .val (.int v1), .val (.int v2), .val (.int v3), .val (.ref a_645), .val (.int (1 : Int32)), .val (.int (1 : Int32)), .val (.int (1 : Int32)), .val (.int (0 : Int32)), .val (.ref a_789), .val (.int ((2 : Int32) + (1 : Int32))), .unset]) (1 : Int32) at_253 (pc' := 256) rfl (by decide) rfl rfl ?_
            rw [(by decide : (2 : Int32) + (1 : Int32) = (3 : Int32))]
            refine go_iload C at_256 (pc' := 258) rfl rfl ?_
            refine go_if0 C (0 : Int) (by decide) at_258 (by decide) (pc' := 271) (by decide) (pcN := 261) rfl (fun (c_832 : (0 : Int) = 0) => ?_) (fun (c_832 : ¬ (0 : Int) = 0) => by omega)
            refine go_aload C at_271 (pc' := 273) rfl rfl rfl ?_
            refine go_virtualP C (as := []) (rest := []) (W := 0) (.int (3 : Int32)) (sat_size l Z a0 hw a_645 _ _ _ F_828) E_829 (wd hw 23 rfl) (wd hw 24 rfl) (wd hw 26 rfl) (wd hw 25 rfl) (wd hw 6 rfl) (wd hw 27 rfl) (by decide) pd_3 rfl rfl rfl (by decide) (by decide) rfl rfl (by decide) (by decide) at_273 (pc' := 276) rfl rfl ?_
            refine go_iload C at_276 (pc' := 278) rfl rfl ?_
            refine go_icmp C (3 : Int) (3 : Int) (by decide) (by decide) at_278 (by decide) (pc' := 283) (by decide) (pcN := 281) rfl (fun (c_833 : (3 : Int) = (3 : Int)) => ?_) (fun (c_833 : ¬ (3 : Int) = (3 : Int)) => by omega)
            refine go_iconst C (1 : Int32) at_283 (pc' := 284) rfl (by decide) ?_
            refine go_istore C (Ls' := #[.val (.int x0), .val (.int x1), .val (.int x2), .val (.int x3), .val (.int x4), .val (.int x5), .val (.int (4 : Int32)), .val (.int v0), .val (.int v1), .val (.int v2), .val (.int v3), .val (.ref a_645), .val (.int (1 : Int32)), .val (.int (1 : Int32)), .val (.int (1 : Int32)), .val (.int (0 : Int32)), .val (.ref a_789), .val (.int (3 : Int32)), .val (.int (1 : Int32))]) at_284 (pc' := 286) rfl rfl ?_
            refine go_iload C at_286 (pc' := 288) rfl rfl ?_
            refine go_if0 C (3 : Int) (by decide) at_288 (by decide) (pc' := 316) (by decide) (pcN := 291) rfl (fun (c_834 : ¬ 0 < (3 : Int)) => by omega) (fun (c_834 : 0 < (3 : Int)) => ?_)
            refine go_iload C at_291 (pc' := 293) rfl rfl ?_
            refine go_if0 C (1 : Int) (by decide) at_293 (by decide) (pc' := 313) (by decide) (pcN := 296) rfl (fun (c_835 : (1 : Int) = 0) => by omega) (fun (c_835 : ¬ (1 : Int) = 0) => ?_)
            refine go_aload C at_296 (pc' := 298) rfl rfl rfl ?_
            refine go_iconst C (0 : Int32) at_298 (pc' := 299) rfl (by decide) ?_
            refine go_virtualP C (as := [.int (0 : Int32)]) (rest := []) (W := 0) (.int v0) (sat_get l Z a0 hw a_645 r_656 (0 : Int32) v0 0 [.int v0, .int v1, .int v2, .int v3, .int (0 : Int32), .int (0 : Int32), .int (0 : Int32), .int (0 : Int32)] _ _ F_827 A_830 (by decide) rfl) E_829 (wd hw 33 rfl) (wd hw 34 rfl) (wd hw 36 rfl) (wd hw 35 rfl) (wd hw 6 rfl) (wd hw 37 rfl) (by decide) pd_5 rfl rfl rfl (by decide) (by decide) rfl rfl (by decide) (by decide) at_299 (pc' := 302) rfl rfl ?_
            refine go_aload C at_302 (pc' := 304) rfl rfl rfl ?_
            refine go_iconst C (0 : Int32) at_304 (pc' := 305) rfl (by decide) ?_
            refine go_iaload C A_831 0 (.int v0) (by decide) rfl at_305 (pc' := 306) rfl ?_
            refine go_icmp C v0.toInt v0.toInt rfl rfl at_306 (by decide) (pc' := 313) (by decide) (pcN := 309) rfl (fun (c_836 : ¬ v0.toInt = v0.toInt) => by omega) (fun (c_836 : v0.toInt = v0.toInt) => ?_)
            refine go_iconst C (1 : Int32) at_309 (pc' := 310) rfl (by decide) ?_
            refine go_goto C at_310 (by decide) (pc' := 314) (by decide) ?_
            refine go_istore C (Ls' := #[.val (.int x0), .val (.int x1), .val (.int x2), .val (.int x3), .val (.int x4), .val (.int x5), .val (.int (4 : Int32)), .val (.int v0), .val (.int v1), .val (.int v2), .val (.int v3), .val (.ref a_645), .val (.int (1 : Int32)), .val (.int (1 : Int32)), .val (.int (1 : Int32)), .val (.int (0 : Int32)), .val (.ref a_789), .val (.int (3 : Int32)), .val (.int (1 : Int32))]) at_314 (pc' := 316) rfl rfl ?_
            refine go_iload C at_316 (pc' := 318) rfl rfl ?_
            refine go_iconst C (1 : Int32) at_318 (pc' := 319) rfl (by decide) ?_
            refine go_icmp C (3 : Int) (1 : Int) (by decide) (by decide) at_319 (by decide) (pc' := 347) (by decide) (pcN := 322) rfl (fun (c_837 : ¬ (1 : Int) < (3 : Int)) => by omega) (fun (c_837 : (1 : Int) < (3 : Int)) => ?_)
            refine go_iload C at_322 (pc' := 324) rfl rfl ?_
            refine go_if0 C (1 : Int) (by decide) at_324 (by decide) (pc' := 344) (by decide) (pcN := 327) rfl (fun (c_838 : (1 : Int) = 0) => by omega) (fun (c_838 : ¬ (1 : Int) = 0) => ?_)
            refine go_aload C at_327 (pc' := 329) rfl rfl rfl ?_
            refine go_iconst C (1 : Int32) at_329 (pc' := 330) rfl (by decide) ?_
            refine go_virtualP C (as := [.int (1 : Int32)]) (rest := []) (W := 0) (.int v1) (sat_get l Z a0 hw a_645 r_656 (1 : Int32) v1 1 [.int v0, .int v1, .int v2, .int v3, .int (0 : Int32), .int (0 : Int32), .int (0 : Int32), .int (0 : Int32)] _ _ F_827 A_830 (by decide) rfl) E_829 (wd hw 33 rfl) (wd hw 34 rfl) (wd hw 36 rfl) (wd hw 35 rfl) (wd hw 6 rfl) (wd hw 37 rfl) (by decide) pd_5 rfl rfl rfl (by decide) (by decide) rfl rfl (by decide) (by decide) at_330 (pc' := 333) rfl rfl ?_
            refine go_aload C at_333 (pc' := 335) rfl rfl rfl ?_
            refine go_iconst C (1 : Int32) at_335 (pc' := 336) rfl (by decide) ?_
            refine go_iaload C A_831 1 (.int v1) (by decide) rfl at_336 (pc' := 337) rfl ?_
            refine go_icmp C v1.toInt v1.toInt rfl rfl at_337 (by decide) (pc' := 344) (by decide) (pcN := 340) rfl (fun (c_839 : ¬ v1.toInt = v1.toInt) => by omega) (fun (c_839 : v1.toInt = v1.toInt) => ?_)
            refine go_iconst C (1 : Int32) at_340 (pc' := 341) rfl (by decide) ?_
            refine go_goto C at_341 (by decide) (pc' := 345) (by decide) ?_
            refine go_istore C (Ls' := #[.val (.int x0), .val (.int x1), .val (.int x2), .val (.int x3), .val (.int x4), .val (.int x5), .val (.int (4 : Int32)), .val (.int v0), .val (.int v1), .val (.int v2), .val (.int v3), .val (.ref a_645), .val (.int (1 : Int32)), .val (.int (1 : Int32)), .val (.int (1 : Int32)), .val (.int (0 : Int32)), .val (.ref a_789), .val (.int (3 : Int32)), .val (.int (1 : Int32))]) at_345 (pc' := 347) rfl rfl ?_
            refine go_iload C at_347 (pc' := 349) rfl rfl ?_
            refine go_iconst C (2 : Int32) at_349 (pc' := 350) rfl (by decide) ?_
            refine go_icmp C (3 : Int) (2 : Int) (by decide) (by decide) at_350 (by decide) (pc' := 378) (by decide) (pcN := 353) rfl (fun (c_840 : ¬ (2 : Int) < (3 : Int)) => by omega) (fun (c_840 : (2 : Int) < (3 : Int)) => ?_)
            refine go_iload C at_353 (pc' := 355) rfl rfl ?_
            refine go_if0 C (1 : Int) (by decide) at_355 (by decide) (pc' := 375) (by decide) (pcN := 358) rfl (fun (c_841 : (1 : Int) = 0) => by omega) (fun (c_841 : ¬ (1 : Int) = 0) => ?_)
            refine go_aload C at_358 (pc' := 360) rfl rfl rfl ?_
            refine go_iconst C (2 : Int32) at_360 (pc' := 361) rfl (by decide) ?_
            refine go_virtualP C (as := [.int (2 : Int32)]) (rest := []) (W := 0) (.int v2) (sat_get l Z a0 hw a_645 r_656 (2 : Int32) v2 2 [.int v0, .int v1, .int v2, .int v3, .int (0 : Int32), .int (0 : Int32), .int (0 : Int32), .int (0 : Int32)] _ _ F_827 A_830 (by decide) rfl) E_829 (wd hw 33 rfl) (wd hw 34 rfl) (wd hw 36 rfl) (wd hw 35 rfl) (wd hw 6 rfl) (wd hw 37 rfl) (by decide) pd_5 rfl rfl rfl (by decide) (by decide) rfl rfl (by decide) (by decide) at_361 (pc' := 364) rfl rfl ?_
            refine go_aload C at_364 (pc' := 366) rfl rfl rfl ?_
            refine go_iconst C (2 : Int32) at_366 (pc' := 367) rfl (by decide) ?_
            refine go_iaload C A_831 2 (.int v2) (by decide) rfl at_367 (pc' := 368) rfl ?_
            refine go_icmp C v2.toInt v2.toInt rfl rfl at_368 (by decide) (pc' := 375) (by decide) (pcN := 371) rfl (fun (c_842 : ¬ v2.toInt = v2.toInt) => by omega) (fun (c_842 : v2.toInt = v2.toInt) => ?_)
            refine go_iconst C (1 : Int32) at_371 (pc' := 372) rfl (by decide) ?_
            refine go_goto C at_372 (by decide) (pc' := 376) (by decide) ?_
            refine go_istore C (Ls' := #[.val (.int x0), .val (.int x1), .val (.int x2), .val (.int x3), .val (.int x4), .val (.int x5), .val (.int (4 : Int32)), .val (.int v0), .val (.int v1), .val (.int v2), .val (.int v3), .val (.ref a_645), .val (.int (1 : Int32)), .val (.int (1 : Int32)), .val (.int (1 : Int32)), .val (.int (0 : Int32)), .val (.ref a_789), .val (.int (3 : Int32)), .val (.int (1 : Int32))]) at_376 (pc' := 378) rfl rfl ?_
            refine go_iload C at_378 (pc' := 380) rfl rfl ?_
            refine go_iconst C (3 : Int32) at_380 (pc' := 381) rfl (by decide) ?_
            refine go_icmp C (3 : Int) (3 : Int) (by decide) (by decide) at_381 (by decide) (pc' := 409) (by decide) (pcN := 384) rfl (fun (c_843 : ¬ (3 : Int) < (3 : Int)) => ?_) (fun (c_843 : (3 : Int) < (3 : Int)) => by omega)
            refine go_iload C at_409 (pc' := 411) rfl rfl ?_
            refine go_ireturnN C (z' := (1 : Int32)) rfl (by simp) rfl at_411 (by decide) (by decide) ?_
            exact ⟨_, rfl, rfl⟩
          · skip
            refine go_iload C at_182 (pc' := 184) rfl rfl ?_
            refine go_iload C at_184 (pc' := 186) rfl rfl ?_
            refine go_icmp C v3.toInt v1.toInt rfl rfl at_186 (by decide) (pc' := 200) (by decide) (pcN := 189) rfl (fun (c_844 : v3.toInt = v1.toInt) => ?_) (fun (c_844 : ¬ v3.toInt = v1.toInt) => ?_)
            · skip
              refine go_iconst C (0 : Int32) at_200 (pc' := 201) rfl (by decide) ?_
              refine go_istore C (Ls' := #[.val (.int x0), .val (.int x1), .val (.int x2), .val (.int x3), .val (.int x4), .val (.int x5), .val (.int (4 : Int32)), .val (.int v0), .val (.int v1), .val (.int v2), .val (.int v3), .val (.ref a_645), .val (.int (1 : Int32)), .val (.int (1 : Int32)), .val (.int (1 : Int32)), .val (.int (0 : Int32)), .unset, .unset, .unset]) at_201 (pc' := 203) rfl rfl ?_
              refine go_iconst C (4 : Int32) at_203 (pc' := 204) rfl (by decide) ?_
              refine go_newarray C (wd hw 13 rfl) rfl 4 4 (by decide) (by decide) (by decide) (ce' := 3) (sl' := 14) rfl rfl (by decide) (by decide) at_204 (pc' := 206) rfl ?_
              intro h_845 a_846 g_847 E_848 A_849
              have n_850 : a_645 ≠ a_846 := own_ne_new E_776.lt g_847
              have n_851 : r_656 ≠ a_846 := own_ne_new A_779.lt g_847
              have g_852 : Z.heap.size ≤ a_846 := own_ge (Nat.le_of_lt (Nat.lt_of_le_of_lt g_650 E_776.lt)) g_847
              have F_853 := Fld.ext E_848 F_777
              have F_854 := Fld.ext E_848 F_778
              have E_855 := Exa.ext E_848 E_776
              have A_856 := Av.ext A_779 E_848
              have z_857 : Z.heap.size ≤ h_845.size := Nat.le_trans (Nat.le_of_lt (Nat.lt_of_le_of_lt g_650 E_776.lt)) E_848.1
              have A_858 : Av Z h_845 a_846 .int [.int (0 : Int32), .int (0 : Int32), .int (0 : Int32), .int (0 : Int32)] := A_849
              refine go_astore C (Ls' := #[.val (.int x0), .val (.int x1), .val (.int x2), .val (.int x3), .val (.int x4), .val (.int x5), .val (.int (4 : Int32)), .val (.int v0), .val (.int v1), .val (.int v2), .val (.int v3), .val (.ref a_645), .val (.int (1 : Int32)), .val (.int (1 : Int32)), .val (.int (1 : Int32)), .val (.int (0 : Int32)), .val (.ref a_846), .unset, .unset]) at_206 (pc' := 208) rfl rfl rfl ?_
              refine go_iconst C (0 : Int32) at_208 (pc' := 209) rfl (by decide) ?_
              refine go_istore C (Ls' := #[.val (.int x0), .val (.int x1), .val (.int x2), .val (.int x3), .val (.int x4), .val (.int x5), .val (.int (4 : Int32)), .val (.int v0), .val (.int v1), .val (.int v2), .val (.int v3), .val (.ref a_645), .val (.int (1 : Int32)), .val (.int (1 : Int32)), .val (.int (1 : Int32)), .val (.int (0 : Int32)), .val (.ref a_846), .val (.int (0 : Int32)), .unset]) at_209 (pc' := 211) rfl rfl ?_
              refine go_iload C at_211 (pc' := 213) rfl rfl ?_
              refine go_if0 C (1 : Int) (by decide) at_213 (by decide) (pc' := 226) (by decide) (pcN := 216) rfl (fun (c_859 : (1 : Int) = 0) => by omega) (fun (c_859 : ¬ (1 : Int) = 0) => ?_)
              refine go_aload C at_216 (pc' := 218) rfl rfl rfl ?_
              refine go_iload C at_218 (pc' := 220) rfl rfl ?_
              refine go_iload C at_220 (pc' := 222) rfl rfl ?_
              refine go_iastore C A_858 0 (by decide) (show 0 < 4 from by decide) g_852 at_222 (pc' := 223) rfl ?_
              intro h_860 W_861 A_862
              have z_863 : Z.heap.size ≤ h_860.size := W_861.size.symm ▸ z_857
              have F_864 := Fld.other W_861 F_853 (Or.inl n_850)
              have F_865 := Fld.other W_861 F_854 (Or.inl n_850)
              have E_866 := Exa.wr W_861 E_855
              have A_867 := Av.other A_856 W_861 n_851
              have A_868 : Av Z h_860 a_846 .int [.int v0, .int (0 : Int32), .int (0 : Int32), .int (0 : Int32)] := A_862
              refine go_iinc C (Ls' := #[.val (.int x0), .val (.int x1), .val (.int x2), .val (.int x3), .val (.int x4), .val (.int x5), .val (.int (4 : Int32)), .val (.int v0), .val (.int v1), .val (.int v2), .val (.int v3), .val (.ref a_645), .val (.int (1 : Int32)), .val (.int (1 : Int32)), .val (.int (1 : Int32)), .val (.int (0 : Int32)), .val (.ref a_846), .val (.int ((0 : Int32) + (1 : Int32))), .unset]) (1 : Int32) at_223 (pc' := 226) rfl (by decide) rfl rfl ?_
              rw [(by decide : (0 : Int32) + (1 : Int32) = (1 : Int32))]
              refine go_iload C at_226 (pc' := 228) rfl rfl ?_
              refine go_if0 C (1 : Int) (by decide) at_228 (by decide) (pc' := 241) (by decide) (pcN := 231) rfl (fun (c_869 : (1 : Int) = 0) => by omega) (fun (c_869 : ¬ (1 : Int) = 0) => ?_)
              refine go_aload C at_231 (pc' := 233) rfl rfl rfl ?_
              refine go_iload C at_233 (pc' := 235) rfl rfl ?_
              refine go_iload C at_235 (pc' := 237) rfl rfl ?_
              refine go_iastore C A_868 1 (by decide) (show 1 < 4 from by decide) g_852 at_237 (pc' := 238) rfl ?_
              intro h_870 W_871 A_872
              have z_873 : Z.heap.size ≤ h_870.size := W_871.size.symm ▸ z_863
              have F_874 := Fld.other W_871 F_864 (Or.inl n_850)
              have F_875 := Fld.other W_871 F_865 (Or.inl n_850)
              have E_876 := Exa.wr W_871 E_866
              have A_877 := Av.other A_867 W_871 n_851
              have A_878 : Av Z h_870 a_846 .int [.int v0, .int v1, .int (0 : Int32), .int (0 : Int32)] := A_872
              refine go_iinc C (Ls' := #[.val (.int x0), .val (.int x1), .val (.int x2), .val (.int x3), .val (.int x4), .val (.int x5), .val (.int (4 : Int32)), .val (.int v0), .val (.int v1), .val (.int v2), .val (.int v3), .val (.ref a_645), .val (.int (1 : Int32)), .val (.int (1 : Int32)), .val (.int (1 : Int32)), .val (.int (0 : Int32)), .val (.ref a_846), .val (.int ((1 : Int32) + (1 : Int32))), .unset]) (1 : Int32) at_238 (pc' := 241) rfl (by decide) rfl rfl ?_
              rw [(by decide : (1 : Int32) + (1 : Int32) = (2 : Int32))]
              refine go_iload C at_241 (pc' := 243) rfl rfl ?_
              refine go_if0 C (1 : Int) (by decide) at_243 (by decide) (pc' := 256) (by decide) (pcN := 246) rfl (fun (c_879 : (1 : Int) = 0) => by omega) (fun (c_879 : ¬ (1 : Int) = 0) => ?_)
              refine go_aload C at_246 (pc' := 248) rfl rfl rfl ?_
              refine go_iload C at_248 (pc' := 250) rfl rfl ?_
              refine go_iload C at_250 (pc' := 252) rfl rfl ?_
              refine go_iastore C A_878 2 (by decide) (show 2 < 4 from by decide) g_852 at_252 (pc' := 253) rfl ?_
              intro h_880 W_881 A_882
              have z_883 : Z.heap.size ≤ h_880.size := W_881.size.symm ▸ z_873
              have F_884 := Fld.other W_881 F_874 (Or.inl n_850)
              have F_885 := Fld.other W_881 F_875 (Or.inl n_850)
              have E_886 := Exa.wr W_881 E_876
              have A_887 := Av.other A_877 W_881 n_851
              have A_888 : Av Z h_880 a_846 .int [.int v0, .int v1, .int v2, .int (0 : Int32)] := A_882
              refine go_iinc C (Ls' := #[.val (.int x0), .val (.int x1), .val (.int x2), .val (.int x3), .val (.int x4), .val (.int x5), .val (.int (4 : Int32)), .val (.int v0), .val (.int v1), .val (.int v2), .val (.int v3), .val (.ref a_645), .val (.int (1 : Int32)), .val (.int (1 : Int32)), .val (.int (1 : Int32)), .val (.int (0 : Int32)), .val (.ref a_846), .val (.int ((2 : Int32) + (1 : Int32))), .unset]) (1 : Int32) at_253 (pc' := 256) rfl (by decide) rfl rfl ?_
              rw [(by decide : (2 : Int32) + (1 : Int32) = (3 : Int32))]
              refine go_iload C at_256 (pc' := 258) rfl rfl ?_
              refine go_if0 C (0 : Int) (by decide) at_258 (by decide) (pc' := 271) (by decide) (pcN := 261) rfl (fun (c_889 : (0 : Int) = 0) => ?_) (fun (c_889 : ¬ (0 : Int) = 0) => by omega)
              refine go_aload C at_271 (pc' := 273) rfl rfl rfl ?_
              refine go_virtualP C (as := []) (rest := []) (W := 0) (.int (3 : Int32)) (sat_size l Z a0 hw a_645 _ _ _ F_885) E_886 (wd hw 23 rfl) (wd hw 24 rfl) (wd hw 26 rfl) (wd hw 25 rfl) (wd hw 6 rfl) (wd hw 27 rfl) (by decide) pd_3 rfl rfl rfl (by decide) (by decide) rfl rfl (by decide) (by decide) at_273 (pc' := 276) rfl rfl ?_
              refine go_iload C at_276 (pc' := 278) rfl rfl ?_
              refine go_icmp C (3 : Int) (3 : Int) (by decide) (by decide) at_278 (by decide) (pc' := 283) (by decide) (pcN := 281) rfl (fun (c_890 : (3 : Int) = (3 : Int)) => ?_) (fun (c_890 : ¬ (3 : Int) = (3 : Int)) => by omega)
              refine go_iconst C (1 : Int32) at_283 (pc' := 284) rfl (by decide) ?_
              refine go_istore C (Ls' := #[.val (.int x0), .val (.int x1), .val (.int x2), .val (.int x3), .val (.int x4), .val (.int x5), .val (.int (4 : Int32)), .val (.int v0), .val (.int v1), .val (.int v2), .val (.int v3), .val (.ref a_645), .val (.int (1 : Int32)), .val (.int (1 : Int32)), .val (.int (1 : Int32)), .val (.int (0 : Int32)), .val (.ref a_846), .val (.int (3 : Int32)), .val (.int (1 : Int32))]) at_284 (pc' := 286) rfl rfl ?_
              refine go_iload C at_286 (pc' := 288) rfl rfl ?_
              refine go_if0 C (3 : Int) (by decide) at_288 (by decide) (pc' := 316) (by decide) (pcN := 291) rfl (fun (c_891 : ¬ 0 < (3 : Int)) => by omega) (fun (c_891 : 0 < (3 : Int)) => ?_)
              refine go_iload C at_291 (pc' := 293) rfl rfl ?_
              refine go_if0 C (1 : Int) (by decide) at_293 (by decide) (pc' := 313) (by decide) (pcN := 296) rfl (fun (c_892 : (1 : Int) = 0) => by omega) (fun (c_892 : ¬ (1 : Int) = 0) => ?_)
              refine go_aload C at_296 (pc' := 298) rfl rfl rfl ?_
              refine go_iconst C (0 : Int32) at_298 (pc' := 299) rfl (by decide) ?_
              refine go_virtualP C (as := [.int (0 : Int32)]) (rest := []) (W := 0) (.int v0) (sat_get l Z a0 hw a_645 r_656 (0 : Int32) v0 0 [.int v0, .int v1, .int v2, .int v3, .int (0 : Int32), .int (0 : Int32), .int (0 : Int32), .int (0 : Int32)] _ _ F_884 A_887 (by decide) rfl) E_886 (wd hw 33 rfl) (wd hw 34 rfl) (wd hw 36 rfl) (wd hw 35 rfl) (wd hw 6 rfl) (wd hw 37 rfl) (by decide) pd_5 rfl rfl rfl (by decide) (by decide) rfl rfl (by decide) (by decide) at_299 (pc' := 302) rfl rfl ?_
              refine go_aload C at_302 (pc' := 304) rfl rfl rfl ?_
              refine go_iconst C (0 : Int32) at_304 (pc' := 305) rfl (by decide) ?_
              refine go_iaload C A_888 0 (.int v0) (by decide) rfl at_305 (pc' := 306) rfl ?_
              refine go_icmp C v0.toInt v0.toInt rfl rfl at_306 (by decide) (pc' := 313) (by decide) (pcN := 309) rfl (fun (c_893 : ¬ v0.toInt = v0.toInt) => by omega) (fun (c_893 : v0.toInt = v0.toInt) => ?_)
              refine go_iconst C (1 : Int32) at_309 (pc' := 310) rfl (by decide) ?_
              refine go_goto C at_310 (by decide) (pc' := 314) (by decide) ?_
              refine go_istore C (Ls' := #[.val (.int x0), .val (.int x1), .val (.int x2), .val (.int x3), .val (.int x4), .val (.int x5), .val (.int (4 : Int32)), .val (.int v0), .val (.int v1), .val (.int v2), .val (.int v3), .val (.ref a_645), .val (.int (1 : Int32)), .val (.int (1 : Int32)), .val (.int (1 : Int32)), .val (.int (0 : Int32)), .val (.ref a_846), .val (.int (3 : Int32)), .val (.int (1 : Int32))]) at_314 (pc' := 316) rfl rfl ?_
              refine go_iload C at_316 (pc' := 318) rfl rfl ?_
              refine go_iconst C (1 : Int32) at_318 (pc' := 319) rfl (by decide) ?_
              refine go_icmp C (3 : Int) (1 : Int) (by decide) (by decide) at_319 (by decide) (pc' := 347) (by decide) (pcN := 322) rfl (fun (c_894 : ¬ (1 : Int) < (3 : Int)) => by omega) (fun (c_894 : (1 : Int) < (3 : Int)) => ?_)
              refine go_iload C at_322 (pc' := 324) rfl rfl ?_
              refine go_if0 C (1 : Int) (by decide) at_324 (by decide) (pc' := 344) (by decide) (pcN := 327) rfl (fun (c_895 : (1 : Int) = 0) => by omega) (fun (c_895 : ¬ (1 : Int) = 0) => ?_)
              refine go_aload C at_327 (pc' := 329) rfl rfl rfl ?_
              refine go_iconst C (1 : Int32) at_329 (pc' := 330) rfl (by decide) ?_
              refine go_virtualP C (as := [.int (1 : Int32)]) (rest := []) (W := 0) (.int v1) (sat_get l Z a0 hw a_645 r_656 (1 : Int32) v1 1 [.int v0, .int v1, .int v2, .int v3, .int (0 : Int32), .int (0 : Int32), .int (0 : Int32), .int (0 : Int32)] _ _ F_884 A_887 (by decide) rfl) E_886 (wd hw 33 rfl) (wd hw 34 rfl) (wd hw 36 rfl) (wd hw 35 rfl) (wd hw 6 rfl) (wd hw 37 rfl) (by decide) pd_5 rfl rfl rfl (by decide) (by decide) rfl rfl (by decide) (by decide) at_330 (pc' := 333) rfl rfl ?_
              refine go_aload C at_333 (pc' := 335) rfl rfl rfl ?_
              refine go_iconst C (1 : Int32) at_335 (pc' := 336) rfl (by decide) ?_
              refine go_iaload C A_888 1 (.int v1) (by decide) rfl at_336 (pc' := 337) rfl ?_
              refine go_icmp C v1.toInt v1.toInt rfl rfl at_337 (by decide) (pc' := 344) (by decide) (pcN := 340) rfl (fun (c_896 : ¬ v1.toInt = v1.toInt) => by omega) (fun (c_896 : v1.toInt = v1.toInt) => ?_)
              refine go_iconst C (1 : Int32) at_340 (pc' := 341) rfl (by decide) ?_
              refine go_goto C at_341 (by decide) (pc' := 345) (by decide) ?_
              refine go_istore C (Ls' := #[.val (.int x0), .val (.int x1), .val (.int x2), .val (.int x3), .val (.int x4), .val (.int x5), .val (.int (4 : Int32)), .val (.int v0), .val (.int v1), .val (.int v2), .val (.int v3), .val (.ref a_645), .val (.int (1 : Int32)), .val (.int (1 : Int32)), .val (.int (1 : Int32)), .val (.int (0 : Int32)), .val (.ref a_846), .val (.int (3 : Int32)), .val (.int (1 : Int32))]) at_345 (pc' := 347) rfl rfl ?_
              refine go_iload C at_347 (pc' := 349) rfl rfl ?_
              refine go_iconst C (2 : Int32) at_349 (pc' := 350) rfl (by decide) ?_
              refine go_icmp C (3 : Int) (2 : Int) (by decide) (by decide) at_350 (by decide) (pc' := 378) (by decide) (pcN := 353) rfl (fun (c_897 : ¬ (2 : Int) < (3 : Int)) => by omega) (fun (c_897 : (2 : Int) < (3 : Int)) => ?_)
              refine go_iload C at_353 (pc' := 355) rfl rfl ?_
              refine go_if0 C (1 : Int) (by decide) at_355 (by decide) (pc' := 375) (by decide) (pcN := 358) rfl (fun (c_898 : (1 : Int) = 0) => by omega) (fun (c_898 : ¬ (1 : Int) = 0) => ?_)
              refine go_aload C at_358 (pc' := 360) rfl rfl rfl ?_
              refine go_iconst C (2 : Int32) at_360 (pc' := 361) rfl (by decide) ?_
              refine go_virtualP C (as := [.int (2 : Int32)]) (rest := []) (W := 0) (.int v2) (sat_get l Z a0 hw a_645 r_656 (2 : Int32) v2 2 [.int v0, .int v1, .int v2, .int v3, .int (0 : Int32), .int (0 : Int32), .int (0 : Int32), .int (0 : Int32)] _ _ F_884 A_887 (by decide) rfl) E_886 (wd hw 33 rfl) (wd hw 34 rfl) (wd hw 36 rfl) (wd hw 35 rfl) (wd hw 6 rfl) (wd hw 37 rfl) (by decide) pd_5 rfl rfl rfl (by decide) (by decide) rfl rfl (by decide) (by decide) at_361 (pc' := 364) rfl rfl ?_
              refine go_aload C at_364 (pc' := 366) rfl rfl rfl ?_
              refine go_iconst C (2 : Int32) at_366 (pc' := 367) rfl (by decide) ?_
              refine go_iaload C A_888 2 (.int v2) (by decide) rfl at_367 (pc' := 368) rfl ?_
              refine go_icmp C v2.toInt v2.toInt rfl rfl at_368 (by decide) (pc' := 375) (by decide) (pcN := 371) rfl (fun (c_899 : ¬ v2.toInt = v2.toInt) => by omega) (fun (c_899 : v2.toInt = v2.toInt) => ?_)
              refine go_iconst C (1 : Int32) at_371 (pc' := 372) rfl (by decide) ?_
              refine go_goto C at_372 (by decide) (pc' := 376) (by decide) ?_
              refine go_istore C (Ls' := #[.val (.int x0), .val (.int x1), .val (.int x2), .val (.int x3), .val (.int x4), .val (.int x5), .val (.int (4 : Int32)), .val (.int v0), .val (.int v1), .val (.int v2), .val (.int v3), .val (.ref a_645), .val (.int (1 : Int32)), .val (.int (1 : Int32)), .val (.int (1 : Int32)), .val (.int (0 : Int32)), .val (.ref a_846), .val (.int (3 : Int32)), .val (.int (1 : Int32))]) at_376 (pc' := 378) rfl rfl ?_
              refine go_iload C at_378 (pc' := 380) rfl rfl ?_
              refine go_iconst C (3 : Int32) at_380 (pc' := 381) rfl (by decide) ?_
              refine go_icmp C (3 : Int) (3 : Int) (by decide) (by decide) at_381 (by decide) (pc' := 409) (by decide) (pcN := 384) rfl (fun (c_900 : ¬ (3 : Int) < (3 : Int)) => ?_) (fun (c_900 : (3 : Int) < (3 : Int)) => by omega)
              refine go_iload C at_409 (pc' := 411) rfl rfl ?_
              refine go_ireturnN C (z' := (1 : Int32)) rfl (by simp) rfl at_411 (by decide) (by decide) ?_
              exact ⟨_, rfl, rfl⟩
            · skip
              refine go_iload C at_189 (pc' := 191) rfl rfl ?_
              refine go_iload C at_191 (pc' := 193) rfl rfl ?_
              refine go_icmp C v3.toInt v2.toInt rfl rfl at_193 (by decide) (pc' := 200) (by decide) (pcN := 196) rfl (fun (c_901 : v3.toInt = v2.toInt) => ?_) (fun (c_901 : ¬ v3.toInt = v2.toInt) => by omega)
              refine go_iconst C (0 : Int32) at_200 (pc' := 201) rfl (by decide) ?_
              refine go_istore C (Ls' := #[.val (.int x0), .val (.int x1), .val (.int x2), .val (.int x3), .val (.int x4), .val (.int x5), .val (.int (4 : Int32)), .val (.int v0), .val (.int v1), .val (.int v2), .val (.int v3), .val (.ref a_645), .val (.int (1 : Int32)), .val (.int (1 : Int32)), .val (.int (1 : Int32)), .val (.int (0 : Int32)), .unset, .unset, .unset]) at_201 (pc' := 203) rfl rfl ?_
              refine go_iconst C (4 : Int32) at_203 (pc' := 204) rfl (by decide) ?_
              refine go_newarray C (wd hw 13 rfl) rfl 4 4 (by decide) (by decide) (by decide) (ce' := 3) (sl' := 14) rfl rfl (by decide) (by decide) at_204 (pc' := 206) rfl ?_
              intro h_902 a_903 g_904 E_905 A_906
              have n_907 : a_645 ≠ a_903 := own_ne_new E_776.lt g_904
              have n_908 : r_656 ≠ a_903 := own_ne_new A_779.lt g_904
              have g_909 : Z.heap.size ≤ a_903 := own_ge (Nat.le_of_lt (Nat.lt_of_le_of_lt g_650 E_776.lt)) g_904
              have F_910 := Fld.ext E_905 F_777
              have F_911 := Fld.ext E_905 F_778
              have E_912 := Exa.ext E_905 E_776
              have A_913 := Av.ext A_779 E_905
              have z_914 : Z.heap.size ≤ h_902.size := Nat.le_trans (Nat.le_of_lt (Nat.lt_of_le_of_lt g_650 E_776.lt)) E_905.1
              have A_915 : Av Z h_902 a_903 .int [.int (0 : Int32), .int (0 : Int32), .int (0 : Int32), .int (0 : Int32)] := A_906
              refine go_astore C (Ls' := #[.val (.int x0), .val (.int x1), .val (.int x2), .val (.int x3), .val (.int x4), .val (.int x5), .val (.int (4 : Int32)), .val (.int v0), .val (.int v1), .val (.int v2), .val (.int v3), .val (.ref a_645), .val (.int (1 : Int32)), .val (.int (1 : Int32)), .val (.int (1 : Int32)), .val (.int (0 : Int32)), .val (.ref a_903), .unset, .unset]) at_206 (pc' := 208) rfl rfl rfl ?_
              refine go_iconst C (0 : Int32) at_208 (pc' := 209) rfl (by decide) ?_
              refine go_istore C (Ls' := #[.val (.int x0), .val (.int x1), .val (.int x2), .val (.int x3), .val (.int x4), .val (.int x5), .val (.int (4 : Int32)), .val (.int v0), .val (.int v1), .val (.int v2), .val (.int v3), .val (.ref a_645), .val (.int (1 : Int32)), .val (.int (1 : Int32)), .val (.int (1 : Int32)), .val (.int (0 : Int32)), .val (.ref a_903), .val (.int (0 : Int32)), .unset]) at_209 (pc' := 211) rfl rfl ?_
              refine go_iload C at_211 (pc' := 213) rfl rfl ?_
              refine go_if0 C (1 : Int) (by decide) at_213 (by decide) (pc' := 226) (by decide) (pcN := 216) rfl (fun (c_916 : (1 : Int) = 0) => by omega) (fun (c_916 : ¬ (1 : Int) = 0) => ?_)
              refine go_aload C at_216 (pc' := 218) rfl rfl rfl ?_
              refine go_iload C at_218 (pc' := 220) rfl rfl ?_
              refine go_iload C at_220 (pc' := 222) rfl rfl ?_
              refine go_iastore C A_915 0 (by decide) (show 0 < 4 from by decide) g_909 at_222 (pc' := 223) rfl ?_
              intro h_917 W_918 A_919
              have z_920 : Z.heap.size ≤ h_917.size := W_918.size.symm ▸ z_914
              have F_921 := Fld.other W_918 F_910 (Or.inl n_907)
              have F_922 := Fld.other W_918 F_911 (Or.inl n_907)
              have E_923 := Exa.wr W_918 E_912
              have A_924 := Av.other A_913 W_918 n_908
              have A_925 : Av Z h_917 a_903 .int [.int v0, .int (0 : Int32), .int (0 : Int32), .int (0 : Int32)] := A_919
              refine go_iinc C (Ls' := #[.val (.int x0), .val (.int x1), .val (.int x2), .val (.int x3), .val (.int x4), .val (.int x5), .val (.int (4 : Int32)), .val (.int v0), .val (.int v1), .val (.int v2), .val (.int v3), .val (.ref a_645), .val (.int (1 : Int32)), .val (.int (1 : Int32)), .val (.int (1 : Int32)), .val (.int (0 : Int32)), .val (.ref a_903), .val (.int ((0 : Int32) + (1 : Int32))), .unset]) (1 : Int32) at_223 (pc' := 226) rfl (by decide) rfl rfl ?_
              rw [(by decide : (0 : Int32) + (1 : Int32) = (1 : Int32))]
              refine go_iload C at_226 (pc' := 228) rfl rfl ?_
              refine go_if0 C (1 : Int) (by decide) at_228 (by decide) (pc' := 241) (by decide) (pcN := 231) rfl (fun (c_926 : (1 : Int) = 0) => by omega) (fun (c_926 : ¬ (1 : Int) = 0) => ?_)
              refine go_aload C at_231 (pc' := 233) rfl rfl rfl ?_
              refine go_iload C at_233 (pc' := 235) rfl rfl ?_
              refine go_iload C at_235 (pc' := 237) rfl rfl ?_
              refine go_iastore C A_925 1 (by decide) (show 1 < 4 from by decide) g_909 at_237 (pc' := 238) rfl ?_
              intro h_927 W_928 A_929
              have z_930 : Z.heap.size ≤ h_927.size := W_928.size.symm ▸ z_920
              have F_931 := Fld.other W_928 F_921 (Or.inl n_907)
              have F_932 := Fld.other W_928 F_922 (Or.inl n_907)
              have E_933 := Exa.wr W_928 E_923
              have A_934 := Av.other A_924 W_928 n_908
              have A_935 : Av Z h_927 a_903 .int [.int v0, .int v1, .int (0 : Int32), .int (0 : Int32)] := A_929
              refine go_iinc C (Ls' := #[.val (.int x0), .val (.int x1), .val (.int x2), .val (.int x3), .val (.int x4), .val (.int x5), .val (.int (4 : Int32)), .val (.int v0), .val (.int v1), .val (.int v2), .val (.int v3), .val (.ref a_645), .val (.int (1 : Int32)), .val (.int (1 : Int32)), .val (.int (1 : Int32)), .val (.int (0 : Int32)), .val (.ref a_903), .val (.int ((1 : Int32) + (1 : Int32))), .unset]) (1 : Int32) at_238 (pc' := 241) rfl (by decide) rfl rfl ?_
              rw [(by decide : (1 : Int32) + (1 : Int32) = (2 : Int32))]
              refine go_iload C at_241 (pc' := 243) rfl rfl ?_
              refine go_if0 C (1 : Int) (by decide) at_243 (by decide) (pc' := 256) (by decide) (pcN := 246) rfl (fun (c_936 : (1 : Int) = 0) => by omega) (fun (c_936 : ¬ (1 : Int) = 0) => ?_)
              refine go_aload C at_246 (pc' := 248) rfl rfl rfl ?_
              refine go_iload C at_248 (pc' := 250) rfl rfl ?_
              refine go_iload C at_250 (pc' := 252) rfl rfl ?_
              refine go_iastore C A_935 2 (by decide) (show 2 < 4 from by decide) g_909 at_252 (pc' := 253) rfl ?_
              intro h_937 W_938 A_939
              have z_940 : Z.heap.size ≤ h_937.size := W_938.size.symm ▸ z_930
              have F_941 := Fld.other W_938 F_931 (Or.inl n_907)
              have F_942 := Fld.other W_938 F_932 (Or.inl n_907)
              have E_943 := Exa.wr W_938 E_933
              have A_944 := Av.other A_934 W_938 n_908
              have A_945 : Av Z h_937 a_903 .int [.int v0, .int v1, .int v2, .int (0 : Int32)] := A_939
              refine go_iinc C (Ls' := #[.val (.int x0), .val (.int x1), .val (.int x2), .val (.int x3), .val (.int x4), .val (.int x5), .val (.int (4 : Int32)), .val (.int v0), .val (.int v1), .val (.int v2), .val (.int v3), .val (.ref a_645), .val (.int (1 : Int32)), .val (.int (1 : Int32)), .val (.int (1 : Int32)), .val (.int (0 : Int32)), .val (.ref a_903), .val (.int ((2 : Int32) + (1 : Int32))), .unset]) (1 : Int32) at_253 (pc' := 256) rfl (by decide) rfl rfl ?_
              rw [(by decide : (2 : Int32) + (1 : Int32) = (3 : Int32))]
              refine go_iload C at_256 (pc' := 258) rfl rfl ?_
              refine go_if0 C (0 : Int) (by decide) at_258 (by decide) (pc' := 271) (by decide) (pcN := 261) rfl (fun (c_946 : (0 : Int) = 0) => ?_) (fun (c_946 : ¬ (0 : Int) = 0) => by omega)
              refine go_aload C at_271 (pc' := 273) rfl rfl rfl ?_
              refine go_virtualP C (as := []) (rest := []) (W := 0) (.int (3 : Int32)) (sat_size l Z a0 hw a_645 _ _ _ F_942) E_943 (wd hw 23 rfl) (wd hw 24 rfl) (wd hw 26 rfl) (wd hw 25 rfl) (wd hw 6 rfl) (wd hw 27 rfl) (by decide) pd_3 rfl rfl rfl (by decide) (by decide) rfl rfl (by decide) (by decide) at_273 (pc' := 276) rfl rfl ?_
              refine go_iload C at_276 (pc' := 278) rfl rfl ?_
              refine go_icmp C (3 : Int) (3 : Int) (by decide) (by decide) at_278 (by decide) (pc' := 283) (by decide) (pcN := 281) rfl (fun (c_947 : (3 : Int) = (3 : Int)) => ?_) (fun (c_947 : ¬ (3 : Int) = (3 : Int)) => by omega)
              refine go_iconst C (1 : Int32) at_283 (pc' := 284) rfl (by decide) ?_
              refine go_istore C (Ls' := #[.val (.int x0), .val (.int x1), .val (.int x2), .val (.int x3), .val (.int x4), .val (.int x5), .val (.int (4 : Int32)), .val (.int v0), .val (.int v1), .val (.int v2), .val (.int v3), .val (.ref a_645), .val (.int (1 : Int32)), .val (.int (1 : Int32)), .val (.int (1 : Int32)), .val (.int (0 : Int32)), .val (.ref a_903), .val (.int (3 : Int32)), .val (.int (1 : Int32))]) at_284 (pc' := 286) rfl rfl ?_
              refine go_iload C at_286 (pc' := 288) rfl rfl ?_
              refine go_if0 C (3 : Int) (by decide) at_288 (by decide) (pc' := 316) (by decide) (pcN := 291) rfl (fun (c_948 : ¬ 0 < (3 : Int)) => by omega) (fun (c_948 : 0 < (3 : Int)) => ?_)
              refine go_iload C at_291 (pc' := 293) rfl rfl ?_
              refine go_if0 C (1 : Int) (by decide) at_293 (by decide) (pc' := 313) (by decide) (pcN := 296) rfl (fun (c_949 : (1 : Int) = 0) => by omega) (fun (c_949 : ¬ (1 : Int) = 0) => ?_)
              refine go_aload C at_296 (pc' := 298) rfl rfl rfl ?_
              refine go_iconst C (0 : Int32) at_298 (pc' := 299) rfl (by decide) ?_
              refine go_virtualP C (as := [.int (0 : Int32)]) (rest := []) (W := 0) (.int v0) (sat_get l Z a0 hw a_645 r_656 (0 : Int32) v0 0 [.int v0, .int v1, .int v2, .int v3, .int (0 : Int32), .int (0 : Int32), .int (0 : Int32), .int (0 : Int32)] _ _ F_941 A_944 (by decide) rfl) E_943 (wd hw 33 rfl) (wd hw 34 rfl) (wd hw 36 rfl) (wd hw 35 rfl) (wd hw 6 rfl) (wd hw 37 rfl) (by decide) pd_5 rfl rfl rfl (by decide) (by decide) rfl rfl (by decide) (by decide) at_299 (pc' := 302) rfl rfl ?_
              refine go_aload C at_302 (pc' := 304) rfl rfl rfl ?_
              refine go_iconst C (0 : Int32) at_304 (pc' := 305) rfl (by decide) ?_
              refine go_iaload C A_945 0 (.int v0) (by decide) rfl at_305 (pc' := 306) rfl ?_
              refine go_icmp C v0.toInt v0.toInt rfl rfl at_306 (by decide) (pc' := 313) (by decide) (pcN := 309) rfl (fun (c_950 : ¬ v0.toInt = v0.toInt) => by omega) (fun (c_950 : v0.toInt = v0.toInt) => ?_)
              refine go_iconst C (1 : Int32) at_309 (pc' := 310) rfl (by decide) ?_
              refine go_goto C at_310 (by decide) (pc' := 314) (by decide) ?_
              refine go_istore C (Ls' := #[.val (.int x0), .val (.int x1), .val (.int x2), .val (.int x3), .val (.int x4), .val (.int x5), .val (.int (4 : Int32)), .val (.int v0), .val (.int v1), .val (.int v2), .val (.int v3), .val (.ref a_645), .val (.int (1 : Int32)), .val (.int (1 : Int32)), .val (.int (1 : Int32)), .val (.int (0 : Int32)), .val (.ref a_903), .val (.int (3 : Int32)), .val (.int (1 : Int32))]) at_314 (pc' := 316) rfl rfl ?_
              refine go_iload C at_316 (pc' := 318) rfl rfl ?_
              refine go_iconst C (1 : Int32) at_318 (pc' := 319) rfl (by decide) ?_
              refine go_icmp C (3 : Int) (1 : Int) (by decide) (by decide) at_319 (by decide) (pc' := 347) (by decide) (pcN := 322) rfl (fun (c_951 : ¬ (1 : Int) < (3 : Int)) => by omega) (fun (c_951 : (1 : Int) < (3 : Int)) => ?_)
              refine go_iload C at_322 (pc' := 324) rfl rfl ?_
              refine go_if0 C (1 : Int) (by decide) at_324 (by decide) (pc' := 344) (by decide) (pcN := 327) rfl (fun (c_952 : (1 : Int) = 0) => by omega) (fun (c_952 : ¬ (1 : Int) = 0) => ?_)
              refine go_aload C at_327 (pc' := 329) rfl rfl rfl ?_
              refine go_iconst C (1 : Int32) at_329 (pc' := 330) rfl (by decide) ?_
              refine go_virtualP C (as := [.int (1 : Int32)]) (rest := []) (W := 0) (.int v1) (sat_get l Z a0 hw a_645 r_656 (1 : Int32) v1 1 [.int v0, .int v1, .int v2, .int v3, .int (0 : Int32), .int (0 : Int32), .int (0 : Int32), .int (0 : Int32)] _ _ F_941 A_944 (by decide) rfl) E_943 (wd hw 33 rfl) (wd hw 34 rfl) (wd hw 36 rfl) (wd hw 35 rfl) (wd hw 6 rfl) (wd hw 37 rfl) (by decide) pd_5 rfl rfl rfl (by decide) (by decide) rfl rfl (by decide) (by decide) at_330 (pc' := 333) rfl rfl ?_
              refine go_aload C at_333 (pc' := 335) rfl rfl rfl ?_
              refine go_iconst C (1 : Int32) at_335 (pc' := 336) rfl (by decide) ?_
              refine go_iaload C A_945 1 (.int v1) (by decide) rfl at_336 (pc' := 337) rfl ?_
              refine go_icmp C v1.toInt v1.toInt rfl rfl at_337 (by decide) (pc' := 344) (by decide) (pcN := 340) rfl (fun (c_953 : ¬ v1.toInt = v1.toInt) => by omega) (fun (c_953 : v1.toInt = v1.toInt) => ?_)
              refine go_iconst C (1 : Int32) at_340 (pc' := 341) rfl (by decide) ?_
              refine go_goto C at_341 (by decide) (pc' := 345) (by decide) ?_
              refine go_istore C (Ls' := #[.val (.int x0), .val (.int x1), .val (.int x2), .val (.int x3), .val (.int x4), .val (.int x5), .val (.int (4 : Int32)), .val (.int v0), .val (.int v1), .val (.int v2), .val (.int v3), .val (.ref a_645), .val (.int (1 : Int32)), .val (.int (1 : Int32)), .val (.int (1 : Int32)), .val (.int (0 : Int32)), .val (.ref a_903), .val (.int (3 : Int32)), .val (.int (1 : Int32))]) at_345 (pc' := 347) rfl rfl ?_
              refine go_iload C at_347 (pc' := 349) rfl rfl ?_
              refine go_iconst C (2 : Int32) at_349 (pc' := 350) rfl (by decide) ?_
              refine go_icmp C (3 : Int) (2 : Int) (by decide) (by decide) at_350 (by decide) (pc' := 378) (by decide) (pcN := 353) rfl (fun (c_954 : ¬ (2 : Int) < (3 : Int)) => by omega) (fun (c_954 : (2 : Int) < (3 : Int)) => ?_)
              refine go_iload C at_353 (pc' := 355) rfl rfl ?_
              refine go_if0 C (1 : Int) (by decide) at_355 (by decide) (pc' := 375) (by decide) (pcN := 358) rfl (fun (c_955 : (1 : Int) = 0) => by omega) (fun (c_955 : ¬ (1 : Int) = 0) => ?_)
              refine go_aload C at_358 (pc' := 360) rfl rfl rfl ?_
              refine go_iconst C (2 : Int32) at_360 (pc' := 361) rfl (by decide) ?_
              refine go_virtualP C (as := [.int (2 : Int32)]) (rest := []) (W := 0) (.int v2) (sat_get l Z a0 hw a_645 r_656 (2 : Int32) v2 2 [.int v0, .int v1, .int v2, .int v3, .int (0 : Int32), .int (0 : Int32), .int (0 : Int32), .int (0 : Int32)] _ _ F_941 A_944 (by decide) rfl) E_943 (wd hw 33 rfl) (wd hw 34 rfl) (wd hw 36 rfl) (wd hw 35 rfl) (wd hw 6 rfl) (wd hw 37 rfl) (by decide) pd_5 rfl rfl rfl (by decide) (by decide) rfl rfl (by decide) (by decide) at_361 (pc' := 364) rfl rfl ?_
              refine go_aload C at_364 (pc' := 366) rfl rfl rfl ?_
              refine go_iconst C (2 : Int32) at_366 (pc' := 367) rfl (by decide) ?_
              refine go_iaload C A_945 2 (.int v2) (by decide) rfl at_367 (pc' := 368) rfl ?_
              refine go_icmp C v2.toInt v2.toInt rfl rfl at_368 (by decide) (pc' := 375) (by decide) (pcN := 371) rfl (fun (c_956 : ¬ v2.toInt = v2.toInt) => by omega) (fun (c_956 : v2.toInt = v2.toInt) => ?_)
              refine go_iconst C (1 : Int32) at_371 (pc' := 372) rfl (by decide) ?_
              refine go_goto C at_372 (by decide) (pc' := 376) (by decide) ?_
              refine go_istore C (Ls' := #[.val (.int x0), .val (.int x1), .val (.int x2), .val (.int x3), .val (.int x4), .val (.int x5), .val (.int (4 : Int32)), .val (.int v0), .val (.int v1), .val (.int v2), .val (.int v3), .val (.ref a_645), .val (.int (1 : Int32)), .val (.int (1 : Int32)), .val (.int (1 : Int32)), .val (.int (0 : Int32)), .val (.ref a_903), .val (.int (3 : Int32)), .val (.int (1 : Int32))]) at_376 (pc' := 378) rfl rfl ?_
              refine go_iload C at_378 (pc' := 380) rfl rfl ?_
              refine go_iconst C (3 : Int32) at_380 (pc' := 381) rfl (by decide) ?_
              refine go_icmp C (3 : Int) (3 : Int) (by decide) (by decide) at_381 (by decide) (pc' := 409) (by decide) (pcN := 384) rfl (fun (c_957 : ¬ (3 : Int) < (3 : Int)) => ?_) (fun (c_957 : (3 : Int) < (3 : Int)) => by omega)
              refine go_iload C at_409 (pc' := 411) rfl rfl ?_
              refine go_ireturnN C (z' := (1 : Int32)) rfl (by simp) rfl at_411 (by decide) (by decide) ?_
              exact ⟨_, rfl, rfl⟩
      · skip
        rcases (by omega : (¬ v3.toInt = v0.toInt ∧ ¬ v3.toInt = v1.toInt ∧ ¬ v3.toInt = v2.toInt) ∨ (v3.toInt = v0.toInt ∨ v3.toInt = v1.toInt ∨ v3.toInt = v2.toInt)) with hf3 | hf3
        · skip
          refine go_virtualN C (as := []) (rest := []) (W := 0) (sat_rd4tft l Z a0 hw a_645 r_656 v0 v1 v2 v3 _ _ hf1 hf2 hf3 E_687 F_688 F_689 A_690 g_650 g_657) E_687 (wd hw 16 rfl) (wd hw 17 rfl) (wd hw 19 rfl) (wd hw 18 rfl) (wd hw 6 rfl) (wd hw 20 rfl) (by decide) pd_2 rfl rfl rfl (by decide) (by decide) (ce' := 2) (sl' := 10) rfl rfl (by decide) (by decide) at_107 (pc' := 110) rfl rfl ?_
          intro h_958 q_959
          obtain ⟨E_960, F_961, F_962, A_963⟩ := q_959
          refine go_iload C at_110 (pc' := 112) rfl rfl ?_
          refine go_if0 C (4 : Int) (by decide) at_112 (by decide) (pc' := 119) (by decide) (pcN := 115) rfl (fun (c_964 : ¬ 0 < (4 : Int)) => by omega) (fun (c_964 : 0 < (4 : Int)) => ?_)
          refine go_iconst C (1 : Int32) at_115 (pc' := 116) rfl (by decide) ?_
          refine go_goto C at_116 (by decide) (pc' := 120) (by decide) ?_
          refine go_istore C (Ls' := #[.val (.int x0), .val (.int x1), .val (.int x2), .val (.int x3), .val (.int x4), .val (.int x5), .val (.int (4 : Int32)), .val (.int v0), .val (.int v1), .val (.int v2), .val (.int v3), .val (.ref a_645), .val (.int (1 : Int32)), .unset, .unset, .unset, .unset, .unset, .unset]) at_120 (pc' := 122) rfl rfl ?_
          refine go_iload C at_122 (pc' := 124) rfl rfl ?_
          refine go_iconst C (1 : Int32) at_124 (pc' := 125) rfl (by decide) ?_
          refine go_icmp C (4 : Int) (1 : Int) (by decide) (by decide) at_125 (by decide) (pc' := 139) (by decide) (pcN := 128) rfl (fun (c_965 : ¬ (1 : Int) < (4 : Int)) => by omega) (fun (c_965 : (1 : Int) < (4 : Int)) => ?_)
          refine go_iload C at_128 (pc' := 130) rfl rfl ?_
          refine go_iload C at_130 (pc' := 132) rfl rfl ?_
          refine go_icmp C v1.toInt v0.toInt rfl rfl at_132 (by decide) (pc' := 139) (by decide) (pcN := 135) rfl (fun (c_966 : v1.toInt = v0.toInt) => by omega) (fun (c_966 : ¬ v1.toInt = v0.toInt) => ?_)
          refine go_iconst C (1 : Int32) at_135 (pc' := 136) rfl (by decide) ?_
          refine go_goto C at_136 (by decide) (pc' := 140) (by decide) ?_
          refine go_istore C (Ls' := #[.val (.int x0), .val (.int x1), .val (.int x2), .val (.int x3), .val (.int x4), .val (.int x5), .val (.int (4 : Int32)), .val (.int v0), .val (.int v1), .val (.int v2), .val (.int v3), .val (.ref a_645), .val (.int (1 : Int32)), .val (.int (1 : Int32)), .unset, .unset, .unset, .unset, .unset]) at_140 (pc' := 142) rfl rfl ?_
          refine go_iload C at_142 (pc' := 144) rfl rfl ?_
          refine go_iconst C (2 : Int32) at_144 (pc' := 145) rfl (by decide) ?_
          refine go_icmp C (4 : Int) (2 : Int) (by decide) (by decide) at_145 (by decide) (pc' := 166) (by decide) (pcN := 148) rfl (fun (c_967 : ¬ (2 : Int) < (4 : Int)) => by omega) (fun (c_967 : (2 : Int) < (4 : Int)) => ?_)
          refine go_iload C at_148 (pc' := 150) rfl rfl ?_
          refine go_iload C at_150 (pc' := 152) rfl rfl ?_
          refine go_icmp C v2.toInt v0.toInt rfl rfl at_152 (by decide) (pc' := 166) (by decide) (pcN := 155) rfl (fun (c_968 : v2.toInt = v0.toInt) => ?_) (fun (c_968 : ¬ v2.toInt = v0.toInt) => ?_)
          · skip
            refine go_iconst C (0 : Int32) at_166 (pc' := 167) rfl (by decide) ?_
            refine go_istore C (Ls' := #[.val (.int x0), .val (.int x1), .val (.int x2), .val (.int x3), .val (.int x4), .val (.int x5), .val (.int (4 : Int32)), .val (.int v0), .val (.int v1), .val (.int v2), .val (.int v3), .val (.ref a_645), .val (.int (1 : Int32)), .val (.int (1 : Int32)), .val (.int (0 : Int32)), .unset, .unset, .unset, .unset]) at_167 (pc' := 169) rfl rfl ?_
            refine go_iload C at_169 (pc' := 171) rfl rfl ?_
            refine go_iconst C (3 : Int32) at_171 (pc' := 172) rfl (by decide) ?_
            refine go_icmp C (4 : Int) (3 : Int) (by decide) (by decide) at_172 (by decide) (pc' := 200) (by decide) (pcN := 175) rfl (fun (c_969 : ¬ (3 : Int) < (4 : Int)) => by omega) (fun (c_969 : (3 : Int) < (4 : Int)) => ?_)
            refine go_iload C at_175 (pc' := 177) rfl rfl ?_
            refine go_iload C at_177 (pc' := 179) rfl rfl ?_
            refine go_icmp C v3.toInt v0.toInt rfl rfl at_179 (by decide) (pc' := 200) (by decide) (pcN := 182) rfl (fun (c_970 : v3.toInt = v0.toInt) => by omega) (fun (c_970 : ¬ v3.toInt = v0.toInt) => ?_)
            refine go_iload C at_182 (pc' := 184) rfl rfl ?_
            refine go_iload C at_184 (pc' := 186) rfl rfl ?_
            refine go_icmp C v3.toInt v1.toInt rfl rfl at_186 (by decide) (pc' := 200) (by decide) (pcN := 189) rfl (fun (c_971 : v3.toInt = v1.toInt) => by omega) (fun (c_971 : ¬ v3.toInt = v1.toInt) => ?_)
            refine go_iload C at_189 (pc' := 191) rfl rfl ?_
            refine go_iload C at_191 (pc' := 193) rfl rfl ?_
            refine go_icmp C v3.toInt v2.toInt rfl rfl at_193 (by decide) (pc' := 200) (by decide) (pcN := 196) rfl (fun (c_972 : v3.toInt = v2.toInt) => by omega) (fun (c_972 : ¬ v3.toInt = v2.toInt) => ?_)
            refine go_iconst C (1 : Int32) at_196 (pc' := 197) rfl (by decide) ?_
            refine go_goto C at_197 (by decide) (pc' := 201) (by decide) ?_
            refine go_istore C (Ls' := #[.val (.int x0), .val (.int x1), .val (.int x2), .val (.int x3), .val (.int x4), .val (.int x5), .val (.int (4 : Int32)), .val (.int v0), .val (.int v1), .val (.int v2), .val (.int v3), .val (.ref a_645), .val (.int (1 : Int32)), .val (.int (1 : Int32)), .val (.int (0 : Int32)), .val (.int (1 : Int32)), .unset, .unset, .unset]) at_201 (pc' := 203) rfl rfl ?_
            refine go_iconst C (4 : Int32) at_203 (pc' := 204) rfl (by decide) ?_
            refine go_newarray C (wd hw 13 rfl) rfl 4 4 (by decide) (by decide) (by decide) (ce' := 3) (sl' := 14) rfl rfl (by decide) (by decide) at_204 (pc' := 206) rfl ?_
            intro h_973 a_974 g_975 E_976 A_977
            have n_978 : a_645 ≠ a_974 := own_ne_new E_960.lt g_975
            have n_979 : r_656 ≠ a_974 := own_ne_new A_963.lt g_975
            have g_980 : Z.heap.size ≤ a_974 := own_ge (Nat.le_of_lt (Nat.lt_of_le_of_lt g_650 E_960.lt)) g_975
            have F_981 := Fld.ext E_976 F_961
            have F_982 := Fld.ext E_976 F_962
            have E_983 := Exa.ext E_976 E_960
            have A_984 := Av.ext A_963 E_976
            have z_985 : Z.heap.size ≤ h_973.size := Nat.le_trans (Nat.le_of_lt (Nat.lt_of_le_of_lt g_650 E_960.lt)) E_976.1
            have A_986 : Av Z h_973 a_974 .int [.int (0 : Int32), .int (0 : Int32), .int (0 : Int32), .int (0 : Int32)] := A_977
            refine go_astore C (Ls' := #[.val (.int x0), .val (.int x1), .val (.int x2), .val (.int x3), .val (.int x4), .val (.int x5), .val (.int (4 : Int32)), .val (.int v0), .val (.int v1), .val (.int v2), .val (.int v3), .val (.ref a_645), .val (.int (1 : Int32)), .val (.int (1 : Int32)), .val (.int (0 : Int32)), .val (.int (1 : Int32)), .val (.ref a_974), .unset, .unset]) at_206 (pc' := 208) rfl rfl rfl ?_
            refine go_iconst C (0 : Int32) at_208 (pc' := 209) rfl (by decide) ?_
            refine go_istore C (Ls' := #[.val (.int x0), .val (.int x1), .val (.int x2), .val (.int x3), .val (.int x4), .val (.int x5), .val (.int (4 : Int32)), .val (.int v0), .val (.int v1), .val (.int v2), .val (.int v3), .val (.ref a_645), .val (.int (1 : Int32)), .val (.int (1 : Int32)), .val (.int (0 : Int32)), .val (.int (1 : Int32)), .val (.ref a_974), .val (.int (0 : Int32)), .unset]) at_209 (pc' := 211) rfl rfl ?_
            refine go_iload C at_211 (pc' := 213) rfl rfl ?_
            refine go_if0 C (1 : Int) (by decide) at_213 (by decide) (pc' := 226) (by decide) (pcN := 216) rfl (fun (c_987 : (1 : Int) = 0) => by omega) (fun (c_987 : ¬ (1 : Int) = 0) => ?_)
            refine go_aload C at_216 (pc' := 218) rfl rfl rfl ?_
            refine go_iload C at_218 (pc' := 220) rfl rfl ?_
            refine go_iload C at_220 (pc' := 222) rfl rfl ?_
            refine go_iastore C A_986 0 (by decide) (show 0 < 4 from by decide) g_980 at_222 (pc' := 223) rfl ?_
            intro h_988 W_989 A_990
            have z_991 : Z.heap.size ≤ h_988.size := W_989.size.symm ▸ z_985
            have F_992 := Fld.other W_989 F_981 (Or.inl n_978)
            have F_993 := Fld.other W_989 F_982 (Or.inl n_978)
            have E_994 := Exa.wr W_989 E_983
            have A_995 := Av.other A_984 W_989 n_979
            have A_996 : Av Z h_988 a_974 .int [.int v0, .int (0 : Int32), .int (0 : Int32), .int (0 : Int32)] := A_990
            refine go_iinc C (Ls' := #[.val (.int x0), .val (.int x1), .val (.int x2), .val (.int x3), .val (.int x4), .val (.int x5), .val (.int (4 : Int32)), .val (.int v0), .val (.int v1), .val (.int v2), .val (.int v3), .val (.ref a_645), .val (.int (1 : Int32)), .val (.int (1 : Int32)), .val (.int (0 : Int32)), .val (.int (1 : Int32)), .val (.ref a_974), .val (.int ((0 : Int32) + (1 : Int32))), .unset]) (1 : Int32) at_223 (pc' := 226) rfl (by decide) rfl rfl ?_
            rw [(by decide : (0 : Int32) + (1 : Int32) = (1 : Int32))]
            refine go_iload C at_226 (pc' := 228) rfl rfl ?_
            refine go_if0 C (1 : Int) (by decide) at_228 (by decide) (pc' := 241) (by decide) (pcN := 231) rfl (fun (c_997 : (1 : Int) = 0) => by omega) (fun (c_997 : ¬ (1 : Int) = 0) => ?_)
            refine go_aload C at_231 (pc' := 233) rfl rfl rfl ?_
            refine go_iload C at_233 (pc' := 235) rfl rfl ?_
            refine go_iload C at_235 (pc' := 237) rfl rfl ?_
            refine go_iastore C A_996 1 (by decide) (show 1 < 4 from by decide) g_980 at_237 (pc' := 238) rfl ?_
            intro h_998 W_999 A_1000
            have z_1001 : Z.heap.size ≤ h_998.size := W_999.size.symm ▸ z_991
            have F_1002 := Fld.other W_999 F_992 (Or.inl n_978)
            have F_1003 := Fld.other W_999 F_993 (Or.inl n_978)
            have E_1004 := Exa.wr W_999 E_994
            have A_1005 := Av.other A_995 W_999 n_979
            have A_1006 : Av Z h_998 a_974 .int [.int v0, .int v1, .int (0 : Int32), .int (0 : Int32)] := A_1000
            refine go_iinc C (Ls' := #[.val (.int x0), .val (.int x1), .val (.int x2), .val (.int x3), .val (.int x4), .val (.int x5), .val (.int (4 : Int32)), .val (.int v0), .val (.int v1), .val (.int v2), .val (.int v3), .val (.ref a_645), .val (.int (1 : Int32)), .val (.int (1 : Int32)), .val (.int (0 : Int32)), .val (.int (1 : Int32)), .val (.ref a_974), .val (.int ((1 : Int32) + (1 : Int32))), .unset]) (1 : Int32) at_238 (pc' := 241) rfl (by decide) rfl rfl ?_
            rw [(by decide : (1 : Int32) + (1 : Int32) = (2 : Int32))]
            refine go_iload C at_241 (pc' := 243) rfl rfl ?_
            refine go_if0 C (0 : Int) (by decide) at_243 (by decide) (pc' := 256) (by decide) (pcN := 246) rfl (fun (c_1007 : (0 : Int) = 0) => ?_) (fun (c_1007 : ¬ (0 : Int) = 0) => by omega)
            refine go_iload C at_256 (pc' := 258) rfl rfl ?_
            refine go_if0 C (1 : Int) (by decide) at_258 (by decide) (pc' := 271) (by decide) (pcN := 261) rfl (fun (c_1008 : (1 : Int) = 0) => by omega) (fun (c_1008 : ¬ (1 : Int) = 0) => ?_)
            refine go_aload C at_261 (pc' := 263) rfl rfl rfl ?_
            refine go_iload C at_263 (pc' := 265) rfl rfl ?_
            refine go_iload C at_265 (pc' := 267) rfl rfl ?_
            refine go_iastore C A_1006 2 (by decide) (show 2 < 4 from by decide) g_980 at_267 (pc' := 268) rfl ?_
            intro h_1009 W_1010 A_1011
            have z_1012 : Z.heap.size ≤ h_1009.size := W_1010.size.symm ▸ z_1001
            have F_1013 := Fld.other W_1010 F_1002 (Or.inl n_978)
            have F_1014 := Fld.other W_1010 F_1003 (Or.inl n_978)
            have E_1015 := Exa.wr W_1010 E_1004
            have A_1016 := Av.other A_1005 W_1010 n_979
            have A_1017 : Av Z h_1009 a_974 .int [.int v0, .int v1, .int v3, .int (0 : Int32)] := A_1011
            refine go_iinc C (Ls' := #[.val (.int x0), .val (.int x1), .val (.int x2), .val (.int x3), .val (.int x4), .val (.int x5), .val (.int (4 : Int32)), .val (.int v0), .val (.int v1), .val (.int v2), .val (.int v3), .val (.ref a_645), .val (.int (1 : Int32)), .val (.int (1 : Int32)), .val (.int (0 : Int32)), .val (.int (1 : Int32)), .val (.ref a_974), .val (.int ((2 : Int32) + (1 : Int32))), .unset]) (1 : Int32) at_268 (pc' := 271) rfl (by decide) rfl rfl ?_
            rw [(by decide : (2 : Int32) + (1 : Int32) = (3 : Int32))]
            refine go_aload C at_271 (pc' := 273) rfl rfl rfl ?_
            refine go_virtualP C (as := []) (rest := []) (W := 0) (.int (3 : Int32)) (sat_size l Z a0 hw a_645 _ _ _ F_1014) E_1015 (wd hw 23 rfl) (wd hw 24 rfl) (wd hw 26 rfl) (wd hw 25 rfl) (wd hw 6 rfl) (wd hw 27 rfl) (by decide) pd_3 rfl rfl rfl (by decide) (by decide) rfl rfl (by decide) (by decide) at_273 (pc' := 276) rfl rfl ?_
            refine go_iload C at_276 (pc' := 278) rfl rfl ?_
            refine go_icmp C (3 : Int) (3 : Int) (by decide) (by decide) at_278 (by decide) (pc' := 283) (by decide) (pcN := 281) rfl (fun (c_1018 : (3 : Int) = (3 : Int)) => ?_) (fun (c_1018 : ¬ (3 : Int) = (3 : Int)) => by omega)
            refine go_iconst C (1 : Int32) at_283 (pc' := 284) rfl (by decide) ?_
            refine go_istore C (Ls' := #[.val (.int x0), .val (.int x1), .val (.int x2), .val (.int x3), .val (.int x4), .val (.int x5), .val (.int (4 : Int32)), .val (.int v0), .val (.int v1), .val (.int v2), .val (.int v3), .val (.ref a_645), .val (.int (1 : Int32)), .val (.int (1 : Int32)), .val (.int (0 : Int32)), .val (.int (1 : Int32)), .val (.ref a_974), .val (.int (3 : Int32)), .val (.int (1 : Int32))]) at_284 (pc' := 286) rfl rfl ?_
            refine go_iload C at_286 (pc' := 288) rfl rfl ?_
            refine go_if0 C (3 : Int) (by decide) at_288 (by decide) (pc' := 316) (by decide) (pcN := 291) rfl (fun (c_1019 : ¬ 0 < (3 : Int)) => by omega) (fun (c_1019 : 0 < (3 : Int)) => ?_)
            refine go_iload C at_291 (pc' := 293) rfl rfl ?_
            refine go_if0 C (1 : Int) (by decide) at_293 (by decide) (pc' := 313) (by decide) (pcN := 296) rfl (fun (c_1020 : (1 : Int) = 0) => by omega) (fun (c_1020 : ¬ (1 : Int) = 0) => ?_)
            refine go_aload C at_296 (pc' := 298) rfl rfl rfl ?_
            refine go_iconst C (0 : Int32) at_298 (pc' := 299) rfl (by decide) ?_
            refine go_virtualP C (as := [.int (0 : Int32)]) (rest := []) (W := 0) (.int v0) (sat_get l Z a0 hw a_645 r_656 (0 : Int32) v0 0 [.int v0, .int v1, .int v3, .int v3, .int (0 : Int32), .int (0 : Int32), .int (0 : Int32), .int (0 : Int32)] _ _ F_1013 A_1016 (by decide) rfl) E_1015 (wd hw 33 rfl) (wd hw 34 rfl) (wd hw 36 rfl) (wd hw 35 rfl) (wd hw 6 rfl) (wd hw 37 rfl) (by decide) pd_5 rfl rfl rfl (by decide) (by decide) rfl rfl (by decide) (by decide) at_299 (pc' := 302) rfl rfl ?_
            refine go_aload C at_302 (pc' := 304) rfl rfl rfl ?_
            refine go_iconst C (0 : Int32) at_304 (pc' := 305) rfl (by decide) ?_
            refine go_iaload C A_1017 0 (.int v0) (by decide) rfl at_305 (pc' := 306) rfl ?_
            refine go_icmp C v0.toInt v0.toInt rfl rfl at_306 (by decide) (pc' := 313) (by decide) (pcN := 309) rfl (fun (c_1021 : ¬ v0.toInt = v0.toInt) => by omega) (fun (c_1021 : v0.toInt = v0.toInt) => ?_)
            refine go_iconst C (1 : Int32) at_309 (pc' := 310) rfl (by decide) ?_
            refine go_goto C at_310 (by decide) (pc' := 314) (by decide) ?_
            refine go_istore C (Ls' := #[.val (.int x0), .val (.int x1), .val (.int x2), .val (.int x3), .val (.int x4), .val (.int x5), .val (.int (4 : Int32)), .val (.int v0), .val (.int v1), .val (.int v2), .val (.int v3), .val (.ref a_645), .val (.int (1 : Int32)), .val (.int (1 : Int32)), .val (.int (0 : Int32)), .val (.int (1 : Int32)), .val (.ref a_974), .val (.int (3 : Int32)), .val (.int (1 : Int32))]) at_314 (pc' := 316) rfl rfl ?_
            refine go_iload C at_316 (pc' := 318) rfl rfl ?_
            refine go_iconst C (1 : Int32) at_318 (pc' := 319) rfl (by decide) ?_
            refine go_icmp C (3 : Int) (1 : Int) (by decide) (by decide) at_319 (by decide) (pc' := 347) (by decide) (pcN := 322) rfl (fun (c_1022 : ¬ (1 : Int) < (3 : Int)) => by omega) (fun (c_1022 : (1 : Int) < (3 : Int)) => ?_)
            refine go_iload C at_322 (pc' := 324) rfl rfl ?_
            refine go_if0 C (1 : Int) (by decide) at_324 (by decide) (pc' := 344) (by decide) (pcN := 327) rfl (fun (c_1023 : (1 : Int) = 0) => by omega) (fun (c_1023 : ¬ (1 : Int) = 0) => ?_)
            refine go_aload C at_327 (pc' := 329) rfl rfl rfl ?_
            refine go_iconst C (1 : Int32) at_329 (pc' := 330) rfl (by decide) ?_
            refine go_virtualP C (as := [.int (1 : Int32)]) (rest := []) (W := 0) (.int v1) (sat_get l Z a0 hw a_645 r_656 (1 : Int32) v1 1 [.int v0, .int v1, .int v3, .int v3, .int (0 : Int32), .int (0 : Int32), .int (0 : Int32), .int (0 : Int32)] _ _ F_1013 A_1016 (by decide) rfl) E_1015 (wd hw 33 rfl) (wd hw 34 rfl) (wd hw 36 rfl) (wd hw 35 rfl) (wd hw 6 rfl) (wd hw 37 rfl) (by decide) pd_5 rfl rfl rfl (by decide) (by decide) rfl rfl (by decide) (by decide) at_330 (pc' := 333) rfl rfl ?_
            refine go_aload C at_333 (pc' := 335) rfl rfl rfl ?_
            refine go_iconst C (1 : Int32) at_335 (pc' := 336) rfl (by decide) ?_
            refine go_iaload C A_1017 1 (.int v1) (by decide) rfl at_336 (pc' := 337) rfl ?_
            refine go_icmp C v1.toInt v1.toInt rfl rfl at_337 (by decide) (pc' := 344) (by decide) (pcN := 340) rfl (fun (c_1024 : ¬ v1.toInt = v1.toInt) => by omega) (fun (c_1024 : v1.toInt = v1.toInt) => ?_)
            refine go_iconst C (1 : Int32) at_340 (pc' := 341) rfl (by decide) ?_
            refine go_goto C at_341 (by decide) (pc' := 345) (by decide) ?_
            refine go_istore C (Ls' := #[.val (.int x0), .val (.int x1), .val (.int x2), .val (.int x3), .val (.int x4), .val (.int x5), .val (.int (4 : Int32)), .val (.int v0), .val (.int v1), .val (.int v2), .val (.int v3), .val (.ref a_645), .val (.int (1 : Int32)), .val (.int (1 : Int32)), .val (.int (0 : Int32)), .val (.int (1 : Int32)), .val (.ref a_974), .val (.int (3 : Int32)), .val (.int (1 : Int32))]) at_345 (pc' := 347) rfl rfl ?_
            refine go_iload C at_347 (pc' := 349) rfl rfl ?_
            refine go_iconst C (2 : Int32) at_349 (pc' := 350) rfl (by decide) ?_
            refine go_icmp C (3 : Int) (2 : Int) (by decide) (by decide) at_350 (by decide) (pc' := 378) (by decide) (pcN := 353) rfl (fun (c_1025 : ¬ (2 : Int) < (3 : Int)) => by omega) (fun (c_1025 : (2 : Int) < (3 : Int)) => ?_)
            refine go_iload C at_353 (pc' := 355) rfl rfl ?_
            refine go_if0 C (1 : Int) (by decide) at_355 (by decide) (pc' := 375) (by decide) (pcN := 358) rfl (fun (c_1026 : (1 : Int) = 0) => by omega) (fun (c_1026 : ¬ (1 : Int) = 0) => ?_)
            refine go_aload C at_358 (pc' := 360) rfl rfl rfl ?_
            refine go_iconst C (2 : Int32) at_360 (pc' := 361) rfl (by decide) ?_
            refine go_virtualP C (as := [.int (2 : Int32)]) (rest := []) (W := 0) (.int v3) (sat_get l Z a0 hw a_645 r_656 (2 : Int32) v3 2 [.int v0, .int v1, .int v3, .int v3, .int (0 : Int32), .int (0 : Int32), .int (0 : Int32), .int (0 : Int32)] _ _ F_1013 A_1016 (by decide) rfl) E_1015 (wd hw 33 rfl) (wd hw 34 rfl) (wd hw 36 rfl) (wd hw 35 rfl) (wd hw 6 rfl) (wd hw 37 rfl) (by decide) pd_5 rfl rfl rfl (by decide) (by decide) rfl rfl (by decide) (by decide) at_361 (pc' := 364) rfl rfl ?_
            refine go_aload C at_364 (pc' := 366) rfl rfl rfl ?_
            refine go_iconst C (2 : Int32) at_366 (pc' := 367) rfl (by decide) ?_
            refine go_iaload C A_1017 2 (.int v3) (by decide) rfl at_367 (pc' := 368) rfl ?_
            refine go_icmp C v3.toInt v3.toInt rfl rfl at_368 (by decide) (pc' := 375) (by decide) (pcN := 371) rfl (fun (c_1027 : ¬ v3.toInt = v3.toInt) => by omega) (fun (c_1027 : v3.toInt = v3.toInt) => ?_)
            refine go_iconst C (1 : Int32) at_371 (pc' := 372) rfl (by decide) ?_
            refine go_goto C at_372 (by decide) (pc' := 376) (by decide) ?_
            refine go_istore C (Ls' := #[.val (.int x0), .val (.int x1), .val (.int x2), .val (.int x3), .val (.int x4), .val (.int x5), .val (.int (4 : Int32)), .val (.int v0), .val (.int v1), .val (.int v2), .val (.int v3), .val (.ref a_645), .val (.int (1 : Int32)), .val (.int (1 : Int32)), .val (.int (0 : Int32)), .val (.int (1 : Int32)), .val (.ref a_974), .val (.int (3 : Int32)), .val (.int (1 : Int32))]) at_376 (pc' := 378) rfl rfl ?_
            refine go_iload C at_378 (pc' := 380) rfl rfl ?_
            refine go_iconst C (3 : Int32) at_380 (pc' := 381) rfl (by decide) ?_
            refine go_icmp C (3 : Int) (3 : Int) (by decide) (by decide) at_381 (by decide) (pc' := 409) (by decide) (pcN := 384) rfl (fun (c_1028 : ¬ (3 : Int) < (3 : Int)) => ?_) (fun (c_1028 : (3 : Int) < (3 : Int)) => by omega)
            refine go_iload C at_409 (pc' := 411) rfl rfl ?_
            refine go_ireturnN C (z' := (1 : Int32)) rfl (by simp) rfl at_411 (by decide) (by decide) ?_
            exact ⟨_, rfl, rfl⟩
          · skip
            refine go_iload C at_155 (pc' := 157) rfl rfl ?_
            refine go_iload C at_157 (pc' := 159) rfl rfl ?_
            refine go_icmp C v2.toInt v1.toInt rfl rfl at_159 (by decide) (pc' := 166) (by decide) (pcN := 162) rfl (fun (c_1029 : v2.toInt = v1.toInt) => ?_) (fun (c_1029 : ¬ v2.toInt = v1.toInt) => by omega)
            refine go_iconst C (0 : Int32) at_166 (pc' := 167) rfl (by decide) ?_
            refine go_istore C (Ls' := #[.val (.int x0), .val (.int x1), .val (.int x2), .val (.int x3), .val (.int x4), .val (.int x5), .val (.int (4 : Int32)), .val (.int v0), .val (.int v1), .val (.int v2), .val (.int v3), .val (.ref a_645), .val (.int (1 : Int32)), .val (.int (1 : Int32)), .val (.int (0 : Int32)), .unset, .unset, .unset, .unset]) at_167 (pc' := 169) rfl rfl ?_
            refine go_iload C at_169 (pc' := 171) rfl rfl ?_
            refine go_iconst C (3 : Int32) at_171 (pc' := 172) rfl (by decide) ?_
            refine go_icmp C (4 : Int) (3 : Int) (by decide) (by decide) at_172 (by decide) (pc' := 200) (by decide) (pcN := 175) rfl (fun (c_1030 : ¬ (3 : Int) < (4 : Int)) => by omega) (fun (c_1030 : (3 : Int) < (4 : Int)) => ?_)
            refine go_iload C at_175 (pc' := 177) rfl rfl ?_
            refine go_iload C at_177 (pc' := 179) rfl rfl ?_
            refine go_icmp C v3.toInt v0.toInt rfl rfl at_179 (by decide) (pc' := 200) (by decide) (pcN := 182) rfl (fun (c_1031 : v3.toInt = v0.toInt) => by omega) (fun (c_1031 : ¬ v3.toInt = v0.toInt) => ?_)
            refine go_iload C at_182 (pc' := 184) rfl rfl ?_
            refine go_iload C at_184 (pc' := 186) rfl rfl ?_
            refine go_icmp C v3.toInt v1.toInt rfl rfl at_186 (by decide) (pc' := 200) (by decide) (pcN := 189) rfl (fun (c_1032 : v3.toInt = v1.toInt) => by omega) (fun (c_1032 : ¬ v3.toInt = v1.toInt) => ?_)
            refine go_iload C at_189 (pc' := 191) rfl rfl ?_
            refine go_iload C at_191 (pc' := 193) rfl rfl ?_
            refine go_icmp C v3.toInt v2.toInt rfl rfl at_193 (by decide) (pc' := 200) (by decide) (pcN := 196) rfl (fun (c_1033 : v3.toInt = v2.toInt) => by omega) (fun (c_1033 : ¬ v3.toInt = v2.toInt) => ?_)
            refine go_iconst C (1 : Int32) at_196 (pc' := 197) rfl (by decide) ?_
            refine go_goto C at_197 (by decide) (pc' := 201) (by decide) ?_
            refine go_istore C (Ls' := #[.val (.int x0), .val (.int x1), .val (.int x2), .val (.int x3), .val (.int x4), .val (.int x5), .val (.int (4 : Int32)), .val (.int v0), .val (.int v1), .val (.int v2), .val (.int v3), .val (.ref a_645), .val (.int (1 : Int32)), .val (.int (1 : Int32)), .val (.int (0 : Int32)), .val (.int (1 : Int32)), .unset, .unset, .unset]) at_201 (pc' := 203) rfl rfl ?_
            refine go_iconst C (4 : Int32) at_203 (pc' := 204) rfl (by decide) ?_
            refine go_newarray C (wd hw 13 rfl) rfl 4 4 (by decide) (by decide) (by decide) (ce' := 3) (sl' := 14) rfl rfl (by decide) (by decide) at_204 (pc' := 206) rfl ?_
            intro h_1034 a_1035 g_1036 E_1037 A_1038
            have n_1039 : a_645 ≠ a_1035 := own_ne_new E_960.lt g_1036
            have n_1040 : r_656 ≠ a_1035 := own_ne_new A_963.lt g_1036
            have g_1041 : Z.heap.size ≤ a_1035 := own_ge (Nat.le_of_lt (Nat.lt_of_le_of_lt g_650 E_960.lt)) g_1036
            have F_1042 := Fld.ext E_1037 F_961
            have F_1043 := Fld.ext E_1037 F_962
            have E_1044 := Exa.ext E_1037 E_960
            have A_1045 := Av.ext A_963 E_1037
            have z_1046 : Z.heap.size ≤ h_1034.size := Nat.le_trans (Nat.le_of_lt (Nat.lt_of_le_of_lt g_650 E_960.lt)) E_1037.1
            have A_1047 : Av Z h_1034 a_1035 .int [.int (0 : Int32), .int (0 : Int32), .int (0 : Int32), .int (0 : Int32)] := A_1038
            refine go_astore C (Ls' := #[.val (.int x0), .val (.int x1), .val (.int x2), .val (.int x3), .val (.int x4), .val (.int x5), .val (.int (4 : Int32)), .val (.int v0), .val (.int v1), .val (.int v2), .val (.int v3), .val (.ref a_645), .val (.int (1 : Int32)), .val (.int (1 : Int32)), .val (.int (0 : Int32)), .val (.int (1 : Int32)), .val (.ref a_1035), .unset, .unset]) at_206 (pc' := 208) rfl rfl rfl ?_
            refine go_iconst C (0 : Int32) at_208 (pc' := 209) rfl (by decide) ?_
            refine go_istore C (Ls' := #[.val (.int x0), .val (.int x1), .val (.int x2), .val (.int x3), .val (.int x4), .val (.int x5), .val (.int (4 : Int32)), .val (.int v0), .val (.int v1), .val (.int v2), .val (.int v3), .val (.ref a_645), .val (.int (1 : Int32)), .val (.int (1 : Int32)), .val (.int (0 : Int32)), .val (.int (1 : Int32)), .val (.ref a_1035), .val (.int (0 : Int32)), .unset]) at_209 (pc' := 211) rfl rfl ?_
            refine go_iload C at_211 (pc' := 213) rfl rfl ?_
            refine go_if0 C (1 : Int) (by decide) at_213 (by decide) (pc' := 226) (by decide) (pcN := 216) rfl (fun (c_1048 : (1 : Int) = 0) => by omega) (fun (c_1048 : ¬ (1 : Int) = 0) => ?_)
            refine go_aload C at_216 (pc' := 218) rfl rfl rfl ?_
            refine go_iload C at_218 (pc' := 220) rfl rfl ?_
            refine go_iload C at_220 (pc' := 222) rfl rfl ?_
            refine go_iastore C A_1047 0 (by decide) (show 0 < 4 from by decide) g_1041 at_222 (pc' := 223) rfl ?_
            intro h_1049 W_1050 A_1051
            have z_1052 : Z.heap.size ≤ h_1049.size := W_1050.size.symm ▸ z_1046
            have F_1053 := Fld.other W_1050 F_1042 (Or.inl n_1039)
            have F_1054 := Fld.other W_1050 F_1043 (Or.inl n_1039)
            have E_1055 := Exa.wr W_1050 E_1044
            have A_1056 := Av.other A_1045 W_1050 n_1040
            have A_1057 : Av Z h_1049 a_1035 .int [.int v0, .int (0 : Int32), .int (0 : Int32), .int (0 : Int32)] := A_1051
            refine go_iinc C (Ls' := #[.val (.int x0), .val (.int x1), .val (.int x2), .val (.int x3), .val (.int x4), .val (.int x5), .val (.int (4 : Int32)), .val (.int v0), .val (.int v1), .val (.int v2), .val (.int v3), .val (.ref a_645), .val (.int (1 : Int32)), .val (.int (1 : Int32)), .val (.int (0 : Int32)), .val (.int (1 : Int32)), .val (.ref a_1035), .val (.int ((0 : Int32) + (1 : Int32))), .unset]) (1 : Int32) at_223 (pc' := 226) rfl (by decide) rfl rfl ?_
            rw [(by decide : (0 : Int32) + (1 : Int32) = (1 : Int32))]
            refine go_iload C at_226 (pc' := 228) rfl rfl ?_
            refine go_if0 C (1 : Int) (by decide) at_228 (by decide) (pc' := 241) (by decide) (pcN := 231) rfl (fun (c_1058 : (1 : Int) = 0) => by omega) (fun (c_1058 : ¬ (1 : Int) = 0) => ?_)
            refine go_aload C at_231 (pc' := 233) rfl rfl rfl ?_
            refine go_iload C at_233 (pc' := 235) rfl rfl ?_
            refine go_iload C at_235 (pc' := 237) rfl rfl ?_
            refine go_iastore C A_1057 1 (by decide) (show 1 < 4 from by decide) g_1041 at_237 (pc' := 238) rfl ?_
            intro h_1059 W_1060 A_1061
            have z_1062 : Z.heap.size ≤ h_1059.size := W_1060.size.symm ▸ z_1052
            have F_1063 := Fld.other W_1060 F_1053 (Or.inl n_1039)
            have F_1064 := Fld.other W_1060 F_1054 (Or.inl n_1039)
            have E_1065 := Exa.wr W_1060 E_1055
            have A_1066 := Av.other A_1056 W_1060 n_1040
            have A_1067 : Av Z h_1059 a_1035 .int [.int v0, .int v1, .int (0 : Int32), .int (0 : Int32)] := A_1061
            refine go_iinc C (Ls' := #[.val (.int x0), .val (.int x1), .val (.int x2), .val (.int x3), .val (.int x4), .val (.int x5), .val (.int (4 : Int32)), .val (.int v0), .val (.int v1), .val (.int v2), .val (.int v3), .val (.ref a_645), .val (.int (1 : Int32)), .val (.int (1 : Int32)), .val (.int (0 : Int32)), .val (.int (1 : Int32)), .val (.ref a_1035), .val (.int ((1 : Int32) + (1 : Int32))), .unset]) (1 : Int32) at_238 (pc' := 241) rfl (by decide) rfl rfl ?_
            rw [(by decide : (1 : Int32) + (1 : Int32) = (2 : Int32))]
            refine go_iload C at_241 (pc' := 243) rfl rfl ?_
            refine go_if0 C (0 : Int) (by decide) at_243 (by decide) (pc' := 256) (by decide) (pcN := 246) rfl (fun (c_1068 : (0 : Int) = 0) => ?_) (fun (c_1068 : ¬ (0 : Int) = 0) => by omega)
            refine go_iload C at_256 (pc' := 258) rfl rfl ?_
            refine go_if0 C (1 : Int) (by decide) at_258 (by decide) (pc' := 271) (by decide) (pcN := 261) rfl (fun (c_1069 : (1 : Int) = 0) => by omega) (fun (c_1069 : ¬ (1 : Int) = 0) => ?_)
            refine go_aload C at_261 (pc' := 263) rfl rfl rfl ?_
            refine go_iload C at_263 (pc' := 265) rfl rfl ?_
            refine go_iload C at_265 (pc' := 267) rfl rfl ?_
            refine go_iastore C A_1067 2 (by decide) (show 2 < 4 from by decide) g_1041 at_267 (pc' := 268) rfl ?_
            intro h_1070 W_1071 A_1072
            have z_1073 : Z.heap.size ≤ h_1070.size := W_1071.size.symm ▸ z_1062
            have F_1074 := Fld.other W_1071 F_1063 (Or.inl n_1039)
            have F_1075 := Fld.other W_1071 F_1064 (Or.inl n_1039)
            have E_1076 := Exa.wr W_1071 E_1065
            have A_1077 := Av.other A_1066 W_1071 n_1040
            have A_1078 : Av Z h_1070 a_1035 .int [.int v0, .int v1, .int v3, .int (0 : Int32)] := A_1072
            refine go_iinc C (Ls' := #[.val (.int x0), .val (.int x1), .val (.int x2), .val (.int x3), .val (.int x4), .val (.int x5), .val (.int (4 : Int32)), .val (.int v0), .val (.int v1), .val (.int v2), .val (.int v3), .val (.ref a_645), .val (.int (1 : Int32)), .val (.int (1 : Int32)), .val (.int (0 : Int32)), .val (.int (1 : Int32)), .val (.ref a_1035), .val (.int ((2 : Int32) + (1 : Int32))), .unset]) (1 : Int32) at_268 (pc' := 271) rfl (by decide) rfl rfl ?_
            rw [(by decide : (2 : Int32) + (1 : Int32) = (3 : Int32))]
            refine go_aload C at_271 (pc' := 273) rfl rfl rfl ?_
            refine go_virtualP C (as := []) (rest := []) (W := 0) (.int (3 : Int32)) (sat_size l Z a0 hw a_645 _ _ _ F_1075) E_1076 (wd hw 23 rfl) (wd hw 24 rfl) (wd hw 26 rfl) (wd hw 25 rfl) (wd hw 6 rfl) (wd hw 27 rfl) (by decide) pd_3 rfl rfl rfl (by decide) (by decide) rfl rfl (by decide) (by decide) at_273 (pc' := 276) rfl rfl ?_
            refine go_iload C at_276 (pc' := 278) rfl rfl ?_
            refine go_icmp C (3 : Int) (3 : Int) (by decide) (by decide) at_278 (by decide) (pc' := 283) (by decide) (pcN := 281) rfl (fun (c_1079 : (3 : Int) = (3 : Int)) => ?_) (fun (c_1079 : ¬ (3 : Int) = (3 : Int)) => by omega)
            refine go_iconst C (1 : Int32) at_283 (pc' := 284) rfl (by decide) ?_
            refine go_istore C (Ls' := #[.val (.int x0), .val (.int x1), .val (.int x2), .val (.int x3), .val (.int x4), .val (.int x5), .val (.int (4 : Int32)), .val (.int v0), .val (.int v1), .val (.int v2), .val (.int v3), .val (.ref a_645), .val (.int (1 : Int32)), .val (.int (1 : Int32)), .val (.int (0 : Int32)), .val (.int (1 : Int32)), .val (.ref a_1035), .val (.int (3 : Int32)), .val (.int (1 : Int32))]) at_284 (pc' := 286) rfl rfl ?_
            refine go_iload C at_286 (pc' := 288) rfl rfl ?_
            refine go_if0 C (3 : Int) (by decide) at_288 (by decide) (pc' := 316) (by decide) (pcN := 291) rfl (fun (c_1080 : ¬ 0 < (3 : Int)) => by omega) (fun (c_1080 : 0 < (3 : Int)) => ?_)
            refine go_iload C at_291 (pc' := 293) rfl rfl ?_
            refine go_if0 C (1 : Int) (by decide) at_293 (by decide) (pc' := 313) (by decide) (pcN := 296) rfl (fun (c_1081 : (1 : Int) = 0) => by omega) (fun (c_1081 : ¬ (1 : Int) = 0) => ?_)
            refine go_aload C at_296 (pc' := 298) rfl rfl rfl ?_
            refine go_iconst C (0 : Int32) at_298 (pc' := 299) rfl (by decide) ?_
            refine go_virtualP C (as := [.int (0 : Int32)]) (rest := []) (W := 0) (.int v0) (sat_get l Z a0 hw a_645 r_656 (0 : Int32) v0 0 [.int v0, .int v1, .int v3, .int v3, .int (0 : Int32), .int (0 : Int32), .int (0 : Int32), .int (0 : Int32)] _ _ F_1074 A_1077 (by decide) rfl) E_1076 (wd hw 33 rfl) (wd hw 34 rfl) (wd hw 36 rfl) (wd hw 35 rfl) (wd hw 6 rfl) (wd hw 37 rfl) (by decide) pd_5 rfl rfl rfl (by decide) (by decide) rfl rfl (by decide) (by decide) at_299 (pc' := 302) rfl rfl ?_
            refine go_aload C at_302 (pc' := 304) rfl rfl rfl ?_
            refine go_iconst C (0 : Int32) at_304 (pc' := 305) rfl (by decide) ?_
            refine go_iaload C A_1078 0 (.int v0) (by decide) rfl at_305 (pc' := 306) rfl ?_
            refine go_icmp C v0.toInt v0.toInt rfl rfl at_306 (by decide) (pc' := 313) (by decide) (pcN := 309) rfl (fun (c_1082 : ¬ v0.toInt = v0.toInt) => by omega) (fun (c_1082 : v0.toInt = v0.toInt) => ?_)
            refine go_iconst C (1 : Int32) at_309 (pc' := 310) rfl (by decide) ?_
            refine go_goto C at_310 (by decide) (pc' := 314) (by decide) ?_
            refine go_istore C (Ls' := #[.val (.int x0), .val (.int x1), .val (.int x2), .val (.int x3), .val (.int x4), .val (.int x5), .val (.int (4 : Int32)), .val (.int v0), .val (.int v1), .val (.int v2), .val (.int v3), .val (.ref a_645), .val (.int (1 : Int32)), .val (.int (1 : Int32)), .val (.int (0 : Int32)), .val (.int (1 : Int32)), .val (.ref a_1035), .val (.int (3 : Int32)), .val (.int (1 : Int32))]) at_314 (pc' := 316) rfl rfl ?_
            refine go_iload C at_316 (pc' := 318) rfl rfl ?_
            refine go_iconst C (1 : Int32) at_318 (pc' := 319) rfl (by decide) ?_
            refine go_icmp C (3 : Int) (1 : Int) (by decide) (by decide) at_319 (by decide) (pc' := 347) (by decide) (pcN := 322) rfl (fun (c_1083 : ¬ (1 : Int) < (3 : Int)) => by omega) (fun (c_1083 : (1 : Int) < (3 : Int)) => ?_)
            refine go_iload C at_322 (pc' := 324) rfl rfl ?_
            refine go_if0 C (1 : Int) (by decide) at_324 (by decide) (pc' := 344) (by decide) (pcN := 327) rfl (fun (c_1084 : (1 : Int) = 0) => by omega) (fun (c_1084 : ¬ (1 : Int) = 0) => ?_)
            refine go_aload C at_327 (pc' := 329) rfl rfl rfl ?_
            refine go_iconst C (1 : Int32) at_329 (pc' := 330) rfl (by decide) ?_
            refine go_virtualP C (as := [.int (1 : Int32)]) (rest := []) (W := 0) (.int v1) (sat_get l Z a0 hw a_645 r_656 (1 : Int32) v1 1 [.int v0, .int v1, .int v3, .int v3, .int (0 : Int32), .int (0 : Int32), .int (0 : Int32), .int (0 : Int32)] _ _ F_1074 A_1077 (by decide) rfl) E_1076 (wd hw 33 rfl) (wd hw 34 rfl) (wd hw 36 rfl) (wd hw 35 rfl) (wd hw 6 rfl) (wd hw 37 rfl) (by decide) pd_5 rfl rfl rfl (by decide) (by decide) rfl rfl (by decide) (by decide) at_330 (pc' := 333) rfl rfl ?_
            refine go_aload C at_333 (pc' := 335) rfl rfl rfl ?_
            refine go_iconst C (1 : Int32) at_335 (pc' := 336) rfl (by decide) ?_
            refine go_iaload C A_1078 1 (.int v1) (by decide) rfl at_336 (pc' := 337) rfl ?_
            refine go_icmp C v1.toInt v1.toInt rfl rfl at_337 (by decide) (pc' := 344) (by decide) (pcN := 340) rfl (fun (c_1085 : ¬ v1.toInt = v1.toInt) => by omega) (fun (c_1085 : v1.toInt = v1.toInt) => ?_)
            refine go_iconst C (1 : Int32) at_340 (pc' := 341) rfl (by decide) ?_
            refine go_goto C at_341 (by decide) (pc' := 345) (by decide) ?_
            refine go_istore C (Ls' := #[.val (.int x0), .val (.int x1), .val (.int x2), .val (.int x3), .val (.int x4), .val (.int x5), .val (.int (4 : Int32)), .val (.int v0), .val (.int v1), .val (.int v2), .val (.int v3), .val (.ref a_645), .val (.int (1 : Int32)), .val (.int (1 : Int32)), .val (.int (0 : Int32)), .val (.int (1 : Int32)), .val (.ref a_1035), .val (.int (3 : Int32)), .val (.int (1 : Int32))]) at_345 (pc' := 347) rfl rfl ?_
            refine go_iload C at_347 (pc' := 349) rfl rfl ?_
            refine go_iconst C (2 : Int32) at_349 (pc' := 350) rfl (by decide) ?_
            refine go_icmp C (3 : Int) (2 : Int) (by decide) (by decide) at_350 (by decide) (pc' := 378) (by decide) (pcN := 353) rfl (fun (c_1086 : ¬ (2 : Int) < (3 : Int)) => by omega) (fun (c_1086 : (2 : Int) < (3 : Int)) => ?_)
            refine go_iload C at_353 (pc' := 355) rfl rfl ?_
            refine go_if0 C (1 : Int) (by decide) at_355 (by decide) (pc' := 375) (by decide) (pcN := 358) rfl (fun (c_1087 : (1 : Int) = 0) => by omega) (fun (c_1087 : ¬ (1 : Int) = 0) => ?_)
            refine go_aload C at_358 (pc' := 360) rfl rfl rfl ?_
            refine go_iconst C (2 : Int32) at_360 (pc' := 361) rfl (by decide) ?_
            refine go_virtualP C (as := [.int (2 : Int32)]) (rest := []) (W := 0) (.int v3) (sat_get l Z a0 hw a_645 r_656 (2 : Int32) v3 2 [.int v0, .int v1, .int v3, .int v3, .int (0 : Int32), .int (0 : Int32), .int (0 : Int32), .int (0 : Int32)] _ _ F_1074 A_1077 (by decide) rfl) E_1076 (wd hw 33 rfl) (wd hw 34 rfl) (wd hw 36 rfl) (wd hw 35 rfl) (wd hw 6 rfl) (wd hw 37 rfl) (by decide) pd_5 rfl rfl rfl (by decide) (by decide) rfl rfl (by decide) (by decide) at_361 (pc' := 364) rfl rfl ?_
            refine go_aload C at_364 (pc' := 366) rfl rfl rfl ?_
            refine go_iconst C (2 : Int32) at_366 (pc' := 367) rfl (by decide) ?_
            refine go_iaload C A_1078 2 (.int v3) (by decide) rfl at_367 (pc' := 368) rfl ?_
            refine go_icmp C v3.toInt v3.toInt rfl rfl at_368 (by decide) (pc' := 375) (by decide) (pcN := 371) rfl (fun (c_1088 : ¬ v3.toInt = v3.toInt) => by omega) (fun (c_1088 : v3.toInt = v3.toInt) => ?_)
            refine go_iconst C (1 : Int32) at_371 (pc' := 372) rfl (by decide) ?_
            refine go_goto C at_372 (by decide) (pc' := 376) (by decide) ?_
            refine go_istore C (Ls' := #[.val (.int x0), .val (.int x1), .val (.int x2), .val (.int x3), .val (.int x4), .val (.int x5), .val (.int (4 : Int32)), .val (.int v0), .val (.int v1), .val (.int v2), .val (.int v3), .val (.ref a_645), .val (.int (1 : Int32)), .val (.int (1 : Int32)), .val (.int (0 : Int32)), .val (.int (1 : Int32)), .val (.ref a_1035), .val (.int (3 : Int32)), .val (.int (1 : Int32))]) at_376 (pc' := 378) rfl rfl ?_
            refine go_iload C at_378 (pc' := 380) rfl rfl ?_
            refine go_iconst C (3 : Int32) at_380 (pc' := 381) rfl (by decide) ?_
            refine go_icmp C (3 : Int) (3 : Int) (by decide) (by decide) at_381 (by decide) (pc' := 409) (by decide) (pcN := 384) rfl (fun (c_1089 : ¬ (3 : Int) < (3 : Int)) => ?_) (fun (c_1089 : (3 : Int) < (3 : Int)) => by omega)
            refine go_iload C at_409 (pc' := 411) rfl rfl ?_
            refine go_ireturnN C (z' := (1 : Int32)) rfl (by simp) rfl at_411 (by decide) (by decide) ?_
            exact ⟨_, rfl, rfl⟩
        · skip
          refine go_virtualN C (as := []) (rest := []) (W := 0) (sat_rd4tff l Z a0 hw a_645 r_656 v0 v1 v2 v3 _ _ hf1 hf2 hf3 E_687 F_688 F_689 A_690 g_650 g_657) E_687 (wd hw 16 rfl) (wd hw 17 rfl) (wd hw 19 rfl) (wd hw 18 rfl) (wd hw 6 rfl) (wd hw 20 rfl) (by decide) pd_2 rfl rfl rfl (by decide) (by decide) (ce' := 2) (sl' := 10) rfl rfl (by decide) (by decide) at_107 (pc' := 110) rfl rfl ?_
          intro h_1090 q_1091
          obtain ⟨E_1092, F_1093, F_1094, A_1095⟩ := q_1091
          refine go_iload C at_110 (pc' := 112) rfl rfl ?_
          refine go_if0 C (4 : Int) (by decide) at_112 (by decide) (pc' := 119) (by decide) (pcN := 115) rfl (fun (c_1096 : ¬ 0 < (4 : Int)) => by omega) (fun (c_1096 : 0 < (4 : Int)) => ?_)
          refine go_iconst C (1 : Int32) at_115 (pc' := 116) rfl (by decide) ?_
          refine go_goto C at_116 (by decide) (pc' := 120) (by decide) ?_
          refine go_istore C (Ls' := #[.val (.int x0), .val (.int x1), .val (.int x2), .val (.int x3), .val (.int x4), .val (.int x5), .val (.int (4 : Int32)), .val (.int v0), .val (.int v1), .val (.int v2), .val (.int v3), .val (.ref a_645), .val (.int (1 : Int32)), .unset, .unset, .unset, .unset, .unset, .unset]) at_120 (pc' := 122) rfl rfl ?_
          refine go_iload C at_122 (pc' := 124) rfl rfl ?_
          refine go_iconst C (1 : Int32) at_124 (pc' := 125) rfl (by decide) ?_
          refine go_icmp C (4 : Int) (1 : Int) (by decide) (by decide) at_125 (by decide) (pc' := 139) (by decide) (pcN := 128) rfl (fun (c_1097 : ¬ (1 : Int) < (4 : Int)) => by omega) (fun (c_1097 : (1 : Int) < (4 : Int)) => ?_)
          refine go_iload C at_128 (pc' := 130) rfl rfl ?_
          refine go_iload C at_130 (pc' := 132) rfl rfl ?_
          refine go_icmp C v1.toInt v0.toInt rfl rfl at_132 (by decide) (pc' := 139) (by decide) (pcN := 135) rfl (fun (c_1098 : v1.toInt = v0.toInt) => by omega) (fun (c_1098 : ¬ v1.toInt = v0.toInt) => ?_)
          refine go_iconst C (1 : Int32) at_135 (pc' := 136) rfl (by decide) ?_
          refine go_goto C at_136 (by decide) (pc' := 140) (by decide) ?_
          refine go_istore C (Ls' := #[.val (.int x0), .val (.int x1), .val (.int x2), .val (.int x3), .val (.int x4), .val (.int x5), .val (.int (4 : Int32)), .val (.int v0), .val (.int v1), .val (.int v2), .val (.int v3), .val (.ref a_645), .val (.int (1 : Int32)), .val (.int (1 : Int32)), .unset, .unset, .unset, .unset, .unset]) at_140 (pc' := 142) rfl rfl ?_
          refine go_iload C at_142 (pc' := 144) rfl rfl ?_
          refine go_iconst C (2 : Int32) at_144 (pc' := 145) rfl (by decide) ?_
          refine go_icmp C (4 : Int) (2 : Int) (by decide) (by decide) at_145 (by decide) (pc' := 166) (by decide) (pcN := 148) rfl (fun (c_1099 : ¬ (2 : Int) < (4 : Int)) => by omega) (fun (c_1099 : (2 : Int) < (4 : Int)) => ?_)
          refine go_iload C at_148 (pc' := 150) rfl rfl ?_
          refine go_iload C at_150 (pc' := 152) rfl rfl ?_
          refine go_icmp C v2.toInt v0.toInt rfl rfl at_152 (by decide) (pc' := 166) (by decide) (pcN := 155) rfl (fun (c_1100 : v2.toInt = v0.toInt) => ?_) (fun (c_1100 : ¬ v2.toInt = v0.toInt) => ?_)
          · skip
            refine go_iconst C (0 : Int32) at_166 (pc' := 167) rfl (by decide) ?_
            refine go_istore C (Ls' := #[.val (.int x0), .val (.int x1), .val (.int x2), .val (.int x3), .val (.int x4), .val (.int x5), .val (.int (4 : Int32)), .val (.int v0), .val (.int v1), .val (.int v2), .val (.int v3), .val (.ref a_645), .val (.int (1 : Int32)), .val (.int (1 : Int32)), .val (.int (0 : Int32)), .unset, .unset, .unset, .unset]) at_167 (pc' := 169) rfl rfl ?_
            refine go_iload C at_169 (pc' := 171) rfl rfl ?_
            refine go_iconst C (3 : Int32) at_171 (pc' := 172) rfl (by decide) ?_
            refine go_icmp C (4 : Int) (3 : Int) (by decide) (by decide) at_172 (by decide) (pc' := 200) (by decide) (pcN := 175) rfl (fun (c_1101 : ¬ (3 : Int) < (4 : Int)) => by omega) (fun (c_1101 : (3 : Int) < (4 : Int)) => ?_)
            refine go_iload C at_175 (pc' := 177) rfl rfl ?_
            refine go_iload C at_177 (pc' := 179) rfl rfl ?_
            refine go_icmp C v3.toInt v0.toInt rfl rfl at_179 (by decide) (pc' := 200) (by decide) (pcN := 182) rfl (fun (c_1102 : v3.toInt = v0.toInt) => ?_) (fun (c_1102 : ¬ v3.toInt = v0.toInt) => ?_)
            · skip
              refine go_iconst C (0 : Int32) at_200 (pc' := 201) rfl (by decide) ?_
              refine go_istore C (Ls' := #[.val (.int x0), .val (.int x1), .val (.int x2), .val (.int x3), .val (.int x4), .val (.int x5), .val (.int (4 : Int32)), .val (.int v0), .val (.int v1), .val (.int v2), .val (.int v3), .val (.ref a_645), .val (.int (1 : Int32)), .val (.int (1 : Int32)), .val (.int (0 : Int32)), .val (.int (0 : Int32)), .unset, .unset, .unset]) at_201 (pc' := 203) rfl rfl ?_
              refine go_iconst C (4 : Int32) at_203 (pc' := 204) rfl (by decide) ?_
              refine go_newarray C (wd hw 13 rfl) rfl 4 4 (by decide) (by decide) (by decide) (ce' := 3) (sl' := 14) rfl rfl (by decide) (by decide) at_204 (pc' := 206) rfl ?_
              intro h_1103 a_1104 g_1105 E_1106 A_1107
              have n_1108 : a_645 ≠ a_1104 := own_ne_new E_1092.lt g_1105
              have n_1109 : r_656 ≠ a_1104 := own_ne_new A_1095.lt g_1105
              have g_1110 : Z.heap.size ≤ a_1104 := own_ge (Nat.le_of_lt (Nat.lt_of_le_of_lt g_650 E_1092.lt)) g_1105
              have F_1111 := Fld.ext E_1106 F_1093
              have F_1112 := Fld.ext E_1106 F_1094
              have E_1113 := Exa.ext E_1106 E_1092
              have A_1114 := Av.ext A_1095 E_1106
              have z_1115 : Z.heap.size ≤ h_1103.size := Nat.le_trans (Nat.le_of_lt (Nat.lt_of_le_of_lt g_650 E_1092.lt)) E_1106.1
              have A_1116 : Av Z h_1103 a_1104 .int [.int (0 : Int32), .int (0 : Int32), .int (0 : Int32), .int (0 : Int32)] := A_1107
              refine go_astore C (Ls' := #[.val (.int x0), .val (.int x1), .val (.int x2), .val (.int x3), .val (.int x4), .val (.int x5), .val (.int (4 : Int32)), .val (.int v0), .val (.int v1), .val (.int v2), .val (.int v3), .val (.ref a_645), .val (.int (1 : Int32)), .val (.int (1 : Int32)), .val (.int (0 : Int32)), .val (.int (0 : Int32)), .val (.ref a_1104), .unset, .unset]) at_206 (pc' := 208) rfl rfl rfl ?_
              refine go_iconst C (0 : Int32) at_208 (pc' := 209) rfl (by decide) ?_
              refine go_istore C (Ls' := #[.val (.int x0), .val (.int x1), .val (.int x2), .val (.int x3), .val (.int x4), .val (.int x5), .val (.int (4 : Int32)), .val (.int v0), .val (.int v1), .val (.int v2), .val (.int v3), .val (.ref a_645), .val (.int (1 : Int32)), .val (.int (1 : Int32)), .val (.int (0 : Int32)), .val (.int (0 : Int32)), .val (.ref a_1104), .val (.int (0 : Int32)), .unset]) at_209 (pc' := 211) rfl rfl ?_
              refine go_iload C at_211 (pc' := 213) rfl rfl ?_
              refine go_if0 C (1 : Int) (by decide) at_213 (by decide) (pc' := 226) (by decide) (pcN := 216) rfl (fun (c_1117 : (1 : Int) = 0) => by omega) (fun (c_1117 : ¬ (1 : Int) = 0) => ?_)
              refine go_aload C at_216 (pc' := 218) rfl rfl rfl ?_
              refine go_iload C at_218 (pc' := 220) rfl rfl ?_
              refine go_iload C at_220 (pc' := 222) rfl rfl ?_
              refine go_iastore C A_1116 0 (by decide) (show 0 < 4 from by decide) g_1110 at_222 (pc' := 223) rfl ?_
              intro h_1118 W_1119 A_1120
              have z_1121 : Z.heap.size ≤ h_1118.size := W_1119.size.symm ▸ z_1115
              have F_1122 := Fld.other W_1119 F_1111 (Or.inl n_1108)
              have F_1123 := Fld.other W_1119 F_1112 (Or.inl n_1108)
              have E_1124 := Exa.wr W_1119 E_1113
              have A_1125 := Av.other A_1114 W_1119 n_1109
              have A_1126 : Av Z h_1118 a_1104 .int [.int v0, .int (0 : Int32), .int (0 : Int32), .int (0 : Int32)] := A_1120
              refine go_iinc C (Ls' := #[.val (.int x0), .val (.int x1), .val (.int x2), .val (.int x3), .val (.int x4), .val (.int x5), .val (.int (4 : Int32)), .val (.int v0), .val (.int v1), .val (.int v2), .val (.int v3), .val (.ref a_645), .val (.int (1 : Int32)), .val (.int (1 : Int32)), .val (.int (0 : Int32)), .val (.int (0 : Int32)), .val (.ref a_1104), .val (.int ((0 : Int32) + (1 : Int32))), .unset]) (1 : Int32) at_223 (pc' := 226) rfl (by decide) rfl rfl ?_
              rw [(by decide : (0 : Int32) + (1 : Int32) = (1 : Int32))]
              refine go_iload C at_226 (pc' := 228) rfl rfl ?_
              refine go_if0 C (1 : Int) (by decide) at_228 (by decide) (pc' := 241) (by decide) (pcN := 231) rfl (fun (c_1127 : (1 : Int) = 0) => by omega) (fun (c_1127 : ¬ (1 : Int) = 0) => ?_)
              refine go_aload C at_231 (pc' := 233) rfl rfl rfl ?_
              refine go_iload C at_233 (pc' := 235) rfl rfl ?_
              refine go_iload C at_235 (pc' := 237) rfl rfl ?_
              refine go_iastore C A_1126 1 (by decide) (show 1 < 4 from by decide) g_1110 at_237 (pc' := 238) rfl ?_
              intro h_1128 W_1129 A_1130
              have z_1131 : Z.heap.size ≤ h_1128.size := W_1129.size.symm ▸ z_1121
              have F_1132 := Fld.other W_1129 F_1122 (Or.inl n_1108)
              have F_1133 := Fld.other W_1129 F_1123 (Or.inl n_1108)
              have E_1134 := Exa.wr W_1129 E_1124
              have A_1135 := Av.other A_1125 W_1129 n_1109
              have A_1136 : Av Z h_1128 a_1104 .int [.int v0, .int v1, .int (0 : Int32), .int (0 : Int32)] := A_1130
              refine go_iinc C (Ls' := #[.val (.int x0), .val (.int x1), .val (.int x2), .val (.int x3), .val (.int x4), .val (.int x5), .val (.int (4 : Int32)), .val (.int v0), .val (.int v1), .val (.int v2), .val (.int v3), .val (.ref a_645), .val (.int (1 : Int32)), .val (.int (1 : Int32)), .val (.int (0 : Int32)), .val (.int (0 : Int32)), .val (.ref a_1104), .val (.int ((1 : Int32) + (1 : Int32))), .unset]) (1 : Int32) at_238 (pc' := 241) rfl (by decide) rfl rfl ?_
              rw [(by decide : (1 : Int32) + (1 : Int32) = (2 : Int32))]
              refine go_iload C at_241 (pc' := 243) rfl rfl ?_
              refine go_if0 C (0 : Int) (by decide) at_243 (by decide) (pc' := 256) (by decide) (pcN := 246) rfl (fun (c_1137 : (0 : Int) = 0) => ?_) (fun (c_1137 : ¬ (0 : Int) = 0) => by omega)
              refine go_iload C at_256 (pc' := 258) rfl rfl ?_
              refine go_if0 C (0 : Int) (by decide) at_258 (by decide) (pc' := 271) (by decide) (pcN := 261) rfl (fun (c_1138 : (0 : Int) = 0) => ?_) (fun (c_1138 : ¬ (0 : Int) = 0) => by omega)
              refine go_aload C at_271 (pc' := 273) rfl rfl rfl ?_
              refine go_virtualP C (as := []) (rest := []) (W := 0) (.int (2 : Int32)) (sat_size l Z a0 hw a_645 _ _ _ F_1133) E_1134 (wd hw 23 rfl) (wd hw 24 rfl) (wd hw 26 rfl) (wd hw 25 rfl) (wd hw 6 rfl) (wd hw 27 rfl) (by decide) pd_3 rfl rfl rfl (by decide) (by decide) rfl rfl (by decide) (by decide) at_273 (pc' := 276) rfl rfl ?_
              refine go_iload C at_276 (pc' := 278) rfl rfl ?_
              refine go_icmp C (2 : Int) (2 : Int) (by decide) (by decide) at_278 (by decide) (pc' := 283) (by decide) (pcN := 281) rfl (fun (c_1139 : (2 : Int) = (2 : Int)) => ?_) (fun (c_1139 : ¬ (2 : Int) = (2 : Int)) => by omega)
              refine go_iconst C (1 : Int32) at_283 (pc' := 284) rfl (by decide) ?_
              refine go_istore C (Ls' := #[.val (.int x0), .val (.int x1), .val (.int x2), .val (.int x3), .val (.int x4), .val (.int x5), .val (.int (4 : Int32)), .val (.int v0), .val (.int v1), .val (.int v2), .val (.int v3), .val (.ref a_645), .val (.int (1 : Int32)), .val (.int (1 : Int32)), .val (.int (0 : Int32)), .val (.int (0 : Int32)), .val (.ref a_1104), .val (.int (2 : Int32)), .val (.int (1 : Int32))]) at_284 (pc' := 286) rfl rfl ?_
              refine go_iload C at_286 (pc' := 288) rfl rfl ?_
              refine go_if0 C (2 : Int) (by decide) at_288 (by decide) (pc' := 316) (by decide) (pcN := 291) rfl (fun (c_1140 : ¬ 0 < (2 : Int)) => by omega) (fun (c_1140 : 0 < (2 : Int)) => ?_)
              refine go_iload C at_291 (pc' := 293) rfl rfl ?_
              refine go_if0 C (1 : Int) (by decide) at_293 (by decide) (pc' := 313) (by decide) (pcN := 296) rfl (fun (c_1141 : (1 : Int) = 0) => by omega) (fun (c_1141 : ¬ (1 : Int) = 0) => ?_)
              refine go_aload C at_296 (pc' := 298) rfl rfl rfl ?_
              refine go_iconst C (0 : Int32) at_298 (pc' := 299) rfl (by decide) ?_
              refine go_virtualP C (as := [.int (0 : Int32)]) (rest := []) (W := 0) (.int v0) (sat_get l Z a0 hw a_645 r_656 (0 : Int32) v0 0 [.int v0, .int v1, .int v2, .int v3, .int (0 : Int32), .int (0 : Int32), .int (0 : Int32), .int (0 : Int32)] _ _ F_1132 A_1135 (by decide) rfl) E_1134 (wd hw 33 rfl) (wd hw 34 rfl) (wd hw 36 rfl) (wd hw 35 rfl) (wd hw 6 rfl) (wd hw 37 rfl) (by decide) pd_5 rfl rfl rfl (by decide) (by decide) rfl rfl (by decide) (by decide) at_299 (pc' := 302) rfl rfl ?_
              refine go_aload C at_302 (pc' := 304) rfl rfl rfl ?_
              refine go_iconst C (0 : Int32) at_304 (pc' := 305) rfl (by decide) ?_
              refine go_iaload C A_1136 0 (.int v0) (by decide) rfl at_305 (pc' := 306) rfl ?_
              refine go_icmp C v0.toInt v0.toInt rfl rfl at_306 (by decide) (pc' := 313) (by decide) (pcN := 309) rfl (fun (c_1142 : ¬ v0.toInt = v0.toInt) => by omega) (fun (c_1142 : v0.toInt = v0.toInt) => ?_)
              refine go_iconst C (1 : Int32) at_309 (pc' := 310) rfl (by decide) ?_
              refine go_goto C at_310 (by decide) (pc' := 314) (by decide) ?_
              refine go_istore C (Ls' := #[.val (.int x0), .val (.int x1), .val (.int x2), .val (.int x3), .val (.int x4), .val (.int x5), .val (.int (4 : Int32)), .val (.int v0), .val (.int v1), .val (.int v2), .val (.int v3), .val (.ref a_645), .val (.int (1 : Int32)), .val (.int (1 : Int32)), .val (.int (0 : Int32)), .val (.int (0 : Int32)), .val (.ref a_1104), .val (.int (2 : Int32)), .val (.int (1 : Int32))]) at_314 (pc' := 316) rfl rfl ?_
              refine go_iload C at_316 (pc' := 318) rfl rfl ?_
              refine go_iconst C (1 : Int32) at_318 (pc' := 319) rfl (by decide) ?_
              refine go_icmp C (2 : Int) (1 : Int) (by decide) (by decide) at_319 (by decide) (pc' := 347) (by decide) (pcN := 322) rfl (fun (c_1143 : ¬ (1 : Int) < (2 : Int)) => by omega) (fun (c_1143 : (1 : Int) < (2 : Int)) => ?_)
              refine go_iload C at_322 (pc' := 324) rfl rfl ?_
              refine go_if0 C (1 : Int) (by decide) at_324 (by decide) (pc' := 344) (by decide) (pcN := 327) rfl (fun (c_1144 : (1 : Int) = 0) => by omega) (fun (c_1144 : ¬ (1 : Int) = 0) => ?_)
              refine go_aload C at_327 (pc' := 329) rfl rfl rfl ?_
              refine go_iconst C (1 : Int32) at_329 (pc' := 330) rfl (by decide) ?_
              refine go_virtualP C (as := [.int (1 : Int32)]) (rest := []) (W := 0) (.int v1) (sat_get l Z a0 hw a_645 r_656 (1 : Int32) v1 1 [.int v0, .int v1, .int v2, .int v3, .int (0 : Int32), .int (0 : Int32), .int (0 : Int32), .int (0 : Int32)] _ _ F_1132 A_1135 (by decide) rfl) E_1134 (wd hw 33 rfl) (wd hw 34 rfl) (wd hw 36 rfl) (wd hw 35 rfl) (wd hw 6 rfl) (wd hw 37 rfl) (by decide) pd_5 rfl rfl rfl (by decide) (by decide) rfl rfl (by decide) (by decide) at_330 (pc' := 333) rfl rfl ?_
              refine go_aload C at_333 (pc' := 335) rfl rfl rfl ?_
              refine go_iconst C (1 : Int32) at_335 (pc' := 336) rfl (by decide) ?_
              refine go_iaload C A_1136 1 (.int v1) (by decide) rfl at_336 (pc' := 337) rfl ?_
              refine go_icmp C v1.toInt v1.toInt rfl rfl at_337 (by decide) (pc' := 344) (by decide) (pcN := 340) rfl (fun (c_1145 : ¬ v1.toInt = v1.toInt) => by omega) (fun (c_1145 : v1.toInt = v1.toInt) => ?_)
              refine go_iconst C (1 : Int32) at_340 (pc' := 341) rfl (by decide) ?_
              refine go_goto C at_341 (by decide) (pc' := 345) (by decide) ?_
              refine go_istore C (Ls' := #[.val (.int x0), .val (.int x1), .val (.int x2), .val (.int x3), .val (.int x4), .val (.int x5), .val (.int (4 : Int32)), .val (.int v0), .val (.int v1), .val (.int v2), .val (.int v3), .val (.ref a_645), .val (.int (1 : Int32)), .val (.int (1 : Int32)), .val (.int (0 : Int32)), .val (.int (0 : Int32)), .val (.ref a_1104), .val (.int (2 : Int32)), .val (.int (1 : Int32))]) at_345 (pc' := 347) rfl rfl ?_
              refine go_iload C at_347 (pc' := 349) rfl rfl ?_
              refine go_iconst C (2 : Int32) at_349 (pc' := 350) rfl (by decide) ?_
              refine go_icmp C (2 : Int) (2 : Int) (by decide) (by decide) at_350 (by decide) (pc' := 378) (by decide) (pcN := 353) rfl (fun (c_1146 : ¬ (2 : Int) < (2 : Int)) => ?_) (fun (c_1146 : (2 : Int) < (2 : Int)) => by omega)
              refine go_iload C at_378 (pc' := 380) rfl rfl ?_
              refine go_iconst C (3 : Int32) at_380 (pc' := 381) rfl (by decide) ?_
              refine go_icmp C (2 : Int) (3 : Int) (by decide) (by decide) at_381 (by decide) (pc' := 409) (by decide) (pcN := 384) rfl (fun (c_1147 : ¬ (3 : Int) < (2 : Int)) => ?_) (fun (c_1147 : (3 : Int) < (2 : Int)) => by omega)
              refine go_iload C at_409 (pc' := 411) rfl rfl ?_
              refine go_ireturnN C (z' := (1 : Int32)) rfl (by simp) rfl at_411 (by decide) (by decide) ?_
              exact ⟨_, rfl, rfl⟩
            · skip
              refine go_iload C at_182 (pc' := 184) rfl rfl ?_
              refine go_iload C at_184 (pc' := 186) rfl rfl ?_
              refine go_icmp C v3.toInt v1.toInt rfl rfl at_186 (by decide) (pc' := 200) (by decide) (pcN := 189) rfl (fun (c_1148 : v3.toInt = v1.toInt) => ?_) (fun (c_1148 : ¬ v3.toInt = v1.toInt) => by omega)
              refine go_iconst C (0 : Int32) at_200 (pc' := 201) rfl (by decide) ?_
              refine go_istore C (Ls' := #[.val (.int x0), .val (.int x1), .val (.int x2), .val (.int x3), .val (.int x4), .val (.int x5), .val (.int (4 : Int32)), .val (.int v0), .val (.int v1), .val (.int v2), .val (.int v3), .val (.ref a_645), .val (.int (1 : Int32)), .val (.int (1 : Int32)), .val (.int (0 : Int32)), .val (.int (0 : Int32)), .unset, .unset, .unset]) at_201 (pc' := 203) rfl rfl ?_
              refine go_iconst C (4 : Int32) at_203 (pc' := 204) rfl (by decide) ?_
              refine go_newarray C (wd hw 13 rfl) rfl 4 4 (by decide) (by decide) (by decide) (ce' := 3) (sl' := 14) rfl rfl (by decide) (by decide) at_204 (pc' := 206) rfl ?_
              intro h_1149 a_1150 g_1151 E_1152 A_1153
              have n_1154 : a_645 ≠ a_1150 := own_ne_new E_1092.lt g_1151
              have n_1155 : r_656 ≠ a_1150 := own_ne_new A_1095.lt g_1151
              have g_1156 : Z.heap.size ≤ a_1150 := own_ge (Nat.le_of_lt (Nat.lt_of_le_of_lt g_650 E_1092.lt)) g_1151
              have F_1157 := Fld.ext E_1152 F_1093
              have F_1158 := Fld.ext E_1152 F_1094
              have E_1159 := Exa.ext E_1152 E_1092
              have A_1160 := Av.ext A_1095 E_1152
              have z_1161 : Z.heap.size ≤ h_1149.size := Nat.le_trans (Nat.le_of_lt (Nat.lt_of_le_of_lt g_650 E_1092.lt)) E_1152.1
              have A_1162 : Av Z h_1149 a_1150 .int [.int (0 : Int32), .int (0 : Int32), .int (0 : Int32), .int (0 : Int32)] := A_1153
              refine go_astore C (Ls' := #[.val (.int x0), .val (.int x1), .val (.int x2), .val (.int x3), .val (.int x4), .val (.int x5), .val (.int (4 : Int32)), .val (.int v0), .val (.int v1), .val (.int v2), .val (.int v3), .val (.ref a_645), .val (.int (1 : Int32)), .val (.int (1 : Int32)), .val (.int (0 : Int32)), .val (.int (0 : Int32)), .val (.ref a_1150), .unset, .unset]) at_206 (pc' := 208) rfl rfl rfl ?_
              refine go_iconst C (0 : Int32) at_208 (pc' := 209) rfl (by decide) ?_
              refine go_istore C (Ls' := #[.val (.int x0), .val (.int x1), .val (.int x2), .val (.int x3), .val (.int x4), .val (.int x5), .val (.int (4 : Int32)), .val (.int v0), .val (.int v1), .val (.int v2), .val (.int v3), .val (.ref a_645), .val (.int (1 : Int32)), .val (.int (1 : Int32)), .val (.int (0 : Int32)), .val (.int (0 : Int32)), .val (.ref a_1150), .val (.int (0 : Int32)), .unset]) at_209 (pc' := 211) rfl rfl ?_
              refine go_iload C at_211 (pc' := 213) rfl rfl ?_
              refine go_if0 C (1 : Int) (by decide) at_213 (by decide) (pc' := 226) (by decide) (pcN := 216) rfl (fun (c_1163 : (1 : Int) = 0) => by omega) (fun (c_1163 : ¬ (1 : Int) = 0) => ?_)
              refine go_aload C at_216 (pc' := 218) rfl rfl rfl ?_
              refine go_iload C at_218 (pc' := 220) rfl rfl ?_
              refine go_iload C at_220 (pc' := 222) rfl rfl ?_
              refine go_iastore C A_1162 0 (by decide) (show 0 < 4 from by decide) g_1156 at_222 (pc' := 223) rfl ?_
              intro h_1164 W_1165 A_1166
              have z_1167 : Z.heap.size ≤ h_1164.size := W_1165.size.symm ▸ z_1161
              have F_1168 := Fld.other W_1165 F_1157 (Or.inl n_1154)
              have F_1169 := Fld.other W_1165 F_1158 (Or.inl n_1154)
              have E_1170 := Exa.wr W_1165 E_1159
              have A_1171 := Av.other A_1160 W_1165 n_1155
              have A_1172 : Av Z h_1164 a_1150 .int [.int v0, .int (0 : Int32), .int (0 : Int32), .int (0 : Int32)] := A_1166
              refine go_iinc C (Ls' := #[.val (.int x0), .val (.int x1), .val (.int x2), .val (.int x3), .val (.int x4), .val (.int x5), .val (.int (4 : Int32)), .val (.int v0), .val (.int v1), .val (.int v2), .val (.int v3), .val (.ref a_645), .val (.int (1 : Int32)), .val (.int (1 : Int32)), .val (.int (0 : Int32)), .val (.int (0 : Int32)), .val (.ref a_1150), .val (.int ((0 : Int32) + (1 : Int32))), .unset]) (1 : Int32) at_223 (pc' := 226) rfl (by decide) rfl rfl ?_
              rw [(by decide : (0 : Int32) + (1 : Int32) = (1 : Int32))]
              refine go_iload C at_226 (pc' := 228) rfl rfl ?_
              refine go_if0 C (1 : Int) (by decide) at_228 (by decide) (pc' := 241) (by decide) (pcN := 231) rfl (fun (c_1173 : (1 : Int) = 0) => by omega) (fun (c_1173 : ¬ (1 : Int) = 0) => ?_)
              refine go_aload C at_231 (pc' := 233) rfl rfl rfl ?_
              refine go_iload C at_233 (pc' := 235) rfl rfl ?_
              refine go_iload C at_235 (pc' := 237) rfl rfl ?_
              refine go_iastore C A_1172 1 (by decide) (show 1 < 4 from by decide) g_1156 at_237 (pc' := 238) rfl ?_
              intro h_1174 W_1175 A_1176
              have z_1177 : Z.heap.size ≤ h_1174.size := W_1175.size.symm ▸ z_1167
              have F_1178 := Fld.other W_1175 F_1168 (Or.inl n_1154)
              have F_1179 := Fld.other W_1175 F_1169 (Or.inl n_1154)
              have E_1180 := Exa.wr W_1175 E_1170
              have A_1181 := Av.other A_1171 W_1175 n_1155
              have A_1182 : Av Z h_1174 a_1150 .int [.int v0, .int v1, .int (0 : Int32), .int (0 : Int32)] := A_1176
              refine go_iinc C (Ls' := #[.val (.int x0), .val (.int x1), .val (.int x2), .val (.int x3), .val (.int x4), .val (.int x5), .val (.int (4 : Int32)), .val (.int v0), .val (.int v1), .val (.int v2), .val (.int v3), .val (.ref a_645), .val (.int (1 : Int32)), .val (.int (1 : Int32)), .val (.int (0 : Int32)), .val (.int (0 : Int32)), .val (.ref a_1150), .val (.int ((1 : Int32) + (1 : Int32))), .unset]) (1 : Int32) at_238 (pc' := 241) rfl (by decide) rfl rfl ?_
              rw [(by decide : (1 : Int32) + (1 : Int32) = (2 : Int32))]
              refine go_iload C at_241 (pc' := 243) rfl rfl ?_
              refine go_if0 C (0 : Int) (by decide) at_243 (by decide) (pc' := 256) (by decide) (pcN := 246) rfl (fun (c_1183 : (0 : Int) = 0) => ?_) (fun (c_1183 : ¬ (0 : Int) = 0) => by omega)
              refine go_iload C at_256 (pc' := 258) rfl rfl ?_
              refine go_if0 C (0 : Int) (by decide) at_258 (by decide) (pc' := 271) (by decide) (pcN := 261) rfl (fun (c_1184 : (0 : Int) = 0) => ?_) (fun (c_1184 : ¬ (0 : Int) = 0) => by omega)
              refine go_aload C at_271 (pc' := 273) rfl rfl rfl ?_
              refine go_virtualP C (as := []) (rest := []) (W := 0) (.int (2 : Int32)) (sat_size l Z a0 hw a_645 _ _ _ F_1179) E_1180 (wd hw 23 rfl) (wd hw 24 rfl) (wd hw 26 rfl) (wd hw 25 rfl) (wd hw 6 rfl) (wd hw 27 rfl) (by decide) pd_3 rfl rfl rfl (by decide) (by decide) rfl rfl (by decide) (by decide) at_273 (pc' := 276) rfl rfl ?_
              refine go_iload C at_276 (pc' := 278) rfl rfl ?_
              refine go_icmp C (2 : Int) (2 : Int) (by decide) (by decide) at_278 (by decide) (pc' := 283) (by decide) (pcN := 281) rfl (fun (c_1185 : (2 : Int) = (2 : Int)) => ?_) (fun (c_1185 : ¬ (2 : Int) = (2 : Int)) => by omega)
              refine go_iconst C (1 : Int32) at_283 (pc' := 284) rfl (by decide) ?_
              refine go_istore C (Ls' := #[.val (.int x0), .val (.int x1), .val (.int x2), .val (.int x3), .val (.int x4), .val (.int x5), .val (.int (4 : Int32)), .val (.int v0), .val (.int v1), .val (.int v2), .val (.int v3), .val (.ref a_645), .val (.int (1 : Int32)), .val (.int (1 : Int32)), .val (.int (0 : Int32)), .val (.int (0 : Int32)), .val (.ref a_1150), .val (.int (2 : Int32)), .val (.int (1 : Int32))]) at_284 (pc' := 286) rfl rfl ?_
              refine go_iload C at_286 (pc' := 288) rfl rfl ?_
              refine go_if0 C (2 : Int) (by decide) at_288 (by decide) (pc' := 316) (by decide) (pcN := 291) rfl (fun (c_1186 : ¬ 0 < (2 : Int)) => by omega) (fun (c_1186 : 0 < (2 : Int)) => ?_)
              refine go_iload C at_291 (pc' := 293) rfl rfl ?_
              refine go_if0 C (1 : Int) (by decide) at_293 (by decide) (pc' := 313) (by decide) (pcN := 296) rfl (fun (c_1187 : (1 : Int) = 0) => by omega) (fun (c_1187 : ¬ (1 : Int) = 0) => ?_)
              refine go_aload C at_296 (pc' := 298) rfl rfl rfl ?_
              refine go_iconst C (0 : Int32) at_298 (pc' := 299) rfl (by decide) ?_
              refine go_virtualP C (as := [.int (0 : Int32)]) (rest := []) (W := 0) (.int v0) (sat_get l Z a0 hw a_645 r_656 (0 : Int32) v0 0 [.int v0, .int v1, .int v2, .int v3, .int (0 : Int32), .int (0 : Int32), .int (0 : Int32), .int (0 : Int32)] _ _ F_1178 A_1181 (by decide) rfl) E_1180 (wd hw 33 rfl) (wd hw 34 rfl) (wd hw 36 rfl) (wd hw 35 rfl) (wd hw 6 rfl) (wd hw 37 rfl) (by decide) pd_5 rfl rfl rfl (by decide) (by decide) rfl rfl (by decide) (by decide) at_299 (pc' := 302) rfl rfl ?_
              refine go_aload C at_302 (pc' := 304) rfl rfl rfl ?_
              refine go_iconst C (0 : Int32) at_304 (pc' := 305) rfl (by decide) ?_
              refine go_iaload C A_1182 0 (.int v0) (by decide) rfl at_305 (pc' := 306) rfl ?_
              refine go_icmp C v0.toInt v0.toInt rfl rfl at_306 (by decide) (pc' := 313) (by decide) (pcN := 309) rfl (fun (c_1188 : ¬ v0.toInt = v0.toInt) => by omega) (fun (c_1188 : v0.toInt = v0.toInt) => ?_)
              refine go_iconst C (1 : Int32) at_309 (pc' := 310) rfl (by decide) ?_
              refine go_goto C at_310 (by decide) (pc' := 314) (by decide) ?_
              refine go_istore C (Ls' := #[.val (.int x0), .val (.int x1), .val (.int x2), .val (.int x3), .val (.int x4), .val (.int x5), .val (.int (4 : Int32)), .val (.int v0), .val (.int v1), .val (.int v2), .val (.int v3), .val (.ref a_645), .val (.int (1 : Int32)), .val (.int (1 : Int32)), .val (.int (0 : Int32)), .val (.int (0 : Int32)), .val (.ref a_1150), .val (.int (2 : Int32)), .val (.int (1 : Int32))]) at_314 (pc' := 316) rfl rfl ?_
              refine go_iload C at_316 (pc' := 318) rfl rfl ?_
              refine go_iconst C (1 : Int32) at_318 (pc' := 319) rfl (by decide) ?_
              refine go_icmp C (2 : Int) (1 : Int) (by decide) (by decide) at_319 (by decide) (pc' := 347) (by decide) (pcN := 322) rfl (fun (c_1189 : ¬ (1 : Int) < (2 : Int)) => by omega) (fun (c_1189 : (1 : Int) < (2 : Int)) => ?_)
              refine go_iload C at_322 (pc' := 324) rfl rfl ?_
              refine go_if0 C (1 : Int) (by decide) at_324 (by decide) (pc' := 344) (by decide) (pcN := 327) rfl (fun (c_1190 : (1 : Int) = 0) => by omega) (fun (c_1190 : ¬ (1 : Int) = 0) => ?_)
              refine go_aload C at_327 (pc' := 329) rfl rfl rfl ?_
              refine go_iconst C (1 : Int32) at_329 (pc' := 330) rfl (by decide) ?_
              refine go_virtualP C (as := [.int (1 : Int32)]) (rest := []) (W := 0) (.int v1) (sat_get l Z a0 hw a_645 r_656 (1 : Int32) v1 1 [.int v0, .int v1, .int v2, .int v3, .int (0 : Int32), .int (0 : Int32), .int (0 : Int32), .int (0 : Int32)] _ _ F_1178 A_1181 (by decide) rfl) E_1180 (wd hw 33 rfl) (wd hw 34 rfl) (wd hw 36 rfl) (wd hw 35 rfl) (wd hw 6 rfl) (wd hw 37 rfl) (by decide) pd_5 rfl rfl rfl (by decide) (by decide) rfl rfl (by decide) (by decide) at_330 (pc' := 333) rfl rfl ?_
              refine go_aload C at_333 (pc' := 335) rfl rfl rfl ?_
              refine go_iconst C (1 : Int32) at_335 (pc' := 336) rfl (by decide) ?_
              refine go_iaload C A_1182 1 (.int v1) (by decide) rfl at_336 (pc' := 337) rfl ?_
              refine go_icmp C v1.toInt v1.toInt rfl rfl at_337 (by decide) (pc' := 344) (by decide) (pcN := 340) rfl (fun (c_1191 : ¬ v1.toInt = v1.toInt) => by omega) (fun (c_1191 : v1.toInt = v1.toInt) => ?_)
              refine go_iconst C (1 : Int32) at_340 (pc' := 341) rfl (by decide) ?_
              refine go_goto C at_341 (by decide) (pc' := 345) (by decide) ?_
              refine go_istore C (Ls' := #[.val (.int x0), .val (.int x1), .val (.int x2), .val (.int x3), .val (.int x4), .val (.int x5), .val (.int (4 : Int32)), .val (.int v0), .val (.int v1), .val (.int v2), .val (.int v3), .val (.ref a_645), .val (.int (1 : Int32)), .val (.int (1 : Int32)), .val (.int (0 : Int32)), .val (.int (0 : Int32)), .val (.ref a_1150), .val (.int (2 : Int32)), .val (.int (1 : Int32))]) at_345 (pc' := 347) rfl rfl ?_
              refine go_iload C at_347 (pc' := 349) rfl rfl ?_
              refine go_iconst C (2 : Int32) at_349 (pc' := 350) rfl (by decide) ?_
              refine go_icmp C (2 : Int) (2 : Int) (by decide) (by decide) at_350 (by decide) (pc' := 378) (by decide) (pcN := 353) rfl (fun (c_1192 : ¬ (2 : Int) < (2 : Int)) => ?_) (fun (c_1192 : (2 : Int) < (2 : Int)) => by omega)
              refine go_iload C at_378 (pc' := 380) rfl rfl ?_
              refine go_iconst C (3 : Int32) at_380 (pc' := 381) rfl (by decide) ?_
              refine go_icmp C (2 : Int) (3 : Int) (by decide) (by decide) at_381 (by decide) (pc' := 409) (by decide) (pcN := 384) rfl (fun (c_1193 : ¬ (3 : Int) < (2 : Int)) => ?_) (fun (c_1193 : (3 : Int) < (2 : Int)) => by omega)
              refine go_iload C at_409 (pc' := 411) rfl rfl ?_
              refine go_ireturnN C (z' := (1 : Int32)) rfl (by simp) rfl at_411 (by decide) (by decide) ?_
              exact ⟨_, rfl, rfl⟩
          · skip
            refine go_iload C at_155 (pc' := 157) rfl rfl ?_
            refine go_iload C at_157 (pc' := 159) rfl rfl ?_
            refine go_icmp C v2.toInt v1.toInt rfl rfl at_159 (by decide) (pc' := 166) (by decide) (pcN := 162) rfl (fun (c_1194 : v2.toInt = v1.toInt) => ?_) (fun (c_1194 : ¬ v2.toInt = v1.toInt) => by omega)
            refine go_iconst C (0 : Int32) at_166 (pc' := 167) rfl (by decide) ?_
            refine go_istore C (Ls' := #[.val (.int x0), .val (.int x1), .val (.int x2), .val (.int x3), .val (.int x4), .val (.int x5), .val (.int (4 : Int32)), .val (.int v0), .val (.int v1), .val (.int v2), .val (.int v3), .val (.ref a_645), .val (.int (1 : Int32)), .val (.int (1 : Int32)), .val (.int (0 : Int32)), .unset, .unset, .unset, .unset]) at_167 (pc' := 169) rfl rfl ?_
            refine go_iload C at_169 (pc' := 171) rfl rfl ?_
            refine go_iconst C (3 : Int32) at_171 (pc' := 172) rfl (by decide) ?_
            refine go_icmp C (4 : Int) (3 : Int) (by decide) (by decide) at_172 (by decide) (pc' := 200) (by decide) (pcN := 175) rfl (fun (c_1195 : ¬ (3 : Int) < (4 : Int)) => by omega) (fun (c_1195 : (3 : Int) < (4 : Int)) => ?_)
            refine go_iload C at_175 (pc' := 177) rfl rfl ?_
            refine go_iload C at_177 (pc' := 179) rfl rfl ?_
            refine go_icmp C v3.toInt v0.toInt rfl rfl at_179 (by decide) (pc' := 200) (by decide) (pcN := 182) rfl (fun (c_1196 : v3.toInt = v0.toInt) => ?_) (fun (c_1196 : ¬ v3.toInt = v0.toInt) => ?_)
            · skip
              refine go_iconst C (0 : Int32) at_200 (pc' := 201) rfl (by decide) ?_
              refine go_istore C (Ls' := #[.val (.int x0), .val (.int x1), .val (.int x2), .val (.int x3), .val (.int x4), .val (.int x5), .val (.int (4 : Int32)), .val (.int v0), .val (.int v1), .val (.int v2), .val (.int v3), .val (.ref a_645), .val (.int (1 : Int32)), .val (.int (1 : Int32)), .val (.int (0 : Int32)), .val (.int (0 : Int32)), .unset, .unset, .unset]) at_201 (pc' := 203) rfl rfl ?_
              refine go_iconst C (4 : Int32) at_203 (pc' := 204) rfl (by decide) ?_
              refine go_newarray C (wd hw 13 rfl) rfl 4 4 (by decide) (by decide) (by decide) (ce' := 3) (sl' := 14) rfl rfl (by decide) (by decide) at_204 (pc' := 206) rfl ?_
              intro h_1197 a_1198 g_1199 E_1200 A_1201
              have n_1202 : a_645 ≠ a_1198 := own_ne_new E_1092.lt g_1199
              have n_1203 : r_656 ≠ a_1198 := own_ne_new A_1095.lt g_1199
              have g_1204 : Z.heap.size ≤ a_1198 := own_ge (Nat.le_of_lt (Nat.lt_of_le_of_lt g_650 E_1092.lt)) g_1199
              have F_1205 := Fld.ext E_1200 F_1093
              have F_1206 := Fld.ext E_1200 F_1094
              have E_1207 := Exa.ext E_1200 E_1092
              have A_1208 := Av.ext A_1095 E_1200
              have z_1209 : Z.heap.size ≤ h_1197.size := Nat.le_trans (Nat.le_of_lt (Nat.lt_of_le_of_lt g_650 E_1092.lt)) E_1200.1
              have A_1210 : Av Z h_1197 a_1198 .int [.int (0 : Int32), .int (0 : Int32), .int (0 : Int32), .int (0 : Int32)] := A_1201
              refine go_astore C (Ls' := #[.val (.int x0), .val (.int x1), .val (.int x2), .val (.int x3), .val (.int x4), .val (.int x5), .val (.int (4 : Int32)), .val (.int v0), .val (.int v1), .val (.int v2), .val (.int v3), .val (.ref a_645), .val (.int (1 : Int32)), .val (.int (1 : Int32)), .val (.int (0 : Int32)), .val (.int (0 : Int32)), .val (.ref a_1198), .unset, .unset]) at_206 (pc' := 208) rfl rfl rfl ?_
              refine go_iconst C (0 : Int32) at_208 (pc' := 209) rfl (by decide) ?_
              refine go_istore C (Ls' := #[.val (.int x0), .val (.int x1), .val (.int x2), .val (.int x3), .val (.int x4), .val (.int x5), .val (.int (4 : Int32)), .val (.int v0), .val (.int v1), .val (.int v2), .val (.int v3), .val (.ref a_645), .val (.int (1 : Int32)), .val (.int (1 : Int32)), .val (.int (0 : Int32)), .val (.int (0 : Int32)), .val (.ref a_1198), .val (.int (0 : Int32)), .unset]) at_209 (pc' := 211) rfl rfl ?_
              refine go_iload C at_211 (pc' := 213) rfl rfl ?_
              refine go_if0 C (1 : Int) (by decide) at_213 (by decide) (pc' := 226) (by decide) (pcN := 216) rfl (fun (c_1211 : (1 : Int) = 0) => by omega) (fun (c_1211 : ¬ (1 : Int) = 0) => ?_)
              refine go_aload C at_216 (pc' := 218) rfl rfl rfl ?_
              refine go_iload C at_218 (pc' := 220) rfl rfl ?_
              refine go_iload C at_220 (pc' := 222) rfl rfl ?_
              refine go_iastore C A_1210 0 (by decide) (show 0 < 4 from by decide) g_1204 at_222 (pc' := 223) rfl ?_
              intro h_1212 W_1213 A_1214
              have z_1215 : Z.heap.size ≤ h_1212.size := W_1213.size.symm ▸ z_1209
              have F_1216 := Fld.other W_1213 F_1205 (Or.inl n_1202)
              have F_1217 := Fld.other W_1213 F_1206 (Or.inl n_1202)
              have E_1218 := Exa.wr W_1213 E_1207
              have A_1219 := Av.other A_1208 W_1213 n_1203
              have A_1220 : Av Z h_1212 a_1198 .int [.int v0, .int (0 : Int32), .int (0 : Int32), .int (0 : Int32)] := A_1214
              refine go_iinc C (Ls' := #[.val (.int x0), .val (.int x1), .val (.int x2), .val (.int x3), .val (.int x4), .val (.int x5), .val (.int (4 : Int32)), .val (.int v0), .val (.int v1), .val (.int v2), .val (.int v3), .val (.ref a_645), .val (.int (1 : Int32)), .val (.int (1 : Int32)), .val (.int (0 : Int32)), .val (.int (0 : Int32)), .val (.ref a_1198), .val (.int ((0 : Int32) + (1 : Int32))), .unset]) (1 : Int32) at_223 (pc' := 226) rfl (by decide) rfl rfl ?_
              rw [(by decide : (0 : Int32) + (1 : Int32) = (1 : Int32))]
              refine go_iload C at_226 (pc' := 228) rfl rfl ?_
              refine go_if0 C (1 : Int) (by decide) at_228 (by decide) (pc' := 241) (by decide) (pcN := 231) rfl (fun (c_1221 : (1 : Int) = 0) => by omega) (fun (c_1221 : ¬ (1 : Int) = 0) => ?_)
              refine go_aload C at_231 (pc' := 233) rfl rfl rfl ?_
              refine go_iload C at_233 (pc' := 235) rfl rfl ?_
              refine go_iload C at_235 (pc' := 237) rfl rfl ?_
              refine go_iastore C A_1220 1 (by decide) (show 1 < 4 from by decide) g_1204 at_237 (pc' := 238) rfl ?_
              intro h_1222 W_1223 A_1224
              have z_1225 : Z.heap.size ≤ h_1222.size := W_1223.size.symm ▸ z_1215
              have F_1226 := Fld.other W_1223 F_1216 (Or.inl n_1202)
              have F_1227 := Fld.other W_1223 F_1217 (Or.inl n_1202)
              have E_1228 := Exa.wr W_1223 E_1218
              have A_1229 := Av.other A_1219 W_1223 n_1203
              have A_1230 : Av Z h_1222 a_1198 .int [.int v0, .int v1, .int (0 : Int32), .int (0 : Int32)] := A_1224
              refine go_iinc C (Ls' := #[.val (.int x0), .val (.int x1), .val (.int x2), .val (.int x3), .val (.int x4), .val (.int x5), .val (.int (4 : Int32)), .val (.int v0), .val (.int v1), .val (.int v2), .val (.int v3), .val (.ref a_645), .val (.int (1 : Int32)), .val (.int (1 : Int32)), .val (.int (0 : Int32)), .val (.int (0 : Int32)), .val (.ref a_1198), .val (.int ((1 : Int32) + (1 : Int32))), .unset]) (1 : Int32) at_238 (pc' := 241) rfl (by decide) rfl rfl ?_
              rw [(by decide : (1 : Int32) + (1 : Int32) = (2 : Int32))]
              refine go_iload C at_241 (pc' := 243) rfl rfl ?_
              refine go_if0 C (0 : Int) (by decide) at_243 (by decide) (pc' := 256) (by decide) (pcN := 246) rfl (fun (c_1231 : (0 : Int) = 0) => ?_) (fun (c_1231 : ¬ (0 : Int) = 0) => by omega)
              refine go_iload C at_256 (pc' := 258) rfl rfl ?_
              refine go_if0 C (0 : Int) (by decide) at_258 (by decide) (pc' := 271) (by decide) (pcN := 261) rfl (fun (c_1232 : (0 : Int) = 0) => ?_) (fun (c_1232 : ¬ (0 : Int) = 0) => by omega)
              refine go_aload C at_271 (pc' := 273) rfl rfl rfl ?_
              refine go_virtualP C (as := []) (rest := []) (W := 0) (.int (2 : Int32)) (sat_size l Z a0 hw a_645 _ _ _ F_1227) E_1228 (wd hw 23 rfl) (wd hw 24 rfl) (wd hw 26 rfl) (wd hw 25 rfl) (wd hw 6 rfl) (wd hw 27 rfl) (by decide) pd_3 rfl rfl rfl (by decide) (by decide) rfl rfl (by decide) (by decide) at_273 (pc' := 276) rfl rfl ?_
              refine go_iload C at_276 (pc' := 278) rfl rfl ?_
              refine go_icmp C (2 : Int) (2 : Int) (by decide) (by decide) at_278 (by decide) (pc' := 283) (by decide) (pcN := 281) rfl (fun (c_1233 : (2 : Int) = (2 : Int)) => ?_) (fun (c_1233 : ¬ (2 : Int) = (2 : Int)) => by omega)
              refine go_iconst C (1 : Int32) at_283 (pc' := 284) rfl (by decide) ?_
              refine go_istore C (Ls' := #[.val (.int x0), .val (.int x1), .val (.int x2), .val (.int x3), .val (.int x4), .val (.int x5), .val (.int (4 : Int32)), .val (.int v0), .val (.int v1), .val (.int v2), .val (.int v3), .val (.ref a_645), .val (.int (1 : Int32)), .val (.int (1 : Int32)), .val (.int (0 : Int32)), .val (.int (0 : Int32)), .val (.ref a_1198), .val (.int (2 : Int32)), .val (.int (1 : Int32))]) at_284 (pc' := 286) rfl rfl ?_
              refine go_iload C at_286 (pc' := 288) rfl rfl ?_
              refine go_if0 C (2 : Int) (by decide) at_288 (by decide) (pc' := 316) (by decide) (pcN := 291) rfl (fun (c_1234 : ¬ 0 < (2 : Int)) => by omega) (fun (c_1234 : 0 < (2 : Int)) => ?_)
              refine go_iload C at_291 (pc' := 293) rfl rfl ?_
              refine go_if0 C (1 : Int) (by decide) at_293 (by decide) (pc' := 313) (by decide) (pcN := 296) rfl (fun (c_1235 : (1 : Int) = 0) => by omega) (fun (c_1235 : ¬ (1 : Int) = 0) => ?_)
              refine go_aload C at_296 (pc' := 298) rfl rfl rfl ?_
              refine go_iconst C (0 : Int32) at_298 (pc' := 299) rfl (by decide) ?_
              refine go_virtualP C (as := [.int (0 : Int32)]) (rest := []) (W := 0) (.int v0) (sat_get l Z a0 hw a_645 r_656 (0 : Int32) v0 0 [.int v0, .int v1, .int v2, .int v3, .int (0 : Int32), .int (0 : Int32), .int (0 : Int32), .int (0 : Int32)] _ _ F_1226 A_1229 (by decide) rfl) E_1228 (wd hw 33 rfl) (wd hw 34 rfl) (wd hw 36 rfl) (wd hw 35 rfl) (wd hw 6 rfl) (wd hw 37 rfl) (by decide) pd_5 rfl rfl rfl (by decide) (by decide) rfl rfl (by decide) (by decide) at_299 (pc' := 302) rfl rfl ?_
              refine go_aload C at_302 (pc' := 304) rfl rfl rfl ?_
              refine go_iconst C (0 : Int32) at_304 (pc' := 305) rfl (by decide) ?_
              refine go_iaload C A_1230 0 (.int v0) (by decide) rfl at_305 (pc' := 306) rfl ?_
              refine go_icmp C v0.toInt v0.toInt rfl rfl at_306 (by decide) (pc' := 313) (by decide) (pcN := 309) rfl (fun (c_1236 : ¬ v0.toInt = v0.toInt) => by omega) (fun (c_1236 : v0.toInt = v0.toInt) => ?_)
              refine go_iconst C (1 : Int32) at_309 (pc' := 310) rfl (by decide) ?_
              refine go_goto C at_310 (by decide) (pc' := 314) (by decide) ?_
              refine go_istore C (Ls' := #[.val (.int x0), .val (.int x1), .val (.int x2), .val (.int x3), .val (.int x4), .val (.int x5), .val (.int (4 : Int32)), .val (.int v0), .val (.int v1), .val (.int v2), .val (.int v3), .val (.ref a_645), .val (.int (1 : Int32)), .val (.int (1 : Int32)), .val (.int (0 : Int32)), .val (.int (0 : Int32)), .val (.ref a_1198), .val (.int (2 : Int32)), .val (.int (1 : Int32))]) at_314 (pc' := 316) rfl rfl ?_
              refine go_iload C at_316 (pc' := 318) rfl rfl ?_
              refine go_iconst C (1 : Int32) at_318 (pc' := 319) rfl (by decide) ?_
              refine go_icmp C (2 : Int) (1 : Int) (by decide) (by decide) at_319 (by decide) (pc' := 347) (by decide) (pcN := 322) rfl (fun (c_1237 : ¬ (1 : Int) < (2 : Int)) => by omega) (fun (c_1237 : (1 : Int) < (2 : Int)) => ?_)
              refine go_iload C at_322 (pc' := 324) rfl rfl ?_
              refine go_if0 C (1 : Int) (by decide) at_324 (by decide) (pc' := 344) (by decide) (pcN := 327) rfl (fun (c_1238 : (1 : Int) = 0) => by omega) (fun (c_1238 : ¬ (1 : Int) = 0) => ?_)
              refine go_aload C at_327 (pc' := 329) rfl rfl rfl ?_
              refine go_iconst C (1 : Int32) at_329 (pc' := 330) rfl (by decide) ?_
              refine go_virtualP C (as := [.int (1 : Int32)]) (rest := []) (W := 0) (.int v1) (sat_get l Z a0 hw a_645 r_656 (1 : Int32) v1 1 [.int v0, .int v1, .int v2, .int v3, .int (0 : Int32), .int (0 : Int32), .int (0 : Int32), .int (0 : Int32)] _ _ F_1226 A_1229 (by decide) rfl) E_1228 (wd hw 33 rfl) (wd hw 34 rfl) (wd hw 36 rfl) (wd hw 35 rfl) (wd hw 6 rfl) (wd hw 37 rfl) (by decide) pd_5 rfl rfl rfl (by decide) (by decide) rfl rfl (by decide) (by decide) at_330 (pc' := 333) rfl rfl ?_
              refine go_aload C at_333 (pc' := 335) rfl rfl rfl ?_
              refine go_iconst C (1 : Int32) at_335 (pc' := 336) rfl (by decide) ?_
              refine go_iaload C A_1230 1 (.int v1) (by decide) rfl at_336 (pc' := 337) rfl ?_
              refine go_icmp C v1.toInt v1.toInt rfl rfl at_337 (by decide) (pc' := 344) (by decide) (pcN := 340) rfl (fun (c_1239 : ¬ v1.toInt = v1.toInt) => by omega) (fun (c_1239 : v1.toInt = v1.toInt) => ?_)
              refine go_iconst C (1 : Int32) at_340 (pc' := 341) rfl (by decide) ?_
              refine go_goto C at_341 (by decide) (pc' := 345) (by decide) ?_
              refine go_istore C (Ls' := #[.val (.int x0), .val (.int x1), .val (.int x2), .val (.int x3), .val (.int x4), .val (.int x5), .val (.int (4 : Int32)), .val (.int v0), .val (.int v1), .val (.int v2), .val (.int v3), .val (.ref a_645), .val (.int (1 : Int32)), .val (.int (1 : Int32)), .val (.int (0 : Int32)), .val (.int (0 : Int32)), .val (.ref a_1198), .val (.int (2 : Int32)), .val (.int (1 : Int32))]) at_345 (pc' := 347) rfl rfl ?_
              refine go_iload C at_347 (pc' := 349) rfl rfl ?_
              refine go_iconst C (2 : Int32) at_349 (pc' := 350) rfl (by decide) ?_
              refine go_icmp C (2 : Int) (2 : Int) (by decide) (by decide) at_350 (by decide) (pc' := 378) (by decide) (pcN := 353) rfl (fun (c_1240 : ¬ (2 : Int) < (2 : Int)) => ?_) (fun (c_1240 : (2 : Int) < (2 : Int)) => by omega)
              refine go_iload C at_378 (pc' := 380) rfl rfl ?_
              refine go_iconst C (3 : Int32) at_380 (pc' := 381) rfl (by decide) ?_
              refine go_icmp C (2 : Int) (3 : Int) (by decide) (by decide) at_381 (by decide) (pc' := 409) (by decide) (pcN := 384) rfl (fun (c_1241 : ¬ (3 : Int) < (2 : Int)) => ?_) (fun (c_1241 : (3 : Int) < (2 : Int)) => by omega)
              refine go_iload C at_409 (pc' := 411) rfl rfl ?_
              refine go_ireturnN C (z' := (1 : Int32)) rfl (by simp) rfl at_411 (by decide) (by decide) ?_
              exact ⟨_, rfl, rfl⟩
            · skip
              refine go_iload C at_182 (pc' := 184) rfl rfl ?_
              refine go_iload C at_184 (pc' := 186) rfl rfl ?_
              refine go_icmp C v3.toInt v1.toInt rfl rfl at_186 (by decide) (pc' := 200) (by decide) (pcN := 189) rfl (fun (c_1242 : v3.toInt = v1.toInt) => ?_) (fun (c_1242 : ¬ v3.toInt = v1.toInt) => by omega)
              refine go_iconst C (0 : Int32) at_200 (pc' := 201) rfl (by decide) ?_
              refine go_istore C (Ls' := #[.val (.int x0), .val (.int x1), .val (.int x2), .val (.int x3), .val (.int x4), .val (.int x5), .val (.int (4 : Int32)), .val (.int v0), .val (.int v1), .val (.int v2), .val (.int v3), .val (.ref a_645), .val (.int (1 : Int32)), .val (.int (1 : Int32)), .val (.int (0 : Int32)), .val (.int (0 : Int32)), .unset, .unset, .unset]) at_201 (pc' := 203) rfl rfl ?_
              refine go_iconst C (4 : Int32) at_203 (pc' := 204) rfl (by decide) ?_
              refine go_newarray C (wd hw 13 rfl) rfl 4 4 (by decide) (by decide) (by decide) (ce' := 3) (sl' := 14) rfl rfl (by decide) (by decide) at_204 (pc' := 206) rfl ?_
              intro h_1243 a_1244 g_1245 E_1246 A_1247
              have n_1248 : a_645 ≠ a_1244 := own_ne_new E_1092.lt g_1245
              have n_1249 : r_656 ≠ a_1244 := own_ne_new A_1095.lt g_1245
              have g_1250 : Z.heap.size ≤ a_1244 := own_ge (Nat.le_of_lt (Nat.lt_of_le_of_lt g_650 E_1092.lt)) g_1245
              have F_1251 := Fld.ext E_1246 F_1093
              have F_1252 := Fld.ext E_1246 F_1094
              have E_1253 := Exa.ext E_1246 E_1092
              have A_1254 := Av.ext A_1095 E_1246
              have z_1255 : Z.heap.size ≤ h_1243.size := Nat.le_trans (Nat.le_of_lt (Nat.lt_of_le_of_lt g_650 E_1092.lt)) E_1246.1
              have A_1256 : Av Z h_1243 a_1244 .int [.int (0 : Int32), .int (0 : Int32), .int (0 : Int32), .int (0 : Int32)] := A_1247
              refine go_astore C (Ls' := #[.val (.int x0), .val (.int x1), .val (.int x2), .val (.int x3), .val (.int x4), .val (.int x5), .val (.int (4 : Int32)), .val (.int v0), .val (.int v1), .val (.int v2), .val (.int v3), .val (.ref a_645), .val (.int (1 : Int32)), .val (.int (1 : Int32)), .val (.int (0 : Int32)), .val (.int (0 : Int32)), .val (.ref a_1244), .unset, .unset]) at_206 (pc' := 208) rfl rfl rfl ?_
              refine go_iconst C (0 : Int32) at_208 (pc' := 209) rfl (by decide) ?_
              refine go_istore C (Ls' := #[.val (.int x0), .val (.int x1), .val (.int x2), .val (.int x3), .val (.int x4), .val (.int x5), .val (.int (4 : Int32)), .val (.int v0), .val (.int v1), .val (.int v2), .val (.int v3), .val (.ref a_645), .val (.int (1 : Int32)), .val (.int (1 : Int32)), .val (.int (0 : Int32)), .val (.int (0 : Int32)), .val (.ref a_1244), .val (.int (0 : Int32)), .unset]) at_209 (pc' := 211) rfl rfl ?_
              refine go_iload C at_211 (pc' := 213) rfl rfl ?_
              refine go_if0 C (1 : Int) (by decide) at_213 (by decide) (pc' := 226) (by decide) (pcN := 216) rfl (fun (c_1257 : (1 : Int) = 0) => by omega) (fun (c_1257 : ¬ (1 : Int) = 0) => ?_)
              refine go_aload C at_216 (pc' := 218) rfl rfl rfl ?_
              refine go_iload C at_218 (pc' := 220) rfl rfl ?_
              refine go_iload C at_220 (pc' := 222) rfl rfl ?_
              refine go_iastore C A_1256 0 (by decide) (show 0 < 4 from by decide) g_1250 at_222 (pc' := 223) rfl ?_
              intro h_1258 W_1259 A_1260
              have z_1261 : Z.heap.size ≤ h_1258.size := W_1259.size.symm ▸ z_1255
              have F_1262 := Fld.other W_1259 F_1251 (Or.inl n_1248)
              have F_1263 := Fld.other W_1259 F_1252 (Or.inl n_1248)
              have E_1264 := Exa.wr W_1259 E_1253
              have A_1265 := Av.other A_1254 W_1259 n_1249
              have A_1266 : Av Z h_1258 a_1244 .int [.int v0, .int (0 : Int32), .int (0 : Int32), .int (0 : Int32)] := A_1260
              refine go_iinc C (Ls' := #[.val (.int x0), .val (.int x1), .val (.int x2), .val (.int x3), .val (.int x4), .val (.int x5), .val (.int (4 : Int32)), .val (.int v0), .val (.int v1), .val (.int v2), .val (.int v3), .val (.ref a_645), .val (.int (1 : Int32)), .val (.int (1 : Int32)), .val (.int (0 : Int32)), .val (.int (0 : Int32)), .val (.ref a_1244), .val (.int ((0 : Int32) + (1 : Int32))), .unset]) (1 : Int32) at_223 (pc' := 226) rfl (by decide) rfl rfl ?_
              rw [(by decide : (0 : Int32) + (1 : Int32) = (1 : Int32))]
              refine go_iload C at_226 (pc' := 228) rfl rfl ?_
              refine go_if0 C (1 : Int) (by decide) at_228 (by decide) (pc' := 241) (by decide) (pcN := 231) rfl (fun (c_1267 : (1 : Int) = 0) => by omega) (fun (c_1267 : ¬ (1 : Int) = 0) => ?_)
              refine go_aload C at_231 (pc' := 233) rfl rfl rfl ?_
              refine go_iload C at_233 (pc' := 235) rfl rfl ?_
              refine go_iload C at_235 (pc' := 237) rfl rfl ?_
              refine go_iastore C A_1266 1 (by decide) (show 1 < 4 from by decide) g_1250 at_237 (pc' := 238) rfl ?_
              intro h_1268 W_1269 A_1270
              have z_1271 : Z.heap.size ≤ h_1268.size := W_1269.size.symm ▸ z_1261
              have F_1272 := Fld.other W_1269 F_1262 (Or.inl n_1248)
              have F_1273 := Fld.other W_1269 F_1263 (Or.inl n_1248)
              have E_1274 := Exa.wr W_1269 E_1264
              have A_1275 := Av.other A_1265 W_1269 n_1249
              have A_1276 : Av Z h_1268 a_1244 .int [.int v0, .int v1, .int (0 : Int32), .int (0 : Int32)] := A_1270
              refine go_iinc C (Ls' := #[.val (.int x0), .val (.int x1), .val (.int x2), .val (.int x3), .val (.int x4), .val (.int x5), .val (.int (4 : Int32)), .val (.int v0), .val (.int v1), .val (.int v2), .val (.int v3), .val (.ref a_645), .val (.int (1 : Int32)), .val (.int (1 : Int32)), .val (.int (0 : Int32)), .val (.int (0 : Int32)), .val (.ref a_1244), .val (.int ((1 : Int32) + (1 : Int32))), .unset]) (1 : Int32) at_238 (pc' := 241) rfl (by decide) rfl rfl ?_
              rw [(by decide : (1 : Int32) + (1 : Int32) = (2 : Int32))]
              refine go_iload C at_241 (pc' := 243) rfl rfl ?_
              refine go_if0 C (0 : Int) (by decide) at_243 (by decide) (pc' := 256) (by decide) (pcN := 246) rfl (fun (c_1277 : (0 : Int) = 0) => ?_) (fun (c_1277 : ¬ (0 : Int) = 0) => by omega)
              refine go_iload C at_256 (pc' := 258) rfl rfl ?_
              refine go_if0 C (0 : Int) (by decide) at_258 (by decide) (pc' := 271) (by decide) (pcN := 261) rfl (fun (c_1278 : (0 : Int) = 0) => ?_) (fun (c_1278 : ¬ (0 : Int) = 0) => by omega)
              refine go_aload C at_271 (pc' := 273) rfl rfl rfl ?_
              refine go_virtualP C (as := []) (rest := []) (W := 0) (.int (2 : Int32)) (sat_size l Z a0 hw a_645 _ _ _ F_1273) E_1274 (wd hw 23 rfl) (wd hw 24 rfl) (wd hw 26 rfl) (wd hw 25 rfl) (wd hw 6 rfl) (wd hw 27 rfl) (by decide) pd_3 rfl rfl rfl (by decide) (by decide) rfl rfl (by decide) (by decide) at_273 (pc' := 276) rfl rfl ?_
              refine go_iload C at_276 (pc' := 278) rfl rfl ?_
              refine go_icmp C (2 : Int) (2 : Int) (by decide) (by decide) at_278 (by decide) (pc' := 283) (by decide) (pcN := 281) rfl (fun (c_1279 : (2 : Int) = (2 : Int)) => ?_) (fun (c_1279 : ¬ (2 : Int) = (2 : Int)) => by omega)
              refine go_iconst C (1 : Int32) at_283 (pc' := 284) rfl (by decide) ?_
              refine go_istore C (Ls' := #[.val (.int x0), .val (.int x1), .val (.int x2), .val (.int x3), .val (.int x4), .val (.int x5), .val (.int (4 : Int32)), .val (.int v0), .val (.int v1), .val (.int v2), .val (.int v3), .val (.ref a_645), .val (.int (1 : Int32)), .val (.int (1 : Int32)), .val (.int (0 : Int32)), .val (.int (0 : Int32)), .val (.ref a_1244), .val (.int (2 : Int32)), .val (.int (1 : Int32))]) at_284 (pc' := 286) rfl rfl ?_
              refine go_iload C at_286 (pc' := 288) rfl rfl ?_
              refine go_if0 C (2 : Int) (by decide) at_288 (by decide) (pc' := 316) (by decide) (pcN := 291) rfl (fun (c_1280 : ¬ 0 < (2 : Int)) => by omega) (fun (c_1280 : 0 < (2 : Int)) => ?_)
              refine go_iload C at_291 (pc' := 293) rfl rfl ?_
              refine go_if0 C (1 : Int) (by decide) at_293 (by decide) (pc' := 313) (by decide) (pcN := 296) rfl (fun (c_1281 : (1 : Int) = 0) => by omega) (fun (c_1281 : ¬ (1 : Int) = 0) => ?_)
              refine go_aload C at_296 (pc' := 298) rfl rfl rfl ?_
              refine go_iconst C (0 : Int32) at_298 (pc' := 299) rfl (by decide) ?_
              refine go_virtualP C (as := [.int (0 : Int32)]) (rest := []) (W := 0) (.int v0) (sat_get l Z a0 hw a_645 r_656 (0 : Int32) v0 0 [.int v0, .int v1, .int v2, .int v3, .int (0 : Int32), .int (0 : Int32), .int (0 : Int32), .int (0 : Int32)] _ _ F_1272 A_1275 (by decide) rfl) E_1274 (wd hw 33 rfl) (wd hw 34 rfl) (wd hw 36 rfl) (wd hw 35 rfl) (wd hw 6 rfl) (wd hw 37 rfl) (by decide) pd_5 rfl rfl rfl (by decide) (by decide) rfl rfl (by decide) (by decide) at_299 (pc' := 302) rfl rfl ?_
              refine go_aload C at_302 (pc' := 304) rfl rfl rfl ?_
              refine go_iconst C (0 : Int32) at_304 (pc' := 305) rfl (by decide) ?_
              refine go_iaload C A_1276 0 (.int v0) (by decide) rfl at_305 (pc' := 306) rfl ?_
              refine go_icmp C v0.toInt v0.toInt rfl rfl at_306 (by decide) (pc' := 313) (by decide) (pcN := 309) rfl (fun (c_1282 : ¬ v0.toInt = v0.toInt) => by omega) (fun (c_1282 : v0.toInt = v0.toInt) => ?_)
              refine go_iconst C (1 : Int32) at_309 (pc' := 310) rfl (by decide) ?_
              refine go_goto C at_310 (by decide) (pc' := 314) (by decide) ?_
              refine go_istore C (Ls' := #[.val (.int x0), .val (.int x1), .val (.int x2), .val (.int x3), .val (.int x4), .val (.int x5), .val (.int (4 : Int32)), .val (.int v0), .val (.int v1), .val (.int v2), .val (.int v3), .val (.ref a_645), .val (.int (1 : Int32)), .val (.int (1 : Int32)), .val (.int (0 : Int32)), .val (.int (0 : Int32)), .val (.ref a_1244), .val (.int (2 : Int32)), .val (.int (1 : Int32))]) at_314 (pc' := 316) rfl rfl ?_
              refine go_iload C at_316 (pc' := 318) rfl rfl ?_
              refine go_iconst C (1 : Int32) at_318 (pc' := 319) rfl (by decide) ?_
              refine go_icmp C (2 : Int) (1 : Int) (by decide) (by decide) at_319 (by decide) (pc' := 347) (by decide) (pcN := 322) rfl (fun (c_1283 : ¬ (1 : Int) < (2 : Int)) => by omega) (fun (c_1283 : (1 : Int) < (2 : Int)) => ?_)
              refine go_iload C at_322 (pc' := 324) rfl rfl ?_
              refine go_if0 C (1 : Int) (by decide) at_324 (by decide) (pc' := 344) (by decide) (pcN := 327) rfl (fun (c_1284 : (1 : Int) = 0) => by omega) (fun (c_1284 : ¬ (1 : Int) = 0) => ?_)
              refine go_aload C at_327 (pc' := 329) rfl rfl rfl ?_
              refine go_iconst C (1 : Int32) at_329 (pc' := 330) rfl (by decide) ?_
              refine go_virtualP C (as := [.int (1 : Int32)]) (rest := []) (W := 0) (.int v1) (sat_get l Z a0 hw a_645 r_656 (1 : Int32) v1 1 [.int v0, .int v1, .int v2, .int v3, .int (0 : Int32), .int (0 : Int32), .int (0 : Int32), .int (0 : Int32)] _ _ F_1272 A_1275 (by decide) rfl) E_1274 (wd hw 33 rfl) (wd hw 34 rfl) (wd hw 36 rfl) (wd hw 35 rfl) (wd hw 6 rfl) (wd hw 37 rfl) (by decide) pd_5 rfl rfl rfl (by decide) (by decide) rfl rfl (by decide) (by decide) at_330 (pc' := 333) rfl rfl ?_
              refine go_aload C at_333 (pc' := 335) rfl rfl rfl ?_
              refine go_iconst C (1 : Int32) at_335 (pc' := 336) rfl (by decide) ?_
              refine go_iaload C A_1276 1 (.int v1) (by decide) rfl at_336 (pc' := 337) rfl ?_
              refine go_icmp C v1.toInt v1.toInt rfl rfl at_337 (by decide) (pc' := 344) (by decide) (pcN := 340) rfl (fun (c_1285 : ¬ v1.toInt = v1.toInt) => by omega) (fun (c_1285 : v1.toInt = v1.toInt) => ?_)
              refine go_iconst C (1 : Int32) at_340 (pc' := 341) rfl (by decide) ?_
              refine go_goto C at_341 (by decide) (pc' := 345) (by decide) ?_
              refine go_istore C (Ls' := #[.val (.int x0), .val (.int x1), .val (.int x2), .val (.int x3), .val (.int x4), .val (.int x5), .val (.int (4 : Int32)), .val (.int v0), .val (.int v1), .val (.int v2), .val (.int v3), .val (.ref a_645), .val (.int (1 : Int32)), .val (.int (1 : Int32)), .val (.int (0 : Int32)), .val (.int (0 : Int32)), .val (.ref a_1244), .val (.int (2 : Int32)), .val (.int (1 : Int32))]) at_345 (pc' := 347) rfl rfl ?_
              refine go_iload C at_347 (pc' := 349) rfl rfl ?_
              refine go_iconst C (2 : Int32) at_349 (pc' := 350) rfl (by decide) ?_
              refine go_icmp C (2 : Int) (2 : Int) (by decide) (by decide) at_350 (by decide) (pc' := 378) (by decide) (pcN := 353) rfl (fun (c_1286 : ¬ (2 : Int) < (2 : Int)) => ?_) (fun (c_1286 : (2 : Int) < (2 : Int)) => by omega)
              refine go_iload C at_378 (pc' := 380) rfl rfl ?_
              refine go_iconst C (3 : Int32) at_380 (pc' := 381) rfl (by decide) ?_
              refine go_icmp C (2 : Int) (3 : Int) (by decide) (by decide) at_381 (by decide) (pc' := 409) (by decide) (pcN := 384) rfl (fun (c_1287 : ¬ (3 : Int) < (2 : Int)) => ?_) (fun (c_1287 : (3 : Int) < (2 : Int)) => by omega)
              refine go_iload C at_409 (pc' := 411) rfl rfl ?_
              refine go_ireturnN C (z' := (1 : Int32)) rfl (by simp) rfl at_411 (by decide) (by decide) ?_
              exact ⟨_, rfl, rfl⟩
    · skip
      rcases (by omega : (¬ v2.toInt = v0.toInt ∧ ¬ v2.toInt = v1.toInt) ∨ (v2.toInt = v0.toInt ∨ v2.toInt = v1.toInt)) with hf2 | hf2
      · skip
        rcases (by omega : (¬ v3.toInt = v0.toInt ∧ ¬ v3.toInt = v1.toInt ∧ ¬ v3.toInt = v2.toInt) ∨ (v3.toInt = v0.toInt ∨ v3.toInt = v1.toInt ∨ v3.toInt = v2.toInt)) with hf3 | hf3
        · skip
          refine go_virtualN C (as := []) (rest := []) (W := 0) (sat_rd4ftt l Z a0 hw a_645 r_656 v0 v1 v2 v3 _ _ hf1 hf2 hf3 E_687 F_688 F_689 A_690 g_650 g_657) E_687 (wd hw 16 rfl) (wd hw 17 rfl) (wd hw 19 rfl) (wd hw 18 rfl) (wd hw 6 rfl) (wd hw 20 rfl) (by decide) pd_2 rfl rfl rfl (by decide) (by decide) (ce' := 2) (sl' := 10) rfl rfl (by decide) (by decide) at_107 (pc' := 110) rfl rfl ?_
          intro h_1288 q_1289
          obtain ⟨E_1290, F_1291, F_1292, A_1293⟩ := q_1289
          refine go_iload C at_110 (pc' := 112) rfl rfl ?_
          refine go_if0 C (4 : Int) (by decide) at_112 (by decide) (pc' := 119) (by decide) (pcN := 115) rfl (fun (c_1294 : ¬ 0 < (4 : Int)) => by omega) (fun (c_1294 : 0 < (4 : Int)) => ?_)
          refine go_iconst C (1 : Int32) at_115 (pc' := 116) rfl (by decide) ?_
          refine go_goto C at_116 (by decide) (pc' := 120) (by decide) ?_
          refine go_istore C (Ls' := #[.val (.int x0), .val (.int x1), .val (.int x2), .val (.int x3), .val (.int x4), .val (.int x5), .val (.int (4 : Int32)), .val (.int v0), .val (.int v1), .val (.int v2), .val (.int v3), .val (.ref a_645), .val (.int (1 : Int32)), .unset, .unset, .unset, .unset, .unset, .unset]) at_120 (pc' := 122) rfl rfl ?_
          refine go_iload C at_122 (pc' := 124) rfl rfl ?_
          refine go_iconst C (1 : Int32) at_124 (pc' := 125) rfl (by decide) ?_
          refine go_icmp C (4 : Int) (1 : Int) (by decide) (by decide) at_125 (by decide) (pc' := 139) (by decide) (pcN := 128) rfl (fun (c_1295 : ¬ (1 : Int) < (4 : Int)) => by omega) (fun (c_1295 : (1 : Int) < (4 : Int)) => ?_)
          refine go_iload C at_128 (pc' := 130) rfl rfl ?_
          refine go_iload C at_130 (pc' := 132) rfl rfl ?_
          refine go_icmp C v1.toInt v0.toInt rfl rfl at_132 (by decide) (pc' := 139) (by decide) (pcN := 135) rfl (fun (c_1296 : v1.toInt = v0.toInt) => ?_) (fun (c_1296 : ¬ v1.toInt = v0.toInt) => by omega)
          refine go_iconst C (0 : Int32) at_139 (pc' := 140) rfl (by decide) ?_
          refine go_istore C (Ls' := #[.val (.int x0), .val (.int x1), .val (.int x2), .val (.int x3), .val (.int x4), .val (.int x5), .val (.int (4 : Int32)), .val (.int v0), .val (.int v1), .val (.int v2), .val (.int v3), .val (.ref a_645), .val (.int (1 : Int32)), .val (.int (0 : Int32)), .unset, .unset, .unset, .unset, .unset]) at_140 (pc' := 142) rfl rfl ?_
          refine go_iload C at_142 (pc' := 144) rfl rfl ?_
          refine go_iconst C (2 : Int32) at_144 (pc' := 145) rfl (by decide) ?_
          refine go_icmp C (4 : Int) (2 : Int) (by decide) (by decide) at_145 (by decide) (pc' := 166) (by decide) (pcN := 148) rfl (fun (c_1297 : ¬ (2 : Int) < (4 : Int)) => by omega) (fun (c_1297 : (2 : Int) < (4 : Int)) => ?_)
          refine go_iload C at_148 (pc' := 150) rfl rfl ?_
          refine go_iload C at_150 (pc' := 152) rfl rfl ?_
          refine go_icmp C v2.toInt v0.toInt rfl rfl at_152 (by decide) (pc' := 166) (by decide) (pcN := 155) rfl (fun (c_1298 : v2.toInt = v0.toInt) => by omega) (fun (c_1298 : ¬ v2.toInt = v0.toInt) => ?_)
          refine go_iload C at_155 (pc' := 157) rfl rfl ?_
          refine go_iload C at_157 (pc' := 159) rfl rfl ?_
          refine go_icmp C v2.toInt v1.toInt rfl rfl at_159 (by decide) (pc' := 166) (by decide) (pcN := 162) rfl (fun (c_1299 : v2.toInt = v1.toInt) => by omega) (fun (c_1299 : ¬ v2.toInt = v1.toInt) => ?_)
          refine go_iconst C (1 : Int32) at_162 (pc' := 163) rfl (by decide) ?_
          refine go_goto C at_163 (by decide) (pc' := 167) (by decide) ?_
          refine go_istore C (Ls' := #[.val (.int x0), .val (.int x1), .val (.int x2), .val (.int x3), .val (.int x4), .val (.int x5), .val (.int (4 : Int32)), .val (.int v0), .val (.int v1), .val (.int v2), .val (.int v3), .val (.ref a_645), .val (.int (1 : Int32)), .val (.int (0 : Int32)), .val (.int (1 : Int32)), .unset, .unset, .unset, .unset]) at_167 (pc' := 169) rfl rfl ?_
          refine go_iload C at_169 (pc' := 171) rfl rfl ?_
          refine go_iconst C (3 : Int32) at_171 (pc' := 172) rfl (by decide) ?_
          refine go_icmp C (4 : Int) (3 : Int) (by decide) (by decide) at_172 (by decide) (pc' := 200) (by decide) (pcN := 175) rfl (fun (c_1300 : ¬ (3 : Int) < (4 : Int)) => by omega) (fun (c_1300 : (3 : Int) < (4 : Int)) => ?_)
          refine go_iload C at_175 (pc' := 177) rfl rfl ?_
          refine go_iload C at_177 (pc' := 179) rfl rfl ?_
          refine go_icmp C v3.toInt v0.toInt rfl rfl at_179 (by decide) (pc' := 200) (by decide) (pcN := 182) rfl (fun (c_1301 : v3.toInt = v0.toInt) => by omega) (fun (c_1301 : ¬ v3.toInt = v0.toInt) => ?_)
          refine go_iload C at_182 (pc' := 184) rfl rfl ?_
          refine go_iload C at_184 (pc' := 186) rfl rfl ?_
          refine go_icmp C v3.toInt v1.toInt rfl rfl at_186 (by decide) (pc' := 200) (by decide) (pcN := 189) rfl (fun (c_1302 : v3.toInt = v1.toInt) => by omega) (fun (c_1302 : ¬ v3.toInt = v1.toInt) => ?_)
          refine go_iload C at_189 (pc' := 191) rfl rfl ?_
          refine go_iload C at_191 (pc' := 193) rfl rfl ?_
          refine go_icmp C v3.toInt v2.toInt rfl rfl at_193 (by decide) (pc' := 200) (by decide) (pcN := 196) rfl (fun (c_1303 : v3.toInt = v2.toInt) => by omega) (fun (c_1303 : ¬ v3.toInt = v2.toInt) => ?_)
          refine go_iconst C (1 : Int32) at_196 (pc' := 197) rfl (by decide) ?_
          refine go_goto C at_197 (by decide) (pc' := 201) (by decide) ?_
          refine go_istore C (Ls' := #[.val (.int x0), .val (.int x1), .val (.int x2), .val (.int x3), .val (.int x4), .val (.int x5), .val (.int (4 : Int32)), .val (.int v0), .val (.int v1), .val (.int v2), .val (.int v3), .val (.ref a_645), .val (.int (1 : Int32)), .val (.int (0 : Int32)), .val (.int (1 : Int32)), .val (.int (1 : Int32)), .unset, .unset, .unset]) at_201 (pc' := 203) rfl rfl ?_
          refine go_iconst C (4 : Int32) at_203 (pc' := 204) rfl (by decide) ?_
          refine go_newarray C (wd hw 13 rfl) rfl 4 4 (by decide) (by decide) (by decide) (ce' := 3) (sl' := 14) rfl rfl (by decide) (by decide) at_204 (pc' := 206) rfl ?_
          intro h_1304 a_1305 g_1306 E_1307 A_1308
          have n_1309 : a_645 ≠ a_1305 := own_ne_new E_1290.lt g_1306
          have n_1310 : r_656 ≠ a_1305 := own_ne_new A_1293.lt g_1306
          have g_1311 : Z.heap.size ≤ a_1305 := own_ge (Nat.le_of_lt (Nat.lt_of_le_of_lt g_650 E_1290.lt)) g_1306
          have F_1312 := Fld.ext E_1307 F_1291
          have F_1313 := Fld.ext E_1307 F_1292
          have E_1314 := Exa.ext E_1307 E_1290
          have A_1315 := Av.ext A_1293 E_1307
          have z_1316 : Z.heap.size ≤ h_1304.size := Nat.le_trans (Nat.le_of_lt (Nat.lt_of_le_of_lt g_650 E_1290.lt)) E_1307.1
          have A_1317 : Av Z h_1304 a_1305 .int [.int (0 : Int32), .int (0 : Int32), .int (0 : Int32), .int (0 : Int32)] := A_1308
          refine go_astore C (Ls' := #[.val (.int x0), .val (.int x1), .val (.int x2), .val (.int x3), .val (.int x4), .val (.int x5), .val (.int (4 : Int32)), .val (.int v0), .val (.int v1), .val (.int v2), .val (.int v3), .val (.ref a_645), .val (.int (1 : Int32)), .val (.int (0 : Int32)), .val (.int (1 : Int32)), .val (.int (1 : Int32)), .val (.ref a_1305), .unset, .unset]) at_206 (pc' := 208) rfl rfl rfl ?_
          refine go_iconst C (0 : Int32) at_208 (pc' := 209) rfl (by decide) ?_
          refine go_istore C (Ls' := #[.val (.int x0), .val (.int x1), .val (.int x2), .val (.int x3), .val (.int x4), .val (.int x5), .val (.int (4 : Int32)), .val (.int v0), .val (.int v1), .val (.int v2), .val (.int v3), .val (.ref a_645), .val (.int (1 : Int32)), .val (.int (0 : Int32)), .val (.int (1 : Int32)), .val (.int (1 : Int32)), .val (.ref a_1305), .val (.int (0 : Int32)), .unset]) at_209 (pc' := 211) rfl rfl ?_
          refine go_iload C at_211 (pc' := 213) rfl rfl ?_
          refine go_if0 C (1 : Int) (by decide) at_213 (by decide) (pc' := 226) (by decide) (pcN := 216) rfl (fun (c_1318 : (1 : Int) = 0) => by omega) (fun (c_1318 : ¬ (1 : Int) = 0) => ?_)
          refine go_aload C at_216 (pc' := 218) rfl rfl rfl ?_
          refine go_iload C at_218 (pc' := 220) rfl rfl ?_
          refine go_iload C at_220 (pc' := 222) rfl rfl ?_
          refine go_iastore C A_1317 0 (by decide) (show 0 < 4 from by decide) g_1311 at_222 (pc' := 223) rfl ?_
          intro h_1319 W_1320 A_1321
          have z_1322 : Z.heap.size ≤ h_1319.size := W_1320.size.symm ▸ z_1316
          have F_1323 := Fld.other W_1320 F_1312 (Or.inl n_1309)
          have F_1324 := Fld.other W_1320 F_1313 (Or.inl n_1309)
          have E_1325 := Exa.wr W_1320 E_1314
          have A_1326 := Av.other A_1315 W_1320 n_1310
          have A_1327 : Av Z h_1319 a_1305 .int [.int v0, .int (0 : Int32), .int (0 : Int32), .int (0 : Int32)] := A_1321
          refine go_iinc C (Ls' := #[.val (.int x0), .val (.int x1), .val (.int x2), .val (.int x3), .val (.int x4), .val (.int x5), .val (.int (4 : Int32)), .val (.int v0), .val (.int v1), .val (.int v2), .val (.int v3), .val (.ref a_645), .val (.int (1 : Int32)), .val (.int (0 : Int32)), .val (.int (1 : Int32)), .val (.int (1 : Int32)), .val (.ref a_1305), .val (.int ((0 : Int32) + (1 : Int32))), .unset]) (1 : Int32) at_223 (pc' := 226) rfl (by decide) rfl rfl ?_
          rw [(by decide : (0 : Int32) + (1 : Int32) = (1 : Int32))]
          refine go_iload C at_226 (pc' := 228) rfl rfl ?_
          refine go_if0 C (0 : Int) (by decide) at_228 (by decide) (pc' := 241) (by decide) (pcN := 231) rfl (fun (c_1328 : (0 : Int) = 0) => ?_) (fun (c_1328 : ¬ (0 : Int) = 0) => by omega)
          refine go_iload C at_241 (pc' := 243) rfl rfl ?_
          refine go_if0 C (1 : Int) (by decide) at_243 (by decide) (pc' := 256) (by decide) (pcN := 246) rfl (fun (c_1329 : (1 : Int) = 0) => by omega) (fun (c_1329 : ¬ (1 : Int) = 0) => ?_)
          refine go_aload C at_246 (pc' := 248) rfl rfl rfl ?_
          refine go_iload C at_248 (pc' := 250) rfl rfl ?_
          refine go_iload C at_250 (pc' := 252) rfl rfl ?_
          refine go_iastore C A_1327 1 (by decide) (show 1 < 4 from by decide) g_1311 at_252 (pc' := 253) rfl ?_
          intro h_1330 W_1331 A_1332
          have z_1333 : Z.heap.size ≤ h_1330.size := W_1331.size.symm ▸ z_1322
          have F_1334 := Fld.other W_1331 F_1323 (Or.inl n_1309)
          have F_1335 := Fld.other W_1331 F_1324 (Or.inl n_1309)
          have E_1336 := Exa.wr W_1331 E_1325
          have A_1337 := Av.other A_1326 W_1331 n_1310
          have A_1338 : Av Z h_1330 a_1305 .int [.int v0, .int v2, .int (0 : Int32), .int (0 : Int32)] := A_1332
          refine go_iinc C (Ls' := #[.val (.int x0), .val (.int x1), .val (.int x2), .val (.int x3), .val (.int x4), .val (.int x5), .val (.int (4 : Int32)), .val (.int v0), .val (.int v1), .val (.int v2), .val (.int v3), .val (.ref a_645), .val (.int (1 : Int32)), .val (.int (0 : Int32)), .val (.int (1 : Int32)), .val (.int (1 : Int32)), .val (.ref a_1305), .val (.int ((1 : Int32) + (1 : Int32))), .unset]) (1 : Int32) at_253 (pc' := 256) rfl (by decide) rfl rfl ?_
          rw [(by decide : (1 : Int32) + (1 : Int32) = (2 : Int32))]
          refine go_iload C at_256 (pc' := 258) rfl rfl ?_
          refine go_if0 C (1 : Int) (by decide) at_258 (by decide) (pc' := 271) (by decide) (pcN := 261) rfl (fun (c_1339 : (1 : Int) = 0) => by omega) (fun (c_1339 : ¬ (1 : Int) = 0) => ?_)
          refine go_aload C at_261 (pc' := 263) rfl rfl rfl ?_
          refine go_iload C at_263 (pc' := 265) rfl rfl ?_
          refine go_iload C at_265 (pc' := 267) rfl rfl ?_
          refine go_iastore C A_1338 2 (by decide) (show 2 < 4 from by decide) g_1311 at_267 (pc' := 268) rfl ?_
          intro h_1340 W_1341 A_1342
          have z_1343 : Z.heap.size ≤ h_1340.size := W_1341.size.symm ▸ z_1333
          have F_1344 := Fld.other W_1341 F_1334 (Or.inl n_1309)
          have F_1345 := Fld.other W_1341 F_1335 (Or.inl n_1309)
          have E_1346 := Exa.wr W_1341 E_1336
          have A_1347 := Av.other A_1337 W_1341 n_1310
          have A_1348 : Av Z h_1340 a_1305 .int [.int v0, .int v2, .int v3, .int (0 : Int32)] := A_1342
          refine go_iinc C (Ls' := #[.val (.int x0), .val (.int x1), .val (.int x2), .val (.int x3), .val (.int x4), .val (.int x5), .val (.int (4 : Int32)), .val (.int v0), .val (.int v1), .val (.int v2), .val (.int v3), .val (.ref a_645), .val (.int (1 : Int32)), .val (.int (0 : Int32)), .val (.int (1 : Int32)), .val (.int (1 : Int32)), .val (.ref a_1305), .val (.int ((2 : Int32) + (1 : Int32))), .unset]) (1 : Int32) at_268 (pc' := 271) rfl (by decide) rfl rfl ?_
          rw [(by decide : (2 : Int32) + (1 : Int32) = (3 : Int32))]
          refine go_aload C at_271 (pc' := 273) rfl rfl rfl ?_
          refine go_virtualP C (as := []) (rest := []) (W := 0) (.int (3 : Int32)) (sat_size l Z a0 hw a_645 _ _ _ F_1345) E_1346 (wd hw 23 rfl) (wd hw 24 rfl) (wd hw 26 rfl) (wd hw 25 rfl) (wd hw 6 rfl) (wd hw 27 rfl) (by decide) pd_3 rfl rfl rfl (by decide) (by decide) rfl rfl (by decide) (by decide) at_273 (pc' := 276) rfl rfl ?_
          refine go_iload C at_276 (pc' := 278) rfl rfl ?_
          refine go_icmp C (3 : Int) (3 : Int) (by decide) (by decide) at_278 (by decide) (pc' := 283) (by decide) (pcN := 281) rfl (fun (c_1349 : (3 : Int) = (3 : Int)) => ?_) (fun (c_1349 : ¬ (3 : Int) = (3 : Int)) => by omega)
          refine go_iconst C (1 : Int32) at_283 (pc' := 284) rfl (by decide) ?_
          refine go_istore C (Ls' := #[.val (.int x0), .val (.int x1), .val (.int x2), .val (.int x3), .val (.int x4), .val (.int x5), .val (.int (4 : Int32)), .val (.int v0), .val (.int v1), .val (.int v2), .val (.int v3), .val (.ref a_645), .val (.int (1 : Int32)), .val (.int (0 : Int32)), .val (.int (1 : Int32)), .val (.int (1 : Int32)), .val (.ref a_1305), .val (.int (3 : Int32)), .val (.int (1 : Int32))]) at_284 (pc' := 286) rfl rfl ?_
          refine go_iload C at_286 (pc' := 288) rfl rfl ?_
          refine go_if0 C (3 : Int) (by decide) at_288 (by decide) (pc' := 316) (by decide) (pcN := 291) rfl (fun (c_1350 : ¬ 0 < (3 : Int)) => by omega) (fun (c_1350 : 0 < (3 : Int)) => ?_)
          refine go_iload C at_291 (pc' := 293) rfl rfl ?_
          refine go_if0 C (1 : Int) (by decide) at_293 (by decide) (pc' := 313) (by decide) (pcN := 296) rfl (fun (c_1351 : (1 : Int) = 0) => by omega) (fun (c_1351 : ¬ (1 : Int) = 0) => ?_)
          refine go_aload C at_296 (pc' := 298) rfl rfl rfl ?_
          refine go_iconst C (0 : Int32) at_298 (pc' := 299) rfl (by decide) ?_
          refine go_virtualP C (as := [.int (0 : Int32)]) (rest := []) (W := 0) (.int v0) (sat_get l Z a0 hw a_645 r_656 (0 : Int32) v0 0 [.int v0, .int v2, .int v3, .int v3, .int (0 : Int32), .int (0 : Int32), .int (0 : Int32), .int (0 : Int32)] _ _ F_1344 A_1347 (by decide) rfl) E_1346 (wd hw 33 rfl) (wd hw 34 rfl) (wd hw 36 rfl) (wd hw 35 rfl) (wd hw 6 rfl) (wd hw 37 rfl) (by decide) pd_5 rfl rfl rfl (by decide) (by decide) rfl rfl (by decide) (by decide) at_299 (pc' := 302) rfl rfl ?_
          refine go_aload C at_302 (pc' := 304) rfl rfl rfl ?_
          refine go_iconst C (0 : Int32) at_304 (pc' := 305) rfl (by decide) ?_
          refine go_iaload C A_1348 0 (.int v0) (by decide) rfl at_305 (pc' := 306) rfl ?_
          refine go_icmp C v0.toInt v0.toInt rfl rfl at_306 (by decide) (pc' := 313) (by decide) (pcN := 309) rfl (fun (c_1352 : ¬ v0.toInt = v0.toInt) => by omega) (fun (c_1352 : v0.toInt = v0.toInt) => ?_)
          refine go_iconst C (1 : Int32) at_309 (pc' := 310) rfl (by decide) ?_
          refine go_goto C at_310 (by decide) (pc' := 314) (by decide) ?_
          refine go_istore C (Ls' := #[.val (.int x0), .val (.int x1), .val (.int x2), .val (.int x3), .val (.int x4), .val (.int x5), .val (.int (4 : Int32)), .val (.int v0), .val (.int v1), .val (.int v2), .val (.int v3), .val (.ref a_645), .val (.int (1 : Int32)), .val (.int (0 : Int32)), .val (.int (1 : Int32)), .val (.int (1 : Int32)), .val (.ref a_1305), .val (.int (3 : Int32)), .val (.int (1 : Int32))]) at_314 (pc' := 316) rfl rfl ?_
          refine go_iload C at_316 (pc' := 318) rfl rfl ?_
          refine go_iconst C (1 : Int32) at_318 (pc' := 319) rfl (by decide) ?_
          refine go_icmp C (3 : Int) (1 : Int) (by decide) (by decide) at_319 (by decide) (pc' := 347) (by decide) (pcN := 322) rfl (fun (c_1353 : ¬ (1 : Int) < (3 : Int)) => by omega) (fun (c_1353 : (1 : Int) < (3 : Int)) => ?_)
          refine go_iload C at_322 (pc' := 324) rfl rfl ?_
          refine go_if0 C (1 : Int) (by decide) at_324 (by decide) (pc' := 344) (by decide) (pcN := 327) rfl (fun (c_1354 : (1 : Int) = 0) => by omega) (fun (c_1354 : ¬ (1 : Int) = 0) => ?_)
          refine go_aload C at_327 (pc' := 329) rfl rfl rfl ?_
          refine go_iconst C (1 : Int32) at_329 (pc' := 330) rfl (by decide) ?_
          refine go_virtualP C (as := [.int (1 : Int32)]) (rest := []) (W := 0) (.int v2) (sat_get l Z a0 hw a_645 r_656 (1 : Int32) v2 1 [.int v0, .int v2, .int v3, .int v3, .int (0 : Int32), .int (0 : Int32), .int (0 : Int32), .int (0 : Int32)] _ _ F_1344 A_1347 (by decide) rfl) E_1346 (wd hw 33 rfl) (wd hw 34 rfl) (wd hw 36 rfl) (wd hw 35 rfl) (wd hw 6 rfl) (wd hw 37 rfl) (by decide) pd_5 rfl rfl rfl (by decide) (by decide) rfl rfl (by decide) (by decide) at_330 (pc' := 333) rfl rfl ?_
          refine go_aload C at_333 (pc' := 335) rfl rfl rfl ?_
          refine go_iconst C (1 : Int32) at_335 (pc' := 336) rfl (by decide) ?_
          refine go_iaload C A_1348 1 (.int v2) (by decide) rfl at_336 (pc' := 337) rfl ?_
          refine go_icmp C v2.toInt v2.toInt rfl rfl at_337 (by decide) (pc' := 344) (by decide) (pcN := 340) rfl (fun (c_1355 : ¬ v2.toInt = v2.toInt) => by omega) (fun (c_1355 : v2.toInt = v2.toInt) => ?_)
          refine go_iconst C (1 : Int32) at_340 (pc' := 341) rfl (by decide) ?_
          refine go_goto C at_341 (by decide) (pc' := 345) (by decide) ?_
          refine go_istore C (Ls' := #[.val (.int x0), .val (.int x1), .val (.int x2), .val (.int x3), .val (.int x4), .val (.int x5), .val (.int (4 : Int32)), .val (.int v0), .val (.int v1), .val (.int v2), .val (.int v3), .val (.ref a_645), .val (.int (1 : Int32)), .val (.int (0 : Int32)), .val (.int (1 : Int32)), .val (.int (1 : Int32)), .val (.ref a_1305), .val (.int (3 : Int32)), .val (.int (1 : Int32))]) at_345 (pc' := 347) rfl rfl ?_
          refine go_iload C at_347 (pc' := 349) rfl rfl ?_
          refine go_iconst C (2 : Int32) at_349 (pc' := 350) rfl (by decide) ?_
          refine go_icmp C (3 : Int) (2 : Int) (by decide) (by decide) at_350 (by decide) (pc' := 378) (by decide) (pcN := 353) rfl (fun (c_1356 : ¬ (2 : Int) < (3 : Int)) => by omega) (fun (c_1356 : (2 : Int) < (3 : Int)) => ?_)
          refine go_iload C at_353 (pc' := 355) rfl rfl ?_
          refine go_if0 C (1 : Int) (by decide) at_355 (by decide) (pc' := 375) (by decide) (pcN := 358) rfl (fun (c_1357 : (1 : Int) = 0) => by omega) (fun (c_1357 : ¬ (1 : Int) = 0) => ?_)
          refine go_aload C at_358 (pc' := 360) rfl rfl rfl ?_
          refine go_iconst C (2 : Int32) at_360 (pc' := 361) rfl (by decide) ?_
          refine go_virtualP C (as := [.int (2 : Int32)]) (rest := []) (W := 0) (.int v3) (sat_get l Z a0 hw a_645 r_656 (2 : Int32) v3 2 [.int v0, .int v2, .int v3, .int v3, .int (0 : Int32), .int (0 : Int32), .int (0 : Int32), .int (0 : Int32)] _ _ F_1344 A_1347 (by decide) rfl) E_1346 (wd hw 33 rfl) (wd hw 34 rfl) (wd hw 36 rfl) (wd hw 35 rfl) (wd hw 6 rfl) (wd hw 37 rfl) (by decide) pd_5 rfl rfl rfl (by decide) (by decide) rfl rfl (by decide) (by decide) at_361 (pc' := 364) rfl rfl ?_
          refine go_aload C at_364 (pc' := 366) rfl rfl rfl ?_
          refine go_iconst C (2 : Int32) at_366 (pc' := 367) rfl (by decide) ?_
          refine go_iaload C A_1348 2 (.int v3) (by decide) rfl at_367 (pc' := 368) rfl ?_
          refine go_icmp C v3.toInt v3.toInt rfl rfl at_368 (by decide) (pc' := 375) (by decide) (pcN := 371) rfl (fun (c_1358 : ¬ v3.toInt = v3.toInt) => by omega) (fun (c_1358 : v3.toInt = v3.toInt) => ?_)
          refine go_iconst C (1 : Int32) at_371 (pc' := 372) rfl (by decide) ?_
          refine go_goto C at_372 (by decide) (pc' := 376) (by decide) ?_
          refine go_istore C (Ls' := #[.val (.int x0), .val (.int x1), .val (.int x2), .val (.int x3), .val (.int x4), .val (.int x5), .val (.int (4 : Int32)), .val (.int v0), .val (.int v1), .val (.int v2), .val (.int v3), .val (.ref a_645), .val (.int (1 : Int32)), .val (.int (0 : Int32)), .val (.int (1 : Int32)), .val (.int (1 : Int32)), .val (.ref a_1305), .val (.int (3 : Int32)), .val (.int (1 : Int32))]) at_376 (pc' := 378) rfl rfl ?_
          refine go_iload C at_378 (pc' := 380) rfl rfl ?_
          refine go_iconst C (3 : Int32) at_380 (pc' := 381) rfl (by decide) ?_
          refine go_icmp C (3 : Int) (3 : Int) (by decide) (by decide) at_381 (by decide) (pc' := 409) (by decide) (pcN := 384) rfl (fun (c_1359 : ¬ (3 : Int) < (3 : Int)) => ?_) (fun (c_1359 : (3 : Int) < (3 : Int)) => by omega)
          refine go_iload C at_409 (pc' := 411) rfl rfl ?_
          refine go_ireturnN C (z' := (1 : Int32)) rfl (by simp) rfl at_411 (by decide) (by decide) ?_
          exact ⟨_, rfl, rfl⟩
        · skip
          refine go_virtualN C (as := []) (rest := []) (W := 0) (sat_rd4ftf l Z a0 hw a_645 r_656 v0 v1 v2 v3 _ _ hf1 hf2 hf3 E_687 F_688 F_689 A_690 g_650 g_657) E_687 (wd hw 16 rfl) (wd hw 17 rfl) (wd hw 19 rfl) (wd hw 18 rfl) (wd hw 6 rfl) (wd hw 20 rfl) (by decide) pd_2 rfl rfl rfl (by decide) (by decide) (ce' := 2) (sl' := 10) rfl rfl (by decide) (by decide) at_107 (pc' := 110) rfl rfl ?_
          intro h_1360 q_1361
          obtain ⟨E_1362, F_1363, F_1364, A_1365⟩ := q_1361
          refine go_iload C at_110 (pc' := 112) rfl rfl ?_
          refine go_if0 C (4 : Int) (by decide) at_112 (by decide) (pc' := 119) (by decide) (pcN := 115) rfl (fun (c_1366 : ¬ 0 < (4 : Int)) => by omega) (fun (c_1366 : 0 < (4 : Int)) => ?_)
          refine go_iconst C (1 : Int32) at_115 (pc' := 116) rfl (by decide) ?_
          refine go_goto C at_116 (by decide) (pc' := 120) (by decide) ?_
          refine go_istore C (Ls' := #[.val (.int x0), .val (.int x1), .val (.int x2), .val (.int x3), .val (.int x4), .val (.int x5), .val (.int (4 : Int32)), .val (.int v0), .val (.int v1), .val (.int v2), .val (.int v3), .val (.ref a_645), .val (.int (1 : Int32)), .unset, .unset, .unset, .unset, .unset, .unset]) at_120 (pc' := 122) rfl rfl ?_
          refine go_iload C at_122 (pc' := 124) rfl rfl ?_
          refine go_iconst C (1 : Int32) at_124 (pc' := 125) rfl (by decide) ?_
          refine go_icmp C (4 : Int) (1 : Int) (by decide) (by decide) at_125 (by decide) (pc' := 139) (by decide) (pcN := 128) rfl (fun (c_1367 : ¬ (1 : Int) < (4 : Int)) => by omega) (fun (c_1367 : (1 : Int) < (4 : Int)) => ?_)
          refine go_iload C at_128 (pc' := 130) rfl rfl ?_
          refine go_iload C at_130 (pc' := 132) rfl rfl ?_
          refine go_icmp C v1.toInt v0.toInt rfl rfl at_132 (by decide) (pc' := 139) (by decide) (pcN := 135) rfl (fun (c_1368 : v1.toInt = v0.toInt) => ?_) (fun (c_1368 : ¬ v1.toInt = v0.toInt) => by omega)
          refine go_iconst C (0 : Int32) at_139 (pc' := 140) rfl (by decide) ?_
          refine go_istore C (Ls' := #[.val (.int x0), .val (.int x1), .val (.int x2), .val (.int x3), .val (.int x4), .val (.int x5), .val (.int (4 : Int32)), .val (.int v0), .val (.int v1), .val (.int v2), .val (.int v3), .val (.ref a_645), .val (.int (1 : Int32)), .val (.int (0 : Int32)), .unset, .unset, .unset, .unset, .unset]) at_140 (pc' := 142) rfl rfl ?_
          refine go_iload C at_142 (pc' := 144) rfl rfl ?_
          refine go_iconst C (2 : Int32) at_144 (pc' := 145) rfl (by decide) ?_
          refine go_icmp C (4 : Int) (2 : Int) (by decide) (by decide) at_145 (by decide) (pc' := 166) (by decide) (pcN := 148) rfl (fun (c_1369 : ¬ (2 : Int) < (4 : Int)) => by omega) (fun (c_1369 : (2 : Int) < (4 : Int)) => ?_)
          refine go_iload C at_148 (pc' := 150) rfl rfl ?_
          refine go_iload C at_150 (pc' := 152) rfl rfl ?_
          refine go_icmp C v2.toInt v0.toInt rfl rfl at_152 (by decide) (pc' := 166) (by decide) (pcN := 155) rfl (fun (c_1370 : v2.toInt = v0.toInt) => by omega) (fun (c_1370 : ¬ v2.toInt = v0.toInt) => ?_)
          refine go_iload C at_155 (pc' := 157) rfl rfl ?_
          refine go_iload C at_157 (pc' := 159) rfl rfl ?_
          refine go_icmp C v2.toInt v1.toInt rfl rfl at_159 (by decide) (pc' := 166) (by decide) (pcN := 162) rfl (fun (c_1371 : v2.toInt = v1.toInt) => by omega) (fun (c_1371 : ¬ v2.toInt = v1.toInt) => ?_)
          refine go_iconst C (1 : Int32) at_162 (pc' := 163) rfl (by decide) ?_
          refine go_goto C at_163 (by decide) (pc' := 167) (by decide) ?_
          refine go_istore C (Ls' := #[.val (.int x0), .val (.int x1), .val (.int x2), .val (.int x3), .val (.int x4), .val (.int x5), .val (.int (4 : Int32)), .val (.int v0), .val (.int v1), .val (.int v2), .val (.int v3), .val (.ref a_645), .val (.int (1 : Int32)), .val (.int (0 : Int32)), .val (.int (1 : Int32)), .unset, .unset, .unset, .unset]) at_167 (pc' := 169) rfl rfl ?_
          refine go_iload C at_169 (pc' := 171) rfl rfl ?_
          refine go_iconst C (3 : Int32) at_171 (pc' := 172) rfl (by decide) ?_
          refine go_icmp C (4 : Int) (3 : Int) (by decide) (by decide) at_172 (by decide) (pc' := 200) (by decide) (pcN := 175) rfl (fun (c_1372 : ¬ (3 : Int) < (4 : Int)) => by omega) (fun (c_1372 : (3 : Int) < (4 : Int)) => ?_)
          refine go_iload C at_175 (pc' := 177) rfl rfl ?_
          refine go_iload C at_177 (pc' := 179) rfl rfl ?_
          refine go_icmp C v3.toInt v0.toInt rfl rfl at_179 (by decide) (pc' := 200) (by decide) (pcN := 182) rfl (fun (c_1373 : v3.toInt = v0.toInt) => ?_) (fun (c_1373 : ¬ v3.toInt = v0.toInt) => ?_)
          · skip
            refine go_iconst C (0 : Int32) at_200 (pc' := 201) rfl (by decide) ?_
            refine go_istore C (Ls' := #[.val (.int x0), .val (.int x1), .val (.int x2), .val (.int x3), .val (.int x4), .val (.int x5), .val (.int (4 : Int32)), .val (.int v0), .val (.int v1), .val (.int v2), .val (.int v3), .val (.ref a_645), .val (.int (1 : Int32)), .val (.int (0 : Int32)), .val (.int (1 : Int32)), .val (.int (0 : Int32)), .unset, .unset, .unset]) at_201 (pc' := 203) rfl rfl ?_
            refine go_iconst C (4 : Int32) at_203 (pc' := 204) rfl (by decide) ?_
            refine go_newarray C (wd hw 13 rfl) rfl 4 4 (by decide) (by decide) (by decide) (ce' := 3) (sl' := 14) rfl rfl (by decide) (by decide) at_204 (pc' := 206) rfl ?_
            intro h_1374 a_1375 g_1376 E_1377 A_1378
            have n_1379 : a_645 ≠ a_1375 := own_ne_new E_1362.lt g_1376
            have n_1380 : r_656 ≠ a_1375 := own_ne_new A_1365.lt g_1376
            have g_1381 : Z.heap.size ≤ a_1375 := own_ge (Nat.le_of_lt (Nat.lt_of_le_of_lt g_650 E_1362.lt)) g_1376
            have F_1382 := Fld.ext E_1377 F_1363
            have F_1383 := Fld.ext E_1377 F_1364
            have E_1384 := Exa.ext E_1377 E_1362
            have A_1385 := Av.ext A_1365 E_1377
            have z_1386 : Z.heap.size ≤ h_1374.size := Nat.le_trans (Nat.le_of_lt (Nat.lt_of_le_of_lt g_650 E_1362.lt)) E_1377.1
            have A_1387 : Av Z h_1374 a_1375 .int [.int (0 : Int32), .int (0 : Int32), .int (0 : Int32), .int (0 : Int32)] := A_1378
            refine go_astore C (Ls' := #[.val (.int x0), .val (.int x1), .val (.int x2), .val (.int x3), .val (.int x4), .val (.int x5), .val (.int (4 : Int32)), .val (.int v0), .val (.int v1), .val (.int v2), .val (.int v3), .val (.ref a_645), .val (.int (1 : Int32)), .val (.int (0 : Int32)), .val (.int (1 : Int32)), .val (.int (0 : Int32)), .val (.ref a_1375), .unset, .unset]) at_206 (pc' := 208) rfl rfl rfl ?_
            refine go_iconst C (0 : Int32) at_208 (pc' := 209) rfl (by decide) ?_
            refine go_istore C (Ls' := #[.val (.int x0), .val (.int x1), .val (.int x2), .val (.int x3), .val (.int x4), .val (.int x5), .val (.int (4 : Int32)), .val (.int v0), .val (.int v1), .val (.int v2), .val (.int v3), .val (.ref a_645), .val (.int (1 : Int32)), .val (.int (0 : Int32)), .val (.int (1 : Int32)), .val (.int (0 : Int32)), .val (.ref a_1375), .val (.int (0 : Int32)), .unset]) at_209 (pc' := 211) rfl rfl ?_
            refine go_iload C at_211 (pc' := 213) rfl rfl ?_
            refine go_if0 C (1 : Int) (by decide) at_213 (by decide) (pc' := 226) (by decide) (pcN := 216) rfl (fun (c_1388 : (1 : Int) = 0) => by omega) (fun (c_1388 : ¬ (1 : Int) = 0) => ?_)
            refine go_aload C at_216 (pc' := 218) rfl rfl rfl ?_
            refine go_iload C at_218 (pc' := 220) rfl rfl ?_
            refine go_iload C at_220 (pc' := 222) rfl rfl ?_
            refine go_iastore C A_1387 0 (by decide) (show 0 < 4 from by decide) g_1381 at_222 (pc' := 223) rfl ?_
            intro h_1389 W_1390 A_1391
            have z_1392 : Z.heap.size ≤ h_1389.size := W_1390.size.symm ▸ z_1386
            have F_1393 := Fld.other W_1390 F_1382 (Or.inl n_1379)
            have F_1394 := Fld.other W_1390 F_1383 (Or.inl n_1379)
            have E_1395 := Exa.wr W_1390 E_1384
            have A_1396 := Av.other A_1385 W_1390 n_1380
            have A_1397 : Av Z h_1389 a_1375 .int [.int v0, .int (0 : Int32), .int (0 : Int32), .int (0 : Int32)] := A_1391
            refine go_iinc C (Ls' := #[.val (.int x0), .val (.int x1), .val (.int x2), .val (.int x3), .val (.int x4), .val (.int x5), .val (.int (4 : Int32)), .val (.int v0), .val (.int v1), .val (.int v2), .val (.int v3), .val (.ref a_645), .val (.int (1 : Int32)), .val (.int (0 : Int32)), .val (.int (1 : Int32)), .val (.int (0 : Int32)), .val (.ref a_1375), .val (.int ((0 : Int32) + (1 : Int32))), .unset]) (1 : Int32) at_223 (pc' := 226) rfl (by decide) rfl rfl ?_
            rw [(by decide : (0 : Int32) + (1 : Int32) = (1 : Int32))]
            refine go_iload C at_226 (pc' := 228) rfl rfl ?_
            refine go_if0 C (0 : Int) (by decide) at_228 (by decide) (pc' := 241) (by decide) (pcN := 231) rfl (fun (c_1398 : (0 : Int) = 0) => ?_) (fun (c_1398 : ¬ (0 : Int) = 0) => by omega)
            refine go_iload C at_241 (pc' := 243) rfl rfl ?_
            refine go_if0 C (1 : Int) (by decide) at_243 (by decide) (pc' := 256) (by decide) (pcN := 246) rfl (fun (c_1399 : (1 : Int) = 0) => by omega) (fun (c_1399 : ¬ (1 : Int) = 0) => ?_)
            refine go_aload C at_246 (pc' := 248) rfl rfl rfl ?_
            refine go_iload C at_248 (pc' := 250) rfl rfl ?_
            refine go_iload C at_250 (pc' := 252) rfl rfl ?_
            refine go_iastore C A_1397 1 (by decide) (show 1 < 4 from by decide) g_1381 at_252 (pc' := 253) rfl ?_
            intro h_1400 W_1401 A_1402
            have z_1403 : Z.heap.size ≤ h_1400.size := W_1401.size.symm ▸ z_1392
            have F_1404 := Fld.other W_1401 F_1393 (Or.inl n_1379)
            have F_1405 := Fld.other W_1401 F_1394 (Or.inl n_1379)
            have E_1406 := Exa.wr W_1401 E_1395
            have A_1407 := Av.other A_1396 W_1401 n_1380
            have A_1408 : Av Z h_1400 a_1375 .int [.int v0, .int v2, .int (0 : Int32), .int (0 : Int32)] := A_1402
            refine go_iinc C (Ls' := #[.val (.int x0), .val (.int x1), .val (.int x2), .val (.int x3), .val (.int x4), .val (.int x5), .val (.int (4 : Int32)), .val (.int v0), .val (.int v1), .val (.int v2), .val (.int v3), .val (.ref a_645), .val (.int (1 : Int32)), .val (.int (0 : Int32)), .val (.int (1 : Int32)), .val (.int (0 : Int32)), .val (.ref a_1375), .val (.int ((1 : Int32) + (1 : Int32))), .unset]) (1 : Int32) at_253 (pc' := 256) rfl (by decide) rfl rfl ?_
            rw [(by decide : (1 : Int32) + (1 : Int32) = (2 : Int32))]
            refine go_iload C at_256 (pc' := 258) rfl rfl ?_
            refine go_if0 C (0 : Int) (by decide) at_258 (by decide) (pc' := 271) (by decide) (pcN := 261) rfl (fun (c_1409 : (0 : Int) = 0) => ?_) (fun (c_1409 : ¬ (0 : Int) = 0) => by omega)
            refine go_aload C at_271 (pc' := 273) rfl rfl rfl ?_
            refine go_virtualP C (as := []) (rest := []) (W := 0) (.int (2 : Int32)) (sat_size l Z a0 hw a_645 _ _ _ F_1405) E_1406 (wd hw 23 rfl) (wd hw 24 rfl) (wd hw 26 rfl) (wd hw 25 rfl) (wd hw 6 rfl) (wd hw 27 rfl) (by decide) pd_3 rfl rfl rfl (by decide) (by decide) rfl rfl (by decide) (by decide) at_273 (pc' := 276) rfl rfl ?_
            refine go_iload C at_276 (pc' := 278) rfl rfl ?_
            refine go_icmp C (2 : Int) (2 : Int) (by decide) (by decide) at_278 (by decide) (pc' := 283) (by decide) (pcN := 281) rfl (fun (c_1410 : (2 : Int) = (2 : Int)) => ?_) (fun (c_1410 : ¬ (2 : Int) = (2 : Int)) => by omega)
            refine go_iconst C (1 : Int32) at_283 (pc' := 284) rfl (by decide) ?_
            refine go_istore C (Ls' := #[.val (.int x0), .val (.int x1), .val (.int x2), .val (.int x3), .val (.int x4), .val (.int x5), .val (.int (4 : Int32)), .val (.int v0), .val (.int v1), .val (.int v2), .val (.int v3), .val (.ref a_645), .val (.int (1 : Int32)), .val (.int (0 : Int32)), .val (.int (1 : Int32)), .val (.int (0 : Int32)), .val (.ref a_1375), .val (.int (2 : Int32)), .val (.int (1 : Int32))]) at_284 (pc' := 286) rfl rfl ?_
            refine go_iload C at_286 (pc' := 288) rfl rfl ?_
            refine go_if0 C (2 : Int) (by decide) at_288 (by decide) (pc' := 316) (by decide) (pcN := 291) rfl (fun (c_1411 : ¬ 0 < (2 : Int)) => by omega) (fun (c_1411 : 0 < (2 : Int)) => ?_)
            refine go_iload C at_291 (pc' := 293) rfl rfl ?_
            refine go_if0 C (1 : Int) (by decide) at_293 (by decide) (pc' := 313) (by decide) (pcN := 296) rfl (fun (c_1412 : (1 : Int) = 0) => by omega) (fun (c_1412 : ¬ (1 : Int) = 0) => ?_)
            refine go_aload C at_296 (pc' := 298) rfl rfl rfl ?_
            refine go_iconst C (0 : Int32) at_298 (pc' := 299) rfl (by decide) ?_
            refine go_virtualP C (as := [.int (0 : Int32)]) (rest := []) (W := 0) (.int v0) (sat_get l Z a0 hw a_645 r_656 (0 : Int32) v0 0 [.int v0, .int v2, .int v2, .int v3, .int (0 : Int32), .int (0 : Int32), .int (0 : Int32), .int (0 : Int32)] _ _ F_1404 A_1407 (by decide) rfl) E_1406 (wd hw 33 rfl) (wd hw 34 rfl) (wd hw 36 rfl) (wd hw 35 rfl) (wd hw 6 rfl) (wd hw 37 rfl) (by decide) pd_5 rfl rfl rfl (by decide) (by decide) rfl rfl (by decide) (by decide) at_299 (pc' := 302) rfl rfl ?_
            refine go_aload C at_302 (pc' := 304) rfl rfl rfl ?_
            refine go_iconst C (0 : Int32) at_304 (pc' := 305) rfl (by decide) ?_
            refine go_iaload C A_1408 0 (.int v0) (by decide) rfl at_305 (pc' := 306) rfl ?_
            refine go_icmp C v0.toInt v0.toInt rfl rfl at_306 (by decide) (pc' := 313) (by decide) (pcN := 309) rfl (fun (c_1413 : ¬ v0.toInt = v0.toInt) => by omega) (fun (c_1413 : v0.toInt = v0.toInt) => ?_)
            refine go_iconst C (1 : Int32) at_309 (pc' := 310) rfl (by decide) ?_
            refine go_goto C at_310 (by decide) (pc' := 314) (by decide) ?_
            refine go_istore C (Ls' := #[.val (.int x0), .val (.int x1), .val (.int x2), .val (.int x3), .val (.int x4), .val (.int x5), .val (.int (4 : Int32)), .val (.int v0), .val (.int v1), .val (.int v2), .val (.int v3), .val (.ref a_645), .val (.int (1 : Int32)), .val (.int (0 : Int32)), .val (.int (1 : Int32)), .val (.int (0 : Int32)), .val (.ref a_1375), .val (.int (2 : Int32)), .val (.int (1 : Int32))]) at_314 (pc' := 316) rfl rfl ?_
            refine go_iload C at_316 (pc' := 318) rfl rfl ?_
            refine go_iconst C (1 : Int32) at_318 (pc' := 319) rfl (by decide) ?_
            refine go_icmp C (2 : Int) (1 : Int) (by decide) (by decide) at_319 (by decide) (pc' := 347) (by decide) (pcN := 322) rfl (fun (c_1414 : ¬ (1 : Int) < (2 : Int)) => by omega) (fun (c_1414 : (1 : Int) < (2 : Int)) => ?_)
            refine go_iload C at_322 (pc' := 324) rfl rfl ?_
            refine go_if0 C (1 : Int) (by decide) at_324 (by decide) (pc' := 344) (by decide) (pcN := 327) rfl (fun (c_1415 : (1 : Int) = 0) => by omega) (fun (c_1415 : ¬ (1 : Int) = 0) => ?_)
            refine go_aload C at_327 (pc' := 329) rfl rfl rfl ?_
            refine go_iconst C (1 : Int32) at_329 (pc' := 330) rfl (by decide) ?_
            refine go_virtualP C (as := [.int (1 : Int32)]) (rest := []) (W := 0) (.int v2) (sat_get l Z a0 hw a_645 r_656 (1 : Int32) v2 1 [.int v0, .int v2, .int v2, .int v3, .int (0 : Int32), .int (0 : Int32), .int (0 : Int32), .int (0 : Int32)] _ _ F_1404 A_1407 (by decide) rfl) E_1406 (wd hw 33 rfl) (wd hw 34 rfl) (wd hw 36 rfl) (wd hw 35 rfl) (wd hw 6 rfl) (wd hw 37 rfl) (by decide) pd_5 rfl rfl rfl (by decide) (by decide) rfl rfl (by decide) (by decide) at_330 (pc' := 333) rfl rfl ?_
            refine go_aload C at_333 (pc' := 335) rfl rfl rfl ?_
            refine go_iconst C (1 : Int32) at_335 (pc' := 336) rfl (by decide) ?_
            refine go_iaload C A_1408 1 (.int v2) (by decide) rfl at_336 (pc' := 337) rfl ?_
            refine go_icmp C v2.toInt v2.toInt rfl rfl at_337 (by decide) (pc' := 344) (by decide) (pcN := 340) rfl (fun (c_1416 : ¬ v2.toInt = v2.toInt) => by omega) (fun (c_1416 : v2.toInt = v2.toInt) => ?_)
            refine go_iconst C (1 : Int32) at_340 (pc' := 341) rfl (by decide) ?_
            refine go_goto C at_341 (by decide) (pc' := 345) (by decide) ?_
            refine go_istore C (Ls' := #[.val (.int x0), .val (.int x1), .val (.int x2), .val (.int x3), .val (.int x4), .val (.int x5), .val (.int (4 : Int32)), .val (.int v0), .val (.int v1), .val (.int v2), .val (.int v3), .val (.ref a_645), .val (.int (1 : Int32)), .val (.int (0 : Int32)), .val (.int (1 : Int32)), .val (.int (0 : Int32)), .val (.ref a_1375), .val (.int (2 : Int32)), .val (.int (1 : Int32))]) at_345 (pc' := 347) rfl rfl ?_
            refine go_iload C at_347 (pc' := 349) rfl rfl ?_
            refine go_iconst C (2 : Int32) at_349 (pc' := 350) rfl (by decide) ?_
            refine go_icmp C (2 : Int) (2 : Int) (by decide) (by decide) at_350 (by decide) (pc' := 378) (by decide) (pcN := 353) rfl (fun (c_1417 : ¬ (2 : Int) < (2 : Int)) => ?_) (fun (c_1417 : (2 : Int) < (2 : Int)) => by omega)
            refine go_iload C at_378 (pc' := 380) rfl rfl ?_
            refine go_iconst C (3 : Int32) at_380 (pc' := 381) rfl (by decide) ?_
            refine go_icmp C (2 : Int) (3 : Int) (by decide) (by decide) at_381 (by decide) (pc' := 409) (by decide) (pcN := 384) rfl (fun (c_1418 : ¬ (3 : Int) < (2 : Int)) => ?_) (fun (c_1418 : (3 : Int) < (2 : Int)) => by omega)
            refine go_iload C at_409 (pc' := 411) rfl rfl ?_
            refine go_ireturnN C (z' := (1 : Int32)) rfl (by simp) rfl at_411 (by decide) (by decide) ?_
            exact ⟨_, rfl, rfl⟩
          · skip
            refine go_iload C at_182 (pc' := 184) rfl rfl ?_
            refine go_iload C at_184 (pc' := 186) rfl rfl ?_
            refine go_icmp C v3.toInt v1.toInt rfl rfl at_186 (by decide) (pc' := 200) (by decide) (pcN := 189) rfl (fun (c_1419 : v3.toInt = v1.toInt) => by omega) (fun (c_1419 : ¬ v3.toInt = v1.toInt) => ?_)
            refine go_iload C at_189 (pc' := 191) rfl rfl ?_
            refine go_iload C at_191 (pc' := 193) rfl rfl ?_
            refine go_icmp C v3.toInt v2.toInt rfl rfl at_193 (by decide) (pc' := 200) (by decide) (pcN := 196) rfl (fun (c_1420 : v3.toInt = v2.toInt) => ?_) (fun (c_1420 : ¬ v3.toInt = v2.toInt) => by omega)
            refine go_iconst C (0 : Int32) at_200 (pc' := 201) rfl (by decide) ?_
            refine go_istore C (Ls' := #[.val (.int x0), .val (.int x1), .val (.int x2), .val (.int x3), .val (.int x4), .val (.int x5), .val (.int (4 : Int32)), .val (.int v0), .val (.int v1), .val (.int v2), .val (.int v3), .val (.ref a_645), .val (.int (1 : Int32)), .val (.int (0 : Int32)), .val (.int (1 : Int32)), .val (.int (0 : Int32)), .unset, .unset, .unset]) at_201 (pc' := 203) rfl rfl ?_
            refine go_iconst C (4 : Int32) at_203 (pc' := 204) rfl (by decide) ?_
            refine go_newarray C (wd hw 13 rfl) rfl 4 4 (by decide) (by decide) (by decide) (ce' := 3) (sl' := 14) rfl rfl (by decide) (by decide) at_204 (pc' := 206) rfl ?_
            intro h_1421 a_1422 g_1423 E_1424 A_1425
            have n_1426 : a_645 ≠ a_1422 := own_ne_new E_1362.lt g_1423
            have n_1427 : r_656 ≠ a_1422 := own_ne_new A_1365.lt g_1423
            have g_1428 : Z.heap.size ≤ a_1422 := own_ge (Nat.le_of_lt (Nat.lt_of_le_of_lt g_650 E_1362.lt)) g_1423
            have F_1429 := Fld.ext E_1424 F_1363
            have F_1430 := Fld.ext E_1424 F_1364
            have E_1431 := Exa.ext E_1424 E_1362
            have A_1432 := Av.ext A_1365 E_1424
            have z_1433 : Z.heap.size ≤ h_1421.size := Nat.le_trans (Nat.le_of_lt (Nat.lt_of_le_of_lt g_650 E_1362.lt)) E_1424.1
            have A_1434 : Av Z h_1421 a_1422 .int [.int (0 : Int32), .int (0 : Int32), .int (0 : Int32), .int (0 : Int32)] := A_1425
            refine go_astore C (Ls' := #[.val (.int x0), .val (.int x1), .val (.int x2), .val (.int x3), .val (.int x4), .val (.int x5), .val (.int (4 : Int32)), .val (.int v0), .val (.int v1), .val (.int v2), .val (.int v3), .val (.ref a_645), .val (.int (1 : Int32)), .val (.int (0 : Int32)), .val (.int (1 : Int32)), .val (.int (0 : Int32)), .val (.ref a_1422), .unset, .unset]) at_206 (pc' := 208) rfl rfl rfl ?_
            refine go_iconst C (0 : Int32) at_208 (pc' := 209) rfl (by decide) ?_
            refine go_istore C (Ls' := #[.val (.int x0), .val (.int x1), .val (.int x2), .val (.int x3), .val (.int x4), .val (.int x5), .val (.int (4 : Int32)), .val (.int v0), .val (.int v1), .val (.int v2), .val (.int v3), .val (.ref a_645), .val (.int (1 : Int32)), .val (.int (0 : Int32)), .val (.int (1 : Int32)), .val (.int (0 : Int32)), .val (.ref a_1422), .val (.int (0 : Int32)), .unset]) at_209 (pc' := 211) rfl rfl ?_
            refine go_iload C at_211 (pc' := 213) rfl rfl ?_
            refine go_if0 C (1 : Int) (by decide) at_213 (by decide) (pc' := 226) (by decide) (pcN := 216) rfl (fun (c_1435 : (1 : Int) = 0) => by omega) (fun (c_1435 : ¬ (1 : Int) = 0) => ?_)
            refine go_aload C at_216 (pc' := 218) rfl rfl rfl ?_
            refine go_iload C at_218 (pc' := 220) rfl rfl ?_
            refine go_iload C at_220 (pc' := 222) rfl rfl ?_
            refine go_iastore C A_1434 0 (by decide) (show 0 < 4 from by decide) g_1428 at_222 (pc' := 223) rfl ?_
            intro h_1436 W_1437 A_1438
            have z_1439 : Z.heap.size ≤ h_1436.size := W_1437.size.symm ▸ z_1433
            have F_1440 := Fld.other W_1437 F_1429 (Or.inl n_1426)
            have F_1441 := Fld.other W_1437 F_1430 (Or.inl n_1426)
            have E_1442 := Exa.wr W_1437 E_1431
            have A_1443 := Av.other A_1432 W_1437 n_1427
            have A_1444 : Av Z h_1436 a_1422 .int [.int v0, .int (0 : Int32), .int (0 : Int32), .int (0 : Int32)] := A_1438
            refine go_iinc C (Ls' := #[.val (.int x0), .val (.int x1), .val (.int x2), .val (.int x3), .val (.int x4), .val (.int x5), .val (.int (4 : Int32)), .val (.int v0), .val (.int v1), .val (.int v2), .val (.int v3), .val (.ref a_645), .val (.int (1 : Int32)), .val (.int (0 : Int32)), .val (.int (1 : Int32)), .val (.int (0 : Int32)), .val (.ref a_1422), .val (.int ((0 : Int32) + (1 : Int32))), .unset]) (1 : Int32) at_223 (pc' := 226) rfl (by decide) rfl rfl ?_
            rw [(by decide : (0 : Int32) + (1 : Int32) = (1 : Int32))]
            refine go_iload C at_226 (pc' := 228) rfl rfl ?_
            refine go_if0 C (0 : Int) (by decide) at_228 (by decide) (pc' := 241) (by decide) (pcN := 231) rfl (fun (c_1445 : (0 : Int) = 0) => ?_) (fun (c_1445 : ¬ (0 : Int) = 0) => by omega)
            refine go_iload C at_241 (pc' := 243) rfl rfl ?_
            refine go_if0 C (1 : Int) (by decide) at_243 (by decide) (pc' := 256) (by decide) (pcN := 246) rfl (fun (c_1446 : (1 : Int) = 0) => by omega) (fun (c_1446 : ¬ (1 : Int) = 0) => ?_)
            refine go_aload C at_246 (pc' := 248) rfl rfl rfl ?_
            refine go_iload C at_248 (pc' := 250) rfl rfl ?_
            refine go_iload C at_250 (pc' := 252) rfl rfl ?_
            refine go_iastore C A_1444 1 (by decide) (show 1 < 4 from by decide) g_1428 at_252 (pc' := 253) rfl ?_
            intro h_1447 W_1448 A_1449
            have z_1450 : Z.heap.size ≤ h_1447.size := W_1448.size.symm ▸ z_1439
            have F_1451 := Fld.other W_1448 F_1440 (Or.inl n_1426)
            have F_1452 := Fld.other W_1448 F_1441 (Or.inl n_1426)
            have E_1453 := Exa.wr W_1448 E_1442
            have A_1454 := Av.other A_1443 W_1448 n_1427
            have A_1455 : Av Z h_1447 a_1422 .int [.int v0, .int v2, .int (0 : Int32), .int (0 : Int32)] := A_1449
            refine go_iinc C (Ls' := #[.val (.int x0), .val (.int x1), .val (.int x2), .val (.int x3), .val (.int x4), .val (.int x5), .val (.int (4 : Int32)), .val (.int v0), .val (.int v1), .val (.int v2), .val (.int v3), .val (.ref a_645), .val (.int (1 : Int32)), .val (.int (0 : Int32)), .val (.int (1 : Int32)), .val (.int (0 : Int32)), .val (.ref a_1422), .val (.int ((1 : Int32) + (1 : Int32))), .unset]) (1 : Int32) at_253 (pc' := 256) rfl (by decide) rfl rfl ?_
            rw [(by decide : (1 : Int32) + (1 : Int32) = (2 : Int32))]
            refine go_iload C at_256 (pc' := 258) rfl rfl ?_
            refine go_if0 C (0 : Int) (by decide) at_258 (by decide) (pc' := 271) (by decide) (pcN := 261) rfl (fun (c_1456 : (0 : Int) = 0) => ?_) (fun (c_1456 : ¬ (0 : Int) = 0) => by omega)
            refine go_aload C at_271 (pc' := 273) rfl rfl rfl ?_
            refine go_virtualP C (as := []) (rest := []) (W := 0) (.int (2 : Int32)) (sat_size l Z a0 hw a_645 _ _ _ F_1452) E_1453 (wd hw 23 rfl) (wd hw 24 rfl) (wd hw 26 rfl) (wd hw 25 rfl) (wd hw 6 rfl) (wd hw 27 rfl) (by decide) pd_3 rfl rfl rfl (by decide) (by decide) rfl rfl (by decide) (by decide) at_273 (pc' := 276) rfl rfl ?_
            refine go_iload C at_276 (pc' := 278) rfl rfl ?_
            refine go_icmp C (2 : Int) (2 : Int) (by decide) (by decide) at_278 (by decide) (pc' := 283) (by decide) (pcN := 281) rfl (fun (c_1457 : (2 : Int) = (2 : Int)) => ?_) (fun (c_1457 : ¬ (2 : Int) = (2 : Int)) => by omega)
            refine go_iconst C (1 : Int32) at_283 (pc' := 284) rfl (by decide) ?_
            refine go_istore C (Ls' := #[.val (.int x0), .val (.int x1), .val (.int x2), .val (.int x3), .val (.int x4), .val (.int x5), .val (.int (4 : Int32)), .val (.int v0), .val (.int v1), .val (.int v2), .val (.int v3), .val (.ref a_645), .val (.int (1 : Int32)), .val (.int (0 : Int32)), .val (.int (1 : Int32)), .val (.int (0 : Int32)), .val (.ref a_1422), .val (.int (2 : Int32)), .val (.int (1 : Int32))]) at_284 (pc' := 286) rfl rfl ?_
            refine go_iload C at_286 (pc' := 288) rfl rfl ?_
            refine go_if0 C (2 : Int) (by decide) at_288 (by decide) (pc' := 316) (by decide) (pcN := 291) rfl (fun (c_1458 : ¬ 0 < (2 : Int)) => by omega) (fun (c_1458 : 0 < (2 : Int)) => ?_)
            refine go_iload C at_291 (pc' := 293) rfl rfl ?_
            refine go_if0 C (1 : Int) (by decide) at_293 (by decide) (pc' := 313) (by decide) (pcN := 296) rfl (fun (c_1459 : (1 : Int) = 0) => by omega) (fun (c_1459 : ¬ (1 : Int) = 0) => ?_)
            refine go_aload C at_296 (pc' := 298) rfl rfl rfl ?_
            refine go_iconst C (0 : Int32) at_298 (pc' := 299) rfl (by decide) ?_
            refine go_virtualP C (as := [.int (0 : Int32)]) (rest := []) (W := 0) (.int v0) (sat_get l Z a0 hw a_645 r_656 (0 : Int32) v0 0 [.int v0, .int v2, .int v2, .int v3, .int (0 : Int32), .int (0 : Int32), .int (0 : Int32), .int (0 : Int32)] _ _ F_1451 A_1454 (by decide) rfl) E_1453 (wd hw 33 rfl) (wd hw 34 rfl) (wd hw 36 rfl) (wd hw 35 rfl) (wd hw 6 rfl) (wd hw 37 rfl) (by decide) pd_5 rfl rfl rfl (by decide) (by decide) rfl rfl (by decide) (by decide) at_299 (pc' := 302) rfl rfl ?_
            refine go_aload C at_302 (pc' := 304) rfl rfl rfl ?_
            refine go_iconst C (0 : Int32) at_304 (pc' := 305) rfl (by decide) ?_
            refine go_iaload C A_1455 0 (.int v0) (by decide) rfl at_305 (pc' := 306) rfl ?_
            refine go_icmp C v0.toInt v0.toInt rfl rfl at_306 (by decide) (pc' := 313) (by decide) (pcN := 309) rfl (fun (c_1460 : ¬ v0.toInt = v0.toInt) => by omega) (fun (c_1460 : v0.toInt = v0.toInt) => ?_)
            refine go_iconst C (1 : Int32) at_309 (pc' := 310) rfl (by decide) ?_
            refine go_goto C at_310 (by decide) (pc' := 314) (by decide) ?_
            refine go_istore C (Ls' := #[.val (.int x0), .val (.int x1), .val (.int x2), .val (.int x3), .val (.int x4), .val (.int x5), .val (.int (4 : Int32)), .val (.int v0), .val (.int v1), .val (.int v2), .val (.int v3), .val (.ref a_645), .val (.int (1 : Int32)), .val (.int (0 : Int32)), .val (.int (1 : Int32)), .val (.int (0 : Int32)), .val (.ref a_1422), .val (.int (2 : Int32)), .val (.int (1 : Int32))]) at_314 (pc' := 316) rfl rfl ?_
            refine go_iload C at_316 (pc' := 318) rfl rfl ?_
            refine go_iconst C (1 : Int32) at_318 (pc' := 319) rfl (by decide) ?_
            refine go_icmp C (2 : Int) (1 : Int) (by decide) (by decide) at_319 (by decide) (pc' := 347) (by decide) (pcN := 322) rfl (fun (c_1461 : ¬ (1 : Int) < (2 : Int)) => by omega) (fun (c_1461 : (1 : Int) < (2 : Int)) => ?_)
            refine go_iload C at_322 (pc' := 324) rfl rfl ?_
            refine go_if0 C (1 : Int) (by decide) at_324 (by decide) (pc' := 344) (by decide) (pcN := 327) rfl (fun (c_1462 : (1 : Int) = 0) => by omega) (fun (c_1462 : ¬ (1 : Int) = 0) => ?_)
            refine go_aload C at_327 (pc' := 329) rfl rfl rfl ?_
            refine go_iconst C (1 : Int32) at_329 (pc' := 330) rfl (by decide) ?_
            refine go_virtualP C (as := [.int (1 : Int32)]) (rest := []) (W := 0) (.int v2) (sat_get l Z a0 hw a_645 r_656 (1 : Int32) v2 1 [.int v0, .int v2, .int v2, .int v3, .int (0 : Int32), .int (0 : Int32), .int (0 : Int32), .int (0 : Int32)] _ _ F_1451 A_1454 (by decide) rfl) E_1453 (wd hw 33 rfl) (wd hw 34 rfl) (wd hw 36 rfl) (wd hw 35 rfl) (wd hw 6 rfl) (wd hw 37 rfl) (by decide) pd_5 rfl rfl rfl (by decide) (by decide) rfl rfl (by decide) (by decide) at_330 (pc' := 333) rfl rfl ?_
            refine go_aload C at_333 (pc' := 335) rfl rfl rfl ?_
            refine go_iconst C (1 : Int32) at_335 (pc' := 336) rfl (by decide) ?_
            refine go_iaload C A_1455 1 (.int v2) (by decide) rfl at_336 (pc' := 337) rfl ?_
            refine go_icmp C v2.toInt v2.toInt rfl rfl at_337 (by decide) (pc' := 344) (by decide) (pcN := 340) rfl (fun (c_1463 : ¬ v2.toInt = v2.toInt) => by omega) (fun (c_1463 : v2.toInt = v2.toInt) => ?_)
            refine go_iconst C (1 : Int32) at_340 (pc' := 341) rfl (by decide) ?_
            refine go_goto C at_341 (by decide) (pc' := 345) (by decide) ?_
            refine go_istore C (Ls' := #[.val (.int x0), .val (.int x1), .val (.int x2), .val (.int x3), .val (.int x4), .val (.int x5), .val (.int (4 : Int32)), .val (.int v0), .val (.int v1), .val (.int v2), .val (.int v3), .val (.ref a_645), .val (.int (1 : Int32)), .val (.int (0 : Int32)), .val (.int (1 : Int32)), .val (.int (0 : Int32)), .val (.ref a_1422), .val (.int (2 : Int32)), .val (.int (1 : Int32))]) at_345 (pc' := 347) rfl rfl ?_
            refine go_iload C at_347 (pc' := 349) rfl rfl ?_
            refine go_iconst C (2 : Int32) at_349 (pc' := 350) rfl (by decide) ?_
            refine go_icmp C (2 : Int) (2 : Int) (by decide) (by decide) at_350 (by decide) (pc' := 378) (by decide) (pcN := 353) rfl (fun (c_1464 : ¬ (2 : Int) < (2 : Int)) => ?_) (fun (c_1464 : (2 : Int) < (2 : Int)) => by omega)
            refine go_iload C at_378 (pc' := 380) rfl rfl ?_
            refine go_iconst C (3 : Int32) at_380 (pc' := 381) rfl (by decide) ?_
            refine go_icmp C (2 : Int) (3 : Int) (by decide) (by decide) at_381 (by decide) (pc' := 409) (by decide) (pcN := 384) rfl (fun (c_1465 : ¬ (3 : Int) < (2 : Int)) => ?_) (fun (c_1465 : (3 : Int) < (2 : Int)) => by omega)
            refine go_iload C at_409 (pc' := 411) rfl rfl ?_
            refine go_ireturnN C (z' := (1 : Int32)) rfl (by simp) rfl at_411 (by decide) (by decide) ?_
            exact ⟨_, rfl, rfl⟩
      · skip
        rcases (by omega : (¬ v3.toInt = v0.toInt ∧ ¬ v3.toInt = v1.toInt ∧ ¬ v3.toInt = v2.toInt) ∨ (v3.toInt = v0.toInt ∨ v3.toInt = v1.toInt ∨ v3.toInt = v2.toInt)) with hf3 | hf3
        · skip
          refine go_virtualN C (as := []) (rest := []) (W := 0) (sat_rd4fft l Z a0 hw a_645 r_656 v0 v1 v2 v3 _ _ hf1 hf2 hf3 E_687 F_688 F_689 A_690 g_650 g_657) E_687 (wd hw 16 rfl) (wd hw 17 rfl) (wd hw 19 rfl) (wd hw 18 rfl) (wd hw 6 rfl) (wd hw 20 rfl) (by decide) pd_2 rfl rfl rfl (by decide) (by decide) (ce' := 2) (sl' := 10) rfl rfl (by decide) (by decide) at_107 (pc' := 110) rfl rfl ?_
          intro h_1466 q_1467
          obtain ⟨E_1468, F_1469, F_1470, A_1471⟩ := q_1467
          refine go_iload C at_110 (pc' := 112) rfl rfl ?_
          refine go_if0 C (4 : Int) (by decide) at_112 (by decide) (pc' := 119) (by decide) (pcN := 115) rfl (fun (c_1472 : ¬ 0 < (4 : Int)) => by omega) (fun (c_1472 : 0 < (4 : Int)) => ?_)
          refine go_iconst C (1 : Int32) at_115 (pc' := 116) rfl (by decide) ?_
          refine go_goto C at_116 (by decide) (pc' := 120) (by decide) ?_
          refine go_istore C (Ls' := #[.val (.int x0), .val (.int x1), .val (.int x2), .val (.int x3), .val (.int x4), .val (.int x5), .val (.int (4 : Int32)), .val (.int v0), .val (.int v1), .val (.int v2), .val (.int v3), .val (.ref a_645), .val (.int (1 : Int32)), .unset, .unset, .unset, .unset, .unset, .unset]) at_120 (pc' := 122) rfl rfl ?_
          refine go_iload C at_122 (pc' := 124) rfl rfl ?_
          refine go_iconst C (1 : Int32) at_124 (pc' := 125) rfl (by decide) ?_
          refine go_icmp C (4 : Int) (1 : Int) (by decide) (by decide) at_125 (by decide) (pc' := 139) (by decide) (pcN := 128) rfl (fun (c_1473 : ¬ (1 : Int) < (4 : Int)) => by omega) (fun (c_1473 : (1 : Int) < (4 : Int)) => ?_)
          refine go_iload C at_128 (pc' := 130) rfl rfl ?_
          refine go_iload C at_130 (pc' := 132) rfl rfl ?_
          refine go_icmp C v1.toInt v0.toInt rfl rfl at_132 (by decide) (pc' := 139) (by decide) (pcN := 135) rfl (fun (c_1474 : v1.toInt = v0.toInt) => ?_) (fun (c_1474 : ¬ v1.toInt = v0.toInt) => by omega)
          refine go_iconst C (0 : Int32) at_139 (pc' := 140) rfl (by decide) ?_
          refine go_istore C (Ls' := #[.val (.int x0), .val (.int x1), .val (.int x2), .val (.int x3), .val (.int x4), .val (.int x5), .val (.int (4 : Int32)), .val (.int v0), .val (.int v1), .val (.int v2), .val (.int v3), .val (.ref a_645), .val (.int (1 : Int32)), .val (.int (0 : Int32)), .unset, .unset, .unset, .unset, .unset]) at_140 (pc' := 142) rfl rfl ?_
          refine go_iload C at_142 (pc' := 144) rfl rfl ?_
          refine go_iconst C (2 : Int32) at_144 (pc' := 145) rfl (by decide) ?_
          refine go_icmp C (4 : Int) (2 : Int) (by decide) (by decide) at_145 (by decide) (pc' := 166) (by decide) (pcN := 148) rfl (fun (c_1475 : ¬ (2 : Int) < (4 : Int)) => by omega) (fun (c_1475 : (2 : Int) < (4 : Int)) => ?_)
          refine go_iload C at_148 (pc' := 150) rfl rfl ?_
          refine go_iload C at_150 (pc' := 152) rfl rfl ?_
          refine go_icmp C v2.toInt v0.toInt rfl rfl at_152 (by decide) (pc' := 166) (by decide) (pcN := 155) rfl (fun (c_1476 : v2.toInt = v0.toInt) => ?_) (fun (c_1476 : ¬ v2.toInt = v0.toInt) => by omega)
          refine go_iconst C (0 : Int32) at_166 (pc' := 167) rfl (by decide) ?_
          refine go_istore C (Ls' := #[.val (.int x0), .val (.int x1), .val (.int x2), .val (.int x3), .val (.int x4), .val (.int x5), .val (.int (4 : Int32)), .val (.int v0), .val (.int v1), .val (.int v2), .val (.int v3), .val (.ref a_645), .val (.int (1 : Int32)), .val (.int (0 : Int32)), .val (.int (0 : Int32)), .unset, .unset, .unset, .unset]) at_167 (pc' := 169) rfl rfl ?_
          refine go_iload C at_169 (pc' := 171) rfl rfl ?_
          refine go_iconst C (3 : Int32) at_171 (pc' := 172) rfl (by decide) ?_
          refine go_icmp C (4 : Int) (3 : Int) (by decide) (by decide) at_172 (by decide) (pc' := 200) (by decide) (pcN := 175) rfl (fun (c_1477 : ¬ (3 : Int) < (4 : Int)) => by omega) (fun (c_1477 : (3 : Int) < (4 : Int)) => ?_)
          refine go_iload C at_175 (pc' := 177) rfl rfl ?_
          refine go_iload C at_177 (pc' := 179) rfl rfl ?_
          refine go_icmp C v3.toInt v0.toInt rfl rfl at_179 (by decide) (pc' := 200) (by decide) (pcN := 182) rfl (fun (c_1478 : v3.toInt = v0.toInt) => by omega) (fun (c_1478 : ¬ v3.toInt = v0.toInt) => ?_)
          refine go_iload C at_182 (pc' := 184) rfl rfl ?_
          refine go_iload C at_184 (pc' := 186) rfl rfl ?_
          refine go_icmp C v3.toInt v1.toInt rfl rfl at_186 (by decide) (pc' := 200) (by decide) (pcN := 189) rfl (fun (c_1479 : v3.toInt = v1.toInt) => by omega) (fun (c_1479 : ¬ v3.toInt = v1.toInt) => ?_)
          refine go_iload C at_189 (pc' := 191) rfl rfl ?_
          refine go_iload C at_191 (pc' := 193) rfl rfl ?_
          refine go_icmp C v3.toInt v2.toInt rfl rfl at_193 (by decide) (pc' := 200) (by decide) (pcN := 196) rfl (fun (c_1480 : v3.toInt = v2.toInt) => by omega) (fun (c_1480 : ¬ v3.toInt = v2.toInt) => ?_)
          refine go_iconst C (1 : Int32) at_196 (pc' := 197) rfl (by decide) ?_
          refine go_goto C at_197 (by decide) (pc' := 201) (by decide) ?_
          refine go_istore C (Ls' := #[.val (.int x0), .val (.int x1), .val (.int x2), .val (.int x3), .val (.int x4), .val (.int x5), .val (.int (4 : Int32)), .val (.int v0), .val (.int v1), .val (.int v2), .val (.int v3), .val (.ref a_645), .val (.int (1 : Int32)), .val (.int (0 : Int32)), .val (.int (0 : Int32)), .val (.int (1 : Int32)), .unset, .unset, .unset]) at_201 (pc' := 203) rfl rfl ?_
          refine go_iconst C (4 : Int32) at_203 (pc' := 204) rfl (by decide) ?_
          refine go_newarray C (wd hw 13 rfl) rfl 4 4 (by decide) (by decide) (by decide) (ce' := 3) (sl' := 14) rfl rfl (by decide) (by decide) at_204 (pc' := 206) rfl ?_
          intro h_1481 a_1482 g_1483 E_1484 A_1485
          have n_1486 : a_645 ≠ a_1482 := own_ne_new E_1468.lt g_1483
          have n_1487 : r_656 ≠ a_1482 := own_ne_new A_1471.lt g_1483
          have g_1488 : Z.heap.size ≤ a_1482 := own_ge (Nat.le_of_lt (Nat.lt_of_le_of_lt g_650 E_1468.lt)) g_1483
          have F_1489 := Fld.ext E_1484 F_1469
          have F_1490 := Fld.ext E_1484 F_1470
          have E_1491 := Exa.ext E_1484 E_1468
          have A_1492 := Av.ext A_1471 E_1484
          have z_1493 : Z.heap.size ≤ h_1481.size := Nat.le_trans (Nat.le_of_lt (Nat.lt_of_le_of_lt g_650 E_1468.lt)) E_1484.1
          have A_1494 : Av Z h_1481 a_1482 .int [.int (0 : Int32), .int (0 : Int32), .int (0 : Int32), .int (0 : Int32)] := A_1485
          refine go_astore C (Ls' := #[.val (.int x0), .val (.int x1), .val (.int x2), .val (.int x3), .val (.int x4), .val (.int x5), .val (.int (4 : Int32)), .val (.int v0), .val (.int v1), .val (.int v2), .val (.int v3), .val (.ref a_645), .val (.int (1 : Int32)), .val (.int (0 : Int32)), .val (.int (0 : Int32)), .val (.int (1 : Int32)), .val (.ref a_1482), .unset, .unset]) at_206 (pc' := 208) rfl rfl rfl ?_
          refine go_iconst C (0 : Int32) at_208 (pc' := 209) rfl (by decide) ?_
          refine go_istore C (Ls' := #[.val (.int x0), .val (.int x1), .val (.int x2), .val (.int x3), .val (.int x4), .val (.int x5), .val (.int (4 : Int32)), .val (.int v0), .val (.int v1), .val (.int v2), .val (.int v3), .val (.ref a_645), .val (.int (1 : Int32)), .val (.int (0 : Int32)), .val (.int (0 : Int32)), .val (.int (1 : Int32)), .val (.ref a_1482), .val (.int (0 : Int32)), .unset]) at_209 (pc' := 211) rfl rfl ?_
          refine go_iload C at_211 (pc' := 213) rfl rfl ?_
          refine go_if0 C (1 : Int) (by decide) at_213 (by decide) (pc' := 226) (by decide) (pcN := 216) rfl (fun (c_1495 : (1 : Int) = 0) => by omega) (fun (c_1495 : ¬ (1 : Int) = 0) => ?_)
          refine go_aload C at_216 (pc' := 218) rfl rfl rfl ?_
          refine go_iload C at_218 (pc' := 220) rfl rfl ?_
          refine go_iload C at_220 (pc' := 222) rfl rfl ?_
          refine go_iastore C A_1494 0 (by decide) (show 0 < 4 from by decide) g_1488 at_222 (pc' := 223) rfl ?_
          intro h_1496 W_1497 A_1498
          have z_1499 : Z.heap.size ≤ h_1496.size := W_1497.size.symm ▸ z_1493
          have F_1500 := Fld.other W_1497 F_1489 (Or.inl n_1486)
          have F_1501 := Fld.other W_1497 F_1490 (Or.inl n_1486)
          have E_1502 := Exa.wr W_1497 E_1491
          have A_1503 := Av.other A_1492 W_1497 n_1487
          have A_1504 : Av Z h_1496 a_1482 .int [.int v0, .int (0 : Int32), .int (0 : Int32), .int (0 : Int32)] := A_1498
          refine go_iinc C (Ls' := #[.val (.int x0), .val (.int x1), .val (.int x2), .val (.int x3), .val (.int x4), .val (.int x5), .val (.int (4 : Int32)), .val (.int v0), .val (.int v1), .val (.int v2), .val (.int v3), .val (.ref a_645), .val (.int (1 : Int32)), .val (.int (0 : Int32)), .val (.int (0 : Int32)), .val (.int (1 : Int32)), .val (.ref a_1482), .val (.int ((0 : Int32) + (1 : Int32))), .unset]) (1 : Int32) at_223 (pc' := 226) rfl (by decide) rfl rfl ?_
          rw [(by decide : (0 : Int32) + (1 : Int32) = (1 : Int32))]
          refine go_iload C at_226 (pc' := 228) rfl rfl ?_
          refine go_if0 C (0 : Int) (by decide) at_228 (by decide) (pc' := 241) (by decide) (pcN := 231) rfl (fun (c_1505 : (0 : Int) = 0) => ?_) (fun (c_1505 : ¬ (0 : Int) = 0) => by omega)
          refine go_iload C at_241 (pc' := 243) rfl rfl ?_
          refine go_if0 C (0 : Int) (by decide) at_243 (by decide) (pc' := 256) (by decide) (pcN := 246) rfl (fun (c_1506 : (0 : Int) = 0) => ?_) (fun (c_1506 : ¬ (0 : Int) = 0) => by omega)
          refine go_iload C at_256 (pc' := 258) rfl rfl ?_
          refine go_if0 C (1 : Int) (by decide) at_258 (by decide) (pc' := 271) (by decide) (pcN := 261) rfl (fun (c_1507 : (1 : Int) = 0) => by omega) (fun (c_1507 : ¬ (1 : Int) = 0) => ?_)
          refine go_aload C at_261 (pc' := 263) rfl rfl rfl ?_
          refine go_iload C at_263 (pc' := 265) rfl rfl ?_
          refine go_iload C at_265 (pc' := 267) rfl rfl ?_
          refine go_iastore C A_1504 1 (by decide) (show 1 < 4 from by decide) g_1488 at_267 (pc' := 268) rfl ?_
          intro h_1508 W_1509 A_1510
          have z_1511 : Z.heap.size ≤ h_1508.size := W_1509.size.symm ▸ z_1499
          have F_1512 := Fld.other W_1509 F_1500 (Or.inl n_1486)
          have F_1513 := Fld.other W_1509 F_1501 (Or.inl n_1486)
          have E_1514 := Exa.wr W_1509 E_1502
          have A_1515 := Av.other A_1503 W_1509 n_1487
          have A_1516 : Av Z h_1508 a_1482 .int [.int v0, .int v3, .int (0 : Int32), .int (0 : Int32)] := A_1510
          refine go_iinc C (Ls' := #[.val (.int x0), .val (.int x1), .val (.int x2), .val (.int x3), .val (.int x4), .val (.int x5), .val (.int (4 : Int32)), .val (.int v0), .val (.int v1), .val (.int v2), .val (.int v3), .val (.ref a_645), .val (.int (1 : Int32)), .val (.int (0 : Int32)), .val (.int (0 : Int32)), .val (.int (1 : Int32)), .val (.ref a_1482), .val (.int ((1 : Int32) + (1 : Int32))), .unset]) (1 : Int32) at_268 (pc' := 271) rfl (by decide) rfl rfl ?_
          rw [(by decide : (1 : Int32) + (1 : Int32) = (2 : Int32))]
          refine go_aload C at_271 (pc' := 273) rfl rfl rfl ?_
          refine go_virtualP C (as := []) (rest := []) (W := 0) (.int (2 : Int32)) (sat_size l Z a0 hw a_645 _ _ _ F_1513) E_1514 (wd hw 23 rfl) (wd hw 24 rfl) (wd hw 26 rfl) (wd hw 25 rfl) (wd hw 6 rfl) (wd hw 27 rfl) (by decide) pd_3 rfl rfl rfl (by decide) (by decide) rfl rfl (by decide) (by decide) at_273 (pc' := 276) rfl rfl ?_
          refine go_iload C at_276 (pc' := 278) rfl rfl ?_
          refine go_icmp C (2 : Int) (2 : Int) (by decide) (by decide) at_278 (by decide) (pc' := 283) (by decide) (pcN := 281) rfl (fun (c_1517 : (2 : Int) = (2 : Int)) => ?_) (fun (c_1517 : ¬ (2 : Int) = (2 : Int)) => by omega)
          refine go_iconst C (1 : Int32) at_283 (pc' := 284) rfl (by decide) ?_
          refine go_istore C (Ls' := #[.val (.int x0), .val (.int x1), .val (.int x2), .val (.int x3), .val (.int x4), .val (.int x5), .val (.int (4 : Int32)), .val (.int v0), .val (.int v1), .val (.int v2), .val (.int v3), .val (.ref a_645), .val (.int (1 : Int32)), .val (.int (0 : Int32)), .val (.int (0 : Int32)), .val (.int (1 : Int32)), .val (.ref a_1482), .val (.int (2 : Int32)), .val (.int (1 : Int32))]) at_284 (pc' := 286) rfl rfl ?_
          refine go_iload C at_286 (pc' := 288) rfl rfl ?_
          refine go_if0 C (2 : Int) (by decide) at_288 (by decide) (pc' := 316) (by decide) (pcN := 291) rfl (fun (c_1518 : ¬ 0 < (2 : Int)) => by omega) (fun (c_1518 : 0 < (2 : Int)) => ?_)
          refine go_iload C at_291 (pc' := 293) rfl rfl ?_
          refine go_if0 C (1 : Int) (by decide) at_293 (by decide) (pc' := 313) (by decide) (pcN := 296) rfl (fun (c_1519 : (1 : Int) = 0) => by omega) (fun (c_1519 : ¬ (1 : Int) = 0) => ?_)
          refine go_aload C at_296 (pc' := 298) rfl rfl rfl ?_
          refine go_iconst C (0 : Int32) at_298 (pc' := 299) rfl (by decide) ?_
          refine go_virtualP C (as := [.int (0 : Int32)]) (rest := []) (W := 0) (.int v0) (sat_get l Z a0 hw a_645 r_656 (0 : Int32) v0 0 [.int v0, .int v3, .int v2, .int v3, .int (0 : Int32), .int (0 : Int32), .int (0 : Int32), .int (0 : Int32)] _ _ F_1512 A_1515 (by decide) rfl) E_1514 (wd hw 33 rfl) (wd hw 34 rfl) (wd hw 36 rfl) (wd hw 35 rfl) (wd hw 6 rfl) (wd hw 37 rfl) (by decide) pd_5 rfl rfl rfl (by decide) (by decide) rfl rfl (by decide) (by decide) at_299 (pc' := 302) rfl rfl ?_
          refine go_aload C at_302 (pc' := 304) rfl rfl rfl ?_
          refine go_iconst C (0 : Int32) at_304 (pc' := 305) rfl (by decide) ?_
          refine go_iaload C A_1516 0 (.int v0) (by decide) rfl at_305 (pc' := 306) rfl ?_
          refine go_icmp C v0.toInt v0.toInt rfl rfl at_306 (by decide) (pc' := 313) (by decide) (pcN := 309) rfl (fun (c_1520 : ¬ v0.toInt = v0.toInt) => by omega) (fun (c_1520 : v0.toInt = v0.toInt) => ?_)
          refine go_iconst C (1 : Int32) at_309 (pc' := 310) rfl (by decide) ?_
          refine go_goto C at_310 (by decide) (pc' := 314) (by decide) ?_
          refine go_istore C (Ls' := #[.val (.int x0), .val (.int x1), .val (.int x2), .val (.int x3), .val (.int x4), .val (.int x5), .val (.int (4 : Int32)), .val (.int v0), .val (.int v1), .val (.int v2), .val (.int v3), .val (.ref a_645), .val (.int (1 : Int32)), .val (.int (0 : Int32)), .val (.int (0 : Int32)), .val (.int (1 : Int32)), .val (.ref a_1482), .val (.int (2 : Int32)), .val (.int (1 : Int32))]) at_314 (pc' := 316) rfl rfl ?_
          refine go_iload C at_316 (pc' := 318) rfl rfl ?_
          refine go_iconst C (1 : Int32) at_318 (pc' := 319) rfl (by decide) ?_
          refine go_icmp C (2 : Int) (1 : Int) (by decide) (by decide) at_319 (by decide) (pc' := 347) (by decide) (pcN := 322) rfl (fun (c_1521 : ¬ (1 : Int) < (2 : Int)) => by omega) (fun (c_1521 : (1 : Int) < (2 : Int)) => ?_)
          refine go_iload C at_322 (pc' := 324) rfl rfl ?_
          refine go_if0 C (1 : Int) (by decide) at_324 (by decide) (pc' := 344) (by decide) (pcN := 327) rfl (fun (c_1522 : (1 : Int) = 0) => by omega) (fun (c_1522 : ¬ (1 : Int) = 0) => ?_)
          refine go_aload C at_327 (pc' := 329) rfl rfl rfl ?_
          refine go_iconst C (1 : Int32) at_329 (pc' := 330) rfl (by decide) ?_
          refine go_virtualP C (as := [.int (1 : Int32)]) (rest := []) (W := 0) (.int v3) (sat_get l Z a0 hw a_645 r_656 (1 : Int32) v3 1 [.int v0, .int v3, .int v2, .int v3, .int (0 : Int32), .int (0 : Int32), .int (0 : Int32), .int (0 : Int32)] _ _ F_1512 A_1515 (by decide) rfl) E_1514 (wd hw 33 rfl) (wd hw 34 rfl) (wd hw 36 rfl) (wd hw 35 rfl) (wd hw 6 rfl) (wd hw 37 rfl) (by decide) pd_5 rfl rfl rfl (by decide) (by decide) rfl rfl (by decide) (by decide) at_330 (pc' := 333) rfl rfl ?_
          refine go_aload C at_333 (pc' := 335) rfl rfl rfl ?_
          refine go_iconst C (1 : Int32) at_335 (pc' := 336) rfl (by decide) ?_
          refine go_iaload C A_1516 1 (.int v3) (by decide) rfl at_336 (pc' := 337) rfl ?_
          refine go_icmp C v3.toInt v3.toInt rfl rfl at_337 (by decide) (pc' := 344) (by decide) (pcN := 340) rfl (fun (c_1523 : ¬ v3.toInt = v3.toInt) => by omega) (fun (c_1523 : v3.toInt = v3.toInt) => ?_)
          refine go_iconst C (1 : Int32) at_340 (pc' := 341) rfl (by decide) ?_
          refine go_goto C at_341 (by decide) (pc' := 345) (by decide) ?_
          refine go_istore C (Ls' := #[.val (.int x0), .val (.int x1), .val (.int x2), .val (.int x3), .val (.int x4), .val (.int x5), .val (.int (4 : Int32)), .val (.int v0), .val (.int v1), .val (.int v2), .val (.int v3), .val (.ref a_645), .val (.int (1 : Int32)), .val (.int (0 : Int32)), .val (.int (0 : Int32)), .val (.int (1 : Int32)), .val (.ref a_1482), .val (.int (2 : Int32)), .val (.int (1 : Int32))]) at_345 (pc' := 347) rfl rfl ?_
          refine go_iload C at_347 (pc' := 349) rfl rfl ?_
          refine go_iconst C (2 : Int32) at_349 (pc' := 350) rfl (by decide) ?_
          refine go_icmp C (2 : Int) (2 : Int) (by decide) (by decide) at_350 (by decide) (pc' := 378) (by decide) (pcN := 353) rfl (fun (c_1524 : ¬ (2 : Int) < (2 : Int)) => ?_) (fun (c_1524 : (2 : Int) < (2 : Int)) => by omega)
          refine go_iload C at_378 (pc' := 380) rfl rfl ?_
          refine go_iconst C (3 : Int32) at_380 (pc' := 381) rfl (by decide) ?_
          refine go_icmp C (2 : Int) (3 : Int) (by decide) (by decide) at_381 (by decide) (pc' := 409) (by decide) (pcN := 384) rfl (fun (c_1525 : ¬ (3 : Int) < (2 : Int)) => ?_) (fun (c_1525 : (3 : Int) < (2 : Int)) => by omega)
          refine go_iload C at_409 (pc' := 411) rfl rfl ?_
          refine go_ireturnN C (z' := (1 : Int32)) rfl (by simp) rfl at_411 (by decide) (by decide) ?_
          exact ⟨_, rfl, rfl⟩
        · skip
          refine go_virtualN C (as := []) (rest := []) (W := 0) (sat_rd4fff l Z a0 hw a_645 r_656 v0 v1 v2 v3 _ _ hf1 hf2 hf3 E_687 F_688 F_689 A_690 g_650 g_657) E_687 (wd hw 16 rfl) (wd hw 17 rfl) (wd hw 19 rfl) (wd hw 18 rfl) (wd hw 6 rfl) (wd hw 20 rfl) (by decide) pd_2 rfl rfl rfl (by decide) (by decide) (ce' := 2) (sl' := 10) rfl rfl (by decide) (by decide) at_107 (pc' := 110) rfl rfl ?_
          intro h_1526 q_1527
          obtain ⟨E_1528, F_1529, F_1530, A_1531⟩ := q_1527
          refine go_iload C at_110 (pc' := 112) rfl rfl ?_
          refine go_if0 C (4 : Int) (by decide) at_112 (by decide) (pc' := 119) (by decide) (pcN := 115) rfl (fun (c_1532 : ¬ 0 < (4 : Int)) => by omega) (fun (c_1532 : 0 < (4 : Int)) => ?_)
          refine go_iconst C (1 : Int32) at_115 (pc' := 116) rfl (by decide) ?_
          refine go_goto C at_116 (by decide) (pc' := 120) (by decide) ?_
          refine go_istore C (Ls' := #[.val (.int x0), .val (.int x1), .val (.int x2), .val (.int x3), .val (.int x4), .val (.int x5), .val (.int (4 : Int32)), .val (.int v0), .val (.int v1), .val (.int v2), .val (.int v3), .val (.ref a_645), .val (.int (1 : Int32)), .unset, .unset, .unset, .unset, .unset, .unset]) at_120 (pc' := 122) rfl rfl ?_
          refine go_iload C at_122 (pc' := 124) rfl rfl ?_
          refine go_iconst C (1 : Int32) at_124 (pc' := 125) rfl (by decide) ?_
          refine go_icmp C (4 : Int) (1 : Int) (by decide) (by decide) at_125 (by decide) (pc' := 139) (by decide) (pcN := 128) rfl (fun (c_1533 : ¬ (1 : Int) < (4 : Int)) => by omega) (fun (c_1533 : (1 : Int) < (4 : Int)) => ?_)
          refine go_iload C at_128 (pc' := 130) rfl rfl ?_
          refine go_iload C at_130 (pc' := 132) rfl rfl ?_
          refine go_icmp C v1.toInt v0.toInt rfl rfl at_132 (by decide) (pc' := 139) (by decide) (pcN := 135) rfl (fun (c_1534 : v1.toInt = v0.toInt) => ?_) (fun (c_1534 : ¬ v1.toInt = v0.toInt) => by omega)
          refine go_iconst C (0 : Int32) at_139 (pc' := 140) rfl (by decide) ?_
          refine go_istore C (Ls' := #[.val (.int x0), .val (.int x1), .val (.int x2), .val (.int x3), .val (.int x4), .val (.int x5), .val (.int (4 : Int32)), .val (.int v0), .val (.int v1), .val (.int v2), .val (.int v3), .val (.ref a_645), .val (.int (1 : Int32)), .val (.int (0 : Int32)), .unset, .unset, .unset, .unset, .unset]) at_140 (pc' := 142) rfl rfl ?_
          refine go_iload C at_142 (pc' := 144) rfl rfl ?_
          refine go_iconst C (2 : Int32) at_144 (pc' := 145) rfl (by decide) ?_
          refine go_icmp C (4 : Int) (2 : Int) (by decide) (by decide) at_145 (by decide) (pc' := 166) (by decide) (pcN := 148) rfl (fun (c_1535 : ¬ (2 : Int) < (4 : Int)) => by omega) (fun (c_1535 : (2 : Int) < (4 : Int)) => ?_)
          refine go_iload C at_148 (pc' := 150) rfl rfl ?_
          refine go_iload C at_150 (pc' := 152) rfl rfl ?_
          refine go_icmp C v2.toInt v0.toInt rfl rfl at_152 (by decide) (pc' := 166) (by decide) (pcN := 155) rfl (fun (c_1536 : v2.toInt = v0.toInt) => ?_) (fun (c_1536 : ¬ v2.toInt = v0.toInt) => by omega)
          refine go_iconst C (0 : Int32) at_166 (pc' := 167) rfl (by decide) ?_
          refine go_istore C (Ls' := #[.val (.int x0), .val (.int x1), .val (.int x2), .val (.int x3), .val (.int x4), .val (.int x5), .val (.int (4 : Int32)), .val (.int v0), .val (.int v1), .val (.int v2), .val (.int v3), .val (.ref a_645), .val (.int (1 : Int32)), .val (.int (0 : Int32)), .val (.int (0 : Int32)), .unset, .unset, .unset, .unset]) at_167 (pc' := 169) rfl rfl ?_
          refine go_iload C at_169 (pc' := 171) rfl rfl ?_
          refine go_iconst C (3 : Int32) at_171 (pc' := 172) rfl (by decide) ?_
          refine go_icmp C (4 : Int) (3 : Int) (by decide) (by decide) at_172 (by decide) (pc' := 200) (by decide) (pcN := 175) rfl (fun (c_1537 : ¬ (3 : Int) < (4 : Int)) => by omega) (fun (c_1537 : (3 : Int) < (4 : Int)) => ?_)
          refine go_iload C at_175 (pc' := 177) rfl rfl ?_
          refine go_iload C at_177 (pc' := 179) rfl rfl ?_
          refine go_icmp C v3.toInt v0.toInt rfl rfl at_179 (by decide) (pc' := 200) (by decide) (pcN := 182) rfl (fun (c_1538 : v3.toInt = v0.toInt) => ?_) (fun (c_1538 : ¬ v3.toInt = v0.toInt) => by omega)
          refine go_iconst C (0 : Int32) at_200 (pc' := 201) rfl (by decide) ?_
          refine go_istore C (Ls' := #[.val (.int x0), .val (.int x1), .val (.int x2), .val (.int x3), .val (.int x4), .val (.int x5), .val (.int (4 : Int32)), .val (.int v0), .val (.int v1), .val (.int v2), .val (.int v3), .val (.ref a_645), .val (.int (1 : Int32)), .val (.int (0 : Int32)), .val (.int (0 : Int32)), .val (.int (0 : Int32)), .unset, .unset, .unset]) at_201 (pc' := 203) rfl rfl ?_
          refine go_iconst C (4 : Int32) at_203 (pc' := 204) rfl (by decide) ?_
          refine go_newarray C (wd hw 13 rfl) rfl 4 4 (by decide) (by decide) (by decide) (ce' := 3) (sl' := 14) rfl rfl (by decide) (by decide) at_204 (pc' := 206) rfl ?_
          intro h_1539 a_1540 g_1541 E_1542 A_1543
          have n_1544 : a_645 ≠ a_1540 := own_ne_new E_1528.lt g_1541
          have n_1545 : r_656 ≠ a_1540 := own_ne_new A_1531.lt g_1541
          have g_1546 : Z.heap.size ≤ a_1540 := own_ge (Nat.le_of_lt (Nat.lt_of_le_of_lt g_650 E_1528.lt)) g_1541
          have F_1547 := Fld.ext E_1542 F_1529
          have F_1548 := Fld.ext E_1542 F_1530
          have E_1549 := Exa.ext E_1542 E_1528
          have A_1550 := Av.ext A_1531 E_1542
          have z_1551 : Z.heap.size ≤ h_1539.size := Nat.le_trans (Nat.le_of_lt (Nat.lt_of_le_of_lt g_650 E_1528.lt)) E_1542.1
          have A_1552 : Av Z h_1539 a_1540 .int [.int (0 : Int32), .int (0 : Int32), .int (0 : Int32), .int (0 : Int32)] := A_1543
          refine go_astore C (Ls' := #[.val (.int x0), .val (.int x1), .val (.int x2), .val (.int x3), .val (.int x4), .val (.int x5), .val (.int (4 : Int32)), .val (.int v0), .val (.int v1), .val (.int v2), .val (.int v3), .val (.ref a_645), .val (.int (1 : Int32)), .val (.int (0 : Int32)), .val (.int (0 : Int32)), .val (.int (0 : Int32)), .val (.ref a_1540), .unset, .unset]) at_206 (pc' := 208) rfl rfl rfl ?_
          refine go_iconst C (0 : Int32) at_208 (pc' := 209) rfl (by decide) ?_
          refine go_istore C (Ls' := #[.val (.int x0), .val (.int x1), .val (.int x2), .val (.int x3), .val (.int x4), .val (.int x5), .val (.int (4 : Int32)), .val (.int v0), .val (.int v1), .val (.int v2), .val (.int v3), .val (.ref a_645), .val (.int (1 : Int32)), .val (.int (0 : Int32)), .val (.int (0 : Int32)), .val (.int (0 : Int32)), .val (.ref a_1540), .val (.int (0 : Int32)), .unset]) at_209 (pc' := 211) rfl rfl ?_
          refine go_iload C at_211 (pc' := 213) rfl rfl ?_
          refine go_if0 C (1 : Int) (by decide) at_213 (by decide) (pc' := 226) (by decide) (pcN := 216) rfl (fun (c_1553 : (1 : Int) = 0) => by omega) (fun (c_1553 : ¬ (1 : Int) = 0) => ?_)
          refine go_aload C at_216 (pc' := 218) rfl rfl rfl ?_
          refine go_iload C at_218 (pc' := 220) rfl rfl ?_
          refine go_iload C at_220 (pc' := 222) rfl rfl ?_
          refine go_iastore C A_1552 0 (by decide) (show 0 < 4 from by decide) g_1546 at_222 (pc' := 223) rfl ?_
          intro h_1554 W_1555 A_1556
          have z_1557 : Z.heap.size ≤ h_1554.size := W_1555.size.symm ▸ z_1551
          have F_1558 := Fld.other W_1555 F_1547 (Or.inl n_1544)
          have F_1559 := Fld.other W_1555 F_1548 (Or.inl n_1544)
          have E_1560 := Exa.wr W_1555 E_1549
          have A_1561 := Av.other A_1550 W_1555 n_1545
          have A_1562 : Av Z h_1554 a_1540 .int [.int v0, .int (0 : Int32), .int (0 : Int32), .int (0 : Int32)] := A_1556
          refine go_iinc C (Ls' := #[.val (.int x0), .val (.int x1), .val (.int x2), .val (.int x3), .val (.int x4), .val (.int x5), .val (.int (4 : Int32)), .val (.int v0), .val (.int v1), .val (.int v2), .val (.int v3), .val (.ref a_645), .val (.int (1 : Int32)), .val (.int (0 : Int32)), .val (.int (0 : Int32)), .val (.int (0 : Int32)), .val (.ref a_1540), .val (.int ((0 : Int32) + (1 : Int32))), .unset]) (1 : Int32) at_223 (pc' := 226) rfl (by decide) rfl rfl ?_
          rw [(by decide : (0 : Int32) + (1 : Int32) = (1 : Int32))]
          refine go_iload C at_226 (pc' := 228) rfl rfl ?_
          refine go_if0 C (0 : Int) (by decide) at_228 (by decide) (pc' := 241) (by decide) (pcN := 231) rfl (fun (c_1563 : (0 : Int) = 0) => ?_) (fun (c_1563 : ¬ (0 : Int) = 0) => by omega)
          refine go_iload C at_241 (pc' := 243) rfl rfl ?_
          refine go_if0 C (0 : Int) (by decide) at_243 (by decide) (pc' := 256) (by decide) (pcN := 246) rfl (fun (c_1564 : (0 : Int) = 0) => ?_) (fun (c_1564 : ¬ (0 : Int) = 0) => by omega)
          refine go_iload C at_256 (pc' := 258) rfl rfl ?_
          refine go_if0 C (0 : Int) (by decide) at_258 (by decide) (pc' := 271) (by decide) (pcN := 261) rfl (fun (c_1565 : (0 : Int) = 0) => ?_) (fun (c_1565 : ¬ (0 : Int) = 0) => by omega)
          refine go_aload C at_271 (pc' := 273) rfl rfl rfl ?_
          refine go_virtualP C (as := []) (rest := []) (W := 0) (.int (1 : Int32)) (sat_size l Z a0 hw a_645 _ _ _ F_1559) E_1560 (wd hw 23 rfl) (wd hw 24 rfl) (wd hw 26 rfl) (wd hw 25 rfl) (wd hw 6 rfl) (wd hw 27 rfl) (by decide) pd_3 rfl rfl rfl (by decide) (by decide) rfl rfl (by decide) (by decide) at_273 (pc' := 276) rfl rfl ?_
          refine go_iload C at_276 (pc' := 278) rfl rfl ?_
          refine go_icmp C (1 : Int) (1 : Int) (by decide) (by decide) at_278 (by decide) (pc' := 283) (by decide) (pcN := 281) rfl (fun (c_1566 : (1 : Int) = (1 : Int)) => ?_) (fun (c_1566 : ¬ (1 : Int) = (1 : Int)) => by omega)
          refine go_iconst C (1 : Int32) at_283 (pc' := 284) rfl (by decide) ?_
          refine go_istore C (Ls' := #[.val (.int x0), .val (.int x1), .val (.int x2), .val (.int x3), .val (.int x4), .val (.int x5), .val (.int (4 : Int32)), .val (.int v0), .val (.int v1), .val (.int v2), .val (.int v3), .val (.ref a_645), .val (.int (1 : Int32)), .val (.int (0 : Int32)), .val (.int (0 : Int32)), .val (.int (0 : Int32)), .val (.ref a_1540), .val (.int (1 : Int32)), .val (.int (1 : Int32))]) at_284 (pc' := 286) rfl rfl ?_
          refine go_iload C at_286 (pc' := 288) rfl rfl ?_
          refine go_if0 C (1 : Int) (by decide) at_288 (by decide) (pc' := 316) (by decide) (pcN := 291) rfl (fun (c_1567 : ¬ 0 < (1 : Int)) => by omega) (fun (c_1567 : 0 < (1 : Int)) => ?_)
          refine go_iload C at_291 (pc' := 293) rfl rfl ?_
          refine go_if0 C (1 : Int) (by decide) at_293 (by decide) (pc' := 313) (by decide) (pcN := 296) rfl (fun (c_1568 : (1 : Int) = 0) => by omega) (fun (c_1568 : ¬ (1 : Int) = 0) => ?_)
          refine go_aload C at_296 (pc' := 298) rfl rfl rfl ?_
          refine go_iconst C (0 : Int32) at_298 (pc' := 299) rfl (by decide) ?_
          refine go_virtualP C (as := [.int (0 : Int32)]) (rest := []) (W := 0) (.int v0) (sat_get l Z a0 hw a_645 r_656 (0 : Int32) v0 0 [.int v0, .int v1, .int v2, .int v3, .int (0 : Int32), .int (0 : Int32), .int (0 : Int32), .int (0 : Int32)] _ _ F_1558 A_1561 (by decide) rfl) E_1560 (wd hw 33 rfl) (wd hw 34 rfl) (wd hw 36 rfl) (wd hw 35 rfl) (wd hw 6 rfl) (wd hw 37 rfl) (by decide) pd_5 rfl rfl rfl (by decide) (by decide) rfl rfl (by decide) (by decide) at_299 (pc' := 302) rfl rfl ?_
          refine go_aload C at_302 (pc' := 304) rfl rfl rfl ?_
          refine go_iconst C (0 : Int32) at_304 (pc' := 305) rfl (by decide) ?_
          refine go_iaload C A_1562 0 (.int v0) (by decide) rfl at_305 (pc' := 306) rfl ?_
          refine go_icmp C v0.toInt v0.toInt rfl rfl at_306 (by decide) (pc' := 313) (by decide) (pcN := 309) rfl (fun (c_1569 : ¬ v0.toInt = v0.toInt) => by omega) (fun (c_1569 : v0.toInt = v0.toInt) => ?_)
          refine go_iconst C (1 : Int32) at_309 (pc' := 310) rfl (by decide) ?_
          refine go_goto C at_310 (by decide) (pc' := 314) (by decide) ?_
          refine go_istore C (Ls' := #[.val (.int x0), .val (.int x1), .val (.int x2), .val (.int x3), .val (.int x4), .val (.int x5), .val (.int (4 : Int32)), .val (.int v0), .val (.int v1), .val (.int v2), .val (.int v3), .val (.ref a_645), .val (.int (1 : Int32)), .val (.int (0 : Int32)), .val (.int (0 : Int32)), .val (.int (0 : Int32)), .val (.ref a_1540), .val (.int (1 : Int32)), .val (.int (1 : Int32))]) at_314 (pc' := 316) rfl rfl ?_
          refine go_iload C at_316 (pc' := 318) rfl rfl ?_
          refine go_iconst C (1 : Int32) at_318 (pc' := 319) rfl (by decide) ?_
          refine go_icmp C (1 : Int) (1 : Int) (by decide) (by decide) at_319 (by decide) (pc' := 347) (by decide) (pcN := 322) rfl (fun (c_1570 : ¬ (1 : Int) < (1 : Int)) => ?_) (fun (c_1570 : (1 : Int) < (1 : Int)) => by omega)
          refine go_iload C at_347 (pc' := 349) rfl rfl ?_
          refine go_iconst C (2 : Int32) at_349 (pc' := 350) rfl (by decide) ?_
          refine go_icmp C (1 : Int) (2 : Int) (by decide) (by decide) at_350 (by decide) (pc' := 378) (by decide) (pcN := 353) rfl (fun (c_1571 : ¬ (2 : Int) < (1 : Int)) => ?_) (fun (c_1571 : (2 : Int) < (1 : Int)) => by omega)
          refine go_iload C at_378 (pc' := 380) rfl rfl ?_
          refine go_iconst C (3 : Int32) at_380 (pc' := 381) rfl (by decide) ?_
          refine go_icmp C (1 : Int) (3 : Int) (by decide) (by decide) at_381 (by decide) (pc' := 409) (by decide) (pcN := 384) rfl (fun (c_1572 : ¬ (3 : Int) < (1 : Int)) => ?_) (fun (c_1572 : (3 : Int) < (1 : Int)) => by omega)
          refine go_iload C at_409 (pc' := 411) rfl rfl ?_
          refine go_ireturnN C (z' := (1 : Int32)) rfl (by simp) rfl at_411 (by decide) (by decide) ?_
          exact ⟨_, rfl, rfl⟩
set_option maxRecDepth 65536 in
set_option maxHeartbeats 40000000 in
theorem comes_1 {Post : Tables → Env → Array Value → State → Outcome → State → Prop} (hpost : ∀ tb e args s v u, (limb_1_1.after args s (.returned v) u = true ∧ limb_1_2.after args s (.returned v) u = true ∧ True) → FrameEnd s (.returned v) u (Jvm.fieldLocs frame_1_writes args s ++ Jvm.arrayLocs frame_1_arrays args s ++ Jvm.staticLocs frame_1_statics s) 16 128 → Post tb e args s (.returned v) u) :
    ArmFor flags0 classFile x code maxLocals ret World_1 tables_1 room_1 Calls_1 rest_1 Pre_1 Post := by
  intro l hfl _ _ p e ha hc hk s m args below hf hA hF happ hP
  obtain ⟨hcalls, hrest, hpre⟩ := hP
  obtain ⟨-, -, -, hnamed, -, -, -, hat⟩ := (Spec.applies_iff hf).mp happ
  obtain ⟨hg, hn⟩ := and_e (Cond.before_iff.mp (show (Jvm.Cond.and given_1 narrow_1).before args s = true from hpre))
  obtain ⟨k0, g0⟩ := and_e hg
  obtain ⟨k1, g1⟩ := and_e g0
  obtain ⟨k2, g2⟩ := and_e g1
  obtain ⟨k3, g3⟩ := and_e g2
  obtain ⟨k4, g4⟩ := and_e g3
  obtain ⟨k5, g5⟩ := and_e g4
  obtain ⟨w0, w1, w2, w3, w4, w5, rfl⟩ : ∃ w0 w1 w2 w3 w4 w5 : Value, args = #[w0, w1, w2, w3, w4, w5] := by
    have hs : args.size = 6 := by simpa [Cond.value, given_1] using k0
    obtain ⟨L⟩ := args
    match L, hs with
    | [w0, w1, w2, w3, w4, w5], _ => exact ⟨w0, w1, w2, w3, w4, w5, rfl⟩
  have hw := fun d (hd : d ∈ tables_1) => atoms_spec (ws := Jvm.Cond.code x code maxLocals ret :: tables_1) hat d (List.mem_cons_of_mem _ hd)
  obtain ⟨i0, e0⟩ := is_v k1
  obtain ⟨i1, e1⟩ := is_v k2
  obtain ⟨i2, e2⟩ := is_v k3
  obtain ⟨i3, e3⟩ := is_v k4
  obtain ⟨i4, e4⟩ := is_v k5
  obtain ⟨i5, e5⟩ := is_v g5
  obtain rfl : w0 = (.int i0) := Option.some.inj e0
  obtain rfl : w1 = (.int i1) := Option.some.inj e1
  obtain rfl : w2 = (.int i2) := Option.some.inj e2
  obtain rfl : w3 = (.int i3) := Option.some.inj e3
  obtain rfl : w4 = (.int i4) := Option.some.inj e4
  obtain rfl : w5 = (.int i5) := Option.some.inj e5
  obtain ⟨n, o, h1, h2, h3, _, L, rfl, ⟨⟨_, rfl, rfl⟩, N⟩, hq⟩ := law_sat l s _ hw i0 i1 i2 i3 i4 i5 tables_1 p e ha hc hk s m _ below hf ((Spec.applies_iff_loose hf).mp happ).1 ⟨rfl, State.Warmed39.refl s, rfl⟩ trivial
  refine ⟨n, _, h1, h2, h3, hpost _ _ _ _ _ _ ⟨Cond.after_iff.mpr rfl, Cond.after_iff.mpr (eq_i res_at (Term.int_eval (1)) rfl), trivial⟩ ⟨hq.1, hq.2.1, (hq.2.2.sift fun y hy => Or.inr (N y hy)).mono (by decide) (by decide)⟩⟩
theorem main_1_1 : Claimed_1_1 := comes_1 fun _ _ _ _ _ _ h hF => ⟨h.1, hF⟩
theorem main_1_2 : Claimed_1_2 := comes_1 fun _ _ _ _ _ _ h hF => ⟨h.2.1, hF⟩
end Jvm.Pilot.@@N@@
namespace Jvm.Pilot.@@N@@
open Jvm Jvm.ClassFile Sem Op Lib Jvm.Free Jvm.Stand Jvm.Pilot.@@N@@.Jvm.D
/-! MADE BY PROGRAM (witnessworld.py) out of the Statement's table words and the real class files: 9 classes; the members and pool entries that the words name. The judged class is class 1, her method 2. -/
namespace start1
open Jvm.ClassFile
def u (s : String) : CpInfo := .utf8 (stringToUtf16 s)
/-- a pool by its gaps: so many unusable entries, then the entry; so many at the end -/
def gap : Nat → List CpInfo → List CpInfo
  | 0, r => r
  | n + 1, r => .unusable :: gap n r
def poolList (es : List (Nat × CpInfo)) (last : Nat) : List CpInfo := es.foldr (fun e r => gap e.1 (e.2 :: r)) (gap last [])
def pool (es : List (Nat × CpInfo)) (last : Nat) : Array CpInfo := ⟨poolList es last⟩
def fileOf (pool : Array CpInfo) (this : Nat) (attrs : Array Attribute := #[]) (ms : Array MethodInfo := #[]) (fl : Nat := 33) (sup : Nat := 0) (ifs : Array Nat := #[]) (fds : Array FieldInfo := #[]) : ClassFile where
  minorVersion := 0
  majorVersion := 65
  constantPool := pool
  accessFlags := fl
  thisClass := this
  superClass := sup
  interfaces := ifs
  fields := fds
  methods := ms
  attributes := attrs
def plain (name : String) (sup : Option ClassId) : Class where
  name := name
  kind := .ordinary
  loader := none
  accessFlags := 33
  super := sup
  interfaces := #[]
  cf := none
  fields := #[]
  methods := #[]
  instanceTypes := #[]
  staticTypes := #[]
  resolved := #[]
  callSites := []
  init := .initialized
  statics := none
  mirror := none

def pool0 : Array CpInfo := pool [(5, u "<init>"), (0, u "()V"), (1, .class_ 10), (1, u "java/lang/Object")] 113

def k0c0 : Code := { maxStack := 0, maxLocals := 1, code := object_method_1_code, exceptionTable := #[], attributes := #[] }
def k0m0 : Method := { name := "<init>", desc := "()V", sig := { parameters := [], returnType := none }, accessFlags := 1, code := some k0c0 }
/-- java/lang/Object -/
def k0 : Class := { plain "java/lang/Object" none with
  accessFlags := 33
  interfaces := #[]
  cf := some (fileOf pool0 8 #[] #[{ accessFlags := 1, nameIndex := 5, descriptorIndex := 6, attributes := #[] }] 33 0 #[] #[])
  fields := #[]
  methods := #[k0m0]
  instanceTypes := #[]
  staticTypes := #[]
  resolved := Array.replicate 124 none
  statics := none }

def pool1 : Array CpInfo := pool [(2, .class_ 4), (0, .nameAndType 5 6), (0, u "java/lang/Object"), (0, u "<init>"), (0, u "()V"), (0, .methodref 8 9), (0, .class_ 10), (0, .nameAndType 11 12), (0, u "com/example/inevitable_path/inevitablepath/smv/IntListRemoveDuplicatesPinLaw"), (0, u "pick"), (0, u "(III)I"), (0, .class_ 14), (0, u "com/example/inevitable_path/inevitablepath/smv/IntList"), (0, .methodref 13 3), (0, .methodref 13 17), (0, .nameAndType 18 19), (0, u "add"), (0, u "(I)V"), (0, .methodref 13 21), (0, .nameAndType 22 6), (0, u "removeDuplicates"), (0, .methodref 13 24), (0, .nameAndType 25 26), (0, u "size"), (0, u "()I"), (0, .methodref 13 28), (0, .nameAndType 29 30), (0, u "get"), (0, u "(I)I"), (3, u "law"), (0, u "(IIIIII)Z")] 4

def k1m0 : Method := { name := "<init>", desc := "()V", sig := { parameters := [], returnType := none }, accessFlags := 1, code := none }
def k1c1 : Code := { maxStack := 2, maxLocals := 3, code := method_2_code, exceptionTable := #[], attributes := #[] }
def k1m1 : Method := { name := "pick", desc := "(III)I", sig := { parameters := [.int, .int, .int], returnType := some .int }, accessFlags := 10, code := some k1c1 }
def k1c2 : Code := { maxStack := 3, maxLocals := 19, code := code, exceptionTable := #[], attributes := #[] }
def k1m2 : Method := { name := "law", desc := "(IIIIII)Z", sig := { parameters := [.int, .int, .int, .int, .int, .int], returnType := some .boolean }, accessFlags := 9, code := some k1c2 }
/-- com/example/inevitable_path/inevitablepath/smv/IntListRemoveDuplicatesPinLaw -/
def k1 : Class := { plain "com/example/inevitable_path/inevitablepath/smv/IntListRemoveDuplicatesPinLaw" (some 0) with
  accessFlags := 49
  interfaces := #[]
  cf := some (fileOf pool1 8 #[] #[{ accessFlags := 1, nameIndex := 5, descriptorIndex := 6, attributes := #[] }, { accessFlags := 10, nameIndex := 11, descriptorIndex := 12, attributes := #[] }, { accessFlags := 9, nameIndex := 34, descriptorIndex := 35, attributes := #[] }] 49 2 #[] #[])
  fields := #[]
  methods := #[k1m0, k1m1, k1m2]
  instanceTypes := #[]
  staticTypes := #[]
  resolved := Array.replicate 40 none
  statics := none }

def pool2 : Array CpInfo := pool [(3, .methodref 4 5), (0, .class_ 6), (0, .nameAndType 7 8), (0, u "java/lang/Object"), (0, u "<init>"), (0, u "()V"), (0, .fieldref 10 11), (0, .class_ 12), (0, .nameAndType 13 14), (0, u "com/example/inevitable_path/inevitablepath/smv/IntList"), (0, u "values"), (0, u "[I"), (0, .fieldref 10 16), (0, .nameAndType 17 18), (0, u "size"), (0, u "I"), (42, u "MAX_ARRAY_LENGTH"), (4, u "add"), (0, u "(I)V"), (3, u "get"), (0, u "(I)I"), (3, u "()I"), (3, u "removeDuplicates")] 17

def k2c0 : Code := { maxStack := 2, maxLocals := 1, code := prog_60_method_1_code, exceptionTable := #[], attributes := #[] }
def k2m0 : Method := { name := "<init>", desc := "()V", sig := { parameters := [], returnType := none }, accessFlags := 0, code := some k2c0 }
def k2c1 : Code := { maxStack := 5, maxLocals := 2, code := prog_60_method_2_code, exceptionTable := #[], attributes := #[] }
def k2m1 : Method := { name := "add", desc := "(I)V", sig := { parameters := [.int], returnType := none }, accessFlags := 0, code := some k2c1 }
def k2c2 : Code := { maxStack := 2, maxLocals := 2, code := prog_60_method_4_code, exceptionTable := #[], attributes := #[] }
def k2m2 : Method := { name := "get", desc := "(I)I", sig := { parameters := [.int], returnType := some .int }, accessFlags := 0, code := some k2c2 }
def k2c3 : Code := { maxStack := 1, maxLocals := 1, code := prog_60_method_7_code, exceptionTable := #[], attributes := #[] }
def k2m3 : Method := { name := "size", desc := "()I", sig := { parameters := [], returnType := some .int }, accessFlags := 0, code := some k2c3 }
def k2c4 : Code := { maxStack := 3, maxLocals := 6, code := prog_60_method_10_code, exceptionTable := #[], attributes := #[] }
def k2m4 : Method := { name := "removeDuplicates", desc := "()V", sig := { parameters := [], returnType := none }, accessFlags := 0, code := some k2c4 }
/-- com/example/inevitable_path/inevitablepath/smv/IntList -/
def k2 : Class := { plain "com/example/inevitable_path/inevitablepath/smv/IntList" (some 0) with
  accessFlags := 48
  interfaces := #[]
  cf := some (fileOf pool2 10 #[] #[{ accessFlags := 0, nameIndex := 7, descriptorIndex := 8, attributes := #[] }, { accessFlags := 0, nameIndex := 66, descriptorIndex := 67, attributes := #[] }, { accessFlags := 0, nameIndex := 71, descriptorIndex := 72, attributes := #[] }, { accessFlags := 0, nameIndex := 17, descriptorIndex := 76, attributes := #[] }, { accessFlags := 0, nameIndex := 80, descriptorIndex := 8, attributes := #[] }] 48 4 #[] #[{ accessFlags := 24, nameIndex := 61, descriptorIndex := 18, attributes := #[] }, { accessFlags := 2, nameIndex := 13, descriptorIndex := 14, attributes := #[] }, { accessFlags := 2, nameIndex := 17, descriptorIndex := 18, attributes := #[] }])
  fields := #[{ name := "MAX_ARRAY_LENGTH", type := .int, accessFlags := 24, slot := 0, constantValue := 0 }, { name := "values", type := (.array .int), accessFlags := 2, slot := 0, constantValue := 0 }, { name := "size", type := .int, accessFlags := 2, slot := 1, constantValue := 0 }]
  methods := #[k2m0, k2m1, k2m2, k2m3, k2m4]
  instanceTypes := #[(.array .int), .int]
  staticTypes := #[.int]
  resolved := Array.replicate 98 none
  statics := none }

def pool3 : Array CpInfo := pool [(1, u "java/lang/Cloneable"), (0, .class_ 1), (0, u "java/lang/Object"), (0, .class_ 3)] 3

/-- java/lang/Cloneable -/
def k3 : Class := { plain "java/lang/Cloneable" (some 0) with
  accessFlags := 1537
  interfaces := #[]
  cf := some (fileOf pool3 2 #[] #[] 1537 4 #[] #[])
  fields := #[]
  methods := #[]
  instanceTypes := #[]
  staticTypes := #[]
  resolved := Array.replicate 8 none
  statics := none }

def pool4 : Array CpInfo := pool [(1, u "java/io/Serializable"), (0, .class_ 1), (0, u "java/lang/Object"), (0, .class_ 3)] 3

/-- java/io/Serializable -/
def k4 : Class := { plain "java/io/Serializable" (some 0) with
  accessFlags := 1537
  interfaces := #[]
  cf := some (fileOf pool4 2 #[] #[] 1537 4 #[] #[])
  fields := #[]
  methods := #[]
  instanceTypes := #[]
  staticTypes := #[]
  resolved := Array.replicate 8 none
  statics := none }

/-- the primitive byte -/
def k5 : Class := { plain "byte" none with kind := .primitive 'B', accessFlags := 0x411 }
/-- [B -/
def k6 : Class := { plain "[B" (some 0) with kind := .array 5 .byte, interfaces := #[3, 4], accessFlags := 1041 }

/-- the primitive int -/
def k7 : Class := { plain "int" none with kind := .primitive 'I', accessFlags := 0x411 }
/-- [I -/
def k8 : Class := { plain "[I" (some 0) with kind := .array 7 .int, interfaces := #[3, 4], accessFlags := 1041 }

def heap : Heap := #[]
def classes : Array Class := #[k0, k1, k2, k3, k4, k5, k6, k7, k8]
def interned : List (Array UInt16 × Addr) := []
def slotsUsed : Nat := 0
def theMethod : MethodId := ⟨1, 2⟩
def args0 : Array Value := #[.int 3, .int 4, .int 5, .int 6, .int 7, .int 8]
def aboutOver (below : List Frame) : State where
  vm := { classes := classes, interned := interned.toArray }
  heap := heap
  slotsUsed := slotsUsed
  threads := #[{ frames := .invoking theMethod args0 :: below }]
def below0 : List Frame := [.native { method := ⟨0, 0⟩, args := #[] }]
def about1 : State := aboutOver below0
def p0 : Program := .bare "" "" ""
def e0 : Env := launch0.env 0 0 0
theorem w_frames : about1.frames = Frame.invoking theMethod args0 :: below0 := rfl
set_option maxRecDepth 65536 in
theorem w_args : argsFit about1.vm theMethod args0 = true := by decide +kernel
set_option maxRecDepth 65536 in
theorem w_heap : heapFits about1 = true := by decide +kernel
set_option maxRecDepth 65536 in
theorem w_runnable : about1.curStatus? = some .runnable := by decide +kernel
set_option maxRecDepth 65536 in
theorem w_alone : about1.alone = true := by decide +kernel
set_option maxRecDepth 65536 in
theorem w_named : about1.methodNamed? x = some theMethod := by decide +kernel
set_option maxRecDepth 65536 in
theorem w_hears : about1.hears theMethod below0 = true := by decide +kernel
set_option maxRecDepth 65536 in
theorem w_ripe : about1.ripe theMethod args0 below0 = true := by decide +kernel
theorem w_running : about1.status = .running := rfl
set_option maxRecDepth 65536 in
theorem w_room : about1.hasRoom e0.platform room_1 = true :=
  launch0.hasRoom_least _ room_1 (by decide +kernel) (by decide +kernel) (by decide +kernel) (by decide +kernel) (by decide +kernel) (by decide +kernel)
theorem allAtoms_all (ts : List Jvm.Cond) (a : Array Jvm.Value) (st : Jvm.State) : (allAtoms ts).before a st = ts.all (fun c => c.before a st) := by
  induction ts with
  | nil => rfl
  | cons c t ih =>
    show (Jvm.Cond.and c (allAtoms t)).before a st = _
    rw [Jvm.Cond.before_and, ih, List.all_cons]
def words1 : List Jvm.Cond := Jvm.Cond.code x code maxLocals ret :: tables_1
/-- a 'code' word, met by the world's own term for the bytes: nothing is compared byte by byte -/
theorem code_word {y : MethodName} {bytes : ByteArray} {mx : Nat} {rt : Option FieldType} {a : Array Value} {s : State} {m : MethodId} {meth : Method} {c : Code} (h1 : s.methodNamed? y = some m) (h2 : s.vm.method? m = some meth) (h3 : meth.code = some c) (h4 : c.code = bytes)
    (h5 : (c.maxLocals == mx && c.exceptionTable.isEmpty && decide (c.maxStack ≤ mostOperands) && decide (meth.sig.returnType = rt) && !meth.locks && decide (parseMethodDescriptor y.desc = some meth.sig)) = true) : (Jvm.Cond.code y bytes mx rt).before a s = true := by
  simp only [Bool.and_eq_true, beq_iff_eq, Bool.not_eq_true', decide_eq_true_eq] at h5
  obtain ⟨⟨⟨⟨⟨g1, g2⟩, g3⟩, g4⟩, g5⟩, g6⟩ := h5
  simp [Cond.before, Cond.holds, Cond.value, h1, h2, h3, h4, g1, g2, g3, g4, g5, g6]
def isCode : Jvm.Cond → Bool
  | .code _ _ _ _ => true
  | _ => false
theorem all_split {L : List Jvm.Cond} {P : Jvm.Cond → Bool} (h1 : L.all (fun c => isCode c || P c) = true) (h2 : ∀ c ∈ L.filter isCode, P c = true) : L.all P = true := by
  refine List.all_eq_true.mpr fun c hc => ?_
  have h := List.all_eq_true.mp h1 c hc
  rcases Bool.eq_false_or_eq_true (isCode c) with hi | hi
  · exact h2 c (List.mem_filter.mpr ⟨hc, hi⟩)
  · simpa [hi] using h
set_option maxRecDepth 65536 in
theorem w_c0 : (Jvm.Cond.code x code maxLocals ret).before args0 about1 = true := code_word (m := ⟨1, 2⟩) (meth := k1m2) (c := k1c2) (by decide +kernel) rfl rfl rfl (by decide +kernel)
set_option maxRecDepth 65536 in
theorem w_c1 : (Jvm.Cond.code ({ cls := "com/example/inevitable_path/inevitablepath/smv/IntListRemoveDuplicatesPinLaw", name := "pick", desc := "(III)I" } : Jvm.MethodName) method_2_code (3 : Nat) (Option.some Jvm.ClassFile.FieldType.int)).before args0 about1 = true := code_word (m := ⟨1, 1⟩) (meth := k1m1) (c := k1c1) (by decide +kernel) rfl rfl rfl (by decide +kernel)
set_option maxRecDepth 65536 in
theorem w_c2 : (Jvm.Cond.code ({ cls := "com/example/inevitable_path/inevitablepath/smv/IntList", name := "<init>", desc := "()V" } : Jvm.MethodName) prog_60_method_1_code (1 : Nat) (Option.none : Option Jvm.ClassFile.FieldType)).before args0 about1 = true := code_word (m := ⟨2, 0⟩) (meth := k2m0) (c := k2c0) (by decide +kernel) rfl rfl rfl (by decide +kernel)
set_option maxRecDepth 65536 in
theorem w_c3 : (Jvm.Cond.code ({ cls := "java/lang/Object", name := "<init>", desc := "()V" } : Jvm.MethodName) object_method_1_code (1 : Nat) (Option.none : Option Jvm.ClassFile.FieldType)).before args0 about1 = true := code_word (m := ⟨0, 0⟩) (meth := k0m0) (c := k0c0) (by decide +kernel) rfl rfl rfl (by decide +kernel)
set_option maxRecDepth 65536 in
theorem w_c4 : (Jvm.Cond.code ({ cls := "com/example/inevitable_path/inevitablepath/smv/IntList", name := "removeDuplicates", desc := "()V" } : Jvm.MethodName) prog_60_method_10_code (6 : Nat) (Option.none : Option Jvm.ClassFile.FieldType)).before args0 about1 = true := code_word (m := ⟨2, 4⟩) (meth := k2m4) (c := k2c4) (by decide +kernel) rfl rfl rfl (by decide +kernel)
set_option maxRecDepth 65536 in
theorem w_c5 : (Jvm.Cond.code ({ cls := "com/example/inevitable_path/inevitablepath/smv/IntList", name := "size", desc := "()I" } : Jvm.MethodName) prog_60_method_7_code (1 : Nat) (Option.some Jvm.ClassFile.FieldType.int)).before args0 about1 = true := code_word (m := ⟨2, 3⟩) (meth := k2m3) (c := k2c3) (by decide +kernel) rfl rfl rfl (by decide +kernel)
set_option maxRecDepth 65536 in
theorem w_c6 : (Jvm.Cond.code ({ cls := "com/example/inevitable_path/inevitablepath/smv/IntList", name := "add", desc := "(I)V" } : Jvm.MethodName) prog_60_method_2_code (2 : Nat) (Option.none : Option Jvm.ClassFile.FieldType)).before args0 about1 = true := code_word (m := ⟨2, 1⟩) (meth := k2m1) (c := k2c1) (by decide +kernel) rfl rfl rfl (by decide +kernel)
set_option maxRecDepth 65536 in
theorem w_c7 : (Jvm.Cond.code ({ cls := "com/example/inevitable_path/inevitablepath/smv/IntList", name := "get", desc := "(I)I" } : Jvm.MethodName) prog_60_method_4_code (2 : Nat) (Option.some Jvm.ClassFile.FieldType.int)).before args0 about1 = true := code_word (m := ⟨2, 2⟩) (meth := k2m2) (c := k2c2) (by decide +kernel) rfl rfl rfl (by decide +kernel)
def codes1 : List Jvm.Cond := [Jvm.Cond.code x code maxLocals ret, Jvm.Cond.code ({ cls := "com/example/inevitable_path/inevitablepath/smv/IntListRemoveDuplicatesPinLaw", name := "pick", desc := "(III)I" } : Jvm.MethodName) method_2_code (3 : Nat) (Option.some Jvm.ClassFile.FieldType.int), Jvm.Cond.code ({ cls := "com/example/inevitable_path/inevitablepath/smv/IntList", name := "<init>", desc := "()V" } : Jvm.MethodName) prog_60_method_1_code (1 : Nat) (Option.none : Option Jvm.ClassFile.FieldType), Jvm.Cond.code ({ cls := "java/lang/Object", name := "<init>", desc := "()V" } : Jvm.MethodName) object_method_1_code (1 : Nat) (Option.none : Option Jvm.ClassFile.FieldType), Jvm.Cond.code ({ cls := "com/example/inevitable_path/inevitablepath/smv/IntList", name := "removeDuplicates", desc := "()V" } : Jvm.MethodName) prog_60_method_10_code (6 : Nat) (Option.none : Option Jvm.ClassFile.FieldType), Jvm.Cond.code ({ cls := "com/example/inevitable_path/inevitablepath/smv/IntList", name := "size", desc := "()I" } : Jvm.MethodName) prog_60_method_7_code (1 : Nat) (Option.some Jvm.ClassFile.FieldType.int), Jvm.Cond.code ({ cls := "com/example/inevitable_path/inevitablepath/smv/IntList", name := "add", desc := "(I)V" } : Jvm.MethodName) prog_60_method_2_code (2 : Nat) (Option.none : Option Jvm.ClassFile.FieldType), Jvm.Cond.code ({ cls := "com/example/inevitable_path/inevitablepath/smv/IntList", name := "get", desc := "(I)I" } : Jvm.MethodName) prog_60_method_4_code (2 : Nat) (Option.some Jvm.ClassFile.FieldType.int)]
set_option maxRecDepth 65536 in
theorem codes_eq : words1.filter isCode = codes1 := rfl
theorem w_codes : ∀ c ∈ words1.filter isCode, c.before args0 about1 = true := by
  rw [codes_eq]
  intro c hc
  simp only [codes1, List.mem_cons, List.not_mem_nil, or_false] at hc
  rcases hc with rfl | rfl | rfl | rfl | rfl | rfl | rfl | rfl
  · exact w_c0
  · exact w_c1
  · exact w_c2
  · exact w_c3
  · exact w_c4
  · exact w_c5
  · exact w_c6
  · exact w_c7
set_option maxRecDepth 65536 in
theorem w_t1 : (words1.take 24).all (fun c => isCode c || c.before args0 about1) = true := by decide +kernel
set_option maxRecDepth 65536 in
theorem w_t2 : (words1.drop 24).all (fun c => isCode c || c.before args0 about1) = true := by decide +kernel
theorem w_tables : (allAtoms (Jvm.Cond.code x code maxLocals ret :: tables_1)).before args0 about1 = true := by
  rw [allAtoms_all]
  show words1.all (fun c => c.before args0 about1) = true
  refine all_split ?_ w_codes
  rw [← List.take_append_drop 24 words1, List.all_append, w_t1, w_t2]
  rfl
set_option maxRecDepth 65536 in
theorem w_case : (Jvm.Cond.and given_1 narrow_1).before args0 about1 = true := by decide +kernel
theorem w_applies : (headSpec (Jvm.Cond.code x code maxLocals ret :: tables_1) room_1).applies x e0.platform about1 = true :=
  (Spec.applies_iff w_frames).mpr ⟨w_running, w_runnable, w_alone, w_named, w_hears, w_ripe, w_room, w_tables⟩
theorem atStart : AtStart classFile x code maxLocals ret World_1 tables_1 room_1 Calls_1 rest_1 Pre_1 launch0 p0 e0 about1 theMethod args0 below0 :=
  ⟨lists_1, trivial, launch0.admits_env _ _ _, launch0.least_env, fairChoices_fair.cas, fairChoices_fair.clock, w_frames, w_args, w_heap, w_applies, trivial, trivial, w_case⟩
end start1
theorem witness_1 : WitnessClaimed_1 := ⟨start1.p0, start1.e0, start1.about1, start1.theMethod, start1.args0, start1.below0, start1.atStart⟩
end Jvm.Pilot.@@N@@
