import JvmDerived
import JvmDerived.Pilot.@@N@@Statement
import JvmDerived.Pilot.@@N@@Code
set_option linter.unusedVariables false
set_option linter.unusedSimpArgs false
@@BLOCK:NumsL.lean.txt@@
namespace Jvm.Pilot.@@N@@
open Jvm Jvm.ClassFile Sem Op Lib Jvm.Free Jvm.Stand Jvm.LawKit Jvm.RoadKit Bundle Jvm.Pilot.@@N@@.Jvm.D
section OwnLayer
/-- the surroundings of a walk: what stays the same from step to step -/
def Cx (p : Program) (s : State) (m : MethodId) (meth : Method) (c : Code) (Z : State) (own : String) (bs : ByteArray) (mx : Nat) (rt : Option FieldType) (nm : String) : Prop :=
  p.tables.exec = Jvm.exec ∧ c.code = bs ∧ c.maxLocals = mx ∧ Z.Warmed39 s.vm ∧ s.vm.findClass own = some m.cls ∧ meth.sig.returnType = rt ∧ meth.locks = false ∧ meth.name = nm
/-- wherever the walk stands with heap h and top frame g, it comes to its end, and Q holds there -/
def Go (p : Program) (l : Launch) (e : Env) (R : Room) (s : State) (m : MethodId) (args : Array Value) (below : List Frame) (meth : Method) (c : Code) (n0 : Nat) (Q : Option Value → Heap → Prop) (K N : Nat) (h : Heap) (ce sl : Nat) (g : JFrame) : Prop :=
  ∀ (T : State) (locs : List Loc), Stand p l e R s m args below meth c T locs ce sl → T.heap = h → Fr n0 locs →
    ∃ s₂ o, Steps p.tables e below (T.setTop g) s₂ ∧ s₂.status = .running ∧ Ended s₂ below o ∧ ∃ v L, o = .returned v ∧ (Q v s₂.heap ∧ Fr n0 L) ∧ FrameEnd s o s₂ L K N
/-- a method's contract, for given arguments and a given heap -/
def Sat (l : Launch) (Z : State) (y : MethodName) (bs : ByteArray) (mx : Nat) (rt : Option FieldType) (rm : Room) (as : List Value) (h0 : Heap) (n0 : Nat) (Q : Option Value → Heap → Prop) : Prop :=
  ∀ ws : List Jvm.Cond, MetFree l y (head1 (Jvm.Cond.code y bs mx rt :: ws) rm) (fun a U => a = as.toArray ∧ Z.Warmed39 U.vm ∧ U.heap = h0) (fun _ _ _ _ _ => True) (fun _ U o U' => ∃ v L, o = .returned v ∧ (Q v U'.heap ∧ Fr n0 L) ∧ FrameEnd U o U' L rm.cells rm.slots)
def RV (P : Value → Heap → Prop) : Option Value → Heap → Prop := fun v h => ∃ r, v = some r ∧ P r h
def RN (P : Heap → Prop) : Option Value → Heap → Prop := fun v h => v = none ∧ P h
def wt (st : List Value) : Nat := (st.map fun v => v.category).sum
def bi (P : Prop) [Decidable P] : Int32 := if P then 1 else 0
theorem bi_t {P : Prop} [Decidable P] (h : P) : bi P = 1 := if_pos h
theorem bi_f {P : Prop} [Decidable P] (h : ¬ P) : bi P = 0 := if_neg h
theorem bi1 {P : Prop} [Decidable P] (h : P) : (1 : Int32) = bi P := (if_pos h).symm
theorem bi0 {P : Prop} [Decidable P] (h : ¬ P) : (0 : Int32) = bi P := (if_neg h).symm
theorem bi_congr {P P' : Prop} [Decidable P] [Decidable P'] (h : P ↔ P') : bi P = bi P' := by
  by_cases q : P
  · rw [bi_t q, bi_t (h.mp q)]
  · rw [bi_f q, bi_f fun z => q (h.mpr z)]
theorem bi_nar (P : Prop) [Decidable P] : nar .boolean (bi P) = bi P := by
  by_cases q : P
  · rw [bi_t q]; rfl
  · rw [bi_f q]; rfl
theorem bi_inj {P P' : Prop} [Decidable P] [Decidable P'] (h : bi P = bi P') : P ↔ P' := by
  by_cases q : P <;> by_cases q' : P' <;> simp_all [bi]
theorem bi_narrow (P : Prop) [Decidable P] : narrow .boolean (.int (bi P)) = .int (bi P) := by
  by_cases q : P
  · rw [bi_t q]; rfl
  · rw [bi_f q]; rfl
theorem bi_fits (P : Prop) [Decidable P] : fits .boolean (.int (bi P)) = true := by
  by_cases q : P
  · rw [bi_t q]; rfl
  · rw [bi_f q]; rfl
theorem bi_toInt (P : Prop) [Decidable P] : (bi P).toInt = if P then 1 else 0 := by
  by_cases q : P
  · rw [bi_t q, if_pos q]; rfl
  · rw [bi_f q, if_neg q]; rfl
theorem own_add_t {P : Prop} [Decidable P] (n : Int32) (h : P) : n + 1 = n + bi P := by rw [bi_t h]
theorem own_add_f {P : Prop} [Decidable P] (n : Int32) (h : ¬ P) : n = n + bi P := by rw [bi_f h, Int32.add_zero]
theorem own_narrow_arr {v : Value} {t : FieldType} (h : v.isRef = true) : narrow (.array t) v = v := by
  cases v <;> first | rfl | simp [Value.isRef] at h
theorem own_fits_arr {v : Value} {t : FieldType} (h : v.isRef = true) : fits (.array t) v = true := by
  cases v <;> first | rfl | simp [Value.isRef] at h
theorem own_bb (x : Int32) : x.toInt8.toInt32.toInt8.toInt32 = x.toInt8.toInt32 := by simp
theorem own_ne_new {h : Heap} {a b : Addr} (q : b < h.size) (g : h.size = a) : b ≠ a := Nat.ne_of_lt (g ▸ q)
theorem own_ge {h : Heap} {a : Addr} {n : Nat} (q : n ≤ h.size) (g : h.size = a) : n ≤ a := g ▸ q
theorem int_eq {x y : Int32} (h : x.toInt = y.toInt) : x = y := Int32.toInt_inj.mp h
theorem long_eq {x y : Int64} (h : x.toInt = y.toInt) : x = y := Int64.toInt_inj.mp h
section Walk
variable {p : Program} {l : Launch} {e : Env} {R : Room} {s : State} {m : MethodId} {args : Array Value} {below : List Frame} {meth : Method} {c : Code} {Z : State} {a0 : Array Value} {own : String} {bs : ByteArray} {mx : Nat} {rt : Option FieldType} {nm : String} {n0 : Nat} {Q : Option Value → Heap → Prop} {K N : Nat} {h : Heap} {ce sl : Nat} {pc pc' : Nat} {Ls Ls' : Array Slot} {st : List Value} {g g' : JFrame}
theorem Go.step (H : ∀ (T : State), At T m c below → ∀ target, Steps p.tables e below (T.setTop g') target → Steps p.tables e below (T.setTop g) target) (hr : Go p l e R s m args below meth c n0 Q K N h ce sl g') : Go p l e R s m args below meth c n0 Q K N h ce sl g := fun T locs X eT Nn => by
  obtain ⟨s₂, o, h1, r⟩ := hr T locs X eT Nn
  exact ⟨s₂, o, H T X.here _ h1, r⟩
theorem Go.stepX (H : ∀ (T : State) (locs : List Loc), Stand p l e R s m args below meth c T locs ce sl → T.heap = h → ∀ target, Steps p.tables e below (T.setTop g') target → Steps p.tables e below (T.setTop g) target) (hr : Go p l e R s m args below meth c n0 Q K N h ce sl g') : Go p l e R s m args below meth c n0 Q K N h ce sl g := fun T locs X eT Nn => by
  obtain ⟨s₂, o, h1, r⟩ := hr T locs X eT Nn
  exact ⟨s₂, o, H T locs X eT _ h1, r⟩
theorem Go.more {ce' sl' : Nat} (hc : ce ≤ ce') (hs : sl ≤ sl') (hr : Go p l e R s m args below meth c n0 Q K N h ce' sl' g) : Go p l e R s m args below meth c n0 Q K N h ce sl g := fun T locs X eT Nn => hr T locs (X.more hc hs) eT Nn
theorem go_iloadN (C : Cx p s m meth c Z own bs mx rt nm) {k : Fin 4} {v : Int32} (hd : decode bs pc = .ok (.iload_n k, 1)) (hp : pc + 1 = pc') (hl : Ls[k.val]? = some (.val (.int v))) (hr : Go p l e R s m args below meth c n0 Q K N h ce sl (mkF m pc' Ls (.int v :: st))) : Go p l e R s m args below meth c n0 Q K N h ce sl (mkF m pc Ls st) := by
  subst hp
  exact Go.step (fun T A _ q => XS.iloadN A C.1 rfl (hb C.2.1 hd) hl q) hr
theorem go_iload (C : Cx p s m meth c Z own bs mx rt nm) {k : Nat} {v : Int32} (hd : decode bs pc = .ok (.iload k, 2)) (hp : pc + 2 = pc') (hl : Ls[k]? = some (.val (.int v))) (hr : Go p l e R s m args below meth c n0 Q K N h ce sl (mkF m pc' Ls (.int v :: st))) : Go p l e R s m args below meth c n0 Q K N h ce sl (mkF m pc Ls st) := by
  subst hp
  exact Go.step (fun T A _ q => XS.iload A C.1 rfl (hb C.2.1 hd) hl q) hr
theorem go_lloadN (C : Cx p s m meth c Z own bs mx rt nm) {k : Fin 4} {v : Int64} (hd : decode bs pc = .ok (.lload_n k, 1)) (hp : pc + 1 = pc') (hl : Ls[k.val]? = some (.val (.long v))) (hr : Go p l e R s m args below meth c n0 Q K N h ce sl (mkF m pc' Ls (.long v :: st))) : Go p l e R s m args below meth c n0 Q K N h ce sl (mkF m pc Ls st) := by
  subst hp
  exact Go.step (fun T A _ q => XT.lloadN A C.1 rfl (hb C.2.1 hd) hl q) hr
theorem go_lload (C : Cx p s m meth c Z own bs mx rt nm) {k : Nat} {v : Int64} (hd : decode bs pc = .ok (.lload k, 2)) (hp : pc + 2 = pc') (hl : Ls[k]? = some (.val (.long v))) (hr : Go p l e R s m args below meth c n0 Q K N h ce sl (mkF m pc' Ls (.long v :: st))) : Go p l e R s m args below meth c n0 Q K N h ce sl (mkF m pc Ls st) := by
  subst hp
  exact Go.step (fun T A _ q => XT.lload A C.1 rfl (hb C.2.1 hd) hl q) hr
theorem go_aloadN (C : Cx p s m meth c Z own bs mx rt nm) {k : Fin 4} {v : Value} (hd : decode bs pc = .ok (.aload_n k, 1)) (hp : pc + 1 = pc') (hl : Ls[k.val]? = some (.val v)) (hv : v.isRef = true) (hr : Go p l e R s m args below meth c n0 Q K N h ce sl (mkF m pc' Ls (v :: st))) : Go p l e R s m args below meth c n0 Q K N h ce sl (mkF m pc Ls st) := by
  subst hp
  exact Go.step (fun T A _ q => XS.aloadN A C.1 rfl (hb C.2.1 hd) hl hv q) hr
theorem go_aload (C : Cx p s m meth c Z own bs mx rt nm) {k : Nat} {v : Value} (hd : decode bs pc = .ok (.aload k, 2)) (hp : pc + 2 = pc') (hl : Ls[k]? = some (.val v)) (hv : v.isRef = true) (hr : Go p l e R s m args below meth c n0 Q K N h ce sl (mkF m pc' Ls (v :: st))) : Go p l e R s m args below meth c n0 Q K N h ce sl (mkF m pc Ls st) := by
  subst hp
  exact Go.step (fun T A _ q => XS.aload A C.1 rfl (hb C.2.1 hd) hl hv q) hr
theorem go_istoreN (C : Cx p s m meth c Z own bs mx rt nm) {k : Fin 4} {v : Int32} (hd : decode bs pc = .ok (.istore_n k, 1)) (hp : pc + 1 = pc') (hl : storeLocals Ls k.val (.int v) = some Ls') (hr : Go p l e R s m args below meth c n0 Q K N h ce sl (mkF m pc' Ls' st)) : Go p l e R s m args below meth c n0 Q K N h ce sl (mkF m pc Ls (.int v :: st)) := by
  subst hp
  exact Go.step (fun T A _ q => XS.istoreN A C.1 rfl (hb C.2.1 hd) rfl hl q) hr
theorem go_istore (C : Cx p s m meth c Z own bs mx rt nm) {k : Nat} {v : Int32} (hd : decode bs pc = .ok (.istore k, 2)) (hp : pc + 2 = pc') (hl : storeLocals Ls k (.int v) = some Ls') (hr : Go p l e R s m args below meth c n0 Q K N h ce sl (mkF m pc' Ls' st)) : Go p l e R s m args below meth c n0 Q K N h ce sl (mkF m pc Ls (.int v :: st)) := by
  subst hp
  exact Go.step (fun T A _ q => XS.istore A C.1 rfl (hb C.2.1 hd) rfl hl q) hr
theorem go_lstoreN (C : Cx p s m meth c Z own bs mx rt nm) {k : Fin 4} {v : Int64} (hd : decode bs pc = .ok (.lstore_n k, 1)) (hp : pc + 1 = pc') (hl : storeLocals Ls k.val (.long v) = some Ls') (hr : Go p l e R s m args below meth c n0 Q K N h ce sl (mkF m pc' Ls' st)) : Go p l e R s m args below meth c n0 Q K N h ce sl (mkF m pc Ls (.long v :: st)) := by
  subst hp
  exact Go.step (fun T A _ q => XT.lstoreN A C.1 rfl (hb C.2.1 hd) rfl hl q) hr
theorem go_lstore (C : Cx p s m meth c Z own bs mx rt nm) {k : Nat} {v : Int64} (hd : decode bs pc = .ok (.lstore k, 2)) (hp : pc + 2 = pc') (hl : storeLocals Ls k (.long v) = some Ls') (hr : Go p l e R s m args below meth c n0 Q K N h ce sl (mkF m pc' Ls' st)) : Go p l e R s m args below meth c n0 Q K N h ce sl (mkF m pc Ls (.long v :: st)) := by
  subst hp
  exact Go.step (fun T A _ q => XT.lstore A C.1 rfl (hb C.2.1 hd) rfl hl q) hr
theorem go_astoreN (C : Cx p s m meth c Z own bs mx rt nm) {k : Fin 4} {v : Value} (hd : decode bs pc = .ok (.astore_n k, 1)) (hp : pc + 1 = pc') (hv : v.isRef = true) (hl : storeLocals Ls k.val v = some Ls') (hr : Go p l e R s m args below meth c n0 Q K N h ce sl (mkF m pc' Ls' st)) : Go p l e R s m args below meth c n0 Q K N h ce sl (mkF m pc Ls (v :: st)) := by
  subst hp
  exact Go.step (fun T A _ q => XS.astoreN A C.1 rfl (hb C.2.1 hd) rfl hv hl q) hr
theorem go_astore (C : Cx p s m meth c Z own bs mx rt nm) {k : Nat} {v : Value} (hd : decode bs pc = .ok (.astore k, 2)) (hp : pc + 2 = pc') (hv : v.isRef = true) (hl : storeLocals Ls k v = some Ls') (hr : Go p l e R s m args below meth c n0 Q K N h ce sl (mkF m pc' Ls' st)) : Go p l e R s m args below meth c n0 Q K N h ce sl (mkF m pc Ls (v :: st)) := by
  subst hp
  exact Go.step (fun T A _ q => XS.astore A C.1 rfl (hb C.2.1 hd) rfl hv hl q) hr
theorem go_istoreS (C : Cx p s m meth c Z own bs mx rt nm) {k : Nat} {v : Int32} {o : Slot} (hd : decode bs pc = .ok (.istore k, 2)) (hp : pc + 2 = pc') (hold : Ls[k]? = some o) (ho : One o) (hL : Ls.setIfInBounds k (.val (.int v)) = Ls') (hr : Go p l e R s m args below meth c n0 Q K N h ce sl (mkF m pc' Ls' st)) : Go p l e R s m args below meth c n0 Q K N h ce sl (mkF m pc Ls (.int v :: st)) := by
  subst hp hL
  exact Go.step (fun T A _ q => XS.istoreS A C.1 rfl (hb C.2.1 hd) rfl hold ho q) hr
theorem go_istoreNS (C : Cx p s m meth c Z own bs mx rt nm) {k : Fin 4} {v : Int32} {o : Slot} (hd : decode bs pc = .ok (.istore_n k, 1)) (hp : pc + 1 = pc') (hold : Ls[k.val]? = some o) (ho : One o) (hL : Ls.setIfInBounds k.val (.val (.int v)) = Ls') (hr : Go p l e R s m args below meth c n0 Q K N h ce sl (mkF m pc' Ls' st)) : Go p l e R s m args below meth c n0 Q K N h ce sl (mkF m pc Ls (.int v :: st)) := by
  subst hp hL
  exact Go.step (fun T A _ q => XS.istoreNS A C.1 rfl (hb C.2.1 hd) rfl hold ho q) hr
theorem go_iconst (C : Cx p s m meth c Z own bs mx rt nm) {i : Int} (v : Int32) (hd : decode bs pc = .ok (.iconst i, 1)) (hp : pc + 1 = pc') (hv : Int32.ofInt i = v) (hr : Go p l e R s m args below meth c n0 Q K N h ce sl (mkF m pc' Ls (.int v :: st))) : Go p l e R s m args below meth c n0 Q K N h ce sl (mkF m pc Ls st) := by
  subst hp
  exact Go.step (fun T A _ q => XT.iconstV A C.1 rfl v (hb C.2.1 hd) hv q) hr
theorem go_bipush (C : Cx p s m meth c Z own bs mx rt nm) {i : Int} (v : Int32) (hd : decode bs pc = .ok (.bipush i, 2)) (hp : pc + 2 = pc') (hv : (Int8.ofInt i).toInt32 = v) (hr : Go p l e R s m args below meth c n0 Q K N h ce sl (mkF m pc' Ls (.int v :: st))) : Go p l e R s m args below meth c n0 Q K N h ce sl (mkF m pc Ls st) := by
  subst hp
  exact Go.step (fun T A _ q => XT.bipushV A C.1 rfl v (hb C.2.1 hd) hv q) hr
theorem go_sipush (C : Cx p s m meth c Z own bs mx rt nm) {i : Int} (v : Int32) (hd : decode bs pc = .ok (.sipush i, 3)) (hp : pc + 3 = pc') (hv : (Int16.ofInt i).toInt32 = v) (hr : Go p l e R s m args below meth c n0 Q K N h ce sl (mkF m pc' Ls (.int v :: st))) : Go p l e R s m args below meth c n0 Q K N h ce sl (mkF m pc Ls st) := by
  subst hp
  exact Go.step (fun T A _ q => XT.sipushV A C.1 rfl v (hb C.2.1 hd) hv q) hr
theorem go_lconst (C : Cx p s m meth c Z own bs mx rt nm) {k : Fin 2} (v : Int64) (hd : decode bs pc = .ok (.lconst k, 1)) (hp : pc + 1 = pc') (hv : Int64.ofNat k = v) (hr : Go p l e R s m args below meth c n0 Q K N h ce sl (mkF m pc' Ls (.long v :: st))) : Go p l e R s m args below meth c n0 Q K N h ce sl (mkF m pc Ls st) := by
  subst hp
  exact Go.step (fun T A _ q => XT.lconstV A C.1 rfl v (hb C.2.1 hd) hv q) hr
theorem go_aconst_null (C : Cx p s m meth c Z own bs mx rt nm)  (hd : decode bs pc = .ok (.aconst_null, 1)) (hp : pc + 1 = pc') (hr : Go p l e R s m args below meth c n0 Q K N h ce sl (mkF m pc' Ls (.null :: st))) : Go p l e R s m args below meth c n0 Q K N h ce sl (mkF m pc Ls st) := by
  subst hp
  exact Go.step (fun T A _ q => XS.aconstNull A C.1 rfl (hb C.2.1 hd)  q) hr
theorem go_iinc (C : Cx p s m meth c Z own bs mx rt nm) {k : Nat} {i : Int} {x : Int32} (v : Int32) (hd : decode bs pc = .ok (.iinc k i, 3)) (hp : pc + 3 = pc') (hv : Int32.ofInt i = v) (hl : Ls[k]? = some (.val (.int x))) (hl' : storeLocals Ls k (.int (x + v)) = some Ls') (hr : Go p l e R s m args below meth c n0 Q K N h ce sl (mkF m pc' Ls' st)) : Go p l e R s m args below meth c n0 Q K N h ce sl (mkF m pc Ls st) := by
  subst hp
  exact Go.step (fun T A _ q => XT.iincV A C.1 rfl v (hb C.2.1 hd) hv hl hl' q) hr
theorem go_iadd (C : Cx p s m meth c Z own bs mx rt nm) {x y : Int32} (hd : decode bs pc = .ok (.iadd, 1)) (hp : pc + 1 = pc') (hr : Go p l e R s m args below meth c n0 Q K N h ce sl (mkF m pc' Ls (.int (x + y) :: st))) : Go p l e R s m args below meth c n0 Q K N h ce sl (mkF m pc Ls (.int y :: .int x :: st)) := by
  subst hp
  exact Go.step (fun T A _ q => XS.iadd A C.1 rfl (hb C.2.1 hd) rfl q) hr
theorem go_isub (C : Cx p s m meth c Z own bs mx rt nm) {x y : Int32} (hd : decode bs pc = .ok (.isub, 1)) (hp : pc + 1 = pc') (hr : Go p l e R s m args below meth c n0 Q K N h ce sl (mkF m pc' Ls (.int (x - y) :: st))) : Go p l e R s m args below meth c n0 Q K N h ce sl (mkF m pc Ls (.int y :: .int x :: st)) := by
  subst hp
  exact Go.step (fun T A _ q => XS.isub A C.1 rfl (hb C.2.1 hd) rfl q) hr
theorem go_iand (C : Cx p s m meth c Z own bs mx rt nm) {x y : Int32} (hd : decode bs pc = .ok (.iand, 1)) (hp : pc + 1 = pc') (hr : Go p l e R s m args below meth c n0 Q K N h ce sl (mkF m pc' Ls (.int (x &&& y) :: st))) : Go p l e R s m args below meth c n0 Q K N h ce sl (mkF m pc Ls (.int y :: .int x :: st)) := by
  subst hp
  exact Go.step (fun T A _ q => XS.iand A C.1 rfl (hb C.2.1 hd) rfl q) hr
theorem go_imul (C : Cx p s m meth c Z own bs mx rt nm) {x y : Int32} (hd : decode bs pc = .ok (.imul, 1)) (hp : pc + 1 = pc') (hr : Go p l e R s m args below meth c n0 Q K N h ce sl (mkF m pc' Ls (.int (x * y) :: st))) : Go p l e R s m args below meth c n0 Q K N h ce sl (mkF m pc Ls (.int y :: .int x :: st)) := by
  subst hp
  exact Go.step (fun T A _ q => XS.imul A C.1 rfl (hb C.2.1 hd) rfl q) hr
theorem go_ior (C : Cx p s m meth c Z own bs mx rt nm) {x y : Int32} (hd : decode bs pc = .ok (.ior, 1)) (hp : pc + 1 = pc') (hr : Go p l e R s m args below meth c n0 Q K N h ce sl (mkF m pc' Ls (.int (x ||| y) :: st))) : Go p l e R s m args below meth c n0 Q K N h ce sl (mkF m pc Ls (.int y :: .int x :: st)) := by
  subst hp
  exact Go.step (fun T A _ q => XT.ior A C.1 rfl (hb C.2.1 hd) rfl q) hr
theorem go_ixor (C : Cx p s m meth c Z own bs mx rt nm) {x y : Int32} (hd : decode bs pc = .ok (.ixor, 1)) (hp : pc + 1 = pc') (hr : Go p l e R s m args below meth c n0 Q K N h ce sl (mkF m pc' Ls (.int (x ^^^ y) :: st))) : Go p l e R s m args below meth c n0 Q K N h ce sl (mkF m pc Ls (.int y :: .int x :: st)) := by
  subst hp
  exact Go.step (fun T A _ q => XT.ixor A C.1 rfl (hb C.2.1 hd) rfl q) hr
theorem go_ishl (C : Cx p s m meth c Z own bs mx rt nm) {x y : Int32} (hd : decode bs pc = .ok (.ishl, 1)) (hp : pc + 1 = pc') (hr : Go p l e R s m args below meth c n0 Q K N h ce sl (mkF m pc' Ls (.int (x <<< (y &&& 31)) :: st))) : Go p l e R s m args below meth c n0 Q K N h ce sl (mkF m pc Ls (.int y :: .int x :: st)) := by
  subst hp
  exact Go.step (fun T A _ q => XT.ishl A C.1 rfl (hb C.2.1 hd) rfl q) hr
theorem go_ishr (C : Cx p s m meth c Z own bs mx rt nm) {x y : Int32} (hd : decode bs pc = .ok (.ishr, 1)) (hp : pc + 1 = pc') (hr : Go p l e R s m args below meth c n0 Q K N h ce sl (mkF m pc' Ls (.int (x >>> (y &&& 31)) :: st))) : Go p l e R s m args below meth c n0 Q K N h ce sl (mkF m pc Ls (.int y :: .int x :: st)) := by
  subst hp
  exact Go.step (fun T A _ q => XT.ishr A C.1 rfl (hb C.2.1 hd) rfl q) hr
theorem go_iushr (C : Cx p s m meth c Z own bs mx rt nm) {x y : Int32} (hd : decode bs pc = .ok (.iushr, 1)) (hp : pc + 1 = pc') (hr : Go p l e R s m args below meth c n0 Q K N h ce sl (mkF m pc' Ls (.int (XT.ushr x y) :: st))) : Go p l e R s m args below meth c n0 Q K N h ce sl (mkF m pc Ls (.int y :: .int x :: st)) := by
  subst hp
  exact Go.step (fun T A _ q => XT.iushr A C.1 rfl (hb C.2.1 hd) rfl q) hr
theorem go_ladd (C : Cx p s m meth c Z own bs mx rt nm) {x y : Int64} (hd : decode bs pc = .ok (.ladd, 1)) (hp : pc + 1 = pc') (hr : Go p l e R s m args below meth c n0 Q K N h ce sl (mkF m pc' Ls (.long (x + y) :: st))) : Go p l e R s m args below meth c n0 Q K N h ce sl (mkF m pc Ls (.long y :: .long x :: st)) := by
  subst hp
  exact Go.step (fun T A _ q => XT.ladd A C.1 rfl (hb C.2.1 hd) rfl q) hr
theorem go_lsub (C : Cx p s m meth c Z own bs mx rt nm) {x y : Int64} (hd : decode bs pc = .ok (.lsub, 1)) (hp : pc + 1 = pc') (hr : Go p l e R s m args below meth c n0 Q K N h ce sl (mkF m pc' Ls (.long (x - y) :: st))) : Go p l e R s m args below meth c n0 Q K N h ce sl (mkF m pc Ls (.long y :: .long x :: st)) := by
  subst hp
  exact Go.step (fun T A _ q => XT.lsub A C.1 rfl (hb C.2.1 hd) rfl q) hr
theorem go_land (C : Cx p s m meth c Z own bs mx rt nm) {x y : Int64} (hd : decode bs pc = .ok (.land, 1)) (hp : pc + 1 = pc') (hr : Go p l e R s m args below meth c n0 Q K N h ce sl (mkF m pc' Ls (.long (x &&& y) :: st))) : Go p l e R s m args below meth c n0 Q K N h ce sl (mkF m pc Ls (.long y :: .long x :: st)) := by
  subst hp
  exact Go.step (fun T A _ q => XT.land A C.1 rfl (hb C.2.1 hd) rfl q) hr
theorem go_lmul (C : Cx p s m meth c Z own bs mx rt nm) {x y : Int64} (hd : decode bs pc = .ok (.lmul, 1)) (hp : pc + 1 = pc') (hr : Go p l e R s m args below meth c n0 Q K N h ce sl (mkF m pc' Ls (.long (x * y) :: st))) : Go p l e R s m args below meth c n0 Q K N h ce sl (mkF m pc Ls (.long y :: .long x :: st)) := by
  subst hp
  exact Go.step (fun T A _ q => XT.lmul A C.1 rfl (hb C.2.1 hd) rfl q) hr
theorem go_lor (C : Cx p s m meth c Z own bs mx rt nm) {x y : Int64} (hd : decode bs pc = .ok (.lor, 1)) (hp : pc + 1 = pc') (hr : Go p l e R s m args below meth c n0 Q K N h ce sl (mkF m pc' Ls (.long (x ||| y) :: st))) : Go p l e R s m args below meth c n0 Q K N h ce sl (mkF m pc Ls (.long y :: .long x :: st)) := by
  subst hp
  exact Go.step (fun T A _ q => XT.lor A C.1 rfl (hb C.2.1 hd) rfl q) hr
theorem go_lxor (C : Cx p s m meth c Z own bs mx rt nm) {x y : Int64} (hd : decode bs pc = .ok (.lxor, 1)) (hp : pc + 1 = pc') (hr : Go p l e R s m args below meth c n0 Q K N h ce sl (mkF m pc' Ls (.long (x ^^^ y) :: st))) : Go p l e R s m args below meth c n0 Q K N h ce sl (mkF m pc Ls (.long y :: .long x :: st)) := by
  subst hp
  exact Go.step (fun T A _ q => XT.lxor A C.1 rfl (hb C.2.1 hd) rfl q) hr
theorem go_idiv (C : Cx p s m meth c Z own bs mx rt nm) {x y : Int32} (hd : decode bs pc = .ok (.idiv, 1)) (hp : pc + 1 = pc') (hy : y ≠ 0) (hr : Go p l e R s m args below meth c n0 Q K N h ce sl (mkF m pc' Ls (.int (x / y) :: st))) : Go p l e R s m args below meth c n0 Q K N h ce sl (mkF m pc Ls (.int y :: .int x :: st)) := by
  subst hp
  exact Go.step (fun T A _ q => XS.idiv A C.1 rfl (hb C.2.1 hd) rfl hy q) hr
theorem go_irem (C : Cx p s m meth c Z own bs mx rt nm) {x y : Int32} (hd : decode bs pc = .ok (.irem, 1)) (hp : pc + 1 = pc') (hy : y ≠ 0) (hr : Go p l e R s m args below meth c n0 Q K N h ce sl (mkF m pc' Ls (.int (x % y) :: st))) : Go p l e R s m args below meth c n0 Q K N h ce sl (mkF m pc Ls (.int y :: .int x :: st)) := by
  subst hp
  exact Go.stepX (fun T locs X _ _ q => iremM X C.1 rfl (hb C.2.1 hd) rfl hy q) hr
theorem go_i2l (C : Cx p s m meth c Z own bs mx rt nm) {x : Int32} (hd : decode bs pc = .ok (.i2l, 1)) (hp : pc + 1 = pc') (hr : Go p l e R s m args below meth c n0 Q K N h ce sl (mkF m pc' Ls (.long x.toInt64 :: st))) : Go p l e R s m args below meth c n0 Q K N h ce sl (mkF m pc Ls (.int x :: st)) := by
  subst hp
  exact Go.step (fun T A _ q => XT.i2l A C.1 rfl (hb C.2.1 hd) rfl q) hr
theorem go_l2i (C : Cx p s m meth c Z own bs mx rt nm) {x : Int64} (hd : decode bs pc = .ok (.l2i, 1)) (hp : pc + 1 = pc') (hr : Go p l e R s m args below meth c n0 Q K N h ce sl (mkF m pc' Ls (.int x.toInt32 :: st))) : Go p l e R s m args below meth c n0 Q K N h ce sl (mkF m pc Ls (.long x :: st)) := by
  subst hp
  exact Go.step (fun T A _ q => XT.l2i A C.1 rfl (hb C.2.1 hd) rfl q) hr
theorem go_i2b (C : Cx p s m meth c Z own bs mx rt nm) {x : Int32} (hd : decode bs pc = .ok (.i2b, 1)) (hp : pc + 1 = pc') (hr : Go p l e R s m args below meth c n0 Q K N h ce sl (mkF m pc' Ls (.int x.toInt8.toInt32 :: st))) : Go p l e R s m args below meth c n0 Q K N h ce sl (mkF m pc Ls (.int x :: st)) := by
  subst hp
  exact Go.step (fun T A _ q => XT.i2b A C.1 rfl (hb C.2.1 hd) rfl q) hr
theorem go_i2c (C : Cx p s m meth c Z own bs mx rt nm) {x : Int32} (hd : decode bs pc = .ok (.i2c, 1)) (hp : pc + 1 = pc') (hr : Go p l e R s m args below meth c n0 Q K N h ce sl (mkF m pc' Ls (.int x.toUInt32.toUInt16.toUInt32.toInt32 :: st))) : Go p l e R s m args below meth c n0 Q K N h ce sl (mkF m pc Ls (.int x :: st)) := by
  subst hp
  exact Go.step (fun T A _ q => XT.i2c A C.1 rfl (hb C.2.1 hd) rfl q) hr
theorem go_ineg (C : Cx p s m meth c Z own bs mx rt nm) {x : Int32} (hd : decode bs pc = .ok (.ineg, 1)) (hp : pc + 1 = pc') (hr : Go p l e R s m args below meth c n0 Q K N h ce sl (mkF m pc' Ls (.int (-x) :: st))) : Go p l e R s m args below meth c n0 Q K N h ce sl (mkF m pc Ls (.int x :: st)) := by
  subst hp
  exact Go.step (fun T A _ q => XS.ineg A C.1 rfl (hb C.2.1 hd) rfl q) hr
theorem go_dup (C : Cx p s m meth c Z own bs mx rt nm) {v : Value} (hd : decode bs pc = .ok (.dup, 1)) (hp : pc + 1 = pc') (hc : v.category = 1) (hr : Go p l e R s m args below meth c n0 Q K N h ce sl (mkF m pc' Ls (v :: v :: st))) : Go p l e R s m args below meth c n0 Q K N h ce sl (mkF m pc Ls (v :: st)) := by
  subst hp
  exact Go.step (fun T A _ q => XS.dup A C.1 rfl (hb C.2.1 hd) rfl hc q) hr
theorem go_pop (C : Cx p s m meth c Z own bs mx rt nm) {v : Value} (hd : decode bs pc = .ok (.pop, 1)) (hp : pc + 1 = pc') (hc : v.category = 1) (hr : Go p l e R s m args below meth c n0 Q K N h ce sl (mkF m pc' Ls st)) : Go p l e R s m args below meth c n0 Q K N h ce sl (mkF m pc Ls (v :: st)) := by
  subst hp
  exact Go.step (fun T A _ q => XT.pop A C.1 rfl (hb C.2.1 hd) rfl hc q) hr
theorem go_dup2 (C : Cx p s m meth c Z own bs mx rt nm) {v w : Value} (hd : decode bs pc = .ok (.dup2, 1)) (hp : pc + 1 = pc') (hc : v.category = 1) (hc' : w.category = 1) (hr : Go p l e R s m args below meth c n0 Q K N h ce sl (mkF m pc' Ls (v :: w :: v :: w :: st))) : Go p l e R s m args below meth c n0 Q K N h ce sl (mkF m pc Ls (v :: w :: st)) := by
  subst hp
  exact Go.step (fun T A _ q => XT.dup2 A C.1 rfl (hb C.2.1 hd) rfl hc hc' q) hr
theorem go_dup_x1 (C : Cx p s m meth c Z own bs mx rt nm) {v w : Value} (hd : decode bs pc = .ok (.dup_x1, 1)) (hp : pc + 1 = pc') (hc : v.category = 1) (hc' : w.category = 1) (hr : Go p l e R s m args below meth c n0 Q K N h ce sl (mkF m pc' Ls (v :: w :: v :: st))) : Go p l e R s m args below meth c n0 Q K N h ce sl (mkF m pc Ls (v :: w :: st)) := by
  subst hp
  exact Go.step (fun T A _ q => XT.dupX1 A C.1 rfl (hb C.2.1 hd) rfl hc hc' q) hr
theorem go_lushr (C : Cx p s m meth c Z own bs mx rt nm) {x : Int64} {y : Int32} (hd : decode bs pc = .ok (.lushr, 1)) (hp : pc + 1 = pc') (hr : Go p l e R s m args below meth c n0 Q K N h ce sl (mkF m pc' Ls (.long (XT.ushrL x y) :: st))) : Go p l e R s m args below meth c n0 Q K N h ce sl (mkF m pc Ls (.int y :: .long x :: st)) := by
  subst hp
  exact Go.step (fun T A _ q => XT.lushr A C.1 rfl (hb C.2.1 hd) rfl q) hr
theorem go_lshl (C : Cx p s m meth c Z own bs mx rt nm) {x : Int64} {y : Int32} (hd : decode bs pc = .ok (.lshl, 1)) (hp : pc + 1 = pc') (hr : Go p l e R s m args below meth c n0 Q K N h ce sl (mkF m pc' Ls (.long (x <<< (y.toInt64 &&& 63)) :: st))) : Go p l e R s m args below meth c n0 Q K N h ce sl (mkF m pc Ls (.int y :: .long x :: st)) := by
  subst hp
  exact Go.step (fun T A _ q => XT.lshl A C.1 rfl (hb C.2.1 hd) rfl q) hr
theorem go_ldiv (C : Cx p s m meth c Z own bs mx rt nm) {x y : Int64} (hd : decode bs pc = .ok (.ldiv, 1)) (hp : pc + 1 = pc') (hy : y ≠ 0) (hr : Go p l e R s m args below meth c n0 Q K N h ce sl (mkF m pc' Ls (.long (x / y) :: st))) : Go p l e R s m args below meth c n0 Q K N h ce sl (mkF m pc Ls (.long y :: .long x :: st)) := by
  subst hp
  exact Go.step (fun T A _ q => XT.ldiv A C.1 rfl (hb C.2.1 hd) rfl hy q) hr
theorem go_lrem (C : Cx p s m meth c Z own bs mx rt nm) {x y : Int64} (hd : decode bs pc = .ok (.lrem, 1)) (hp : pc + 1 = pc') (hy : y ≠ 0) (hr : Go p l e R s m args below meth c n0 Q K N h ce sl (mkF m pc' Ls (.long (x - (x / y) * y) :: st))) : Go p l e R s m args below meth c n0 Q K N h ce sl (mkF m pc Ls (.long y :: .long x :: st)) := by
  subst hp
  exact Go.step (fun T A _ q => XT.lrem A C.1 rfl (hb C.2.1 hd) rfl hy q) hr
theorem go_goto (C : Cx p s m meth c Z own bs mx rt nm) {o : Int} (hd : decode bs pc = .ok (.goto o, 3)) (ho : 0 ≤ (pc : Int) + o) (hp : ((pc : Int) + o).toNat = pc') (hr : Go p l e R s m args below meth c n0 Q K N h ce sl (mkF m pc' Ls st)) : Go p l e R s m args below meth c n0 Q K N h ce sl (mkF m pc Ls st) :=
  Go.step (fun T A _ q => XS.goto A C.1 rfl rfl (hb C.2.1 hd) ho hp q) hr
/-- what a comparison says, of integers -/
def cmpP (cd : ClassFile.Cond) (x y : Int) : Prop := match cd with | .eq => x = y | .ne => ¬ x = y | .lt => x < y | .ge => ¬ x < y | .gt => y < x | .le => ¬ y < x
def cmpN (cd : ClassFile.Cond) (x y : Int) : Prop := match cd with | .eq => ¬ x = y | .ne => x = y | .lt => ¬ x < y | .ge => x < y | .gt => ¬ y < x | .le => y < x
theorem cmpN_of {cd : ClassFile.Cond} {x y : Int} (h : ¬ cmpP cd x y) : cmpN cd x y := by
  cases cd <;> simp only [cmpP] at h <;> simp only [cmpN] <;> omega
theorem cmp_t {cd : ClassFile.Cond} {x y : Int32} (h : cmpP cd x.toInt y.toInt) : if_icmp.holds cd x y = true := by
  cases cd <;> simp only [cmpP] at h
  · exact XT.ii_eq_t (int_eq h)
  · exact XT.ii_ne_t fun q => h (by rw [q])
  · exact XT.ii_lt_t (Int32.lt_iff_toInt_lt.mpr h)
  · exact XT.ii_ge_t fun q => h (Int32.lt_iff_toInt_lt.mp q)
  · exact XT.ii_gt_t (Int32.lt_iff_toInt_lt.mpr h)
  · exact XT.ii_le_t fun q => h (Int32.lt_iff_toInt_lt.mp q)
theorem cmp_f {cd : ClassFile.Cond} {x y : Int32} (h : ¬ cmpP cd x.toInt y.toInt) : if_icmp.holds cd x y = false := by
  cases cd <;> simp only [cmpP] at h
  · exact XT.ii_eq_f fun q => h (by rw [q])
  · exact XT.ii_ne_f (int_eq (Classical.not_not.mp h))
  · exact XT.ii_lt_f fun q => h (Int32.lt_iff_toInt_lt.mp q)
  · exact XT.ii_ge_f (Int32.lt_iff_toInt_lt.mpr (Classical.not_not.mp h))
  · exact XT.ii_gt_f fun q => h (Int32.lt_iff_toInt_lt.mp q)
  · exact XT.ii_le_f (Int32.lt_iff_toInt_lt.mpr (Classical.not_not.mp h))
theorem cmpL_t {cd : ClassFile.Cond} {x y : Int64} (h : cmpP cd x.toInt y.toInt) : ifCond.holds cd (XT.cmpL x y) = true := by
  cases cd <;> simp only [cmpP] at h
  · exact XT.ll_eq_t (long_eq h)
  · exact XT.ll_ne_t fun q => h (by rw [q])
  · exact XT.ll_lt_t (Int64.lt_iff_toInt_lt.mpr h)
  · exact XT.ll_ge_t fun q => h (Int64.lt_iff_toInt_lt.mp q)
  · exact XT.ll_gt_t (Int64.lt_iff_toInt_lt.mpr h)
  · exact XT.ll_le_t fun q => h (Int64.lt_iff_toInt_lt.mp q)
theorem cmpL_f {cd : ClassFile.Cond} {x y : Int64} (h : ¬ cmpP cd x.toInt y.toInt) : ifCond.holds cd (XT.cmpL x y) = false := by
  cases cd <;> simp only [cmpP] at h
  · exact XT.ll_eq_f fun q => h (by rw [q])
  · exact XT.ll_ne_f (long_eq (Classical.not_not.mp h))
  · exact XT.ll_lt_f fun q => h (Int64.lt_iff_toInt_lt.mp q)
  · exact XT.ll_ge_f (Int64.lt_iff_toInt_lt.mpr (Classical.not_not.mp h))
  · exact XT.ll_gt_f fun q => h (Int64.lt_iff_toInt_lt.mp q)
  · exact XT.ll_le_f (Int64.lt_iff_toInt_lt.mpr (Classical.not_not.mp h))
theorem go_icmp (C : Cx p s m meth c Z own bs mx rt nm) {cd : ClassFile.Cond} {x y : Int32} {o : Int} {pcN : Nat} (kx ky : Int) (hx : x.toInt = kx) (hy : y.toInt = ky) (hd : decode bs pc = .ok (.if_icmp cd o, 3)) (ho : 0 ≤ (pc : Int) + o) (hp : ((pc : Int) + o).toNat = pc') (hpn : pc + 3 = pcN) (h1 : cmpP cd kx ky → Go p l e R s m args below meth c n0 Q K N h ce sl (mkF m pc' Ls st)) (h2 : cmpN cd kx ky → Go p l e R s m args below meth c n0 Q K N h ce sl (mkF m pcN Ls st)) : Go p l e R s m args below meth c n0 Q K N h ce sl (mkF m pc Ls (.int y :: .int x :: st)) := by
  subst hpn hx hy
  by_cases q : cmpP cd x.toInt y.toInt
  · exact Go.step (fun T A _ k => XS.icmpYes A C.1 rfl rfl (hb C.2.1 hd) rfl (cmp_t q) ho hp k) (h1 q)
  · exact Go.step (fun T A _ k => XS.icmpNo A C.1 rfl (hb C.2.1 hd) rfl (cmp_f q) k) (h2 (cmpN_of q))
theorem go_if0 (C : Cx p s m meth c Z own bs mx rt nm) {cd : ClassFile.Cond} {x : Int32} {o : Int} {pcN : Nat} (kx : Int) (hx : x.toInt = kx) (hd : decode bs pc = .ok (.ifCond cd o, 3)) (ho : 0 ≤ (pc : Int) + o) (hp : ((pc : Int) + o).toNat = pc') (hpn : pc + 3 = pcN) (h1 : cmpP cd kx 0 → Go p l e R s m args below meth c n0 Q K N h ce sl (mkF m pc' Ls st)) (h2 : cmpN cd kx 0 → Go p l e R s m args below meth c n0 Q K N h ce sl (mkF m pcN Ls st)) : Go p l e R s m args below meth c n0 Q K N h ce sl (mkF m pc Ls (.int x :: st)) := by
  subst hpn hx
  by_cases q : cmpP cd x.toInt 0
  · exact Go.step (fun T A _ k => XS.ifYes A C.1 rfl rfl (hb C.2.1 hd) rfl ((if0 cd x).trans (cmp_t q)) ho hp k) (h1 q)
  · exact Go.step (fun T A _ k => XS.ifNo A C.1 rfl (hb C.2.1 hd) rfl ((if0 cd x).trans (cmp_f q)) k) (h2 (cmpN_of q))
theorem go_lcmp (C : Cx p s m meth c Z own bs mx rt nm) {cd : ClassFile.Cond} {x y : Int64} {o : Int} {pc1 pcN : Nat} (kx ky : Int) (hx : x.toInt = kx) (hy : y.toInt = ky) (hd0 : decode bs pc = .ok (.lcmp, 1)) (hp1 : pc + 1 = pc1) (hd : decode bs pc1 = .ok (.ifCond cd o, 3)) (ho : 0 ≤ (pc1 : Int) + o) (hp : ((pc1 : Int) + o).toNat = pc') (hpn : pc1 + 3 = pcN) (h1 : cmpP cd kx ky → Go p l e R s m args below meth c n0 Q K N h ce sl (mkF m pc' Ls st)) (h2 : cmpN cd kx ky → Go p l e R s m args below meth c n0 Q K N h ce sl (mkF m pcN Ls st)) : Go p l e R s m args below meth c n0 Q K N h ce sl (mkF m pc Ls (.long y :: .long x :: st)) := by
  subst hpn hp1 hx hy
  refine Go.step (g' := mkF m (pc + 1) Ls (.int (XT.cmpL x y) :: st)) (fun T A _ k => XT.lcmp A C.1 rfl (hb C.2.1 hd0) rfl k) ?_
  by_cases q : cmpP cd x.toInt y.toInt
  · exact Go.step (fun T A _ k => XS.ifYes A C.1 rfl rfl (hb C.2.1 hd) rfl (cmpL_t q) ho hp k) (h1 q)
  · exact Go.step (fun T A _ k => XS.ifNo A C.1 rfl (hb C.2.1 hd) rfl (cmpL_f q) k) (h2 (cmpN_of q))
theorem go_ifne_b (C : Cx p s m meth c Z own bs mx rt nm) {B : Prop} [Decidable B] {o : Int} {pcN : Nat} (hd : decode bs pc = .ok (.ifCond .ne o, 3)) (ho : 0 ≤ (pc : Int) + o) (hp : ((pc : Int) + o).toNat = pc') (hpn : pc + 3 = pcN) (h1 : B → Go p l e R s m args below meth c n0 Q K N h ce sl (mkF m pc' Ls st)) (h2 : ¬ B → Go p l e R s m args below meth c n0 Q K N h ce sl (mkF m pcN Ls st)) : Go p l e R s m args below meth c n0 Q K N h ce sl (mkF m pc Ls (.int (bi B) :: st)) := by
  refine go_if0 C _ rfl hd ho hp hpn (fun q => h1 ?_) (fun q => h2 ?_)
  · exact Classical.byContradiction fun z => q (by rw [bi_f z]; rfl)
  · exact fun z => by
      have q' : (bi B).toInt = 0 := q
      rw [bi_t z] at q'
      exact absurd q' (by decide)
theorem go_ifeq_b (C : Cx p s m meth c Z own bs mx rt nm) {B : Prop} [Decidable B] {o : Int} {pcN : Nat} (hd : decode bs pc = .ok (.ifCond .eq o, 3)) (ho : 0 ≤ (pc : Int) + o) (hp : ((pc : Int) + o).toNat = pc') (hpn : pc + 3 = pcN) (h1 : ¬ B → Go p l e R s m args below meth c n0 Q K N h ce sl (mkF m pc' Ls st)) (h2 : B → Go p l e R s m args below meth c n0 Q K N h ce sl (mkF m pcN Ls st)) : Go p l e R s m args below meth c n0 Q K N h ce sl (mkF m pc Ls (.int (bi B) :: st)) := by
  refine go_if0 C _ rfl hd ho hp hpn (fun q => h1 ?_) (fun q => h2 ?_)
  · exact fun z => by
      have q' : (bi B).toInt = 0 := q
      rw [bi_t z] at q'
      exact absurd q' (by decide)
  · exact Classical.byContradiction fun z => q (by rw [bi_f z]; rfl)
theorem go_ifnull_r (C : Cx p s m meth c Z own bs mx rt nm) {a : Addr} {o : Int} (hd : decode bs pc = .ok (.ifnull o, 3)) (hp : pc + 3 = pc') (hr : Go p l e R s m args below meth c n0 Q K N h ce sl (mkF m pc' Ls st)) : Go p l e R s m args below meth c n0 Q K N h ce sl (mkF m pc Ls (.ref a :: st)) := by
  subst hp
  exact Go.step (fun T A _ k => XS.ifnullNo A C.1 rfl (hb C.2.1 hd) rfl k) hr
theorem go_ifnull_n (C : Cx p s m meth c Z own bs mx rt nm) {o : Int} (hd : decode bs pc = .ok (.ifnull o, 3)) (ho : 0 ≤ (pc : Int) + o) (hp : ((pc : Int) + o).toNat = pc') (hr : Go p l e R s m args below meth c n0 Q K N h ce sl (mkF m pc' Ls st)) : Go p l e R s m args below meth c n0 Q K N h ce sl (mkF m pc Ls (.null :: st)) :=
  Go.step (fun T A _ k => XS.ifnullYes A C.1 rfl rfl (hb C.2.1 hd) rfl ho hp k) hr
theorem go_ldc (C : Cx p s m meth c Z own bs mx rt nm) {i : Nat} {v : Int32} (w : (Jvm.Cond.constant own i v).before a0 Z = true) (hd : decode bs pc = .ok (.ldc i, 2)) (hp : pc + 2 = pc') (hr : Go p l e R s m args below meth c n0 Q K N h ce sl (mkF m pc' Ls (.int v :: st))) : Go p l e R s m args below meth c n0 Q K N h ce sl (mkF m pc Ls st) := by
  subst hp
  exact Go.stepX (fun T locs X _ _ q => X.ldcI C.1 C.2.2.2.2.1 (mv C.2.2.2.1 w) rfl (hb C.2.1 hd) q) hr
theorem go_ldc2 (C : Cx p s m meth c Z own bs mx rt nm) {i : Nat} {v : Int64} (w : (Jvm.Cond.constantLong own i v).before a0 Z = true) (hd : decode bs pc = .ok (.ldc2_w i, 3)) (hp : pc + 3 = pc') (hr : Go p l e R s m args below meth c n0 Q K N h ce sl (mkF m pc' Ls (.long v :: st))) : Go p l e R s m args below meth c n0 Q K N h ce sl (mkF m pc Ls st) := by
  subst hp
  exact Go.stepX (fun T locs X _ _ q => X.ldc2J C.1 C.2.2.2.2.1 (mv C.2.2.2.1 w) rfl (hb C.2.1 hd) q) hr
theorem go_getfield (C : Cx p s m meth c Z own bs mx rt nm) {O n d : String} {i : Nat} {a : Addr} {v : Value} (w : (Jvm.Cond.fieldLink own i O n d).before a0 Z = true) (F0 : Fld Z h a O n d v) (hd : decode bs pc = .ok (.getfield i, 3)) (hp : pc + 3 = pc') (hr : Go p l e R s m args below meth c n0 Q K N h ce sl (mkF m pc' Ls (v :: st))) : Go p l e R s m args below meth c n0 Q K N h ce sl (mkF m pc Ls (.ref a :: st)) := by
  subst hp
  intro T locs X eT Nn
  obtain ⟨T', X', e', stp⟩ := getF X C.1 C.2.2.2.1 C.2.2.2.2.1 (host := "") (Or.inl w) Via.refl eT F0 (g := mkF m pc Ls (.ref a :: st)) rfl rfl (hb C.2.1 hd)
  obtain ⟨s₂, o, h1, r⟩ := hr T' locs X' e' Nn
  exact ⟨s₂, o, stp _ h1, r⟩
theorem go_putfield (C : Cx p s m meth c Z own bs mx rt nm) {O n d C0 : String} {i kk : Nat} {ty : FieldType} {a : Addr} {v old : Value} (w : (Jvm.Cond.fieldLink own i O n d).before a0 Z = true) (F0 : Fld Z h a O n d old) (E : Exa Z h a C0) (L : (Jvm.Cond.lays C0 O n d).before a0 Z = true ∨ ((Jvm.Cond.laysFinal C0 O n d).before a0 Z = true ∧ own = O ∧ nm = "<init>")) (wi : (Jvm.Cond.instantiable C0 kk).before a0 Z = true) (hty : parseFieldDescriptor d = some ty) (hn : narrow ty v = v) (hf : fits ty v = true) (ha : n0 ≤ a) (hd : decode bs pc = .ok (.putfield i, 3)) (hp : pc + 3 = pc') (hr : ∀ h', Wr h h' a (Jvm.RoadKit.slotOf Z O n d) v → Go p l e R s m args below meth c n0 Q K N h' ce sl (mkF m pc' Ls st)) : Go p l e R s m args below meth c n0 Q K N h ce sl (mkF m pc Ls (v :: .ref a :: st)) := by
  subst hp
  intro T locs X eT Nn
  obtain ⟨T', h', X', e', W', stp⟩ := putF X C.1 C.2.2.2.1 C.2.2.2.2.1 (host := "") (Or.inl w) Via.refl eT F0 E (L.imp id fun q => ⟨q.1, q.2.1, C.2.2.2.2.2.2.2.trans q.2.2⟩) wi hty hn hf (g := mkF m pc Ls (v :: .ref a :: st)) rfl rfl (hb C.2.1 hd)
  obtain ⟨s₂, o, h1, r⟩ := hr h' W' T' _ X' e' (Fr.snoc X' Nn ha)
  exact ⟨s₂, o, stp _ h1, r⟩
theorem go_new (C : Cx p s m meth c Z own bs mx rt nm) {C0 : String} {i k ce' sl' : Nat} (w : (Jvm.Cond.classLink own i C0).before a0 Z = true) (wi : (Jvm.Cond.instantiable C0 k).before a0 Z = true) (wz : (Jvm.Cond.initialized C0).before a0 Z = true) (hd : decode bs pc = .ok (.new i, 3)) (hp : pc + 3 = pc') (hce : ce + 1 = ce') (hsl : sl + k = sl') (hc : ce' ≤ R.cells) (hl : sl' ≤ R.slots)
    (hr : ∀ (h' : Heap) (a : Addr), h.size = a → Ext h h' → Exa Z h' a C0 → (∀ {O nm d : String} {ty : FieldType}, Laid Z a0 C0 O nm d → parseFieldDescriptor d = some ty → Fld Z h' a O nm d (defaultValue ty)) → Go p l e R s m args below meth c n0 Q K N h' ce' sl' (mkF m pc' Ls (.ref a :: st))) : Go p l e R s m args below meth c n0 Q K N h ce sl (mkF m pc Ls st) := by
  subst hp hce hsl
  intro T locs X eT Nn
  obtain ⟨T', h', X', e', E', A', D', -, stp⟩ := newO X C.1 C.2.2.2.1 C.2.2.2.2.1 w wi wz eT (g := mkF m pc Ls st) rfl (hb C.2.1 hd) hc hl
  obtain ⟨s₂, o, h1, r⟩ := hr h' _ rfl E' A' D' T' _ X' e' Nn
  exact ⟨s₂, o, stp _ h1, r⟩
/-- an array of type ty that holds just vs -/
def Av (Z : State) (h : Heap) (a : Addr) (ty : FieldType) (vs : List Value) : Prop := ∃ cl : Cell, Arr Z h a cl ty ∧ cl.slots.toList = vs ∧ vs.length < 2147483648
theorem Av.lt {ty : FieldType} {vs : List Value} {a : Addr} (A : Av Z h a ty vs) : a < h.size := by obtain ⟨c, A, -⟩ := A; exact A.lt
theorem Av.ext {ty : FieldType} {vs : List Value} {a : Addr} {h' : Heap} (A : Av Z h a ty vs) (E : Ext h h') : Av Z h' a ty vs := by obtain ⟨c, A, r⟩ := A; exact ⟨c, A.ext E, r⟩
theorem Av.other {ty : FieldType} {vs : List Value} {a b : Addr} {h' : Heap} {k : Nat} {v : Value} (A : Av Z h b ty vs) (W : Wr h h' a k v) (q : b ≠ a) : Av Z h' b ty vs := by obtain ⟨c, A, r⟩ := A; exact ⟨c, A.other W q, r⟩
theorem Av.keep {ty : FieldType} {vs : List Value} {a : Addr} {h' : Heap} {ws : List Addr} (A : Av Z h a ty vs) (K0 : Keep h h' ws) (q : a ∉ ws) : Av Z h' a ty vs := by obtain ⟨c, A, r⟩ := A; exact ⟨c, ⟨K0.2.1 a c A.1 q, A.2⟩, r⟩
theorem own_ne_arr {C0 : String} {ty : FieldType} {vs : List Value} {a b : Addr} {k : Nat} (F0 : Exa Z h a C0) (wi : (Jvm.Cond.instantiable C0 k).before a0 Z = true) (G : Av Z h b ty vs) : a ≠ b := by obtain ⟨c, G, -⟩ := G; exact ne_arr F0 wi G
theorem clamp_of {j : Int32} {k : Nat} (hj : j.toInt = k) : j.toNatClampNeg = k := by
  show j.toInt.toNat = k
  rw [hj]; rfl
theorem nonneg_of {j : Int32} {k : Nat} (hj : j.toInt = k) : ¬ j < 0 := fun q => by
  have := Int32.lt_iff_toInt_lt.mp q
  rw [hj] at this
  exact absurd this (by show ¬ (k : Int) < 0; omega)
theorem Av.at {ty : FieldType} {vs : List Value} {a : Addr} (A : Av Z h a ty vs) {j : Int32} {k : Nat} (hj : j.toInt = k) (hk : k < vs.length) : ∃ cl : Cell, Arr Z h a cl ty ∧ cl.slots.toList = vs ∧ ¬ (j < 0 ∨ cl.slots.size ≤ j.toNatClampNeg) ∧ cl.slots[j.toNatClampNeg]? = vs[k]? := by
  obtain ⟨cl, A, e1, e2⟩ := A
  refine ⟨cl, A, e1, ?_, ?_⟩
  · rw [clamp_of hj]
    intro q
    rcases q with q | q
    · exact nonneg_of hj q
    · rw [← e1] at hk; simp at hk; omega
  · rw [clamp_of hj, ← e1]; simp
theorem Av.set {ty : FieldType} {vs : List Value} {a : Addr} {h' : Heap} {k : Nat} {v : Value} (A : Av Z h a ty vs) (W : Wr h h' a k v) : Av Z h' a ty (vs.set k v) := by
  obtain ⟨cl, A, e1, e2⟩ := A
  exact ⟨_, A.same W, by rw [← e1]; simp [Cell.setSlot], by simpa using e2⟩
/-- n ints, whichever -/
def Ints (vs : List Value) (n : Nat) : Prop := vs.length = n ∧ ∀ k, k < n → ∃ x : Int32, vs[k]? = some (.int x)
theorem Ints.rep (n : Nat) (x : Int32) : Ints (List.replicate n (.int x)) n := ⟨by simp, fun k hk => ⟨x, by simp [hk]⟩⟩
theorem Ints.set {vs : List Value} {n k : Nat} (x : Int32) (I : Ints vs n) : Ints (vs.set k (.int x)) n := ⟨by simpa using I.1, fun j hj => by
  by_cases q : k = j
  · subst q
    exact ⟨x, by rw [List.getElem?_set_self (by rw [I.1]; exact hj)]⟩
  · obtain ⟨y, hy⟩ := I.2 j hj
    exact ⟨y, by rw [List.getElem?_set_ne q]; exact hy⟩⟩
theorem go_arraylength (C : Cx p s m meth c Z own bs mx rt nm) {ty : FieldType} {vs : List Value} {a : Addr} (A : Av Z h a ty vs) (n : Int32) (hn : n.toInt = vs.length) (hd : decode bs pc = .ok (.arraylength, 1)) (hp : pc + 1 = pc') (hr : Go p l e R s m args below meth c n0 Q K N h ce sl (mkF m pc' Ls (.int n :: st))) : Go p l e R s m args below meth c n0 Q K N h ce sl (mkF m pc Ls (.ref a :: st)) := by
  subst hp
  obtain ⟨cl, A, e1, e2⟩ := A
  have q : cl.slots.size.toInt32 = n := by
    have hl : cl.slots.size = vs.length := by rw [← e1]; simp
    rw [hl]
    refine int_eq ?_
    rw [hn]
    exact Int32.toInt_ofNat_of_lt (by omega)
  exact Go.stepX (fun T locs X eT _ k => X.arraylength C.1 (cell := cl) (by rw [eT]; exact A.1) (State.isArrayOf_alike C.2.2.2.1.alike A.2.1) (g := mkF m pc Ls (.ref a :: st)) rfl rfl (hb C.2.1 hd) _ (by rw [q]; exact k)) hr
theorem go_iaload (C : Cx p s m meth c Z own bs mx rt nm) {vs : List Value} {a : Addr} {j : Int32} (A : Av Z h a .int vs) (k : Nat) (v : Value) (hj : j.toInt = k) (hv : vs[k]? = some v) (hd : decode bs pc = .ok (.iaload, 1)) (hp : pc + 1 = pc') (hr : Go p l e R s m args below meth c n0 Q K N h ce sl (mkF m pc' Ls (v :: st))) : Go p l e R s m args below meth c n0 Q K N h ce sl (mkF m pc Ls (.int j :: .ref a :: st)) := by
  subst hp
  obtain ⟨cl, A, e1, e2, e3⟩ := A.at hj (List.getElem?_eq_some_iff.mp hv).1
  exact Go.stepX (fun T locs X eT _ q => X.iaload C.1 (j := j) (v := v) (by rw [eT]; exact A.1) (State.isArrayOf_alike C.2.2.2.1.alike A.2.1) A.2.2 e2 (e3.trans hv) (g := mkF m pc Ls (.int j :: .ref a :: st)) rfl rfl (hb C.2.1 hd) _ q) hr
theorem go_laload (C : Cx p s m meth c Z own bs mx rt nm) {vs : List Value} {a : Addr} {j : Int32} (A : Av Z h a .long vs) (k : Nat) (v : Value) (hj : j.toInt = k) (hv : vs[k]? = some v) (hd : decode bs pc = .ok (.laload, 1)) (hp : pc + 1 = pc') (hr : Go p l e R s m args below meth c n0 Q K N h ce sl (mkF m pc' Ls (v :: st))) : Go p l e R s m args below meth c n0 Q K N h ce sl (mkF m pc Ls (.int j :: .ref a :: st)) := by
  subst hp
  obtain ⟨cl, A, e1, e2, e3⟩ := A.at hj (List.getElem?_eq_some_iff.mp hv).1
  exact Go.stepX (fun T locs X eT _ q => X.laload C.1 (j := j) (v := v) (by rw [eT]; exact A.1) (State.isArrayOf_alike C.2.2.2.1.alike A.2.1) A.2.2 e2 (e3.trans hv) (g := mkF m pc Ls (.int j :: .ref a :: st)) rfl rfl (hb C.2.1 hd) _ q) hr
theorem go_baload (C : Cx p s m meth c Z own bs mx rt nm) {vs : List Value} {a : Addr} {j : Int32} (A : Av Z h a .byte vs) (k : Nat) (v : Value) (hj : j.toInt = k) (hv : vs[k]? = some v) (hd : decode bs pc = .ok (.baload, 1)) (hp : pc + 1 = pc') (hr : Go p l e R s m args below meth c n0 Q K N h ce sl (mkF m pc' Ls (v :: st))) : Go p l e R s m args below meth c n0 Q K N h ce sl (mkF m pc Ls (.int j :: .ref a :: st)) := by
  subst hp
  obtain ⟨cl, A, e1, e2, e3⟩ := A.at hj (List.getElem?_eq_some_iff.mp hv).1
  exact Go.stepX (fun T locs X eT _ q => X.baloadBytes C.1 (j := j) (v := v) (by rw [eT]; exact A.1) (State.isArrayOf_alike C.2.2.2.1.alike A.2.1) A.2.2 e2 (e3.trans hv) (g := mkF m pc Ls (.int j :: .ref a :: st)) rfl rfl (hb C.2.1 hd) _ q) hr
theorem go_iastore (C : Cx p s m meth c Z own bs mx rt nm) {vs : List Value} {a : Addr} {j : Int32} {x : Int32} (A : Av Z h a .int vs) (k : Nat) (hj : j.toInt = k) (hk : k < vs.length) (ha : n0 ≤ a) (hd : decode bs pc = .ok (.iastore, 1)) (hp : pc + 1 = pc') (hr : ∀ h', Wr h h' a k (.int x) → Av Z h' a .int (vs.set k (.int x)) → Go p l e R s m args below meth c n0 Q K N h' ce sl (mkF m pc' Ls st)) : Go p l e R s m args below meth c n0 Q K N h ce sl (mkF m pc Ls (.int x :: .int j :: .ref a :: st)) := by
  subst hp
  obtain ⟨cl, A1, e1, e2, e3⟩ := A.at hj hk
  intro T locs X eT Nn
  obtain ⟨T', h', X', e', W', stp⟩ := stI X C.1 C.2.2.2.1 eT A1 e2 (g := mkF m pc Ls (.int x :: .int j :: .ref a :: st)) rfl rfl (hb C.2.1 hd)
  have W2 : Wr h h' a k (.int x) := by rw [clamp_of hj] at W'; exact W'
  obtain ⟨s₂, o, h1, r⟩ := hr h' W2 (A.set W2) T' _ X' e' (Fr.snoc X' Nn ha)
  exact ⟨s₂, o, stp _ h1, r⟩
theorem go_lastore (C : Cx p s m meth c Z own bs mx rt nm) {vs : List Value} {a : Addr} {j : Int32} {x : Int64} (A : Av Z h a .long vs) (k : Nat) (hj : j.toInt = k) (hk : k < vs.length) (ha : n0 ≤ a) (hd : decode bs pc = .ok (.lastore, 1)) (hp : pc + 1 = pc') (hr : ∀ h', Wr h h' a k (.long x) → Av Z h' a .long (vs.set k (.long x)) → Go p l e R s m args below meth c n0 Q K N h' ce sl (mkF m pc' Ls st)) : Go p l e R s m args below meth c n0 Q K N h ce sl (mkF m pc Ls (.long x :: .int j :: .ref a :: st)) := by
  subst hp
  obtain ⟨cl, A1, e1, e2, e3⟩ := A.at hj hk
  intro T locs X eT Nn
  obtain ⟨T', h', X', e', W', stp⟩ := stJ X C.1 C.2.2.2.1 eT A1 e2 (g := mkF m pc Ls (.long x :: .int j :: .ref a :: st)) rfl rfl (hb C.2.1 hd)
  have W2 : Wr h h' a k (.long x) := by rw [clamp_of hj] at W'; exact W'
  obtain ⟨s₂, o, h1, r⟩ := hr h' W2 (A.set W2) T' _ X' e' (Fr.snoc X' Nn ha)
  exact ⟨s₂, o, stp _ h1, r⟩
theorem go_bastore (C : Cx p s m meth c Z own bs mx rt nm) {vs : List Value} {a : Addr} {j : Int32} {x : Int32} (A : Av Z h a .byte vs) (k : Nat) (hj : j.toInt = k) (hk : k < vs.length) (x' : Int32) (hx : x.toInt8.toInt32 = x') (ha : n0 ≤ a) (hd : decode bs pc = .ok (.bastore, 1)) (hp : pc + 1 = pc') (hr : ∀ h', Wr h h' a k (.int x') → Av Z h' a .byte (vs.set k (.int x')) → Go p l e R s m args below meth c n0 Q K N h' ce sl (mkF m pc' Ls st)) : Go p l e R s m args below meth c n0 Q K N h ce sl (mkF m pc Ls (.int x :: .int j :: .ref a :: st)) := by
  subst hp hx
  obtain ⟨cl, A1, e1, e2, e3⟩ := A.at hj hk
  intro T locs X eT Nn
  obtain ⟨T', h', X', e', W', stp⟩ := stB X C.1 C.2.2.2.1 eT A1 e2 (g := mkF m pc Ls (.int x :: .int j :: .ref a :: st)) rfl rfl (hb C.2.1 hd)
  have W2 : Wr h h' a k (.int x.toInt8.toInt32) := by rw [clamp_of hj] at W'; exact W'
  obtain ⟨s₂, o, h1, r⟩ := hr h' W2 (A.set W2) T' _ X' e' (Fr.snoc X' Nn ha)
  exact ⟨s₂, o, stp _ h1, r⟩
theorem go_newarray (C : Cx p s m meth c Z own bs mx rt nm) {aty : ArrayType} {ty : FieldType} {n : Int32} {ce' sl' : Nat} (w : (Jvm.Cond.arrayClass ty).before a0 Z = true) (hty : newarray.typeOf aty = ty) (k cap : Nat) (hn : n.toInt = k) (hcap : k ≤ cap) (hc8 : cap * 8 ≤ 536870912) (hce : ce + 1 = ce') (hsl : sl + cap = sl') (hc : ce' ≤ R.cells) (hl : sl' ≤ R.slots) (hd : decode bs pc = .ok (.newarray aty, 2)) (hp : pc + 2 = pc')
    (hr : ∀ (h' : Heap) (a : Addr), h.size = a → Ext h h' → Av Z h' a ty (List.replicate k (defaultValue ty)) → Go p l e R s m args below meth c n0 Q K N h' ce' sl' (mkF m pc' Ls (.ref a :: st))) : Go p l e R s m args below meth c n0 Q K N h ce sl (mkF m pc Ls (.int n :: st)) := by
  subst hp hty hce hsl
  intro T locs X eT Nn
  obtain ⟨T', h', cA, X', e', E', A', stp⟩ := newP X C.1 C.2.2.2.1 w eT (g := mkF m pc Ls (.int n :: st)) rfl (hb C.2.1 hd) rfl (nonneg_of hn) (cap := cap) (by rw [clamp_of hn]; exact hcap) hc8 hc hl
  have hb31 : k < 2147483648 := by have := n.toInt_lt; omega
  obtain ⟨s₂, o, h1, r⟩ := hr h' _ rfl E' ⟨_, A', by simp [newA, clamp_of hn], by simpa using hb31⟩ T' _ X' e' Nn
  exact ⟨s₂, o, stp _ h1, r⟩
theorem go_newarrayE (C : Cx p s m meth c Z own bs mx rt nm) {aty : ArrayType} {ty : FieldType} {n : Int32} {ce' sl' : Nat} {ad : String} (w : (Jvm.Cond.arrayClass ty).before a0 Z = true) (hty : newarray.typeOf aty = ty) (had : "[" ++ ty.toString = ad) (k cap : Nat) (hn : n.toInt = k) (hcap : k ≤ cap) (hc8 : cap * 8 ≤ 536870912) (hce : ce + 1 = ce') (hsl : sl + cap = sl') (hc : ce' ≤ R.cells) (hl : sl' ≤ R.slots) (hd : decode bs pc = .ok (.newarray aty, 2)) (hp : pc + 2 = pc')
    (hr : ∀ (h' : Heap) (a : Addr), h.size = a → Ext h h' → Exa Z h' a ad → Av Z h' a ty (List.replicate k (defaultValue ty)) → Go p l e R s m args below meth c n0 Q K N h' ce' sl' (mkF m pc' Ls (.ref a :: st))) : Go p l e R s m args below meth c n0 Q K N h ce sl (mkF m pc Ls (.int n :: st)) := by
  subst hp hty hce hsl
  intro T locs X eT Nn
  obtain ⟨T', h', cA, X', e', E', A', Q', stp⟩ := newPE X C.1 C.2.2.2.1 w eT (g := mkF m pc Ls (.int n :: st)) rfl (hb C.2.1 hd) rfl (nonneg_of hn) (cap := cap) (by rw [clamp_of hn]; exact hcap) hc8 hc hl had
  have hb31 : k < 2147483648 := by have := n.toInt_lt; omega
  obtain ⟨s₂, o, h1, r⟩ := hr h' _ rfl E' Q' ⟨_, A', by simp [newA, clamp_of hn], by simpa using hb31⟩ T' _ X' e' Nn
  exact ⟨s₂, o, stp _ h1, r⟩
theorem go_clone (C : Cx p s m meth c Z own bs mx rt nm) {i : Nat} {ad : String} {ty : FieldType} {vs : List Value} {a : Addr} {W cap ce' sl' : Nat} (w1 : (Jvm.Cond.methodLink own i ⟨ad, "clone", "()Ljava/lang/Object;"⟩).before a0 Z = true) (w2 : (Jvm.Cond.sameMethod ad "java/lang/Object" "clone" "()Ljava/lang/Object;").before a0 Z = true) (w3 : (Jvm.Cond.native ⟨"java/lang/Object", "clone", "()Ljava/lang/Object;"⟩).before a0 Z = true) (w4 : (Jvm.Cond.instanceMethod ⟨"java/lang/Object", "clone", "()Ljava/lang/Object;"⟩).before a0 Z = true) (w5 : (Jvm.Cond.selects ad ⟨ad, "clone", "()Ljava/lang/Object;"⟩ ⟨"java/lang/Object", "clone", "()Ljava/lang/Object;"⟩).before a0 Z = true) (w6 : (Jvm.Cond.castable ad "java/lang/Cloneable").before a0 Z = true) (A : Av Z h a ty vs) (E : Exa Z h a ad) (hfit : ∀ v ∈ vs, fits ty v = true) (hls : Ls.size = mx) (hf : 1 ≤ R.frames) (hW : wt st = W) (hlo : W + 14 ≤ R.locals) (hcap : vs.length ≤ cap) (hce : ce + 1 = ce') (hsl : sl + cap = sl') (hc : ce' ≤ R.cells) (hl : sl' ≤ R.slots) (hd : decode bs pc = .ok (.invokevirtual i, 3)) (hp : pc + 3 = pc')
    (hr : ∀ (h' : Heap) (b : Addr), h.size = b → Ext h h' → Exa Z h' b ad → Av Z h' b ty vs → Go p l e R s m args below meth c n0 Q K N h' ce' sl' (mkF m pc' Ls (.ref b :: st))) : Go p l e R s m args below meth c n0 Q K N h ce sl (mkF m pc Ls (.ref a :: st)) := by
  subst hp hce hsl
  intro T locs X eT Nn
  obtain ⟨cl, A1, e1, e2⟩ := A
  have hsz : cl.slots.size = vs.length := by rw [← e1]; simp
  have FC : FitC Z cl := fitC_of A1 fun i hi v hv => hfit v (by rw [← e1]; exact Array.mem_toList_iff.mpr (Array.mem_of_getElem? hv))
  obtain ⟨T', h', X', e', E', A', Q', stp⟩ := cloneA X C.1 C.2.2.2.1 C.2.2.2.2.1 w1 w2 w3 w4 w5 w6 eT A1 E FC (g := mkF m pc Ls (.ref a :: st)) rfl (hls.trans C.2.2.1.symm) rfl (hb C.2.1 hd) hf (W := W) (cap := cap) (by show 2 * 0 + wt st ≤ W; omega) hlo (by rw [hsz]; exact hcap) hc hl
  obtain ⟨s₂, o, h1, r⟩ := hr h' _ rfl E' Q' ⟨_, A', e1, e2⟩ T' _ X' e' Nn
  exact ⟨s₂, o, stp _ h1, r⟩
theorem go_checkcast (C : Cx p s m meth c Z own bs mx rt nm) {i : Nat} {K0 : String} {a : Addr} (w : (Jvm.Cond.classLink own i K0).before a0 Z = true) (E : Exa Z h a K0) (hd : decode bs pc = .ok (.checkcast i, 3)) (hp : pc + 3 = pc') (hr : Go p l e R s m args below meth c n0 Q K N h ce sl (mkF m pc' Ls (.ref a :: st))) : Go p l e R s m args below meth c n0 Q K N h ce sl (mkF m pc Ls (.ref a :: st)) := by
  subst hp
  intro T locs X eT Nn
  obtain ⟨T', X', e', stp⟩ := castY X C.1 C.2.2.2.1 C.2.2.2.2.1 w eT (Ins.self E) (g := mkF m pc Ls (.ref a :: st)) rfl rfl (hb C.2.1 hd)
  obtain ⟨s₂, o, h1, r⟩ := hr T' locs X' e' Nn
  exact ⟨s₂, o, stp _ h1, r⟩
theorem go_objinit (C : Cx p s m meth c Z own bs mx rt nm) {i : Nat} {a : Addr} {W : Nat} (w1 : (Jvm.Cond.methodLink own i Lib.objectInit).before a0 Z = true) (w2 : (Jvm.Cond.instanceMethod Lib.objectInit).before a0 Z = true) (w3 : (Jvm.Cond.code Lib.objectInit ⟨#[0xb1]⟩ 1 none).before a0 Z = true) (hls : Ls.size = mx) (hf : 1 ≤ R.frames) (hW : wt st = W) (hl : W + 12 ≤ R.locals) (hd : decode bs pc = .ok (.invokespecial i, 3)) (hp : pc + 3 = pc') (hr : Go p l e R s m args below meth c n0 Q K N h ce sl (mkF m pc' Ls st)) : Go p l e R s m args below meth c n0 Q K N h ce sl (mkF m pc Ls (.ref a :: st)) := by
  subst hp
  intro T locs X eT Nn
  obtain ⟨T', X', e', stp⟩ := initO X C.1 C.2.2.2.1 C.2.2.2.2.1 w1 w2 w3 eT (g := mkF m pc Ls (.ref a :: st)) rfl (hls.trans C.2.2.1.symm) rfl (hb C.2.1 hd) hf (W := W) (by show 2 * 0 + wt st ≤ W; omega) hl
  obtain ⟨s₂, o, h1, r⟩ := hr T' locs X' e' Nn
  exact ⟨s₂, o, stp _ h1, r⟩
theorem back_of_sat {y : MethodName} {cb : ByteArray} {cm : Nat} {cr : Option FieldType} {rm : Room} {as : List Value} {Qc : Option Value → Heap → Prop} {W len : Nat} (S : Sat l Z y cb cm cr rm as h n0 Qc) (hZ : Z.Warmed39 s.vm) (w3 : (Jvm.Cond.initialized y.cls).before a0 Z = true) (w4 : (Jvm.Cond.code y cb cm cr).before a0 Z = true) (hfr : rm.frames + 1 ≤ R.frames) (hlo : W + (cm + 11) + rm.locals ≤ R.locals) :
    Back l R p e below s args y len W (fun A a => a = as.toArray ∧ A.U.heap = h ∧ A.cells + rm.cells ≤ R.cells ∧ A.slots + rm.slots ≤ R.slots) (fun A _ v B => ∃ L, (Qc v B.U.heap ∧ Fr n0 L) ∧ B.locs = A.locs ++ L ∧ B.cells = A.cells + rm.cells ∧ B.slots = A.slots + rm.slots) :=
  backOf (Q := fun v h L => Qc v h ∧ Fr n0 L) (W := W) (S []) hZ w4 w3 hfr hlo
theorem go_static (C : Cx p s m meth c Z own bs mx rt nm) {y : MethodName} {i : Nat} {cb : ByteArray} {cm : Nat} {cr : Option FieldType} {rm : Room} {as rest : List Value} {W : Nat} {ps : List FieldType} {pr : Option FieldType} {ce' sl' : Nat} {Qc : Option Value → Heap → Prop} (S : Sat l Z y cb cm cr rm as h n0 Qc) (w1 : (Jvm.Cond.methodLink own i y).before a0 Z = true) (w2 : (Jvm.Cond.static y).before a0 Z = true) (w3 : (Jvm.Cond.initialized y.cls).before a0 Z = true) (w4 : (Jvm.Cond.code y cb cm cr).before a0 Z = true) (hy : y.cls ≠ "java/lang/invoke/MethodHandle" ∧ y.cls ≠ "java/lang/invoke/VarHandle") (hpd : parseMethodDescriptor y.desc = some ⟨ps, pr⟩) (hlen : as.length = ps.length) (hls : Ls.size = mx) (hW : wt rest = W) (hfr : rm.frames + 1 ≤ R.frames) (hlo : W + (cm + 11) + rm.locals ≤ R.locals) (hce : ce + rm.cells = ce') (hsl : sl + rm.slots = sl') (hcc : ce' ≤ R.cells) (hss : sl' ≤ R.slots) (hd : decode bs pc = .ok (.invokestatic i, 3)) (hp : pc + 3 = pc') (hst : st = as.reverse ++ rest) (hr : ∀ v h', Qc v h' → Go p l e R s m args below meth c n0 Q K N h' ce' sl' (mkF m pc' Ls (v.toList ++ rest))) : Go p l e R s m args below meth c n0 Q K N h ce sl (mkF m pc Ls st) := by
  subst hp hce hsl
  intro T locs X eT Nn
  have hZ := C.2.2.2.1
  obtain ⟨v, _, ⟨T', L', k', n'⟩, -, X', ⟨Lc, hQ, l', y', z'⟩, stp⟩ := Jvm.LawKit.callS X C.1 (y := y) C.2.2.2.2.1 (mvT hZ w1) (mvT hZ w2) (mvT hZ w3) (mvT hZ w4) hy (back_of_sat S hZ w3 w4 hfr hlo) (g := mkF m pc Ls st) rfl (hls.trans C.2.2.1.symm) (argsL := as) (rest := rest) (lenOf hpd hlen) hst (by show 2 * 0 + wt rest ≤ W; omega) (hb C.2.1 hd) (fun _ _ => ⟨rfl, eT, hcc, hss⟩)
  dsimp only [Pt.U, Pt.locs, Pt.cells, Pt.slots] at X' l' y' z' stp hQ
  subst l' y' z'
  obtain ⟨s₂, o, h1, r⟩ := hr v T'.heap hQ.1 T' _ X' rfl (Fr.app Nn hQ.2)
  exact ⟨s₂, o, stp _ h1, r⟩
theorem go_special (C : Cx p s m meth c Z own bs mx rt nm) {y : MethodName} {i : Nat} {cb : ByteArray} {cm : Nat} {rm : Room} {as rest : List Value} {W : Nat} {ps : List FieldType} {pr : Option FieldType} {ce' sl' : Nat} {a : Addr} {Qc : Option Value → Heap → Prop} (S : Sat l Z y cb cm none rm (.ref a :: as) h n0 Qc) (hyn : y.name = "<init>") (w1 : (Jvm.Cond.methodLink own i y).before a0 Z = true) (w2 : (Jvm.Cond.instanceMethod y).before a0 Z = true) (w3 : (Jvm.Cond.initialized y.cls).before a0 Z = true) (w4 : (Jvm.Cond.code y cb cm none).before a0 Z = true) (hy : y.cls ≠ "java/lang/invoke/MethodHandle" ∧ y.cls ≠ "java/lang/invoke/VarHandle") (hpd : parseMethodDescriptor y.desc = some ⟨ps, pr⟩) (hlen : as.length = ps.length) (hls : Ls.size = mx) (hW : wt rest = W) (hfr : rm.frames + 1 ≤ R.frames) (hlo : W + (cm + 11) + rm.locals ≤ R.locals) (hce : ce + rm.cells = ce') (hsl : sl + rm.slots = sl') (hcc : ce' ≤ R.cells) (hss : sl' ≤ R.slots) (hd : decode bs pc = .ok (.invokespecial i, 3)) (hp : pc + 3 = pc') (hst : st = as.reverse ++ .ref a :: rest) (hr : ∀ v h', Qc v h' → Go p l e R s m args below meth c n0 Q K N h' ce' sl' (mkF m pc' Ls (v.toList ++ rest))) : Go p l e R s m args below meth c n0 Q K N h ce sl (mkF m pc Ls st) := by
  subst hp hce hsl
  intro T locs X eT Nn
  have hZ := C.2.2.2.1
  obtain ⟨v, _, ⟨T', L', k', n'⟩, -, X', ⟨Lc, hQ, l', y', z'⟩, stp⟩ := X.specialBack C.1 (y := y) hyn C.2.2.2.2.1 (mvT hZ w1) (mvT hZ w2) (mvT hZ w4) hy (back_of_sat S hZ w3 w4 hfr hlo) (g := mkF m pc Ls st) rfl (hls.trans C.2.2.1.symm) (Steps.refl _) (a := a) (argsL := as) (rest := rest) (lenOf hpd hlen) hst (by show 2 * 0 + wt rest ≤ W; omega) (hb C.2.1 hd) (fun _ _ => ⟨rfl, eT, hcc, hss⟩)
  dsimp only [Pt.U, Pt.locs, Pt.cells, Pt.slots] at X' l' y' z' stp hQ
  subst l' y' z'
  obtain ⟨s₂, o, h1, r⟩ := hr v T'.heap hQ.1 T' _ X' rfl (Fr.app Nn hQ.2)
  exact ⟨s₂, o, stp.trans h1, r⟩
theorem go_virtual (C : Cx p s m meth c Z own bs mx rt nm) {y : MethodName} {i : Nat} {cb : ByteArray} {cm : Nat} {cr : Option FieldType} {rm : Room} {as rest : List Value} {W : Nat} {ps : List FieldType} {pr : Option FieldType} {ce' sl' : Nat} {a : Addr} {C0 : String} {Qc : Option Value → Heap → Prop} (S : Sat l Z y cb cm cr rm (.ref a :: as) h n0 Qc) (E : Exa Z h a C0) (w1 : (Jvm.Cond.methodLink own i y).before a0 Z = true) (w5 : (Jvm.Cond.declares y).before a0 Z = true) (w6 : (Jvm.Cond.selects C0 y y).before a0 Z = true) (w2 : (Jvm.Cond.instanceMethod y).before a0 Z = true) (w3 : (Jvm.Cond.initialized y.cls).before a0 Z = true) (w4 : (Jvm.Cond.code y cb cm cr).before a0 Z = true) (hy : y.cls ≠ "java/lang/invoke/MethodHandle" ∧ y.cls ≠ "java/lang/invoke/VarHandle") (hpd : parseMethodDescriptor y.desc = some ⟨ps, pr⟩) (hlen : as.length = ps.length) (hls : Ls.size = mx) (hW : wt rest = W) (hfr : rm.frames + 1 ≤ R.frames) (hlo : W + (cm + 11) + rm.locals ≤ R.locals) (hce : ce + rm.cells = ce') (hsl : sl + rm.slots = sl') (hcc : ce' ≤ R.cells) (hss : sl' ≤ R.slots) (hd : decode bs pc = .ok (.invokevirtual i, 3)) (hp : pc + 3 = pc') (hst : st = as.reverse ++ .ref a :: rest) (hr : ∀ v h', Qc v h' → Go p l e R s m args below meth c n0 Q K N h' ce' sl' (mkF m pc' Ls (v.toList ++ rest))) : Go p l e R s m args below meth c n0 Q K N h ce sl (mkF m pc Ls st) := by
  subst hp hce hsl
  intro T locs X eT Nn
  have hZ := C.2.2.2.1
  obtain ⟨cq, kq, qa, qb, qc⟩ := isOf hZ eT E
  obtain ⟨v, _, ⟨T', L', k', n'⟩, -, X', ⟨Lc, hQ, l', y', z'⟩, stp⟩ := X.virtualBack C.1 (y := y) (z := y) C.2.2.2.2.1 (mvT hZ w1) (mvT hZ w5) (notFace_of_selects (args := #[]) (mvT hZ w6)) (mvT hZ w6) (mvT hZ w2) hy (back_of_sat S hZ w3 w4 hfr hlo) qa qc (g := mkF m pc Ls st) rfl (hls.trans C.2.2.1.symm) (Steps.refl _) (argsL := as) (rest := rest) (lenOf hpd hlen) hst (by show 2 * 0 + wt rest ≤ W; omega) (hb C.2.1 hd) (fun _ _ => ⟨rfl, eT, hcc, hss⟩)
  dsimp only [Pt.U, Pt.locs, Pt.cells, Pt.slots] at X' l' y' z' stp hQ
  subst l' y' z'
  obtain ⟨s₂, o, h1, r⟩ := hr v T'.heap hQ.1 T' _ X' rfl (Fr.app Nn hQ.2)
  exact ⟨s₂, o, stp.trans h1, r⟩
theorem go_private (C : Cx p s m meth c Z own bs mx rt nm) {y : MethodName} {i : Nat} {cb : ByteArray} {cm : Nat} {cr : Option FieldType} {rm : Room} {as rest : List Value} {W : Nat} {ps : List FieldType} {pr : Option FieldType} {ce' sl' : Nat} {a : Addr} {C0 : String} {Qc : Option Value → Heap → Prop} (S : Sat l Z y cb cm cr rm (.ref a :: as) h n0 Qc) (E : Exa Z h a C0) (w1 : (Jvm.Cond.methodLink own i y).before a0 Z = true) (w5 : (Jvm.Cond.privateMethod y).before a0 Z = true) (w6 : (Jvm.Cond.selects y.cls y y).before a0 Z = true) (w2 : (Jvm.Cond.instanceMethod y).before a0 Z = true) (w3 : (Jvm.Cond.initialized y.cls).before a0 Z = true) (w4 : (Jvm.Cond.code y cb cm cr).before a0 Z = true) (hy : y.cls ≠ "java/lang/invoke/MethodHandle" ∧ y.cls ≠ "java/lang/invoke/VarHandle") (hpd : parseMethodDescriptor y.desc = some ⟨ps, pr⟩) (hlen : as.length = ps.length) (hls : Ls.size = mx) (hW : wt rest = W) (hfr : rm.frames + 1 ≤ R.frames) (hlo : W + (cm + 11) + rm.locals ≤ R.locals) (hce : ce + rm.cells = ce') (hsl : sl + rm.slots = sl') (hcc : ce' ≤ R.cells) (hss : sl' ≤ R.slots) (hd : decode bs pc = .ok (.invokevirtual i, 3)) (hp : pc + 3 = pc') (hst : st = as.reverse ++ .ref a :: rest) (hr : ∀ v h', Qc v h' → Go p l e R s m args below meth c n0 Q K N h' ce' sl' (mkF m pc' Ls (v.toList ++ rest))) : Go p l e R s m args below meth c n0 Q K N h ce sl (mkF m pc Ls st) := by
  subst hp hce hsl
  intro T locs X eT Nn
  have hZ := C.2.2.2.1
  obtain ⟨cell, hc1, hc2⟩ := E.cell
  obtain ⟨v, _, ⟨T', L', k', n'⟩, -, X', ⟨Lc, hQ, l', y', z'⟩, stp⟩ := X.privateBack C.1 (y := y) C.2.2.2.2.1 (mvT hZ w1) (mvT hZ w2) (mvT hZ w6) (Cond.privateMethod_at (args := #[]) (mvP hZ w5)) (mvT hZ w4) hy (back_of_sat S hZ w3 w4 hfr hlo) (g := mkF m pc Ls st) rfl (hls.trans C.2.2.1.symm) (Steps.refl _) (a := a) (by rw [eT]; exact hc1) hc2 (argsL := as) (rest := rest) (lenOf hpd hlen) hst (by show 2 * 0 + wt rest ≤ W; omega) (hb C.2.1 hd) (fun _ _ => ⟨rfl, eT, hcc, hss⟩)
  dsimp only [Pt.U, Pt.locs, Pt.cells, Pt.slots] at X' l' y' z' stp hQ
  subst l' y' z'
  obtain ⟨s₂, o, h1, r⟩ := hr v T'.heap hQ.1 T' _ X' rfl (Fr.app Nn hQ.2)
  exact ⟨s₂, o, stp.trans h1, r⟩
theorem own_selects_private {y : MethodName} {k : Nat} (wi : (Jvm.Cond.instantiable y.cls k).before a0 Z = true) (wp : (Jvm.Cond.privateMethod y).before a0 Z = true) (wm : (Jvm.Cond.instanceMethod y).before a0 Z = true) (hy : y.cls ≠ "java/lang/invoke/MethodHandle" ∧ y.cls ≠ "java/lang/invoke/VarHandle") : (Jvm.Cond.selects y.cls y y).before a0 Z = true := by
  obtain ⟨mk, methM, hnamed, hmethM, hstM, habM⟩ := Cond.instanceMethod_spec wm
  obtain ⟨c1, k1, q1, q2, q3, q4, -⟩ := Cond.instantiable_spec wi
  have hc := findClass_of_methodNamed hnamed
  cases q1.symm.trans hc
  have hf := State.methodFound?_of_named hnamed hy
  have hs : selectMethod {} Z.vm mk.cls mk = .method mk := selectMethod_private hmethM (Cond.privateMethod_at wp mk methM hnamed hmethM)
  have hi : k1.isInterface = false := by
    cases h : k1.isInterface
    · rfl
    · rw [h] at q4; simp at q4
  simp [Cond.before, Cond.holds, Cond.value, hc, hf, hnamed, hs, q2, hi]
theorem go_specialW (C : Cx p s m meth c Z own bs mx rt nm) {y : MethodName} {i : Nat} {cb : ByteArray} {cm : Nat} {rm : Room} {as rest : List Value} {W : Nat} {ps : List FieldType} {pr : Option FieldType} {ce' sl' : Nat} {a : Addr} {Qc : Option Value → Heap → Prop} (S : Sat l Z y cb cm none rm (.ref a :: as) h n0 Qc) (hyn : y.name = "<init>") (w1 : (Jvm.Cond.methodRef own i y).before a0 Z = true) (w2 : (Jvm.Cond.instanceMethod y).before a0 Z = true) (w3 : (Jvm.Cond.initialized y.cls).before a0 Z = true) (w4 : (Jvm.Cond.code y cb cm none).before a0 Z = true) (hy : y.cls ≠ "java/lang/invoke/MethodHandle" ∧ y.cls ≠ "java/lang/invoke/VarHandle") (hpd : parseMethodDescriptor y.desc = some ⟨ps, pr⟩) (hlen : as.length = ps.length) (hls : Ls.size = mx) (hW : wt rest = W) (hfr : rm.frames + 1 ≤ R.frames) (hlo : W + (cm + 11) + rm.locals ≤ R.locals) (hce : ce + rm.cells = ce') (hsl : sl + rm.slots = sl') (hcc : ce' ≤ R.cells) (hss : sl' ≤ R.slots) (hd : decode bs pc = .ok (.invokespecial i, 3)) (hp : pc + 3 = pc') (hst : st = as.reverse ++ .ref a :: rest) (hr : ∀ v h', Qc v h' → Go p l e R s m args below meth c n0 Q K N h' ce' sl' (mkF m pc' Ls (v.toList ++ rest))) : Go p l e R s m args below meth c n0 Q K N h ce sl (mkF m pc Ls st) := by
  subst hp hce hsl
  intro T locs X eT Nn
  have hZ := C.2.2.2.1
  have hT : Z.Warmed39 T.vm := wtrans hZ X.warmed
  obtain ⟨mZ, _, hnZ, -⟩ := Cond.instanceMethod_spec w2
  have w1T : (Jvm.Cond.methodRef own i y).before a0 T = true := (Cond.methodRef_warmed39 hT hnZ hy w1 :)
  obtain ⟨mO, methO, hnO, hmO, hstO, habO⟩ := Cond.instanceMethod_spec (mv (args := a0) hT w2)
  obtain ⟨methO', cO, hmO', hcO, hbO, hlO, -, hlockO, -, hsigO⟩ := Cond.code_spec hnO (mv (args := a0) hT w4)
  cases hmO.symm.trans hmO'
  obtain ⟨kO, hkO, hnameO⟩ := className_of_methodNamed hnO
  obtain ⟨hnameMO, hdescO⟩ := name_of_methodNamed hnO hmO
  have hownT : T.vm.findClass own = some m.cls := by rw [X.warmed.alike.findClass]; exact C.2.2.2.2.1
  obtain ⟨m', c', hf', hready, hfc, hnr⟩ := Cond.methodRef_named e hownT w1T
  have e1 : m' = mO := Option.some.inj (hf'.symm.trans (State.methodFound?_of_named hnO hy))
  subst e1
  have e2 : c' = m'.cls := Option.some.inj (hfc.symm.trans (findClass_of_methodNamed hnO))
  subst e2
  have hfound : lookupSpecial T.vm m'.cls "<init>" methO.desc = .method m' := by rw [hdescO, ← hyn]; exact lookupSpecial_of_named hnO hmO hstO
  have hstep : ∀ target, (∀ acts, Steps p.tables e below (doInvoke e (T.setTop { mkF m pc Ls st with stack := rest }) acts m' (.ref a :: as).toArray).1 target) → Steps p.tables e below (T.setTop (mkF m pc Ls st)) target := fun target hrest => by
    jvm_step X.here [C.1, (hb C.2.1 hd), invokespecial.wp_init (e := e) (s := T) (k := kO) (meth := methO) (m := m') (a := a) (args := as) (rest := rest) (f := mkF m pc Ls st) X.here.top hnr hready hkO hmO (by rw [hnameMO]; exact hyn) hstO habO hfound (lenOf hpd hlen _ hsigO) hst]
    exact hrest
  have B := back_of_sat (p := p) (e := e) (below := below) (args := args) (R := R) (len := 3) S hZ w3 w4 hfr hlo
  obtain ⟨v, ⟨T', L', k', n'⟩, X', ⟨Lc, hQ, l', y', z'⟩, stp⟩ := B m meth c ⟨T, locs, ce, sl⟩ { mkF m pc Ls st with stack := rest } (.invokespecial i) m' (.ref a :: as).toArray X rfl (hls.trans C.2.2.1.symm) (hb C.2.1 hd) (by show 2 * 0 + wt rest ≤ W; omega) hnO ⟨rfl, eT, hcc, hss⟩
  dsimp only [Pt.U, Pt.locs, Pt.cells, Pt.slots] at X' l' y' z' stp hQ
  subst l' y' z'
  obtain ⟨s₂, o, h1, r⟩ := hr v T'.heap hQ.1 T' _ X' rfl (Fr.app Nn hQ.2)
  exact ⟨s₂, o, (hstep _ (fun acts => by rw [doInvoke_state]; exact Steps.refl _)).trans (stp.trans h1), r⟩
theorem go_staticP (C : Cx p s m meth c Z own bs mx rt nm) {y : MethodName} {i : Nat} {cb : ByteArray} {cm : Nat} {cr : Option FieldType} {rm : Room} {as rest : List Value} {W : Nat} {ps : List FieldType} {pr : Option FieldType}  (v : Value) (S : Sat l Z y cb cm cr rm as h n0 (RV fun r h' => r = v ∧ h' = h)) (w1 : (Jvm.Cond.methodLink own i y).before a0 Z = true) (w2 : (Jvm.Cond.static y).before a0 Z = true) (w3 : (Jvm.Cond.initialized y.cls).before a0 Z = true) (w4 : (Jvm.Cond.code y cb cm cr).before a0 Z = true) (hy : y.cls ≠ "java/lang/invoke/MethodHandle" ∧ y.cls ≠ "java/lang/invoke/VarHandle") (hpd : parseMethodDescriptor y.desc = some ⟨ps, pr⟩) (hlen : as.length = ps.length) (hls : Ls.size = mx) (hW : wt rest = W) (hfr : rm.frames + 1 ≤ R.frames) (hlo : W + (cm + 11) + rm.locals ≤ R.locals) (hce : rm.cells = 0) (hsl : rm.slots = 0) (hcc : ce ≤ R.cells) (hss : sl ≤ R.slots) (hd : decode bs pc = .ok (.invokestatic i, 3)) (hp : pc + 3 = pc') (hst : st = as.reverse ++ rest) (hr : Go p l e R s m args below meth c n0 Q K N h ce sl (mkF m pc' Ls (v :: rest))) : Go p l e R s m args below meth c n0 Q K N h ce sl (mkF m pc Ls st) :=
  go_static C S w1 w2 w3 w4 hy hpd hlen hls hW hfr hlo (by rw [hce]; rfl) (by rw [hsl]; rfl) hcc hss hd hp hst (fun w h' hq => by obtain ⟨r, rfl, q1, q2⟩ := hq; rw [q1, q2]; exact hr)
theorem go_staticV (C : Cx p s m meth c Z own bs mx rt nm) {y : MethodName} {i : Nat} {cb : ByteArray} {cm : Nat} {cr : Option FieldType} {rm : Room} {as rest : List Value} {W : Nat} {ps : List FieldType} {pr : Option FieldType} {ce' sl' : Nat}  {P : Value → Heap → Prop} (S : Sat l Z y cb cm cr rm as h n0 (RV P)) (w1 : (Jvm.Cond.methodLink own i y).before a0 Z = true) (w2 : (Jvm.Cond.static y).before a0 Z = true) (w3 : (Jvm.Cond.initialized y.cls).before a0 Z = true) (w4 : (Jvm.Cond.code y cb cm cr).before a0 Z = true) (hy : y.cls ≠ "java/lang/invoke/MethodHandle" ∧ y.cls ≠ "java/lang/invoke/VarHandle") (hpd : parseMethodDescriptor y.desc = some ⟨ps, pr⟩) (hlen : as.length = ps.length) (hls : Ls.size = mx) (hW : wt rest = W) (hfr : rm.frames + 1 ≤ R.frames) (hlo : W + (cm + 11) + rm.locals ≤ R.locals) (hce : ce + rm.cells = ce') (hsl : sl + rm.slots = sl') (hcc : ce' ≤ R.cells) (hss : sl' ≤ R.slots) (hd : decode bs pc = .ok (.invokestatic i, 3)) (hp : pc + 3 = pc') (hst : st = as.reverse ++ rest) (hr : ∀ r h', P r h' → Go p l e R s m args below meth c n0 Q K N h' ce' sl' (mkF m pc' Ls (r :: rest))) : Go p l e R s m args below meth c n0 Q K N h ce sl (mkF m pc Ls st) :=
  go_static C S w1 w2 w3 w4 hy hpd hlen hls hW hfr hlo hce hsl hcc hss hd hp hst (fun v h' hq => by obtain ⟨r, rfl, q⟩ := hq; exact hr r h' q)
theorem go_staticN (C : Cx p s m meth c Z own bs mx rt nm) {y : MethodName} {i : Nat} {cb : ByteArray} {cm : Nat} {cr : Option FieldType} {rm : Room} {as rest : List Value} {W : Nat} {ps : List FieldType} {pr : Option FieldType} {ce' sl' : Nat}  {P : Heap → Prop} (S : Sat l Z y cb cm cr rm as h n0 (RN P)) (w1 : (Jvm.Cond.methodLink own i y).before a0 Z = true) (w2 : (Jvm.Cond.static y).before a0 Z = true) (w3 : (Jvm.Cond.initialized y.cls).before a0 Z = true) (w4 : (Jvm.Cond.code y cb cm cr).before a0 Z = true) (hy : y.cls ≠ "java/lang/invoke/MethodHandle" ∧ y.cls ≠ "java/lang/invoke/VarHandle") (hpd : parseMethodDescriptor y.desc = some ⟨ps, pr⟩) (hlen : as.length = ps.length) (hls : Ls.size = mx) (hW : wt rest = W) (hfr : rm.frames + 1 ≤ R.frames) (hlo : W + (cm + 11) + rm.locals ≤ R.locals) (hce : ce + rm.cells = ce') (hsl : sl + rm.slots = sl') (hcc : ce' ≤ R.cells) (hss : sl' ≤ R.slots) (hd : decode bs pc = .ok (.invokestatic i, 3)) (hp : pc + 3 = pc') (hst : st = as.reverse ++ rest) (hr : ∀ h', P h' → Go p l e R s m args below meth c n0 Q K N h' ce' sl' (mkF m pc' Ls rest)) : Go p l e R s m args below meth c n0 Q K N h ce sl (mkF m pc Ls st) :=
  go_static C S w1 w2 w3 w4 hy hpd hlen hls hW hfr hlo hce hsl hcc hss hd hp hst (fun v h' hq => by obtain ⟨rfl, q⟩ := hq; exact hr h' q)
theorem go_virtualP (C : Cx p s m meth c Z own bs mx rt nm) {y : MethodName} {i : Nat} {cb : ByteArray} {cm : Nat} {cr : Option FieldType} {rm : Room} {as rest : List Value} {W : Nat} {ps : List FieldType} {pr : Option FieldType} {a : Addr} {C0 : String} (v : Value) (S : Sat l Z y cb cm cr rm (.ref a :: as) h n0 (RV fun r h' => r = v ∧ h' = h)) (E : Exa Z h a C0) (w1 : (Jvm.Cond.methodLink own i y).before a0 Z = true) (w5 : (Jvm.Cond.declares y).before a0 Z = true) (w6 : (Jvm.Cond.selects C0 y y).before a0 Z = true) (w2 : (Jvm.Cond.instanceMethod y).before a0 Z = true) (w3 : (Jvm.Cond.initialized y.cls).before a0 Z = true) (w4 : (Jvm.Cond.code y cb cm cr).before a0 Z = true) (hy : y.cls ≠ "java/lang/invoke/MethodHandle" ∧ y.cls ≠ "java/lang/invoke/VarHandle") (hpd : parseMethodDescriptor y.desc = some ⟨ps, pr⟩) (hlen : as.length = ps.length) (hls : Ls.size = mx) (hW : wt rest = W) (hfr : rm.frames + 1 ≤ R.frames) (hlo : W + (cm + 11) + rm.locals ≤ R.locals) (hce : rm.cells = 0) (hsl : rm.slots = 0) (hcc : ce ≤ R.cells) (hss : sl ≤ R.slots) (hd : decode bs pc = .ok (.invokevirtual i, 3)) (hp : pc + 3 = pc') (hst : st = as.reverse ++ .ref a :: rest) (hr : Go p l e R s m args below meth c n0 Q K N h ce sl (mkF m pc' Ls (v :: rest))) : Go p l e R s m args below meth c n0 Q K N h ce sl (mkF m pc Ls st) :=
  go_virtual C S E w1 w5 w6 w2 w3 w4 hy hpd hlen hls hW hfr hlo (by rw [hce]; rfl) (by rw [hsl]; rfl) hcc hss hd hp hst (fun w h' hq => by obtain ⟨r, rfl, q1, q2⟩ := hq; rw [q1, q2]; exact hr)
theorem go_virtualV (C : Cx p s m meth c Z own bs mx rt nm) {y : MethodName} {i : Nat} {cb : ByteArray} {cm : Nat} {cr : Option FieldType} {rm : Room} {as rest : List Value} {W : Nat} {ps : List FieldType} {pr : Option FieldType} {ce' sl' : Nat} {a : Addr} {C0 : String} {P : Value → Heap → Prop} (S : Sat l Z y cb cm cr rm (.ref a :: as) h n0 (RV P)) (E : Exa Z h a C0) (w1 : (Jvm.Cond.methodLink own i y).before a0 Z = true) (w5 : (Jvm.Cond.declares y).before a0 Z = true) (w6 : (Jvm.Cond.selects C0 y y).before a0 Z = true) (w2 : (Jvm.Cond.instanceMethod y).before a0 Z = true) (w3 : (Jvm.Cond.initialized y.cls).before a0 Z = true) (w4 : (Jvm.Cond.code y cb cm cr).before a0 Z = true) (hy : y.cls ≠ "java/lang/invoke/MethodHandle" ∧ y.cls ≠ "java/lang/invoke/VarHandle") (hpd : parseMethodDescriptor y.desc = some ⟨ps, pr⟩) (hlen : as.length = ps.length) (hls : Ls.size = mx) (hW : wt rest = W) (hfr : rm.frames + 1 ≤ R.frames) (hlo : W + (cm + 11) + rm.locals ≤ R.locals) (hce : ce + rm.cells = ce') (hsl : sl + rm.slots = sl') (hcc : ce' ≤ R.cells) (hss : sl' ≤ R.slots) (hd : decode bs pc = .ok (.invokevirtual i, 3)) (hp : pc + 3 = pc') (hst : st = as.reverse ++ .ref a :: rest) (hr : ∀ r h', P r h' → Go p l e R s m args below meth c n0 Q K N h' ce' sl' (mkF m pc' Ls (r :: rest))) : Go p l e R s m args below meth c n0 Q K N h ce sl (mkF m pc Ls st) :=
  go_virtual C S E w1 w5 w6 w2 w3 w4 hy hpd hlen hls hW hfr hlo hce hsl hcc hss hd hp hst (fun v h' hq => by obtain ⟨r, rfl, q⟩ := hq; exact hr r h' q)
theorem go_virtualN (C : Cx p s m meth c Z own bs mx rt nm) {y : MethodName} {i : Nat} {cb : ByteArray} {cm : Nat} {cr : Option FieldType} {rm : Room} {as rest : List Value} {W : Nat} {ps : List FieldType} {pr : Option FieldType} {ce' sl' : Nat} {a : Addr} {C0 : String} {P : Heap → Prop} (S : Sat l Z y cb cm cr rm (.ref a :: as) h n0 (RN P)) (E : Exa Z h a C0) (w1 : (Jvm.Cond.methodLink own i y).before a0 Z = true) (w5 : (Jvm.Cond.declares y).before a0 Z = true) (w6 : (Jvm.Cond.selects C0 y y).before a0 Z = true) (w2 : (Jvm.Cond.instanceMethod y).before a0 Z = true) (w3 : (Jvm.Cond.initialized y.cls).before a0 Z = true) (w4 : (Jvm.Cond.code y cb cm cr).before a0 Z = true) (hy : y.cls ≠ "java/lang/invoke/MethodHandle" ∧ y.cls ≠ "java/lang/invoke/VarHandle") (hpd : parseMethodDescriptor y.desc = some ⟨ps, pr⟩) (hlen : as.length = ps.length) (hls : Ls.size = mx) (hW : wt rest = W) (hfr : rm.frames + 1 ≤ R.frames) (hlo : W + (cm + 11) + rm.locals ≤ R.locals) (hce : ce + rm.cells = ce') (hsl : sl + rm.slots = sl') (hcc : ce' ≤ R.cells) (hss : sl' ≤ R.slots) (hd : decode bs pc = .ok (.invokevirtual i, 3)) (hp : pc + 3 = pc') (hst : st = as.reverse ++ .ref a :: rest) (hr : ∀ h', P h' → Go p l e R s m args below meth c n0 Q K N h' ce' sl' (mkF m pc' Ls rest)) : Go p l e R s m args below meth c n0 Q K N h ce sl (mkF m pc Ls st) :=
  go_virtual C S E w1 w5 w6 w2 w3 w4 hy hpd hlen hls hW hfr hlo hce hsl hcc hss hd hp hst (fun v h' hq => by obtain ⟨rfl, q⟩ := hq; exact hr h' q)
theorem go_privateP (C : Cx p s m meth c Z own bs mx rt nm) {y : MethodName} {i : Nat} {cb : ByteArray} {cm : Nat} {cr : Option FieldType} {rm : Room} {as rest : List Value} {W : Nat} {ps : List FieldType} {pr : Option FieldType} {a : Addr} {C0 : String} (v : Value) (S : Sat l Z y cb cm cr rm (.ref a :: as) h n0 (RV fun r h' => r = v ∧ h' = h)) (E : Exa Z h a C0) (w1 : (Jvm.Cond.methodLink own i y).before a0 Z = true) (w5 : (Jvm.Cond.privateMethod y).before a0 Z = true) (w6 : (Jvm.Cond.selects y.cls y y).before a0 Z = true) (w2 : (Jvm.Cond.instanceMethod y).before a0 Z = true) (w3 : (Jvm.Cond.initialized y.cls).before a0 Z = true) (w4 : (Jvm.Cond.code y cb cm cr).before a0 Z = true) (hy : y.cls ≠ "java/lang/invoke/MethodHandle" ∧ y.cls ≠ "java/lang/invoke/VarHandle") (hpd : parseMethodDescriptor y.desc = some ⟨ps, pr⟩) (hlen : as.length = ps.length) (hls : Ls.size = mx) (hW : wt rest = W) (hfr : rm.frames + 1 ≤ R.frames) (hlo : W + (cm + 11) + rm.locals ≤ R.locals) (hce : rm.cells = 0) (hsl : rm.slots = 0) (hcc : ce ≤ R.cells) (hss : sl ≤ R.slots) (hd : decode bs pc = .ok (.invokevirtual i, 3)) (hp : pc + 3 = pc') (hst : st = as.reverse ++ .ref a :: rest) (hr : Go p l e R s m args below meth c n0 Q K N h ce sl (mkF m pc' Ls (v :: rest))) : Go p l e R s m args below meth c n0 Q K N h ce sl (mkF m pc Ls st) :=
  go_private C S E w1 w5 w6 w2 w3 w4 hy hpd hlen hls hW hfr hlo (by rw [hce]; rfl) (by rw [hsl]; rfl) hcc hss hd hp hst (fun w h' hq => by obtain ⟨r, rfl, q1, q2⟩ := hq; rw [q1, q2]; exact hr)
theorem go_privateV (C : Cx p s m meth c Z own bs mx rt nm) {y : MethodName} {i : Nat} {cb : ByteArray} {cm : Nat} {cr : Option FieldType} {rm : Room} {as rest : List Value} {W : Nat} {ps : List FieldType} {pr : Option FieldType} {ce' sl' : Nat} {a : Addr} {C0 : String} {P : Value → Heap → Prop} (S : Sat l Z y cb cm cr rm (.ref a :: as) h n0 (RV P)) (E : Exa Z h a C0) (w1 : (Jvm.Cond.methodLink own i y).before a0 Z = true) (w5 : (Jvm.Cond.privateMethod y).before a0 Z = true) (w6 : (Jvm.Cond.selects y.cls y y).before a0 Z = true) (w2 : (Jvm.Cond.instanceMethod y).before a0 Z = true) (w3 : (Jvm.Cond.initialized y.cls).before a0 Z = true) (w4 : (Jvm.Cond.code y cb cm cr).before a0 Z = true) (hy : y.cls ≠ "java/lang/invoke/MethodHandle" ∧ y.cls ≠ "java/lang/invoke/VarHandle") (hpd : parseMethodDescriptor y.desc = some ⟨ps, pr⟩) (hlen : as.length = ps.length) (hls : Ls.size = mx) (hW : wt rest = W) (hfr : rm.frames + 1 ≤ R.frames) (hlo : W + (cm + 11) + rm.locals ≤ R.locals) (hce : ce + rm.cells = ce') (hsl : sl + rm.slots = sl') (hcc : ce' ≤ R.cells) (hss : sl' ≤ R.slots) (hd : decode bs pc = .ok (.invokevirtual i, 3)) (hp : pc + 3 = pc') (hst : st = as.reverse ++ .ref a :: rest) (hr : ∀ r h', P r h' → Go p l e R s m args below meth c n0 Q K N h' ce' sl' (mkF m pc' Ls (r :: rest))) : Go p l e R s m args below meth c n0 Q K N h ce sl (mkF m pc Ls st) :=
  go_private C S E w1 w5 w6 w2 w3 w4 hy hpd hlen hls hW hfr hlo hce hsl hcc hss hd hp hst (fun v h' hq => by obtain ⟨r, rfl, q⟩ := hq; exact hr r h' q)
theorem go_privateN (C : Cx p s m meth c Z own bs mx rt nm) {y : MethodName} {i : Nat} {cb : ByteArray} {cm : Nat} {cr : Option FieldType} {rm : Room} {as rest : List Value} {W : Nat} {ps : List FieldType} {pr : Option FieldType} {ce' sl' : Nat} {a : Addr} {C0 : String} {P : Heap → Prop} (S : Sat l Z y cb cm cr rm (.ref a :: as) h n0 (RN P)) (E : Exa Z h a C0) (w1 : (Jvm.Cond.methodLink own i y).before a0 Z = true) (w5 : (Jvm.Cond.privateMethod y).before a0 Z = true) (w6 : (Jvm.Cond.selects y.cls y y).before a0 Z = true) (w2 : (Jvm.Cond.instanceMethod y).before a0 Z = true) (w3 : (Jvm.Cond.initialized y.cls).before a0 Z = true) (w4 : (Jvm.Cond.code y cb cm cr).before a0 Z = true) (hy : y.cls ≠ "java/lang/invoke/MethodHandle" ∧ y.cls ≠ "java/lang/invoke/VarHandle") (hpd : parseMethodDescriptor y.desc = some ⟨ps, pr⟩) (hlen : as.length = ps.length) (hls : Ls.size = mx) (hW : wt rest = W) (hfr : rm.frames + 1 ≤ R.frames) (hlo : W + (cm + 11) + rm.locals ≤ R.locals) (hce : ce + rm.cells = ce') (hsl : sl + rm.slots = sl') (hcc : ce' ≤ R.cells) (hss : sl' ≤ R.slots) (hd : decode bs pc = .ok (.invokevirtual i, 3)) (hp : pc + 3 = pc') (hst : st = as.reverse ++ .ref a :: rest) (hr : ∀ h', P h' → Go p l e R s m args below meth c n0 Q K N h' ce' sl' (mkF m pc' Ls rest)) : Go p l e R s m args below meth c n0 Q K N h ce sl (mkF m pc Ls st) :=
  go_private C S E w1 w5 w6 w2 w3 w4 hy hpd hlen hls hW hfr hlo hce hsl hcc hss hd hp hst (fun v h' hq => by obtain ⟨rfl, q⟩ := hq; exact hr h' q)
theorem go_specialV (C : Cx p s m meth c Z own bs mx rt nm) {y : MethodName} {i : Nat} {cb : ByteArray} {cm : Nat} {rm : Room} {as rest : List Value} {W : Nat} {ps : List FieldType} {pr : Option FieldType} {ce' sl' : Nat} {a : Addr} {P : Value → Heap → Prop} (S : Sat l Z y cb cm none rm (.ref a :: as) h n0 (RV P)) (hyn : y.name = "<init>") (w1 : (Jvm.Cond.methodLink own i y).before a0 Z = true) (w2 : (Jvm.Cond.instanceMethod y).before a0 Z = true) (w3 : (Jvm.Cond.initialized y.cls).before a0 Z = true) (w4 : (Jvm.Cond.code y cb cm none).before a0 Z = true) (hy : y.cls ≠ "java/lang/invoke/MethodHandle" ∧ y.cls ≠ "java/lang/invoke/VarHandle") (hpd : parseMethodDescriptor y.desc = some ⟨ps, pr⟩) (hlen : as.length = ps.length) (hls : Ls.size = mx) (hW : wt rest = W) (hfr : rm.frames + 1 ≤ R.frames) (hlo : W + (cm + 11) + rm.locals ≤ R.locals) (hce : ce + rm.cells = ce') (hsl : sl + rm.slots = sl') (hcc : ce' ≤ R.cells) (hss : sl' ≤ R.slots) (hd : decode bs pc = .ok (.invokespecial i, 3)) (hp : pc + 3 = pc') (hst : st = as.reverse ++ .ref a :: rest) (hr : ∀ r h', P r h' → Go p l e R s m args below meth c n0 Q K N h' ce' sl' (mkF m pc' Ls (r :: rest))) : Go p l e R s m args below meth c n0 Q K N h ce sl (mkF m pc Ls st) :=
  go_special C S hyn w1 w2 w3 w4 hy hpd hlen hls hW hfr hlo hce hsl hcc hss hd hp hst (fun v h' hq => by obtain ⟨r, rfl, q⟩ := hq; exact hr r h' q)
theorem go_specialN (C : Cx p s m meth c Z own bs mx rt nm) {y : MethodName} {i : Nat} {cb : ByteArray} {cm : Nat} {rm : Room} {as rest : List Value} {W : Nat} {ps : List FieldType} {pr : Option FieldType} {ce' sl' : Nat} {a : Addr} {P : Heap → Prop} (S : Sat l Z y cb cm none rm (.ref a :: as) h n0 (RN P)) (hyn : y.name = "<init>") (w1 : (Jvm.Cond.methodLink own i y).before a0 Z = true) (w2 : (Jvm.Cond.instanceMethod y).before a0 Z = true) (w3 : (Jvm.Cond.initialized y.cls).before a0 Z = true) (w4 : (Jvm.Cond.code y cb cm none).before a0 Z = true) (hy : y.cls ≠ "java/lang/invoke/MethodHandle" ∧ y.cls ≠ "java/lang/invoke/VarHandle") (hpd : parseMethodDescriptor y.desc = some ⟨ps, pr⟩) (hlen : as.length = ps.length) (hls : Ls.size = mx) (hW : wt rest = W) (hfr : rm.frames + 1 ≤ R.frames) (hlo : W + (cm + 11) + rm.locals ≤ R.locals) (hce : ce + rm.cells = ce') (hsl : sl + rm.slots = sl') (hcc : ce' ≤ R.cells) (hss : sl' ≤ R.slots) (hd : decode bs pc = .ok (.invokespecial i, 3)) (hp : pc + 3 = pc') (hst : st = as.reverse ++ .ref a :: rest) (hr : ∀ h', P h' → Go p l e R s m args below meth c n0 Q K N h' ce' sl' (mkF m pc' Ls rest)) : Go p l e R s m args below meth c n0 Q K N h ce sl (mkF m pc Ls st) :=
  go_special C S hyn w1 w2 w3 w4 hy hpd hlen hls hW hfr hlo hce hsl hcc hss hd hp hst (fun v h' hq => by obtain ⟨rfl, q⟩ := hq; exact hr h' q)
theorem go_specialWV (C : Cx p s m meth c Z own bs mx rt nm) {y : MethodName} {i : Nat} {cb : ByteArray} {cm : Nat} {rm : Room} {as rest : List Value} {W : Nat} {ps : List FieldType} {pr : Option FieldType} {ce' sl' : Nat} {a : Addr} {P : Value → Heap → Prop} (S : Sat l Z y cb cm none rm (.ref a :: as) h n0 (RV P)) (hyn : y.name = "<init>") (w1 : (Jvm.Cond.methodRef own i y).before a0 Z = true) (w2 : (Jvm.Cond.instanceMethod y).before a0 Z = true) (w3 : (Jvm.Cond.initialized y.cls).before a0 Z = true) (w4 : (Jvm.Cond.code y cb cm none).before a0 Z = true) (hy : y.cls ≠ "java/lang/invoke/MethodHandle" ∧ y.cls ≠ "java/lang/invoke/VarHandle") (hpd : parseMethodDescriptor y.desc = some ⟨ps, pr⟩) (hlen : as.length = ps.length) (hls : Ls.size = mx) (hW : wt rest = W) (hfr : rm.frames + 1 ≤ R.frames) (hlo : W + (cm + 11) + rm.locals ≤ R.locals) (hce : ce + rm.cells = ce') (hsl : sl + rm.slots = sl') (hcc : ce' ≤ R.cells) (hss : sl' ≤ R.slots) (hd : decode bs pc = .ok (.invokespecial i, 3)) (hp : pc + 3 = pc') (hst : st = as.reverse ++ .ref a :: rest) (hr : ∀ r h', P r h' → Go p l e R s m args below meth c n0 Q K N h' ce' sl' (mkF m pc' Ls (r :: rest))) : Go p l e R s m args below meth c n0 Q K N h ce sl (mkF m pc Ls st) :=
  go_specialW C S hyn w1 w2 w3 w4 hy hpd hlen hls hW hfr hlo hce hsl hcc hss hd hp hst (fun v h' hq => by obtain ⟨r, rfl, q⟩ := hq; exact hr r h' q)
theorem go_specialWN (C : Cx p s m meth c Z own bs mx rt nm) {y : MethodName} {i : Nat} {cb : ByteArray} {cm : Nat} {rm : Room} {as rest : List Value} {W : Nat} {ps : List FieldType} {pr : Option FieldType} {ce' sl' : Nat} {a : Addr} {P : Heap → Prop} (S : Sat l Z y cb cm none rm (.ref a :: as) h n0 (RN P)) (hyn : y.name = "<init>") (w1 : (Jvm.Cond.methodRef own i y).before a0 Z = true) (w2 : (Jvm.Cond.instanceMethod y).before a0 Z = true) (w3 : (Jvm.Cond.initialized y.cls).before a0 Z = true) (w4 : (Jvm.Cond.code y cb cm none).before a0 Z = true) (hy : y.cls ≠ "java/lang/invoke/MethodHandle" ∧ y.cls ≠ "java/lang/invoke/VarHandle") (hpd : parseMethodDescriptor y.desc = some ⟨ps, pr⟩) (hlen : as.length = ps.length) (hls : Ls.size = mx) (hW : wt rest = W) (hfr : rm.frames + 1 ≤ R.frames) (hlo : W + (cm + 11) + rm.locals ≤ R.locals) (hce : ce + rm.cells = ce') (hsl : sl + rm.slots = sl') (hcc : ce' ≤ R.cells) (hss : sl' ≤ R.slots) (hd : decode bs pc = .ok (.invokespecial i, 3)) (hp : pc + 3 = pc') (hst : st = as.reverse ++ .ref a :: rest) (hr : ∀ h', P h' → Go p l e R s m args below meth c n0 Q K N h' ce' sl' (mkF m pc' Ls rest)) : Go p l e R s m args below meth c n0 Q K N h ce sl (mkF m pc Ls st) :=
  go_specialW C S hyn w1 w2 w3 w4 hy hpd hlen hls hW hfr hlo hce hsl hcc hss hd hp hst (fun v h' hq => by obtain ⟨rfl, q⟩ := hq; exact hr h' q)
theorem go_ireturnI (C : Cx p s m meth c Z own bs mx rt nm) {z : Int32} (hrt : rt = some .int) (hd : decode bs pc = .ok (.ireturn, 1)) (hk : ce ≤ K) (hn : sl ≤ N) (hq : Q (some (.int z)) h) : Go p l e R s m args below meth c n0 Q K N h ce sl (mkF m pc Ls [.int z]) := by
  subst hrt
  intro T locs X eT Nn
  obtain ⟨fs, hr, hrun, hended, hW, hsame⟩ := X.leave (v := some (.int z)) (fun q => by first | rfl | (rw [C.2.2.2.2.2.1] at q; cases q)) C.2.2.2.2.2.2.1
  refine ⟨_, _, X.ireturnOut C.1 C.2.2.2.2.2.1 rfl (Or.inl rfl) (hb C.2.1 hd) hr, hrun, hended, _, _, rfl, ⟨?_, Nn⟩, ⟨_, rfl⟩, hW, hsame.mono hk hn⟩
  show Q (some (.int z)) T.heap
  rw [eT]; exact hq
theorem go_lreturn (C : Cx p s m meth c Z own bs mx rt nm) {z : Int64} (hrt : rt = some .long) (hd : decode bs pc = .ok (.lreturn, 1)) (hk : ce ≤ K) (hn : sl ≤ N) (hq : Q (some (.long z)) h) : Go p l e R s m args below meth c n0 Q K N h ce sl (mkF m pc Ls [.long z]) := by
  subst hrt
  intro T locs X eT Nn
  obtain ⟨fs, hr, hrun, hended, hW, hsame⟩ := X.leave (v := some (.long z)) (fun q => by first | rfl | (rw [C.2.2.2.2.2.1] at q; cases q)) C.2.2.2.2.2.2.1
  refine ⟨_, _, Jvm.Stand.lreturnOut X C.1 C.2.2.2.2.2.1 (hb C.2.1 hd) hr, hrun, hended, _, _, rfl, ⟨?_, Nn⟩, ⟨_, rfl⟩, hW, hsame.mono hk hn⟩
  show Q (some (.long z)) T.heap
  rw [eT]; exact hq
theorem go_areturn (C : Cx p s m meth c Z own bs mx rt nm) {w : Value} {t : FieldType} (hrt : rt = some t) (hd : decode bs pc = .ok (.areturn, 1)) (hk : ce ≤ K) (hn : sl ≤ N) (hw : w.isRef = true) (ht : t.isReference = true) (hq : Q (some w) h) : Go p l e R s m args below meth c n0 Q K N h ce sl (mkF m pc Ls [w]) := by
  subst hrt
  intro T locs X eT Nn
  obtain ⟨fs, hr, hrun, hended, hW, hsame⟩ := X.leave (v := some w) (fun q => by first | rfl | (rw [C.2.2.2.2.2.1] at q; cases q)) C.2.2.2.2.2.2.1
  refine ⟨_, _, X.areturnOut C.1 hw C.2.2.2.2.2.1 ht (hb C.2.1 hd) hr, hrun, hended, _, _, rfl, ⟨?_, Nn⟩, ⟨_, rfl⟩, hW, hsame.mono hk hn⟩
  show Q (some w) T.heap
  rw [eT]; exact hq
theorem go_return (C : Cx p s m meth c Z own bs mx rt nm)  (hrt : rt = none) (hd : decode bs pc = .ok (.return_, 1)) (hk : ce ≤ K) (hn : sl ≤ N) (hq : Q (none) h) : Go p l e R s m args below meth c n0 Q K N h ce sl (mkF m pc Ls []) := by
  subst hrt
  intro T locs X eT Nn
  obtain ⟨fs, hr, hrun, hended, hW, hsame⟩ := X.leave (v := none) (fun q => by first | rfl | (rw [C.2.2.2.2.2.1] at q; cases q)) C.2.2.2.2.2.2.1
  refine ⟨_, _, X.returnOut C.1 C.2.2.2.2.2.1 (hb C.2.1 hd) hr, hrun, hended, _, _, rfl, ⟨?_, Nn⟩, ⟨_, rfl⟩, hW, hsame.mono hk hn⟩
  show Q (none) T.heap
  rw [eT]; exact hq
theorem go_ireturnN (C : Cx p s m meth c Z own bs mx rt nm) {z z' : Int32} {t : FieldType} (hrt : rt = some t) (ht : t = .boolean ∨ t = .byte ∨ t = .char ∨ t = .short) (hz : nar t z = z') (hd : decode bs pc = .ok (.ireturn, 1)) (hk : ce ≤ K) (hn : sl ≤ N) (hq : Q (some (.int z')) h) : Go p l e R s m args below meth c n0 Q K N h ce sl (mkF m pc Ls [.int z]) := by
  subst hrt hz
  intro T locs X eT Nn
  obtain ⟨fs, hr, hrun, hended, hW, hsame⟩ := X.leave (v := some (.int (nar t z))) (fun q => by rw [C.2.2.2.2.2.1] at q; cases q) C.2.2.2.2.2.2.1
  refine ⟨_, _, retN X C.1 (t := t) C.2.2.2.2.2.1 ht (hb C.2.1 hd) hr, hrun, hended, _, _, rfl, ⟨?_, Nn⟩, ⟨_, rfl⟩, hW, hsame.mono hk hn⟩
  show Q (some (.int (nar t z))) T.heap
  rw [eT]; exact hq
theorem sat_of {y : MethodName} {cb : ByteArray} {cm : Nat} {cr : Option FieldType} {rm : Room} {as : List Value} {h0 : Heap} (ho : y.cls = own) (hnm : y.name = nm) (hpn : plainFor y = true) (Ls : Array Slot) (hef : ∀ m, entryFrame m as.toArray cm = mkF m 0 Ls [])
    (body : ∀ (p : Program) (e : Env) (s : State) (m : MethodId) (below : List Frame) (meth : Method) (c : Code), Cx p s m meth c Z own cb cm cr nm → Go p l e rm s m as.toArray below meth c n0 Q rm.cells rm.slots h0 0 0 (mkF m 0 Ls [])) : Sat l Z y cb cm cr rm as h0 n0 Q := by
  intro ws
  subst ho hnm
  refine MetFree.of_bodySF hpn hisR ?_
  intro p e s m args below meth c s₁ Bd hml0 hP hK
  obtain ⟨rfl, hZ, hh⟩ := hP
  have X0 : Stand p l e rm s m as.toArray below meth c s₁ [] 0 0 := Stand.of_body Bd
  obtain ⟨s₂, o, h1, h2, h3, v, L, h4, h5, h6⟩ := body p e s m below meth c ⟨Bd.exec, Bd.bytes, hml0, hZ, findClass_of_methodNamed Bd.named, Bd.returns, Bd.notSynchronized, (name_of_methodNamed Bd.named Bd.method).1⟩ s₁ [] X0 (by rw [← hh, Bd.state]; rfl) (Fr.nil n0)
  exact ⟨s₂, o, castTop (hef m) h1, h2, h3, v, L, h4, h5, h6⟩
theorem Sat.weaken {y : MethodName} {cb : ByteArray} {cm : Nat} {cr : Option FieldType} {rm : Room} {as : List Value} {h0 : Heap} {Q' : Option Value → Heap → Prop} (S : Sat l Z y cb cm cr rm as h0 n0 Q) (H : ∀ v h, Q v h → Q' v h) : Sat l Z y cb cm cr rm as h0 n0 Q' := by
  intro ws p e ha hc hk s m args below hf happ hP hK
  obtain ⟨n, o, h1, h2, h3, v, L, h4, h5, h6⟩ := S ws p e ha hc hk s m args below hf happ hP hK
  exact ⟨n, o, h1, h2, h3, v, L, h4, ⟨H _ _ h5.1, h5.2⟩, h6⟩
end Walk
end OwnLayer
theorem wd {Z : State} {a0 : Array Value} (hw : ∀ d ∈ tables_1, d.before a0 Z = true) (k : Nat) {d : Jvm.Cond} (h : tables_1[k]? = some d) : d.before a0 Z = true := hw d (List.mem_of_getElem? h)
theorem d1_0 : decode prog_60_method_1_code 0 = .ok (.aload_n 0, 1) := by decide +kernel
theorem d1_1 : decode prog_60_method_1_code 1 = .ok (.invokespecial 3, 3) := by decide +kernel
theorem d1_4 : decode prog_60_method_1_code 4 = .ok (.aload_n 0, 1) := by decide +kernel
theorem d1_5 : decode prog_60_method_1_code 5 = .ok (.bipush 8, 2) := by decide +kernel
theorem d1_7 : decode prog_60_method_1_code 7 = .ok (.newarray .int, 2) := by decide +kernel
theorem d1_9 : decode prog_60_method_1_code 9 = .ok (.putfield 9, 3) := by decide +kernel
theorem d1_12 : decode prog_60_method_1_code 12 = .ok (.return_, 1) := by decide +kernel
theorem d3_0 : decode prog_60_method_2_code 0 = .ok (.aload_n 0, 1) := by decide +kernel
theorem d3_1 : decode prog_60_method_2_code 1 = .ok (.getfield 15, 3) := by decide +kernel
theorem d3_4 : decode prog_60_method_2_code 4 = .ok (.aload_n 0, 1) := by decide +kernel
theorem d3_5 : decode prog_60_method_2_code 5 = .ok (.getfield 9, 3) := by decide +kernel
theorem d3_8 : decode prog_60_method_2_code 8 = .ok (.arraylength, 1) := by decide +kernel
theorem d3_9 : decode prog_60_method_2_code 9 = .ok (.if_icmp .ne 29, 3) := by decide +kernel
theorem d3_12 : decode prog_60_method_2_code 12 = .ok (.aload_n 0, 1) := by decide +kernel
theorem d3_13 : decode prog_60_method_2_code 13 = .ok (.aload_n 0, 1) := by decide +kernel
theorem d3_14 : decode prog_60_method_2_code 14 = .ok (.getfield 9, 3) := by decide +kernel
theorem d3_17 : decode prog_60_method_2_code 17 = .ok (.aload_n 0, 1) := by decide +kernel
theorem d3_18 : decode prog_60_method_2_code 18 = .ok (.getfield 9, 3) := by decide +kernel
theorem d3_21 : decode prog_60_method_2_code 21 = .ok (.arraylength, 1) := by decide +kernel
theorem d3_22 : decode prog_60_method_2_code 22 = .ok (.aload_n 0, 1) := by decide +kernel
theorem d3_23 : decode prog_60_method_2_code 23 = .ok (.getfield 15, 3) := by decide +kernel
theorem d3_26 : decode prog_60_method_2_code 26 = .ok (.iconst 1, 1) := by decide +kernel
theorem d3_27 : decode prog_60_method_2_code 27 = .ok (.iadd, 1) := by decide +kernel
theorem d3_28 : decode prog_60_method_2_code 28 = .ok (.i2l, 1) := by decide +kernel
theorem d3_29 : decode prog_60_method_2_code 29 = .ok (.invokestatic 19, 3) := by decide +kernel
theorem d3_32 : decode prog_60_method_2_code 32 = .ok (.invokestatic 23, 3) := by decide +kernel
theorem d3_35 : decode prog_60_method_2_code 35 = .ok (.putfield 9, 3) := by decide +kernel
theorem d3_38 : decode prog_60_method_2_code 38 = .ok (.aload_n 0, 1) := by decide +kernel
theorem d3_39 : decode prog_60_method_2_code 39 = .ok (.getfield 9, 3) := by decide +kernel
theorem d3_42 : decode prog_60_method_2_code 42 = .ok (.aload_n 0, 1) := by decide +kernel
theorem d3_43 : decode prog_60_method_2_code 43 = .ok (.dup, 1) := by decide +kernel
theorem d3_44 : decode prog_60_method_2_code 44 = .ok (.getfield 15, 3) := by decide +kernel
theorem d3_47 : decode prog_60_method_2_code 47 = .ok (.dup_x1, 1) := by decide +kernel
theorem d3_48 : decode prog_60_method_2_code 48 = .ok (.iconst 1, 1) := by decide +kernel
theorem d3_49 : decode prog_60_method_2_code 49 = .ok (.iadd, 1) := by decide +kernel
theorem d3_50 : decode prog_60_method_2_code 50 = .ok (.putfield 15, 3) := by decide +kernel
theorem d3_53 : decode prog_60_method_2_code 53 = .ok (.iload_n 1, 1) := by decide +kernel
theorem d3_54 : decode prog_60_method_2_code 54 = .ok (.iastore, 1) := by decide +kernel
theorem d3_55 : decode prog_60_method_2_code 55 = .ok (.return_, 1) := by decide +kernel
theorem d4_0 : decode prog_60_method_6_code 0 = .ok (.aload_n 0, 1) := by decide +kernel
theorem d4_1 : decode prog_60_method_6_code 1 = .ok (.getfield 9, 3) := by decide +kernel
theorem d4_4 : decode prog_60_method_6_code 4 = .ok (.aload_n 0, 1) := by decide +kernel
theorem d4_5 : decode prog_60_method_6_code 5 = .ok (.dup, 1) := by decide +kernel
theorem d4_6 : decode prog_60_method_6_code 6 = .ok (.getfield 15, 3) := by decide +kernel
theorem d4_9 : decode prog_60_method_6_code 9 = .ok (.iconst 1, 1) := by decide +kernel
theorem d4_10 : decode prog_60_method_6_code 10 = .ok (.isub, 1) := by decide +kernel
theorem d4_11 : decode prog_60_method_6_code 11 = .ok (.dup_x1, 1) := by decide +kernel
theorem d4_12 : decode prog_60_method_6_code 12 = .ok (.putfield 15, 3) := by decide +kernel
theorem d4_15 : decode prog_60_method_6_code 15 = .ok (.iaload, 1) := by decide +kernel
theorem d4_16 : decode prog_60_method_6_code 16 = .ok (.ireturn, 1) := by decide +kernel
theorem d5_0 : decode prog_60_method_7_code 0 = .ok (.aload_n 0, 1) := by decide +kernel
theorem d5_1 : decode prog_60_method_7_code 1 = .ok (.getfield 15, 3) := by decide +kernel
theorem d5_4 : decode prog_60_method_7_code 4 = .ok (.ireturn, 1) := by decide +kernel
theorem d6_0 : decode prog_60_method_4_code 0 = .ok (.aload_n 0, 1) := by decide +kernel
theorem d6_1 : decode prog_60_method_4_code 1 = .ok (.getfield 9, 3) := by decide +kernel
theorem d6_4 : decode prog_60_method_4_code 4 = .ok (.iload_n 1, 1) := by decide +kernel
theorem d6_5 : decode prog_60_method_4_code 5 = .ok (.iaload, 1) := by decide +kernel
theorem d6_6 : decode prog_60_method_4_code 6 = .ok (.ireturn, 1) := by decide +kernel
theorem pn_0 : plainName "com/example/inevitable_path/inevitablepath/smv/IntListRemoveLastPinLaw" = true := by first | (simp [plainName, overriddenIn]; done) | decide +kernel
theorem pd_0 : parseMethodDescriptor "(IIIIII)Z" = some ⟨[.int, .int, .int, .int, .int, .int], some .boolean⟩ := by decide +kernel
theorem pn_1 : plainName "com/example/inevitable_path/inevitablepath/smv/IntList" = true := by first | (simp [plainName, overriddenIn]; done) | decide +kernel
theorem pd_1 : parseMethodDescriptor "()V" = some ⟨[], none⟩ := by decide +kernel
theorem pd_2 : parseMethodDescriptor "(I)V" = some ⟨[.int], none⟩ := by decide +kernel
theorem pd_3 : parseMethodDescriptor "()I" = some ⟨[], some .int⟩ := by decide +kernel
theorem pd_4 : parseMethodDescriptor "(I)I" = some ⟨[.int], some .int⟩ := by decide +kernel
set_option maxRecDepth 65536 in
set_option maxHeartbeats 40000000 in
theorem sat_init (l : Launch) (Z : State) (a0 : Array Value) (hw : ∀ d ∈ tables_1, d.before a0 Z = true) (a : Addr) (h0 : Heap) (n0 : Nat) (E1 : Exa Z h0 a "com/example/inevitable_path/inevitablepath/smv/IntList") (F1 : Fld Z h0 a "com/example/inevitable_path/inevitablepath/smv/IntList" "values" "[I" .null) (F2 : Fld Z h0 a "com/example/inevitable_path/inevitablepath/smv/IntList" "size" "I" (.int 0)) (ga : n0 ≤ a) (gz : n0 ≤ h0.size) :
    Sat l Z (⟨"com/example/inevitable_path/inevitablepath/smv/IntList", "<init>", "()V"⟩ : MethodName) prog_60_method_1_code 1 none ({ frames := 1, cells := 1, slots := 8, locals := 12 } : Room) [.ref a] h0 n0 (RN fun h => ∃ r : Addr, n0 ≤ r ∧ Exa Z h a "com/example/inevitable_path/inevitablepath/smv/IntList" ∧ Fld Z h a "com/example/inevitable_path/inevitablepath/smv/IntList" "values" "[I" (.ref r) ∧ Fld Z h a "com/example/inevitable_path/inevitablepath/smv/IntList" "size" "I" (.int (0 : Int32)) ∧ Av Z h r .int (List.replicate 8 (.int 0))) := by
  refine sat_of (own := "com/example/inevitable_path/inevitablepath/smv/IntList") (nm := "<init>") rfl rfl (plainFor_of_name pn_1) #[.val (.ref a)] (fun m => by first | rfl | (simp [entryFrame, mkF, argsToLocals, Value.category]; done)) ?_
  intro p e s m below meth c C
  refine go_aloadN C d1_0 (pc' := 1) rfl rfl rfl ?_
  refine go_objinit C (W := 0) (wd hw 6 rfl) (wd hw 7 rfl) (wd hw 8 rfl) rfl (by decide) rfl (by decide) d1_1 (pc' := 4) rfl ?_
  refine go_aloadN C d1_4 (pc' := 5) rfl rfl rfl ?_
  refine go_bipush C (8 : Int32) d1_5 (pc' := 7) rfl (by decide) ?_
  refine go_newarray C (wd hw 9 rfl) rfl 8 8 (by decide) (by decide) (by decide) (ce' := 1) (sl' := 8) rfl rfl (by decide) (by decide) d1_7 (pc' := 9) rfl ?_
  intro h_1 a_2 g_3 E_4 A_5
  have n_6 : a ≠ a_2 := own_ne_new E1.lt g_3
  have g_7 : n0 ≤ a_2 := own_ge gz g_3
  have F_8 := Fld.ext E_4 F1
  have F_9 := Fld.ext E_4 F2
  have E_10 := Exa.ext E_4 E1
  have z_11 : n0 ≤ h_1.size := Nat.le_trans gz E_4.1
  have A_12 : Av Z h_1 a_2 .int [.int (0 : Int32), .int (0 : Int32), .int (0 : Int32), .int (0 : Int32), .int (0 : Int32), .int (0 : Int32), .int (0 : Int32), .int (0 : Int32)] := A_5
  refine go_putfield C (wd hw 10 rfl) F_8 E_10 (Or.inl (wd hw 11 rfl)) (wd hw 1 rfl) (ty := (.array .int)) (by decide) rfl rfl ga d1_9 (pc' := 12) rfl ?_
  intro h_13 W_14
  have z_15 : n0 ≤ h_13.size := W_14.size.symm ▸ z_11
  have F_16 := Fld.same W_14 F_8
  have F_17 := Fld.other W_14 F_9 (Or.inr (slot_ne (a0 := a0) (Or.inl (wd hw 18 rfl)) (Or.inl (wd hw 11 rfl)) (by decide) (t := .int) (t' := (.array .int)) (by decide) (by decide)))
  have E_18 := Exa.wr W_14 E_10
  have A_19 := Av.other A_12 W_14 (Ne.symm n_6)
  refine go_return C rfl d1_12 (by decide) (by decide) ?_
  exact ⟨rfl, _, g_7, E_18, F_16, F_17, A_19⟩
set_option maxRecDepth 65536 in
set_option maxHeartbeats 40000000 in
theorem sat_add (l : Launch) (Z : State) (a0 : Array Value) (hw : ∀ d ∈ tables_1, d.before a0 Z = true) (a r : Addr) (x n nl : Int32) (k : Nat) (vs vs' : List Value) (h0 : Heap) (n0 : Nat) (E1 : Exa Z h0 a "com/example/inevitable_path/inevitablepath/smv/IntList") (F1 : Fld Z h0 a "com/example/inevitable_path/inevitablepath/smv/IntList" "values" "[I" (.ref r)) (F2 : Fld Z h0 a "com/example/inevitable_path/inevitablepath/smv/IntList" "size" "I" (.int n)) (A1 : Av Z h0 r .int vs) (ga : n0 ≤ a) (gr : n0 ≤ r) (hk : n.toInt = (k : Int)) (hl : k < vs.length) (hnl : nl.toInt = (vs.length : Int)) (hv : vs.set k (.int x) = vs') :
    Sat l Z (⟨"com/example/inevitable_path/inevitablepath/smv/IntList", "add", "(I)V"⟩ : MethodName) prog_60_method_2_code 2 none ({ frames := 0, cells := 0, slots := 0, locals := 0 } : Room) [.ref a, .int x] h0 n0 (RN fun h => Exa Z h a "com/example/inevitable_path/inevitablepath/smv/IntList" ∧ Fld Z h a "com/example/inevitable_path/inevitablepath/smv/IntList" "values" "[I" (.ref r) ∧ Fld Z h a "com/example/inevitable_path/inevitablepath/smv/IntList" "size" "I" (.int (n + 1)) ∧ Av Z h r .int vs') := by
  refine sat_of (own := "com/example/inevitable_path/inevitablepath/smv/IntList") (nm := "add") rfl rfl (plainFor_of_name pn_1) #[.val (.ref a), .val (.int x)] (fun m => by first | rfl | (simp [entryFrame, mkF, argsToLocals, Value.category]; done)) ?_
  intro p e s m below meth c C
  refine go_aloadN C d3_0 (pc' := 1) rfl rfl rfl ?_
  refine go_getfield C (wd hw 17 rfl) F2 d3_1 (pc' := 4) rfl ?_
  refine go_aloadN C d3_4 (pc' := 5) rfl rfl rfl ?_
  refine go_getfield C (wd hw 10 rfl) F1 d3_5 (pc' := 8) rfl ?_
  refine go_arraylength C A1 nl hnl d3_8 (pc' := 9) rfl ?_
  refine go_icmp C n.toInt nl.toInt rfl rfl d3_9 (by decide) (pc' := 38) (by decide) (pcN := 12) rfl (fun (c_1 : ¬ n.toInt = nl.toInt) => ?_) (fun (c_1 : n.toInt = nl.toInt) => ?_)
  · skip
    refine go_aloadN C d3_38 (pc' := 39) rfl rfl rfl ?_
    refine go_getfield C (wd hw 10 rfl) F1 d3_39 (pc' := 42) rfl ?_
    refine go_aloadN C d3_42 (pc' := 43) rfl rfl rfl ?_
    refine go_dup C d3_43 (pc' := 44) rfl rfl ?_
    refine go_getfield C (wd hw 17 rfl) F2 d3_44 (pc' := 47) rfl ?_
    refine go_dup_x1 C d3_47 (pc' := 48) rfl rfl rfl ?_
    refine go_iconst C (1 : Int32) d3_48 (pc' := 49) rfl (by decide) ?_
    refine go_iadd C d3_49 (pc' := 50) rfl ?_
    refine go_putfield C (wd hw 17 rfl) F2 E1 (Or.inl (wd hw 18 rfl)) (wd hw 1 rfl) (ty := .int) (by decide) rfl rfl ga d3_50 (pc' := 53) rfl ?_
    intro h_2 W_3
    have F_4 := Fld.other W_3 F1 (Or.inr (slot_ne (a0 := a0) (Or.inl (wd hw 11 rfl)) (Or.inl (wd hw 18 rfl)) (by decide) (t := (.array .int)) (t' := .int) (by decide) (by decide)))
    have F_5 := Fld.same W_3 F2
    have E_6 := Exa.wr W_3 E1
    have A_7 := Av.other A1 W_3 (Ne.symm (own_ne_arr E1 (wd hw 1 rfl) A1))
    refine go_iloadN C d3_53 (pc' := 54) rfl rfl ?_
    refine go_iastore C A_7 k hk hl gr d3_54 (pc' := 55) rfl ?_
    intro h_8 W_9 A_10
    have F_12 := Fld.other W_9 F_4 (Or.inl (own_ne_arr E_6 (wd hw 1 rfl) A_7))
    have F_13 := Fld.other W_9 F_5 (Or.inl (own_ne_arr E_6 (wd hw 1 rfl) A_7))
    have E_14 := Exa.wr W_9 E_6
    refine go_return C rfl d3_55 (by decide) (by decide) ?_
    exact ⟨rfl, E_14, F_12, F_13, (hv ▸ A_10)⟩
  · skip
    omega
set_option maxRecDepth 65536 in
set_option maxHeartbeats 40000000 in
theorem sat_get (l : Launch) (Z : State) (a0 : Array Value) (hw : ∀ d ∈ tables_1, d.before a0 Z = true) (a r : Addr) (j v : Int32) (k : Nat) (vs : List Value) (h0 : Heap) (n0 : Nat) (F1 : Fld Z h0 a "com/example/inevitable_path/inevitablepath/smv/IntList" "values" "[I" (.ref r)) (A1 : Av Z h0 r .int vs) (hk : j.toInt = (k : Int)) (hv : vs[k]? = some (.int v)) :
    Sat l Z (⟨"com/example/inevitable_path/inevitablepath/smv/IntList", "get", "(I)I"⟩ : MethodName) prog_60_method_4_code 2 (some .int) ({ frames := 0, cells := 0, slots := 0, locals := 0 } : Room) [.ref a, .int j] h0 n0 (RV fun q h => q = .int v ∧ h = h0) := by
  refine sat_of (own := "com/example/inevitable_path/inevitablepath/smv/IntList") (nm := "get") rfl rfl (plainFor_of_name pn_1) #[.val (.ref a), .val (.int j)] (fun m => by first | rfl | (simp [entryFrame, mkF, argsToLocals, Value.category]; done)) ?_
  intro p e s m below meth c C
  refine go_aloadN C d6_0 (pc' := 1) rfl rfl rfl ?_
  refine go_getfield C (wd hw 10 rfl) F1 d6_1 (pc' := 4) rfl ?_
  refine go_iloadN C d6_4 (pc' := 5) rfl rfl ?_
  refine go_iaload C A1 k (.int v) hk hv d6_5 (pc' := 6) rfl ?_
  refine go_ireturnI C rfl d6_6 (by decide) (by decide) ?_
  exact ⟨_, rfl, rfl, rfl⟩
set_option maxRecDepth 65536 in
set_option maxHeartbeats 40000000 in
theorem sat_size (l : Launch) (Z : State) (a0 : Array Value) (hw : ∀ d ∈ tables_1, d.before a0 Z = true) (a : Addr) (n : Int32) (h0 : Heap) (n0 : Nat) (F2 : Fld Z h0 a "com/example/inevitable_path/inevitablepath/smv/IntList" "size" "I" (.int n)) :
    Sat l Z (⟨"com/example/inevitable_path/inevitablepath/smv/IntList", "size", "()I"⟩ : MethodName) prog_60_method_7_code 1 (some .int) ({ frames := 0, cells := 0, slots := 0, locals := 0 } : Room) [.ref a] h0 n0 (RV fun q h => q = .int n ∧ h = h0) := by
  refine sat_of (own := "com/example/inevitable_path/inevitablepath/smv/IntList") (nm := "size") rfl rfl (plainFor_of_name pn_1) #[.val (.ref a)] (fun m => by first | rfl | (simp [entryFrame, mkF, argsToLocals, Value.category]; done)) ?_
  intro p e s m below meth c C
  refine go_aloadN C d5_0 (pc' := 1) rfl rfl rfl ?_
  refine go_getfield C (wd hw 17 rfl) F2 d5_1 (pc' := 4) rfl ?_
  refine go_ireturnI C rfl d5_4 (by decide) (by decide) ?_
  exact ⟨_, rfl, rfl, rfl⟩
set_option maxRecDepth 65536 in
set_option maxHeartbeats 40000000 in
theorem sat_rem (l : Launch) (Z : State) (a0 : Array Value) (hw : ∀ d ∈ tables_1, d.before a0 Z = true) (a r : Addr) (n v : Int32) (k : Nat) (vs : List Value) (h0 : Heap) (n0 : Nat) (E1 : Exa Z h0 a "com/example/inevitable_path/inevitablepath/smv/IntList") (F1 : Fld Z h0 a "com/example/inevitable_path/inevitablepath/smv/IntList" "values" "[I" (.ref r)) (F2 : Fld Z h0 a "com/example/inevitable_path/inevitablepath/smv/IntList" "size" "I" (.int n)) (A1 : Av Z h0 r .int vs) (ga : n0 ≤ a) (hk : (n - 1).toInt = (k : Int)) (hv : vs[k]? = some (.int v)) :
    Sat l Z (⟨"com/example/inevitable_path/inevitablepath/smv/IntList", "removeLast", "()I"⟩ : MethodName) prog_60_method_6_code 1 (some .int) ({ frames := 0, cells := 0, slots := 0, locals := 0 } : Room) [.ref a] h0 n0 (RV fun q h => q = .int v ∧ Exa Z h a "com/example/inevitable_path/inevitablepath/smv/IntList" ∧ Fld Z h a "com/example/inevitable_path/inevitablepath/smv/IntList" "values" "[I" (.ref r) ∧ Fld Z h a "com/example/inevitable_path/inevitablepath/smv/IntList" "size" "I" (.int (n - 1)) ∧ Av Z h r .int vs) := by
  refine sat_of (own := "com/example/inevitable_path/inevitablepath/smv/IntList") (nm := "removeLast") rfl rfl (plainFor_of_name pn_1) #[.val (.ref a)] (fun m => by first | rfl | (simp [entryFrame, mkF, argsToLocals, Value.category]; done)) ?_
  intro p e s m below meth c C
  refine go_aloadN C d4_0 (pc' := 1) rfl rfl rfl ?_
  refine go_getfield C (wd hw 10 rfl) F1 d4_1 (pc' := 4) rfl ?_
  refine go_aloadN C d4_4 (pc' := 5) rfl rfl rfl ?_
  refine go_dup C d4_5 (pc' := 6) rfl rfl ?_
  refine go_getfield C (wd hw 17 rfl) F2 d4_6 (pc' := 9) rfl ?_
  refine go_iconst C (1 : Int32) d4_9 (pc' := 10) rfl (by decide) ?_
  refine go_isub C d4_10 (pc' := 11) rfl ?_
  refine go_dup_x1 C d4_11 (pc' := 12) rfl rfl rfl ?_
  refine go_putfield C (wd hw 17 rfl) F2 E1 (Or.inl (wd hw 18 rfl)) (wd hw 1 rfl) (ty := .int) (by decide) rfl rfl ga d4_12 (pc' := 15) rfl ?_
  intro h_1 W_2
  have F_3 := Fld.other W_2 F1 (Or.inr (slot_ne (a0 := a0) (Or.inl (wd hw 11 rfl)) (Or.inl (wd hw 18 rfl)) (by decide) (t := (.array .int)) (t' := .int) (by decide) (by decide)))
  have F_4 := Fld.same W_2 F2
  have E_5 := Exa.wr W_2 E1
  have A_6 := Av.other A1 W_2 (Ne.symm (own_ne_arr E1 (wd hw 1 rfl) A1))
  refine go_iaload C A_6 k (.int v) hk hv d4_15 (pc' := 16) rfl ?_
  refine go_ireturnI C rfl d4_16 (by decide) (by decide) ?_
  exact ⟨_, rfl, rfl, E_5, F_3, F_4, A_6⟩
theorem own_k4 (x : Int32) : (x &&& (3 : Int32)) + (1 : Int32) = 1 ∨ (x &&& (3 : Int32)) + (1 : Int32) = 2 ∨ (x &&& (3 : Int32)) + (1 : Int32) = 3 ∨ (x &&& (3 : Int32)) + (1 : Int32) = 4 := by
  have h : (x &&& (3 : Int32)).toInt = x.toInt % 2 ^ 2 := Jvm.Kit.i32_mask x _ (k := 2) (by decide) (by decide)
  have q : (x &&& (3 : Int32)) = 0 ∨ (x &&& (3 : Int32)) = 1 ∨ (x &&& (3 : Int32)) = 2 ∨ (x &&& (3 : Int32)) = 3 := by
    have : x.toInt % 2 ^ 2 = 0 ∨ x.toInt % 2 ^ 2 = 1 ∨ x.toInt % 2 ^ 2 = 2 ∨ x.toInt % 2 ^ 2 = 3 := by omega
    rcases this with q | q | q | q
    · exact Or.inl (int_eq (h.trans q))
    · exact Or.inr (Or.inl (int_eq (h.trans q)))
    · exact Or.inr (Or.inr (Or.inl (int_eq (h.trans q))))
    · exact Or.inr (Or.inr (Or.inr (int_eq (h.trans q))))
  rcases q with q | q | q | q <;> rw [q] <;> decide
set_option maxRecDepth 65536 in
set_option maxHeartbeats 40000000 in
theorem law_sat (l : Launch) (Z : State) (a0 : Array Value) (hw : ∀ d ∈ tables_1, d.before a0 Z = true) (x0 x1 x2 x3 x4 x5 : Int32)  :
    Sat l Z x code maxLocals ret room_1 [.int x0, .int x1, .int x2, .int x3, .int x4, .int x5] Z.heap Z.heap.size (RV fun r _ => r = .int 1) := by
  refine sat_of (own := "com/example/inevitable_path/inevitablepath/smv/IntListRemoveLastPinLaw") (nm := "law") rfl rfl (plainFor_of_name pn_0) #[.val (.int x0), .val (.int x1), .val (.int x2), .val (.int x3), .val (.int x4), .val (.int x5), .unset, .unset, .unset, .unset, .unset, .unset, .unset] (fun m => by first | rfl | (simp [entryFrame, mkF, argsToLocals, Value.category]; done)) ?_
  intro p e s m below meth c C
  refine go_iload C at_0 (pc' := 2) rfl rfl ?_
  refine go_iconst C (3 : Int32) at_2 (pc' := 3) rfl (by decide) ?_
  refine go_iand C at_3 (pc' := 4) rfl ?_
  refine go_iconst C (1 : Int32) at_4 (pc' := 5) rfl (by decide) ?_
  refine go_iadd C at_5 (pc' := 6) rfl ?_
  refine go_istore C (Ls' := #[.val (.int x0), .val (.int x1), .val (.int x2), .val (.int x3), .val (.int x4), .val (.int x5), .val (.int ((x5 &&& (3 : Int32)) + (1 : Int32))), .unset, .unset, .unset, .unset, .unset, .unset]) at_6 (pc' := 8) rfl rfl ?_
  rcases own_k4 x5 with hn | hn | hn | hn
  · rw [hn]
    refine go_new C (wd hw 0 rfl) (wd hw 1 rfl) (wd hw 2 rfl) at_8 (pc' := 11) rfl (ce' := 1) (sl' := 2) rfl rfl (by decide) (by decide) ?_
    intro h_1 a_2 g_3 E_4 E_5 D_6
    have g_7 : Z.heap.size ≤ a_2 := own_ge (Nat.le_refl _) g_3
    have z_8 : Z.heap.size ≤ h_1.size := Nat.le_trans (Nat.le_refl _) E_4.1
    have F_9 : Fld Z h_1 a_2 "com/example/inevitable_path/inevitablepath/smv/IntList" "values" "[I" (.null) := D_6 (Or.inl (wd hw 11 rfl)) (ty := (.array .int)) (by decide)
    have F_10 : Fld Z h_1 a_2 "com/example/inevitable_path/inevitablepath/smv/IntList" "size" "I" (.int (0 : Int32)) := D_6 (Or.inl (wd hw 18 rfl)) (ty := .int) (by decide)
    refine go_dup C at_11 (pc' := 12) rfl rfl ?_
    refine go_specialN C (as := []) (rest := [.ref a_2]) (W := 1) (sat_init l Z a0 hw a_2 _ _ E_5 F_9 F_10 g_7 z_8) rfl (wd hw 3 rfl) (wd hw 4 rfl) (wd hw 2 rfl) (wd hw 5 rfl) (by decide) pd_1 rfl rfl rfl (by decide) (by decide) (ce' := 2) (sl' := 10) rfl rfl (by decide) (by decide) at_12 (pc' := 15) rfl rfl ?_
    intro h_11 q_12
    obtain ⟨r_13, g_14, E_15, F_16, F_17, A_18⟩ := q_12
    have A_19 : Av Z h_11 r_13 .int [.int (0 : Int32), .int (0 : Int32), .int (0 : Int32), .int (0 : Int32), .int (0 : Int32), .int (0 : Int32), .int (0 : Int32), .int (0 : Int32)] := A_18
    refine go_astore C (Ls' := #[.val (.int x0), .val (.int x1), .val (.int x2), .val (.int x3), .val (.int x4), .val (.int x5), .val (.int (1 : Int32)), .val (.ref a_2), .unset, .unset, .unset, .unset, .unset]) at_15 (pc' := 17) rfl rfl rfl ?_
    refine go_aload C at_17 (pc' := 19) rfl rfl rfl ?_
    refine go_iloadN C at_19 (pc' := 20) rfl rfl ?_
    refine go_virtualN C (as := [.int x0]) (rest := []) (W := 0) (sat_add l Z a0 hw a_2 r_13 x0 (0 : Int32) (8 : Int32) 0 [.int (0 : Int32), .int (0 : Int32), .int (0 : Int32), .int (0 : Int32), .int (0 : Int32), .int (0 : Int32), .int (0 : Int32), .int (0 : Int32)] [.int x0, .int (0 : Int32), .int (0 : Int32), .int (0 : Int32), .int (0 : Int32), .int (0 : Int32), .int (0 : Int32), .int (0 : Int32)] _ _ E_15 F_16 F_17 A_19 g_7 g_14 (by decide) (show 0 < 8 from by decide) rfl rfl) E_15 (wd hw 12 rfl) (wd hw 13 rfl) (wd hw 15 rfl) (wd hw 14 rfl) (wd hw 2 rfl) (wd hw 16 rfl) (by decide) pd_2 rfl rfl rfl (by decide) (by decide) (ce' := 2) (sl' := 10) rfl rfl (by decide) (by decide) at_20 (pc' := 23) rfl rfl ?_
    intro h_20 q_21
    rw [(by decide : (0 : Int32) + 1 = (1 : Int32))] at q_21
    obtain ⟨E_22, F_23, F_24, A_25⟩ := q_21
    refine go_iload C at_23 (pc' := 25) rfl rfl ?_
    refine go_iconst C (1 : Int32) at_25 (pc' := 26) rfl (by decide) ?_
    refine go_icmp C (1 : Int) (1 : Int) (by decide) (by decide) at_26 (by decide) (pc' := 35) (by decide) (pcN := 29) rfl (fun (c_26 : ¬ (1 : Int) < (1 : Int)) => ?_) (fun (c_26 : (1 : Int) < (1 : Int)) => by omega)
    refine go_iload C at_35 (pc' := 37) rfl rfl ?_
    refine go_iconst C (2 : Int32) at_37 (pc' := 38) rfl (by decide) ?_
    refine go_icmp C (1 : Int) (2 : Int) (by decide) (by decide) at_38 (by decide) (pc' := 47) (by decide) (pcN := 41) rfl (fun (c_27 : ¬ (2 : Int) < (1 : Int)) => ?_) (fun (c_27 : (2 : Int) < (1 : Int)) => by omega)
    refine go_iload C at_47 (pc' := 49) rfl rfl ?_
    refine go_iconst C (3 : Int32) at_49 (pc' := 50) rfl (by decide) ?_
    refine go_icmp C (1 : Int) (3 : Int) (by decide) (by decide) at_50 (by decide) (pc' := 59) (by decide) (pcN := 53) rfl (fun (c_28 : ¬ (3 : Int) < (1 : Int)) => ?_) (fun (c_28 : (3 : Int) < (1 : Int)) => by omega)
    refine go_iload C at_59 (pc' := 61) rfl rfl ?_
    refine go_iconst C (1 : Int32) at_61 (pc' := 62) rfl (by decide) ?_
    refine go_icmp C (1 : Int) (1 : Int) (by decide) (by decide) at_62 (by decide) (pc' := 69) (by decide) (pcN := 65) rfl (fun (c_29 : ¬ (1 : Int) = (1 : Int)) => by omega) (fun (c_29 : (1 : Int) = (1 : Int)) => ?_)
    refine go_iloadN C at_65 (pc' := 66) rfl rfl ?_
    refine go_goto C at_66 (by decide) (pc' := 90) (by decide) ?_
    refine go_istore C (Ls' := #[.val (.int x0), .val (.int x1), .val (.int x2), .val (.int x3), .val (.int x4), .val (.int x5), .val (.int (1 : Int32)), .val (.ref a_2), .val (.int x0), .unset, .unset, .unset, .unset]) at_90 (pc' := 92) rfl rfl ?_
    refine go_aload C at_92 (pc' := 94) rfl rfl rfl ?_
    refine go_virtualV C (as := []) (rest := []) (W := 0) (sat_rem l Z a0 hw a_2 r_13 (1 : Int32) x0 0 [.int x0, .int (0 : Int32), .int (0 : Int32), .int (0 : Int32), .int (0 : Int32), .int (0 : Int32), .int (0 : Int32), .int (0 : Int32)] _ _ E_22 F_23 F_24 A_25 g_7 (by decide) rfl) E_22 (wd hw 19 rfl) (wd hw 20 rfl) (wd hw 22 rfl) (wd hw 21 rfl) (wd hw 2 rfl) (wd hw 23 rfl) (by decide) pd_3 rfl rfl rfl (by decide) (by decide) (ce' := 2) (sl' := 10) rfl rfl (by decide) (by decide) at_94 (pc' := 97) rfl rfl ?_
    intro r_30 h_31 q_32
    rw [(by decide : (1 : Int32) - 1 = (0 : Int32))] at q_32
    obtain ⟨rfl, E_33, F_34, F_35, A_36⟩ := q_32
    refine go_istore C (Ls' := #[.val (.int x0), .val (.int x1), .val (.int x2), .val (.int x3), .val (.int x4), .val (.int x5), .val (.int (1 : Int32)), .val (.ref a_2), .val (.int x0), .val (.int x0), .unset, .unset, .unset]) at_97 (pc' := 99) rfl rfl ?_
    refine go_iload C at_99 (pc' := 101) rfl rfl ?_
    refine go_iload C at_101 (pc' := 103) rfl rfl ?_
    refine go_icmp C x0.toInt x0.toInt rfl rfl at_103 (by decide) (pc' := 122) (by decide) (pcN := 106) rfl (fun (c_37 : ¬ x0.toInt = x0.toInt) => by omega) (fun (c_37 : x0.toInt = x0.toInt) => ?_)
    refine go_aload C at_106 (pc' := 108) rfl rfl rfl ?_
    refine go_virtualP C (as := []) (rest := []) (W := 0) (.int (0 : Int32)) (sat_size l Z a0 hw a_2 _ _ _ F_35) E_33 (wd hw 24 rfl) (wd hw 25 rfl) (wd hw 27 rfl) (wd hw 26 rfl) (wd hw 2 rfl) (wd hw 28 rfl) (by decide) pd_3 rfl rfl rfl (by decide) (by decide) rfl rfl (by decide) (by decide) at_108 (pc' := 111) rfl rfl ?_
    refine go_iload C at_111 (pc' := 113) rfl rfl ?_
    refine go_iconst C (1 : Int32) at_113 (pc' := 114) rfl (by decide) ?_
    refine go_isub C at_114 (pc' := 115) rfl ?_
    rw [(by decide : (1 : Int32) - (1 : Int32) = (0 : Int32))]
    refine go_icmp C (0 : Int) (0 : Int) (by decide) (by decide) at_115 (by decide) (pc' := 122) (by decide) (pcN := 118) rfl (fun (c_38 : ¬ (0 : Int) = (0 : Int)) => by omega) (fun (c_38 : (0 : Int) = (0 : Int)) => ?_)
    refine go_iconst C (1 : Int32) at_118 (pc' := 119) rfl (by decide) ?_
    refine go_goto C at_119 (by decide) (pc' := 123) (by decide) ?_
    refine go_istore C (Ls' := #[.val (.int x0), .val (.int x1), .val (.int x2), .val (.int x3), .val (.int x4), .val (.int x5), .val (.int (1 : Int32)), .val (.ref a_2), .val (.int x0), .val (.int x0), .val (.int (1 : Int32)), .unset, .unset]) at_123 (pc' := 125) rfl rfl ?_
    refine go_iload C at_125 (pc' := 127) rfl rfl ?_
    refine go_iconst C (1 : Int32) at_127 (pc' := 128) rfl (by decide) ?_
    refine go_icmp C (1 : Int) (1 : Int) (by decide) (by decide) at_128 (by decide) (pc' := 214) (by decide) (pcN := 131) rfl (fun (c_39 : ¬ (1 : Int) < (1 : Int)) => ?_) (fun (c_39 : (1 : Int) < (1 : Int)) => by omega)
    refine go_aload C at_214 (pc' := 216) rfl rfl rfl ?_
    refine go_iload C at_216 (pc' := 218) rfl rfl ?_
    refine go_virtualN C (as := [.int x4]) (rest := []) (W := 0) (sat_add l Z a0 hw a_2 r_13 x4 (0 : Int32) (8 : Int32) 0 [.int x0, .int (0 : Int32), .int (0 : Int32), .int (0 : Int32), .int (0 : Int32), .int (0 : Int32), .int (0 : Int32), .int (0 : Int32)] [.int x4, .int (0 : Int32), .int (0 : Int32), .int (0 : Int32), .int (0 : Int32), .int (0 : Int32), .int (0 : Int32), .int (0 : Int32)] _ _ E_33 F_34 F_35 A_36 g_7 g_14 (by decide) (show 0 < 8 from by decide) rfl rfl) E_33 (wd hw 12 rfl) (wd hw 13 rfl) (wd hw 15 rfl) (wd hw 14 rfl) (wd hw 2 rfl) (wd hw 16 rfl) (by decide) pd_2 rfl rfl rfl (by decide) (by decide) (ce' := 2) (sl' := 10) rfl rfl (by decide) (by decide) at_218 (pc' := 221) rfl rfl ?_
    intro h_40 q_41
    rw [(by decide : (0 : Int32) + 1 = (1 : Int32))] at q_41
    obtain ⟨E_42, F_43, F_44, A_45⟩ := q_41
    refine go_aload C at_221 (pc' := 223) rfl rfl rfl ?_
    refine go_virtualV C (as := []) (rest := []) (W := 0) (sat_rem l Z a0 hw a_2 r_13 (1 : Int32) x4 0 [.int x4, .int (0 : Int32), .int (0 : Int32), .int (0 : Int32), .int (0 : Int32), .int (0 : Int32), .int (0 : Int32), .int (0 : Int32)] _ _ E_42 F_43 F_44 A_45 g_7 (by decide) rfl) E_42 (wd hw 19 rfl) (wd hw 20 rfl) (wd hw 22 rfl) (wd hw 21 rfl) (wd hw 2 rfl) (wd hw 23 rfl) (by decide) pd_3 rfl rfl rfl (by decide) (by decide) (ce' := 2) (sl' := 10) rfl rfl (by decide) (by decide) at_223 (pc' := 226) rfl rfl ?_
    intro r_46 h_47 q_48
    rw [(by decide : (1 : Int32) - 1 = (0 : Int32))] at q_48
    obtain ⟨rfl, E_49, F_50, F_51, A_52⟩ := q_48
    refine go_istore C (Ls' := #[.val (.int x0), .val (.int x1), .val (.int x2), .val (.int x3), .val (.int x4), .val (.int x5), .val (.int (1 : Int32)), .val (.ref a_2), .val (.int x0), .val (.int x0), .val (.int (1 : Int32)), .val (.int x4), .unset]) at_226 (pc' := 228) rfl rfl ?_
    refine go_iload C at_228 (pc' := 230) rfl rfl ?_
    refine go_iconst C (1 : Int32) at_230 (pc' := 231) rfl (by decide) ?_
    refine go_icmp C (1 : Int) (1 : Int) (by decide) (by decide) at_231 (by decide) (pc' := 241) (by decide) (pcN := 234) rfl (fun (c_53 : ¬ (1 : Int) < (1 : Int)) => ?_) (fun (c_53 : (1 : Int) < (1 : Int)) => by omega)
    refine go_iconst C (0 : Int32) at_241 (pc' := 242) rfl (by decide) ?_
    refine go_istore C (Ls' := #[.val (.int x0), .val (.int x1), .val (.int x2), .val (.int x3), .val (.int x4), .val (.int x5), .val (.int (1 : Int32)), .val (.ref a_2), .val (.int x0), .val (.int x0), .val (.int (1 : Int32)), .val (.int x4), .val (.int (0 : Int32))]) at_242 (pc' := 244) rfl rfl ?_
    refine go_iload C at_244 (pc' := 246) rfl rfl ?_
    refine go_if0 C (1 : Int) (by decide) at_246 (by decide) (pc' := 270) (by decide) (pcN := 249) rfl (fun (c_54 : (1 : Int) = 0) => by omega) (fun (c_54 : ¬ (1 : Int) = 0) => ?_)
    refine go_iload C at_249 (pc' := 251) rfl rfl ?_
    refine go_iload C at_251 (pc' := 253) rfl rfl ?_
    refine go_icmp C x4.toInt x4.toInt rfl rfl at_253 (by decide) (pc' := 270) (by decide) (pcN := 256) rfl (fun (c_55 : ¬ x4.toInt = x4.toInt) => by omega) (fun (c_55 : x4.toInt = x4.toInt) => ?_)
    refine go_aload C at_256 (pc' := 258) rfl rfl rfl ?_
    refine go_virtualP C (as := []) (rest := []) (W := 0) (.int (0 : Int32)) (sat_size l Z a0 hw a_2 _ _ _ F_51) E_49 (wd hw 24 rfl) (wd hw 25 rfl) (wd hw 27 rfl) (wd hw 26 rfl) (wd hw 2 rfl) (wd hw 28 rfl) (by decide) pd_3 rfl rfl rfl (by decide) (by decide) rfl rfl (by decide) (by decide) at_258 (pc' := 261) rfl rfl ?_
    refine go_iload C at_261 (pc' := 263) rfl rfl ?_
    refine go_icmp C (0 : Int) (0 : Int) (by decide) (by decide) at_263 (by decide) (pc' := 270) (by decide) (pcN := 266) rfl (fun (c_56 : ¬ (0 : Int) = (0 : Int)) => by omega) (fun (c_56 : (0 : Int) = (0 : Int)) => ?_)
    refine go_iconst C (1 : Int32) at_266 (pc' := 267) rfl (by decide) ?_
    refine go_goto C at_267 (by decide) (pc' := 271) (by decide) ?_
    refine go_istore C (Ls' := #[.val (.int x0), .val (.int x1), .val (.int x2), .val (.int x3), .val (.int x4), .val (.int x5), .val (.int (1 : Int32)), .val (.ref a_2), .val (.int x0), .val (.int x0), .val (.int (1 : Int32)), .val (.int x4), .val (.int (0 : Int32))]) at_271 (pc' := 273) rfl rfl ?_
    refine go_iload C at_273 (pc' := 275) rfl rfl ?_
    refine go_ireturnN C (z' := (1 : Int32)) rfl (by simp) rfl at_275 (by decide) (by decide) ?_
    exact ⟨_, rfl, rfl⟩
  · rw [hn]
    refine go_new C (wd hw 0 rfl) (wd hw 1 rfl) (wd hw 2 rfl) at_8 (pc' := 11) rfl (ce' := 1) (sl' := 2) rfl rfl (by decide) (by decide) ?_
    intro h_57 a_58 g_59 E_60 E_61 D_62
    have g_63 : Z.heap.size ≤ a_58 := own_ge (Nat.le_refl _) g_59
    have z_64 : Z.heap.size ≤ h_57.size := Nat.le_trans (Nat.le_refl _) E_60.1
    have F_65 : Fld Z h_57 a_58 "com/example/inevitable_path/inevitablepath/smv/IntList" "values" "[I" (.null) := D_62 (Or.inl (wd hw 11 rfl)) (ty := (.array .int)) (by decide)
    have F_66 : Fld Z h_57 a_58 "com/example/inevitable_path/inevitablepath/smv/IntList" "size" "I" (.int (0 : Int32)) := D_62 (Or.inl (wd hw 18 rfl)) (ty := .int) (by decide)
    refine go_dup C at_11 (pc' := 12) rfl rfl ?_
    refine go_specialN C (as := []) (rest := [.ref a_58]) (W := 1) (sat_init l Z a0 hw a_58 _ _ E_61 F_65 F_66 g_63 z_64) rfl (wd hw 3 rfl) (wd hw 4 rfl) (wd hw 2 rfl) (wd hw 5 rfl) (by decide) pd_1 rfl rfl rfl (by decide) (by decide) (ce' := 2) (sl' := 10) rfl rfl (by decide) (by decide) at_12 (pc' := 15) rfl rfl ?_
    intro h_67 q_68
    obtain ⟨r_69, g_70, E_71, F_72, F_73, A_74⟩ := q_68
    have A_75 : Av Z h_67 r_69 .int [.int (0 : Int32), .int (0 : Int32), .int (0 : Int32), .int (0 : Int32), .int (0 : Int32), .int (0 : Int32), .int (0 : Int32), .int (0 : Int32)] := A_74
    refine go_astore C (Ls' := #[.val (.int x0), .val (.int x1), .val (.int x2), .val (.int x3), .val (.int x4), .val (.int x5), .val (.int (2 : Int32)), .val (.ref a_58), .unset, .unset, .unset, .unset, .unset]) at_15 (pc' := 17) rfl rfl rfl ?_
    refine go_aload C at_17 (pc' := 19) rfl rfl rfl ?_
    refine go_iloadN C at_19 (pc' := 20) rfl rfl ?_
    refine go_virtualN C (as := [.int x0]) (rest := []) (W := 0) (sat_add l Z a0 hw a_58 r_69 x0 (0 : Int32) (8 : Int32) 0 [.int (0 : Int32), .int (0 : Int32), .int (0 : Int32), .int (0 : Int32), .int (0 : Int32), .int (0 : Int32), .int (0 : Int32), .int (0 : Int32)] [.int x0, .int (0 : Int32), .int (0 : Int32), .int (0 : Int32), .int (0 : Int32), .int (0 : Int32), .int (0 : Int32), .int (0 : Int32)] _ _ E_71 F_72 F_73 A_75 g_63 g_70 (by decide) (show 0 < 8 from by decide) rfl rfl) E_71 (wd hw 12 rfl) (wd hw 13 rfl) (wd hw 15 rfl) (wd hw 14 rfl) (wd hw 2 rfl) (wd hw 16 rfl) (by decide) pd_2 rfl rfl rfl (by decide) (by decide) (ce' := 2) (sl' := 10) rfl rfl (by decide) (by decide) at_20 (pc' := 23) rfl rfl ?_
    intro h_76 q_77
    rw [(by decide : (0 : Int32) + 1 = (1 : Int32))] at q_77
    obtain ⟨E_78, F_79, F_80, A_81⟩ := q_77
    refine go_iload C at_23 (pc' := 25) rfl rfl ?_
    refine go_iconst C (1 : Int32) at_25 (pc' := 26) rfl (by decide) ?_
    refine go_icmp C (2 : Int) (1 : Int) (by decide) (by decide) at_26 (by decide) (pc' := 35) (by decide) (pcN := 29) rfl (fun (c_82 : ¬ (1 : Int) < (2 : Int)) => by omega) (fun (c_82 : (1 : Int) < (2 : Int)) => ?_)
    refine go_aload C at_29 (pc' := 31) rfl rfl rfl ?_
    refine go_iloadN C at_31 (pc' := 32) rfl rfl ?_
    refine go_virtualN C (as := [.int x1]) (rest := []) (W := 0) (sat_add l Z a0 hw a_58 r_69 x1 (1 : Int32) (8 : Int32) 1 [.int x0, .int (0 : Int32), .int (0 : Int32), .int (0 : Int32), .int (0 : Int32), .int (0 : Int32), .int (0 : Int32), .int (0 : Int32)] [.int x0, .int x1, .int (0 : Int32), .int (0 : Int32), .int (0 : Int32), .int (0 : Int32), .int (0 : Int32), .int (0 : Int32)] _ _ E_78 F_79 F_80 A_81 g_63 g_70 (by decide) (show 1 < 8 from by decide) rfl rfl) E_78 (wd hw 12 rfl) (wd hw 13 rfl) (wd hw 15 rfl) (wd hw 14 rfl) (wd hw 2 rfl) (wd hw 16 rfl) (by decide) pd_2 rfl rfl rfl (by decide) (by decide) (ce' := 2) (sl' := 10) rfl rfl (by decide) (by decide) at_32 (pc' := 35) rfl rfl ?_
    intro h_83 q_84
    rw [(by decide : (1 : Int32) + 1 = (2 : Int32))] at q_84
    obtain ⟨E_85, F_86, F_87, A_88⟩ := q_84
    refine go_iload C at_35 (pc' := 37) rfl rfl ?_
    refine go_iconst C (2 : Int32) at_37 (pc' := 38) rfl (by decide) ?_
    refine go_icmp C (2 : Int) (2 : Int) (by decide) (by decide) at_38 (by decide) (pc' := 47) (by decide) (pcN := 41) rfl (fun (c_89 : ¬ (2 : Int) < (2 : Int)) => ?_) (fun (c_89 : (2 : Int) < (2 : Int)) => by omega)
    refine go_iload C at_47 (pc' := 49) rfl rfl ?_
    refine go_iconst C (3 : Int32) at_49 (pc' := 50) rfl (by decide) ?_
    refine go_icmp C (2 : Int) (3 : Int) (by decide) (by decide) at_50 (by decide) (pc' := 59) (by decide) (pcN := 53) rfl (fun (c_90 : ¬ (3 : Int) < (2 : Int)) => ?_) (fun (c_90 : (3 : Int) < (2 : Int)) => by omega)
    refine go_iload C at_59 (pc' := 61) rfl rfl ?_
    refine go_iconst C (1 : Int32) at_61 (pc' := 62) rfl (by decide) ?_
    refine go_icmp C (2 : Int) (1 : Int) (by decide) (by decide) at_62 (by decide) (pc' := 69) (by decide) (pcN := 65) rfl (fun (c_91 : ¬ (2 : Int) = (1 : Int)) => ?_) (fun (c_91 : (2 : Int) = (1 : Int)) => by omega)
    refine go_iload C at_69 (pc' := 71) rfl rfl ?_
    refine go_iconst C (2 : Int32) at_71 (pc' := 72) rfl (by decide) ?_
    refine go_icmp C (2 : Int) (2 : Int) (by decide) (by decide) at_72 (by decide) (pc' := 79) (by decide) (pcN := 75) rfl (fun (c_92 : ¬ (2 : Int) = (2 : Int)) => by omega) (fun (c_92 : (2 : Int) = (2 : Int)) => ?_)
    refine go_iloadN C at_75 (pc' := 76) rfl rfl ?_
    refine go_goto C at_76 (by decide) (pc' := 90) (by decide) ?_
    refine go_istore C (Ls' := #[.val (.int x0), .val (.int x1), .val (.int x2), .val (.int x3), .val (.int x4), .val (.int x5), .val (.int (2 : Int32)), .val (.ref a_58), .val (.int x1), .unset, .unset, .unset, .unset]) at_90 (pc' := 92) rfl rfl ?_
    refine go_aload C at_92 (pc' := 94) rfl rfl rfl ?_
    refine go_virtualV C (as := []) (rest := []) (W := 0) (sat_rem l Z a0 hw a_58 r_69 (2 : Int32) x1 1 [.int x0, .int x1, .int (0 : Int32), .int (0 : Int32), .int (0 : Int32), .int (0 : Int32), .int (0 : Int32), .int (0 : Int32)] _ _ E_85 F_86 F_87 A_88 g_63 (by decide) rfl) E_85 (wd hw 19 rfl) (wd hw 20 rfl) (wd hw 22 rfl) (wd hw 21 rfl) (wd hw 2 rfl) (wd hw 23 rfl) (by decide) pd_3 rfl rfl rfl (by decide) (by decide) (ce' := 2) (sl' := 10) rfl rfl (by decide) (by decide) at_94 (pc' := 97) rfl rfl ?_
    intro r_93 h_94 q_95
    rw [(by decide : (2 : Int32) - 1 = (1 : Int32))] at q_95
    obtain ⟨rfl, E_96, F_97, F_98, A_99⟩ := q_95
    refine go_istore C (Ls' := #[.val (.int x0), .val (.int x1), .val (.int x2), .val (.int x3), .val (.int x4), .val (.int x5), .val (.int (2 : Int32)), .val (.ref a_58), .val (.int x1), .val (.int x1), .unset, .unset, .unset]) at_97 (pc' := 99) rfl rfl ?_
    refine go_iload C at_99 (pc' := 101) rfl rfl ?_
    refine go_iload C at_101 (pc' := 103) rfl rfl ?_
    refine go_icmp C x1.toInt x1.toInt rfl rfl at_103 (by decide) (pc' := 122) (by decide) (pcN := 106) rfl (fun (c_100 : ¬ x1.toInt = x1.toInt) => by omega) (fun (c_100 : x1.toInt = x1.toInt) => ?_)
    refine go_aload C at_106 (pc' := 108) rfl rfl rfl ?_
    refine go_virtualP C (as := []) (rest := []) (W := 0) (.int (1 : Int32)) (sat_size l Z a0 hw a_58 _ _ _ F_98) E_96 (wd hw 24 rfl) (wd hw 25 rfl) (wd hw 27 rfl) (wd hw 26 rfl) (wd hw 2 rfl) (wd hw 28 rfl) (by decide) pd_3 rfl rfl rfl (by decide) (by decide) rfl rfl (by decide) (by decide) at_108 (pc' := 111) rfl rfl ?_
    refine go_iload C at_111 (pc' := 113) rfl rfl ?_
    refine go_iconst C (1 : Int32) at_113 (pc' := 114) rfl (by decide) ?_
    refine go_isub C at_114 (pc' := 115) rfl ?_
    rw [(by decide : (2 : Int32) - (1 : Int32) = (1 : Int32))]
    refine go_icmp C (1 : Int) (1 : Int) (by decide) (by decide) at_115 (by decide) (pc' := 122) (by decide) (pcN := 118) rfl (fun (c_101 : ¬ (1 : Int) = (1 : Int)) => by omega) (fun (c_101 : (1 : Int) = (1 : Int)) => ?_)
    refine go_iconst C (1 : Int32) at_118 (pc' := 119) rfl (by decide) ?_
    refine go_goto C at_119 (by decide) (pc' := 123) (by decide) ?_
    refine go_istore C (Ls' := #[.val (.int x0), .val (.int x1), .val (.int x2), .val (.int x3), .val (.int x4), .val (.int x5), .val (.int (2 : Int32)), .val (.ref a_58), .val (.int x1), .val (.int x1), .val (.int (1 : Int32)), .unset, .unset]) at_123 (pc' := 125) rfl rfl ?_
    refine go_iload C at_125 (pc' := 127) rfl rfl ?_
    refine go_iconst C (1 : Int32) at_127 (pc' := 128) rfl (by decide) ?_
    refine go_icmp C (2 : Int) (1 : Int) (by decide) (by decide) at_128 (by decide) (pc' := 214) (by decide) (pcN := 131) rfl (fun (c_102 : ¬ (1 : Int) < (2 : Int)) => by omega) (fun (c_102 : (1 : Int) < (2 : Int)) => ?_)
    refine go_iload C at_131 (pc' := 133) rfl rfl ?_
    refine go_iconst C (2 : Int32) at_133 (pc' := 134) rfl (by decide) ?_
    refine go_icmp C (2 : Int) (2 : Int) (by decide) (by decide) at_134 (by decide) (pc' := 141) (by decide) (pcN := 137) rfl (fun (c_103 : ¬ (2 : Int) = (2 : Int)) => by omega) (fun (c_103 : (2 : Int) = (2 : Int)) => ?_)
    refine go_iloadN C at_137 (pc' := 138) rfl rfl ?_
    refine go_goto C at_138 (by decide) (pc' := 152) (by decide) ?_
    refine go_istore C (Ls' := #[.val (.int x0), .val (.int x1), .val (.int x2), .val (.int x3), .val (.int x4), .val (.int x5), .val (.int (2 : Int32)), .val (.ref a_58), .val (.int x1), .val (.int x1), .val (.int (1 : Int32)), .val (.int x0), .unset]) at_152 (pc' := 154) rfl rfl ?_
    refine go_iload C at_154 (pc' := 156) rfl rfl ?_
    refine go_if0 C (1 : Int) (by decide) at_156 (by decide) (pc' := 173) (by decide) (pcN := 159) rfl (fun (c_104 : (1 : Int) = 0) => by omega) (fun (c_104 : ¬ (1 : Int) = 0) => ?_)
    refine go_aload C at_159 (pc' := 161) rfl rfl rfl ?_
    refine go_iconst C (0 : Int32) at_161 (pc' := 162) rfl (by decide) ?_
    refine go_virtualP C (as := [.int (0 : Int32)]) (rest := []) (W := 0) (.int x0) (sat_get l Z a0 hw a_58 r_69 (0 : Int32) x0 0 [.int x0, .int x1, .int (0 : Int32), .int (0 : Int32), .int (0 : Int32), .int (0 : Int32), .int (0 : Int32), .int (0 : Int32)] _ _ F_97 A_99 (by decide) rfl) E_96 (wd hw 29 rfl) (wd hw 30 rfl) (wd hw 32 rfl) (wd hw 31 rfl) (wd hw 2 rfl) (wd hw 33 rfl) (by decide) pd_4 rfl rfl rfl (by decide) (by decide) rfl rfl (by decide) (by decide) at_162 (pc' := 165) rfl rfl ?_
    refine go_iloadN C at_165 (pc' := 166) rfl rfl ?_
    refine go_icmp C x0.toInt x0.toInt rfl rfl at_166 (by decide) (pc' := 173) (by decide) (pcN := 169) rfl (fun (c_105 : ¬ x0.toInt = x0.toInt) => by omega) (fun (c_105 : x0.toInt = x0.toInt) => ?_)
    refine go_iconst C (1 : Int32) at_169 (pc' := 170) rfl (by decide) ?_
    refine go_goto C at_170 (by decide) (pc' := 174) (by decide) ?_
    refine go_istore C (Ls' := #[.val (.int x0), .val (.int x1), .val (.int x2), .val (.int x3), .val (.int x4), .val (.int x5), .val (.int (2 : Int32)), .val (.ref a_58), .val (.int x1), .val (.int x1), .val (.int (1 : Int32)), .val (.int x0), .unset]) at_174 (pc' := 176) rfl rfl ?_
    refine go_aload C at_176 (pc' := 178) rfl rfl rfl ?_
    refine go_virtualV C (as := []) (rest := []) (W := 0) (sat_rem l Z a0 hw a_58 r_69 (1 : Int32) x0 0 [.int x0, .int x1, .int (0 : Int32), .int (0 : Int32), .int (0 : Int32), .int (0 : Int32), .int (0 : Int32), .int (0 : Int32)] _ _ E_96 F_97 F_98 A_99 g_63 (by decide) rfl) E_96 (wd hw 19 rfl) (wd hw 20 rfl) (wd hw 22 rfl) (wd hw 21 rfl) (wd hw 2 rfl) (wd hw 23 rfl) (by decide) pd_3 rfl rfl rfl (by decide) (by decide) (ce' := 2) (sl' := 10) rfl rfl (by decide) (by decide) at_178 (pc' := 181) rfl rfl ?_
    intro r_106 h_107 q_108
    rw [(by decide : (1 : Int32) - 1 = (0 : Int32))] at q_108
    obtain ⟨rfl, E_109, F_110, F_111, A_112⟩ := q_108
    refine go_istore C (Ls' := #[.val (.int x0), .val (.int x1), .val (.int x2), .val (.int x3), .val (.int x4), .val (.int x5), .val (.int (2 : Int32)), .val (.ref a_58), .val (.int x1), .val (.int x1), .val (.int (1 : Int32)), .val (.int x0), .val (.int x0)]) at_181 (pc' := 183) rfl rfl ?_
    refine go_iload C at_183 (pc' := 185) rfl rfl ?_
    refine go_if0 C (1 : Int) (by decide) at_185 (by decide) (pc' := 211) (by decide) (pcN := 188) rfl (fun (c_113 : (1 : Int) = 0) => by omega) (fun (c_113 : ¬ (1 : Int) = 0) => ?_)
    refine go_iload C at_188 (pc' := 190) rfl rfl ?_
    refine go_iload C at_190 (pc' := 192) rfl rfl ?_
    refine go_icmp C x0.toInt x0.toInt rfl rfl at_192 (by decide) (pc' := 211) (by decide) (pcN := 195) rfl (fun (c_114 : ¬ x0.toInt = x0.toInt) => by omega) (fun (c_114 : x0.toInt = x0.toInt) => ?_)
    refine go_aload C at_195 (pc' := 197) rfl rfl rfl ?_
    refine go_virtualP C (as := []) (rest := []) (W := 0) (.int (0 : Int32)) (sat_size l Z a0 hw a_58 _ _ _ F_111) E_109 (wd hw 24 rfl) (wd hw 25 rfl) (wd hw 27 rfl) (wd hw 26 rfl) (wd hw 2 rfl) (wd hw 28 rfl) (by decide) pd_3 rfl rfl rfl (by decide) (by decide) rfl rfl (by decide) (by decide) at_197 (pc' := 200) rfl rfl ?_
    refine go_iload C at_200 (pc' := 202) rfl rfl ?_
    refine go_iconst C (2 : Int32) at_202 (pc' := 203) rfl (by decide) ?_
    refine go_isub C at_203 (pc' := 204) rfl ?_
    rw [(by decide : (2 : Int32) - (2 : Int32) = (0 : Int32))]
    refine go_icmp C (0 : Int) (0 : Int) (by decide) (by decide) at_204 (by decide) (pc' := 211) (by decide) (pcN := 207) rfl (fun (c_115 : ¬ (0 : Int) = (0 : Int)) => by omega) (fun (c_115 : (0 : Int) = (0 : Int)) => ?_)
    refine go_iconst C (1 : Int32) at_207 (pc' := 208) rfl (by decide) ?_
    refine go_goto C at_208 (by decide) (pc' := 212) (by decide) ?_
    refine go_istore C (Ls' := #[.val (.int x0), .val (.int x1), .val (.int x2), .val (.int x3), .val (.int x4), .val (.int x5), .val (.int (2 : Int32)), .val (.ref a_58), .val (.int x1), .val (.int x1), .val (.int (1 : Int32)), .val (.int x0), .val (.int x0)]) at_212 (pc' := 214) rfl rfl ?_
    refine go_aload C at_214 (pc' := 216) rfl rfl rfl ?_
    refine go_iload C at_216 (pc' := 218) rfl rfl ?_
    refine go_virtualN C (as := [.int x4]) (rest := []) (W := 0) (sat_add l Z a0 hw a_58 r_69 x4 (0 : Int32) (8 : Int32) 0 [.int x0, .int x1, .int (0 : Int32), .int (0 : Int32), .int (0 : Int32), .int (0 : Int32), .int (0 : Int32), .int (0 : Int32)] [.int x4, .int x1, .int (0 : Int32), .int (0 : Int32), .int (0 : Int32), .int (0 : Int32), .int (0 : Int32), .int (0 : Int32)] _ _ E_109 F_110 F_111 A_112 g_63 g_70 (by decide) (show 0 < 8 from by decide) rfl rfl) E_109 (wd hw 12 rfl) (wd hw 13 rfl) (wd hw 15 rfl) (wd hw 14 rfl) (wd hw 2 rfl) (wd hw 16 rfl) (by decide) pd_2 rfl rfl rfl (by decide) (by decide) (ce' := 2) (sl' := 10) rfl rfl (by decide) (by decide) at_218 (pc' := 221) rfl rfl ?_
    intro h_116 q_117
    rw [(by decide : (0 : Int32) + 1 = (1 : Int32))] at q_117
    obtain ⟨E_118, F_119, F_120, A_121⟩ := q_117
    refine go_aload C at_221 (pc' := 223) rfl rfl rfl ?_
    refine go_virtualV C (as := []) (rest := []) (W := 0) (sat_rem l Z a0 hw a_58 r_69 (1 : Int32) x4 0 [.int x4, .int x1, .int (0 : Int32), .int (0 : Int32), .int (0 : Int32), .int (0 : Int32), .int (0 : Int32), .int (0 : Int32)] _ _ E_118 F_119 F_120 A_121 g_63 (by decide) rfl) E_118 (wd hw 19 rfl) (wd hw 20 rfl) (wd hw 22 rfl) (wd hw 21 rfl) (wd hw 2 rfl) (wd hw 23 rfl) (by decide) pd_3 rfl rfl rfl (by decide) (by decide) (ce' := 2) (sl' := 10) rfl rfl (by decide) (by decide) at_223 (pc' := 226) rfl rfl ?_
    intro r_122 h_123 q_124
    rw [(by decide : (1 : Int32) - 1 = (0 : Int32))] at q_124
    obtain ⟨rfl, E_125, F_126, F_127, A_128⟩ := q_124
    refine go_istore C (Ls' := #[.val (.int x0), .val (.int x1), .val (.int x2), .val (.int x3), .val (.int x4), .val (.int x5), .val (.int (2 : Int32)), .val (.ref a_58), .val (.int x1), .val (.int x1), .val (.int (1 : Int32)), .val (.int x4), .val (.int x0)]) at_226 (pc' := 228) rfl rfl ?_
    refine go_iload C at_228 (pc' := 230) rfl rfl ?_
    refine go_iconst C (1 : Int32) at_230 (pc' := 231) rfl (by decide) ?_
    refine go_icmp C (2 : Int) (1 : Int) (by decide) (by decide) at_231 (by decide) (pc' := 241) (by decide) (pcN := 234) rfl (fun (c_129 : ¬ (1 : Int) < (2 : Int)) => by omega) (fun (c_129 : (1 : Int) < (2 : Int)) => ?_)
    refine go_iload C at_234 (pc' := 236) rfl rfl ?_
    refine go_iconst C (2 : Int32) at_236 (pc' := 237) rfl (by decide) ?_
    refine go_isub C at_237 (pc' := 238) rfl ?_
    rw [(by decide : (2 : Int32) - (2 : Int32) = (0 : Int32))]
    refine go_goto C at_238 (by decide) (pc' := 242) (by decide) ?_
    refine go_istore C (Ls' := #[.val (.int x0), .val (.int x1), .val (.int x2), .val (.int x3), .val (.int x4), .val (.int x5), .val (.int (2 : Int32)), .val (.ref a_58), .val (.int x1), .val (.int x1), .val (.int (1 : Int32)), .val (.int x4), .val (.int (0 : Int32))]) at_242 (pc' := 244) rfl rfl ?_
    refine go_iload C at_244 (pc' := 246) rfl rfl ?_
    refine go_if0 C (1 : Int) (by decide) at_246 (by decide) (pc' := 270) (by decide) (pcN := 249) rfl (fun (c_130 : (1 : Int) = 0) => by omega) (fun (c_130 : ¬ (1 : Int) = 0) => ?_)
    refine go_iload C at_249 (pc' := 251) rfl rfl ?_
    refine go_iload C at_251 (pc' := 253) rfl rfl ?_
    refine go_icmp C x4.toInt x4.toInt rfl rfl at_253 (by decide) (pc' := 270) (by decide) (pcN := 256) rfl (fun (c_131 : ¬ x4.toInt = x4.toInt) => by omega) (fun (c_131 : x4.toInt = x4.toInt) => ?_)
    refine go_aload C at_256 (pc' := 258) rfl rfl rfl ?_
    refine go_virtualP C (as := []) (rest := []) (W := 0) (.int (0 : Int32)) (sat_size l Z a0 hw a_58 _ _ _ F_127) E_125 (wd hw 24 rfl) (wd hw 25 rfl) (wd hw 27 rfl) (wd hw 26 rfl) (wd hw 2 rfl) (wd hw 28 rfl) (by decide) pd_3 rfl rfl rfl (by decide) (by decide) rfl rfl (by decide) (by decide) at_258 (pc' := 261) rfl rfl ?_
    refine go_iload C at_261 (pc' := 263) rfl rfl ?_
    refine go_icmp C (0 : Int) (0 : Int) (by decide) (by decide) at_263 (by decide) (pc' := 270) (by decide) (pcN := 266) rfl (fun (c_132 : ¬ (0 : Int) = (0 : Int)) => by omega) (fun (c_132 : (0 : Int) = (0 : Int)) => ?_)
    refine go_iconst C (1 : Int32) at_266 (pc' := 267) rfl (by decide) ?_
    refine go_goto C at_267 (by decide) (pc' := 271) (by decide) ?_
    refine go_istore C (Ls' := #[.val (.int x0), .val (.int x1), .val (.int x2), .val (.int x3), .val (.int x4), .val (.int x5), .val (.int (2 : Int32)), .val (.ref a_58), .val (.int x1), .val (.int x1), .val (.int (1 : Int32)), .val (.int x4), .val (.int (0 : Int32))]) at_271 (pc' := 273) rfl rfl ?_
    refine go_iload C at_273 (pc' := 275) rfl rfl ?_
    refine go_ireturnN C (z' := (1 : Int32)) rfl (by simp) rfl at_275 (by decide) (by decide) ?_
    exact ⟨_, rfl, rfl⟩
  · rw [hn]
    refine go_new C (wd hw 0 rfl) (wd hw 1 rfl) (wd hw 2 rfl) at_8 (pc' := 11) rfl (ce' := 1) (sl' := 2) rfl rfl (by decide) (by decide) ?_
    intro h_133 a_134 g_135 E_136 E_137 D_138
    have g_139 : Z.heap.size ≤ a_134 := own_ge (Nat.le_refl _) g_135
    have z_140 : Z.heap.size ≤ h_133.size := Nat.le_trans (Nat.le_refl _) E_136.1
    have F_141 : Fld Z h_133 a_134 "com/example/inevitable_path/inevitablepath/smv/IntList" "values" "[I" (.null) := D_138 (Or.inl (wd hw 11 rfl)) (ty := (.array .int)) (by decide)
    have F_142 : Fld Z h_133 a_134 "com/example/inevitable_path/inevitablepath/smv/IntList" "size" "I" (.int (0 : Int32)) := D_138 (Or.inl (wd hw 18 rfl)) (ty := .int) (by decide)
    refine go_dup C at_11 (pc' := 12) rfl rfl ?_
    refine go_specialN C (as := []) (rest := [.ref a_134]) (W := 1) (sat_init l Z a0 hw a_134 _ _ E_137 F_141 F_142 g_139 z_140) rfl (wd hw 3 rfl) (wd hw 4 rfl) (wd hw 2 rfl) (wd hw 5 rfl) (by decide) pd_1 rfl rfl rfl (by decide) (by decide) (ce' := 2) (sl' := 10) rfl rfl (by decide) (by decide) at_12 (pc' := 15) rfl rfl ?_
    intro h_143 q_144
    obtain ⟨r_145, g_146, E_147, F_148, F_149, A_150⟩ := q_144
    have A_151 : Av Z h_143 r_145 .int [.int (0 : Int32), .int (0 : Int32), .int (0 : Int32), .int (0 : Int32), .int (0 : Int32), .int (0 : Int32), .int (0 : Int32), .int (0 : Int32)] := A_150
    refine go_astore C (Ls' := #[.val (.int x0), .val (.int x1), .val (.int x2), .val (.int x3), .val (.int x4), .val (.int x5), .val (.int (3 : Int32)), .val (.ref a_134), .unset, .unset, .unset, .unset, .unset]) at_15 (pc' := 17) rfl rfl rfl ?_
    refine go_aload C at_17 (pc' := 19) rfl rfl rfl ?_
    refine go_iloadN C at_19 (pc' := 20) rfl rfl ?_
    refine go_virtualN C (as := [.int x0]) (rest := []) (W := 0) (sat_add l Z a0 hw a_134 r_145 x0 (0 : Int32) (8 : Int32) 0 [.int (0 : Int32), .int (0 : Int32), .int (0 : Int32), .int (0 : Int32), .int (0 : Int32), .int (0 : Int32), .int (0 : Int32), .int (0 : Int32)] [.int x0, .int (0 : Int32), .int (0 : Int32), .int (0 : Int32), .int (0 : Int32), .int (0 : Int32), .int (0 : Int32), .int (0 : Int32)] _ _ E_147 F_148 F_149 A_151 g_139 g_146 (by decide) (show 0 < 8 from by decide) rfl rfl) E_147 (wd hw 12 rfl) (wd hw 13 rfl) (wd hw 15 rfl) (wd hw 14 rfl) (wd hw 2 rfl) (wd hw 16 rfl) (by decide) pd_2 rfl rfl rfl (by decide) (by decide) (ce' := 2) (sl' := 10) rfl rfl (by decide) (by decide) at_20 (pc' := 23) rfl rfl ?_
    intro h_152 q_153
    rw [(by decide : (0 : Int32) + 1 = (1 : Int32))] at q_153
    obtain ⟨E_154, F_155, F_156, A_157⟩ := q_153
    refine go_iload C at_23 (pc' := 25) rfl rfl ?_
    refine go_iconst C (1 : Int32) at_25 (pc' := 26) rfl (by decide) ?_
    refine go_icmp C (3 : Int) (1 : Int) (by decide) (by decide) at_26 (by decide) (pc' := 35) (by decide) (pcN := 29) rfl (fun (c_158 : ¬ (1 : Int) < (3 : Int)) => by omega) (fun (c_158 : (1 : Int) < (3 : Int)) => ?_)
    refine go_aload C at_29 (pc' := 31) rfl rfl rfl ?_
    refine go_iloadN C at_31 (pc' := 32) rfl rfl ?_
    refine go_virtualN C (as := [.int x1]) (rest := []) (W := 0) (sat_add l Z a0 hw a_134 r_145 x1 (1 : Int32) (8 : Int32) 1 [.int x0, .int (0 : Int32), .int (0 : Int32), .int (0 : Int32), .int (0 : Int32), .int (0 : Int32), .int (0 : Int32), .int (0 : Int32)] [.int x0, .int x1, .int (0 : Int32), .int (0 : Int32), .int (0 : Int32), .int (0 : Int32), .int (0 : Int32), .int (0 : Int32)] _ _ E_154 F_155 F_156 A_157 g_139 g_146 (by decide) (show 1 < 8 from by decide) rfl rfl) E_154 (wd hw 12 rfl) (wd hw 13 rfl) (wd hw 15 rfl) (wd hw 14 rfl) (wd hw 2 rfl) (wd hw 16 rfl) (by decide) pd_2 rfl rfl rfl (by decide) (by decide) (ce' := 2) (sl' := 10) rfl rfl (by decide) (by decide) at_32 (pc' := 35) rfl rfl ?_
    intro h_159 q_160
    rw [(by decide : (1 : Int32) + 1 = (2 : Int32))] at q_160
    obtain ⟨E_161, F_162, F_163, A_164⟩ := q_160
    refine go_iload C at_35 (pc' := 37) rfl rfl ?_
    refine go_iconst C (2 : Int32) at_37 (pc' := 38) rfl (by decide) ?_
    refine go_icmp C (3 : Int) (2 : Int) (by decide) (by decide) at_38 (by decide) (pc' := 47) (by decide) (pcN := 41) rfl (fun (c_165 : ¬ (2 : Int) < (3 : Int)) => by omega) (fun (c_165 : (2 : Int) < (3 : Int)) => ?_)
    refine go_aload C at_41 (pc' := 43) rfl rfl rfl ?_
    refine go_iloadN C at_43 (pc' := 44) rfl rfl ?_
    refine go_virtualN C (as := [.int x2]) (rest := []) (W := 0) (sat_add l Z a0 hw a_134 r_145 x2 (2 : Int32) (8 : Int32) 2 [.int x0, .int x1, .int (0 : Int32), .int (0 : Int32), .int (0 : Int32), .int (0 : Int32), .int (0 : Int32), .int (0 : Int32)] [.int x0, .int x1, .int x2, .int (0 : Int32), .int (0 : Int32), .int (0 : Int32), .int (0 : Int32), .int (0 : Int32)] _ _ E_161 F_162 F_163 A_164 g_139 g_146 (by decide) (show 2 < 8 from by decide) rfl rfl) E_161 (wd hw 12 rfl) (wd hw 13 rfl) (wd hw 15 rfl) (wd hw 14 rfl) (wd hw 2 rfl) (wd hw 16 rfl) (by decide) pd_2 rfl rfl rfl (by decide) (by decide) (ce' := 2) (sl' := 10) rfl rfl (by decide) (by decide) at_44 (pc' := 47) rfl rfl ?_
    intro h_166 q_167
    rw [(by decide : (2 : Int32) + 1 = (3 : Int32))] at q_167
    obtain ⟨E_168, F_169, F_170, A_171⟩ := q_167
    refine go_iload C at_47 (pc' := 49) rfl rfl ?_
    refine go_iconst C (3 : Int32) at_49 (pc' := 50) rfl (by decide) ?_
    refine go_icmp C (3 : Int) (3 : Int) (by decide) (by decide) at_50 (by decide) (pc' := 59) (by decide) (pcN := 53) rfl (fun (c_172 : ¬ (3 : Int) < (3 : Int)) => ?_) (fun (c_172 : (3 : Int) < (3 : Int)) => by omega)
    refine go_iload C at_59 (pc' := 61) rfl rfl ?_
    refine go_iconst C (1 : Int32) at_61 (pc' := 62) rfl (by decide) ?_
    refine go_icmp C (3 : Int) (1 : Int) (by decide) (by decide) at_62 (by decide) (pc' := 69) (by decide) (pcN := 65) rfl (fun (c_173 : ¬ (3 : Int) = (1 : Int)) => ?_) (fun (c_173 : (3 : Int) = (1 : Int)) => by omega)
    refine go_iload C at_69 (pc' := 71) rfl rfl ?_
    refine go_iconst C (2 : Int32) at_71 (pc' := 72) rfl (by decide) ?_
    refine go_icmp C (3 : Int) (2 : Int) (by decide) (by decide) at_72 (by decide) (pc' := 79) (by decide) (pcN := 75) rfl (fun (c_174 : ¬ (3 : Int) = (2 : Int)) => ?_) (fun (c_174 : (3 : Int) = (2 : Int)) => by omega)
    refine go_iload C at_79 (pc' := 81) rfl rfl ?_
    refine go_iconst C (3 : Int32) at_81 (pc' := 82) rfl (by decide) ?_
    refine go_icmp C (3 : Int) (3 : Int) (by decide) (by decide) at_82 (by decide) (pc' := 89) (by decide) (pcN := 85) rfl (fun (c_175 : ¬ (3 : Int) = (3 : Int)) => by omega) (fun (c_175 : (3 : Int) = (3 : Int)) => ?_)
    refine go_iloadN C at_85 (pc' := 86) rfl rfl ?_
    refine go_goto C at_86 (by decide) (pc' := 90) (by decide) ?_
    refine go_istore C (Ls' := #[.val (.int x0), .val (.int x1), .val (.int x2), .val (.int x3), .val (.int x4), .val (.int x5), .val (.int (3 : Int32)), .val (.ref a_134), .val (.int x2), .unset, .unset, .unset, .unset]) at_90 (pc' := 92) rfl rfl ?_
    refine go_aload C at_92 (pc' := 94) rfl rfl rfl ?_
    refine go_virtualV C (as := []) (rest := []) (W := 0) (sat_rem l Z a0 hw a_134 r_145 (3 : Int32) x2 2 [.int x0, .int x1, .int x2, .int (0 : Int32), .int (0 : Int32), .int (0 : Int32), .int (0 : Int32), .int (0 : Int32)] _ _ E_168 F_169 F_170 A_171 g_139 (by decide) rfl) E_168 (wd hw 19 rfl) (wd hw 20 rfl) (wd hw 22 rfl) (wd hw 21 rfl) (wd hw 2 rfl) (wd hw 23 rfl) (by decide) pd_3 rfl rfl rfl (by decide) (by decide) (ce' := 2) (sl' := 10) rfl rfl (by decide) (by decide) at_94 (pc' := 97) rfl rfl ?_
    intro r_176 h_177 q_178
    rw [(by decide : (3 : Int32) - 1 = (2 : Int32))] at q_178
    obtain ⟨rfl, E_179, F_180, F_181, A_182⟩ := q_178
    refine go_istore C (Ls' := #[.val (.int x0), .val (.int x1), .val (.int x2), .val (.int x3), .val (.int x4), .val (.int x5), .val (.int (3 : Int32)), .val (.ref a_134), .val (.int x2), .val (.int x2), .unset, .unset, .unset]) at_97 (pc' := 99) rfl rfl ?_
    refine go_iload C at_99 (pc' := 101) rfl rfl ?_
    refine go_iload C at_101 (pc' := 103) rfl rfl ?_
    refine go_icmp C x2.toInt x2.toInt rfl rfl at_103 (by decide) (pc' := 122) (by decide) (pcN := 106) rfl (fun (c_183 : ¬ x2.toInt = x2.toInt) => by omega) (fun (c_183 : x2.toInt = x2.toInt) => ?_)
    refine go_aload C at_106 (pc' := 108) rfl rfl rfl ?_
    refine go_virtualP C (as := []) (rest := []) (W := 0) (.int (2 : Int32)) (sat_size l Z a0 hw a_134 _ _ _ F_181) E_179 (wd hw 24 rfl) (wd hw 25 rfl) (wd hw 27 rfl) (wd hw 26 rfl) (wd hw 2 rfl) (wd hw 28 rfl) (by decide) pd_3 rfl rfl rfl (by decide) (by decide) rfl rfl (by decide) (by decide) at_108 (pc' := 111) rfl rfl ?_
    refine go_iload C at_111 (pc' := 113) rfl rfl ?_
    refine go_iconst C (1 : Int32) at_113 (pc' := 114) rfl (by decide) ?_
    refine go_isub C at_114 (pc' := 115) rfl ?_
    rw [(by decide : (3 : Int32) - (1 : Int32) = (2 : Int32))]
    refine go_icmp C (2 : Int) (2 : Int) (by decide) (by decide) at_115 (by decide) (pc' := 122) (by decide) (pcN := 118) rfl (fun (c_184 : ¬ (2 : Int) = (2 : Int)) => by omega) (fun (c_184 : (2 : Int) = (2 : Int)) => ?_)
    refine go_iconst C (1 : Int32) at_118 (pc' := 119) rfl (by decide) ?_
    refine go_goto C at_119 (by decide) (pc' := 123) (by decide) ?_
    refine go_istore C (Ls' := #[.val (.int x0), .val (.int x1), .val (.int x2), .val (.int x3), .val (.int x4), .val (.int x5), .val (.int (3 : Int32)), .val (.ref a_134), .val (.int x2), .val (.int x2), .val (.int (1 : Int32)), .unset, .unset]) at_123 (pc' := 125) rfl rfl ?_
    refine go_iload C at_125 (pc' := 127) rfl rfl ?_
    refine go_iconst C (1 : Int32) at_127 (pc' := 128) rfl (by decide) ?_
    refine go_icmp C (3 : Int) (1 : Int) (by decide) (by decide) at_128 (by decide) (pc' := 214) (by decide) (pcN := 131) rfl (fun (c_185 : ¬ (1 : Int) < (3 : Int)) => by omega) (fun (c_185 : (1 : Int) < (3 : Int)) => ?_)
    refine go_iload C at_131 (pc' := 133) rfl rfl ?_
    refine go_iconst C (2 : Int32) at_133 (pc' := 134) rfl (by decide) ?_
    refine go_icmp C (3 : Int) (2 : Int) (by decide) (by decide) at_134 (by decide) (pc' := 141) (by decide) (pcN := 137) rfl (fun (c_186 : ¬ (3 : Int) = (2 : Int)) => ?_) (fun (c_186 : (3 : Int) = (2 : Int)) => by omega)
    refine go_iload C at_141 (pc' := 143) rfl rfl ?_
    refine go_iconst C (3 : Int32) at_143 (pc' := 144) rfl (by decide) ?_
    refine go_icmp C (3 : Int) (3 : Int) (by decide) (by decide) at_144 (by decide) (pc' := 151) (by decide) (pcN := 147) rfl (fun (c_187 : ¬ (3 : Int) = (3 : Int)) => by omega) (fun (c_187 : (3 : Int) = (3 : Int)) => ?_)
    refine go_iloadN C at_147 (pc' := 148) rfl rfl ?_
    refine go_goto C at_148 (by decide) (pc' := 152) (by decide) ?_
    refine go_istore C (Ls' := #[.val (.int x0), .val (.int x1), .val (.int x2), .val (.int x3), .val (.int x4), .val (.int x5), .val (.int (3 : Int32)), .val (.ref a_134), .val (.int x2), .val (.int x2), .val (.int (1 : Int32)), .val (.int x1), .unset]) at_152 (pc' := 154) rfl rfl ?_
    refine go_iload C at_154 (pc' := 156) rfl rfl ?_
    refine go_if0 C (1 : Int) (by decide) at_156 (by decide) (pc' := 173) (by decide) (pcN := 159) rfl (fun (c_188 : (1 : Int) = 0) => by omega) (fun (c_188 : ¬ (1 : Int) = 0) => ?_)
    refine go_aload C at_159 (pc' := 161) rfl rfl rfl ?_
    refine go_iconst C (0 : Int32) at_161 (pc' := 162) rfl (by decide) ?_
    refine go_virtualP C (as := [.int (0 : Int32)]) (rest := []) (W := 0) (.int x0) (sat_get l Z a0 hw a_134 r_145 (0 : Int32) x0 0 [.int x0, .int x1, .int x2, .int (0 : Int32), .int (0 : Int32), .int (0 : Int32), .int (0 : Int32), .int (0 : Int32)] _ _ F_180 A_182 (by decide) rfl) E_179 (wd hw 29 rfl) (wd hw 30 rfl) (wd hw 32 rfl) (wd hw 31 rfl) (wd hw 2 rfl) (wd hw 33 rfl) (by decide) pd_4 rfl rfl rfl (by decide) (by decide) rfl rfl (by decide) (by decide) at_162 (pc' := 165) rfl rfl ?_
    refine go_iloadN C at_165 (pc' := 166) rfl rfl ?_
    refine go_icmp C x0.toInt x0.toInt rfl rfl at_166 (by decide) (pc' := 173) (by decide) (pcN := 169) rfl (fun (c_189 : ¬ x0.toInt = x0.toInt) => by omega) (fun (c_189 : x0.toInt = x0.toInt) => ?_)
    refine go_iconst C (1 : Int32) at_169 (pc' := 170) rfl (by decide) ?_
    refine go_goto C at_170 (by decide) (pc' := 174) (by decide) ?_
    refine go_istore C (Ls' := #[.val (.int x0), .val (.int x1), .val (.int x2), .val (.int x3), .val (.int x4), .val (.int x5), .val (.int (3 : Int32)), .val (.ref a_134), .val (.int x2), .val (.int x2), .val (.int (1 : Int32)), .val (.int x1), .unset]) at_174 (pc' := 176) rfl rfl ?_
    refine go_aload C at_176 (pc' := 178) rfl rfl rfl ?_
    refine go_virtualV C (as := []) (rest := []) (W := 0) (sat_rem l Z a0 hw a_134 r_145 (2 : Int32) x1 1 [.int x0, .int x1, .int x2, .int (0 : Int32), .int (0 : Int32), .int (0 : Int32), .int (0 : Int32), .int (0 : Int32)] _ _ E_179 F_180 F_181 A_182 g_139 (by decide) rfl) E_179 (wd hw 19 rfl) (wd hw 20 rfl) (wd hw 22 rfl) (wd hw 21 rfl) (wd hw 2 rfl) (wd hw 23 rfl) (by decide) pd_3 rfl rfl rfl (by decide) (by decide) (ce' := 2) (sl' := 10) rfl rfl (by decide) (by decide) at_178 (pc' := 181) rfl rfl ?_
    intro r_190 h_191 q_192
    rw [(by decide : (2 : Int32) - 1 = (1 : Int32))] at q_192
    obtain ⟨rfl, E_193, F_194, F_195, A_196⟩ := q_192
    refine go_istore C (Ls' := #[.val (.int x0), .val (.int x1), .val (.int x2), .val (.int x3), .val (.int x4), .val (.int x5), .val (.int (3 : Int32)), .val (.ref a_134), .val (.int x2), .val (.int x2), .val (.int (1 : Int32)), .val (.int x1), .val (.int x1)]) at_181 (pc' := 183) rfl rfl ?_
    refine go_iload C at_183 (pc' := 185) rfl rfl ?_
    refine go_if0 C (1 : Int) (by decide) at_185 (by decide) (pc' := 211) (by decide) (pcN := 188) rfl (fun (c_197 : (1 : Int) = 0) => by omega) (fun (c_197 : ¬ (1 : Int) = 0) => ?_)
    refine go_iload C at_188 (pc' := 190) rfl rfl ?_
    refine go_iload C at_190 (pc' := 192) rfl rfl ?_
    refine go_icmp C x1.toInt x1.toInt rfl rfl at_192 (by decide) (pc' := 211) (by decide) (pcN := 195) rfl (fun (c_198 : ¬ x1.toInt = x1.toInt) => by omega) (fun (c_198 : x1.toInt = x1.toInt) => ?_)
    refine go_aload C at_195 (pc' := 197) rfl rfl rfl ?_
    refine go_virtualP C (as := []) (rest := []) (W := 0) (.int (1 : Int32)) (sat_size l Z a0 hw a_134 _ _ _ F_195) E_193 (wd hw 24 rfl) (wd hw 25 rfl) (wd hw 27 rfl) (wd hw 26 rfl) (wd hw 2 rfl) (wd hw 28 rfl) (by decide) pd_3 rfl rfl rfl (by decide) (by decide) rfl rfl (by decide) (by decide) at_197 (pc' := 200) rfl rfl ?_
    refine go_iload C at_200 (pc' := 202) rfl rfl ?_
    refine go_iconst C (2 : Int32) at_202 (pc' := 203) rfl (by decide) ?_
    refine go_isub C at_203 (pc' := 204) rfl ?_
    rw [(by decide : (3 : Int32) - (2 : Int32) = (1 : Int32))]
    refine go_icmp C (1 : Int) (1 : Int) (by decide) (by decide) at_204 (by decide) (pc' := 211) (by decide) (pcN := 207) rfl (fun (c_199 : ¬ (1 : Int) = (1 : Int)) => by omega) (fun (c_199 : (1 : Int) = (1 : Int)) => ?_)
    refine go_iconst C (1 : Int32) at_207 (pc' := 208) rfl (by decide) ?_
    refine go_goto C at_208 (by decide) (pc' := 212) (by decide) ?_
    refine go_istore C (Ls' := #[.val (.int x0), .val (.int x1), .val (.int x2), .val (.int x3), .val (.int x4), .val (.int x5), .val (.int (3 : Int32)), .val (.ref a_134), .val (.int x2), .val (.int x2), .val (.int (1 : Int32)), .val (.int x1), .val (.int x1)]) at_212 (pc' := 214) rfl rfl ?_
    refine go_aload C at_214 (pc' := 216) rfl rfl rfl ?_
    refine go_iload C at_216 (pc' := 218) rfl rfl ?_
    refine go_virtualN C (as := [.int x4]) (rest := []) (W := 0) (sat_add l Z a0 hw a_134 r_145 x4 (1 : Int32) (8 : Int32) 1 [.int x0, .int x1, .int x2, .int (0 : Int32), .int (0 : Int32), .int (0 : Int32), .int (0 : Int32), .int (0 : Int32)] [.int x0, .int x4, .int x2, .int (0 : Int32), .int (0 : Int32), .int (0 : Int32), .int (0 : Int32), .int (0 : Int32)] _ _ E_193 F_194 F_195 A_196 g_139 g_146 (by decide) (show 1 < 8 from by decide) rfl rfl) E_193 (wd hw 12 rfl) (wd hw 13 rfl) (wd hw 15 rfl) (wd hw 14 rfl) (wd hw 2 rfl) (wd hw 16 rfl) (by decide) pd_2 rfl rfl rfl (by decide) (by decide) (ce' := 2) (sl' := 10) rfl rfl (by decide) (by decide) at_218 (pc' := 221) rfl rfl ?_
    intro h_200 q_201
    rw [(by decide : (1 : Int32) + 1 = (2 : Int32))] at q_201
    obtain ⟨E_202, F_203, F_204, A_205⟩ := q_201
    refine go_aload C at_221 (pc' := 223) rfl rfl rfl ?_
    refine go_virtualV C (as := []) (rest := []) (W := 0) (sat_rem l Z a0 hw a_134 r_145 (2 : Int32) x4 1 [.int x0, .int x4, .int x2, .int (0 : Int32), .int (0 : Int32), .int (0 : Int32), .int (0 : Int32), .int (0 : Int32)] _ _ E_202 F_203 F_204 A_205 g_139 (by decide) rfl) E_202 (wd hw 19 rfl) (wd hw 20 rfl) (wd hw 22 rfl) (wd hw 21 rfl) (wd hw 2 rfl) (wd hw 23 rfl) (by decide) pd_3 rfl rfl rfl (by decide) (by decide) (ce' := 2) (sl' := 10) rfl rfl (by decide) (by decide) at_223 (pc' := 226) rfl rfl ?_
    intro r_206 h_207 q_208
    rw [(by decide : (2 : Int32) - 1 = (1 : Int32))] at q_208
    obtain ⟨rfl, E_209, F_210, F_211, A_212⟩ := q_208
    refine go_istore C (Ls' := #[.val (.int x0), .val (.int x1), .val (.int x2), .val (.int x3), .val (.int x4), .val (.int x5), .val (.int (3 : Int32)), .val (.ref a_134), .val (.int x2), .val (.int x2), .val (.int (1 : Int32)), .val (.int x4), .val (.int x1)]) at_226 (pc' := 228) rfl rfl ?_
    refine go_iload C at_228 (pc' := 230) rfl rfl ?_
    refine go_iconst C (1 : Int32) at_230 (pc' := 231) rfl (by decide) ?_
    refine go_icmp C (3 : Int) (1 : Int) (by decide) (by decide) at_231 (by decide) (pc' := 241) (by decide) (pcN := 234) rfl (fun (c_213 : ¬ (1 : Int) < (3 : Int)) => by omega) (fun (c_213 : (1 : Int) < (3 : Int)) => ?_)
    refine go_iload C at_234 (pc' := 236) rfl rfl ?_
    refine go_iconst C (2 : Int32) at_236 (pc' := 237) rfl (by decide) ?_
    refine go_isub C at_237 (pc' := 238) rfl ?_
    rw [(by decide : (3 : Int32) - (2 : Int32) = (1 : Int32))]
    refine go_goto C at_238 (by decide) (pc' := 242) (by decide) ?_
    refine go_istore C (Ls' := #[.val (.int x0), .val (.int x1), .val (.int x2), .val (.int x3), .val (.int x4), .val (.int x5), .val (.int (3 : Int32)), .val (.ref a_134), .val (.int x2), .val (.int x2), .val (.int (1 : Int32)), .val (.int x4), .val (.int (1 : Int32))]) at_242 (pc' := 244) rfl rfl ?_
    refine go_iload C at_244 (pc' := 246) rfl rfl ?_
    refine go_if0 C (1 : Int) (by decide) at_246 (by decide) (pc' := 270) (by decide) (pcN := 249) rfl (fun (c_214 : (1 : Int) = 0) => by omega) (fun (c_214 : ¬ (1 : Int) = 0) => ?_)
    refine go_iload C at_249 (pc' := 251) rfl rfl ?_
    refine go_iload C at_251 (pc' := 253) rfl rfl ?_
    refine go_icmp C x4.toInt x4.toInt rfl rfl at_253 (by decide) (pc' := 270) (by decide) (pcN := 256) rfl (fun (c_215 : ¬ x4.toInt = x4.toInt) => by omega) (fun (c_215 : x4.toInt = x4.toInt) => ?_)
    refine go_aload C at_256 (pc' := 258) rfl rfl rfl ?_
    refine go_virtualP C (as := []) (rest := []) (W := 0) (.int (1 : Int32)) (sat_size l Z a0 hw a_134 _ _ _ F_211) E_209 (wd hw 24 rfl) (wd hw 25 rfl) (wd hw 27 rfl) (wd hw 26 rfl) (wd hw 2 rfl) (wd hw 28 rfl) (by decide) pd_3 rfl rfl rfl (by decide) (by decide) rfl rfl (by decide) (by decide) at_258 (pc' := 261) rfl rfl ?_
    refine go_iload C at_261 (pc' := 263) rfl rfl ?_
    refine go_icmp C (1 : Int) (1 : Int) (by decide) (by decide) at_263 (by decide) (pc' := 270) (by decide) (pcN := 266) rfl (fun (c_216 : ¬ (1 : Int) = (1 : Int)) => by omega) (fun (c_216 : (1 : Int) = (1 : Int)) => ?_)
    refine go_iconst C (1 : Int32) at_266 (pc' := 267) rfl (by decide) ?_
    refine go_goto C at_267 (by decide) (pc' := 271) (by decide) ?_
    refine go_istore C (Ls' := #[.val (.int x0), .val (.int x1), .val (.int x2), .val (.int x3), .val (.int x4), .val (.int x5), .val (.int (3 : Int32)), .val (.ref a_134), .val (.int x2), .val (.int x2), .val (.int (1 : Int32)), .val (.int x4), .val (.int (1 : Int32))]) at_271 (pc' := 273) rfl rfl ?_
    refine go_iload C at_273 (pc' := 275) rfl rfl ?_
    refine go_ireturnN C (z' := (1 : Int32)) rfl (by simp) rfl at_275 (by decide) (by decide) ?_
    exact ⟨_, rfl, rfl⟩
  · rw [hn]
    refine go_new C (wd hw 0 rfl) (wd hw 1 rfl) (wd hw 2 rfl) at_8 (pc' := 11) rfl (ce' := 1) (sl' := 2) rfl rfl (by decide) (by decide) ?_
    intro h_217 a_218 g_219 E_220 E_221 D_222
    have g_223 : Z.heap.size ≤ a_218 := own_ge (Nat.le_refl _) g_219
    have z_224 : Z.heap.size ≤ h_217.size := Nat.le_trans (Nat.le_refl _) E_220.1
    have F_225 : Fld Z h_217 a_218 "com/example/inevitable_path/inevitablepath/smv/IntList" "values" "[I" (.null) := D_222 (Or.inl (wd hw 11 rfl)) (ty := (.array .int)) (by decide)
    have F_226 : Fld Z h_217 a_218 "com/example/inevitable_path/inevitablepath/smv/IntList" "size" "I" (.int (0 : Int32)) := D_222 (Or.inl (wd hw 18 rfl)) (ty := .int) (by decide)
    refine go_dup C at_11 (pc' := 12) rfl rfl ?_
    refine go_specialN C (as := []) (rest := [.ref a_218]) (W := 1) (sat_init l Z a0 hw a_218 _ _ E_221 F_225 F_226 g_223 z_224) rfl (wd hw 3 rfl) (wd hw 4 rfl) (wd hw 2 rfl) (wd hw 5 rfl) (by decide) pd_1 rfl rfl rfl (by decide) (by decide) (ce' := 2) (sl' := 10) rfl rfl (by decide) (by decide) at_12 (pc' := 15) rfl rfl ?_
    intro h_227 q_228
    obtain ⟨r_229, g_230, E_231, F_232, F_233, A_234⟩ := q_228
    have A_235 : Av Z h_227 r_229 .int [.int (0 : Int32), .int (0 : Int32), .int (0 : Int32), .int (0 : Int32), .int (0 : Int32), .int (0 : Int32), .int (0 : Int32), .int (0 : Int32)] := A_234
    refine go_astore C (Ls' := #[.val (.int x0), .val (.int x1), .val (.int x2), .val (.int x3), .val (.int x4), .val (.int x5), .val (.int (4 : Int32)), .val (.ref a_218), .unset, .unset, .unset, .unset, .unset]) at_15 (pc' := 17) rfl rfl rfl ?_
    refine go_aload C at_17 (pc' := 19) rfl rfl rfl ?_
    refine go_iloadN C at_19 (pc' := 20) rfl rfl ?_
    refine go_virtualN C (as := [.int x0]) (rest := []) (W := 0) (sat_add l Z a0 hw a_218 r_229 x0 (0 : Int32) (8 : Int32) 0 [.int (0 : Int32), .int (0 : Int32), .int (0 : Int32), .int (0 : Int32), .int (0 : Int32), .int (0 : Int32), .int (0 : Int32), .int (0 : Int32)] [.int x0, .int (0 : Int32), .int (0 : Int32), .int (0 : Int32), .int (0 : Int32), .int (0 : Int32), .int (0 : Int32), .int (0 : Int32)] _ _ E_231 F_232 F_233 A_235 g_223 g_230 (by decide) (show 0 < 8 from by decide) rfl rfl) E_231 (wd hw 12 rfl) (wd hw 13 rfl) (wd hw 15 rfl) (wd hw 14 rfl) (wd hw 2 rfl) (wd hw 16 rfl) (by decide) pd_2 rfl rfl rfl (by decide) (by decide) (ce' := 2) (sl' := 10) rfl rfl (by decide) (by decide) at_20 (pc' := 23) rfl rfl ?_
    intro h_236 q_237
    rw [(by decide : (0 : Int32) + 1 = (1 : Int32))] at q_237
    obtain ⟨E_238, F_239, F_240, A_241⟩ := q_237
    refine go_iload C at_23 (pc' := 25) rfl rfl ?_
    refine go_iconst C (1 : Int32) at_25 (pc' := 26) rfl (by decide) ?_
    refine go_icmp C (4 : Int) (1 : Int) (by decide) (by decide) at_26 (by decide) (pc' := 35) (by decide) (pcN := 29) rfl (fun (c_242 : ¬ (1 : Int) < (4 : Int)) => by omega) (fun (c_242 : (1 : Int) < (4 : Int)) => ?_)
    refine go_aload C at_29 (pc' := 31) rfl rfl rfl ?_
    refine go_iloadN C at_31 (pc' := 32) rfl rfl ?_
    refine go_virtualN C (as := [.int x1]) (rest := []) (W := 0) (sat_add l Z a0 hw a_218 r_229 x1 (1 : Int32) (8 : Int32) 1 [.int x0, .int (0 : Int32), .int (0 : Int32), .int (0 : Int32), .int (0 : Int32), .int (0 : Int32), .int (0 : Int32), .int (0 : Int32)] [.int x0, .int x1, .int (0 : Int32), .int (0 : Int32), .int (0 : Int32), .int (0 : Int32), .int (0 : Int32), .int (0 : Int32)] _ _ E_238 F_239 F_240 A_241 g_223 g_230 (by decide) (show 1 < 8 from by decide) rfl rfl) E_238 (wd hw 12 rfl) (wd hw 13 rfl) (wd hw 15 rfl) (wd hw 14 rfl) (wd hw 2 rfl) (wd hw 16 rfl) (by decide) pd_2 rfl rfl rfl (by decide) (by decide) (ce' := 2) (sl' := 10) rfl rfl (by decide) (by decide) at_32 (pc' := 35) rfl rfl ?_
    intro h_243 q_244
    rw [(by decide : (1 : Int32) + 1 = (2 : Int32))] at q_244
    obtain ⟨E_245, F_246, F_247, A_248⟩ := q_244
    refine go_iload C at_35 (pc' := 37) rfl rfl ?_
    refine go_iconst C (2 : Int32) at_37 (pc' := 38) rfl (by decide) ?_
    refine go_icmp C (4 : Int) (2 : Int) (by decide) (by decide) at_38 (by decide) (pc' := 47) (by decide) (pcN := 41) rfl (fun (c_249 : ¬ (2 : Int) < (4 : Int)) => by omega) (fun (c_249 : (2 : Int) < (4 : Int)) => ?_)
    refine go_aload C at_41 (pc' := 43) rfl rfl rfl ?_
    refine go_iloadN C at_43 (pc' := 44) rfl rfl ?_
    refine go_virtualN C (as := [.int x2]) (rest := []) (W := 0) (sat_add l Z a0 hw a_218 r_229 x2 (2 : Int32) (8 : Int32) 2 [.int x0, .int x1, .int (0 : Int32), .int (0 : Int32), .int (0 : Int32), .int (0 : Int32), .int (0 : Int32), .int (0 : Int32)] [.int x0, .int x1, .int x2, .int (0 : Int32), .int (0 : Int32), .int (0 : Int32), .int (0 : Int32), .int (0 : Int32)] _ _ E_245 F_246 F_247 A_248 g_223 g_230 (by decide) (show 2 < 8 from by decide) rfl rfl) E_245 (wd hw 12 rfl) (wd hw 13 rfl) (wd hw 15 rfl) (wd hw 14 rfl) (wd hw 2 rfl) (wd hw 16 rfl) (by decide) pd_2 rfl rfl rfl (by decide) (by decide) (ce' := 2) (sl' := 10) rfl rfl (by decide) (by decide) at_44 (pc' := 47) rfl rfl ?_
    intro h_250 q_251
    rw [(by decide : (2 : Int32) + 1 = (3 : Int32))] at q_251
    obtain ⟨E_252, F_253, F_254, A_255⟩ := q_251
    refine go_iload C at_47 (pc' := 49) rfl rfl ?_
    refine go_iconst C (3 : Int32) at_49 (pc' := 50) rfl (by decide) ?_
    refine go_icmp C (4 : Int) (3 : Int) (by decide) (by decide) at_50 (by decide) (pc' := 59) (by decide) (pcN := 53) rfl (fun (c_256 : ¬ (3 : Int) < (4 : Int)) => by omega) (fun (c_256 : (3 : Int) < (4 : Int)) => ?_)
    refine go_aload C at_53 (pc' := 55) rfl rfl rfl ?_
    refine go_iloadN C at_55 (pc' := 56) rfl rfl ?_
    refine go_virtualN C (as := [.int x3]) (rest := []) (W := 0) (sat_add l Z a0 hw a_218 r_229 x3 (3 : Int32) (8 : Int32) 3 [.int x0, .int x1, .int x2, .int (0 : Int32), .int (0 : Int32), .int (0 : Int32), .int (0 : Int32), .int (0 : Int32)] [.int x0, .int x1, .int x2, .int x3, .int (0 : Int32), .int (0 : Int32), .int (0 : Int32), .int (0 : Int32)] _ _ E_252 F_253 F_254 A_255 g_223 g_230 (by decide) (show 3 < 8 from by decide) rfl rfl) E_252 (wd hw 12 rfl) (wd hw 13 rfl) (wd hw 15 rfl) (wd hw 14 rfl) (wd hw 2 rfl) (wd hw 16 rfl) (by decide) pd_2 rfl rfl rfl (by decide) (by decide) (ce' := 2) (sl' := 10) rfl rfl (by decide) (by decide) at_56 (pc' := 59) rfl rfl ?_
    intro h_257 q_258
    rw [(by decide : (3 : Int32) + 1 = (4 : Int32))] at q_258
    obtain ⟨E_259, F_260, F_261, A_262⟩ := q_258
    refine go_iload C at_59 (pc' := 61) rfl rfl ?_
    refine go_iconst C (1 : Int32) at_61 (pc' := 62) rfl (by decide) ?_
    refine go_icmp C (4 : Int) (1 : Int) (by decide) (by decide) at_62 (by decide) (pc' := 69) (by decide) (pcN := 65) rfl (fun (c_263 : ¬ (4 : Int) = (1 : Int)) => ?_) (fun (c_263 : (4 : Int) = (1 : Int)) => by omega)
    refine go_iload C at_69 (pc' := 71) rfl rfl ?_
    refine go_iconst C (2 : Int32) at_71 (pc' := 72) rfl (by decide) ?_
    refine go_icmp C (4 : Int) (2 : Int) (by decide) (by decide) at_72 (by decide) (pc' := 79) (by decide) (pcN := 75) rfl (fun (c_264 : ¬ (4 : Int) = (2 : Int)) => ?_) (fun (c_264 : (4 : Int) = (2 : Int)) => by omega)
    refine go_iload C at_79 (pc' := 81) rfl rfl ?_
    refine go_iconst C (3 : Int32) at_81 (pc' := 82) rfl (by decide) ?_
    refine go_icmp C (4 : Int) (3 : Int) (by decide) (by decide) at_82 (by decide) (pc' := 89) (by decide) (pcN := 85) rfl (fun (c_265 : ¬ (4 : Int) = (3 : Int)) => ?_) (fun (c_265 : (4 : Int) = (3 : Int)) => by omega)
    refine go_iloadN C at_89 (pc' := 90) rfl rfl ?_
    refine go_istore C (Ls' := #[.val (.int x0), .val (.int x1), .val (.int x2), .val (.int x3), .val (.int x4), .val (.int x5), .val (.int (4 : Int32)), .val (.ref a_218), .val (.int x3), .unset, .unset, .unset, .unset]) at_90 (pc' := 92) rfl rfl ?_
    refine go_aload C at_92 (pc' := 94) rfl rfl rfl ?_
    refine go_virtualV C (as := []) (rest := []) (W := 0) (sat_rem l Z a0 hw a_218 r_229 (4 : Int32) x3 3 [.int x0, .int x1, .int x2, .int x3, .int (0 : Int32), .int (0 : Int32), .int (0 : Int32), .int (0 : Int32)] _ _ E_259 F_260 F_261 A_262 g_223 (by decide) rfl) E_259 (wd hw 19 rfl) (wd hw 20 rfl) (wd hw 22 rfl) (wd hw 21 rfl) (wd hw 2 rfl) (wd hw 23 rfl) (by decide) pd_3 rfl rfl rfl (by decide) (by decide) (ce' := 2) (sl' := 10) rfl rfl (by decide) (by decide) at_94 (pc' := 97) rfl rfl ?_
    intro r_266 h_267 q_268
    rw [(by decide : (4 : Int32) - 1 = (3 : Int32))] at q_268
    obtain ⟨rfl, E_269, F_270, F_271, A_272⟩ := q_268
    refine go_istore C (Ls' := #[.val (.int x0), .val (.int x1), .val (.int x2), .val (.int x3), .val (.int x4), .val (.int x5), .val (.int (4 : Int32)), .val (.ref a_218), .val (.int x3), .val (.int x3), .unset, .unset, .unset]) at_97 (pc' := 99) rfl rfl ?_
    refine go_iload C at_99 (pc' := 101) rfl rfl ?_
    refine go_iload C at_101 (pc' := 103) rfl rfl ?_
    refine go_icmp C x3.toInt x3.toInt rfl rfl at_103 (by decide) (pc' := 122) (by decide) (pcN := 106) rfl (fun (c_273 : ¬ x3.toInt = x3.toInt) => by omega) (fun (c_273 : x3.toInt = x3.toInt) => ?_)
    refine go_aload C at_106 (pc' := 108) rfl rfl rfl ?_
    refine go_virtualP C (as := []) (rest := []) (W := 0) (.int (3 : Int32)) (sat_size l Z a0 hw a_218 _ _ _ F_271) E_269 (wd hw 24 rfl) (wd hw 25 rfl) (wd hw 27 rfl) (wd hw 26 rfl) (wd hw 2 rfl) (wd hw 28 rfl) (by decide) pd_3 rfl rfl rfl (by decide) (by decide) rfl rfl (by decide) (by decide) at_108 (pc' := 111) rfl rfl ?_
    refine go_iload C at_111 (pc' := 113) rfl rfl ?_
    refine go_iconst C (1 : Int32) at_113 (pc' := 114) rfl (by decide) ?_
    refine go_isub C at_114 (pc' := 115) rfl ?_
    rw [(by decide : (4 : Int32) - (1 : Int32) = (3 : Int32))]
    refine go_icmp C (3 : Int) (3 : Int) (by decide) (by decide) at_115 (by decide) (pc' := 122) (by decide) (pcN := 118) rfl (fun (c_274 : ¬ (3 : Int) = (3 : Int)) => by omega) (fun (c_274 : (3 : Int) = (3 : Int)) => ?_)
    refine go_iconst C (1 : Int32) at_118 (pc' := 119) rfl (by decide) ?_
    refine go_goto C at_119 (by decide) (pc' := 123) (by decide) ?_
    refine go_istore C (Ls' := #[.val (.int x0), .val (.int x1), .val (.int x2), .val (.int x3), .val (.int x4), .val (.int x5), .val (.int (4 : Int32)), .val (.ref a_218), .val (.int x3), .val (.int x3), .val (.int (1 : Int32)), .unset, .unset]) at_123 (pc' := 125) rfl rfl ?_
    refine go_iload C at_125 (pc' := 127) rfl rfl ?_
    refine go_iconst C (1 : Int32) at_127 (pc' := 128) rfl (by decide) ?_
    refine go_icmp C (4 : Int) (1 : Int) (by decide) (by decide) at_128 (by decide) (pc' := 214) (by decide) (pcN := 131) rfl (fun (c_275 : ¬ (1 : Int) < (4 : Int)) => by omega) (fun (c_275 : (1 : Int) < (4 : Int)) => ?_)
    refine go_iload C at_131 (pc' := 133) rfl rfl ?_
    refine go_iconst C (2 : Int32) at_133 (pc' := 134) rfl (by decide) ?_
    refine go_icmp C (4 : Int) (2 : Int) (by decide) (by decide) at_134 (by decide) (pc' := 141) (by decide) (pcN := 137) rfl (fun (c_276 : ¬ (4 : Int) = (2 : Int)) => ?_) (fun (c_276 : (4 : Int) = (2 : Int)) => by omega)
    refine go_iload C at_141 (pc' := 143) rfl rfl ?_
    refine go_iconst C (3 : Int32) at_143 (pc' := 144) rfl (by decide) ?_
    refine go_icmp C (4 : Int) (3 : Int) (by decide) (by decide) at_144 (by decide) (pc' := 151) (by decide) (pcN := 147) rfl (fun (c_277 : ¬ (4 : Int) = (3 : Int)) => ?_) (fun (c_277 : (4 : Int) = (3 : Int)) => by omega)
    refine go_iloadN C at_151 (pc' := 152) rfl rfl ?_
    refine go_istore C (Ls' := #[.val (.int x0), .val (.int x1), .val (.int x2), .val (.int x3), .val (.int x4), .val (.int x5), .val (.int (4 : Int32)), .val (.ref a_218), .val (.int x3), .val (.int x3), .val (.int (1 : Int32)), .val (.int x2), .unset]) at_152 (pc' := 154) rfl rfl ?_
    refine go_iload C at_154 (pc' := 156) rfl rfl ?_
    refine go_if0 C (1 : Int) (by decide) at_156 (by decide) (pc' := 173) (by decide) (pcN := 159) rfl (fun (c_278 : (1 : Int) = 0) => by omega) (fun (c_278 : ¬ (1 : Int) = 0) => ?_)
    refine go_aload C at_159 (pc' := 161) rfl rfl rfl ?_
    refine go_iconst C (0 : Int32) at_161 (pc' := 162) rfl (by decide) ?_
    refine go_virtualP C (as := [.int (0 : Int32)]) (rest := []) (W := 0) (.int x0) (sat_get l Z a0 hw a_218 r_229 (0 : Int32) x0 0 [.int x0, .int x1, .int x2, .int x3, .int (0 : Int32), .int (0 : Int32), .int (0 : Int32), .int (0 : Int32)] _ _ F_270 A_272 (by decide) rfl) E_269 (wd hw 29 rfl) (wd hw 30 rfl) (wd hw 32 rfl) (wd hw 31 rfl) (wd hw 2 rfl) (wd hw 33 rfl) (by decide) pd_4 rfl rfl rfl (by decide) (by decide) rfl rfl (by decide) (by decide) at_162 (pc' := 165) rfl rfl ?_
    refine go_iloadN C at_165 (pc' := 166) rfl rfl ?_
    refine go_icmp C x0.toInt x0.toInt rfl rfl at_166 (by decide) (pc' := 173) (by decide) (pcN := 169) rfl (fun (c_279 : ¬ x0.toInt = x0.toInt) => by omega) (fun (c_279 : x0.toInt = x0.toInt) => ?_)
    refine go_iconst C (1 : Int32) at_169 (pc' := 170) rfl (by decide) ?_
    refine go_goto C at_170 (by decide) (pc' := 174) (by decide) ?_
    refine go_istore C (Ls' := #[.val (.int x0), .val (.int x1), .val (.int x2), .val (.int x3), .val (.int x4), .val (.int x5), .val (.int (4 : Int32)), .val (.ref a_218), .val (.int x3), .val (.int x3), .val (.int (1 : Int32)), .val (.int x2), .unset]) at_174 (pc' := 176) rfl rfl ?_
    refine go_aload C at_176 (pc' := 178) rfl rfl rfl ?_
    refine go_virtualV C (as := []) (rest := []) (W := 0) (sat_rem l Z a0 hw a_218 r_229 (3 : Int32) x2 2 [.int x0, .int x1, .int x2, .int x3, .int (0 : Int32), .int (0 : Int32), .int (0 : Int32), .int (0 : Int32)] _ _ E_269 F_270 F_271 A_272 g_223 (by decide) rfl) E_269 (wd hw 19 rfl) (wd hw 20 rfl) (wd hw 22 rfl) (wd hw 21 rfl) (wd hw 2 rfl) (wd hw 23 rfl) (by decide) pd_3 rfl rfl rfl (by decide) (by decide) (ce' := 2) (sl' := 10) rfl rfl (by decide) (by decide) at_178 (pc' := 181) rfl rfl ?_
    intro r_280 h_281 q_282
    rw [(by decide : (3 : Int32) - 1 = (2 : Int32))] at q_282
    obtain ⟨rfl, E_283, F_284, F_285, A_286⟩ := q_282
    refine go_istore C (Ls' := #[.val (.int x0), .val (.int x1), .val (.int x2), .val (.int x3), .val (.int x4), .val (.int x5), .val (.int (4 : Int32)), .val (.ref a_218), .val (.int x3), .val (.int x3), .val (.int (1 : Int32)), .val (.int x2), .val (.int x2)]) at_181 (pc' := 183) rfl rfl ?_
    refine go_iload C at_183 (pc' := 185) rfl rfl ?_
    refine go_if0 C (1 : Int) (by decide) at_185 (by decide) (pc' := 211) (by decide) (pcN := 188) rfl (fun (c_287 : (1 : Int) = 0) => by omega) (fun (c_287 : ¬ (1 : Int) = 0) => ?_)
    refine go_iload C at_188 (pc' := 190) rfl rfl ?_
    refine go_iload C at_190 (pc' := 192) rfl rfl ?_
    refine go_icmp C x2.toInt x2.toInt rfl rfl at_192 (by decide) (pc' := 211) (by decide) (pcN := 195) rfl (fun (c_288 : ¬ x2.toInt = x2.toInt) => by omega) (fun (c_288 : x2.toInt = x2.toInt) => ?_)
    refine go_aload C at_195 (pc' := 197) rfl rfl rfl ?_
    refine go_virtualP C (as := []) (rest := []) (W := 0) (.int (2 : Int32)) (sat_size l Z a0 hw a_218 _ _ _ F_285) E_283 (wd hw 24 rfl) (wd hw 25 rfl) (wd hw 27 rfl) (wd hw 26 rfl) (wd hw 2 rfl) (wd hw 28 rfl) (by decide) pd_3 rfl rfl rfl (by decide) (by decide) rfl rfl (by decide) (by decide) at_197 (pc' := 200) rfl rfl ?_
    refine go_iload C at_200 (pc' := 202) rfl rfl ?_
    refine go_iconst C (2 : Int32) at_202 (pc' := 203) rfl (by decide) ?_
    refine go_isub C at_203 (pc' := 204) rfl ?_
    rw [(by decide : (4 : Int32) - (2 : Int32) = (2 : Int32))]
    refine go_icmp C (2 : Int) (2 : Int) (by decide) (by decide) at_204 (by decide) (pc' := 211) (by decide) (pcN := 207) rfl (fun (c_289 : ¬ (2 : Int) = (2 : Int)) => by omega) (fun (c_289 : (2 : Int) = (2 : Int)) => ?_)
    refine go_iconst C (1 : Int32) at_207 (pc' := 208) rfl (by decide) ?_
    refine go_goto C at_208 (by decide) (pc' := 212) (by decide) ?_
    refine go_istore C (Ls' := #[.val (.int x0), .val (.int x1), .val (.int x2), .val (.int x3), .val (.int x4), .val (.int x5), .val (.int (4 : Int32)), .val (.ref a_218), .val (.int x3), .val (.int x3), .val (.int (1 : Int32)), .val (.int x2), .val (.int x2)]) at_212 (pc' := 214) rfl rfl ?_
    refine go_aload C at_214 (pc' := 216) rfl rfl rfl ?_
    refine go_iload C at_216 (pc' := 218) rfl rfl ?_
    refine go_virtualN C (as := [.int x4]) (rest := []) (W := 0) (sat_add l Z a0 hw a_218 r_229 x4 (2 : Int32) (8 : Int32) 2 [.int x0, .int x1, .int x2, .int x3, .int (0 : Int32), .int (0 : Int32), .int (0 : Int32), .int (0 : Int32)] [.int x0, .int x1, .int x4, .int x3, .int (0 : Int32), .int (0 : Int32), .int (0 : Int32), .int (0 : Int32)] _ _ E_283 F_284 F_285 A_286 g_223 g_230 (by decide) (show 2 < 8 from by decide) rfl rfl) E_283 (wd hw 12 rfl) (wd hw 13 rfl) (wd hw 15 rfl) (wd hw 14 rfl) (wd hw 2 rfl) (wd hw 16 rfl) (by decide) pd_2 rfl rfl rfl (by decide) (by decide) (ce' := 2) (sl' := 10) rfl rfl (by decide) (by decide) at_218 (pc' := 221) rfl rfl ?_
    intro h_290 q_291
    rw [(by decide : (2 : Int32) + 1 = (3 : Int32))] at q_291
    obtain ⟨E_292, F_293, F_294, A_295⟩ := q_291
    refine go_aload C at_221 (pc' := 223) rfl rfl rfl ?_
    refine go_virtualV C (as := []) (rest := []) (W := 0) (sat_rem l Z a0 hw a_218 r_229 (3 : Int32) x4 2 [.int x0, .int x1, .int x4, .int x3, .int (0 : Int32), .int (0 : Int32), .int (0 : Int32), .int (0 : Int32)] _ _ E_292 F_293 F_294 A_295 g_223 (by decide) rfl) E_292 (wd hw 19 rfl) (wd hw 20 rfl) (wd hw 22 rfl) (wd hw 21 rfl) (wd hw 2 rfl) (wd hw 23 rfl) (by decide) pd_3 rfl rfl rfl (by decide) (by decide) (ce' := 2) (sl' := 10) rfl rfl (by decide) (by decide) at_223 (pc' := 226) rfl rfl ?_
    intro r_296 h_297 q_298
    rw [(by decide : (3 : Int32) - 1 = (2 : Int32))] at q_298
    obtain ⟨rfl, E_299, F_300, F_301, A_302⟩ := q_298
    refine go_istore C (Ls' := #[.val (.int x0), .val (.int x1), .val (.int x2), .val (.int x3), .val (.int x4), .val (.int x5), .val (.int (4 : Int32)), .val (.ref a_218), .val (.int x3), .val (.int x3), .val (.int (1 : Int32)), .val (.int x4), .val (.int x2)]) at_226 (pc' := 228) rfl rfl ?_
    refine go_iload C at_228 (pc' := 230) rfl rfl ?_
    refine go_iconst C (1 : Int32) at_230 (pc' := 231) rfl (by decide) ?_
    refine go_icmp C (4 : Int) (1 : Int) (by decide) (by decide) at_231 (by decide) (pc' := 241) (by decide) (pcN := 234) rfl (fun (c_303 : ¬ (1 : Int) < (4 : Int)) => by omega) (fun (c_303 : (1 : Int) < (4 : Int)) => ?_)
    refine go_iload C at_234 (pc' := 236) rfl rfl ?_
    refine go_iconst C (2 : Int32) at_236 (pc' := 237) rfl (by decide) ?_
    refine go_isub C at_237 (pc' := 238) rfl ?_
    rw [(by decide : (4 : Int32) - (2 : Int32) = (2 : Int32))]
    refine go_goto C at_238 (by decide) (pc' := 242) (by decide) ?_
    refine go_istore C (Ls' := #[.val (.int x0), .val (.int x1), .val (.int x2), .val (.int x3), .val (.int x4), .val (.int x5), .val (.int (4 : Int32)), .val (.ref a_218), .val (.int x3), .val (.int x3), .val (.int (1 : Int32)), .val (.int x4), .val (.int (2 : Int32))]) at_242 (pc' := 244) rfl rfl ?_
    refine go_iload C at_244 (pc' := 246) rfl rfl ?_
    refine go_if0 C (1 : Int) (by decide) at_246 (by decide) (pc' := 270) (by decide) (pcN := 249) rfl (fun (c_304 : (1 : Int) = 0) => by omega) (fun (c_304 : ¬ (1 : Int) = 0) => ?_)
    refine go_iload C at_249 (pc' := 251) rfl rfl ?_
    refine go_iload C at_251 (pc' := 253) rfl rfl ?_
    refine go_icmp C x4.toInt x4.toInt rfl rfl at_253 (by decide) (pc' := 270) (by decide) (pcN := 256) rfl (fun (c_305 : ¬ x4.toInt = x4.toInt) => by omega) (fun (c_305 : x4.toInt = x4.toInt) => ?_)
    refine go_aload C at_256 (pc' := 258) rfl rfl rfl ?_
    refine go_virtualP C (as := []) (rest := []) (W := 0) (.int (2 : Int32)) (sat_size l Z a0 hw a_218 _ _ _ F_301) E_299 (wd hw 24 rfl) (wd hw 25 rfl) (wd hw 27 rfl) (wd hw 26 rfl) (wd hw 2 rfl) (wd hw 28 rfl) (by decide) pd_3 rfl rfl rfl (by decide) (by decide) rfl rfl (by decide) (by decide) at_258 (pc' := 261) rfl rfl ?_
    refine go_iload C at_261 (pc' := 263) rfl rfl ?_
    refine go_icmp C (2 : Int) (2 : Int) (by decide) (by decide) at_263 (by decide) (pc' := 270) (by decide) (pcN := 266) rfl (fun (c_306 : ¬ (2 : Int) = (2 : Int)) => by omega) (fun (c_306 : (2 : Int) = (2 : Int)) => ?_)
    refine go_iconst C (1 : Int32) at_266 (pc' := 267) rfl (by decide) ?_
    refine go_goto C at_267 (by decide) (pc' := 271) (by decide) ?_
    refine go_istore C (Ls' := #[.val (.int x0), .val (.int x1), .val (.int x2), .val (.int x3), .val (.int x4), .val (.int x5), .val (.int (4 : Int32)), .val (.ref a_218), .val (.int x3), .val (.int x3), .val (.int (1 : Int32)), .val (.int x4), .val (.int (2 : Int32))]) at_271 (pc' := 273) rfl rfl ?_
    refine go_iload C at_273 (pc' := 275) rfl rfl ?_
    refine go_ireturnN C (z' := (1 : Int32)) rfl (by simp) rfl at_275 (by decide) (by decide) ?_
    exact ⟨_, rfl, rfl⟩
set_option maxRecDepth 65536 in
set_option maxHeartbeats 40000000 in
theorem comes_1 {Post : Tables → Env → Array Value → State → Outcome → State → Prop} (hpost : ∀ tb e args s v u, (limb_1_1.after args s (.returned v) u = true ∧ limb_1_2.after args s (.returned v) u = true ∧ True) → FrameEnd s (.returned v) u (Jvm.fieldLocs frame_1_writes args s ++ Jvm.arrayLocs frame_1_arrays args s ++ Jvm.staticLocs frame_1_statics s) 16 128 → Post tb e args s (.returned v) u) :
    ArmFor flags0 classFile x code maxLocals ret World_1 tables_1 room_1 Calls_1 rest_1 Pre_1 Post := by
  intro l hfl _ _ p e ha hc hk s m args below hf hA hF happ hP
  obtain ⟨hcalls, hrest, hpre⟩ := hP
  obtain ⟨-, -, -, hnamed, -, -, -, hat⟩ := (Spec.applies_iff hf).mp happ
  obtain ⟨hg, hn⟩ := and_e (Cond.before_iff.mp (show (Jvm.Cond.and given_1 narrow_1).before args s = true from hpre))
  obtain ⟨k0, g0⟩ := and_e hg
  obtain ⟨k1, g1⟩ := and_e g0
  obtain ⟨k2, g2⟩ := and_e g1
  obtain ⟨k3, g3⟩ := and_e g2
  obtain ⟨k4, g4⟩ := and_e g3
  obtain ⟨k5, g5⟩ := and_e g4
  obtain ⟨w0, w1, w2, w3, w4, w5, rfl⟩ : ∃ w0 w1 w2 w3 w4 w5 : Value, args = #[w0, w1, w2, w3, w4, w5] := by
    have hs : args.size = 6 := by simpa [Cond.value, given_1] using k0
    obtain ⟨L⟩ := args
    match L, hs with
    | [w0, w1, w2, w3, w4, w5], _ => exact ⟨w0, w1, w2, w3, w4, w5, rfl⟩
  have hw := fun d (hd : d ∈ tables_1) => atoms_spec (ws := Jvm.Cond.code x code maxLocals ret :: tables_1) hat d (List.mem_cons_of_mem _ hd)
  obtain ⟨i0, e0⟩ := is_v k1
  obtain ⟨i1, e1⟩ := is_v k2
  obtain ⟨i2, e2⟩ := is_v k3
  obtain ⟨i3, e3⟩ := is_v k4
  obtain ⟨i4, e4⟩ := is_v k5
  obtain ⟨i5, e5⟩ := is_v g5
  obtain rfl : w0 = (.int i0) := Option.some.inj e0
  obtain rfl : w1 = (.int i1) := Option.some.inj e1
  obtain rfl : w2 = (.int i2) := Option.some.inj e2
  obtain rfl : w3 = (.int i3) := Option.some.inj e3
  obtain rfl : w4 = (.int i4) := Option.some.inj e4
  obtain rfl : w5 = (.int i5) := Option.some.inj e5
  obtain ⟨n, o, h1, h2, h3, _, L, rfl, ⟨⟨_, rfl, rfl⟩, N⟩, hq⟩ := law_sat l s _ hw i0 i1 i2 i3 i4 i5 tables_1 p e ha hc hk s m _ below hf ((Spec.applies_iff_loose hf).mp happ).1 ⟨rfl, State.Warmed39.refl s, rfl⟩ trivial
  refine ⟨n, _, h1, h2, h3, hpost _ _ _ _ _ _ ⟨Cond.after_iff.mpr rfl, Cond.after_iff.mpr (eq_i res_at (Term.int_eval (1)) rfl), trivial⟩ ⟨hq.1, hq.2.1, (hq.2.2.sift fun y hy => Or.inr (N y hy)).mono (by decide) (by decide)⟩⟩
theorem main_1_1 : Claimed_1_1 := comes_1 fun _ _ _ _ _ _ h hF => ⟨h.1, hF⟩
theorem main_1_2 : Claimed_1_2 := comes_1 fun _ _ _ _ _ _ h hF => ⟨h.2.1, hF⟩
end Jvm.Pilot.@@N@@
namespace Jvm.Pilot.@@N@@
open Jvm Jvm.ClassFile Sem Op Lib Jvm.Free Jvm.Stand Jvm.Pilot.@@N@@.Jvm.D
/-! MADE BY PROGRAM (witnessworld.py) out of the Statement's table words and the real class files: 9 classes; the members and pool entries that the words name. The judged class is class 1, her method 1. -/
namespace start1
open Jvm.ClassFile
def u (s : String) : CpInfo := .utf8 (stringToUtf16 s)
/-- a pool by its gaps: so many unusable entries, then the entry; so many at the end -/
def gap : Nat → List CpInfo → List CpInfo
  | 0, r => r
  | n + 1, r => .unusable :: gap n r
def poolList (es : List (Nat × CpInfo)) (last : Nat) : List CpInfo := es.foldr (fun e r => gap e.1 (e.2 :: r)) (gap last [])
def pool (es : List (Nat × CpInfo)) (last : Nat) : Array CpInfo := ⟨poolList es last⟩
def fileOf (pool : Array CpInfo) (this : Nat) (attrs : Array Attribute := #[]) (ms : Array MethodInfo := #[]) (fl : Nat := 33) (sup : Nat := 0) (ifs : Array Nat := #[]) (fds : Array FieldInfo := #[]) : ClassFile where
  minorVersion := 0
  majorVersion := 65
  constantPool := pool
  accessFlags := fl
  thisClass := this
  superClass := sup
  interfaces := ifs
  fields := fds
  methods := ms
  attributes := attrs
def plain (name : String) (sup : Option ClassId) : Class where
  name := name
  kind := .ordinary
  loader := none
  accessFlags := 33
  super := sup
  interfaces := #[]
  cf := none
  fields := #[]
  methods := #[]
  instanceTypes := #[]
  staticTypes := #[]
  resolved := #[]
  callSites := []
  init := .initialized
  statics := none
  mirror := none

def pool0 : Array CpInfo := pool [(5, u "<init>"), (0, u "()V"), (1, .class_ 10), (1, u "java/lang/Object")] 113

def k0c0 : Code := { maxStack := 0, maxLocals := 1, code := object_method_1_code, exceptionTable := #[], attributes := #[] }
def k0m0 : Method := { name := "<init>", desc := "()V", sig := { parameters := [], returnType := none }, accessFlags := 1, code := some k0c0 }
/-- java/lang/Object -/
def k0 : Class := { plain "java/lang/Object" none with
  accessFlags := 33
  interfaces := #[]
  cf := some (fileOf pool0 8 #[] #[{ accessFlags := 1, nameIndex := 5, descriptorIndex := 6, attributes := #[] }] 33 0 #[] #[])
  fields := #[]
  methods := #[k0m0]
  instanceTypes := #[]
  staticTypes := #[]
  resolved := Array.replicate 124 none
  statics := none }

def pool1 : Array CpInfo := pool [(2, .class_ 4), (0, .nameAndType 5 6), (0, u "java/lang/Object"), (0, u "<init>"), (0, u "()V"), (0, .class_ 8), (0, u "com/example/inevitable_path/inevitablepath/smv/IntList"), (0, .methodref 7 3), (0, .methodref 7 11), (0, .nameAndType 12 13), (0, u "add"), (0, u "(I)V"), (0, .methodref 7 15), (0, .nameAndType 16 17), (0, u "removeLast"), (0, u "()I"), (0, .methodref 7 19), (0, .nameAndType 20 17), (0, u "size"), (0, .methodref 7 22), (0, .nameAndType 23 24), (0, u "get"), (0, u "(I)I"), (0, .class_ 26), (0, u "com/example/inevitable_path/inevitablepath/smv/IntListRemoveLastPinLaw"), (2, u "law"), (0, u "(IIIIII)Z")] 3

def k1m0 : Method := { name := "<init>", desc := "()V", sig := { parameters := [], returnType := none }, accessFlags := 2, code := none }
def k1c1 : Code := { maxStack := 3, maxLocals := 13, code := code, exceptionTable := #[], attributes := #[] }
def k1m1 : Method := { name := "law", desc := "(IIIIII)Z", sig := { parameters := [.int, .int, .int, .int, .int, .int], returnType := some .boolean }, accessFlags := 9, code := some k1c1 }
/-- com/example/inevitable_path/inevitablepath/smv/IntListRemoveLastPinLaw -/
def k1 : Class := { plain "com/example/inevitable_path/inevitablepath/smv/IntListRemoveLastPinLaw" (some 0) with
  accessFlags := 49
  interfaces := #[]
  cf := some (fileOf pool1 25 #[] #[{ accessFlags := 2, nameIndex := 5, descriptorIndex := 6, attributes := #[] }, { accessFlags := 9, nameIndex := 29, descriptorIndex := 30, attributes := #[] }] 49 2 #[] #[])
  fields := #[]
  methods := #[k1m0, k1m1]
  instanceTypes := #[]
  staticTypes := #[]
  resolved := Array.replicate 34 none
  statics := none }

def pool2 : Array CpInfo := pool [(3, .methodref 4 5), (0, .class_ 6), (0, .nameAndType 7 8), (0, u "java/lang/Object"), (0, u "<init>"), (0, u "()V"), (0, .fieldref 10 11), (0, .class_ 12), (0, .nameAndType 13 14), (0, u "com/example/inevitable_path/inevitablepath/smv/IntList"), (0, u "values"), (0, u "[I"), (0, .fieldref 10 16), (0, .nameAndType 17 18), (0, u "size"), (0, u "I"), (42, u "MAX_ARRAY_LENGTH"), (4, u "add"), (0, u "(I)V"), (3, u "get"), (0, u "(I)I"), (2, u "removeLast"), (0, u "()I")] 21

def k2c0 : Code := { maxStack := 2, maxLocals := 1, code := prog_60_method_1_code, exceptionTable := #[], attributes := #[] }
def k2m0 : Method := { name := "<init>", desc := "()V", sig := { parameters := [], returnType := none }, accessFlags := 0, code := some k2c0 }
def k2c1 : Code := { maxStack := 5, maxLocals := 2, code := prog_60_method_2_code, exceptionTable := #[], attributes := #[] }
def k2m1 : Method := { name := "add", desc := "(I)V", sig := { parameters := [.int], returnType := none }, accessFlags := 0, code := some k2c1 }
def k2c2 : Code := { maxStack := 2, maxLocals := 2, code := prog_60_method_4_code, exceptionTable := #[], attributes := #[] }
def k2m2 : Method := { name := "get", desc := "(I)I", sig := { parameters := [.int], returnType := some .int }, accessFlags := 0, code := some k2c2 }
def k2c3 : Code := { maxStack := 4, maxLocals := 1, code := prog_60_method_6_code, exceptionTable := #[], attributes := #[] }
def k2m3 : Method := { name := "removeLast", desc := "()I", sig := { parameters := [], returnType := some .int }, accessFlags := 0, code := some k2c3 }
def k2c4 : Code := { maxStack := 1, maxLocals := 1, code := prog_60_method_7_code, exceptionTable := #[], attributes := #[] }
def k2m4 : Method := { name := "size", desc := "()I", sig := { parameters := [], returnType := some .int }, accessFlags := 0, code := some k2c4 }
/-- com/example/inevitable_path/inevitablepath/smv/IntList -/
def k2 : Class := { plain "com/example/inevitable_path/inevitablepath/smv/IntList" (some 0) with
  accessFlags := 48
  interfaces := #[]
  cf := some (fileOf pool2 10 #[] #[{ accessFlags := 0, nameIndex := 7, descriptorIndex := 8, attributes := #[] }, { accessFlags := 0, nameIndex := 66, descriptorIndex := 67, attributes := #[] }, { accessFlags := 0, nameIndex := 71, descriptorIndex := 72, attributes := #[] }, { accessFlags := 0, nameIndex := 75, descriptorIndex := 76, attributes := #[] }, { accessFlags := 0, nameIndex := 17, descriptorIndex := 76, attributes := #[] }] 48 4 #[] #[{ accessFlags := 24, nameIndex := 61, descriptorIndex := 18, attributes := #[] }, { accessFlags := 2, nameIndex := 13, descriptorIndex := 14, attributes := #[] }, { accessFlags := 2, nameIndex := 17, descriptorIndex := 18, attributes := #[] }])
  fields := #[{ name := "MAX_ARRAY_LENGTH", type := .int, accessFlags := 24, slot := 0, constantValue := 0 }, { name := "values", type := (.array .int), accessFlags := 2, slot := 0, constantValue := 0 }, { name := "size", type := .int, accessFlags := 2, slot := 1, constantValue := 0 }]
  methods := #[k2m0, k2m1, k2m2, k2m3, k2m4]
  instanceTypes := #[(.array .int), .int]
  staticTypes := #[.int]
  resolved := Array.replicate 98 none
  statics := none }

def pool3 : Array CpInfo := pool [(1, u "java/lang/Cloneable"), (0, .class_ 1), (0, u "java/lang/Object"), (0, .class_ 3)] 3

/-- java/lang/Cloneable -/
def k3 : Class := { plain "java/lang/Cloneable" (some 0) with
  accessFlags := 1537
  interfaces := #[]
  cf := some (fileOf pool3 2 #[] #[] 1537 4 #[] #[])
  fields := #[]
  methods := #[]
  instanceTypes := #[]
  staticTypes := #[]
  resolved := Array.replicate 8 none
  statics := none }

def pool4 : Array CpInfo := pool [(1, u "java/io/Serializable"), (0, .class_ 1), (0, u "java/lang/Object"), (0, .class_ 3)] 3

/-- java/io/Serializable -/
def k4 : Class := { plain "java/io/Serializable" (some 0) with
  accessFlags := 1537
  interfaces := #[]
  cf := some (fileOf pool4 2 #[] #[] 1537 4 #[] #[])
  fields := #[]
  methods := #[]
  instanceTypes := #[]
  staticTypes := #[]
  resolved := Array.replicate 8 none
  statics := none }

/-- the primitive byte -/
def k5 : Class := { plain "byte" none with kind := .primitive 'B', accessFlags := 0x411 }
/-- [B -/
def k6 : Class := { plain "[B" (some 0) with kind := .array 5 .byte, interfaces := #[3, 4], accessFlags := 1041 }

/-- the primitive int -/
def k7 : Class := { plain "int" none with kind := .primitive 'I', accessFlags := 0x411 }
/-- [I -/
def k8 : Class := { plain "[I" (some 0) with kind := .array 7 .int, interfaces := #[3, 4], accessFlags := 1041 }

def heap : Heap := #[]
def classes : Array Class := #[k0, k1, k2, k3, k4, k5, k6, k7, k8]
def interned : List (Array UInt16 × Addr) := []
def slotsUsed : Nat := 0
def theMethod : MethodId := ⟨1, 1⟩
def args0 : Array Value := #[.int 3, .int 4, .int 5, .int 6, .int 7, .int 8]
def aboutOver (below : List Frame) : State where
  vm := { classes := classes, interned := interned.toArray }
  heap := heap
  slotsUsed := slotsUsed
  threads := #[{ frames := .invoking theMethod args0 :: below }]
def below0 : List Frame := [.native { method := ⟨0, 0⟩, args := #[] }]
def about1 : State := aboutOver below0
def p0 : Program := .bare "" "" ""
def e0 : Env := launch0.env 0 0 0
theorem w_frames : about1.frames = Frame.invoking theMethod args0 :: below0 := rfl
set_option maxRecDepth 65536 in
theorem w_args : argsFit about1.vm theMethod args0 = true := by decide +kernel
set_option maxRecDepth 65536 in
theorem w_heap : heapFits about1 = true := by decide +kernel
set_option maxRecDepth 65536 in
theorem w_runnable : about1.curStatus? = some .runnable := by decide +kernel
set_option maxRecDepth 65536 in
theorem w_alone : about1.alone = true := by decide +kernel
set_option maxRecDepth 65536 in
theorem w_named : about1.methodNamed? x = some theMethod := by decide +kernel
set_option maxRecDepth 65536 in
theorem w_hears : about1.hears theMethod below0 = true := by decide +kernel
set_option maxRecDepth 65536 in
theorem w_ripe : about1.ripe theMethod args0 below0 = true := by decide +kernel
theorem w_running : about1.status = .running := rfl
set_option maxRecDepth 65536 in
theorem w_room : about1.hasRoom e0.platform room_1 = true :=
  launch0.hasRoom_least _ room_1 (by decide +kernel) (by decide +kernel) (by decide +kernel) (by decide +kernel) (by decide +kernel) (by decide +kernel)
theorem allAtoms_all (ts : List Jvm.Cond) (a : Array Jvm.Value) (st : Jvm.State) : (allAtoms ts).before a st = ts.all (fun c => c.before a st) := by
  induction ts with
  | nil => rfl
  | cons c t ih =>
    show (Jvm.Cond.and c (allAtoms t)).before a st = _
    rw [Jvm.Cond.before_and, ih, List.all_cons]
def words1 : List Jvm.Cond := Jvm.Cond.code x code maxLocals ret :: tables_1
/-- a 'code' word, met by the world's own term for the bytes: nothing is compared byte by byte -/
theorem code_word {y : MethodName} {bytes : ByteArray} {mx : Nat} {rt : Option FieldType} {a : Array Value} {s : State} {m : MethodId} {meth : Method} {c : Code} (h1 : s.methodNamed? y = some m) (h2 : s.vm.method? m = some meth) (h3 : meth.code = some c) (h4 : c.code = bytes)
    (h5 : (c.maxLocals == mx && c.exceptionTable.isEmpty && decide (c.maxStack ≤ mostOperands) && decide (meth.sig.returnType = rt) && !meth.locks && decide (parseMethodDescriptor y.desc = some meth.sig)) = true) : (Jvm.Cond.code y bytes mx rt).before a s = true := by
  simp only [Bool.and_eq_true, beq_iff_eq, Bool.not_eq_true', decide_eq_true_eq] at h5
  obtain ⟨⟨⟨⟨⟨g1, g2⟩, g3⟩, g4⟩, g5⟩, g6⟩ := h5
  simp [Cond.before, Cond.holds, Cond.value, h1, h2, h3, h4, g1, g2, g3, g4, g5, g6]
def isCode : Jvm.Cond → Bool
  | .code _ _ _ _ => true
  | _ => false
theorem all_split {L : List Jvm.Cond} {P : Jvm.Cond → Bool} (h1 : L.all (fun c => isCode c || P c) = true) (h2 : ∀ c ∈ L.filter isCode, P c = true) : L.all P = true := by
  refine List.all_eq_true.mpr fun c hc => ?_
  have h := List.all_eq_true.mp h1 c hc
  rcases Bool.eq_false_or_eq_true (isCode c) with hi | hi
  · exact h2 c (List.mem_filter.mpr ⟨hc, hi⟩)
  · simpa [hi] using h
set_option maxRecDepth 65536 in
theorem w_c0 : (Jvm.Cond.code x code maxLocals ret).before args0 about1 = true := code_word (m := ⟨1, 1⟩) (meth := k1m1) (c := k1c1) (by decide +kernel) rfl rfl rfl (by decide +kernel)
set_option maxRecDepth 65536 in
theorem w_c1 : (Jvm.Cond.code ({ cls := "com/example/inevitable_path/inevitablepath/smv/IntList", name := "<init>", desc := "()V" } : Jvm.MethodName) prog_60_method_1_code (1 : Nat) (Option.none : Option Jvm.ClassFile.FieldType)).before args0 about1 = true := code_word (m := ⟨2, 0⟩) (meth := k2m0) (c := k2c0) (by decide +kernel) rfl rfl rfl (by decide +kernel)
set_option maxRecDepth 65536 in
theorem w_c2 : (Jvm.Cond.code ({ cls := "java/lang/Object", name := "<init>", desc := "()V" } : Jvm.MethodName) object_method_1_code (1 : Nat) (Option.none : Option Jvm.ClassFile.FieldType)).before args0 about1 = true := code_word (m := ⟨0, 0⟩) (meth := k0m0) (c := k0c0) (by decide +kernel) rfl rfl rfl (by decide +kernel)
set_option maxRecDepth 65536 in
theorem w_c3 : (Jvm.Cond.code ({ cls := "com/example/inevitable_path/inevitablepath/smv/IntList", name := "add", desc := "(I)V" } : Jvm.MethodName) prog_60_method_2_code (2 : Nat) (Option.none : Option Jvm.ClassFile.FieldType)).before args0 about1 = true := code_word (m := ⟨2, 1⟩) (meth := k2m1) (c := k2c1) (by decide +kernel) rfl rfl rfl (by decide +kernel)
set_option maxRecDepth 65536 in
theorem w_c4 : (Jvm.Cond.code ({ cls := "com/example/inevitable_path/inevitablepath/smv/IntList", name := "removeLast", desc := "()I" } : Jvm.MethodName) prog_60_method_6_code (1 : Nat) (Option.some Jvm.ClassFile.FieldType.int)).before args0 about1 = true := code_word (m := ⟨2, 3⟩) (meth := k2m3) (c := k2c3) (by decide +kernel) rfl rfl rfl (by decide +kernel)
set_option maxRecDepth 65536 in
theorem w_c5 : (Jvm.Cond.code ({ cls := "com/example/inevitable_path/inevitablepath/smv/IntList", name := "size", desc := "()I" } : Jvm.MethodName) prog_60_method_7_code (1 : Nat) (Option.some Jvm.ClassFile.FieldType.int)).before args0 about1 = true := code_word (m := ⟨2, 4⟩) (meth := k2m4) (c := k2c4) (by decide +kernel) rfl rfl rfl (by decide +kernel)
set_option maxRecDepth 65536 in
theorem w_c6 : (Jvm.Cond.code ({ cls := "com/example/inevitable_path/inevitablepath/smv/IntList", name := "get", desc := "(I)I" } : Jvm.MethodName) prog_60_method_4_code (2 : Nat) (Option.some Jvm.ClassFile.FieldType.int)).before args0 about1 = true := code_word (m := ⟨2, 2⟩) (meth := k2m2) (c := k2c2) (by decide +kernel) rfl rfl rfl (by decide +kernel)
def codes1 : List Jvm.Cond := [Jvm.Cond.code x code maxLocals ret, Jvm.Cond.code ({ cls := "com/example/inevitable_path/inevitablepath/smv/IntList", name := "<init>", desc := "()V" } : Jvm.MethodName) prog_60_method_1_code (1 : Nat) (Option.none : Option Jvm.ClassFile.FieldType), Jvm.Cond.code ({ cls := "java/lang/Object", name := "<init>", desc := "()V" } : Jvm.MethodName) object_method_1_code (1 : Nat) (Option.none : Option Jvm.ClassFile.FieldType), Jvm.Cond.code ({ cls := "com/example/inevitable_path/inevitablepath/smv/IntList", name := "add", desc := "(I)V" } : Jvm.MethodName) prog_60_method_2_code (2 : Nat) (Option.none : Option Jvm.ClassFile.FieldType), Jvm.Cond.code ({ cls := "com/example/inevitable_path/inevitablepath/smv/IntList", name := "removeLast", desc := "()I" } : Jvm.MethodName) prog_60_method_6_code (1 : Nat) (Option.some Jvm.ClassFile.FieldType.int), Jvm.Cond.code ({ cls := "com/example/inevitable_path/inevitablepath/smv/IntList", name := "size", desc := "()I" } : Jvm.MethodName) prog_60_method_7_code (1 : Nat) (Option.some Jvm.ClassFile.FieldType.int), Jvm.Cond.code ({ cls := "com/example/inevitable_path/inevitablepath/smv/IntList", name := "get", desc := "(I)I" } : Jvm.MethodName) prog_60_method_4_code (2 : Nat) (Option.some Jvm.ClassFile.FieldType.int)]
set_option maxRecDepth 65536 in
theorem codes_eq : words1.filter isCode = codes1 := rfl
theorem w_codes : ∀ c ∈ words1.filter isCode, c.before args0 about1 = true := by
  rw [codes_eq]
  intro c hc
  simp only [codes1, List.mem_cons, List.not_mem_nil, or_false] at hc
  rcases hc with rfl | rfl | rfl | rfl | rfl | rfl | rfl
  · exact w_c0
  · exact w_c1
  · exact w_c2
  · exact w_c3
  · exact w_c4
  · exact w_c5
  · exact w_c6
set_option maxRecDepth 65536 in
theorem w_t1 : (words1.take 24).all (fun c => isCode c || c.before args0 about1) = true := by decide +kernel
set_option maxRecDepth 65536 in
theorem w_t2 : (words1.drop 24).all (fun c => isCode c || c.before args0 about1) = true := by decide +kernel
theorem w_tables : (allAtoms (Jvm.Cond.code x code maxLocals ret :: tables_1)).before args0 about1 = true := by
  rw [allAtoms_all]
  show words1.all (fun c => c.before args0 about1) = true
  refine all_split ?_ w_codes
  rw [← List.take_append_drop 24 words1, List.all_append, w_t1, w_t2]
  rfl
set_option maxRecDepth 65536 in
theorem w_case : (Jvm.Cond.and given_1 narrow_1).before args0 about1 = true := by decide +kernel
theorem w_applies : (headSpec (Jvm.Cond.code x code maxLocals ret :: tables_1) room_1).applies x e0.platform about1 = true :=
  (Spec.applies_iff w_frames).mpr ⟨w_running, w_runnable, w_alone, w_named, w_hears, w_ripe, w_room, w_tables⟩
theorem atStart : AtStart classFile x code maxLocals ret World_1 tables_1 room_1 Calls_1 rest_1 Pre_1 launch0 p0 e0 about1 theMethod args0 below0 :=
  ⟨lists_1, trivial, launch0.admits_env _ _ _, launch0.least_env, fairChoices_fair.cas, fairChoices_fair.clock, w_frames, w_args, w_heap, w_applies, trivial, trivial, w_case⟩
end start1
theorem witness_1 : WitnessClaimed_1 := ⟨start1.p0, start1.e0, start1.about1, start1.theMethod, start1.args0, start1.below0, start1.atStart⟩
end Jvm.Pilot.@@N@@
