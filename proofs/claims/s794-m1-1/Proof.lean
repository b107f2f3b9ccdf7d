import JvmDerived
import JvmDerived.Pilot.@@N@@Statement
import JvmDerived.Pilot.@@N@@Code
set_option linter.unusedVariables false
set_option linter.unusedSimpArgs false
@@BLOCK:NumsL.lean.txt@@
namespace Jvm.Pilot.@@N@@
open Jvm Jvm.ClassFile Sem Op Lib Jvm.Free Jvm.Stand Jvm.LawKit Jvm.RoadKit Bundle Jvm.Pilot.@@N@@.Jvm.D
section OwnLayer
/-- the surroundings of a walk: what stays the same from step to step -/
def Cx (p : Program) (s : State) (m : MethodId) (meth : Method) (c : Code) (Z : State) (own : String) (bs : ByteArray) (mx : Nat) (rt : Option FieldType) (nm : String) : Prop :=
  p.tables.exec = Jvm.exec ∧ c.code = bs ∧ c.maxLocals = mx ∧ Z.Warmed39 s.vm ∧ s.vm.findClass own = some m.cls ∧ meth.sig.returnType = rt ∧ meth.locks = false ∧ meth.name = nm
/-- wherever the walk stands with heap h and top frame g, it comes to its end, and Q holds there -/
def Go (p : Program) (l : Launch) (e : Env) (R : Room) (s : State) (m : MethodId) (args : Array Value) (below : List Frame) (meth : Method) (c : Code) (n0 : Nat) (Q : Option Value → Heap → Prop) (K N : Nat) (h : Heap) (ce sl : Nat) (g : JFrame) : Prop :=
  ∀ (T : State) (locs : List Loc), Stand p l e R s m args below meth c T locs ce sl → T.heap = h → Fr n0 locs →
    ∃ s₂ o, Steps p.tables e below (T.setTop g) s₂ ∧ s₂.status = .running ∧ Ended s₂ below o ∧ ∃ v L, o = .returned v ∧ (Q v s₂.heap ∧ Fr n0 L) ∧ FrameEnd s o s₂ L K N
/-- a method's contract, for given arguments and a given heap -/
def Sat (l : Launch) (Z : State) (y : MethodName) (bs : ByteArray) (mx : Nat) (rt : Option FieldType) (rm : Room) (as : List Value) (h0 : Heap) (n0 : Nat) (Q : Option Value → Heap → Prop) : Prop :=
  ∀ ws : List Jvm.Cond, MetFree l y (head1 (Jvm.Cond.code y bs mx rt :: ws) rm) (fun a U => a = as.toArray ∧ Z.Warmed39 U.vm ∧ U.heap = h0) (fun _ _ _ _ _ => True) (fun _ U o U' => ∃ v L, o = .returned v ∧ (Q v U'.heap ∧ Fr n0 L) ∧ FrameEnd U o U' L rm.cells rm.slots)
def RV (P : Value → Heap → Prop) : Option Value → Heap → Prop := fun v h => ∃ r, v = some r ∧ P r h
def RN (P : Heap → Prop) : Option Value → Heap → Prop := fun v h => v = none ∧ P h
def wt (st : List Value) : Nat := (st.map fun v => v.category).sum
def bi (P : Prop) [Decidable P] : Int32 := if P then 1 else 0
theorem bi_t {P : Prop} [Decidable P] (h : P) : bi P = 1 := if_pos h
theorem bi_f {P : Prop} [Decidable P] (h : ¬ P) : bi P = 0 := if_neg h
theorem bi1 {P : Prop} [Decidable P] (h : P) : (1 : Int32) = bi P := (if_pos h).symm
theorem bi0 {P : Prop} [Decidable P] (h : ¬ P) : (0 : Int32) = bi P := (if_neg h).symm
theorem bi_congr {P P' : Prop} [Decidable P] [Decidable P'] (h : P ↔ P') : bi P = bi P' := by
  by_cases q : P
  · rw [bi_t q, bi_t (h.mp q)]
  · rw [bi_f q, bi_f fun z => q (h.mpr z)]
theorem bi_nar (P : Prop) [Decidable P] : nar .boolean (bi P) = bi P := by
  by_cases q : P
  · rw [bi_t q]; rfl
  · rw [bi_f q]; rfl
theorem bi_inj {P P' : Prop} [Decidable P] [Decidable P'] (h : bi P = bi P') : P ↔ P' := by
  by_cases q : P <;> by_cases q' : P' <;> simp_all [bi]
theorem bi_narrow (P : Prop) [Decidable P] : narrow .boolean (.int (bi P)) = .int (bi P) := by
  by_cases q : P
  · rw [bi_t q]; rfl
  · rw [bi_f q]; rfl
theorem bi_fits (P : Prop) [Decidable P] : fits .boolean (.int (bi P)) = true := by
  by_cases q : P
  · rw [bi_t q]; rfl
  · rw [bi_f q]; rfl
theorem bi_toInt (P : Prop) [Decidable P] : (bi P).toInt = if P then 1 else 0 := by
  by_cases q : P
  · rw [bi_t q, if_pos q]; rfl
  · rw [bi_f q, if_neg q]; rfl
theorem own_add_t {P : Prop} [Decidable P] (n : Int32) (h : P) : n + 1 = n + bi P := by rw [bi_t h]
theorem own_add_f {P : Prop} [Decidable P] (n : Int32) (h : ¬ P) : n = n + bi P := by rw [bi_f h, Int32.add_zero]
theorem own_narrow_arr {v : Value} {t : FieldType} (h : v.isRef = true) : narrow (.array t) v = v := by
  cases v <;> first | rfl | simp [Value.isRef] at h
theorem own_fits_arr {v : Value} {t : FieldType} (h : v.isRef = true) : fits (.array t) v = true := by
  cases v <;> first | rfl | simp [Value.isRef] at h
theorem own_bb (x : Int32) : x.toInt8.toInt32.toInt8.toInt32 = x.toInt8.toInt32 := by simp
theorem own_ne_new {h : Heap} {a b : Addr} (q : b < h.size) (g : h.size = a) : b ≠ a := Nat.ne_of_lt (g ▸ q)
theorem own_ge {h : Heap} {a : Addr} {n : Nat} (q : n ≤ h.size) (g : h.size = a) : n ≤ a := g ▸ q
theorem int_eq {x y : Int32} (h : x.toInt = y.toInt) : x = y := Int32.toInt_inj.mp h
theorem long_eq {x y : Int64} (h : x.toInt = y.toInt) : x = y := Int64.toInt_inj.mp h
section Walk
variable {p : Program} {l : Launch} {e : Env} {R : Room} {s : State} {m : MethodId} {args : Array Value} {below : List Frame} {meth : Method} {c : Code} {Z : State} {a0 : Array Value} {own : String} {bs : ByteArray} {mx : Nat} {rt : Option FieldType} {nm : String} {n0 : Nat} {Q : Option Value → Heap → Prop} {K N : Nat} {h : Heap} {ce sl : Nat} {pc pc' : Nat} {Ls Ls' : Array Slot} {st : List Value} {g g' : JFrame}
theorem Go.step (H : ∀ (T : State), At T m c below → ∀ target, Steps p.tables e below (T.setTop g') target → Steps p.tables e below (T.setTop g) target) (hr : Go p l e R s m args below meth c n0 Q K N h ce sl g') : Go p l e R s m args below meth c n0 Q K N h ce sl g := fun T locs X eT Nn => by
  obtain ⟨s₂, o, h1, r⟩ := hr T locs X eT Nn
  exact ⟨s₂, o, H T X.here _ h1, r⟩
theorem Go.stepX (H : ∀ (T : State) (locs : List Loc), Stand p l e R s m args below meth c T locs ce sl → T.heap = h → ∀ target, Steps p.tables e below (T.setTop g') target → Steps p.tables e below (T.setTop g) target) (hr : Go p l e R s m args below meth c n0 Q K N h ce sl g') : Go p l e R s m args below meth c n0 Q K N h ce sl g := fun T locs X eT Nn => by
  obtain ⟨s₂, o, h1, r⟩ := hr T locs X eT Nn
  exact ⟨s₂, o, H T locs X eT _ h1, r⟩
theorem Go.more {ce' sl' : Nat} (hc : ce ≤ ce') (hs : sl ≤ sl') (hr : Go p l e R s m args below meth c n0 Q K N h ce' sl' g) : Go p l e R s m args below meth c n0 Q K N h ce sl g := fun T locs X eT Nn => hr T locs (X.more hc hs) eT Nn
theorem go_iloadN (C : Cx p s m meth c Z own bs mx rt nm) {k : Fin 4} {v : Int32} (hd : decode bs pc = .ok (.iload_n k, 1)) (hp : pc + 1 = pc') (hl : Ls[k.val]? = some (.val (.int v))) (hr : Go p l e R s m args below meth c n0 Q K N h ce sl (mkF m pc' Ls (.int v :: st))) : Go p l e R s m args below meth c n0 Q K N h ce sl (mkF m pc Ls st) := by
  subst hp
  exact Go.step (fun T A _ q => XS.iloadN A C.1 rfl (hb C.2.1 hd) hl q) hr
theorem go_iload (C : Cx p s m meth c Z own bs mx rt nm) {k : Nat} {v : Int32} (hd : decode bs pc = .ok (.iload k, 2)) (hp : pc + 2 = pc') (hl : Ls[k]? = some (.val (.int v))) (hr : Go p l e R s m args below meth c n0 Q K N h ce sl (mkF m pc' Ls (.int v :: st))) : Go p l e R s m args below meth c n0 Q K N h ce sl (mkF m pc Ls st) := by
  subst hp
  exact Go.step (fun T A _ q => XS.iload A C.1 rfl (hb C.2.1 hd) hl q) hr
theorem go_lloadN (C : Cx p s m meth c Z own bs mx rt nm) {k : Fin 4} {v : Int64} (hd : decode bs pc = .ok (.lload_n k, 1)) (hp : pc + 1 = pc') (hl : Ls[k.val]? = some (.val (.long v))) (hr : Go p l e R s m args below meth c n0 Q K N h ce sl (mkF m pc' Ls (.long v :: st))) : Go p l e R s m args below meth c n0 Q K N h ce sl (mkF m pc Ls st) := by
  subst hp
  exact Go.step (fun T A _ q => XT.lloadN A C.1 rfl (hb C.2.1 hd) hl q) hr
theorem go_lload (C : Cx p s m meth c Z own bs mx rt nm) {k : Nat} {v : Int64} (hd : decode bs pc = .ok (.lload k, 2)) (hp : pc + 2 = pc') (hl : Ls[k]? = some (.val (.long v))) (hr : Go p l e R s m args below meth c n0 Q K N h ce sl (mkF m pc' Ls (.long v :: st))) : Go p l e R s m args below meth c n0 Q K N h ce sl (mkF m pc Ls st) := by
  subst hp
  exact Go.step (fun T A _ q => XT.lload A C.1 rfl (hb C.2.1 hd) hl q) hr
theorem go_aloadN (C : Cx p s m meth c Z own bs mx rt nm) {k : Fin 4} {v : Value} (hd : decode bs pc = .ok (.aload_n k, 1)) (hp : pc + 1 = pc') (hl : Ls[k.val]? = some (.val v)) (hv : v.isRef = true) (hr : Go p l e R s m args below meth c n0 Q K N h ce sl (mkF m pc' Ls (v :: st))) : Go p l e R s m args below meth c n0 Q K N h ce sl (mkF m pc Ls st) := by
  subst hp
  exact Go.step (fun T A _ q => XS.aloadN A C.1 rfl (hb C.2.1 hd) hl hv q) hr
theorem go_aload (C : Cx p s m meth c Z own bs mx rt nm) {k : Nat} {v : Value} (hd : decode bs pc = .ok (.aload k, 2)) (hp : pc + 2 = pc') (hl : Ls[k]? = some (.val v)) (hv : v.isRef = true) (hr : Go p l e R s m args below meth c n0 Q K N h ce sl (mkF m pc' Ls (v :: st))) : Go p l e R s m args below meth c n0 Q K N h ce sl (mkF m pc Ls st) := by
  subst hp
  exact Go.step (fun T A _ q => XS.aload A C.1 rfl (hb C.2.1 hd) hl hv q) hr
theorem go_istoreN (C : Cx p s m meth c Z own bs mx rt nm) {k : Fin 4} {v : Int32} (hd : decode bs pc = .ok (.istore_n k, 1)) (hp : pc + 1 = pc') (hl : storeLocals Ls k.val (.int v) = some Ls') (hr : Go p l e R s m args below meth c n0 Q K N h ce sl (mkF m pc' Ls' st)) : Go p l e R s m args below meth c n0 Q K N h ce sl (mkF m pc Ls (.int v :: st)) := by
  subst hp
  exact Go.step (fun T A _ q => XS.istoreN A C.1 rfl (hb C.2.1 hd) rfl hl q) hr
theorem go_istore (C : Cx p s m meth c Z own bs mx rt nm) {k : Nat} {v : Int32} (hd : decode bs pc = .ok (.istore k, 2)) (hp : pc + 2 = pc') (hl : storeLocals Ls k (.int v) = some Ls') (hr : Go p l e R s m args below meth c n0 Q K N h ce sl (mkF m pc' Ls' st)) : Go p l e R s m args below meth c n0 Q K N h ce sl (mkF m pc Ls (.int v :: st)) := by
  subst hp
  exact Go.step (fun T A _ q => XS.istore A C.1 rfl (hb C.2.1 hd) rfl hl q) hr
theorem go_lstoreN (C : Cx p s m meth c Z own bs mx rt nm) {k : Fin 4} {v : Int64} (hd : decode bs pc = .ok (.lstore_n k, 1)) (hp : pc + 1 = pc') (hl : storeLocals Ls k.val (.long v) = some Ls') (hr : Go p l e R s m args below meth c n0 Q K N h ce sl (mkF m pc' Ls' st)) : Go p l e R s m args below meth c n0 Q K N h ce sl (mkF m pc Ls (.long v :: st)) := by
  subst hp
  exact Go.step (fun T A _ q => XT.lstoreN A C.1 rfl (hb C.2.1 hd) rfl hl q) hr
theorem go_lstore (C : Cx p s m meth c Z own bs mx rt nm) {k : Nat} {v : Int64} (hd : decode bs pc = .ok (.lstore k, 2)) (hp : pc + 2 = pc') (hl : storeLocals Ls k (.long v) = some Ls') (hr : Go p l e R s m args below meth c n0 Q K N h ce sl (mkF m pc' Ls' st)) : Go p l e R s m args below meth c n0 Q K N h ce sl (mkF m pc Ls (.long v :: st)) := by
  subst hp
  exact Go.step (fun T A _ q => XT.lstore A C.1 rfl (hb C.2.1 hd) rfl hl q) hr
theorem go_astoreN (C : Cx p s m meth c Z own bs mx rt nm) {k : Fin 4} {v : Value} (hd : decode bs pc = .ok (.astore_n k, 1)) (hp : pc + 1 = pc') (hv : v.isRef = true) (hl : storeLocals Ls k.val v = some Ls') (hr : Go p l e R s m args below meth c n0 Q K N h ce sl (mkF m pc' Ls' st)) : Go p l e R s m args below meth c n0 Q K N h ce sl (mkF m pc Ls (v :: st)) := by
  subst hp
  exact Go.step (fun T A _ q => XS.astoreN A C.1 rfl (hb C.2.1 hd) rfl hv hl q) hr
theorem go_astore (C : Cx p s m meth c Z own bs mx rt nm) {k : Nat} {v : Value} (hd : decode bs pc = .ok (.astore k, 2)) (hp : pc + 2 = pc') (hv : v.isRef = true) (hl : storeLocals Ls k v = some Ls') (hr : Go p l e R s m args below meth c n0 Q K N h ce sl (mkF m pc' Ls' st)) : Go p l e R s m args below meth c n0 Q K N h ce sl (mkF m pc Ls (v :: st)) := by
  subst hp
  exact Go.step (fun T A _ q => XS.astore A C.1 rfl (hb C.2.1 hd) rfl hv hl q) hr
theorem go_istoreS (C : Cx p s m meth c Z own bs mx rt nm) {k : Nat} {v : Int32} {o : Slot} (hd : decode bs pc = .ok (.istore k, 2)) (hp : pc + 2 = pc') (hold : Ls[k]? = some o) (ho : One o) (hL : Ls.setIfInBounds k (.val (.int v)) = Ls') (hr : Go p l e R s m args below meth c n0 Q K N h ce sl (mkF m pc' Ls' st)) : Go p l e R s m args below meth c n0 Q K N h ce sl (mkF m pc Ls (.int v :: st)) := by
  subst hp hL
  exact Go.step (fun T A _ q => XS.istoreS A C.1 rfl (hb C.2.1 hd) rfl hold ho q) hr
theorem go_istoreNS (C : Cx p s m meth c Z own bs mx rt nm) {k : Fin 4} {v : Int32} {o : Slot} (hd : decode bs pc = .ok (.istore_n k, 1)) (hp : pc + 1 = pc') (hold : Ls[k.val]? = some o) (ho : One o) (hL : Ls.setIfInBounds k.val (.val (.int v)) = Ls') (hr : Go p l e R s m args below meth c n0 Q K N h ce sl (mkF m pc' Ls' st)) : Go p l e R s m args below meth c n0 Q K N h ce sl (mkF m pc Ls (.int v :: st)) := by
  subst hp hL
  exact Go.step (fun T A _ q => XS.istoreNS A C.1 rfl (hb C.2.1 hd) rfl hold ho q) hr
theorem go_iconst (C : Cx p s m meth c Z own bs mx rt nm) {i : Int} (v : Int32) (hd : decode bs pc = .ok (.iconst i, 1)) (hp : pc + 1 = pc') (hv : Int32.ofInt i = v) (hr : Go p l e R s m args below meth c n0 Q K N h ce sl (mkF m pc' Ls (.int v :: st))) : Go p l e R s m args below meth c n0 Q K N h ce sl (mkF m pc Ls st) := by
  subst hp
  exact Go.step (fun T A _ q => XT.iconstV A C.1 rfl v (hb C.2.1 hd) hv q) hr
theorem go_bipush (C : Cx p s m meth c Z own bs mx rt nm) {i : Int} (v : Int32) (hd : decode bs pc = .ok (.bipush i, 2)) (hp : pc + 2 = pc') (hv : (Int8.ofInt i).toInt32 = v) (hr : Go p l e R s m args below meth c n0 Q K N h ce sl (mkF m pc' Ls (.int v :: st))) : Go p l e R s m args below meth c n0 Q K N h ce sl (mkF m pc Ls st) := by
  subst hp
  exact Go.step (fun T A _ q => XT.bipushV A C.1 rfl v (hb C.2.1 hd) hv q) hr
theorem go_sipush (C : Cx p s m meth c Z own bs mx rt nm) {i : Int} (v : Int32) (hd : decode bs pc = .ok (.sipush i, 3)) (hp : pc + 3 = pc') (hv : (Int16.ofInt i).toInt32 = v) (hr : Go p l e R s m args below meth c n0 Q K N h ce sl (mkF m pc' Ls (.int v :: st))) : Go p l e R s m args below meth c n0 Q K N h ce sl (mkF m pc Ls st) := by
  subst hp
  exact Go.step (fun T A _ q => XT.sipushV A C.1 rfl v (hb C.2.1 hd) hv q) hr
theorem go_lconst (C : Cx p s m meth c Z own bs mx rt nm) {k : Fin 2} (v : Int64) (hd : decode bs pc = .ok (.lconst k, 1)) (hp : pc + 1 = pc') (hv : Int64.ofNat k = v) (hr : Go p l e R s m args below meth c n0 Q K N h ce sl (mkF m pc' Ls (.long v :: st))) : Go p l e R s m args below meth c n0 Q K N h ce sl (mkF m pc Ls st) := by
  subst hp
  exact Go.step (fun T A _ q => XT.lconstV A C.1 rfl v (hb C.2.1 hd) hv q) hr
theorem go_aconst_null (C : Cx p s m meth c Z own bs mx rt nm)  (hd : decode bs pc = .ok (.aconst_null, 1)) (hp : pc + 1 = pc') (hr : Go p l e R s m args below meth c n0 Q K N h ce sl (mkF m pc' Ls (.null :: st))) : Go p l e R s m args below meth c n0 Q K N h ce sl (mkF m pc Ls st) := by
  subst hp
  exact Go.step (fun T A _ q => XS.aconstNull A C.1 rfl (hb C.2.1 hd)  q) hr
theorem go_iinc (C : Cx p s m meth c Z own bs mx rt nm) {k : Nat} {i : Int} {x : Int32} (v : Int32) (hd : decode bs pc = .ok (.iinc k i, 3)) (hp : pc + 3 = pc') (hv : Int32.ofInt i = v) (hl : Ls[k]? = some (.val (.int x))) (hl' : storeLocals Ls k (.int (x + v)) = some Ls') (hr : Go p l e R s m args below meth c n0 Q K N h ce sl (mkF m pc' Ls' st)) : Go p l e R s m args below meth c n0 Q K N h ce sl (mkF m pc Ls st) := by
  subst hp
  exact Go.step (fun T A _ q => XT.iincV A C.1 rfl v (hb C.2.1 hd) hv hl hl' q) hr
theorem go_iadd (C : Cx p s m meth c Z own bs mx rt nm) {x y : Int32} (hd : decode bs pc = .ok (.iadd, 1)) (hp : pc + 1 = pc') (hr : Go p l e R s m args below meth c n0 Q K N h ce sl (mkF m pc' Ls (.int (x + y) :: st))) : Go p l e R s m args below meth c n0 Q K N h ce sl (mkF m pc Ls (.int y :: .int x :: st)) := by
  subst hp
  exact Go.step (fun T A _ q => XS.iadd A C.1 rfl (hb C.2.1 hd) rfl q) hr
theorem go_isub (C : Cx p s m meth c Z own bs mx rt nm) {x y : Int32} (hd : decode bs pc = .ok (.isub, 1)) (hp : pc + 1 = pc') (hr : Go p l e R s m args below meth c n0 Q K N h ce sl (mkF m pc' Ls (.int (x - y) :: st))) : Go p l e R s m args below meth c n0 Q K N h ce sl (mkF m pc Ls (.int y :: .int x :: st)) := by
  subst hp
  exact Go.step (fun T A _ q => XS.isub A C.1 rfl (hb C.2.1 hd) rfl q) hr
theorem go_iand (C : Cx p s m meth c Z own bs mx rt nm) {x y : Int32} (hd : decode bs pc = .ok (.iand, 1)) (hp : pc + 1 = pc') (hr : Go p l e R s m args below meth c n0 Q K N h ce sl (mkF m pc' Ls (.int (x &&& y) :: st))) : Go p l e R s m args below meth c n0 Q K N h ce sl (mkF m pc Ls (.int y :: .int x :: st)) := by
  subst hp
  exact Go.step (fun T A _ q => XS.iand A C.1 rfl (hb C.2.1 hd) rfl q) hr
theorem go_imul (C : Cx p s m meth c Z own bs mx rt nm) {x y : Int32} (hd : decode bs pc = .ok (.imul, 1)) (hp : pc + 1 = pc') (hr : Go p l e R s m args below meth c n0 Q K N h ce sl (mkF m pc' Ls (.int (x * y) :: st))) : Go p l e R s m args below meth c n0 Q K N h ce sl (mkF m pc Ls (.int y :: .int x :: st)) := by
  subst hp
  exact Go.step (fun T A _ q => XS.imul A C.1 rfl (hb C.2.1 hd) rfl q) hr
theorem go_ior (C : Cx p s m meth c Z own bs mx rt nm) {x y : Int32} (hd : decode bs pc = .ok (.ior, 1)) (hp : pc + 1 = pc') (hr : Go p l e R s m args below meth c n0 Q K N h ce sl (mkF m pc' Ls (.int (x ||| y) :: st))) : Go p l e R s m args below meth c n0 Q K N h ce sl (mkF m pc Ls (.int y :: .int x :: st)) := by
  subst hp
  exact Go.step (fun T A _ q => XT.ior A C.1 rfl (hb C.2.1 hd) rfl q) hr
theorem go_ixor (C : Cx p s m meth c Z own bs mx rt nm) {x y : Int32} (hd : decode bs pc = .ok (.ixor, 1)) (hp : pc + 1 = pc') (hr : Go p l e R s m args below meth c n0 Q K N h ce sl (mkF m pc' Ls (.int (x ^^^ y) :: st))) : Go p l e R s m args below meth c n0 Q K N h ce sl (mkF m pc Ls (.int y :: .int x :: st)) := by
  subst hp
  exact Go.step (fun T A _ q => XT.ixor A C.1 rfl (hb C.2.1 hd) rfl q) hr
theorem go_ishl (C : Cx p s m meth c Z own bs mx rt nm) {x y : Int32} (hd : decode bs pc = .ok (.ishl, 1)) (hp : pc + 1 = pc') (hr : Go p l e R s m args below meth c n0 Q K N h ce sl (mkF m pc' Ls (.int (x <<< (y &&& 31)) :: st))) : Go p l e R s m args below meth c n0 Q K N h ce sl (mkF m pc Ls (.int y :: .int x :: st)) := by
  subst hp
  exact Go.step (fun T A _ q => XT.ishl A C.1 rfl (hb C.2.1 hd) rfl q) hr
theorem go_ishr (C : Cx p s m meth c Z own bs mx rt nm) {x y : Int32} (hd : decode bs pc = .ok (.ishr, 1)) (hp : pc + 1 = pc') (hr : Go p l e R s m args below meth c n0 Q K N h ce sl (mkF m pc' Ls (.int (x >>> (y &&& 31)) :: st))) : Go p l e R s m args below meth c n0 Q K N h ce sl (mkF m pc Ls (.int y :: .int x :: st)) := by
  subst hp
  exact Go.step (fun T A _ q => XT.ishr A C.1 rfl (hb C.2.1 hd) rfl q) hr
theorem go_iushr (C : Cx p s m meth c Z own bs mx rt nm) {x y : Int32} (hd : decode bs pc = .ok (.iushr, 1)) (hp : pc + 1 = pc') (hr : Go p l e R s m args below meth c n0 Q K N h ce sl (mkF m pc' Ls (.int (XT.ushr x y) :: st))) : Go p l e R s m args below meth c n0 Q K N h ce sl (mkF m pc Ls (.int y :: .int x :: st)) := by
  subst hp
  exact Go.step (fun T A _ q => XT.iushr A C.1 rfl (hb C.2.1 hd) rfl q) hr
theorem go_ladd (C : Cx p s m meth c Z own bs mx rt nm) {x y : Int64} (hd : decode bs pc = .ok (.ladd, 1)) (hp : pc + 1 = pc') (hr : Go p l e R s m args below meth c n0 Q K N h ce sl (mkF m pc' Ls (.long (x + y) :: st))) : Go p l e R s m args below meth c n0 Q K N h ce sl (mkF m pc Ls (.long y :: .long x :: st)) := by
  subst hp
  exact Go.step (fun T A _ q => XT.ladd A C.1 rfl (hb C.2.1 hd) rfl q) hr
theorem go_lsub (C : Cx p s m meth c Z own bs mx rt nm) {x y : Int64} (hd : decode bs pc = .ok (.lsub, 1)) (hp : pc + 1 = pc') (hr : Go p l e R s m args below meth c n0 Q K N h ce sl (mkF m pc' Ls (.long (x - y) :: st))) : Go p l e R s m args below meth c n0 Q K N h ce sl (mkF m pc Ls (.long y :: .long x :: st)) := by
  subst hp
  exact Go.step (fun T A _ q => XT.lsub A C.1 rfl (hb C.2.1 hd) rfl q) hr
theorem go_land (C : Cx p s m meth c Z own bs mx rt nm) {x y : Int64} (hd : decode bs pc = .ok (.land, 1)) (hp : pc + 1 = pc') (hr : Go p l e R s m args below meth c n0 Q K N h ce sl (mkF m pc' Ls (.long (x &&& y) :: st))) : Go p l e R s m args below meth c n0 Q K N h ce sl (mkF m pc Ls (.long y :: .long x :: st)) := by
  subst hp
  exact Go.step (fun T A _ q => XT.land A C.1 rfl (hb C.2.1 hd) rfl q) hr
theorem go_lmul (C : Cx p s m meth c Z own bs mx rt nm) {x y : Int64} (hd : decode bs pc = .ok (.lmul, 1)) (hp : pc + 1 = pc') (hr : Go p l e R s m args below meth c n0 Q K N h ce sl (mkF m pc' Ls (.long (x * y) :: st))) : Go p l e R s m args below meth c n0 Q K N h ce sl (mkF m pc Ls (.long y :: .long x :: st)) := by
  subst hp
  exact Go.step (fun T A _ q => XT.lmul A C.1 rfl (hb C.2.1 hd) rfl q) hr
theorem go_lor (C : Cx p s m meth c Z own bs mx rt nm) {x y : Int64} (hd : decode bs pc = .ok (.lor, 1)) (hp : pc + 1 = pc') (hr : Go p l e R s m args below meth c n0 Q K N h ce sl (mkF m pc' Ls (.long (x ||| y) :: st))) : Go p l e R s m args below meth c n0 Q K N h ce sl (mkF m pc Ls (.long y :: .long x :: st)) := by
  subst hp
  exact Go.step (fun T A _ q => XT.lor A C.1 rfl (hb C.2.1 hd) rfl q) hr
theorem go_lxor (C : Cx p s m meth c Z own bs mx rt nm) {x y : Int64} (hd : decode bs pc = .ok (.lxor, 1)) (hp : pc + 1 = pc') (hr : Go p l e R s m args below meth c n0 Q K N h ce sl (mkF m pc' Ls (.long (x ^^^ y) :: st))) : Go p l e R s m args below meth c n0 Q K N h ce sl (mkF m pc Ls (.long y :: .long x :: st)) := by
  subst hp
  exact Go.step (fun T A _ q => XT.lxor A C.1 rfl (hb C.2.1 hd) rfl q) hr
theorem go_idiv (C : Cx p s m meth c Z own bs mx rt nm) {x y : Int32} (hd : decode bs pc = .ok (.idiv, 1)) (hp : pc + 1 = pc') (hy : y ≠ 0) (hr : Go p l e R s m args below meth c n0 Q K N h ce sl (mkF m pc' Ls (.int (x / y) :: st))) : Go p l e R s m args below meth c n0 Q K N h ce sl (mkF m pc Ls (.int y :: .int x :: st)) := by
  subst hp
  exact Go.step (fun T A _ q => XS.idiv A C.1 rfl (hb C.2.1 hd) rfl hy q) hr
theorem go_irem (C : Cx p s m meth c Z own bs mx rt nm) {x y : Int32} (hd : decode bs pc = .ok (.irem, 1)) (hp : pc + 1 = pc') (hy : y ≠ 0) (hr : Go p l e R s m args below meth c n0 Q K N h ce sl (mkF m pc' Ls (.int (x % y) :: st))) : Go p l e R s m args below meth c n0 Q K N h ce sl (mkF m pc Ls (.int y :: .int x :: st)) := by
  subst hp
  exact Go.stepX (fun T locs X _ _ q => iremM X C.1 rfl (hb C.2.1 hd) rfl hy q) hr
theorem go_i2l (C : Cx p s m meth c Z own bs mx rt nm) {x : Int32} (hd : decode bs pc = .ok (.i2l, 1)) (hp : pc + 1 = pc') (hr : Go p l e R s m args below meth c n0 Q K N h ce sl (mkF m pc' Ls (.long x.toInt64 :: st))) : Go p l e R s m args below meth c n0 Q K N h ce sl (mkF m pc Ls (.int x :: st)) := by
  subst hp
  exact Go.step (fun T A _ q => XT.i2l A C.1 rfl (hb C.2.1 hd) rfl q) hr
theorem go_l2i (C : Cx p s m meth c Z own bs mx rt nm) {x : Int64} (hd : decode bs pc = .ok (.l2i, 1)) (hp : pc + 1 = pc') (hr : Go p l e R s m args below meth c n0 Q K N h ce sl (mkF m pc' Ls (.int x.toInt32 :: st))) : Go p l e R s m args below meth c n0 Q K N h ce sl (mkF m pc Ls (.long x :: st)) := by
  subst hp
  exact Go.step (fun T A _ q => XT.l2i A C.1 rfl (hb C.2.1 hd) rfl q) hr
theorem go_i2b (C : Cx p s m meth c Z own bs mx rt nm) {x : Int32} (hd : decode bs pc = .ok (.i2b, 1)) (hp : pc + 1 = pc') (hr : Go p l e R s m args below meth c n0 Q K N h ce sl (mkF m pc' Ls (.int x.toInt8.toInt32 :: st))) : Go p l e R s m args below meth c n0 Q K N h ce sl (mkF m pc Ls (.int x :: st)) := by
  subst hp
  exact Go.step (fun T A _ q => XT.i2b A C.1 rfl (hb C.2.1 hd) rfl q) hr
theorem go_i2c (C : Cx p s m meth c Z own bs mx rt nm) {x : Int32} (hd : decode bs pc = .ok (.i2c, 1)) (hp : pc + 1 = pc') (hr : Go p l e R s m args below meth c n0 Q K N h ce sl (mkF m pc' Ls (.int x.toUInt32.toUInt16.toUInt32.toInt32 :: st))) : Go p l e R s m args below meth c n0 Q K N h ce sl (mkF m pc Ls (.int x :: st)) := by
  subst hp
  exact Go.step (fun T A _ q => XT.i2c A C.1 rfl (hb C.2.1 hd) rfl q) hr
theorem go_ineg (C : Cx p s m meth c Z own bs mx rt nm) {x : Int32} (hd : decode bs pc = .ok (.ineg, 1)) (hp : pc + 1 = pc') (hr : Go p l e R s m args below meth c n0 Q K N h ce sl (mkF m pc' Ls (.int (-x) :: st))) : Go p l e R s m args below meth c n0 Q K N h ce sl (mkF m pc Ls (.int x :: st)) := by
  subst hp
  exact Go.step (fun T A _ q => XS.ineg A C.1 rfl (hb C.2.1 hd) rfl q) hr
theorem go_dup (C : Cx p s m meth c Z own bs mx rt nm) {v : Value} (hd : decode bs pc = .ok (.dup, 1)) (hp : pc + 1 = pc') (hc : v.category = 1) (hr : Go p l e R s m args below meth c n0 Q K N h ce sl (mkF m pc' Ls (v :: v :: st))) : Go p l e R s m args below meth c n0 Q K N h ce sl (mkF m pc Ls (v :: st)) := by
  subst hp
  exact Go.step (fun T A _ q => XS.dup A C.1 rfl (hb C.2.1 hd) rfl hc q) hr
theorem go_pop (C : Cx p s m meth c Z own bs mx rt nm) {v : Value} (hd : decode bs pc = .ok (.pop, 1)) (hp : pc + 1 = pc') (hc : v.category = 1) (hr : Go p l e R s m args below meth c n0 Q K N h ce sl (mkF m pc' Ls st)) : Go p l e R s m args below meth c n0 Q K N h ce sl (mkF m pc Ls (v :: st)) := by
  subst hp
  exact Go.step (fun T A _ q => XT.pop A C.1 rfl (hb C.2.1 hd) rfl hc q) hr
theorem go_dup2 (C : Cx p s m meth c Z own bs mx rt nm) {v w : Value} (hd : decode bs pc = .ok (.dup2, 1)) (hp : pc + 1 = pc') (hc : v.category = 1) (hc' : w.category = 1) (hr : Go p l e R s m args below meth c n0 Q K N h ce sl (mkF m pc' Ls (v :: w :: v :: w :: st))) : Go p l e R s m args below meth c n0 Q K N h ce sl (mkF m pc Ls (v :: w :: st)) := by
  subst hp
  exact Go.step (fun T A _ q => XT.dup2 A C.1 rfl (hb C.2.1 hd) rfl hc hc' q) hr
theorem go_dup_x1 (C : Cx p s m meth c Z own bs mx rt nm) {v w : Value} (hd : decode bs pc = .ok (.dup_x1, 1)) (hp : pc + 1 = pc') (hc : v.category = 1) (hc' : w.category = 1) (hr : Go p l e R s m args below meth c n0 Q K N h ce sl (mkF m pc' Ls (v :: w :: v :: st))) : Go p l e R s m args below meth c n0 Q K N h ce sl (mkF m pc Ls (v :: w :: st)) := by
  subst hp
  exact Go.step (fun T A _ q => XT.dupX1 A C.1 rfl (hb C.2.1 hd) rfl hc hc' q) hr
theorem go_lushr (C : Cx p s m meth c Z own bs mx rt nm) {x : Int64} {y : Int32} (hd : decode bs pc = .ok (.lushr, 1)) (hp : pc + 1 = pc') (hr : Go p l e R s m args below meth c n0 Q K N h ce sl (mkF m pc' Ls (.long (XT.ushrL x y) :: st))) : Go p l e R s m args below meth c n0 Q K N h ce sl (mkF m pc Ls (.int y :: .long x :: st)) := by
  subst hp
  exact Go.step (fun T A _ q => XT.lushr A C.1 rfl (hb C.2.1 hd) rfl q) hr
theorem go_lshl (C : Cx p s m meth c Z own bs mx rt nm) {x : Int64} {y : Int32} (hd : decode bs pc = .ok (.lshl, 1)) (hp : pc + 1 = pc') (hr : Go p l e R s m args below meth c n0 Q K N h ce sl (mkF m pc' Ls (.long (x <<< (y.toInt64 &&& 63)) :: st))) : Go p l e R s m args below meth c n0 Q K N h ce sl (mkF m pc Ls (.int y :: .long x :: st)) := by
  subst hp
  exact Go.step (fun T A _ q => XT.lshl A C.1 rfl (hb C.2.1 hd) rfl q) hr
theorem go_ldiv (C : Cx p s m meth c Z own bs mx rt nm) {x y : Int64} (hd : decode bs pc = .ok (.ldiv, 1)) (hp : pc + 1 = pc') (hy : y ≠ 0) (hr : Go p l e R s m args below meth c n0 Q K N h ce sl (mkF m pc' Ls (.long (x / y) :: st))) : Go p l e R s m args below meth c n0 Q K N h ce sl (mkF m pc Ls (.long y :: .long x :: st)) := by
  subst hp
  exact Go.step (fun T A _ q => XT.ldiv A C.1 rfl (hb C.2.1 hd) rfl hy q) hr
theorem go_lrem (C : Cx p s m meth c Z own bs mx rt nm) {x y : Int64} (hd : decode bs pc = .ok (.lrem, 1)) (hp : pc + 1 = pc') (hy : y ≠ 0) (hr : Go p l e R s m args below meth c n0 Q K N h ce sl (mkF m pc' Ls (.long (x - (x / y) * y) :: st))) : Go p l e R s m args below meth c n0 Q K N h ce sl (mkF m pc Ls (.long y :: .long x :: st)) := by
  subst hp
  exact Go.step (fun T A _ q => XT.lrem A C.1 rfl (hb C.2.1 hd) rfl hy q) hr
theorem go_goto (C : Cx p s m meth c Z own bs mx rt nm) {o : Int} (hd : decode bs pc = .ok (.goto o, 3)) (ho : 0 ≤ (pc : Int) + o) (hp : ((pc : Int) + o).toNat = pc') (hr : Go p l e R s m args below meth c n0 Q K N h ce sl (mkF m pc' Ls st)) : Go p l e R s m args below meth c n0 Q K N h ce sl (mkF m pc Ls st) :=
  Go.step (fun T A _ q => XS.goto A C.1 rfl rfl (hb C.2.1 hd) ho hp q) hr
/-- what a comparison says, of integers -/
def cmpP (cd : ClassFile.Cond) (x y : Int) : Prop := match cd with | .eq => x = y | .ne => ¬ x = y | .lt => x < y | .ge => ¬ x < y | .gt => y < x | .le => ¬ y < x
def cmpN (cd : ClassFile.Cond) (x y : Int) : Prop := match cd with | .eq => ¬ x = y | .ne => x = y | .lt => ¬ x < y | .ge => x < y | .gt => ¬ y < x | .le => y < x
theorem cmpN_of {cd : ClassFile.Cond} {x y : Int} (h : ¬ cmpP cd x y) : cmpN cd x y := by
  cases cd <;> simp only [cmpP] at h <;> simp only [cmpN] <;> omega
theorem cmp_t {cd : ClassFile.Cond} {x y : Int32} (h : cmpP cd x.toInt y.toInt) : if_icmp.holds cd x y = true := by
  cases cd <;> simp only [cmpP] at h
  · exact XT.ii_eq_t (int_eq h)
  · exact XT.ii_ne_t fun q => h (by rw [q])
  · exact XT.ii_lt_t (Int32.lt_iff_toInt_lt.mpr h)
  · exact XT.ii_ge_t fun q => h (Int32.lt_iff_toInt_lt.mp q)
  · exact XT.ii_gt_t (Int32.lt_iff_toInt_lt.mpr h)
  · exact XT.ii_le_t fun q => h (Int32.lt_iff_toInt_lt.mp q)
theorem cmp_f {cd : ClassFile.Cond} {x y : Int32} (h : ¬ cmpP cd x.toInt y.toInt) : if_icmp.holds cd x y = false := by
  cases cd <;> simp only [cmpP] at h
  · exact XT.ii_eq_f fun q => h (by rw [q])
  · exact XT.ii_ne_f (int_eq (Classical.not_not.mp h))
  · exact XT.ii_lt_f fun q => h (Int32.lt_iff_toInt_lt.mp q)
  · exact XT.ii_ge_f (Int32.lt_iff_toInt_lt.mpr (Classical.not_not.mp h))
  · exact XT.ii_gt_f fun q => h (Int32.lt_iff_toInt_lt.mp q)
  · exact XT.ii_le_f (Int32.lt_iff_toInt_lt.mpr (Classical.not_not.mp h))
theorem cmpL_t {cd : ClassFile.Cond} {x y : Int64} (h : cmpP cd x.toInt y.toInt) : ifCond.holds cd (XT.cmpL x y) = true := by
  cases cd <;> simp only [cmpP] at h
  · exact XT.ll_eq_t (long_eq h)
  · exact XT.ll_ne_t fun q => h (by rw [q])
  · exact XT.ll_lt_t (Int64.lt_iff_toInt_lt.mpr h)
  · exact XT.ll_ge_t fun q => h (Int64.lt_iff_toInt_lt.mp q)
  · exact XT.ll_gt_t (Int64.lt_iff_toInt_lt.mpr h)
  · exact XT.ll_le_t fun q => h (Int64.lt_iff_toInt_lt.mp q)
theorem cmpL_f {cd : ClassFile.Cond} {x y : Int64} (h : ¬ cmpP cd x.toInt y.toInt) : ifCond.holds cd (XT.cmpL x y) = false := by
  cases cd <;> simp only [cmpP] at h
  · exact XT.ll_eq_f fun q => h (by rw [q])
  · exact XT.ll_ne_f (long_eq (Classical.not_not.mp h))
  · exact XT.ll_lt_f fun q => h (Int64.lt_iff_toInt_lt.mp q)
  · exact XT.ll_ge_f (Int64.lt_iff_toInt_lt.mpr (Classical.not_not.mp h))
  · exact XT.ll_gt_f fun q => h (Int64.lt_iff_toInt_lt.mp q)
  · exact XT.ll_le_f (Int64.lt_iff_toInt_lt.mpr (Classical.not_not.mp h))
theorem go_icmp (C : Cx p s m meth c Z own bs mx rt nm) {cd : ClassFile.Cond} {x y : Int32} {o : Int} {pcN : Nat} (kx ky : Int) (hx : x.toInt = kx) (hy : y.toInt = ky) (hd : decode bs pc = .ok (.if_icmp cd o, 3)) (ho : 0 ≤ (pc : Int) + o) (hp : ((pc : Int) + o).toNat = pc') (hpn : pc + 3 = pcN) (h1 : cmpP cd kx ky → Go p l e R s m args below meth c n0 Q K N h ce sl (mkF m pc' Ls st)) (h2 : cmpN cd kx ky → Go p l e R s m args below meth c n0 Q K N h ce sl (mkF m pcN Ls st)) : Go p l e R s m args below meth c n0 Q K N h ce sl (mkF m pc Ls (.int y :: .int x :: st)) := by
  subst hpn hx hy
  by_cases q : cmpP cd x.toInt y.toInt
  · exact Go.step (fun T A _ k => XS.icmpYes A C.1 rfl rfl (hb C.2.1 hd) rfl (cmp_t q) ho hp k) (h1 q)
  · exact Go.step (fun T A _ k => XS.icmpNo A C.1 rfl (hb C.2.1 hd) rfl (cmp_f q) k) (h2 (cmpN_of q))
theorem go_if0 (C : Cx p s m meth c Z own bs mx rt nm) {cd : ClassFile.Cond} {x : Int32} {o : Int} {pcN : Nat} (kx : Int) (hx : x.toInt = kx) (hd : decode bs pc = .ok (.ifCond cd o, 3)) (ho : 0 ≤ (pc : Int) + o) (hp : ((pc : Int) + o).toNat = pc') (hpn : pc + 3 = pcN) (h1 : cmpP cd kx 0 → Go p l e R s m args below meth c n0 Q K N h ce sl (mkF m pc' Ls st)) (h2 : cmpN cd kx 0 → Go p l e R s m args below meth c n0 Q K N h ce sl (mkF m pcN Ls st)) : Go p l e R s m args below meth c n0 Q K N h ce sl (mkF m pc Ls (.int x :: st)) := by
  subst hpn hx
  by_cases q : cmpP cd x.toInt 0
  · exact Go.step (fun T A _ k => XS.ifYes A C.1 rfl rfl (hb C.2.1 hd) rfl ((if0 cd x).trans (cmp_t q)) ho hp k) (h1 q)
  · exact Go.step (fun T A _ k => XS.ifNo A C.1 rfl (hb C.2.1 hd) rfl ((if0 cd x).trans (cmp_f q)) k) (h2 (cmpN_of q))
theorem go_lcmp (C : Cx p s m meth c Z own bs mx rt nm) {cd : ClassFile.Cond} {x y : Int64} {o : Int} {pc1 pcN : Nat} (kx ky : Int) (hx : x.toInt = kx) (hy : y.toInt = ky) (hd0 : decode bs pc = .ok (.lcmp, 1)) (hp1 : pc + 1 = pc1) (hd : decode bs pc1 = .ok (.ifCond cd o, 3)) (ho : 0 ≤ (pc1 : Int) + o) (hp : ((pc1 : Int) + o).toNat = pc') (hpn : pc1 + 3 = pcN) (h1 : cmpP cd kx ky → Go p l e R s m args below meth c n0 Q K N h ce sl (mkF m pc' Ls st)) (h2 : cmpN cd kx ky → Go p l e R s m args below meth c n0 Q K N h ce sl (mkF m pcN Ls st)) : Go p l e R s m args below meth c n0 Q K N h ce sl (mkF m pc Ls (.long y :: .long x :: st)) := by
  subst hpn hp1 hx hy
  refine Go.step (g' := mkF m (pc + 1) Ls (.int (XT.cmpL x y) :: st)) (fun T A _ k => XT.lcmp A C.1 rfl (hb C.2.1 hd0) rfl k) ?_
  by_cases q : cmpP cd x.toInt y.toInt
  · exact Go.step (fun T A _ k => XS.ifYes A C.1 rfl rfl (hb C.2.1 hd) rfl (cmpL_t q) ho hp k) (h1 q)
  · exact Go.step (fun T A _ k => XS.ifNo A C.1 rfl (hb C.2.1 hd) rfl (cmpL_f q) k) (h2 (cmpN_of q))
theorem go_ifne_b (C : Cx p s m meth c Z own bs mx rt nm) {B : Prop} [Decidable B] {o : Int} {pcN : Nat} (hd : decode bs pc = .ok (.ifCond .ne o, 3)) (ho : 0 ≤ (pc : Int) + o) (hp : ((pc : Int) + o).toNat = pc') (hpn : pc + 3 = pcN) (h1 : B → Go p l e R s m args below meth c n0 Q K N h ce sl (mkF m pc' Ls st)) (h2 : ¬ B → Go p l e R s m args below meth c n0 Q K N h ce sl (mkF m pcN Ls st)) : Go p l e R s m args below meth c n0 Q K N h ce sl (mkF m pc Ls (.int (bi B) :: st)) := by
  refine go_if0 C _ rfl hd ho hp hpn (fun q => h1 ?_) (fun q => h2 ?_)
  · exact Classical.byContradiction fun z => q (by rw [bi_f z]; rfl)
  · exact fun z => by
      have q' : (bi B).toInt = 0 := q
      rw [bi_t z] at q'
      exact absurd q' (by decide)
theorem go_ifeq_b (C : Cx p s m meth c Z own bs mx rt nm) {B : Prop} [Decidable B] {o : Int} {pcN : Nat} (hd : decode bs pc = .ok (.ifCond .eq o, 3)) (ho : 0 ≤ (pc : Int) + o) (hp : ((pc : Int) + o).toNat = pc') (hpn : pc + 3 = pcN) (h1 : ¬ B → Go p l e R s m args below meth c n0 Q K N h ce sl (mkF m pc' Ls st)) (h2 : B → Go p l e R s m args below meth c n0 Q K N h ce sl (mkF m pcN Ls st)) : Go p l e R s m args below meth c n0 Q K N h ce sl (mkF m pc Ls (.int (bi B) :: st)) := by
  refine go_if0 C _ rfl hd ho hp hpn (fun q => h1 ?_) (fun q => h2 ?_)
  · exact fun z => by
      have q' : (bi B).toInt = 0 := q
      rw [bi_t z] at q'
      exact absurd q' (by decide)
  · exact Classical.byContradiction fun z => q (by rw [bi_f z]; rfl)
theorem go_ifnull_r (C : Cx p s m meth c Z own bs mx rt nm) {a : Addr} {o : Int} (hd : decode bs pc = .ok (.ifnull o, 3)) (hp : pc + 3 = pc') (hr : Go p l e R s m args below meth c n0 Q K N h ce sl (mkF m pc' Ls st)) : Go p l e R s m args below meth c n0 Q K N h ce sl (mkF m pc Ls (.ref a :: st)) := by
  subst hp
  exact Go.step (fun T A _ k => XS.ifnullNo A C.1 rfl (hb C.2.1 hd) rfl k) hr
theorem go_ifnull_n (C : Cx p s m meth c Z own bs mx rt nm) {o : Int} (hd : decode bs pc = .ok (.ifnull o, 3)) (ho : 0 ≤ (pc : Int) + o) (hp : ((pc : Int) + o).toNat = pc') (hr : Go p l e R s m args below meth c n0 Q K N h ce sl (mkF m pc' Ls st)) : Go p l e R s m args below meth c n0 Q K N h ce sl (mkF m pc Ls (.null :: st)) :=
  Go.step (fun T A _ k => XS.ifnullYes A C.1 rfl rfl (hb C.2.1 hd) rfl ho hp k) hr
theorem go_ldc (C : Cx p s m meth c Z own bs mx rt nm) {i : Nat} {v : Int32} (w : (Jvm.Cond.constant own i v).before a0 Z = true) (hd : decode bs pc = .ok (.ldc i, 2)) (hp : pc + 2 = pc') (hr : Go p l e R s m args below meth c n0 Q K N h ce sl (mkF m pc' Ls (.int v :: st))) : Go p l e R s m args below meth c n0 Q K N h ce sl (mkF m pc Ls st) := by
  subst hp
  exact Go.stepX (fun T locs X _ _ q => X.ldcI C.1 C.2.2.2.2.1 (mv C.2.2.2.1 w) rfl (hb C.2.1 hd) q) hr
theorem go_ldc2 (C : Cx p s m meth c Z own bs mx rt nm) {i : Nat} {v : Int64} (w : (Jvm.Cond.constantLong own i v).before a0 Z = true) (hd : decode bs pc = .ok (.ldc2_w i, 3)) (hp : pc + 3 = pc') (hr : Go p l e R s m args below meth c n0 Q K N h ce sl (mkF m pc' Ls (.long v :: st))) : Go p l e R s m args below meth c n0 Q K N h ce sl (mkF m pc Ls st) := by
  subst hp
  exact Go.stepX (fun T locs X _ _ q => X.ldc2J C.1 C.2.2.2.2.1 (mv C.2.2.2.1 w) rfl (hb C.2.1 hd) q) hr
theorem go_getfield (C : Cx p s m meth c Z own bs mx rt nm) {O n d : String} {i : Nat} {a : Addr} {v : Value} (w : (Jvm.Cond.fieldLink own i O n d).before a0 Z = true) (F0 : Fld Z h a O n d v) (hd : decode bs pc = .ok (.getfield i, 3)) (hp : pc + 3 = pc') (hr : Go p l e R s m args below meth c n0 Q K N h ce sl (mkF m pc' Ls (v :: st))) : Go p l e R s m args below meth c n0 Q K N h ce sl (mkF m pc Ls (.ref a :: st)) := by
  subst hp
  intro T locs X eT Nn
  obtain ⟨T', X', e', stp⟩ := getF X C.1 C.2.2.2.1 C.2.2.2.2.1 (host := "") (Or.inl w) Via.refl eT F0 (g := mkF m pc Ls (.ref a :: st)) rfl rfl (hb C.2.1 hd)
  obtain ⟨s₂, o, h1, r⟩ := hr T' locs X' e' Nn
  exact ⟨s₂, o, stp _ h1, r⟩
theorem go_putfield (C : Cx p s m meth c Z own bs mx rt nm) {O n d C0 : String} {i kk : Nat} {ty : FieldType} {a : Addr} {v old : Value} (w : (Jvm.Cond.fieldLink own i O n d).before a0 Z = true) (F0 : Fld Z h a O n d old) (E : Exa Z h a C0) (L : (Jvm.Cond.lays C0 O n d).before a0 Z = true ∨ ((Jvm.Cond.laysFinal C0 O n d).before a0 Z = true ∧ own = O ∧ nm = "<init>")) (wi : (Jvm.Cond.instantiable C0 kk).before a0 Z = true) (hty : parseFieldDescriptor d = some ty) (hn : narrow ty v = v) (hf : fits ty v = true) (ha : n0 ≤ a) (hd : decode bs pc = .ok (.putfield i, 3)) (hp : pc + 3 = pc') (hr : ∀ h', Wr h h' a (Jvm.RoadKit.slotOf Z O n d) v → Go p l e R s m args below meth c n0 Q K N h' ce sl (mkF m pc' Ls st)) : Go p l e R s m args below meth c n0 Q K N h ce sl (mkF m pc Ls (v :: .ref a :: st)) := by
  subst hp
  intro T locs X eT Nn
  obtain ⟨T', h', X', e', W', stp⟩ := putF X C.1 C.2.2.2.1 C.2.2.2.2.1 (host := "") (Or.inl w) Via.refl eT F0 E (L.imp id fun q => ⟨q.1, q.2.1, C.2.2.2.2.2.2.2.trans q.2.2⟩) wi hty hn hf (g := mkF m pc Ls (v :: .ref a :: st)) rfl rfl (hb C.2.1 hd)
  obtain ⟨s₂, o, h1, r⟩ := hr h' W' T' _ X' e' (Fr.snoc X' Nn ha)
  exact ⟨s₂, o, stp _ h1, r⟩
theorem go_new (C : Cx p s m meth c Z own bs mx rt nm) {C0 : String} {i k ce' sl' : Nat} (w : (Jvm.Cond.classLink own i C0).before a0 Z = true) (wi : (Jvm.Cond.instantiable C0 k).before a0 Z = true) (wz : (Jvm.Cond.initialized C0).before a0 Z = true) (hd : decode bs pc = .ok (.new i, 3)) (hp : pc + 3 = pc') (hce : ce + 1 = ce') (hsl : sl + k = sl') (hc : ce' ≤ R.cells) (hl : sl' ≤ R.slots)
    (hr : ∀ (h' : Heap) (a : Addr), h.size = a → Ext h h' → Exa Z h' a C0 → (∀ {O nm d : String} {ty : FieldType}, Laid Z a0 C0 O nm d → parseFieldDescriptor d = some ty → Fld Z h' a O nm d (defaultValue ty)) → Go p l e R s m args below meth c n0 Q K N h' ce' sl' (mkF m pc' Ls (.ref a :: st))) : Go p l e R s m args below meth c n0 Q K N h ce sl (mkF m pc Ls st) := by
  subst hp hce hsl
  intro T locs X eT Nn
  obtain ⟨T', h', X', e', E', A', D', -, stp⟩ := newO X C.1 C.2.2.2.1 C.2.2.2.2.1 w wi wz eT (g := mkF m pc Ls st) rfl (hb C.2.1 hd) hc hl
  obtain ⟨s₂, o, h1, r⟩ := hr h' _ rfl E' A' D' T' _ X' e' Nn
  exact ⟨s₂, o, stp _ h1, r⟩
/-- an array of type ty that holds just vs -/
def Av (Z : State) (h : Heap) (a : Addr) (ty : FieldType) (vs : List Value) : Prop := ∃ cl : Cell, Arr Z h a cl ty ∧ cl.slots.toList = vs ∧ vs.length < 2147483648
theorem Av.lt {ty : FieldType} {vs : List Value} {a : Addr} (A : Av Z h a ty vs) : a < h.size := by obtain ⟨c, A, -⟩ := A; exact A.lt
theorem Av.ext {ty : FieldType} {vs : List Value} {a : Addr} {h' : Heap} (A : Av Z h a ty vs) (E : Ext h h') : Av Z h' a ty vs := by obtain ⟨c, A, r⟩ := A; exact ⟨c, A.ext E, r⟩
theorem Av.other {ty : FieldType} {vs : List Value} {a b : Addr} {h' : Heap} {k : Nat} {v : Value} (A : Av Z h b ty vs) (W : Wr h h' a k v) (q : b ≠ a) : Av Z h' b ty vs := by obtain ⟨c, A, r⟩ := A; exact ⟨c, A.other W q, r⟩
theorem Av.keep {ty : FieldType} {vs : List Value} {a : Addr} {h' : Heap} {ws : List Addr} (A : Av Z h a ty vs) (K0 : Keep h h' ws) (q : a ∉ ws) : Av Z h' a ty vs := by obtain ⟨c, A, r⟩ := A; exact ⟨c, ⟨K0.2.1 a c A.1 q, A.2⟩, r⟩
theorem own_ne_arr {C0 : String} {ty : FieldType} {vs : List Value} {a b : Addr} {k : Nat} (F0 : Exa Z h a C0) (wi : (Jvm.Cond.instantiable C0 k).before a0 Z = true) (G : Av Z h b ty vs) : a ≠ b := by obtain ⟨c, G, -⟩ := G; exact ne_arr F0 wi G
theorem clamp_of {j : Int32} {k : Nat} (hj : j.toInt = k) : j.toNatClampNeg = k := by
  show j.toInt.toNat = k
  rw [hj]; rfl
theorem nonneg_of {j : Int32} {k : Nat} (hj : j.toInt = k) : ¬ j < 0 := fun q => by
  have := Int32.lt_iff_toInt_lt.mp q
  rw [hj] at this
  exact absurd this (by show ¬ (k : Int) < 0; omega)
theorem Av.at {ty : FieldType} {vs : List Value} {a : Addr} (A : Av Z h a ty vs) {j : Int32} {k : Nat} (hj : j.toInt = k) (hk : k < vs.length) : ∃ cl : Cell, Arr Z h a cl ty ∧ cl.slots.toList = vs ∧ ¬ (j < 0 ∨ cl.slots.size ≤ j.toNatClampNeg) ∧ cl.slots[j.toNatClampNeg]? = vs[k]? := by
  obtain ⟨cl, A, e1, e2⟩ := A
  refine ⟨cl, A, e1, ?_, ?_⟩
  · rw [clamp_of hj]
    intro q
    rcases q with q | q
    · exact nonneg_of hj q
    · rw [← e1] at hk; simp at hk; omega
  · rw [clamp_of hj, ← e1]; simp
theorem Av.set {ty : FieldType} {vs : List Value} {a : Addr} {h' : Heap} {k : Nat} {v : Value} (A : Av Z h a ty vs) (W : Wr h h' a k v) : Av Z h' a ty (vs.set k v) := by
  obtain ⟨cl, A, e1, e2⟩ := A
  exact ⟨_, A.same W, by rw [← e1]; simp [Cell.setSlot], by simpa using e2⟩
/-- n ints, whichever -/
def Ints (vs : List Value) (n : Nat) : Prop := vs.length = n ∧ ∀ k, k < n → ∃ x : Int32, vs[k]? = some (.int x)
theorem Ints.rep (n : Nat) (x : Int32) : Ints (List.replicate n (.int x)) n := ⟨by simp, fun k hk => ⟨x, by simp [hk]⟩⟩
theorem Ints.set {vs : List Value} {n k : Nat} (x : Int32) (I : Ints vs n) : Ints (vs.set k (.int x)) n := ⟨by simpa using I.1, fun j hj => by
  by_cases q : k = j
  · subst q
    exact ⟨x, by rw [List.getElem?_set_self (by rw [I.1]; exact hj)]⟩
  · obtain ⟨y, hy⟩ := I.2 j hj
    exact ⟨y, by rw [List.getElem?_set_ne q]; exact hy⟩⟩
theorem go_arraylength (C : Cx p s m meth c Z own bs mx rt nm) {ty : FieldType} {vs : List Value} {a : Addr} (A : Av Z h a ty vs) (n : Int32) (hn : n.toInt = vs.length) (hd : decode bs pc = .ok (.arraylength, 1)) (hp : pc + 1 = pc') (hr : Go p l e R s m args below meth c n0 Q K N h ce sl (mkF m pc' Ls (.int n :: st))) : Go p l e R s m args below meth c n0 Q K N h ce sl (mkF m pc Ls (.ref a :: st)) := by
  subst hp
  obtain ⟨cl, A, e1, e2⟩ := A
  have q : cl.slots.size.toInt32 = n := by
    have hl : cl.slots.size = vs.length := by rw [← e1]; simp
    rw [hl]
    refine int_eq ?_
    rw [hn]
    exact Int32.toInt_ofNat_of_lt (by omega)
  exact Go.stepX (fun T locs X eT _ k => X.arraylength C.1 (cell := cl) (by rw [eT]; exact A.1) (State.isArrayOf_alike C.2.2.2.1.alike A.2.1) (g := mkF m pc Ls (.ref a :: st)) rfl rfl (hb C.2.1 hd) _ (by rw [q]; exact k)) hr
theorem go_iaload (C : Cx p s m meth c Z own bs mx rt nm) {vs : List Value} {a : Addr} {j : Int32} (A : Av Z h a .int vs) (k : Nat) (v : Value) (hj : j.toInt = k) (hv : vs[k]? = some v) (hd : decode bs pc = .ok (.iaload, 1)) (hp : pc + 1 = pc') (hr : Go p l e R s m args below meth c n0 Q K N h ce sl (mkF m pc' Ls (v :: st))) : Go p l e R s m args below meth c n0 Q K N h ce sl (mkF m pc Ls (.int j :: .ref a :: st)) := by
  subst hp
  obtain ⟨cl, A, e1, e2, e3⟩ := A.at hj (List.getElem?_eq_some_iff.mp hv).1
  exact Go.stepX (fun T locs X eT _ q => X.iaload C.1 (j := j) (v := v) (by rw [eT]; exact A.1) (State.isArrayOf_alike C.2.2.2.1.alike A.2.1) A.2.2 e2 (e3.trans hv) (g := mkF m pc Ls (.int j :: .ref a :: st)) rfl rfl (hb C.2.1 hd) _ q) hr
theorem go_laload (C : Cx p s m meth c Z own bs mx rt nm) {vs : List Value} {a : Addr} {j : Int32} (A : Av Z h a .long vs) (k : Nat) (v : Value) (hj : j.toInt = k) (hv : vs[k]? = some v) (hd : decode bs pc = .ok (.laload, 1)) (hp : pc + 1 = pc') (hr : Go p l e R s m args below meth c n0 Q K N h ce sl (mkF m pc' Ls (v :: st))) : Go p l e R s m args below meth c n0 Q K N h ce sl (mkF m pc Ls (.int j :: .ref a :: st)) := by
  subst hp
  obtain ⟨cl, A, e1, e2, e3⟩ := A.at hj (List.getElem?_eq_some_iff.mp hv).1
  exact Go.stepX (fun T locs X eT _ q => X.laload C.1 (j := j) (v := v) (by rw [eT]; exact A.1) (State.isArrayOf_alike C.2.2.2.1.alike A.2.1) A.2.2 e2 (e3.trans hv) (g := mkF m pc Ls (.int j :: .ref a :: st)) rfl rfl (hb C.2.1 hd) _ q) hr
theorem go_baload (C : Cx p s m meth c Z own bs mx rt nm) {vs : List Value} {a : Addr} {j : Int32} (A : Av Z h a .byte vs) (k : Nat) (v : Value) (hj : j.toInt = k) (hv : vs[k]? = some v) (hd : decode bs pc = .ok (.baload, 1)) (hp : pc + 1 = pc') (hr : Go p l e R s m args below meth c n0 Q K N h ce sl (mkF m pc' Ls (v :: st))) : Go p l e R s m args below meth c n0 Q K N h ce sl (mkF m pc Ls (.int j :: .ref a :: st)) := by
  subst hp
  obtain ⟨cl, A, e1, e2, e3⟩ := A.at hj (List.getElem?_eq_some_iff.mp hv).1
  exact Go.stepX (fun T locs X eT _ q => X.baloadBytes C.1 (j := j) (v := v) (by rw [eT]; exact A.1) (State.isArrayOf_alike C.2.2.2.1.alike A.2.1) A.2.2 e2 (e3.trans hv) (g := mkF m pc Ls (.int j :: .ref a :: st)) rfl rfl (hb C.2.1 hd) _ q) hr
theorem go_iastore (C : Cx p s m meth c Z own bs mx rt nm) {vs : List Value} {a : Addr} {j : Int32} {x : Int32} (A : Av Z h a .int vs) (k : Nat) (hj : j.toInt = k) (hk : k < vs.length) (ha : n0 ≤ a) (hd : decode bs pc = .ok (.iastore, 1)) (hp : pc + 1 = pc') (hr : ∀ h', Wr h h' a k (.int x) → Av Z h' a .int (vs.set k (.int x)) → Go p l e R s m args below meth c n0 Q K N h' ce sl (mkF m pc' Ls st)) : Go p l e R s m args below meth c n0 Q K N h ce sl (mkF m pc Ls (.int x :: .int j :: .ref a :: st)) := by
  subst hp
  obtain ⟨cl, A1, e1, e2, e3⟩ := A.at hj hk
  intro T locs X eT Nn
  obtain ⟨T', h', X', e', W', stp⟩ := stI X C.1 C.2.2.2.1 eT A1 e2 (g := mkF m pc Ls (.int x :: .int j :: .ref a :: st)) rfl rfl (hb C.2.1 hd)
  have W2 : Wr h h' a k (.int x) := by rw [clamp_of hj] at W'; exact W'
  obtain ⟨s₂, o, h1, r⟩ := hr h' W2 (A.set W2) T' _ X' e' (Fr.snoc X' Nn ha)
  exact ⟨s₂, o, stp _ h1, r⟩
theorem go_lastore (C : Cx p s m meth c Z own bs mx rt nm) {vs : List Value} {a : Addr} {j : Int32} {x : Int64} (A : Av Z h a .long vs) (k : Nat) (hj : j.toInt = k) (hk : k < vs.length) (ha : n0 ≤ a) (hd : decode bs pc = .ok (.lastore, 1)) (hp : pc + 1 = pc') (hr : ∀ h', Wr h h' a k (.long x) → Av Z h' a .long (vs.set k (.long x)) → Go p l e R s m args below meth c n0 Q K N h' ce sl (mkF m pc' Ls st)) : Go p l e R s m args below meth c n0 Q K N h ce sl (mkF m pc Ls (.long x :: .int j :: .ref a :: st)) := by
  subst hp
  obtain ⟨cl, A1, e1, e2, e3⟩ := A.at hj hk
  intro T locs X eT Nn
  obtain ⟨T', h', X', e', W', stp⟩ := stJ X C.1 C.2.2.2.1 eT A1 e2 (g := mkF m pc Ls (.long x :: .int j :: .ref a :: st)) rfl rfl (hb C.2.1 hd)
  have W2 : Wr h h' a k (.long x) := by rw [clamp_of hj] at W'; exact W'
  obtain ⟨s₂, o, h1, r⟩ := hr h' W2 (A.set W2) T' _ X' e' (Fr.snoc X' Nn ha)
  exact ⟨s₂, o, stp _ h1, r⟩
theorem go_bastore (C : Cx p s m meth c Z own bs mx rt nm) {vs : List Value} {a : Addr} {j : Int32} {x : Int32} (A : Av Z h a .byte vs) (k : Nat) (hj : j.toInt = k) (hk : k < vs.length) (x' : Int32) (hx : x.toInt8.toInt32 = x') (ha : n0 ≤ a) (hd : decode bs pc = .ok (.bastore, 1)) (hp : pc + 1 = pc') (hr : ∀ h', Wr h h' a k (.int x') → Av Z h' a .byte (vs.set k (.int x')) → Go p l e R s m args below meth c n0 Q K N h' ce sl (mkF m pc' Ls st)) : Go p l e R s m args below meth c n0 Q K N h ce sl (mkF m pc Ls (.int x :: .int j :: .ref a :: st)) := by
  subst hp hx
  obtain ⟨cl, A1, e1, e2, e3⟩ := A.at hj hk
  intro T locs X eT Nn
  obtain ⟨T', h', X', e', W', stp⟩ := stB X C.1 C.2.2.2.1 eT A1 e2 (g := mkF m pc Ls (.int x :: .int j :: .ref a :: st)) rfl rfl (hb C.2.1 hd)
  have W2 : Wr h h' a k (.int x.toInt8.toInt32) := by rw [clamp_of hj] at W'; exact W'
  obtain ⟨s₂, o, h1, r⟩ := hr h' W2 (A.set W2) T' _ X' e' (Fr.snoc X' Nn ha)
  exact ⟨s₂, o, stp _ h1, r⟩
theorem go_newarray (C : Cx p s m meth c Z own bs mx rt nm) {aty : ArrayType} {ty : FieldType} {n : Int32} {ce' sl' : Nat} (w : (Jvm.Cond.arrayClass ty).before a0 Z = true) (hty : newarray.typeOf aty = ty) (k cap : Nat) (hn : n.toInt = k) (hcap : k ≤ cap) (hc8 : cap * 8 ≤ 536870912) (hce : ce + 1 = ce') (hsl : sl + cap = sl') (hc : ce' ≤ R.cells) (hl : sl' ≤ R.slots) (hd : decode bs pc = .ok (.newarray aty, 2)) (hp : pc + 2 = pc')
    (hr : ∀ (h' : Heap) (a : Addr), h.size = a → Ext h h' → Av Z h' a ty (List.replicate k (defaultValue ty)) → Go p l e R s m args below meth c n0 Q K N h' ce' sl' (mkF m pc' Ls (.ref a :: st))) : Go p l e R s m args below meth c n0 Q K N h ce sl (mkF m pc Ls (.int n :: st)) := by
  subst hp hty hce hsl
  intro T locs X eT Nn
  obtain ⟨T', h', cA, X', e', E', A', stp⟩ := newP X C.1 C.2.2.2.1 w eT (g := mkF m pc Ls (.int n :: st)) rfl (hb C.2.1 hd) rfl (nonneg_of hn) (cap := cap) (by rw [clamp_of hn]; exact hcap) hc8 hc hl
  have hb31 : k < 2147483648 := by have := n.toInt_lt; omega
  obtain ⟨s₂, o, h1, r⟩ := hr h' _ rfl E' ⟨_, A', by simp [newA, clamp_of hn], by simpa using hb31⟩ T' _ X' e' Nn
  exact ⟨s₂, o, stp _ h1, r⟩
theorem go_newarrayE (C : Cx p s m meth c Z own bs mx rt nm) {aty : ArrayType} {ty : FieldType} {n : Int32} {ce' sl' : Nat} {ad : String} (w : (Jvm.Cond.arrayClass ty).before a0 Z = true) (hty : newarray.typeOf aty = ty) (had : "[" ++ ty.toString = ad) (k cap : Nat) (hn : n.toInt = k) (hcap : k ≤ cap) (hc8 : cap * 8 ≤ 536870912) (hce : ce + 1 = ce') (hsl : sl + cap = sl') (hc : ce' ≤ R.cells) (hl : sl' ≤ R.slots) (hd : decode bs pc = .ok (.newarray aty, 2)) (hp : pc + 2 = pc')
    (hr : ∀ (h' : Heap) (a : Addr), h.size = a → Ext h h' → Exa Z h' a ad → Av Z h' a ty (List.replicate k (defaultValue ty)) → Go p l e R s m args below meth c n0 Q K N h' ce' sl' (mkF m pc' Ls (.ref a :: st))) : Go p l e R s m args below meth c n0 Q K N h ce sl (mkF m pc Ls (.int n :: st)) := by
  subst hp hty hce hsl
  intro T locs X eT Nn
  obtain ⟨T', h', cA, X', e', E', A', Q', stp⟩ := newPE X C.1 C.2.2.2.1 w eT (g := mkF m pc Ls (.int n :: st)) rfl (hb C.2.1 hd) rfl (nonneg_of hn) (cap := cap) (by rw [clamp_of hn]; exact hcap) hc8 hc hl had
  have hb31 : k < 2147483648 := by have := n.toInt_lt; omega
  obtain ⟨s₂, o, h1, r⟩ := hr h' _ rfl E' Q' ⟨_, A', by simp [newA, clamp_of hn], by simpa using hb31⟩ T' _ X' e' Nn
  exact ⟨s₂, o, stp _ h1, r⟩
theorem go_clone (C : Cx p s m meth c Z own bs mx rt nm) {i : Nat} {ad : String} {ty : FieldType} {vs : List Value} {a : Addr} {W cap ce' sl' : Nat} (w1 : (Jvm.Cond.methodLink own i ⟨ad, "clone", "()Ljava/lang/Object;"⟩).before a0 Z = true) (w2 : (Jvm.Cond.sameMethod ad "java/lang/Object" "clone" "()Ljava/lang/Object;").before a0 Z = true) (w3 : (Jvm.Cond.native ⟨"java/lang/Object", "clone", "()Ljava/lang/Object;"⟩).before a0 Z = true) (w4 : (Jvm.Cond.instanceMethod ⟨"java/lang/Object", "clone", "()Ljava/lang/Object;"⟩).before a0 Z = true) (w5 : (Jvm.Cond.selects ad ⟨ad, "clone", "()Ljava/lang/Object;"⟩ ⟨"java/lang/Object", "clone", "()Ljava/lang/Object;"⟩).before a0 Z = true) (w6 : (Jvm.Cond.castable ad "java/lang/Cloneable").before a0 Z = true) (A : Av Z h a ty vs) (E : Exa Z h a ad) (hfit : ∀ v ∈ vs, fits ty v = true) (hls : Ls.size = mx) (hf : 1 ≤ R.frames) (hW : wt st = W) (hlo : W + 14 ≤ R.locals) (hcap : vs.length ≤ cap) (hce : ce + 1 = ce') (hsl : sl + cap = sl') (hc : ce' ≤ R.cells) (hl : sl' ≤ R.slots) (hd : decode bs pc = .ok (.invokevirtual i, 3)) (hp : pc + 3 = pc')
    (hr : ∀ (h' : Heap) (b : Addr), h.size = b → Ext h h' → Exa Z h' b ad → Av Z h' b ty vs → Go p l e R s m args below meth c n0 Q K N h' ce' sl' (mkF m pc' Ls (.ref b :: st))) : Go p l e R s m args below meth c n0 Q K N h ce sl (mkF m pc Ls (.ref a :: st)) := by
  subst hp hce hsl
  intro T locs X eT Nn
  obtain ⟨cl, A1, e1, e2⟩ := A
  have hsz : cl.slots.size = vs.length := by rw [← e1]; simp
  have FC : FitC Z cl := fitC_of A1 fun i hi v hv => hfit v (by rw [← e1]; exact Array.mem_toList_iff.mpr (Array.mem_of_getElem? hv))
  obtain ⟨T', h', X', e', E', A', Q', stp⟩ := cloneA X C.1 C.2.2.2.1 C.2.2.2.2.1 w1 w2 w3 w4 w5 w6 eT A1 E FC (g := mkF m pc Ls (.ref a :: st)) rfl (hls.trans C.2.2.1.symm) rfl (hb C.2.1 hd) hf (W := W) (cap := cap) (by show 2 * 0 + wt st ≤ W; omega) hlo (by rw [hsz]; exact hcap) hc hl
  obtain ⟨s₂, o, h1, r⟩ := hr h' _ rfl E' Q' ⟨_, A', e1, e2⟩ T' _ X' e' Nn
  exact ⟨s₂, o, stp _ h1, r⟩
theorem go_checkcast (C : Cx p s m meth c Z own bs mx rt nm) {i : Nat} {K0 : String} {a : Addr} (w : (Jvm.Cond.classLink own i K0).before a0 Z = true) (E : Exa Z h a K0) (hd : decode bs pc = .ok (.checkcast i, 3)) (hp : pc + 3 = pc') (hr : Go p l e R s m args below meth c n0 Q K N h ce sl (mkF m pc' Ls (.ref a :: st))) : Go p l e R s m args below meth c n0 Q K N h ce sl (mkF m pc Ls (.ref a :: st)) := by
  subst hp
  intro T locs X eT Nn
  obtain ⟨T', X', e', stp⟩ := castY X C.1 C.2.2.2.1 C.2.2.2.2.1 w eT (Ins.self E) (g := mkF m pc Ls (.ref a :: st)) rfl rfl (hb C.2.1 hd)
  obtain ⟨s₂, o, h1, r⟩ := hr T' locs X' e' Nn
  exact ⟨s₂, o, stp _ h1, r⟩
theorem go_objinit (C : Cx p s m meth c Z own bs mx rt nm) {i : Nat} {a : Addr} {W : Nat} (w1 : (Jvm.Cond.methodLink own i Lib.objectInit).before a0 Z = true) (w2 : (Jvm.Cond.instanceMethod Lib.objectInit).before a0 Z = true) (w3 : (Jvm.Cond.code Lib.objectInit ⟨#[0xb1]⟩ 1 none).before a0 Z = true) (hls : Ls.size = mx) (hf : 1 ≤ R.frames) (hW : wt st = W) (hl : W + 12 ≤ R.locals) (hd : decode bs pc = .ok (.invokespecial i, 3)) (hp : pc + 3 = pc') (hr : Go p l e R s m args below meth c n0 Q K N h ce sl (mkF m pc' Ls st)) : Go p l e R s m args below meth c n0 Q K N h ce sl (mkF m pc Ls (.ref a :: st)) := by
  subst hp
  intro T locs X eT Nn
  obtain ⟨T', X', e', stp⟩ := initO X C.1 C.2.2.2.1 C.2.2.2.2.1 w1 w2 w3 eT (g := mkF m pc Ls (.ref a :: st)) rfl (hls.trans C.2.2.1.symm) rfl (hb C.2.1 hd) hf (W := W) (by show 2 * 0 + wt st ≤ W; omega) hl
  obtain ⟨s₂, o, h1, r⟩ := hr T' locs X' e' Nn
  exact ⟨s₂, o, stp _ h1, r⟩
theorem back_of_sat {y : MethodName} {cb : ByteArray} {cm : Nat} {cr : Option FieldType} {rm : Room} {as : List Value} {Qc : Option Value → Heap → Prop} {W len : Nat} (S : Sat l Z y cb cm cr rm as h n0 Qc) (hZ : Z.Warmed39 s.vm) (w3 : (Jvm.Cond.initialized y.cls).before a0 Z = true) (w4 : (Jvm.Cond.code y cb cm cr).before a0 Z = true) (hfr : rm.frames + 1 ≤ R.frames) (hlo : W + (cm + 11) + rm.locals ≤ R.locals) :
    Back l R p e below s args y len W (fun A a => a = as.toArray ∧ A.U.heap = h ∧ A.cells + rm.cells ≤ R.cells ∧ A.slots + rm.slots ≤ R.slots) (fun A _ v B => ∃ L, (Qc v B.U.heap ∧ Fr n0 L) ∧ B.locs = A.locs ++ L ∧ B.cells = A.cells + rm.cells ∧ B.slots = A.slots + rm.slots) :=
  backOf (Q := fun v h L => Qc v h ∧ Fr n0 L) (W := W) (S []) hZ w4 w3 hfr hlo
theorem go_static (C : Cx p s m meth c Z own bs mx rt nm) {y : MethodName} {i : Nat} {cb : ByteArray} {cm : Nat} {cr : Option FieldType} {rm : Room} {as rest : List Value} {W : Nat} {ps : List FieldType} {pr : Option FieldType} {ce' sl' : Nat} {Qc : Option Value → Heap → Prop} (S : Sat l Z y cb cm cr rm as h n0 Qc) (w1 : (Jvm.Cond.methodLink own i y).before a0 Z = true) (w2 : (Jvm.Cond.static y).before a0 Z = true) (w3 : (Jvm.Cond.initialized y.cls).before a0 Z = true) (w4 : (Jvm.Cond.code y cb cm cr).before a0 Z = true) (hy : y.cls ≠ "java/lang/invoke/MethodHandle" ∧ y.cls ≠ "java/lang/invoke/VarHandle") (hpd : parseMethodDescriptor y.desc = some ⟨ps, pr⟩) (hlen : as.length = ps.length) (hls : Ls.size = mx) (hW : wt rest = W) (hfr : rm.frames + 1 ≤ R.frames) (hlo : W + (cm + 11) + rm.locals ≤ R.locals) (hce : ce + rm.cells = ce') (hsl : sl + rm.slots = sl') (hcc : ce' ≤ R.cells) (hss : sl' ≤ R.slots) (hd : decode bs pc = .ok (.invokestatic i, 3)) (hp : pc + 3 = pc') (hst : st = as.reverse ++ rest) (hr : ∀ v h', Qc v h' → Go p l e R s m args below meth c n0 Q K N h' ce' sl' (mkF m pc' Ls (v.toList ++ rest))) : Go p l e R s m args below meth c n0 Q K N h ce sl (mkF m pc Ls st) := by
  subst hp hce hsl
  intro T locs X eT Nn
  have hZ := C.2.2.2.1
  obtain ⟨v, _, ⟨T', L', k', n'⟩, -, X', ⟨Lc, hQ, l', y', z'⟩, stp⟩ := Jvm.LawKit.callS X C.1 (y := y) C.2.2.2.2.1 (mvT hZ w1) (mvT hZ w2) (mvT hZ w3) (mvT hZ w4) hy (back_of_sat S hZ w3 w4 hfr hlo) (g := mkF m pc Ls st) rfl (hls.trans C.2.2.1.symm) (argsL := as) (rest := rest) (lenOf hpd hlen) hst (by show 2 * 0 + wt rest ≤ W; omega) (hb C.2.1 hd) (fun _ _ => ⟨rfl, eT, hcc, hss⟩)
  dsimp only [Pt.U, Pt.locs, Pt.cells, Pt.slots] at X' l' y' z' stp hQ
  subst l' y' z'
  obtain ⟨s₂, o, h1, r⟩ := hr v T'.heap hQ.1 T' _ X' rfl (Fr.app Nn hQ.2)
  exact ⟨s₂, o, stp _ h1, r⟩
theorem go_special (C : Cx p s m meth c Z own bs mx rt nm) {y : MethodName} {i : Nat} {cb : ByteArray} {cm : Nat} {rm : Room} {as rest : List Value} {W : Nat} {ps : List FieldType} {pr : Option FieldType} {ce' sl' : Nat} {a : Addr} {Qc : Option Value → Heap → Prop} (S : Sat l Z y cb cm none rm (.ref a :: as) h n0 Qc) (hyn : y.name = "<init>") (w1 : (Jvm.Cond.methodLink own i y).before a0 Z = true) (w2 : (Jvm.Cond.instanceMethod y).before a0 Z = true) (w3 : (Jvm.Cond.initialized y.cls).before a0 Z = true) (w4 : (Jvm.Cond.code y cb cm none).before a0 Z = true) (hy : y.cls ≠ "java/lang/invoke/MethodHandle" ∧ y.cls ≠ "java/lang/invoke/VarHandle") (hpd : parseMethodDescriptor y.desc = some ⟨ps, pr⟩) (hlen : as.length = ps.length) (hls : Ls.size = mx) (hW : wt rest = W) (hfr : rm.frames + 1 ≤ R.frames) (hlo : W + (cm + 11) + rm.locals ≤ R.locals) (hce : ce + rm.cells = ce') (hsl : sl + rm.slots = sl') (hcc : ce' ≤ R.cells) (hss : sl' ≤ R.slots) (hd : decode bs pc = .ok (.invokespecial i, 3)) (hp : pc + 3 = pc') (hst : st = as.reverse ++ .ref a :: rest) (hr : ∀ v h', Qc v h' → Go p l e R s m args below meth c n0 Q K N h' ce' sl' (mkF m pc' Ls (v.toList ++ rest))) : Go p l e R s m args below meth c n0 Q K N h ce sl (mkF m pc Ls st) := by
  subst hp hce hsl
  intro T locs X eT Nn
  have hZ := C.2.2.2.1
  obtain ⟨v, _, ⟨T', L', k', n'⟩, -, X', ⟨Lc, hQ, l', y', z'⟩, stp⟩ := X.specialBack C.1 (y := y) hyn C.2.2.2.2.1 (mvT hZ w1) (mvT hZ w2) (mvT hZ w4) hy (back_of_sat S hZ w3 w4 hfr hlo) (g := mkF m pc Ls st) rfl (hls.trans C.2.2.1.symm) (Steps.refl _) (a := a) (argsL := as) (rest := rest) (lenOf hpd hlen) hst (by show 2 * 0 + wt rest ≤ W; omega) (hb C.2.1 hd) (fun _ _ => ⟨rfl, eT, hcc, hss⟩)
  dsimp only [Pt.U, Pt.locs, Pt.cells, Pt.slots] at X' l' y' z' stp hQ
  subst l' y' z'
  obtain ⟨s₂, o, h1, r⟩ := hr v T'.heap hQ.1 T' _ X' rfl (Fr.app Nn hQ.2)
  exact ⟨s₂, o, stp.trans h1, r⟩
theorem go_virtual (C : Cx p s m meth c Z own bs mx rt nm) {y : MethodName} {i : Nat} {cb : ByteArray} {cm : Nat} {cr : Option FieldType} {rm : Room} {as rest : List Value} {W : Nat} {ps : List FieldType} {pr : Option FieldType} {ce' sl' : Nat} {a : Addr} {C0 : String} {Qc : Option Value → Heap → Prop} (S : Sat l Z y cb cm cr rm (.ref a :: as) h n0 Qc) (E : Exa Z h a C0) (w1 : (Jvm.Cond.methodLink own i y).before a0 Z = true) (w5 : (Jvm.Cond.declares y).before a0 Z = true) (w6 : (Jvm.Cond.selects C0 y y).before a0 Z = true) (w2 : (Jvm.Cond.instanceMethod y).before a0 Z = true) (w3 : (Jvm.Cond.initialized y.cls).before a0 Z = true) (w4 : (Jvm.Cond.code y cb cm cr).before a0 Z = true) (hy : y.cls ≠ "java/lang/invoke/MethodHandle" ∧ y.cls ≠ "java/lang/invoke/VarHandle") (hpd : parseMethodDescriptor y.desc = some ⟨ps, pr⟩) (hlen : as.length = ps.length) (hls : Ls.size = mx) (hW : wt rest = W) (hfr : rm.frames + 1 ≤ R.frames) (hlo : W + (cm + 11) + rm.locals ≤ R.locals) (hce : ce + rm.cells = ce') (hsl : sl + rm.slots = sl') (hcc : ce' ≤ R.cells) (hss : sl' ≤ R.slots) (hd : decode bs pc = .ok (.invokevirtual i, 3)) (hp : pc + 3 = pc') (hst : st = as.reverse ++ .ref a :: rest) (hr : ∀ v h', Qc v h' → Go p l e R s m args below meth c n0 Q K N h' ce' sl' (mkF m pc' Ls (v.toList ++ rest))) : Go p l e R s m args below meth c n0 Q K N h ce sl (mkF m pc Ls st) := by
  subst hp hce hsl
  intro T locs X eT Nn
  have hZ := C.2.2.2.1
  obtain ⟨cq, kq, qa, qb, qc⟩ := isOf hZ eT E
  obtain ⟨v, _, ⟨T', L', k', n'⟩, -, X', ⟨Lc, hQ, l', y', z'⟩, stp⟩ := X.virtualBack C.1 (y := y) (z := y) C.2.2.2.2.1 (mvT hZ w1) (mvT hZ w5) (notFace_of_selects (args := #[]) (mvT hZ w6)) (mvT hZ w6) (mvT hZ w2) hy (back_of_sat S hZ w3 w4 hfr hlo) qa qc (g := mkF m pc Ls st) rfl (hls.trans C.2.2.1.symm) (Steps.refl _) (argsL := as) (rest := rest) (lenOf hpd hlen) hst (by show 2 * 0 + wt rest ≤ W; omega) (hb C.2.1 hd) (fun _ _ => ⟨rfl, eT, hcc, hss⟩)
  dsimp only [Pt.U, Pt.locs, Pt.cells, Pt.slots] at X' l' y' z' stp hQ
  subst l' y' z'
  obtain ⟨s₂, o, h1, r⟩ := hr v T'.heap hQ.1 T' _ X' rfl (Fr.app Nn hQ.2)
  exact ⟨s₂, o, stp.trans h1, r⟩
theorem go_private (C : Cx p s m meth c Z own bs mx rt nm) {y : MethodName} {i : Nat} {cb : ByteArray} {cm : Nat} {cr : Option FieldType} {rm : Room} {as rest : List Value} {W : Nat} {ps : List FieldType} {pr : Option FieldType} {ce' sl' : Nat} {a : Addr} {C0 : String} {Qc : Option Value → Heap → Prop} (S : Sat l Z y cb cm cr rm (.ref a :: as) h n0 Qc) (E : Exa Z h a C0) (w1 : (Jvm.Cond.methodLink own i y).before a0 Z = true) (w5 : (Jvm.Cond.privateMethod y).before a0 Z = true) (w6 : (Jvm.Cond.selects y.cls y y).before a0 Z = true) (w2 : (Jvm.Cond.instanceMethod y).before a0 Z = true) (w3 : (Jvm.Cond.initialized y.cls).before a0 Z = true) (w4 : (Jvm.Cond.code y cb cm cr).before a0 Z = true) (hy : y.cls ≠ "java/lang/invoke/MethodHandle" ∧ y.cls ≠ "java/lang/invoke/VarHandle") (hpd : parseMethodDescriptor y.desc = some ⟨ps, pr⟩) (hlen : as.length = ps.length) (hls : Ls.size = mx) (hW : wt rest = W) (hfr : rm.frames + 1 ≤ R.frames) (hlo : W + (cm + 11) + rm.locals ≤ R.locals) (hce : ce + rm.cells = ce') (hsl : sl + rm.slots = sl') (hcc : ce' ≤ R.cells) (hss : sl' ≤ R.slots) (hd : decode bs pc = .ok (.invokevirtual i, 3)) (hp : pc + 3 = pc') (hst : st = as.reverse ++ .ref a :: rest) (hr : ∀ v h', Qc v h' → Go p l e R s m args below meth c n0 Q K N h' ce' sl' (mkF m pc' Ls (v.toList ++ rest))) : Go p l e R s m args below meth c n0 Q K N h ce sl (mkF m pc Ls st) := by
  subst hp hce hsl
  intro T locs X eT Nn
  have hZ := C.2.2.2.1
  obtain ⟨cell, hc1, hc2⟩ := E.cell
  obtain ⟨v, _, ⟨T', L', k', n'⟩, -, X', ⟨Lc, hQ, l', y', z'⟩, stp⟩ := X.privateBack C.1 (y := y) C.2.2.2.2.1 (mvT hZ w1) (mvT hZ w2) (mvT hZ w6) (Cond.privateMethod_at (args := #[]) (mvP hZ w5)) (mvT hZ w4) hy (back_of_sat S hZ w3 w4 hfr hlo) (g := mkF m pc Ls st) rfl (hls.trans C.2.2.1.symm) (Steps.refl _) (a := a) (by rw [eT]; exact hc1) hc2 (argsL := as) (rest := rest) (lenOf hpd hlen) hst (by show 2 * 0 + wt rest ≤ W; omega) (hb C.2.1 hd) (fun _ _ => ⟨rfl, eT, hcc, hss⟩)
  dsimp only [Pt.U, Pt.locs, Pt.cells, Pt.slots] at X' l' y' z' stp hQ
  subst l' y' z'
  obtain ⟨s₂, o, h1, r⟩ := hr v T'.heap hQ.1 T' _ X' rfl (Fr.app Nn hQ.2)
  exact ⟨s₂, o, stp.trans h1, r⟩
theorem own_selects_private {y : MethodName} {k : Nat} (wi : (Jvm.Cond.instantiable y.cls k).before a0 Z = true) (wp : (Jvm.Cond.privateMethod y).before a0 Z = true) (wm : (Jvm.Cond.instanceMethod y).before a0 Z = true) (hy : y.cls ≠ "java/lang/invoke/MethodHandle" ∧ y.cls ≠ "java/lang/invoke/VarHandle") : (Jvm.Cond.selects y.cls y y).before a0 Z = true := by
  obtain ⟨mk, methM, hnamed, hmethM, hstM, habM⟩ := Cond.instanceMethod_spec wm
  obtain ⟨c1, k1, q1, q2, q3, q4, -⟩ := Cond.instantiable_spec wi
  have hc := findClass_of_methodNamed hnamed
  cases q1.symm.trans hc
  have hf := State.methodFound?_of_named hnamed hy
  have hs : selectMethod {} Z.vm mk.cls mk = .method mk := selectMethod_private hmethM (Cond.privateMethod_at wp mk methM hnamed hmethM)
  have hi : k1.isInterface = false := by
    cases h : k1.isInterface
    · rfl
    · rw [h] at q4; simp at q4
  simp [Cond.before, Cond.holds, Cond.value, hc, hf, hnamed, hs, q2, hi]
theorem go_specialW (C : Cx p s m meth c Z own bs mx rt nm) {y : MethodName} {i : Nat} {cb : ByteArray} {cm : Nat} {rm : Room} {as rest : List Value} {W : Nat} {ps : List FieldType} {pr : Option FieldType} {ce' sl' : Nat} {a : Addr} {Qc : Option Value → Heap → Prop} (S : Sat l Z y cb cm none rm (.ref a :: as) h n0 Qc) (hyn : y.name = "<init>") (w1 : (Jvm.Cond.methodRef own i y).before a0 Z = true) (w2 : (Jvm.Cond.instanceMethod y).before a0 Z = true) (w3 : (Jvm.Cond.initialized y.cls).before a0 Z = true) (w4 : (Jvm.Cond.code y cb cm none).before a0 Z = true) (hy : y.cls ≠ "java/lang/invoke/MethodHandle" ∧ y.cls ≠ "java/lang/invoke/VarHandle") (hpd : parseMethodDescriptor y.desc = some ⟨ps, pr⟩) (hlen : as.length = ps.length) (hls : Ls.size = mx) (hW : wt rest = W) (hfr : rm.frames + 1 ≤ R.frames) (hlo : W + (cm + 11) + rm.locals ≤ R.locals) (hce : ce + rm.cells = ce') (hsl : sl + rm.slots = sl') (hcc : ce' ≤ R.cells) (hss : sl' ≤ R.slots) (hd : decode bs pc = .ok (.invokespecial i, 3)) (hp : pc + 3 = pc') (hst : st = as.reverse ++ .ref a :: rest) (hr : ∀ v h', Qc v h' → Go p l e R s m args below meth c n0 Q K N h' ce' sl' (mkF m pc' Ls (v.toList ++ rest))) : Go p l e R s m args below meth c n0 Q K N h ce sl (mkF m pc Ls st) := by
  subst hp hce hsl
  intro T locs X eT Nn
  have hZ := C.2.2.2.1
  have hT : Z.Warmed39 T.vm := wtrans hZ X.warmed
  obtain ⟨mZ, _, hnZ, -⟩ := Cond.instanceMethod_spec w2
  have w1T : (Jvm.Cond.methodRef own i y).before a0 T = true := (Cond.methodRef_warmed39 hT hnZ hy w1 :)
  obtain ⟨mO, methO, hnO, hmO, hstO, habO⟩ := Cond.instanceMethod_spec (mv (args := a0) hT w2)
  obtain ⟨methO', cO, hmO', hcO, hbO, hlO, -, hlockO, -, hsigO⟩ := Cond.code_spec hnO (mv (args := a0) hT w4)
  cases hmO.symm.trans hmO'
  obtain ⟨kO, hkO, hnameO⟩ := className_of_methodNamed hnO
  obtain ⟨hnameMO, hdescO⟩ := name_of_methodNamed hnO hmO
  have hownT : T.vm.findClass own = some m.cls := by rw [X.warmed.alike.findClass]; exact C.2.2.2.2.1
  obtain ⟨m', c', hf', hready, hfc, hnr⟩ := Cond.methodRef_named e hownT w1T
  have e1 : m' = mO := Option.some.inj (hf'.symm.trans (State.methodFound?_of_named hnO hy))
  subst e1
  have e2 : c' = m'.cls := Option.some.inj (hfc.symm.trans (findClass_of_methodNamed hnO))
  subst e2
  have hfound : lookupSpecial T.vm m'.cls "<init>" methO.desc = .method m' := by rw [hdescO, ← hyn]; exact lookupSpecial_of_named hnO hmO hstO
  have hstep : ∀ target, (∀ acts, Steps p.tables e below (doInvoke e (T.setTop { mkF m pc Ls st with stack := rest }) acts m' (.ref a :: as).toArray).1 target) → Steps p.tables e below (T.setTop (mkF m pc Ls st)) target := fun target hrest => by
    jvm_step X.here [C.1, (hb C.2.1 hd), invokespecial.wp_init (e := e) (s := T) (k := kO) (meth := methO) (m := m') (a := a) (args := as) (rest := rest) (f := mkF m pc Ls st) X.here.top hnr hready hkO hmO (by rw [hnameMO]; exact hyn) hstO habO hfound (lenOf hpd hlen _ hsigO) hst]
    exact hrest
  have B := back_of_sat (p := p) (e := e) (below := below) (args := args) (R := R) (len := 3) S hZ w3 w4 hfr hlo
  obtain ⟨v, ⟨T', L', k', n'⟩, X', ⟨Lc, hQ, l', y', z'⟩, stp⟩ := B m meth c ⟨T, locs, ce, sl⟩ { mkF m pc Ls st with stack := rest } (.invokespecial i) m' (.ref a :: as).toArray X rfl (hls.trans C.2.2.1.symm) (hb C.2.1 hd) (by show 2 * 0 + wt rest ≤ W; omega) hnO ⟨rfl, eT, hcc, hss⟩
  dsimp only [Pt.U, Pt.locs, Pt.cells, Pt.slots] at X' l' y' z' stp hQ
  subst l' y' z'
  obtain ⟨s₂, o, h1, r⟩ := hr v T'.heap hQ.1 T' _ X' rfl (Fr.app Nn hQ.2)
  exact ⟨s₂, o, (hstep _ (fun acts => by rw [doInvoke_state]; exact Steps.refl _)).trans (stp.trans h1), r⟩
theorem go_staticP (C : Cx p s m meth c Z own bs mx rt nm) {y : MethodName} {i : Nat} {cb : ByteArray} {cm : Nat} {cr : Option FieldType} {rm : Room} {as rest : List Value} {W : Nat} {ps : List FieldType} {pr : Option FieldType}  (v : Value) (S : Sat l Z y cb cm cr rm as h n0 (RV fun r h' => r = v ∧ h' = h)) (w1 : (Jvm.Cond.methodLink own i y).before a0 Z = true) (w2 : (Jvm.Cond.static y).before a0 Z = true) (w3 : (Jvm.Cond.initialized y.cls).before a0 Z = true) (w4 : (Jvm.Cond.code y cb cm cr).before a0 Z = true) (hy : y.cls ≠ "java/lang/invoke/MethodHandle" ∧ y.cls ≠ "java/lang/invoke/VarHandle") (hpd : parseMethodDescriptor y.desc = some ⟨ps, pr⟩) (hlen : as.length = ps.length) (hls : Ls.size = mx) (hW : wt rest = W) (hfr : rm.frames + 1 ≤ R.frames) (hlo : W + (cm + 11) + rm.locals ≤ R.locals) (hce : rm.cells = 0) (hsl : rm.slots = 0) (hcc : ce ≤ R.cells) (hss : sl ≤ R.slots) (hd : decode bs pc = .ok (.invokestatic i, 3)) (hp : pc + 3 = pc') (hst : st = as.reverse ++ rest) (hr : Go p l e R s m args below meth c n0 Q K N h ce sl (mkF m pc' Ls (v :: rest))) : Go p l e R s m args below meth c n0 Q K N h ce sl (mkF m pc Ls st) :=
  go_static C S w1 w2 w3 w4 hy hpd hlen hls hW hfr hlo (by rw [hce]; rfl) (by rw [hsl]; rfl) hcc hss hd hp hst (fun w h' hq => by obtain ⟨r, rfl, q1, q2⟩ := hq; rw [q1, q2]; exact hr)
theorem go_staticV (C : Cx p s m meth c Z own bs mx rt nm) {y : MethodName} {i : Nat} {cb : ByteArray} {cm : Nat} {cr : Option FieldType} {rm : Room} {as rest : List Value} {W : Nat} {ps : List FieldType} {pr : Option FieldType} {ce' sl' : Nat}  {P : Value → Heap → Prop} (S : Sat l Z y cb cm cr rm as h n0 (RV P)) (w1 : (Jvm.Cond.methodLink own i y).before a0 Z = true) (w2 : (Jvm.Cond.static y).before a0 Z = true) (w3 : (Jvm.Cond.initialized y.cls).before a0 Z = true) (w4 : (Jvm.Cond.code y cb cm cr).before a0 Z = true) (hy : y.cls ≠ "java/lang/invoke/MethodHandle" ∧ y.cls ≠ "java/lang/invoke/VarHandle") (hpd : parseMethodDescriptor y.desc = some ⟨ps, pr⟩) (hlen : as.length = ps.length) (hls : Ls.size = mx) (hW : wt rest = W) (hfr : rm.frames + 1 ≤ R.frames) (hlo : W + (cm + 11) + rm.locals ≤ R.locals) (hce : ce + rm.cells = ce') (hsl : sl + rm.slots = sl') (hcc : ce' ≤ R.cells) (hss : sl' ≤ R.slots) (hd : decode bs pc = .ok (.invokestatic i, 3)) (hp : pc + 3 = pc') (hst : st = as.reverse ++ rest) (hr : ∀ r h', P r h' → Go p l e R s m args below meth c n0 Q K N h' ce' sl' (mkF m pc' Ls (r :: rest))) : Go p l e R s m args below meth c n0 Q K N h ce sl (mkF m pc Ls st) :=
  go_static C S w1 w2 w3 w4 hy hpd hlen hls hW hfr hlo hce hsl hcc hss hd hp hst (fun v h' hq => by obtain ⟨r, rfl, q⟩ := hq; exact hr r h' q)
theorem go_staticN (C : Cx p s m meth c Z own bs mx rt nm) {y : MethodName} {i : Nat} {cb : ByteArray} {cm : Nat} {cr : Option FieldType} {rm : Room} {as rest : List Value} {W : Nat} {ps : List FieldType} {pr : Option FieldType} {ce' sl' : Nat}  {P : Heap → Prop} (S : Sat l Z y cb cm cr rm as h n0 (RN P)) (w1 : (Jvm.Cond.methodLink own i y).before a0 Z = true) (w2 : (Jvm.Cond.static y).before a0 Z = true) (w3 : (Jvm.Cond.initialized y.cls).before a0 Z = true) (w4 : (Jvm.Cond.code y cb cm cr).before a0 Z = true) (hy : y.cls ≠ "java/lang/invoke/MethodHandle" ∧ y.cls ≠ "java/lang/invoke/VarHandle") (hpd : parseMethodDescriptor y.desc = some ⟨ps, pr⟩) (hlen : as.length = ps.length) (hls : Ls.size = mx) (hW : wt rest = W) (hfr : rm.frames + 1 ≤ R.frames) (hlo : W + (cm + 11) + rm.locals ≤ R.locals) (hce : ce + rm.cells = ce') (hsl : sl + rm.slots = sl') (hcc : ce' ≤ R.cells) (hss : sl' ≤ R.slots) (hd : decode bs pc = .ok (.invokestatic i, 3)) (hp : pc + 3 = pc') (hst : st = as.reverse ++ rest) (hr : ∀ h', P h' → Go p l e R s m args below meth c n0 Q K N h' ce' sl' (mkF m pc' Ls rest)) : Go p l e R s m args below meth c n0 Q K N h ce sl (mkF m pc Ls st) :=
  go_static C S w1 w2 w3 w4 hy hpd hlen hls hW hfr hlo hce hsl hcc hss hd hp hst (fun v h' hq => by obtain ⟨rfl, q⟩ := hq; exact hr h' q)
theorem go_virtualP (C : Cx p s m meth c Z own bs mx rt nm) {y : MethodName} {i : Nat} {cb : ByteArray} {cm : Nat} {cr : Option FieldType} {rm : Room} {as rest : List Value} {W : Nat} {ps : List FieldType} {pr : Option FieldType} {a : Addr} {C0 : String} (v : Value) (S : Sat l Z y cb cm cr rm (.ref a :: as) h n0 (RV fun r h' => r = v ∧ h' = h)) (E : Exa Z h a C0) (w1 : (Jvm.Cond.methodLink own i y).before a0 Z = true) (w5 : (Jvm.Cond.declares y).before a0 Z = true) (w6 : (Jvm.Cond.selects C0 y y).before a0 Z = true) (w2 : (Jvm.Cond.instanceMethod y).before a0 Z = true) (w3 : (Jvm.Cond.initialized y.cls).before a0 Z = true) (w4 : (Jvm.Cond.code y cb cm cr).before a0 Z = true) (hy : y.cls ≠ "java/lang/invoke/MethodHandle" ∧ y.cls ≠ "java/lang/invoke/VarHandle") (hpd : parseMethodDescriptor y.desc = some ⟨ps, pr⟩) (hlen : as.length = ps.length) (hls : Ls.size = mx) (hW : wt rest = W) (hfr : rm.frames + 1 ≤ R.frames) (hlo : W + (cm + 11) + rm.locals ≤ R.locals) (hce : rm.cells = 0) (hsl : rm.slots = 0) (hcc : ce ≤ R.cells) (hss : sl ≤ R.slots) (hd : decode bs pc = .ok (.invokevirtual i, 3)) (hp : pc + 3 = pc') (hst : st = as.reverse ++ .ref a :: rest) (hr : Go p l e R s m args below meth c n0 Q K N h ce sl (mkF m pc' Ls (v :: rest))) : Go p l e R s m args below meth c n0 Q K N h ce sl (mkF m pc Ls st) :=
  go_virtual C S E w1 w5 w6 w2 w3 w4 hy hpd hlen hls hW hfr hlo (by rw [hce]; rfl) (by rw [hsl]; rfl) hcc hss hd hp hst (fun w h' hq => by obtain ⟨r, rfl, q1, q2⟩ := hq; rw [q1, q2]; exact hr)
theorem go_virtualV (C : Cx p s m meth c Z own bs mx rt nm) {y : MethodName} {i : Nat} {cb : ByteArray} {cm : Nat} {cr : Option FieldType} {rm : Room} {as rest : List Value} {W : Nat} {ps : List FieldType} {pr : Option FieldType} {ce' sl' : Nat} {a : Addr} {C0 : String} {P : Value → Heap → Prop} (S : Sat l Z y cb cm cr rm (.ref a :: as) h n0 (RV P)) (E : Exa Z h a C0) (w1 : (Jvm.Cond.methodLink own i y).before a0 Z = true) (w5 : (Jvm.Cond.declares y).before a0 Z = true) (w6 : (Jvm.Cond.selects C0 y y).before a0 Z = true) (w2 : (Jvm.Cond.instanceMethod y).before a0 Z = true) (w3 : (Jvm.Cond.initialized y.cls).before a0 Z = true) (w4 : (Jvm.Cond.code y cb cm cr).before a0 Z = true) (hy : y.cls ≠ "java/lang/invoke/MethodHandle" ∧ y.cls ≠ "java/lang/invoke/VarHandle") (hpd : parseMethodDescriptor y.desc = some ⟨ps, pr⟩) (hlen : as.length = ps.length) (hls : Ls.size = mx) (hW : wt rest = W) (hfr : rm.frames + 1 ≤ R.frames) (hlo : W + (cm + 11) + rm.locals ≤ R.locals) (hce : ce + rm.cells = ce') (hsl : sl + rm.slots = sl') (hcc : ce' ≤ R.cells) (hss : sl' ≤ R.slots) (hd : decode bs pc = .ok (.invokevirtual i, 3)) (hp : pc + 3 = pc') (hst : st = as.reverse ++ .ref a :: rest) (hr : ∀ r h', P r h' → Go p l e R s m args below meth c n0 Q K N h' ce' sl' (mkF m pc' Ls (r :: rest))) : Go p l e R s m args below meth c n0 Q K N h ce sl (mkF m pc Ls st) :=
  go_virtual C S E w1 w5 w6 w2 w3 w4 hy hpd hlen hls hW hfr hlo hce hsl hcc hss hd hp hst (fun v h' hq => by obtain ⟨r, rfl, q⟩ := hq; exact hr r h' q)
theorem go_virtualN (C : Cx p s m meth c Z own bs mx rt nm) {y : MethodName} {i : Nat} {cb : ByteArray} {cm : Nat} {cr : Option FieldType} {rm : Room} {as rest : List Value} {W : Nat} {ps : List FieldType} {pr : Option FieldType} {ce' sl' : Nat} {a : Addr} {C0 : String} {P : Heap → Prop} (S : Sat l Z y cb cm cr rm (.ref a :: as) h n0 (RN P)) (E : Exa Z h a C0) (w1 : (Jvm.Cond.methodLink own i y).before a0 Z = true) (w5 : (Jvm.Cond.declares y).before a0 Z = true) (w6 : (Jvm.Cond.selects C0 y y).before a0 Z = true) (w2 : (Jvm.Cond.instanceMethod y).before a0 Z = true) (w3 : (Jvm.Cond.initialized y.cls).before a0 Z = true) (w4 : (Jvm.Cond.code y cb cm cr).before a0 Z = true) (hy : y.cls ≠ "java/lang/invoke/MethodHandle" ∧ y.cls ≠ "java/lang/invoke/VarHandle") (hpd : parseMethodDescriptor y.desc = some ⟨ps, pr⟩) (hlen : as.length = ps.length) (hls : Ls.size = mx) (hW : wt rest = W) (hfr : rm.frames + 1 ≤ R.frames) (hlo : W + (cm + 11) + rm.locals ≤ R.locals) (hce : ce + rm.cells = ce') (hsl : sl + rm.slots = sl') (hcc : ce' ≤ R.cells) (hss : sl' ≤ R.slots) (hd : decode bs pc = .ok (.invokevirtual i, 3)) (hp : pc + 3 = pc') (hst : st = as.reverse ++ .ref a :: rest) (hr : ∀ h', P h' → Go p l e R s m args below meth c n0 Q K N h' ce' sl' (mkF m pc' Ls rest)) : Go p l e R s m args below meth c n0 Q K N h ce sl (mkF m pc Ls st) :=
  go_virtual C S E w1 w5 w6 w2 w3 w4 hy hpd hlen hls hW hfr hlo hce hsl hcc hss hd hp hst (fun v h' hq => by obtain ⟨rfl, q⟩ := hq; exact hr h' q)
theorem go_privateP (C : Cx p s m meth c Z own bs mx rt nm) {y : MethodName} {i : Nat} {cb : ByteArray} {cm : Nat} {cr : Option FieldType} {rm : Room} {as rest : List Value} {W : Nat} {ps : List FieldType} {pr : Option FieldType} {a : Addr} {C0 : String} (v : Value) (S : Sat l Z y cb cm cr rm (.ref a :: as) h n0 (RV fun r h' => r = v ∧ h' = h)) (E : Exa Z h a C0) (w1 : (Jvm.Cond.methodLink own i y).before a0 Z = true) (w5 : (Jvm.Cond.privateMethod y).before a0 Z = true) (w6 : (Jvm.Cond.selects y.cls y y).before a0 Z = true) (w2 : (Jvm.Cond.instanceMethod y).before a0 Z = true) (w3 : (Jvm.Cond.initialized y.cls).before a0 Z = true) (w4 : (Jvm.Cond.code y cb cm cr).before a0 Z = true) (hy : y.cls ≠ "java/lang/invoke/MethodHandle" ∧ y.cls ≠ "java/lang/invoke/VarHandle") (hpd : parseMethodDescriptor y.desc = some ⟨ps, pr⟩) (hlen : as.length = ps.length) (hls : Ls.size = mx) (hW : wt rest = W) (hfr : rm.frames + 1 ≤ R.frames) (hlo : W + (cm + 11) + rm.locals ≤ R.locals) (hce : rm.cells = 0) (hsl : rm.slots = 0) (hcc : ce ≤ R.cells) (hss : sl ≤ R.slots) (hd : decode bs pc = .ok (.invokevirtual i, 3)) (hp : pc + 3 = pc') (hst : st = as.reverse ++ .ref a :: rest) (hr : Go p l e R s m args below meth c n0 Q K N h ce sl (mkF m pc' Ls (v :: rest))) : Go p l e R s m args below meth c n0 Q K N h ce sl (mkF m pc Ls st) :=
  go_private C S E w1 w5 w6 w2 w3 w4 hy hpd hlen hls hW hfr hlo (by rw [hce]; rfl) (by rw [hsl]; rfl) hcc hss hd hp hst (fun w h' hq => by obtain ⟨r, rfl, q1, q2⟩ := hq; rw [q1, q2]; exact hr)
theorem go_privateV (C : Cx p s m meth c Z own bs mx rt nm) {y : MethodName} {i : Nat} {cb : ByteArray} {cm : Nat} {cr : Option FieldType} {rm : Room} {as rest : List Value} {W : Nat} {ps : List FieldType} {pr : Option FieldType} {ce' sl' : Nat} {a : Addr} {C0 : String} {P : Value → Heap → Prop} (S : Sat l Z y cb cm cr rm (.ref a :: as) h n0 (RV P)) (E : Exa Z h a C0) (w1 : (Jvm.Cond.methodLink own i y).before a0 Z = true) (w5 : (Jvm.Cond.privateMethod y).before a0 Z = true) (w6 : (Jvm.Cond.selects y.cls y y).before a0 Z = true) (w2 : (Jvm.Cond.instanceMethod y).before a0 Z = true) (w3 : (Jvm.Cond.initialized y.cls).before a0 Z = true) (w4 : (Jvm.Cond.code y cb cm cr).before a0 Z = true) (hy : y.cls ≠ "java/lang/invoke/MethodHandle" ∧ y.cls ≠ "java/lang/invoke/VarHandle") (hpd : parseMethodDescriptor y.desc = some ⟨ps, pr⟩) (hlen : as.length = ps.length) (hls : Ls.size = mx) (hW : wt rest = W) (hfr : rm.frames + 1 ≤ R.frames) (hlo : W + (cm + 11) + rm.locals ≤ R.locals) (hce : ce + rm.cells = ce') (hsl : sl + rm.slots = sl') (hcc : ce' ≤ R.cells) (hss : sl' ≤ R.slots) (hd : decode bs pc = .ok (.invokevirtual i, 3)) (hp : pc + 3 = pc') (hst : st = as.reverse ++ .ref a :: rest) (hr : ∀ r h', P r h' → Go p l e R s m args below meth c n0 Q K N h' ce' sl' (mkF m pc' Ls (r :: rest))) : Go p l e R s m args below meth c n0 Q K N h ce sl (mkF m pc Ls st) :=
  go_private C S E w1 w5 w6 w2 w3 w4 hy hpd hlen hls hW hfr hlo hce hsl hcc hss hd hp hst (fun v h' hq => by obtain ⟨r, rfl, q⟩ := hq; exact hr r h' q)
theorem go_privateN (C : Cx p s m meth c Z own bs mx rt nm) {y : MethodName} {i : Nat} {cb : ByteArray} {cm : Nat} {cr : Option FieldType} {rm : Room} {as rest : List Value} {W : Nat} {ps : List FieldType} {pr : Option FieldType} {ce' sl' : Nat} {a : Addr} {C0 : String} {P : Heap → Prop} (S : Sat l Z y cb cm cr rm (.ref a :: as) h n0 (RN P)) (E : Exa Z h a C0) (w1 : (Jvm.Cond.methodLink own i y).before a0 Z = true) (w5 : (Jvm.Cond.privateMethod y).before a0 Z = true) (w6 : (Jvm.Cond.selects y.cls y y).before a0 Z = true) (w2 : (Jvm.Cond.instanceMethod y).before a0 Z = true) (w3 : (Jvm.Cond.initialized y.cls).before a0 Z = true) (w4 : (Jvm.Cond.code y cb cm cr).before a0 Z = true) (hy : y.cls ≠ "java/lang/invoke/MethodHandle" ∧ y.cls ≠ "java/lang/invoke/VarHandle") (hpd : parseMethodDescriptor y.desc = some ⟨ps, pr⟩) (hlen : as.length = ps.length) (hls : Ls.size = mx) (hW : wt rest = W) (hfr : rm.frames + 1 ≤ R.frames) (hlo : W + (cm + 11) + rm.locals ≤ R.locals) (hce : ce + rm.cells = ce') (hsl : sl + rm.slots = sl') (hcc : ce' ≤ R.cells) (hss : sl' ≤ R.slots) (hd : decode bs pc = .ok (.invokevirtual i, 3)) (hp : pc + 3 = pc') (hst : st = as.reverse ++ .ref a :: rest) (hr : ∀ h', P h' → Go p l e R s m args below meth c n0 Q K N h' ce' sl' (mkF m pc' Ls rest)) : Go p l e R s m args below meth c n0 Q K N h ce sl (mkF m pc Ls st) :=
  go_private C S E w1 w5 w6 w2 w3 w4 hy hpd hlen hls hW hfr hlo hce hsl hcc hss hd hp hst (fun v h' hq => by obtain ⟨rfl, q⟩ := hq; exact hr h' q)
theorem go_specialV (C : Cx p s m meth c Z own bs mx rt nm) {y : MethodName} {i : Nat} {cb : ByteArray} {cm : Nat} {rm : Room} {as rest : List Value} {W : Nat} {ps : List FieldType} {pr : Option FieldType} {ce' sl' : Nat} {a : Addr} {P : Value → Heap → Prop} (S : Sat l Z y cb cm none rm (.ref a :: as) h n0 (RV P)) (hyn : y.name = "<init>") (w1 : (Jvm.Cond.methodLink own i y).before a0 Z = true) (w2 : (Jvm.Cond.instanceMethod y).before a0 Z = true) (w3 : (Jvm.Cond.initialized y.cls).before a0 Z = true) (w4 : (Jvm.Cond.code y cb cm none).before a0 Z = true) (hy : y.cls ≠ "java/lang/invoke/MethodHandle" ∧ y.cls ≠ "java/lang/invoke/VarHandle") (hpd : parseMethodDescriptor y.desc = some ⟨ps, pr⟩) (hlen : as.length = ps.length) (hls : Ls.size = mx) (hW : wt rest = W) (hfr : rm.frames + 1 ≤ R.frames) (hlo : W + (cm + 11) + rm.locals ≤ R.locals) (hce : ce + rm.cells = ce') (hsl : sl + rm.slots = sl') (hcc : ce' ≤ R.cells) (hss : sl' ≤ R.slots) (hd : decode bs pc = .ok (.invokespecial i, 3)) (hp : pc + 3 = pc') (hst : st = as.reverse ++ .ref a :: rest) (hr : ∀ r h', P r h' → Go p l e R s m args below meth c n0 Q K N h' ce' sl' (mkF m pc' Ls (r :: rest))) : Go p l e R s m args below meth c n0 Q K N h ce sl (mkF m pc Ls st) :=
  go_special C S hyn w1 w2 w3 w4 hy hpd hlen hls hW hfr hlo hce hsl hcc hss hd hp hst (fun v h' hq => by obtain ⟨r, rfl, q⟩ := hq; exact hr r h' q)
theorem go_specialN (C : Cx p s m meth c Z own bs mx rt nm) {y : MethodName} {i : Nat} {cb : ByteArray} {cm : Nat} {rm : Room} {as rest : List Value} {W : Nat} {ps : List FieldType} {pr : Option FieldType} {ce' sl' : Nat} {a : Addr} {P : Heap → Prop} (S : Sat l Z y cb cm none rm (.ref a :: as) h n0 (RN P)) (hyn : y.name = "<init>") (w1 : (Jvm.Cond.methodLink own i y).before a0 Z = true) (w2 : (Jvm.Cond.instanceMethod y).before a0 Z = true) (w3 : (Jvm.Cond.initialized y.cls).before a0 Z = true) (w4 : (Jvm.Cond.code y cb cm none).before a0 Z = true) (hy : y.cls ≠ "java/lang/invoke/MethodHandle" ∧ y.cls ≠ "java/lang/invoke/VarHandle") (hpd : parseMethodDescriptor y.desc = some ⟨ps, pr⟩) (hlen : as.length = ps.length) (hls : Ls.size = mx) (hW : wt rest = W) (hfr : rm.frames + 1 ≤ R.frames) (hlo : W + (cm + 11) + rm.locals ≤ R.locals) (hce : ce + rm.cells = ce') (hsl : sl + rm.slots = sl') (hcc : ce' ≤ R.cells) (hss : sl' ≤ R.slots) (hd : decode bs pc = .ok (.invokespecial i, 3)) (hp : pc + 3 = pc') (hst : st = as.reverse ++ .ref a :: rest) (hr : ∀ h', P h' → Go p l e R s m args below meth c n0 Q K N h' ce' sl' (mkF m pc' Ls rest)) : Go p l e R s m args below meth c n0 Q K N h ce sl (mkF m pc Ls st) :=
  go_special C S hyn w1 w2 w3 w4 hy hpd hlen hls hW hfr hlo hce hsl hcc hss hd hp hst (fun v h' hq => by obtain ⟨rfl, q⟩ := hq; exact hr h' q)
theorem go_specialWV (C : Cx p s m meth c Z own bs mx rt nm) {y : MethodName} {i : Nat} {cb : ByteArray} {cm : Nat} {rm : Room} {as rest : List Value} {W : Nat} {ps : List FieldType} {pr : Option FieldType} {ce' sl' : Nat} {a : Addr} {P : Value → Heap → Prop} (S : Sat l Z y cb cm none rm (.ref a :: as) h n0 (RV P)) (hyn : y.name = "<init>") (w1 : (Jvm.Cond.methodRef own i y).before a0 Z = true) (w2 : (Jvm.Cond.instanceMethod y).before a0 Z = true) (w3 : (Jvm.Cond.initialized y.cls).before a0 Z = true) (w4 : (Jvm.Cond.code y cb cm none).before a0 Z = true) (hy : y.cls ≠ "java/lang/invoke/MethodHandle" ∧ y.cls ≠ "java/lang/invoke/VarHandle") (hpd : parseMethodDescriptor y.desc = some ⟨ps, pr⟩) (hlen : as.length = ps.length) (hls : Ls.size = mx) (hW : wt rest = W) (hfr : rm.frames + 1 ≤ R.frames) (hlo : W + (cm + 11) + rm.locals ≤ R.locals) (hce : ce + rm.cells = ce') (hsl : sl + rm.slots = sl') (hcc : ce' ≤ R.cells) (hss : sl' ≤ R.slots) (hd : decode bs pc = .ok (.invokespecial i, 3)) (hp : pc + 3 = pc') (hst : st = as.reverse ++ .ref a :: rest) (hr : ∀ r h', P r h' → Go p l e R s m args below meth c n0 Q K N h' ce' sl' (mkF m pc' Ls (r :: rest))) : Go p l e R s m args below meth c n0 Q K N h ce sl (mkF m pc Ls st) :=
  go_specialW C S hyn w1 w2 w3 w4 hy hpd hlen hls hW hfr hlo hce hsl hcc hss hd hp hst (fun v h' hq => by obtain ⟨r, rfl, q⟩ := hq; exact hr r h' q)
theorem go_specialWN (C : Cx p s m meth c Z own bs mx rt nm) {y : MethodName} {i : Nat} {cb : ByteArray} {cm : Nat} {rm : Room} {as rest : List Value} {W : Nat} {ps : List FieldType} {pr : Option FieldType} {ce' sl' : Nat} {a : Addr} {P : Heap → Prop} (S : Sat l Z y cb cm none rm (.ref a :: as) h n0 (RN P)) (hyn : y.name = "<init>") (w1 : (Jvm.Cond.methodRef own i y).before a0 Z = true) (w2 : (Jvm.Cond.instanceMethod y).before a0 Z = true) (w3 : (Jvm.Cond.initialized y.cls).before a0 Z = true) (w4 : (Jvm.Cond.code y cb cm none).before a0 Z = true) (hy : y.cls ≠ "java/lang/invoke/MethodHandle" ∧ y.cls ≠ "java/lang/invoke/VarHandle") (hpd : parseMethodDescriptor y.desc = some ⟨ps, pr⟩) (hlen : as.length = ps.length) (hls : Ls.size = mx) (hW : wt rest = W) (hfr : rm.frames + 1 ≤ R.frames) (hlo : W + (cm + 11) + rm.locals ≤ R.locals) (hce : ce + rm.cells = ce') (hsl : sl + rm.slots = sl') (hcc : ce' ≤ R.cells) (hss : sl' ≤ R.slots) (hd : decode bs pc = .ok (.invokespecial i, 3)) (hp : pc + 3 = pc') (hst : st = as.reverse ++ .ref a :: rest) (hr : ∀ h', P h' → Go p l e R s m args below meth c n0 Q K N h' ce' sl' (mkF m pc' Ls rest)) : Go p l e R s m args below meth c n0 Q K N h ce sl (mkF m pc Ls st) :=
  go_specialW C S hyn w1 w2 w3 w4 hy hpd hlen hls hW hfr hlo hce hsl hcc hss hd hp hst (fun v h' hq => by obtain ⟨rfl, q⟩ := hq; exact hr h' q)
theorem go_ireturnI (C : Cx p s m meth c Z own bs mx rt nm) {z : Int32} (hrt : rt = some .int) (hd : decode bs pc = .ok (.ireturn, 1)) (hk : ce ≤ K) (hn : sl ≤ N) (hq : Q (some (.int z)) h) : Go p l e R s m args below meth c n0 Q K N h ce sl (mkF m pc Ls [.int z]) := by
  subst hrt
  intro T locs X eT Nn
  obtain ⟨fs, hr, hrun, hended, hW, hsame⟩ := X.leave (v := some (.int z)) (fun q => by first | rfl | (rw [C.2.2.2.2.2.1] at q; cases q)) C.2.2.2.2.2.2.1
  refine ⟨_, _, X.ireturnOut C.1 C.2.2.2.2.2.1 rfl (Or.inl rfl) (hb C.2.1 hd) hr, hrun, hended, _, _, rfl, ⟨?_, Nn⟩, ⟨_, rfl⟩, hW, hsame.mono hk hn⟩
  show Q (some (.int z)) T.heap
  rw [eT]; exact hq
theorem go_lreturn (C : Cx p s m meth c Z own bs mx rt nm) {z : Int64} (hrt : rt = some .long) (hd : decode bs pc = .ok (.lreturn, 1)) (hk : ce ≤ K) (hn : sl ≤ N) (hq : Q (some (.long z)) h) : Go p l e R s m args below meth c n0 Q K N h ce sl (mkF m pc Ls [.long z]) := by
  subst hrt
  intro T locs X eT Nn
  obtain ⟨fs, hr, hrun, hended, hW, hsame⟩ := X.leave (v := some (.long z)) (fun q => by first | rfl | (rw [C.2.2.2.2.2.1] at q; cases q)) C.2.2.2.2.2.2.1
  refine ⟨_, _, Jvm.Stand.lreturnOut X C.1 C.2.2.2.2.2.1 (hb C.2.1 hd) hr, hrun, hended, _, _, rfl, ⟨?_, Nn⟩, ⟨_, rfl⟩, hW, hsame.mono hk hn⟩
  show Q (some (.long z)) T.heap
  rw [eT]; exact hq
theorem go_areturn (C : Cx p s m meth c Z own bs mx rt nm) {w : Value} {t : FieldType} (hrt : rt = some t) (hd : decode bs pc = .ok (.areturn, 1)) (hk : ce ≤ K) (hn : sl ≤ N) (hw : w.isRef = true) (ht : t.isReference = true) (hq : Q (some w) h) : Go p l e R s m args below meth c n0 Q K N h ce sl (mkF m pc Ls [w]) := by
  subst hrt
  intro T locs X eT Nn
  obtain ⟨fs, hr, hrun, hended, hW, hsame⟩ := X.leave (v := some w) (fun q => by first | rfl | (rw [C.2.2.2.2.2.1] at q; cases q)) C.2.2.2.2.2.2.1
  refine ⟨_, _, X.areturnOut C.1 hw C.2.2.2.2.2.1 ht (hb C.2.1 hd) hr, hrun, hended, _, _, rfl, ⟨?_, Nn⟩, ⟨_, rfl⟩, hW, hsame.mono hk hn⟩
  show Q (some w) T.heap
  rw [eT]; exact hq
theorem go_return (C : Cx p s m meth c Z own bs mx rt nm)  (hrt : rt = none) (hd : decode bs pc = .ok (.return_, 1)) (hk : ce ≤ K) (hn : sl ≤ N) (hq : Q (none) h) : Go p l e R s m args below meth c n0 Q K N h ce sl (mkF m pc Ls []) := by
  subst hrt
  intro T locs X eT Nn
  obtain ⟨fs, hr, hrun, hended, hW, hsame⟩ := X.leave (v := none) (fun q => by first | rfl | (rw [C.2.2.2.2.2.1] at q; cases q)) C.2.2.2.2.2.2.1
  refine ⟨_, _, X.returnOut C.1 C.2.2.2.2.2.1 (hb C.2.1 hd) hr, hrun, hended, _, _, rfl, ⟨?_, Nn⟩, ⟨_, rfl⟩, hW, hsame.mono hk hn⟩
  show Q (none) T.heap
  rw [eT]; exact hq
theorem go_ireturnN (C : Cx p s m meth c Z own bs mx rt nm) {z z' : Int32} {t : FieldType} (hrt : rt = some t) (ht : t = .boolean ∨ t = .byte ∨ t = .char ∨ t = .short) (hz : nar t z = z') (hd : decode bs pc = .ok (.ireturn, 1)) (hk : ce ≤ K) (hn : sl ≤ N) (hq : Q (some (.int z')) h) : Go p l e R s m args below meth c n0 Q K N h ce sl (mkF m pc Ls [.int z]) := by
  subst hrt hz
  intro T locs X eT Nn
  obtain ⟨fs, hr, hrun, hended, hW, hsame⟩ := X.leave (v := some (.int (nar t z))) (fun q => by rw [C.2.2.2.2.2.1] at q; cases q) C.2.2.2.2.2.2.1
  refine ⟨_, _, retN X C.1 (t := t) C.2.2.2.2.2.1 ht (hb C.2.1 hd) hr, hrun, hended, _, _, rfl, ⟨?_, Nn⟩, ⟨_, rfl⟩, hW, hsame.mono hk hn⟩
  show Q (some (.int (nar t z))) T.heap
  rw [eT]; exact hq
theorem sat_of {y : MethodName} {cb : ByteArray} {cm : Nat} {cr : Option FieldType} {rm : Room} {as : List Value} {h0 : Heap} (ho : y.cls = own) (hnm : y.name = nm) (hpn : plainFor y = true) (Ls : Array Slot) (hef : ∀ m, entryFrame m as.toArray cm = mkF m 0 Ls [])
    (body : ∀ (p : Program) (e : Env) (s : State) (m : MethodId) (below : List Frame) (meth : Method) (c : Code), Cx p s m meth c Z own cb cm cr nm → Go p l e rm s m as.toArray below meth c n0 Q rm.cells rm.slots h0 0 0 (mkF m 0 Ls [])) : Sat l Z y cb cm cr rm as h0 n0 Q := by
  intro ws
  subst ho hnm
  refine MetFree.of_bodySF hpn hisR ?_
  intro p e s m args below meth c s₁ Bd hml0 hP hK
  obtain ⟨rfl, hZ, hh⟩ := hP
  have X0 : Stand p l e rm s m as.toArray below meth c s₁ [] 0 0 := Stand.of_body Bd
  obtain ⟨s₂, o, h1, h2, h3, v, L, h4, h5, h6⟩ := body p e s m below meth c ⟨Bd.exec, Bd.bytes, hml0, hZ, findClass_of_methodNamed Bd.named, Bd.returns, Bd.notSynchronized, (name_of_methodNamed Bd.named Bd.method).1⟩ s₁ [] X0 (by rw [← hh, Bd.state]; rfl) (Fr.nil n0)
  exact ⟨s₂, o, castTop (hef m) h1, h2, h3, v, L, h4, h5, h6⟩
theorem Sat.weaken {y : MethodName} {cb : ByteArray} {cm : Nat} {cr : Option FieldType} {rm : Room} {as : List Value} {h0 : Heap} {Q' : Option Value → Heap → Prop} (S : Sat l Z y cb cm cr rm as h0 n0 Q) (H : ∀ v h, Q v h → Q' v h) : Sat l Z y cb cm cr rm as h0 n0 Q' := by
  intro ws p e ha hc hk s m args below hf happ hP hK
  obtain ⟨n, o, h1, h2, h3, v, L, h4, h5, h6⟩ := S ws p e ha hc hk s m args below hf happ hP hK
  exact ⟨n, o, h1, h2, h3, v, L, h4, ⟨H _ _ h5.1, h5.2⟩, h6⟩
end Walk
end OwnLayer
theorem wd {Z : State} {a0 : Array Value} (hw : ∀ d ∈ tables_1, d.before a0 Z = true) (k : Nat) {d : Jvm.Cond} (h : tables_1[k]? = some d) : d.before a0 Z = true := hw d (List.mem_of_getElem? h)
theorem d1_0 : decode method_2_code 0 = .ok (.iconst 1, 1) := by decide +kernel
theorem d1_1 : decode method_2_code 1 = .ok (.istore_n 2, 1) := by decide +kernel
theorem d1_2 : decode method_2_code 2 = .ok (.lload_n 0, 1) := by decide +kernel
theorem d1_3 : decode method_2_code 3 = .ok (.bipush 7, 2) := by decide +kernel
theorem d1_5 : decode method_2_code 5 = .ok (.lushr, 1) := by decide +kernel
theorem d1_6 : decode method_2_code 6 = .ok (.lconst 0, 1) := by decide +kernel
theorem d1_7 : decode method_2_code 7 = .ok (.lcmp, 1) := by decide +kernel
theorem d1_8 : decode method_2_code 8 = .ok (.ifCond .eq 6, 3) := by decide +kernel
theorem d1_11 : decode method_2_code 11 = .ok (.iinc 2 1, 3) := by decide +kernel
theorem d1_14 : decode method_2_code 14 = .ok (.lload_n 0, 1) := by decide +kernel
theorem d1_15 : decode method_2_code 15 = .ok (.bipush 14, 2) := by decide +kernel
theorem d1_17 : decode method_2_code 17 = .ok (.lushr, 1) := by decide +kernel
theorem d1_18 : decode method_2_code 18 = .ok (.lconst 0, 1) := by decide +kernel
theorem d1_19 : decode method_2_code 19 = .ok (.lcmp, 1) := by decide +kernel
theorem d1_20 : decode method_2_code 20 = .ok (.ifCond .eq 6, 3) := by decide +kernel
theorem d1_23 : decode method_2_code 23 = .ok (.iinc 2 1, 3) := by decide +kernel
theorem d1_26 : decode method_2_code 26 = .ok (.lload_n 0, 1) := by decide +kernel
theorem d1_27 : decode method_2_code 27 = .ok (.bipush 21, 2) := by decide +kernel
theorem d1_29 : decode method_2_code 29 = .ok (.lushr, 1) := by decide +kernel
theorem d1_30 : decode method_2_code 30 = .ok (.lconst 0, 1) := by decide +kernel
theorem d1_31 : decode method_2_code 31 = .ok (.lcmp, 1) := by decide +kernel
theorem d1_32 : decode method_2_code 32 = .ok (.ifCond .eq 6, 3) := by decide +kernel
theorem d1_35 : decode method_2_code 35 = .ok (.iinc 2 1, 3) := by decide +kernel
theorem d1_38 : decode method_2_code 38 = .ok (.lload_n 0, 1) := by decide +kernel
theorem d1_39 : decode method_2_code 39 = .ok (.bipush 28, 2) := by decide +kernel
theorem d1_41 : decode method_2_code 41 = .ok (.lushr, 1) := by decide +kernel
theorem d1_42 : decode method_2_code 42 = .ok (.lconst 0, 1) := by decide +kernel
theorem d1_43 : decode method_2_code 43 = .ok (.lcmp, 1) := by decide +kernel
theorem d1_44 : decode method_2_code 44 = .ok (.ifCond .eq 6, 3) := by decide +kernel
theorem d1_47 : decode method_2_code 47 = .ok (.iinc 2 1, 3) := by decide +kernel
theorem d1_50 : decode method_2_code 50 = .ok (.lload_n 0, 1) := by decide +kernel
theorem d1_51 : decode method_2_code 51 = .ok (.bipush 35, 2) := by decide +kernel
theorem d1_53 : decode method_2_code 53 = .ok (.lushr, 1) := by decide +kernel
theorem d1_54 : decode method_2_code 54 = .ok (.lconst 0, 1) := by decide +kernel
theorem d1_55 : decode method_2_code 55 = .ok (.lcmp, 1) := by decide +kernel
theorem d1_56 : decode method_2_code 56 = .ok (.ifCond .eq 6, 3) := by decide +kernel
theorem d1_59 : decode method_2_code 59 = .ok (.iinc 2 1, 3) := by decide +kernel
theorem d1_62 : decode method_2_code 62 = .ok (.lload_n 0, 1) := by decide +kernel
theorem d1_63 : decode method_2_code 63 = .ok (.bipush 42, 2) := by decide +kernel
theorem d1_65 : decode method_2_code 65 = .ok (.lushr, 1) := by decide +kernel
theorem d1_66 : decode method_2_code 66 = .ok (.lconst 0, 1) := by decide +kernel
theorem d1_67 : decode method_2_code 67 = .ok (.lcmp, 1) := by decide +kernel
theorem d1_68 : decode method_2_code 68 = .ok (.ifCond .eq 6, 3) := by decide +kernel
theorem d1_71 : decode method_2_code 71 = .ok (.iinc 2 1, 3) := by decide +kernel
theorem d1_74 : decode method_2_code 74 = .ok (.lload_n 0, 1) := by decide +kernel
theorem d1_75 : decode method_2_code 75 = .ok (.bipush 49, 2) := by decide +kernel
theorem d1_77 : decode method_2_code 77 = .ok (.lushr, 1) := by decide +kernel
theorem d1_78 : decode method_2_code 78 = .ok (.lconst 0, 1) := by decide +kernel
theorem d1_79 : decode method_2_code 79 = .ok (.lcmp, 1) := by decide +kernel
theorem d1_80 : decode method_2_code 80 = .ok (.ifCond .eq 6, 3) := by decide +kernel
theorem d1_83 : decode method_2_code 83 = .ok (.iinc 2 1, 3) := by decide +kernel
theorem d1_86 : decode method_2_code 86 = .ok (.lload_n 0, 1) := by decide +kernel
theorem d1_87 : decode method_2_code 87 = .ok (.bipush 56, 2) := by decide +kernel
theorem d1_89 : decode method_2_code 89 = .ok (.lushr, 1) := by decide +kernel
theorem d1_90 : decode method_2_code 90 = .ok (.lconst 0, 1) := by decide +kernel
theorem d1_91 : decode method_2_code 91 = .ok (.lcmp, 1) := by decide +kernel
theorem d1_92 : decode method_2_code 92 = .ok (.ifCond .eq 6, 3) := by decide +kernel
theorem d1_95 : decode method_2_code 95 = .ok (.iinc 2 1, 3) := by decide +kernel
theorem d1_98 : decode method_2_code 98 = .ok (.lload_n 0, 1) := by decide +kernel
theorem d1_99 : decode method_2_code 99 = .ok (.bipush 63, 2) := by decide +kernel
theorem d1_101 : decode method_2_code 101 = .ok (.lushr, 1) := by decide +kernel
theorem d1_102 : decode method_2_code 102 = .ok (.lconst 0, 1) := by decide +kernel
theorem d1_103 : decode method_2_code 103 = .ok (.lcmp, 1) := by decide +kernel
theorem d1_104 : decode method_2_code 104 = .ok (.ifCond .eq 6, 3) := by decide +kernel
theorem d1_107 : decode method_2_code 107 = .ok (.iinc 2 1, 3) := by decide +kernel
theorem d1_110 : decode method_2_code 110 = .ok (.iload_n 2, 1) := by decide +kernel
theorem d1_111 : decode method_2_code 111 = .ok (.ireturn, 1) := by decide +kernel
theorem d2_0 : decode prog_25_method_3_code 0 = .ok (.iload_n 3, 1) := by decide +kernel
theorem d2_1 : decode prog_25_method_3_code 1 = .ok (.istore 4, 2) := by decide +kernel
theorem d2_3 : decode prog_25_method_3_code 3 = .ok (.lload_n 0, 1) := by decide +kernel
theorem d2_4 : decode prog_25_method_3_code 4 = .ok (.lstore 5, 2) := by decide +kernel
theorem d2_6 : decode prog_25_method_3_code 6 = .ok (.lload 5, 2) := by decide +kernel
theorem d2_8 : decode prog_25_method_3_code 8 = .ok (.ldc2_w 15, 3) := by decide +kernel
theorem d2_11 : decode prog_25_method_3_code 11 = .ok (.land, 1) := by decide +kernel
theorem d2_12 : decode prog_25_method_3_code 12 = .ok (.lconst 0, 1) := by decide +kernel
theorem d2_13 : decode prog_25_method_3_code 13 = .ok (.lcmp, 1) := by decide +kernel
theorem d2_14 : decode prog_25_method_3_code 14 = .ok (.ifCond .eq 28, 3) := by decide +kernel
theorem d2_17 : decode prog_25_method_3_code 17 = .ok (.aload_n 2, 1) := by decide +kernel
theorem d2_18 : decode prog_25_method_3_code 18 = .ok (.iload 4, 2) := by decide +kernel
theorem d2_20 : decode prog_25_method_3_code 20 = .ok (.iinc 4 1, 3) := by decide +kernel
theorem d2_23 : decode prog_25_method_3_code 23 = .ok (.lload 5, 2) := by decide +kernel
theorem d2_25 : decode prog_25_method_3_code 25 = .ok (.ldc2_w 17, 3) := by decide +kernel
theorem d2_28 : decode prog_25_method_3_code 28 = .ok (.lor, 1) := by decide +kernel
theorem d2_29 : decode prog_25_method_3_code 29 = .ok (.l2i, 1) := by decide +kernel
theorem d2_30 : decode prog_25_method_3_code 30 = .ok (.i2b, 1) := by decide +kernel
theorem d2_31 : decode prog_25_method_3_code 31 = .ok (.bastore, 1) := by decide +kernel
theorem d2_32 : decode prog_25_method_3_code 32 = .ok (.lload 5, 2) := by decide +kernel
theorem d2_34 : decode prog_25_method_3_code 34 = .ok (.bipush 7, 2) := by decide +kernel
theorem d2_36 : decode prog_25_method_3_code 36 = .ok (.lushr, 1) := by decide +kernel
theorem d2_37 : decode prog_25_method_3_code 37 = .ok (.lstore 5, 2) := by decide +kernel
theorem d2_39 : decode prog_25_method_3_code 39 = .ok (.goto (-33), 3) := by decide +kernel
theorem d2_42 : decode prog_25_method_3_code 42 = .ok (.aload_n 2, 1) := by decide +kernel
theorem d2_43 : decode prog_25_method_3_code 43 = .ok (.iload 4, 2) := by decide +kernel
theorem d2_45 : decode prog_25_method_3_code 45 = .ok (.iinc 4 1, 3) := by decide +kernel
theorem d2_48 : decode prog_25_method_3_code 48 = .ok (.lload 5, 2) := by decide +kernel
theorem d2_50 : decode prog_25_method_3_code 50 = .ok (.l2i, 1) := by decide +kernel
theorem d2_51 : decode prog_25_method_3_code 51 = .ok (.i2b, 1) := by decide +kernel
theorem d2_52 : decode prog_25_method_3_code 52 = .ok (.bastore, 1) := by decide +kernel
theorem d2_53 : decode prog_25_method_3_code 53 = .ok (.iload 4, 2) := by decide +kernel
theorem d2_55 : decode prog_25_method_3_code 55 = .ok (.ireturn, 1) := by decide +kernel
theorem d3_0 : decode method_3_code 0 = .ok (.iload_n 1, 1) := by decide +kernel
theorem d3_1 : decode method_3_code 1 = .ok (.iload_n 2, 1) := by decide +kernel
theorem d3_2 : decode method_3_code 2 = .ok (.isub, 1) := by decide +kernel
theorem d3_3 : decode method_3_code 3 = .ok (.istore 7, 2) := by decide +kernel
theorem d3_5 : decode method_3_code 5 = .ok (.iload 7, 2) := by decide +kernel
theorem d3_7 : decode method_3_code 7 = .ok (.ifCond .lt 9, 3) := by decide +kernel
theorem d3_10 : decode method_3_code 10 = .ok (.iload 7, 2) := by decide +kernel
theorem d3_12 : decode method_3_code 12 = .ok (.iload_n 3, 1) := by decide +kernel
theorem d3_13 : decode method_3_code 13 = .ok (.if_icmp .lt 17, 3) := by decide +kernel
theorem d3_16 : decode method_3_code 16 = .ok (.aload_n 0, 1) := by decide +kernel
theorem d3_17 : decode method_3_code 17 = .ok (.iload_n 1, 1) := by decide +kernel
theorem d3_18 : decode method_3_code 18 = .ok (.baload, 1) := by decide +kernel
theorem d3_19 : decode method_3_code 19 = .ok (.iload 6, 2) := by decide +kernel
theorem d3_21 : decode method_3_code 21 = .ok (.if_icmp .ne 7, 3) := by decide +kernel
theorem d3_24 : decode method_3_code 24 = .ok (.iconst 1, 1) := by decide +kernel
theorem d3_25 : decode method_3_code 25 = .ok (.goto 4, 3) := by decide +kernel
theorem d3_28 : decode method_3_code 28 = .ok (.iconst 0, 1) := by decide +kernel
theorem d3_29 : decode method_3_code 29 = .ok (.ireturn, 1) := by decide +kernel
theorem d3_30 : decode method_3_code 30 = .ok (.lload 4, 2) := by decide +kernel
theorem d3_32 : decode method_3_code 32 = .ok (.bipush 7, 2) := by decide +kernel
theorem d3_34 : decode method_3_code 34 = .ok (.iload 7, 2) := by decide +kernel
theorem d3_36 : decode method_3_code 36 = .ok (.imul, 1) := by decide +kernel
theorem d3_37 : decode method_3_code 37 = .ok (.lushr, 1) := by decide +kernel
theorem d3_38 : decode method_3_code 38 = .ok (.ldc2_w 7, 3) := by decide +kernel
theorem d3_41 : decode method_3_code 41 = .ok (.land, 1) := by decide +kernel
theorem d3_42 : decode method_3_code 42 = .ok (.l2i, 1) := by decide +kernel
theorem d3_43 : decode method_3_code 43 = .ok (.istore 8, 2) := by decide +kernel
theorem d3_45 : decode method_3_code 45 = .ok (.iload 7, 2) := by decide +kernel
theorem d3_47 : decode method_3_code 47 = .ok (.iload_n 3, 1) := by decide +kernel
theorem d3_48 : decode method_3_code 48 = .ok (.iconst 1, 1) := by decide +kernel
theorem d3_49 : decode method_3_code 49 = .ok (.isub, 1) := by decide +kernel
theorem d3_50 : decode method_3_code 50 = .ok (.if_icmp .ge 12, 3) := by decide +kernel
theorem d3_53 : decode method_3_code 53 = .ok (.iload 8, 2) := by decide +kernel
theorem d3_55 : decode method_3_code 55 = .ok (.sipush 128, 3) := by decide +kernel
theorem d3_58 : decode method_3_code 58 = .ok (.ior, 1) := by decide +kernel
theorem d3_59 : decode method_3_code 59 = .ok (.goto 5, 3) := by decide +kernel
theorem d3_62 : decode method_3_code 62 = .ok (.iload 8, 2) := by decide +kernel
theorem d3_64 : decode method_3_code 64 = .ok (.istore 9, 2) := by decide +kernel
theorem d3_66 : decode method_3_code 66 = .ok (.aload_n 0, 1) := by decide +kernel
theorem d3_67 : decode method_3_code 67 = .ok (.iload_n 1, 1) := by decide +kernel
theorem d3_68 : decode method_3_code 68 = .ok (.baload, 1) := by decide +kernel
theorem d3_69 : decode method_3_code 69 = .ok (.iload 9, 2) := by decide +kernel
theorem d3_71 : decode method_3_code 71 = .ok (.i2b, 1) := by decide +kernel
theorem d3_72 : decode method_3_code 72 = .ok (.if_icmp .ne 7, 3) := by decide +kernel
theorem d3_75 : decode method_3_code 75 = .ok (.iconst 1, 1) := by decide +kernel
theorem d3_76 : decode method_3_code 76 = .ok (.goto 4, 3) := by decide +kernel
theorem d3_79 : decode method_3_code 79 = .ok (.iconst 0, 1) := by decide +kernel
theorem d3_80 : decode method_3_code 80 = .ok (.ireturn, 1) := by decide +kernel
theorem pn_0 : plainName "com/example/chunkwright/chunkwright/encoding/VarIntsPutPinLaw" = true := by first | (simp [plainName, overriddenIn]; done) | decide +kernel
theorem pd_0 : parseMethodDescriptor "(JII)Z" = some ⟨[.long, .int, .int], some .boolean⟩ := by decide +kernel
theorem pd_1 : parseMethodDescriptor "(J)I" = some ⟨[.long], some .int⟩ := by decide +kernel
theorem pn_1 : plainName "com/example/chunkwright/chunkwright/encoding/VarInts" = true := by first | (simp [plainName, overriddenIn]; done) | decide +kernel
theorem pd_2 : parseMethodDescriptor "(J[BI)I" = some ⟨[.long, (.array .byte), .int], some .int⟩ := by decide +kernel
theorem pd_3 : parseMethodDescriptor "([BIIIJB)Z" = some ⟨[(.array .byte), .int, .int, .int, .long, .byte], some .boolean⟩ := by decide +kernel
def vf (n : Nat) (f : Nat → Value) : List Value := (List.range n).map f
theorem vf_len (n : Nat) (f : Nat → Value) : (vf n f).length = n := by simp [vf]
theorem vf_get {n j : Nat} (f : Nat → Value) (h : j < n) : (vf n f)[j]? = some (f j) := by simp [vf, h]
theorem vf_congr {n : Nat} {f g : Nat → Value} (h : ∀ j, j < n → f j = g j) : vf n f = vf n g := by
  unfold vf
  refine List.map_congr_left fun j hj => ?_
  rw [h j (List.mem_range.mp hj)]
theorem vf_set {n k : Nat} (f : Nat → Value) (v : Value) : (vf n f).set k v = vf n (fun j => if j = k then v else f j) := by
  refine List.ext_getElem? fun j => ?_
  by_cases hj : j < n
  · rw [vf_get _ hj]
    by_cases q : k = j
    · subst q
      rw [List.getElem?_set_self (by rw [vf_len]; exact hj), if_pos rfl]
    · rw [List.getElem?_set_ne q, vf_get _ hj, if_neg (fun z => q z.symm)]
  · rw [List.getElem?_eq_none (by rw [List.length_set, vf_len]; omega), List.getElem?_eq_none (by rw [vf_len]; omega)]
theorem own_next {t : Int32} {i : Nat} (h : t.toInt = (i : Int)) (hi : i < 1000000) : (t + (1 : Int32)).toInt = ((i + 1 : Nat) : Int) := by
  have k1 : ((1 : Int32)).toInt = 1 := by decide
  rw [Jvm.Kit.i32_add (by rw [k1]; omega) (by rw [k1]; omega), k1, h]
  omega
def isN (V n : Nat) : Prop := (n = 1 ∧ V < 128) ∨ (n = 2 ∧ 128 ≤ V ∧ V < 16384) ∨ (n = 3 ∧ 16384 ≤ V ∧ V < 2097152) ∨ (n = 4 ∧ 2097152 ≤ V ∧ V < 268435456) ∨ (n = 5 ∧ 268435456 ≤ V ∧ V < 34359738368) ∨ (n = 6 ∧ 34359738368 ≤ V ∧ V < 4398046511104) ∨ (n = 7 ∧ 4398046511104 ≤ V ∧ V < 562949953421312) ∨ (n = 8 ∧ 562949953421312 ≤ V ∧ V < 72057594037927936) ∨ (n = 9 ∧ 72057594037927936 ≤ V ∧ V < 9223372036854775808) ∨ (n = 10 ∧ 9223372036854775808 ≤ V)
theorem sh_amt : ∀ j : Fin 64, ((Int32.ofNat j.val).toInt64.toUInt64 &&& Int64.toUInt64 63) = UInt64.ofNat j.val := by decide +kernel
theorem ush_nat (x : Int64) (j : Nat) (hj : j < 64) : (XT.ushrL x (Int32.ofNat j)).toBitVec.toNat = x.toBitVec.toNat / 2 ^ j := by
  unfold XT.ushrL
  rw [sh_amt ⟨j, hj⟩]
  have e : ((x.toUInt64 >>> UInt64.ofNat j).toInt64).toBitVec = x.toBitVec >>> j := by
    apply BitVec.eq_of_toNat_eq
    simp [UInt64.toNat_shiftRight, Nat.mod_eq_of_lt (by omega : j < 18446744073709551616), Nat.mod_eq_of_lt hj]
  rw [e, BitVec.toNat_ushiftRight, Nat.shiftRight_eq_div_pow]
theorem nat_inj {x y : Int64} (h : x.toBitVec.toNat = y.toBitVec.toNat) : x = y := Int64.toBitVec_inj.mp (BitVec.eq_of_toNat_eq h)
theorem z_iff (x : Int64) : x.toInt = 0 ↔ x.toBitVec.toNat = 0 := by
  constructor
  · intro h
    have : x = 0 := long_eq (h.trans (by decide))
    rw [this]; rfl
  · intro h
    have : x = 0 := nat_inj (h.trans (by decide))
    rw [this]; rfl
theorem m128_bit : ∀ j : Fin 64, (Int64.toBitVec (-128)).getLsbD j.val = decide (7 ≤ j.val) := by decide +kernel
theorem m128 (x : Int64) : (x &&& (-128 : Int64)).toInt = 0 ↔ x.toBitVec.toNat < 128 := by
  rw [z_iff]
  have e : (x &&& (-128 : Int64)).toBitVec = (x.toBitVec >>> 7) <<< 7 := by
    apply BitVec.eq_of_getLsbD_eq
    intro j hj
    rw [Int64.toBitVec_and, BitVec.getLsbD_and, m128_bit ⟨j, hj⟩]
    by_cases q : 7 ≤ j
    · simp [q, hj, (by omega : ¬ j < 7), (by omega : 7 + (j - 7) = j)]
    · simp [q, (by omega : j < 7)]
  have hb := x.toBitVec.isLt
  rw [e, BitVec.toNat_shiftLeft, BitVec.toNat_ushiftRight, Nat.shiftRight_eq_div_pow, Nat.shiftLeft_eq]
  have : x.toBitVec.toNat / 2 ^ 7 * 2 ^ 7 < 2 ^ 64 := by omega
  rw [Nat.mod_eq_of_lt this]
  omega
def U (v : Int64) : Nat → Int64
  | 0 => v
  | k + 1 => XT.ushrL (U v k) (7 : Int32)
theorem U_nat (v : Int64) (k : Nat) : (U v k).toBitVec.toNat = v.toBitVec.toNat / 2 ^ (7 * k) := by
  induction k with
  | zero => simp [U]
  | succ k ih =>
    show (XT.ushrL (U v k) (Int32.ofNat 7)).toBitVec.toNat = _
    rw [ush_nat _ 7 (by decide), ih, Nat.div_div_eq_div_mul, ← Nat.pow_add]
    rfl
theorem U_eq (v : Int64) (k : Nat) (hk : k ≤ 9) : U v k = XT.ushrL v (Int32.ofNat (7 * k)) := nat_inj (by rw [U_nat, ush_nat _ _ (by omega)])
theorem isN_range {V n : Nat} (h : isN V n) : 1 ≤ n ∧ n ≤ 10 := by unfold isN at h; omega
theorem isN_last {V n : Nat} (hV : V < 18446744073709551616) (h : isN V n) : V / 2 ^ (7 * (n - 1)) < 128 := by
  unfold isN at h
  rcases h with ⟨rfl, h1⟩ | ⟨rfl, h0, h1⟩ | ⟨rfl, h0, h1⟩ | ⟨rfl, h0, h1⟩ | ⟨rfl, h0, h1⟩ | ⟨rfl, h0, h1⟩ | ⟨rfl, h0, h1⟩ | ⟨rfl, h0, h1⟩ | ⟨rfl, h0, h1⟩ | ⟨rfl, h0⟩
  all_goals (simp only [Nat.reduceSub, Nat.reduceMul, Nat.reducePow]; omega)
theorem isN_prev {V n : Nat} (h : isN V n) (h2 : 2 ≤ n) : 128 ≤ V / 2 ^ (7 * (n - 2)) := by
  unfold isN at h
  rcases h with ⟨rfl, h1⟩ | ⟨rfl, h0, h1⟩ | ⟨rfl, h0, h1⟩ | ⟨rfl, h0, h1⟩ | ⟨rfl, h0, h1⟩ | ⟨rfl, h0, h1⟩ | ⟨rfl, h0, h1⟩ | ⟨rfl, h0, h1⟩ | ⟨rfl, h0, h1⟩ | ⟨rfl, h0⟩
  · omega
  all_goals (simp only [Nat.reduceSub, Nat.reduceMul, Nat.reducePow]; omega)
theorem isN_more {V n k : Nat} (h : isN V n) (hk : k + 1 < n) : 128 ≤ V / 2 ^ (7 * k) :=
  Nat.le_trans (isN_prev h (by omega)) (Nat.div_le_div_left (Nat.pow_le_pow_right (by decide) (by omega)) (Nat.pos_of_ne_zero (by simp)))
def B1 (x : Int64) : Int32 := (x ||| (128 : Int64)).toInt32.toInt8.toInt32
def B0 (x : Int64) : Int32 := x.toInt32.toInt8.toInt32
theorem b8_all : ∀ b : BitVec 8, b ||| 128#8 = (b &&& 127#8) ||| 128#8 := by decide +kernel
theorem own_B1 (x : Int64) : B1 x = ((x &&& (127 : Int64)).toInt32 ||| (128 : Int32)).toInt8.toInt32 := by
  unfold B1
  refine congrArg Int8.toInt32 (Int8.toBitVec_inj.mp ?_)
  have l : ((x ||| (128 : Int64)).toInt32.toInt8).toBitVec = (x.toBitVec.setWidth 8) ||| 128#8 := by
    apply BitVec.eq_of_getLsbD_eq
    intro j hj
    rcases (by omega : j = 0 ∨ j = 1 ∨ j = 2 ∨ j = 3 ∨ j = 4 ∨ j = 5 ∨ j = 6 ∨ j = 7) with rfl | rfl | rfl | rfl | rfl | rfl | rfl | rfl <;> simp [BitVec.getElem_signExtend]
  have r : (((x &&& (127 : Int64)).toInt32 ||| (128 : Int32)).toInt8).toBitVec = ((x.toBitVec.setWidth 8) &&& 127#8) ||| 128#8 := by
    apply BitVec.eq_of_getLsbD_eq
    intro j hj
    rcases (by omega : j = 0 ∨ j = 1 ∨ j = 2 ∨ j = 3 ∨ j = 4 ∨ j = 5 ∨ j = 6 ∨ j = 7) with rfl | rfl | rfl | rfl | rfl | rfl | rfl | rfl <;> simp [BitVec.getElem_signExtend]
  rw [l, r, b8_all]
theorem own_B0 (x : Int64) (h : x.toBitVec.toNat < 128) : B0 x = (x &&& (127 : Int64)).toInt32.toInt8.toInt32 := by
  unfold B0
  have e : x = x &&& (127 : Int64) := nat_inj (by
    rw [Int64.toBitVec_and, BitVec.toNat_and]
    show _ = x.toBitVec.toNat &&& (2 ^ 7 - 1)
    rw [Nat.and_two_pow_sub_one_eq_mod, Nat.mod_eq_of_lt h])
  rw [← e]
def pg (v : Int64) (fv : Int32) (o n j : Nat) : Int32 := if j < o then fv else if j < o + (n - 1) then B1 (U v (j - o)) else if j = o + (n - 1) then B0 (U v (j - o)) else fv
def gi (v : Int64) (fv : Int32) (o k j : Nat) : Int32 := if j < o then fv else if j < o + k then B1 (U v (j - o)) else fv
theorem gi_step (v : Int64) (fv : Int32) (o k : Nat) : vf 14 (fun j => if j = o + k then Value.int (B1 (U v k)) else .int (gi v fv o k j)) = vf 14 (fun j => .int (gi v fv o (k + 1) j)) := vf_congr fun j _ => by
  unfold gi
  by_cases q : j = o + k
  · subst q
    rw [if_pos rfl, if_neg (by omega), if_pos (by omega), Nat.add_sub_cancel_left]
  · rw [if_neg q]
    by_cases r : j < o
    · rw [if_pos r, if_pos r]
    · rw [if_neg r, if_neg r]
      by_cases z : j < o + k
      · rw [if_pos z, if_pos (by omega)]
      · rw [if_neg z, if_neg (by omega)]
theorem gi_last (v : Int64) (fv : Int32) (o n : Nat) : vf 14 (fun j => if j = o + (n - 1) then Value.int (B0 (U v (n - 1))) else .int (gi v fv o (n - 1) j)) = vf 14 (fun j => .int (pg v fv o n j)) := vf_congr fun j _ => by
  unfold gi pg
  by_cases q : j = o + (n - 1)
  · subst q
    rw [if_pos rfl, if_neg (by omega), if_neg (by omega), if_pos rfl, Nat.add_sub_cancel_left]
  · rw [if_neg q]
    by_cases r : j < o
    · rw [if_pos r, if_pos r]
    · rw [if_neg r, if_neg r]
      by_cases z : j < o + (n - 1)
      · rw [if_pos z, if_pos z]
      · rw [if_neg z, if_neg z, if_neg q]
theorem own_len1 (v : Int64) : (XT.ushrL v (7 : Int32)).toInt = 0 ↔ v.toBitVec.toNat < 128 := by
  rw [z_iff, show XT.ushrL v (7 : Int32) = XT.ushrL v (Int32.ofNat 7) from rfl, ush_nat v 7 (by decide)]
  simp only [Nat.reducePow]
  omega
theorem own_len2 (v : Int64) : (XT.ushrL v (14 : Int32)).toInt = 0 ↔ v.toBitVec.toNat < 16384 := by
  rw [z_iff, show XT.ushrL v (14 : Int32) = XT.ushrL v (Int32.ofNat 14) from rfl, ush_nat v 14 (by decide)]
  simp only [Nat.reducePow]
  omega
theorem own_len3 (v : Int64) : (XT.ushrL v (21 : Int32)).toInt = 0 ↔ v.toBitVec.toNat < 2097152 := by
  rw [z_iff, show XT.ushrL v (21 : Int32) = XT.ushrL v (Int32.ofNat 21) from rfl, ush_nat v 21 (by decide)]
  simp only [Nat.reducePow]
  omega
theorem own_len4 (v : Int64) : (XT.ushrL v (28 : Int32)).toInt = 0 ↔ v.toBitVec.toNat < 268435456 := by
  rw [z_iff, show XT.ushrL v (28 : Int32) = XT.ushrL v (Int32.ofNat 28) from rfl, ush_nat v 28 (by decide)]
  simp only [Nat.reducePow]
  omega
theorem own_len5 (v : Int64) : (XT.ushrL v (35 : Int32)).toInt = 0 ↔ v.toBitVec.toNat < 34359738368 := by
  rw [z_iff, show XT.ushrL v (35 : Int32) = XT.ushrL v (Int32.ofNat 35) from rfl, ush_nat v 35 (by decide)]
  simp only [Nat.reducePow]
  omega
theorem own_len6 (v : Int64) : (XT.ushrL v (42 : Int32)).toInt = 0 ↔ v.toBitVec.toNat < 4398046511104 := by
  rw [z_iff, show XT.ushrL v (42 : Int32) = XT.ushrL v (Int32.ofNat 42) from rfl, ush_nat v 42 (by decide)]
  simp only [Nat.reducePow]
  omega
theorem own_len7 (v : Int64) : (XT.ushrL v (49 : Int32)).toInt = 0 ↔ v.toBitVec.toNat < 562949953421312 := by
  rw [z_iff, show XT.ushrL v (49 : Int32) = XT.ushrL v (Int32.ofNat 49) from rfl, ush_nat v 49 (by decide)]
  simp only [Nat.reducePow]
  omega
theorem own_len8 (v : Int64) : (XT.ushrL v (56 : Int32)).toInt = 0 ↔ v.toBitVec.toNat < 72057594037927936 := by
  rw [z_iff, show XT.ushrL v (56 : Int32) = XT.ushrL v (Int32.ofNat 56) from rfl, ush_nat v 56 (by decide)]
  simp only [Nat.reducePow]
  omega
theorem own_len9 (v : Int64) : (XT.ushrL v (63 : Int32)).toInt = 0 ↔ v.toBitVec.toNat < 9223372036854775808 := by
  rw [z_iff, show XT.ushrL v (63 : Int32) = XT.ushrL v (Int32.ofNat 63) from rfl, ush_nat v 63 (by decide)]
  simp only [Nat.reducePow]
  omega
set_option maxRecDepth 65536 in
set_option maxHeartbeats 40000000 in
theorem sat_len (l : Launch) (Z : State) (a0 : Array Value) (hw : ∀ d ∈ tables_1, d.before a0 Z = true) (v : Int64) (h0 : Heap) (n0 : Nat)  :
    Sat l Z (⟨"com/example/chunkwright/chunkwright/encoding/VarIntsPutPinLaw", "len", "(J)I"⟩ : MethodName) method_2_code 3 (some .int) ({ frames := 0, cells := 0, slots := 0, locals := 0 } : Room) [.long v] h0 n0 (RV fun r h => (∃ n : Nat, r = .int (Int32.ofNat n) ∧ isN v.toBitVec.toNat n) ∧ h = h0) := by
  refine sat_of (own := "com/example/chunkwright/chunkwright/encoding/VarIntsPutPinLaw") (nm := "len") rfl rfl (plainFor_of_name pn_0) #[.val (.long v), .second, .unset] (fun m => by first | (simp [entryFrame, mkF, argsToLocals, Value.category, maxLocals]; done) | rfl) ?_
  intro p e s m below meth c C
  refine go_iconst C (1 : Int32) d1_0 (pc' := 1) rfl (by decide) ?_
  refine go_istoreN C (Ls' := #[.val (.long v), .second, .val (.int (1 : Int32))]) d1_1 (pc' := 2) rfl rfl ?_
  refine go_lloadN C d1_2 (pc' := 3) rfl rfl ?_
  refine go_bipush C (7 : Int32) d1_3 (pc' := 5) rfl (by decide) ?_
  refine go_lushr C d1_5 (pc' := 6) rfl ?_
  refine go_lconst C (0 : Int64) d1_6 (pc' := 7) rfl (by decide) ?_
  refine go_lcmp C ((XT.ushrL v (7 : Int32)).toInt) (0 : Int) rfl (by decide) d1_7 (pc1 := 8) rfl d1_8 (by decide) (pc' := 14) (by decide) (pcN := 11) rfl (fun (c_1 : ((XT.ushrL v (7 : Int32)).toInt) = (0 : Int)) => ?_) (fun (c_1 : ¬ ((XT.ushrL v (7 : Int32)).toInt) = (0 : Int)) => ?_)
  · skip
    have f1 := (own_len1 v).mp c_1
    refine go_lloadN C d1_14 (pc' := 15) rfl rfl ?_
    refine go_bipush C (14 : Int32) d1_15 (pc' := 17) rfl (by decide) ?_
    refine go_lushr C d1_17 (pc' := 18) rfl ?_
    refine go_lconst C (0 : Int64) d1_18 (pc' := 19) rfl (by decide) ?_
    refine go_lcmp C ((XT.ushrL v (14 : Int32)).toInt) (0 : Int) rfl (by decide) d1_19 (pc1 := 20) rfl d1_20 (by decide) (pc' := 26) (by decide) (pcN := 23) rfl (fun (c_2 : ((XT.ushrL v (14 : Int32)).toInt) = (0 : Int)) => ?_) (fun (c_2 : ¬ ((XT.ushrL v (14 : Int32)).toInt) = (0 : Int)) => absurd ((own_len2 v).mpr (by omega)) c_2)
    refine go_lloadN C d1_26 (pc' := 27) rfl rfl ?_
    refine go_bipush C (21 : Int32) d1_27 (pc' := 29) rfl (by decide) ?_
    refine go_lushr C d1_29 (pc' := 30) rfl ?_
    refine go_lconst C (0 : Int64) d1_30 (pc' := 31) rfl (by decide) ?_
    refine go_lcmp C ((XT.ushrL v (21 : Int32)).toInt) (0 : Int) rfl (by decide) d1_31 (pc1 := 32) rfl d1_32 (by decide) (pc' := 38) (by decide) (pcN := 35) rfl (fun (c_3 : ((XT.ushrL v (21 : Int32)).toInt) = (0 : Int)) => ?_) (fun (c_3 : ¬ ((XT.ushrL v (21 : Int32)).toInt) = (0 : Int)) => absurd ((own_len3 v).mpr (by omega)) c_3)
    refine go_lloadN C d1_38 (pc' := 39) rfl rfl ?_
    refine go_bipush C (28 : Int32) d1_39 (pc' := 41) rfl (by decide) ?_
    refine go_lushr C d1_41 (pc' := 42) rfl ?_
    refine go_lconst C (0 : Int64) d1_42 (pc' := 43) rfl (by decide) ?_
    refine go_lcmp C ((XT.ushrL v (28 : Int32)).toInt) (0 : Int) rfl (by decide) d1_43 (pc1 := 44) rfl d1_44 (by decide) (pc' := 50) (by decide) (pcN := 47) rfl (fun (c_4 : ((XT.ushrL v (28 : Int32)).toInt) = (0 : Int)) => ?_) (fun (c_4 : ¬ ((XT.ushrL v (28 : Int32)).toInt) = (0 : Int)) => absurd ((own_len4 v).mpr (by omega)) c_4)
    refine go_lloadN C d1_50 (pc' := 51) rfl rfl ?_
    refine go_bipush C (35 : Int32) d1_51 (pc' := 53) rfl (by decide) ?_
    refine go_lushr C d1_53 (pc' := 54) rfl ?_
    refine go_lconst C (0 : Int64) d1_54 (pc' := 55) rfl (by decide) ?_
    refine go_lcmp C ((XT.ushrL v (35 : Int32)).toInt) (0 : Int) rfl (by decide) d1_55 (pc1 := 56) rfl d1_56 (by decide) (pc' := 62) (by decide) (pcN := 59) rfl (fun (c_5 : ((XT.ushrL v (35 : Int32)).toInt) = (0 : Int)) => ?_) (fun (c_5 : ¬ ((XT.ushrL v (35 : Int32)).toInt) = (0 : Int)) => absurd ((own_len5 v).mpr (by omega)) c_5)
    refine go_lloadN C d1_62 (pc' := 63) rfl rfl ?_
    refine go_bipush C (42 : Int32) d1_63 (pc' := 65) rfl (by decide) ?_
    refine go_lushr C d1_65 (pc' := 66) rfl ?_
    refine go_lconst C (0 : Int64) d1_66 (pc' := 67) rfl (by decide) ?_
    refine go_lcmp C ((XT.ushrL v (42 : Int32)).toInt) (0 : Int) rfl (by decide) d1_67 (pc1 := 68) rfl d1_68 (by decide) (pc' := 74) (by decide) (pcN := 71) rfl (fun (c_6 : ((XT.ushrL v (42 : Int32)).toInt) = (0 : Int)) => ?_) (fun (c_6 : ¬ ((XT.ushrL v (42 : Int32)).toInt) = (0 : Int)) => absurd ((own_len6 v).mpr (by omega)) c_6)
    refine go_lloadN C d1_74 (pc' := 75) rfl rfl ?_
    refine go_bipush C (49 : Int32) d1_75 (pc' := 77) rfl (by decide) ?_
    refine go_lushr C d1_77 (pc' := 78) rfl ?_
    refine go_lconst C (0 : Int64) d1_78 (pc' := 79) rfl (by decide) ?_
    refine go_lcmp C ((XT.ushrL v (49 : Int32)).toInt) (0 : Int) rfl (by decide) d1_79 (pc1 := 80) rfl d1_80 (by decide) (pc' := 86) (by decide) (pcN := 83) rfl (fun (c_7 : ((XT.ushrL v (49 : Int32)).toInt) = (0 : Int)) => ?_) (fun (c_7 : ¬ ((XT.ushrL v (49 : Int32)).toInt) = (0 : Int)) => absurd ((own_len7 v).mpr (by omega)) c_7)
    refine go_lloadN C d1_86 (pc' := 87) rfl rfl ?_
    refine go_bipush C (56 : Int32) d1_87 (pc' := 89) rfl (by decide) ?_
    refine go_lushr C d1_89 (pc' := 90) rfl ?_
    refine go_lconst C (0 : Int64) d1_90 (pc' := 91) rfl (by decide) ?_
    refine go_lcmp C ((XT.ushrL v (56 : Int32)).toInt) (0 : Int) rfl (by decide) d1_91 (pc1 := 92) rfl d1_92 (by decide) (pc' := 98) (by decide) (pcN := 95) rfl (fun (c_8 : ((XT.ushrL v (56 : Int32)).toInt) = (0 : Int)) => ?_) (fun (c_8 : ¬ ((XT.ushrL v (56 : Int32)).toInt) = (0 : Int)) => absurd ((own_len8 v).mpr (by omega)) c_8)
    refine go_lloadN C d1_98 (pc' := 99) rfl rfl ?_
    refine go_bipush C (63 : Int32) d1_99 (pc' := 101) rfl (by decide) ?_
    refine go_lushr C d1_101 (pc' := 102) rfl ?_
    refine go_lconst C (0 : Int64) d1_102 (pc' := 103) rfl (by decide) ?_
    refine go_lcmp C ((XT.ushrL v (63 : Int32)).toInt) (0 : Int) rfl (by decide) d1_103 (pc1 := 104) rfl d1_104 (by decide) (pc' := 110) (by decide) (pcN := 107) rfl (fun (c_9 : ((XT.ushrL v (63 : Int32)).toInt) = (0 : Int)) => ?_) (fun (c_9 : ¬ ((XT.ushrL v (63 : Int32)).toInt) = (0 : Int)) => absurd ((own_len9 v).mpr (by omega)) c_9)
    refine go_iloadN C d1_110 (pc' := 111) rfl rfl ?_
    refine go_ireturnI C rfl d1_111 (by decide) (by decide) ?_
    exact ⟨_, rfl, ⟨1, rfl, (Or.inl ⟨rfl, by omega⟩)⟩, rfl⟩
  · skip
    have f1 : ¬ v.toBitVec.toNat < 128 := fun z => c_1 ((own_len1 v).mpr z)
    refine go_iinc C (Ls' := #[.val (.long v), .second, .val (.int ((1 : Int32) + (1 : Int32)))]) (1 : Int32) d1_11 (pc' := 14) rfl (by decide) rfl rfl ?_
    rw [(by decide : (1 : Int32) + (1 : Int32) = (2 : Int32))]
    refine go_lloadN C d1_14 (pc' := 15) rfl rfl ?_
    refine go_bipush C (14 : Int32) d1_15 (pc' := 17) rfl (by decide) ?_
    refine go_lushr C d1_17 (pc' := 18) rfl ?_
    refine go_lconst C (0 : Int64) d1_18 (pc' := 19) rfl (by decide) ?_
    refine go_lcmp C ((XT.ushrL v (14 : Int32)).toInt) (0 : Int) rfl (by decide) d1_19 (pc1 := 20) rfl d1_20 (by decide) (pc' := 26) (by decide) (pcN := 23) rfl (fun (c_10 : ((XT.ushrL v (14 : Int32)).toInt) = (0 : Int)) => ?_) (fun (c_10 : ¬ ((XT.ushrL v (14 : Int32)).toInt) = (0 : Int)) => ?_)
    · skip
      have f2 := (own_len2 v).mp c_10
      refine go_lloadN C d1_26 (pc' := 27) rfl rfl ?_
      refine go_bipush C (21 : Int32) d1_27 (pc' := 29) rfl (by decide) ?_
      refine go_lushr C d1_29 (pc' := 30) rfl ?_
      refine go_lconst C (0 : Int64) d1_30 (pc' := 31) rfl (by decide) ?_
      refine go_lcmp C ((XT.ushrL v (21 : Int32)).toInt) (0 : Int) rfl (by decide) d1_31 (pc1 := 32) rfl d1_32 (by decide) (pc' := 38) (by decide) (pcN := 35) rfl (fun (c_11 : ((XT.ushrL v (21 : Int32)).toInt) = (0 : Int)) => ?_) (fun (c_11 : ¬ ((XT.ushrL v (21 : Int32)).toInt) = (0 : Int)) => absurd ((own_len3 v).mpr (by omega)) c_11)
      refine go_lloadN C d1_38 (pc' := 39) rfl rfl ?_
      refine go_bipush C (28 : Int32) d1_39 (pc' := 41) rfl (by decide) ?_
      refine go_lushr C d1_41 (pc' := 42) rfl ?_
      refine go_lconst C (0 : Int64) d1_42 (pc' := 43) rfl (by decide) ?_
      refine go_lcmp C ((XT.ushrL v (28 : Int32)).toInt) (0 : Int) rfl (by decide) d1_43 (pc1 := 44) rfl d1_44 (by decide) (pc' := 50) (by decide) (pcN := 47) rfl (fun (c_12 : ((XT.ushrL v (28 : Int32)).toInt) = (0 : Int)) => ?_) (fun (c_12 : ¬ ((XT.ushrL v (28 : Int32)).toInt) = (0 : Int)) => absurd ((own_len4 v).mpr (by omega)) c_12)
      refine go_lloadN C d1_50 (pc' := 51) rfl rfl ?_
      refine go_bipush C (35 : Int32) d1_51 (pc' := 53) rfl (by decide) ?_
      refine go_lushr C d1_53 (pc' := 54) rfl ?_
      refine go_lconst C (0 : Int64) d1_54 (pc' := 55) rfl (by decide) ?_
      refine go_lcmp C ((XT.ushrL v (35 : Int32)).toInt) (0 : Int) rfl (by decide) d1_55 (pc1 := 56) rfl d1_56 (by decide) (pc' := 62) (by decide) (pcN := 59) rfl (fun (c_13 : ((XT.ushrL v (35 : Int32)).toInt) = (0 : Int)) => ?_) (fun (c_13 : ¬ ((XT.ushrL v (35 : Int32)).toInt) = (0 : Int)) => absurd ((own_len5 v).mpr (by omega)) c_13)
      refine go_lloadN C d1_62 (pc' := 63) rfl rfl ?_
      refine go_bipush C (42 : Int32) d1_63 (pc' := 65) rfl (by decide) ?_
      refine go_lushr C d1_65 (pc' := 66) rfl ?_
      refine go_lconst C (0 : Int64) d1_66 (pc' := 67) rfl (by decide) ?_
      refine go_lcmp C ((XT.ushrL v (42 : Int32)).toInt) (0 : Int) rfl (by decide) d1_67 (pc1 := 68) rfl d1_68 (by decide) (pc' := 74) (by decide) (pcN := 71) rfl (fun (c_14 : ((XT.ushrL v (42 : Int32)).toInt) = (0 : Int)) => ?_) (fun (c_14 : ¬ ((XT.ushrL v (42 : Int32)).toInt) = (0 : Int)) => absurd ((own_len6 v).mpr (by omega)) c_14)
      refine go_lloadN C d1_74 (pc' := 75) rfl rfl ?_
      refine go_bipush C (49 : Int32) d1_75 (pc' := 77) rfl (by decide) ?_
      refine go_lushr C d1_77 (pc' := 78) rfl ?_
      refine go_lconst C (0 : Int64) d1_78 (pc' := 79) rfl (by decide) ?_
      refine go_lcmp C ((XT.ushrL v (49 : Int32)).toInt) (0 : Int) rfl (by decide) d1_79 (pc1 := 80) rfl d1_80 (by decide) (pc' := 86) (by decide) (pcN := 83) rfl (fun (c_15 : ((XT.ushrL v (49 : Int32)).toInt) = (0 : Int)) => ?_) (fun (c_15 : ¬ ((XT.ushrL v (49 : Int32)).toInt) = (0 : Int)) => absurd ((own_len7 v).mpr (by omega)) c_15)
      refine go_lloadN C d1_86 (pc' := 87) rfl rfl ?_
      refine go_bipush C (56 : Int32) d1_87 (pc' := 89) rfl (by decide) ?_
      refine go_lushr C d1_89 (pc' := 90) rfl ?_
      refine go_lconst C (0 : Int64) d1_90 (pc' := 91) rfl (by decide) ?_
      refine go_lcmp C ((XT.ushrL v (56 : Int32)).toInt) (0 : Int) rfl (by decide) d1_91 (pc1 := 92) rfl d1_92 (by decide) (pc' := 98) (by decide) (pcN := 95) rfl (fun (c_16 : ((XT.ushrL v (56 : Int32)).toInt) = (0 : Int)) => ?_) (fun (c_16 : ¬ ((XT.ushrL v (56 : Int32)).toInt) = (0 : Int)) => absurd ((own_len8 v).mpr (by omega)) c_16)
      refine go_lloadN C d1_98 (pc' := 99) rfl rfl ?_
      refine go_bipush C (63 : Int32) d1_99 (pc' := 101) rfl (by decide) ?_
      refine go_lushr C d1_101 (pc' := 102) rfl ?_
      refine go_lconst C (0 : Int64) d1_102 (pc' := 103) rfl (by decide) ?_
      refine go_lcmp C ((XT.ushrL v (63 : Int32)).toInt) (0 : Int) rfl (by decide) d1_103 (pc1 := 104) rfl d1_104 (by decide) (pc' := 110) (by decide) (pcN := 107) rfl (fun (c_17 : ((XT.ushrL v (63 : Int32)).toInt) = (0 : Int)) => ?_) (fun (c_17 : ¬ ((XT.ushrL v (63 : Int32)).toInt) = (0 : Int)) => absurd ((own_len9 v).mpr (by omega)) c_17)
      refine go_iloadN C d1_110 (pc' := 111) rfl rfl ?_
      refine go_ireturnI C rfl d1_111 (by decide) (by decide) ?_
      exact ⟨_, rfl, ⟨2, rfl, (Or.inr (Or.inl ⟨rfl, by omega, by omega⟩))⟩, rfl⟩
    · skip
      have f2 : ¬ v.toBitVec.toNat < 16384 := fun z => c_10 ((own_len2 v).mpr z)
      refine go_iinc C (Ls' := #[.val (.long v), .second, .val (.int ((2 : Int32) + (1 : Int32)))]) (1 : Int32) d1_23 (pc' := 26) rfl (by decide) rfl rfl ?_
      rw [(by decide : (2 : Int32) + (1 : Int32) = (3 : Int32))]
      refine go_lloadN C d1_26 (pc' := 27) rfl rfl ?_
      refine go_bipush C (21 : Int32) d1_27 (pc' := 29) rfl (by decide) ?_
      refine go_lushr C d1_29 (pc' := 30) rfl ?_
      refine go_lconst C (0 : Int64) d1_30 (pc' := 31) rfl (by decide) ?_
      refine go_lcmp C ((XT.ushrL v (21 : Int32)).toInt) (0 : Int) rfl (by decide) d1_31 (pc1 := 32) rfl d1_32 (by decide) (pc' := 38) (by decide) (pcN := 35) rfl (fun (c_18 : ((XT.ushrL v (21 : Int32)).toInt) = (0 : Int)) => ?_) (fun (c_18 : ¬ ((XT.ushrL v (21 : Int32)).toInt) = (0 : Int)) => ?_)
      · skip
        have f3 := (own_len3 v).mp c_18
        refine go_lloadN C d1_38 (pc' := 39) rfl rfl ?_
        refine go_bipush C (28 : Int32) d1_39 (pc' := 41) rfl (by decide) ?_
        refine go_lushr C d1_41 (pc' := 42) rfl ?_
        refine go_lconst C (0 : Int64) d1_42 (pc' := 43) rfl (by decide) ?_
        refine go_lcmp C ((XT.ushrL v (28 : Int32)).toInt) (0 : Int) rfl (by decide) d1_43 (pc1 := 44) rfl d1_44 (by decide) (pc' := 50) (by decide) (pcN := 47) rfl (fun (c_19 : ((XT.ushrL v (28 : Int32)).toInt) = (0 : Int)) => ?_) (fun (c_19 : ¬ ((XT.ushrL v (28 : Int32)).toInt) = (0 : Int)) => absurd ((own_len4 v).mpr (by omega)) c_19)
        refine go_lloadN C d1_50 (pc' := 51) rfl rfl ?_
        refine go_bipush C (35 : Int32) d1_51 (pc' := 53) rfl (by decide) ?_
        refine go_lushr C d1_53 (pc' := 54) rfl ?_
        refine go_lconst C (0 : Int64) d1_54 (pc' := 55) rfl (by decide) ?_
        refine go_lcmp C ((XT.ushrL v (35 : Int32)).toInt) (0 : Int) rfl (by decide) d1_55 (pc1 := 56) rfl d1_56 (by decide) (pc' := 62) (by decide) (pcN := 59) rfl (fun (c_20 : ((XT.ushrL v (35 : Int32)).toInt) = (0 : Int)) => ?_) (fun (c_20 : ¬ ((XT.ushrL v (35 : Int32)).toInt) = (0 : Int)) => absurd ((own_len5 v).mpr (by omega)) c_20)
        refine go_lloadN C d1_62 (pc' := 63) rfl rfl ?_
        refine go_bipush C (42 : Int32) d1_63 (pc' := 65) rfl (by decide) ?_
        refine go_lushr C d1_65 (pc' := 66) rfl ?_
        refine go_lconst C (0 : Int64) d1_66 (pc' := 67) rfl (by decide) ?_
        refine go_lcmp C ((XT.ushrL v (42 : Int32)).toInt) (0 : Int) rfl (by decide) d1_67 (pc1 := 68) rfl d1_68 (by decide) (pc' := 74) (by decide) (pcN := 71) rfl (fun (c_21 : ((XT.ushrL v (42 : Int32)).toInt) = (0 : Int)) => ?_) (fun (c_21 : ¬ ((XT.ushrL v (42 : Int32)).toInt) = (0 : Int)) => absurd ((own_len6 v).mpr (by omega)) c_21)
        refine go_lloadN C d1_74 (pc' := 75) rfl rfl ?_
        refine go_bipush C (49 : Int32) d1_75 (pc' := 77) rfl (by decide) ?_
        refine go_lushr C d1_77 (pc' := 78) rfl ?_
        refine go_lconst C (0 : Int64) d1_78 (pc' := 79) rfl (by decide) ?_
        refine go_lcmp C ((XT.ushrL v (49 : Int32)).toInt) (0 : Int) rfl (by decide) d1_79 (pc1 := 80) rfl d1_80 (by decide) (pc' := 86) (by decide) (pcN := 83) rfl (fun (c_22 : ((XT.ushrL v (49 : Int32)).toInt) = (0 : Int)) => ?_) (fun (c_22 : ¬ ((XT.ushrL v (49 : Int32)).toInt) = (0 : Int)) => absurd ((own_len7 v).mpr (by omega)) c_22)
        refine go_lloadN C d1_86 (pc' := 87) rfl rfl ?_
        refine go_bipush C (56 : Int32) d1_87 (pc' := 89) rfl (by decide) ?_
        refine go_lushr C d1_89 (pc' := 90) rfl ?_
        refine go_lconst C (0 : Int64) d1_90 (pc' := 91) rfl (by decide) ?_
        refine go_lcmp C ((XT.ushrL v (56 : Int32)).toInt) (0 : Int) rfl (by decide) d1_91 (pc1 := 92) rfl d1_92 (by decide) (pc' := 98) (by decide) (pcN := 95) rfl (fun (c_23 : ((XT.ushrL v (56 : Int32)).toInt) = (0 : Int)) => ?_) (fun (c_23 : ¬ ((XT.ushrL v (56 : Int32)).toInt) = (0 : Int)) => absurd ((own_len8 v).mpr (by omega)) c_23)
        refine go_lloadN C d1_98 (pc' := 99) rfl rfl ?_
        refine go_bipush C (63 : Int32) d1_99 (pc' := 101) rfl (by decide) ?_
        refine go_lushr C d1_101 (pc' := 102) rfl ?_
        refine go_lconst C (0 : Int64) d1_102 (pc' := 103) rfl (by decide) ?_
        refine go_lcmp C ((XT.ushrL v (63 : Int32)).toInt) (0 : Int) rfl (by decide) d1_103 (pc1 := 104) rfl d1_104 (by decide) (pc' := 110) (by decide) (pcN := 107) rfl (fun (c_24 : ((XT.ushrL v (63 : Int32)).toInt) = (0 : Int)) => ?_) (fun (c_24 : ¬ ((XT.ushrL v (63 : Int32)).toInt) = (0 : Int)) => absurd ((own_len9 v).mpr (by omega)) c_24)
        refine go_iloadN C d1_110 (pc' := 111) rfl rfl ?_
        refine go_ireturnI C rfl d1_111 (by decide) (by decide) ?_
        exact ⟨_, rfl, ⟨3, rfl, (Or.inr (Or.inr (Or.inl ⟨rfl, by omega, by omega⟩)))⟩, rfl⟩
      · skip
        have f3 : ¬ v.toBitVec.toNat < 2097152 := fun z => c_18 ((own_len3 v).mpr z)
        refine go_iinc C (Ls' := #[.val (.long v), .second, .val (.int ((3 : Int32) + (1 : Int32)))]) (1 : Int32) d1_35 (pc' := 38) rfl (by decide) rfl rfl ?_
        rw [(by decide : (3 : Int32) + (1 : Int32) = (4 : Int32))]
        refine go_lloadN C d1_38 (pc' := 39) rfl rfl ?_
        refine go_bipush C (28 : Int32) d1_39 (pc' := 41) rfl (by decide) ?_
        refine go_lushr C d1_41 (pc' := 42) rfl ?_
        refine go_lconst C (0 : Int64) d1_42 (pc' := 43) rfl (by decide) ?_
        refine go_lcmp C ((XT.ushrL v (28 : Int32)).toInt) (0 : Int) rfl (by decide) d1_43 (pc1 := 44) rfl d1_44 (by decide) (pc' := 50) (by decide) (pcN := 47) rfl (fun (c_25 : ((XT.ushrL v (28 : Int32)).toInt) = (0 : Int)) => ?_) (fun (c_25 : ¬ ((XT.ushrL v (28 : Int32)).toInt) = (0 : Int)) => ?_)
        · skip
          have f4 := (own_len4 v).mp c_25
          refine go_lloadN C d1_50 (pc' := 51) rfl rfl ?_
          refine go_bipush C (35 : Int32) d1_51 (pc' := 53) rfl (by decide) ?_
          refine go_lushr C d1_53 (pc' := 54) rfl ?_
          refine go_lconst C (0 : Int64) d1_54 (pc' := 55) rfl (by decide) ?_
          refine go_lcmp C ((XT.ushrL v (35 : Int32)).toInt) (0 : Int) rfl (by decide) d1_55 (pc1 := 56) rfl d1_56 (by decide) (pc' := 62) (by decide) (pcN := 59) rfl (fun (c_26 : ((XT.ushrL v (35 : Int32)).toInt) = (0 : Int)) => ?_) (fun (c_26 : ¬ ((XT.ushrL v (35 : Int32)).toInt) = (0 : Int)) => absurd ((own_len5 v).mpr (by omega)) c_26)
          refine go_lloadN C d1_62 (pc' := 63) rfl rfl ?_
          refine go_bipush C (42 : Int32) d1_63 (pc' := 65) rfl (by decide) ?_
          refine go_lushr C d1_65 (pc' := 66) rfl ?_
          refine go_lconst C (0 : Int64) d1_66 (pc' := 67) rfl (by decide) ?_
          refine go_lcmp C ((XT.ushrL v (42 : Int32)).toInt) (0 : Int) rfl (by decide) d1_67 (pc1 := 68) rfl d1_68 (by decide) (pc' := 74) (by decide) (pcN := 71) rfl (fun (c_27 : ((XT.ushrL v (42 : Int32)).toInt) = (0 : Int)) => ?_) (fun (c_27 : ¬ ((XT.ushrL v (42 : Int32)).toInt) = (0 : Int)) => absurd ((own_len6 v).mpr (by omega)) c_27)
          refine go_lloadN C d1_74 (pc' := 75) rfl rfl ?_
          refine go_bipush C (49 : Int32) d1_75 (pc' := 77) rfl (by decide) ?_
          refine go_lushr C d1_77 (pc' := 78) rfl ?_
          refine go_lconst C (0 : Int64) d1_78 (pc' := 79) rfl (by decide) ?_
          refine go_lcmp C ((XT.ushrL v (49 : Int32)).toInt) (0 : Int) rfl (by decide) d1_79 (pc1 := 80) rfl d1_80 (by decide) (pc' := 86) (by decide) (pcN := 83) rfl (fun (c_28 : ((XT.ushrL v (49 : Int32)).toInt) = (0 : Int)) => ?_) (fun (c_28 : ¬ ((XT.ushrL v (49 : Int32)).toInt) = (0 : Int)) => absurd ((own_len7 v).mpr (by omega)) c_28)
          refine go_lloadN C d1_86 (pc' := 87) rfl rfl ?_
          refine go_bipush C (56 : Int32) d1_87 (pc' := 89) rfl (by decide) ?_
          refine go_lushr C d1_89 (pc' := 90) rfl ?_
          refine go_lconst C (0 : Int64) d1_90 (pc' := 91) rfl (by decide) ?_
          refine go_lcmp C ((XT.ushrL v (56 : Int32)).toInt) (0 : Int) rfl (by decide) d1_91 (pc1 := 92) rfl d1_92 (by decide) (pc' := 98) (by decide) (pcN := 95) rfl (fun (c_29 : ((XT.ushrL v (56 : Int32)).toInt) = (0 : Int)) => ?_) (fun (c_29 : ¬ ((XT.ushrL v (56 : Int32)).toInt) = (0 : Int)) => absurd ((own_len8 v).mpr (by omega)) c_29)
          refine go_lloadN C d1_98 (pc' := 99) rfl rfl ?_
          refine go_bipush C (63 : Int32) d1_99 (pc' := 101) rfl (by decide) ?_
          refine go_lushr C d1_101 (pc' := 102) rfl ?_
          refine go_lconst C (0 : Int64) d1_102 (pc' := 103) rfl (by decide) ?_
          refine go_lcmp C ((XT.ushrL v (63 : Int32)).toInt) (0 : Int) rfl (by decide) d1_103 (pc1 := 104) rfl d1_104 (by decide) (pc' := 110) (by decide) (pcN := 107) rfl (fun (c_30 : ((XT.ushrL v (63 : Int32)).toInt) = (0 : Int)) => ?_) (fun (c_30 : ¬ ((XT.ushrL v (63 : Int32)).toInt) = (0 : Int)) => absurd ((own_len9 v).mpr (by omega)) c_30)
          refine go_iloadN C d1_110 (pc' := 111) rfl rfl ?_
          refine go_ireturnI C rfl d1_111 (by decide) (by decide) ?_
          exact ⟨_, rfl, ⟨4, rfl, (Or.inr (Or.inr (Or.inr (Or.inl ⟨rfl, by omega, by omega⟩))))⟩, rfl⟩
        · skip
          have f4 : ¬ v.toBitVec.toNat < 268435456 := fun z => c_25 ((own_len4 v).mpr z)
          refine go_iinc C (Ls' := #[.val (.long v), .second, .val (.int ((4 : Int32) + (1 : Int32)))]) (1 : Int32) d1_47 (pc' := 50) rfl (by decide) rfl rfl ?_
          rw [(by decide : (4 : Int32) + (1 : Int32) = (5 : Int32))]
          refine go_lloadN C d1_50 (pc' := 51) rfl rfl ?_
          refine go_bipush C (35 : Int32) d1_51 (pc' := 53) rfl (by decide) ?_
          refine go_lushr C d1_53 (pc' := 54) rfl ?_
          refine go_lconst C (0 : Int64) d1_54 (pc' := 55) rfl (by decide) ?_
          refine go_lcmp C ((XT.ushrL v (35 : Int32)).toInt) (0 : Int) rfl (by decide) d1_55 (pc1 := 56) rfl d1_56 (by decide) (pc' := 62) (by decide) (pcN := 59) rfl (fun (c_31 : ((XT.ushrL v (35 : Int32)).toInt) = (0 : Int)) => ?_) (fun (c_31 : ¬ ((XT.ushrL v (35 : Int32)).toInt) = (0 : Int)) => ?_)
          · skip
            have f5 := (own_len5 v).mp c_31
            refine go_lloadN C d1_62 (pc' := 63) rfl rfl ?_
            refine go_bipush C (42 : Int32) d1_63 (pc' := 65) rfl (by decide) ?_
            refine go_lushr C d1_65 (pc' := 66) rfl ?_
            refine go_lconst C (0 : Int64) d1_66 (pc' := 67) rfl (by decide) ?_
            refine go_lcmp C ((XT.ushrL v (42 : Int32)).toInt) (0 : Int) rfl (by decide) d1_67 (pc1 := 68) rfl d1_68 (by decide) (pc' := 74) (by decide) (pcN := 71) rfl (fun (c_32 : ((XT.ushrL v (42 : Int32)).toInt) = (0 : Int)) => ?_) (fun (c_32 : ¬ ((XT.ushrL v (42 : Int32)).toInt) = (0 : Int)) => absurd ((own_len6 v).mpr (by omega)) c_32)
            refine go_lloadN C d1_74 (pc' := 75) rfl rfl ?_
            refine go_bipush C (49 : Int32) d1_75 (pc' := 77) rfl (by decide) ?_
            refine go_lushr C d1_77 (pc' := 78) rfl ?_
            refine go_lconst C (0 : Int64) d1_78 (pc' := 79) rfl (by decide) ?_
            refine go_lcmp C ((XT.ushrL v (49 : Int32)).toInt) (0 : Int) rfl (by decide) d1_79 (pc1 := 80) rfl d1_80 (by decide) (pc' := 86) (by decide) (pcN := 83) rfl (fun (c_33 : ((XT.ushrL v (49 : Int32)).toInt) = (0 : Int)) => ?_) (fun (c_33 : ¬ ((XT.ushrL v (49 : Int32)).toInt) = (0 : Int)) => absurd ((own_len7 v).mpr (by omega)) c_33)
            refine go_lloadN C d1_86 (pc' := 87) rfl rfl ?_
            refine go_bipush C (56 : Int32) d1_87 (pc' := 89) rfl (by decide) ?_
            refine go_lushr C d1_89 (pc' := 90) rfl ?_
            refine go_lconst C (0 : Int64) d1_90 (pc' := 91) rfl (by decide) ?_
            refine go_lcmp C ((XT.ushrL v (56 : Int32)).toInt) (0 : Int) rfl (by decide) d1_91 (pc1 := 92) rfl d1_92 (by decide) (pc' := 98) (by decide) (pcN := 95) rfl (fun (c_34 : ((XT.ushrL v (56 : Int32)).toInt) = (0 : Int)) => ?_) (fun (c_34 : ¬ ((XT.ushrL v (56 : Int32)).toInt) = (0 : Int)) => absurd ((own_len8 v).mpr (by omega)) c_34)
            refine go_lloadN C d1_98 (pc' := 99) rfl rfl ?_
            refine go_bipush C (63 : Int32) d1_99 (pc' := 101) rfl (by decide) ?_
            refine go_lushr C d1_101 (pc' := 102) rfl ?_
            refine go_lconst C (0 : Int64) d1_102 (pc' := 103) rfl (by decide) ?_
            refine go_lcmp C ((XT.ushrL v (63 : Int32)).toInt) (0 : Int) rfl (by decide) d1_103 (pc1 := 104) rfl d1_104 (by decide) (pc' := 110) (by decide) (pcN := 107) rfl (fun (c_35 : ((XT.ushrL v (63 : Int32)).toInt) = (0 : Int)) => ?_) (fun (c_35 : ¬ ((XT.ushrL v (63 : Int32)).toInt) = (0 : Int)) => absurd ((own_len9 v).mpr (by omega)) c_35)
            refine go_iloadN C d1_110 (pc' := 111) rfl rfl ?_
            refine go_ireturnI C rfl d1_111 (by decide) (by decide) ?_
            exact ⟨_, rfl, ⟨5, rfl, (Or.inr (Or.inr (Or.inr (Or.inr (Or.inl ⟨rfl, by omega, by omega⟩)))))⟩, rfl⟩
          · skip
            have f5 : ¬ v.toBitVec.toNat < 34359738368 := fun z => c_31 ((own_len5 v).mpr z)
            refine go_iinc C (Ls' := #[.val (.long v), .second, .val (.int ((5 : Int32) + (1 : Int32)))]) (1 : Int32) d1_59 (pc' := 62) rfl (by decide) rfl rfl ?_
            rw [(by decide : (5 : Int32) + (1 : Int32) = (6 : Int32))]
            refine go_lloadN C d1_62 (pc' := 63) rfl rfl ?_
            refine go_bipush C (42 : Int32) d1_63 (pc' := 65) rfl (by decide) ?_
            refine go_lushr C d1_65 (pc' := 66) rfl ?_
            refine go_lconst C (0 : Int64) d1_66 (pc' := 67) rfl (by decide) ?_
            refine go_lcmp C ((XT.ushrL v (42 : Int32)).toInt) (0 : Int) rfl (by decide) d1_67 (pc1 := 68) rfl d1_68 (by decide) (pc' := 74) (by decide) (pcN := 71) rfl (fun (c_36 : ((XT.ushrL v (42 : Int32)).toInt) = (0 : Int)) => ?_) (fun (c_36 : ¬ ((XT.ushrL v (42 : Int32)).toInt) = (0 : Int)) => ?_)
            · skip
              have f6 := (own_len6 v).mp c_36
              refine go_lloadN C d1_74 (pc' := 75) rfl rfl ?_
              refine go_bipush C (49 : Int32) d1_75 (pc' := 77) rfl (by decide) ?_
              refine go_lushr C d1_77 (pc' := 78) rfl ?_
              refine go_lconst C (0 : Int64) d1_78 (pc' := 79) rfl (by decide) ?_
              refine go_lcmp C ((XT.ushrL v (49 : Int32)).toInt) (0 : Int) rfl (by decide) d1_79 (pc1 := 80) rfl d1_80 (by decide) (pc' := 86) (by decide) (pcN := 83) rfl (fun (c_37 : ((XT.ushrL v (49 : Int32)).toInt) = (0 : Int)) => ?_) (fun (c_37 : ¬ ((XT.ushrL v (49 : Int32)).toInt) = (0 : Int)) => absurd ((own_len7 v).mpr (by omega)) c_37)
              refine go_lloadN C d1_86 (pc' := 87) rfl rfl ?_
              refine go_bipush C (56 : Int32) d1_87 (pc' := 89) rfl (by decide) ?_
              refine go_lushr C d1_89 (pc' := 90) rfl ?_
              refine go_lconst C (0 : Int64) d1_90 (pc' := 91) rfl (by decide) ?_
              refine go_lcmp C ((XT.ushrL v (56 : Int32)).toInt) (0 : Int) rfl (by decide) d1_91 (pc1 := 92) rfl d1_92 (by decide) (pc' := 98) (by decide) (pcN := 95) rfl (fun (c_38 : ((XT.ushrL v (56 : Int32)).toInt) = (0 : Int)) => ?_) (fun (c_38 : ¬ ((XT.ushrL v (56 : Int32)).toInt) = (0 : Int)) => absurd ((own_len8 v).mpr (by omega)) c_38)
              refine go_lloadN C d1_98 (pc' := 99) rfl rfl ?_
              refine go_bipush C (63 : Int32) d1_99 (pc' := 101) rfl (by decide) ?_
              refine go_lushr C d1_101 (pc' := 102) rfl ?_
              refine go_lconst C (0 : Int64) d1_102 (pc' := 103) rfl (by decide) ?_
              refine go_lcmp C ((XT.ushrL v (63 : Int32)).toInt) (0 : Int) rfl (by decide) d1_103 (pc1 := 104) rfl d1_104 (by decide) (pc' := 110) (by decide) (pcN := 107) rfl (fun (c_39 : ((XT.ushrL v (63 : Int32)).toInt) = (0 : Int)) => ?_) (fun (c_39 : ¬ ((XT.ushrL v (63 : Int32)).toInt) = (0 : Int)) => absurd ((own_len9 v).mpr (by omega)) c_39)
              refine go_iloadN C d1_110 (pc' := 111) rfl rfl ?_
              refine go_ireturnI C rfl d1_111 (by decide) (by decide) ?_
              exact ⟨_, rfl, ⟨6, rfl, (Or.inr (Or.inr (Or.inr (Or.inr (Or.inr (Or.inl ⟨rfl, by omega, by omega⟩))))))⟩, rfl⟩
            · skip
              have f6 : ¬ v.toBitVec.toNat < 4398046511104 := fun z => c_36 ((own_len6 v).mpr z)
              refine go_iinc C (Ls' := #[.val (.long v), .second, .val (.int ((6 : Int32) + (1 : Int32)))]) (1 : Int32) d1_71 (pc' := 74) rfl (by decide) rfl rfl ?_
              rw [(by decide : (6 : Int32) + (1 : Int32) = (7 : Int32))]
              refine go_lloadN C d1_74 (pc' := 75) rfl rfl ?_
              refine go_bipush C (49 : Int32) d1_75 (pc' := 77) rfl (by decide) ?_
              refine go_lushr C d1_77 (pc' := 78) rfl ?_
              refine go_lconst C (0 : Int64) d1_78 (pc' := 79) rfl (by decide) ?_
              refine go_lcmp C ((XT.ushrL v (49 : Int32)).toInt) (0 : Int) rfl (by decide) d1_79 (pc1 := 80) rfl d1_80 (by decide) (pc' := 86) (by decide) (pcN := 83) rfl (fun (c_40 : ((XT.ushrL v (49 : Int32)).toInt) = (0 : Int)) => ?_) (fun (c_40 : ¬ ((XT.ushrL v (49 : Int32)).toInt) = (0 : Int)) => ?_)
              · skip
                have f7 := (own_len7 v).mp c_40
                refine go_lloadN C d1_86 (pc' := 87) rfl rfl ?_
                refine go_bipush C (56 : Int32) d1_87 (pc' := 89) rfl (by decide) ?_
                refine go_lushr C d1_89 (pc' := 90) rfl ?_
                refine go_lconst C (0 : Int64) d1_90 (pc' := 91) rfl (by decide) ?_
                refine go_lcmp C ((XT.ushrL v (56 : Int32)).toInt) (0 : Int) rfl (by decide) d1_91 (pc1 := 92) rfl d1_92 (by decide) (pc' := 98) (by decide) (pcN := 95) rfl (fun (c_41 : ((XT.ushrL v (56 : Int32)).toInt) = (0 : Int)) => ?_) (fun (c_41 : ¬ ((XT.ushrL v (56 : Int32)).toInt) = (0 : Int)) => absurd ((own_len8 v).mpr (by omega)) c_41)
                refine go_lloadN C d1_98 (pc' := 99) rfl rfl ?_
                refine go_bipush C (63 : Int32) d1_99 (pc' := 101) rfl (by decide) ?_
                refine go_lushr C d1_101 (pc' := 102) rfl ?_
                refine go_lconst C (0 : Int64) d1_102 (pc' := 103) rfl (by decide) ?_
                refine go_lcmp C ((XT.ushrL v (63 : Int32)).toInt) (0 : Int) rfl (by decide) d1_103 (pc1 := 104) rfl d1_104 (by decide) (pc' := 110) (by decide) (pcN := 107) rfl (fun (c_42 : ((XT.ushrL v (63 : Int32)).toInt) = (0 : Int)) => ?_) (fun (c_42 : ¬ ((XT.ushrL v (63 : Int32)).toInt) = (0 : Int)) => absurd ((own_len9 v).mpr (by omega)) c_42)
                refine go_iloadN C d1_110 (pc' := 111) rfl rfl ?_
                refine go_ireturnI C rfl d1_111 (by decide) (by decide) ?_
                exact ⟨_, rfl, ⟨7, rfl, (Or.inr (Or.inr (Or.inr (Or.inr (Or.inr (Or.inr (Or.inl ⟨rfl, by omega, by omega⟩)))))))⟩, rfl⟩
              · skip
                have f7 : ¬ v.toBitVec.toNat < 562949953421312 := fun z => c_40 ((own_len7 v).mpr z)
                refine go_iinc C (Ls' := #[.val (.long v), .second, .val (.int ((7 : Int32) + (1 : Int32)))]) (1 : Int32) d1_83 (pc' := 86) rfl (by decide) rfl rfl ?_
                rw [(by decide : (7 : Int32) + (1 : Int32) = (8 : Int32))]
                refine go_lloadN C d1_86 (pc' := 87) rfl rfl ?_
                refine go_bipush C (56 : Int32) d1_87 (pc' := 89) rfl (by decide) ?_
                refine go_lushr C d1_89 (pc' := 90) rfl ?_
                refine go_lconst C (0 : Int64) d1_90 (pc' := 91) rfl (by decide) ?_
                refine go_lcmp C ((XT.ushrL v (56 : Int32)).toInt) (0 : Int) rfl (by decide) d1_91 (pc1 := 92) rfl d1_92 (by decide) (pc' := 98) (by decide) (pcN := 95) rfl (fun (c_43 : ((XT.ushrL v (56 : Int32)).toInt) = (0 : Int)) => ?_) (fun (c_43 : ¬ ((XT.ushrL v (56 : Int32)).toInt) = (0 : Int)) => ?_)
                · skip
                  have f8 := (own_len8 v).mp c_43
                  refine go_lloadN C d1_98 (pc' := 99) rfl rfl ?_
                  refine go_bipush C (63 : Int32) d1_99 (pc' := 101) rfl (by decide) ?_
                  refine go_lushr C d1_101 (pc' := 102) rfl ?_
                  refine go_lconst C (0 : Int64) d1_102 (pc' := 103) rfl (by decide) ?_
                  refine go_lcmp C ((XT.ushrL v (63 : Int32)).toInt) (0 : Int) rfl (by decide) d1_103 (pc1 := 104) rfl d1_104 (by decide) (pc' := 110) (by decide) (pcN := 107) rfl (fun (c_44 : ((XT.ushrL v (63 : Int32)).toInt) = (0 : Int)) => ?_) (fun (c_44 : ¬ ((XT.ushrL v (63 : Int32)).toInt) = (0 : Int)) => absurd ((own_len9 v).mpr (by omega)) c_44)
                  refine go_iloadN C d1_110 (pc' := 111) rfl rfl ?_
                  refine go_ireturnI C rfl d1_111 (by decide) (by decide) ?_
                  exact ⟨_, rfl, ⟨8, rfl, (Or.inr (Or.inr (Or.inr (Or.inr (Or.inr (Or.inr (Or.inr (Or.inl ⟨rfl, by omega, by omega⟩))))))))⟩, rfl⟩
                · skip
                  have f8 : ¬ v.toBitVec.toNat < 72057594037927936 := fun z => c_43 ((own_len8 v).mpr z)
                  refine go_iinc C (Ls' := #[.val (.long v), .second, .val (.int ((8 : Int32) + (1 : Int32)))]) (1 : Int32) d1_95 (pc' := 98) rfl (by decide) rfl rfl ?_
                  rw [(by decide : (8 : Int32) + (1 : Int32) = (9 : Int32))]
                  refine go_lloadN C d1_98 (pc' := 99) rfl rfl ?_
                  refine go_bipush C (63 : Int32) d1_99 (pc' := 101) rfl (by decide) ?_
                  refine go_lushr C d1_101 (pc' := 102) rfl ?_
                  refine go_lconst C (0 : Int64) d1_102 (pc' := 103) rfl (by decide) ?_
                  refine go_lcmp C ((XT.ushrL v (63 : Int32)).toInt) (0 : Int) rfl (by decide) d1_103 (pc1 := 104) rfl d1_104 (by decide) (pc' := 110) (by decide) (pcN := 107) rfl (fun (c_45 : ((XT.ushrL v (63 : Int32)).toInt) = (0 : Int)) => ?_) (fun (c_45 : ¬ ((XT.ushrL v (63 : Int32)).toInt) = (0 : Int)) => ?_)
                  · skip
                    have f9 := (own_len9 v).mp c_45
                    refine go_iloadN C d1_110 (pc' := 111) rfl rfl ?_
                    refine go_ireturnI C rfl d1_111 (by decide) (by decide) ?_
                    exact ⟨_, rfl, ⟨9, rfl, (Or.inr (Or.inr (Or.inr (Or.inr (Or.inr (Or.inr (Or.inr (Or.inr (Or.inl ⟨rfl, by omega, by omega⟩)))))))))⟩, rfl⟩
                  · skip
                    have f9 : ¬ v.toBitVec.toNat < 9223372036854775808 := fun z => c_45 ((own_len9 v).mpr z)
                    refine go_iinc C (Ls' := #[.val (.long v), .second, .val (.int ((9 : Int32) + (1 : Int32)))]) (1 : Int32) d1_107 (pc' := 110) rfl (by decide) rfl rfl ?_
                    rw [(by decide : (9 : Int32) + (1 : Int32) = (10 : Int32))]
                    refine go_iloadN C d1_110 (pc' := 111) rfl rfl ?_
                    refine go_ireturnI C rfl d1_111 (by decide) (by decide) ?_
                    exact ⟨_, rfl, ⟨10, rfl, (Or.inr (Or.inr (Or.inr (Or.inr (Or.inr (Or.inr (Or.inr (Or.inr (Or.inr ⟨rfl, by omega⟩)))))))))⟩, rfl⟩
set_option maxRecDepth 65536 in
set_option maxHeartbeats 40000000 in
theorem sat_put (l : Launch) (Z : State) (a0 : Array Value) (hw : ∀ d ∈ tables_1, d.before a0 Z = true) (v : Int64) (b : Addr) (of fv : Int32) (o n : Nat) (h0 : Heap) (n0 : Nat) (hof : of.toInt = (o : Int)) (ho3 : o ≤ 3) (hN : isN v.toBitVec.toNat n) (A1 : Av Z h0 b .byte (vf 14 (fun j => .int (gi v fv o 0 j)))) (gb : n0 ≤ b) :
    Sat l Z (⟨"com/example/chunkwright/chunkwright/encoding/VarInts", "put", "(J[BI)I"⟩ : MethodName) prog_25_method_3_code 7 (some .int) ({ frames := 0, cells := 0, slots := 0, locals := 0 } : Room) [.long v, .ref b, .int of] h0 n0 (RV fun r h => (∃ q : Int32, r = .int q ∧ q.toInt = ((o + n : Nat) : Int)) ∧ Av Z h b .byte (vf 14 (fun j => .int (pg v fv o n j)))) := by
  refine sat_of (own := "com/example/chunkwright/chunkwright/encoding/VarInts") (nm := "put") rfl rfl (plainFor_of_name pn_1) #[.val (.long v), .second, .val (.ref b), .val (.int of), .unset, .unset, .unset] (fun m => by first | (simp [entryFrame, mkF, argsToLocals, Value.category, maxLocals]; done) | rfl) ?_
  intro p e s m below meth c C
  have hn := isN_range hN
  have hV := v.toBitVec.isLt
  refine go_iloadN C d2_0 (pc' := 1) rfl rfl ?_
  refine go_istore C (Ls' := #[.val (.long v), .second, .val (.ref b), .val (.int of), .val (.int of), .unset, .unset]) d2_1 (pc' := 3) rfl rfl ?_
  refine go_lloadN C d2_3 (pc' := 4) rfl rfl ?_
  refine go_lstore C (Ls' := #[.val (.long v), .second, .val (.ref b), .val (.int of), .val (.int of), .val (.long v), .second]) d2_4 (pc' := 6) rfl rfl ?_
  have loop : ∀ (r k : Nat) (t : Int32) (h : Heap), k + r + 1 = n → t.toInt = ((o + k : Nat) : Int) → Av Z h b .byte (vf 14 (fun j => .int (gi v fv o k j))) → Go p l e ({ frames := 0, cells := 0, slots := 0, locals := 0 } : Room) s m ([.long v, .ref b, .int of] : List Value).toArray below meth c n0 (RV fun r h => (∃ q : Int32, r = .int q ∧ q.toInt = ((o + n : Nat) : Int)) ∧ Av Z h b .byte (vf 14 (fun j => .int (pg v fv o n j)))) ({ frames := 0, cells := 0, slots := 0, locals := 0 } : Room).cells ({ frames := 0, cells := 0, slots := 0, locals := 0 } : Room).slots h 0 0 (mkF m 6 #[.val (.long v), .second, .val (.ref b), .val (.int of), .val (.int t), .val (.long (U v k)), .second] []) := by
    intro r
    induction r with
    | zero =>
      intro k t h hk ht A
      obtain rfl : k = n - 1 := by omega
      have hz : (U v (n - 1) &&& (-128 : Int64)).toInt = 0 := (m128 _).mpr (by rw [U_nat]; exact isN_last hV hN)
      refine go_lload C d2_6 (pc' := 8) rfl rfl ?_
      refine go_ldc2 C (v := (-128 : Int64)) (wd hw 9 rfl) d2_8 (pc' := 11) rfl ?_
      refine go_land C d2_11 (pc' := 12) rfl ?_
      refine go_lconst C (0 : Int64) d2_12 (pc' := 13) rfl (by decide) ?_
      refine go_lcmp C (((U v (n - 1)) &&& (-128 : Int64)).toInt) (0 : Int) rfl (by decide) d2_13 (pc1 := 14) rfl d2_14 (by decide) (pc' := 42) (by decide) (pcN := 17) rfl (fun (c_1 : (((U v (n - 1)) &&& (-128 : Int64)).toInt) = (0 : Int)) => ?_) (fun (c_1 : ¬ (((U v (n - 1)) &&& (-128 : Int64)).toInt) = (0 : Int)) => by omega)
      refine go_aloadN C d2_42 (pc' := 43) rfl rfl rfl ?_
      refine go_iload C d2_43 (pc' := 45) rfl rfl ?_
      refine go_iinc C (Ls' := #[.val (.long v), .second, .val (.ref b), .val (.int of), .val (.int (t + (1 : Int32))), .val (.long (U v (n - 1))), .second]) (1 : Int32) d2_45 (pc' := 48) rfl (by decide) rfl rfl ?_
      refine go_lload C d2_48 (pc' := 50) rfl rfl ?_
      refine go_l2i C d2_50 (pc' := 51) rfl ?_
      refine go_i2b C d2_51 (pc' := 52) rfl ?_
      refine go_bastore C A (o + (n - 1)) ht (by rw [vf_len]; omega) (((U v (n - 1)).toInt32).toInt8.toInt32) (own_bb _) gb d2_52 (pc' := 53) rfl ?_
      intro h_2 W_3 A_4
      refine go_iload C d2_53 (pc' := 55) rfl rfl ?_
      refine go_ireturnI C rfl d2_55 (by decide) (by decide) ?_
      have q := A_4
      rw [vf_set] at q
      exact ⟨_, rfl, ⟨_, rfl, by have := own_next ht (by omega); omega⟩, (gi_last v fv o n) ▸ q⟩
    | succ r ih =>
      intro k t h hk ht A
      have hz : ¬ (U v k &&& (-128 : Int64)).toInt = 0 := fun z => absurd ((m128 _).mp z) (by rw [U_nat]; have := isN_more hN (k := k) (by omega); omega)
      refine go_lload C d2_6 (pc' := 8) rfl rfl ?_
      refine go_ldc2 C (v := (-128 : Int64)) (wd hw 9 rfl) d2_8 (pc' := 11) rfl ?_
      refine go_land C d2_11 (pc' := 12) rfl ?_
      refine go_lconst C (0 : Int64) d2_12 (pc' := 13) rfl (by decide) ?_
      refine go_lcmp C (((U v k) &&& (-128 : Int64)).toInt) (0 : Int) rfl (by decide) d2_13 (pc1 := 14) rfl d2_14 (by decide) (pc' := 42) (by decide) (pcN := 17) rfl (fun (c_6 : (((U v k) &&& (-128 : Int64)).toInt) = (0 : Int)) => by omega) (fun (c_6 : ¬ (((U v k) &&& (-128 : Int64)).toInt) = (0 : Int)) => ?_)
      refine go_aloadN C d2_17 (pc' := 18) rfl rfl rfl ?_
      refine go_iload C d2_18 (pc' := 20) rfl rfl ?_
      refine go_iinc C (Ls' := #[.val (.long v), .second, .val (.ref b), .val (.int of), .val (.int (t + (1 : Int32))), .val (.long (U v k)), .second]) (1 : Int32) d2_20 (pc' := 23) rfl (by decide) rfl rfl ?_
      refine go_lload C d2_23 (pc' := 25) rfl rfl ?_
      refine go_ldc2 C (v := (128 : Int64)) (wd hw 14 rfl) d2_25 (pc' := 28) rfl ?_
      refine go_lor C d2_28 (pc' := 29) rfl ?_
      refine go_l2i C d2_29 (pc' := 30) rfl ?_
      refine go_i2b C d2_30 (pc' := 31) rfl ?_
      refine go_bastore C A (o + k) ht (by rw [vf_len]; omega) ((((U v k) ||| (128 : Int64)).toInt32).toInt8.toInt32) (own_bb _) gb d2_31 (pc' := 32) rfl ?_
      intro h_7 W_8 A_9
      refine go_lload C d2_32 (pc' := 34) rfl rfl ?_
      refine go_bipush C (7 : Int32) d2_34 (pc' := 36) rfl (by decide) ?_
      refine go_lushr C d2_36 (pc' := 37) rfl ?_
      refine go_lstore C (Ls' := #[.val (.long v), .second, .val (.ref b), .val (.int of), .val (.int (t + (1 : Int32))), .val (.long (XT.ushrL (U v k) (7 : Int32))), .second]) d2_37 (pc' := 39) rfl rfl ?_
      refine go_goto C d2_39 (by decide) (pc' := 6) (by decide) ?_
      have q := A_9
      rw [vf_set] at q
      exact ih (k + 1) _ _ (by omega) (own_next (i := o + k) ht (by omega)) ((gi_step v fv o k) ▸ q)
  exact loop (n - 1) 0 _ _ (by omega) hof A1
set_option maxRecDepth 65536 in
set_option maxHeartbeats 40000000 in
theorem sat_ok (l : Launch) (Z : State) (a0 : Array Value) (hw : ∀ d ∈ tables_1, d.before a0 Z = true) (b : Addr) (i of nn fv ww : Int32) (v : Int64) (k o n : Nat) (vs : List Value) (h0 : Heap) (n0 : Nat) (A1 : Av Z h0 b .byte vs) (hk : i.toInt = (k : Int)) (hk14 : k < 14) (hof : of.toInt = (o : Int)) (ho3 : o ≤ 3) (hn : nn.toInt = (n : Int)) (hn1 : 1 ≤ n) (hn10 : n ≤ 10) (hv : vs[k]? = some (.int ww)) (hf : k < o ∨ o + n ≤ k → ww = fv) (h1 : o ≤ k → k < o + (n - 1) → ww = ((XT.ushrL v ((7 : Int32) * (i - of)) &&& (127 : Int64)).toInt32 ||| (128 : Int32)).toInt8.toInt32) (h2 : k = o + (n - 1) → ww = (XT.ushrL v ((7 : Int32) * (i - of)) &&& (127 : Int64)).toInt32.toInt8.toInt32) :
    Sat l Z (⟨"com/example/chunkwright/chunkwright/encoding/VarIntsPutPinLaw", "ok", "([BIIIJB)Z"⟩ : MethodName) method_3_code 10 (some .boolean) ({ frames := 0, cells := 0, slots := 0, locals := 0 } : Room) [.ref b, .int i, .int of, .int nn, .long v, .int fv] h0 n0 (RV fun r h => r = .int 1 ∧ h = h0) := by
  refine sat_of (own := "com/example/chunkwright/chunkwright/encoding/VarIntsPutPinLaw") (nm := "ok") rfl rfl (plainFor_of_name pn_0) #[.val (.ref b), .val (.int i), .val (.int of), .val (.int nn), .val (.long v), .second, .val (.int fv), .unset, .unset, .unset] (fun m => by first | (simp [entryFrame, mkF, argsToLocals, Value.category, maxLocals]; done) | rfl) ?_
  intro p e s m below meth c C
  have e1 : (i - of).toInt = i.toInt - of.toInt := Jvm.Kit.i32_sub (by omega) (by omega)
  have k1 : ((1 : Int32)).toInt = 1 := by decide
  have e2 : (nn - (1 : Int32)).toInt = nn.toInt - 1 := by rw [Jvm.Kit.i32_sub (by omega) (by omega), k1]
  refine go_iloadN C d3_0 (pc' := 1) rfl rfl ?_
  refine go_iloadN C d3_1 (pc' := 2) rfl rfl ?_
  refine go_isub C d3_2 (pc' := 3) rfl ?_
  refine go_istore C (Ls' := #[.val (.ref b), .val (.int i), .val (.int of), .val (.int nn), .val (.long v), .second, .val (.int fv), .val (.int (i - of)), .unset, .unset]) d3_3 (pc' := 5) rfl rfl ?_
  refine go_iload C d3_5 (pc' := 7) rfl rfl ?_
  refine go_if0 C (i.toInt - of.toInt) e1 d3_7 (by decide) (pc' := 16) (by decide) (pcN := 10) rfl (fun (c_1 : (i.toInt - of.toInt) < 0) => ?_) (fun (c_1 : ¬ (i.toInt - of.toInt) < 0) => ?_)
  · skip
    refine go_aloadN C d3_16 (pc' := 17) rfl rfl rfl ?_
    refine go_iloadN C d3_17 (pc' := 18) rfl rfl ?_
    refine go_baload C A1 k (.int ww) hk hv d3_18 (pc' := 19) rfl ?_
    refine go_iload C d3_19 (pc' := 21) rfl rfl ?_
    refine go_icmp C ww.toInt fv.toInt rfl rfl d3_21 (by decide) (pc' := 28) (by decide) (pcN := 24) rfl (fun (c_2 : ¬ ww.toInt = fv.toInt) => ?_) (fun (c_2 : ww.toInt = fv.toInt) => ?_)
    · skip
      exact absurd (congrArg Int32.toInt (hf (by omega))) c_2
    · skip
      refine go_iconst C (1 : Int32) d3_24 (pc' := 25) rfl (by decide) ?_
      refine go_goto C d3_25 (by decide) (pc' := 29) (by decide) ?_
      refine go_ireturnN C (z' := (1 : Int32)) rfl (by simp) rfl d3_29 (by decide) (by decide) ?_
      exact ⟨_, rfl, rfl, rfl⟩
  · skip
    refine go_iload C d3_10 (pc' := 12) rfl rfl ?_
    refine go_iloadN C d3_12 (pc' := 13) rfl rfl ?_
    refine go_icmp C (i.toInt - of.toInt) nn.toInt e1 rfl d3_13 (by decide) (pc' := 30) (by decide) (pcN := 16) rfl (fun (c_3 : (i.toInt - of.toInt) < nn.toInt) => ?_) (fun (c_3 : ¬ (i.toInt - of.toInt) < nn.toInt) => ?_)
    · skip
      refine go_lload C d3_30 (pc' := 32) rfl rfl ?_
      refine go_bipush C (7 : Int32) d3_32 (pc' := 34) rfl (by decide) ?_
      refine go_iload C d3_34 (pc' := 36) rfl rfl ?_
      refine go_imul C d3_36 (pc' := 37) rfl ?_
      refine go_lushr C d3_37 (pc' := 38) rfl ?_
      refine go_ldc2 C (v := (127 : Int64)) (wd hw 13 rfl) d3_38 (pc' := 41) rfl ?_
      refine go_land C d3_41 (pc' := 42) rfl ?_
      refine go_l2i C d3_42 (pc' := 43) rfl ?_
      refine go_istore C (Ls' := #[.val (.ref b), .val (.int i), .val (.int of), .val (.int nn), .val (.long v), .second, .val (.int fv), .val (.int (i - of)), .val (.int (((XT.ushrL v ((7 : Int32) * (i - of))) &&& (127 : Int64)).toInt32)), .unset]) d3_43 (pc' := 45) rfl rfl ?_
      refine go_iload C d3_45 (pc' := 47) rfl rfl ?_
      refine go_iloadN C d3_47 (pc' := 48) rfl rfl ?_
      refine go_iconst C (1 : Int32) d3_48 (pc' := 49) rfl (by decide) ?_
      refine go_isub C d3_49 (pc' := 50) rfl ?_
      refine go_icmp C (i.toInt - of.toInt) (nn.toInt - 1) e1 e2 d3_50 (by decide) (pc' := 62) (by decide) (pcN := 53) rfl (fun (c_4 : ¬ (i.toInt - of.toInt) < (nn.toInt - 1)) => ?_) (fun (c_4 : (i.toInt - of.toInt) < (nn.toInt - 1)) => ?_)
      · skip
        refine go_iload C d3_62 (pc' := 64) rfl rfl ?_
        refine go_istore C (Ls' := #[.val (.ref b), .val (.int i), .val (.int of), .val (.int nn), .val (.long v), .second, .val (.int fv), .val (.int (i - of)), .val (.int (((XT.ushrL v ((7 : Int32) * (i - of))) &&& (127 : Int64)).toInt32)), .val (.int (((XT.ushrL v ((7 : Int32) * (i - of))) &&& (127 : Int64)).toInt32))]) d3_64 (pc' := 66) rfl rfl ?_
        refine go_aloadN C d3_66 (pc' := 67) rfl rfl rfl ?_
        refine go_iloadN C d3_67 (pc' := 68) rfl rfl ?_
        refine go_baload C A1 k (.int ww) hk hv d3_68 (pc' := 69) rfl ?_
        refine go_iload C d3_69 (pc' := 71) rfl rfl ?_
        refine go_i2b C d3_71 (pc' := 72) rfl ?_
        refine go_icmp C ww.toInt (((((XT.ushrL v ((7 : Int32) * (i - of))) &&& (127 : Int64)).toInt32).toInt8.toInt32).toInt) rfl rfl d3_72 (by decide) (pc' := 79) (by decide) (pcN := 75) rfl (fun (c_5 : ¬ ww.toInt = (((((XT.ushrL v ((7 : Int32) * (i - of))) &&& (127 : Int64)).toInt32).toInt8.toInt32).toInt)) => ?_) (fun (c_5 : ww.toInt = (((((XT.ushrL v ((7 : Int32) * (i - of))) &&& (127 : Int64)).toInt32).toInt8.toInt32).toInt)) => ?_)
        · skip
          exact absurd (congrArg Int32.toInt (h2 (by omega))) c_5
        · skip
          refine go_iconst C (1 : Int32) d3_75 (pc' := 76) rfl (by decide) ?_
          refine go_goto C d3_76 (by decide) (pc' := 80) (by decide) ?_
          refine go_ireturnN C (z' := (1 : Int32)) rfl (by simp) rfl d3_80 (by decide) (by decide) ?_
          exact ⟨_, rfl, rfl, rfl⟩
      · skip
        refine go_iload C d3_53 (pc' := 55) rfl rfl ?_
        refine go_sipush C (128 : Int32) d3_55 (pc' := 58) rfl (by decide) ?_
        refine go_ior C d3_58 (pc' := 59) rfl ?_
        refine go_goto C d3_59 (by decide) (pc' := 64) (by decide) ?_
        refine go_istore C (Ls' := #[.val (.ref b), .val (.int i), .val (.int of), .val (.int nn), .val (.long v), .second, .val (.int fv), .val (.int (i - of)), .val (.int (((XT.ushrL v ((7 : Int32) * (i - of))) &&& (127 : Int64)).toInt32)), .val (.int ((((XT.ushrL v ((7 : Int32) * (i - of))) &&& (127 : Int64)).toInt32) ||| (128 : Int32)))]) d3_64 (pc' := 66) rfl rfl ?_
        refine go_aloadN C d3_66 (pc' := 67) rfl rfl rfl ?_
        refine go_iloadN C d3_67 (pc' := 68) rfl rfl ?_
        refine go_baload C A1 k (.int ww) hk hv d3_68 (pc' := 69) rfl ?_
        refine go_iload C d3_69 (pc' := 71) rfl rfl ?_
        refine go_i2b C d3_71 (pc' := 72) rfl ?_
        refine go_icmp C ww.toInt ((((((XT.ushrL v ((7 : Int32) * (i - of))) &&& (127 : Int64)).toInt32) ||| (128 : Int32)).toInt8.toInt32).toInt) rfl rfl d3_72 (by decide) (pc' := 79) (by decide) (pcN := 75) rfl (fun (c_6 : ¬ ww.toInt = ((((((XT.ushrL v ((7 : Int32) * (i - of))) &&& (127 : Int64)).toInt32) ||| (128 : Int32)).toInt8.toInt32).toInt)) => ?_) (fun (c_6 : ww.toInt = ((((((XT.ushrL v ((7 : Int32) * (i - of))) &&& (127 : Int64)).toInt32) ||| (128 : Int32)).toInt8.toInt32).toInt)) => ?_)
        · skip
          exact absurd (congrArg Int32.toInt (h1 (by omega) (by omega))) c_6
        · skip
          refine go_iconst C (1 : Int32) d3_75 (pc' := 76) rfl (by decide) ?_
          refine go_goto C d3_76 (by decide) (pc' := 80) (by decide) ?_
          refine go_ireturnN C (z' := (1 : Int32)) rfl (by simp) rfl d3_80 (by decide) (by decide) ?_
          exact ⟨_, rfl, rfl, rfl⟩
    · skip
      refine go_aloadN C d3_16 (pc' := 17) rfl rfl rfl ?_
      refine go_iloadN C d3_17 (pc' := 18) rfl rfl ?_
      refine go_baload C A1 k (.int ww) hk hv d3_18 (pc' := 19) rfl ?_
      refine go_iload C d3_19 (pc' := 21) rfl rfl ?_
      refine go_icmp C ww.toInt fv.toInt rfl rfl d3_21 (by decide) (pc' := 28) (by decide) (pcN := 24) rfl (fun (c_7 : ¬ ww.toInt = fv.toInt) => ?_) (fun (c_7 : ww.toInt = fv.toInt) => ?_)
      · skip
        exact absurd (congrArg Int32.toInt (hf (by omega))) c_7
      · skip
        refine go_iconst C (1 : Int32) d3_24 (pc' := 25) rfl (by decide) ?_
        refine go_goto C d3_25 (by decide) (pc' := 29) (by decide) ?_
        refine go_ireturnN C (z' := (1 : Int32)) rfl (by simp) rfl d3_29 (by decide) (by decide) ?_
        exact ⟨_, rfl, rfl, rfl⟩
theorem own_at (v : Int64) (fv of i : Int32) (o n k : Nat) (hof : of.toInt = (o : Int)) (ho3 : o ≤ 3) (hN : isN v.toBitVec.toNat n) (hk : i.toInt = (k : Int)) (hk14 : k < 14) : (k < o ∨ o + n ≤ k → pg v fv o n k = fv) ∧ (o ≤ k → k < o + (n - 1) → pg v fv o n k = ((XT.ushrL v ((7 : Int32) * (i - of)) &&& (127 : Int64)).toInt32 ||| (128 : Int32)).toInt8.toInt32) ∧ (k = o + (n - 1) → pg v fv o n k = (XT.ushrL v ((7 : Int32) * (i - of)) &&& (127 : Int64)).toInt32.toInt8.toInt32) := by
  have hn := isN_range hN
  have hV := v.toBitVec.isLt
  have e1 : (i - of).toInt = i.toInt - of.toInt := Jvm.Kit.i32_sub (by omega) (by omega)
  have k7 : ((7 : Int32)).toInt = 7 := by decide
  have e7 : ∀ d : Nat, d ≤ 9 → k = o + d → (7 : Int32) * (i - of) = Int32.ofNat (7 * d) := fun d hd hkd => int_eq (by
    rw [Jvm.Kit.i32_mul (by rw [k7]; omega) (by rw [k7]; omega), k7, Int32.toInt_ofNat_of_lt (by omega)]; omega)
  refine ⟨fun h => ?_, fun h h' => ?_, fun h => ?_⟩
  · unfold pg
    by_cases q : k < o
    · rw [if_pos q]
    · rw [if_neg q, if_neg (by omega), if_neg (by omega)]
  · unfold pg
    rw [if_neg (by omega), if_pos h', own_B1, e7 (k - o) (by omega) (by omega), U_eq v (k - o) (by omega)]
  · unfold pg
    rw [if_neg (by omega), if_neg (by omega), if_pos h, e7 (k - o) (by omega) (by omega), own_B0 _ (by rw [U_nat, show k - o = n - 1 by omega]; exact isN_last hV hN), U_eq v (k - o) (by omega)]
set_option maxRecDepth 65536 in
set_option maxHeartbeats 40000000 in
theorem law_sat (l : Launch) (Z : State) (a0 : Array Value) (hw : ∀ d ∈ tables_1, d.before a0 Z = true) (v : Int64) (x1 x2 : Int32)  :
    Sat l Z x code maxLocals ret room_1 [.long v, .int x1, .int x2] Z.heap Z.heap.size (RV fun r _ => r = .int 1) := by
  refine sat_of (own := "com/example/chunkwright/chunkwright/encoding/VarIntsPutPinLaw") (nm := "law") rfl rfl (plainFor_of_name pn_0) #[.val (.long v), .second, .val (.int x1), .val (.int x2), .unset, .unset, .unset, .unset, .unset] (fun m => by first | (simp [entryFrame, mkF, argsToLocals, Value.category, maxLocals]; done) | rfl) ?_
  intro p e s m below meth c C
  have hm : (x1 &&& (3 : Int32)).toInt = x1.toInt % 2 ^ 2 := Jvm.Kit.i32_mask x1 _ (k := 2) (by decide) (by decide)
  obtain ⟨o, ho⟩ : ∃ o : Nat, (x1 &&& (3 : Int32)).toInt = (o : Int) := ⟨(x1.toInt % 2 ^ 2).toNat, by omega⟩
  have ho3 : o ≤ 3 := by omega
  clear hm
  refine go_iloadN C at_0 (pc' := 1) rfl rfl ?_
  refine go_iconst C (3 : Int32) at_1 (pc' := 2) rfl (by decide) ?_
  refine go_iand C at_2 (pc' := 3) rfl ?_
  refine go_istore C (Ls' := #[.val (.long v), .second, .val (.int x1), .val (.int x2), .val (.int (x1 &&& (3 : Int32))), .unset, .unset, .unset, .unset]) at_3 (pc' := 5) rfl rfl ?_
  refine go_iloadN C at_5 (pc' := 6) rfl rfl ?_
  refine go_i2b C at_6 (pc' := 7) rfl ?_
  refine go_istore C (Ls' := #[.val (.long v), .second, .val (.int x1), .val (.int x2), .val (.int (x1 &&& (3 : Int32))), .val (.int x2.toInt8.toInt32), .unset, .unset, .unset]) at_7 (pc' := 9) rfl rfl ?_
  refine go_bipush C (14 : Int32) at_9 (pc' := 11) rfl (by decide) ?_
  refine go_newarray C (wd hw 0 rfl) rfl 14 14 (by decide) (by decide) (by decide) (ce' := 1) (sl' := 14) rfl rfl (by decide) (by decide) at_11 (pc' := 13) rfl ?_
  intro h_1 a_2 g_3 E_4 A_5
  have g_6 : Z.heap.size ≤ a_2 := own_ge (Nat.le_refl _) g_3
  have z_7 : Z.heap.size ≤ h_1.size := Nat.le_trans (Nat.le_refl _) E_4.1
  have A_8 : Av Z h_1 a_2 .byte [.int (0 : Int32), .int (0 : Int32), .int (0 : Int32), .int (0 : Int32), .int (0 : Int32), .int (0 : Int32), .int (0 : Int32), .int (0 : Int32), .int (0 : Int32), .int (0 : Int32), .int (0 : Int32), .int (0 : Int32), .int (0 : Int32), .int (0 : Int32)] := A_5
  refine go_astore C (Ls' := #[.val (.long v), .second, .val (.int x1), .val (.int x2), .val (.int (x1 &&& (3 : Int32))), .val (.int x2.toInt8.toInt32), .val (.ref a_2), .unset, .unset]) at_13 (pc' := 15) rfl rfl rfl ?_
  refine go_aload C at_15 (pc' := 17) rfl rfl rfl ?_
  refine go_iconst C (0 : Int32) at_17 (pc' := 18) rfl (by decide) ?_
  refine go_iload C at_18 (pc' := 20) rfl rfl ?_
  refine go_bastore C A_8 0 (by decide) (show 0 < 14 from by decide) x2.toInt8.toInt32 (own_bb _) g_6 at_20 (pc' := 21) rfl ?_
  intro h_9 W_10 A_11
  have z_12 : Z.heap.size ≤ h_9.size := W_10.size.symm ▸ z_7
  have A_13 : Av Z h_9 a_2 .byte [.int x2.toInt8.toInt32, .int (0 : Int32), .int (0 : Int32), .int (0 : Int32), .int (0 : Int32), .int (0 : Int32), .int (0 : Int32), .int (0 : Int32), .int (0 : Int32), .int (0 : Int32), .int (0 : Int32), .int (0 : Int32), .int (0 : Int32), .int (0 : Int32)] := A_11
  refine go_aload C at_21 (pc' := 23) rfl rfl rfl ?_
  refine go_iconst C (1 : Int32) at_23 (pc' := 24) rfl (by decide) ?_
  refine go_iload C at_24 (pc' := 26) rfl rfl ?_
  refine go_bastore C A_13 1 (by decide) (show 1 < 14 from by decide) x2.toInt8.toInt32 (own_bb _) g_6 at_26 (pc' := 27) rfl ?_
  intro h_14 W_15 A_16
  have z_17 : Z.heap.size ≤ h_14.size := W_15.size.symm ▸ z_12
  have A_18 : Av Z h_14 a_2 .byte [.int x2.toInt8.toInt32, .int x2.toInt8.toInt32, .int (0 : Int32), .int (0 : Int32), .int (0 : Int32), .int (0 : Int32), .int (0 : Int32), .int (0 : Int32), .int (0 : Int32), .int (0 : Int32), .int (0 : Int32), .int (0 : Int32), .int (0 : Int32), .int (0 : Int32)] := A_16
  refine go_aload C at_27 (pc' := 29) rfl rfl rfl ?_
  refine go_iconst C (2 : Int32) at_29 (pc' := 30) rfl (by decide) ?_
  refine go_iload C at_30 (pc' := 32) rfl rfl ?_
  refine go_bastore C A_18 2 (by decide) (show 2 < 14 from by decide) x2.toInt8.toInt32 (own_bb _) g_6 at_32 (pc' := 33) rfl ?_
  intro h_19 W_20 A_21
  have z_22 : Z.heap.size ≤ h_19.size := W_20.size.symm ▸ z_17
  have A_23 : Av Z h_19 a_2 .byte [.int x2.toInt8.toInt32, .int x2.toInt8.toInt32, .int x2.toInt8.toInt32, .int (0 : Int32), .int (0 : Int32), .int (0 : Int32), .int (0 : Int32), .int (0 : Int32), .int (0 : Int32), .int (0 : Int32), .int (0 : Int32), .int (0 : Int32), .int (0 : Int32), .int (0 : Int32)] := A_21
  refine go_aload C at_33 (pc' := 35) rfl rfl rfl ?_
  refine go_iconst C (3 : Int32) at_35 (pc' := 36) rfl (by decide) ?_
  refine go_iload C at_36 (pc' := 38) rfl rfl ?_
  refine go_bastore C A_23 3 (by decide) (show 3 < 14 from by decide) x2.toInt8.toInt32 (own_bb _) g_6 at_38 (pc' := 39) rfl ?_
  intro h_24 W_25 A_26
  have z_27 : Z.heap.size ≤ h_24.size := W_25.size.symm ▸ z_22
  have A_28 : Av Z h_24 a_2 .byte [.int x2.toInt8.toInt32, .int x2.toInt8.toInt32, .int x2.toInt8.toInt32, .int x2.toInt8.toInt32, .int (0 : Int32), .int (0 : Int32), .int (0 : Int32), .int (0 : Int32), .int (0 : Int32), .int (0 : Int32), .int (0 : Int32), .int (0 : Int32), .int (0 : Int32), .int (0 : Int32)] := A_26
  refine go_aload C at_39 (pc' := 41) rfl rfl rfl ?_
  refine go_iconst C (4 : Int32) at_41 (pc' := 42) rfl (by decide) ?_
  refine go_iload C at_42 (pc' := 44) rfl rfl ?_
  refine go_bastore C A_28 4 (by decide) (show 4 < 14 from by decide) x2.toInt8.toInt32 (own_bb _) g_6 at_44 (pc' := 45) rfl ?_
  intro h_29 W_30 A_31
  have z_32 : Z.heap.size ≤ h_29.size := W_30.size.symm ▸ z_27
  have A_33 : Av Z h_29 a_2 .byte [.int x2.toInt8.toInt32, .int x2.toInt8.toInt32, .int x2.toInt8.toInt32, .int x2.toInt8.toInt32, .int x2.toInt8.toInt32, .int (0 : Int32), .int (0 : Int32), .int (0 : Int32), .int (0 : Int32), .int (0 : Int32), .int (0 : Int32), .int (0 : Int32), .int (0 : Int32), .int (0 : Int32)] := A_31
  refine go_aload C at_45 (pc' := 47) rfl rfl rfl ?_
  refine go_iconst C (5 : Int32) at_47 (pc' := 48) rfl (by decide) ?_
  refine go_iload C at_48 (pc' := 50) rfl rfl ?_
  refine go_bastore C A_33 5 (by decide) (show 5 < 14 from by decide) x2.toInt8.toInt32 (own_bb _) g_6 at_50 (pc' := 51) rfl ?_
  intro h_34 W_35 A_36
  have z_37 : Z.heap.size ≤ h_34.size := W_35.size.symm ▸ z_32
  have A_38 : Av Z h_34 a_2 .byte [.int x2.toInt8.toInt32, .int x2.toInt8.toInt32, .int x2.toInt8.toInt32, .int x2.toInt8.toInt32, .int x2.toInt8.toInt32, .int x2.toInt8.toInt32, .int (0 : Int32), .int (0 : Int32), .int (0 : Int32), .int (0 : Int32), .int (0 : Int32), .int (0 : Int32), .int (0 : Int32), .int (0 : Int32)] := A_36
  refine go_aload C at_51 (pc' := 53) rfl rfl rfl ?_
  refine go_bipush C (6 : Int32) at_53 (pc' := 55) rfl (by decide) ?_
  refine go_iload C at_55 (pc' := 57) rfl rfl ?_
  refine go_bastore C A_38 6 (by decide) (show 6 < 14 from by decide) x2.toInt8.toInt32 (own_bb _) g_6 at_57 (pc' := 58) rfl ?_
  intro h_39 W_40 A_41
  have z_42 : Z.heap.size ≤ h_39.size := W_40.size.symm ▸ z_37
  have A_43 : Av Z h_39 a_2 .byte [.int x2.toInt8.toInt32, .int x2.toInt8.toInt32, .int x2.toInt8.toInt32, .int x2.toInt8.toInt32, .int x2.toInt8.toInt32, .int x2.toInt8.toInt32, .int x2.toInt8.toInt32, .int (0 : Int32), .int (0 : Int32), .int (0 : Int32), .int (0 : Int32), .int (0 : Int32), .int (0 : Int32), .int (0 : Int32)] := A_41
  refine go_aload C at_58 (pc' := 60) rfl rfl rfl ?_
  refine go_bipush C (7 : Int32) at_60 (pc' := 62) rfl (by decide) ?_
  refine go_iload C at_62 (pc' := 64) rfl rfl ?_
  refine go_bastore C A_43 7 (by decide) (show 7 < 14 from by decide) x2.toInt8.toInt32 (own_bb _) g_6 at_64 (pc' := 65) rfl ?_
  intro h_44 W_45 A_46
  have z_47 : Z.heap.size ≤ h_44.size := W_45.size.symm ▸ z_42
  have A_48 : Av Z h_44 a_2 .byte [.int x2.toInt8.toInt32, .int x2.toInt8.toInt32, .int x2.toInt8.toInt32, .int x2.toInt8.toInt32, .int x2.toInt8.toInt32, .int x2.toInt8.toInt32, .int x2.toInt8.toInt32, .int x2.toInt8.toInt32, .int (0 : Int32), .int (0 : Int32), .int (0 : Int32), .int (0 : Int32), .int (0 : Int32), .int (0 : Int32)] := A_46
  refine go_aload C at_65 (pc' := 67) rfl rfl rfl ?_
  refine go_bipush C (8 : Int32) at_67 (pc' := 69) rfl (by decide) ?_
  refine go_iload C at_69 (pc' := 71) rfl rfl ?_
  refine go_bastore C A_48 8 (by decide) (show 8 < 14 from by decide) x2.toInt8.toInt32 (own_bb _) g_6 at_71 (pc' := 72) rfl ?_
  intro h_49 W_50 A_51
  have z_52 : Z.heap.size ≤ h_49.size := W_50.size.symm ▸ z_47
  have A_53 : Av Z h_49 a_2 .byte [.int x2.toInt8.toInt32, .int x2.toInt8.toInt32, .int x2.toInt8.toInt32, .int x2.toInt8.toInt32, .int x2.toInt8.toInt32, .int x2.toInt8.toInt32, .int x2.toInt8.toInt32, .int x2.toInt8.toInt32, .int x2.toInt8.toInt32, .int (0 : Int32), .int (0 : Int32), .int (0 : Int32), .int (0 : Int32), .int (0 : Int32)] := A_51
  refine go_aload C at_72 (pc' := 74) rfl rfl rfl ?_
  refine go_bipush C (9 : Int32) at_74 (pc' := 76) rfl (by decide) ?_
  refine go_iload C at_76 (pc' := 78) rfl rfl ?_
  refine go_bastore C A_53 9 (by decide) (show 9 < 14 from by decide) x2.toInt8.toInt32 (own_bb _) g_6 at_78 (pc' := 79) rfl ?_
  intro h_54 W_55 A_56
  have z_57 : Z.heap.size ≤ h_54.size := W_55.size.symm ▸ z_52
  have A_58 : Av Z h_54 a_2 .byte [.int x2.toInt8.toInt32, .int x2.toInt8.toInt32, .int x2.toInt8.toInt32, .int x2.toInt8.toInt32, .int x2.toInt8.toInt32, .int x2.toInt8.toInt32, .int x2.toInt8.toInt32, .int x2.toInt8.toInt32, .int x2.toInt8.toInt32, .int x2.toInt8.toInt32, .int (0 : Int32), .int (0 : Int32), .int (0 : Int32), .int (0 : Int32)] := A_56
  refine go_aload C at_79 (pc' := 81) rfl rfl rfl ?_
  refine go_bipush C (10 : Int32) at_81 (pc' := 83) rfl (by decide) ?_
  refine go_iload C at_83 (pc' := 85) rfl rfl ?_
  refine go_bastore C A_58 10 (by decide) (show 10 < 14 from by decide) x2.toInt8.toInt32 (own_bb _) g_6 at_85 (pc' := 86) rfl ?_
  intro h_59 W_60 A_61
  have z_62 : Z.heap.size ≤ h_59.size := W_60.size.symm ▸ z_57
  have A_63 : Av Z h_59 a_2 .byte [.int x2.toInt8.toInt32, .int x2.toInt8.toInt32, .int x2.toInt8.toInt32, .int x2.toInt8.toInt32, .int x2.toInt8.toInt32, .int x2.toInt8.toInt32, .int x2.toInt8.toInt32, .int x2.toInt8.toInt32, .int x2.toInt8.toInt32, .int x2.toInt8.toInt32, .int x2.toInt8.toInt32, .int (0 : Int32), .int (0 : Int32), .int (0 : Int32)] := A_61
  refine go_aload C at_86 (pc' := 88) rfl rfl rfl ?_
  refine go_bipush C (11 : Int32) at_88 (pc' := 90) rfl (by decide) ?_
  refine go_iload C at_90 (pc' := 92) rfl rfl ?_
  refine go_bastore C A_63 11 (by decide) (show 11 < 14 from by decide) x2.toInt8.toInt32 (own_bb _) g_6 at_92 (pc' := 93) rfl ?_
  intro h_64 W_65 A_66
  have z_67 : Z.heap.size ≤ h_64.size := W_65.size.symm ▸ z_62
  have A_68 : Av Z h_64 a_2 .byte [.int x2.toInt8.toInt32, .int x2.toInt8.toInt32, .int x2.toInt8.toInt32, .int x2.toInt8.toInt32, .int x2.toInt8.toInt32, .int x2.toInt8.toInt32, .int x2.toInt8.toInt32, .int x2.toInt8.toInt32, .int x2.toInt8.toInt32, .int x2.toInt8.toInt32, .int x2.toInt8.toInt32, .int x2.toInt8.toInt32, .int (0 : Int32), .int (0 : Int32)] := A_66
  refine go_aload C at_93 (pc' := 95) rfl rfl rfl ?_
  refine go_bipush C (12 : Int32) at_95 (pc' := 97) rfl (by decide) ?_
  refine go_iload C at_97 (pc' := 99) rfl rfl ?_
  refine go_bastore C A_68 12 (by decide) (show 12 < 14 from by decide) x2.toInt8.toInt32 (own_bb _) g_6 at_99 (pc' := 100) rfl ?_
  intro h_69 W_70 A_71
  have z_72 : Z.heap.size ≤ h_69.size := W_70.size.symm ▸ z_67
  have A_73 : Av Z h_69 a_2 .byte [.int x2.toInt8.toInt32, .int x2.toInt8.toInt32, .int x2.toInt8.toInt32, .int x2.toInt8.toInt32, .int x2.toInt8.toInt32, .int x2.toInt8.toInt32, .int x2.toInt8.toInt32, .int x2.toInt8.toInt32, .int x2.toInt8.toInt32, .int x2.toInt8.toInt32, .int x2.toInt8.toInt32, .int x2.toInt8.toInt32, .int x2.toInt8.toInt32, .int (0 : Int32)] := A_71
  refine go_aload C at_100 (pc' := 102) rfl rfl rfl ?_
  refine go_bipush C (13 : Int32) at_102 (pc' := 104) rfl (by decide) ?_
  refine go_iload C at_104 (pc' := 106) rfl rfl ?_
  refine go_bastore C A_73 13 (by decide) (show 13 < 14 from by decide) x2.toInt8.toInt32 (own_bb _) g_6 at_106 (pc' := 107) rfl ?_
  intro h_74 W_75 A_76
  have z_77 : Z.heap.size ≤ h_74.size := W_75.size.symm ▸ z_72
  have A_78 : Av Z h_74 a_2 .byte [.int x2.toInt8.toInt32, .int x2.toInt8.toInt32, .int x2.toInt8.toInt32, .int x2.toInt8.toInt32, .int x2.toInt8.toInt32, .int x2.toInt8.toInt32, .int x2.toInt8.toInt32, .int x2.toInt8.toInt32, .int x2.toInt8.toInt32, .int x2.toInt8.toInt32, .int x2.toInt8.toInt32, .int x2.toInt8.toInt32, .int x2.toInt8.toInt32, .int x2.toInt8.toInt32] := A_76
  refine go_lloadN C at_107 (pc' := 108) rfl rfl ?_
  refine go_staticV C (as := [.long v]) (rest := []) (W := 0) (sat_len l Z a0 hw v _ _) (wd hw 1 rfl) (wd hw 2 rfl) (wd hw 3 rfl) (wd hw 4 rfl) (by decide) pd_1 rfl rfl rfl (by decide) (by decide) (ce' := 1) (sl' := 14) rfl rfl (by decide) (by decide) at_108 (pc' := 111) rfl rfl ?_
  intro r_79 h_80 q_81
  obtain ⟨⟨n, rfl, hN⟩, q_81⟩ := q_81
  rw [q_81]
  clear q_81
  have hn := isN_range hN
  have hnn : (Int32.ofNat n).toInt = (n : Int) := Int32.toInt_ofNat_of_lt (by omega)
  refine go_istore C (Ls' := #[.val (.long v), .second, .val (.int x1), .val (.int x2), .val (.int (x1 &&& (3 : Int32))), .val (.int x2.toInt8.toInt32), .val (.ref a_2), .val (.int (Int32.ofNat n)), .unset]) at_111 (pc' := 113) rfl rfl ?_
  refine go_lloadN C at_113 (pc' := 114) rfl rfl ?_
  refine go_aload C at_114 (pc' := 116) rfl rfl rfl ?_
  refine go_iload C at_116 (pc' := 118) rfl rfl ?_
  refine go_staticV C (as := [.long v, .ref a_2, .int (x1 &&& (3 : Int32))]) (rest := []) (W := 0) (sat_put l Z a0 hw v a_2 (x1 &&& (3 : Int32)) (x2.toInt8.toInt32) o n _ _ ho ho3 hN ((vf_congr (fun j _ => by unfold gi; by_cases q : j < o <;> simp [q]) : vf 14 (fun _ => Value.int (x2.toInt8.toInt32)) = vf 14 (fun j => .int (gi v (x2.toInt8.toInt32) o 0 j))) ▸ A_78) g_6) (wd hw 5 rfl) (wd hw 6 rfl) (wd hw 7 rfl) (wd hw 8 rfl) (by decide) pd_2 rfl rfl rfl (by decide) (by decide) (ce' := 1) (sl' := 14) rfl rfl (by decide) (by decide) at_118 (pc' := 121) rfl rfl ?_
  intro r_82 h_83 q_84
  obtain ⟨⟨rr, rfl, hr⟩, A_85⟩ := q_84
  have hs : ((x1 &&& (3 : Int32)) + Int32.ofNat n).toInt = ((o + n : Nat) : Int) := by rw [Jvm.Kit.i32_add (by omega) (by omega), ho, hnn]; omega
  refine go_istore C (Ls' := #[.val (.long v), .second, .val (.int x1), .val (.int x2), .val (.int (x1 &&& (3 : Int32))), .val (.int x2.toInt8.toInt32), .val (.ref a_2), .val (.int (Int32.ofNat n)), .val (.int rr)]) at_121 (pc' := 123) rfl rfl ?_
  refine go_iload C at_123 (pc' := 125) rfl rfl ?_
  refine go_iload C at_125 (pc' := 127) rfl rfl ?_
  refine go_iload C at_127 (pc' := 129) rfl rfl ?_
  refine go_iadd C at_129 (pc' := 130) rfl ?_
  refine go_icmp C rr.toInt (((x1 &&& (3 : Int32)) + (Int32.ofNat n)).toInt) rfl rfl at_130 (by decide) (pc' := 135) (by decide) (pcN := 133) rfl (fun (c_86 : rr.toInt = (((x1 &&& (3 : Int32)) + (Int32.ofNat n)).toInt)) => ?_) (fun (c_86 : ¬ rr.toInt = (((x1 &&& (3 : Int32)) + (Int32.ofNat n)).toInt)) => by omega)
  refine go_aload C at_135 (pc' := 137) rfl rfl rfl ?_
  refine go_iconst C (0 : Int32) at_137 (pc' := 138) rfl (by decide) ?_
  refine go_iload C at_138 (pc' := 140) rfl rfl ?_
  refine go_iload C at_140 (pc' := 142) rfl rfl ?_
  refine go_lloadN C at_142 (pc' := 143) rfl rfl ?_
  refine go_iload C at_143 (pc' := 145) rfl rfl ?_
  refine go_staticP C (as := [.ref a_2, .int (0 : Int32), .int (x1 &&& (3 : Int32)), .int (Int32.ofNat n), .long v, .int x2.toInt8.toInt32]) (rest := []) (W := 0) (.int (1 : Int32)) (sat_ok l Z a0 hw a_2 (0 : Int32) (x1 &&& (3 : Int32)) (Int32.ofNat n) (x2.toInt8.toInt32) _ v 0 o n _ _ _ A_85 (by decide) (by decide) ho ho3 hnn hn.1 hn.2 (vf_get _ (by decide)) (own_at v (x2.toInt8.toInt32) (x1 &&& (3 : Int32)) (0 : Int32) o n 0 ho ho3 hN (by decide) (by decide)).1 (own_at v (x2.toInt8.toInt32) (x1 &&& (3 : Int32)) (0 : Int32) o n 0 ho ho3 hN (by decide) (by decide)).2.1 (own_at v (x2.toInt8.toInt32) (x1 &&& (3 : Int32)) (0 : Int32) o n 0 ho ho3 hN (by decide) (by decide)).2.2) (wd hw 10 rfl) (wd hw 11 rfl) (wd hw 3 rfl) (wd hw 12 rfl) (by decide) pd_3 rfl rfl rfl (by decide) (by decide) rfl rfl (by decide) (by decide) at_145 (pc' := 148) rfl rfl ?_
  refine go_if0 C (1 : Int) (by decide) at_148 (by decide) (pc' := 371) (by decide) (pcN := 151) rfl (fun (c_87 : (1 : Int) = 0) => by omega) (fun (c_87 : ¬ (1 : Int) = 0) => ?_)
  refine go_aload C at_151 (pc' := 153) rfl rfl rfl ?_
  refine go_iconst C (1 : Int32) at_153 (pc' := 154) rfl (by decide) ?_
  refine go_iload C at_154 (pc' := 156) rfl rfl ?_
  refine go_iload C at_156 (pc' := 158) rfl rfl ?_
  refine go_lloadN C at_158 (pc' := 159) rfl rfl ?_
  refine go_iload C at_159 (pc' := 161) rfl rfl ?_
  refine go_staticP C (as := [.ref a_2, .int (1 : Int32), .int (x1 &&& (3 : Int32)), .int (Int32.ofNat n), .long v, .int x2.toInt8.toInt32]) (rest := []) (W := 0) (.int (1 : Int32)) (sat_ok l Z a0 hw a_2 (1 : Int32) (x1 &&& (3 : Int32)) (Int32.ofNat n) (x2.toInt8.toInt32) _ v 1 o n _ _ _ A_85 (by decide) (by decide) ho ho3 hnn hn.1 hn.2 (vf_get _ (by decide)) (own_at v (x2.toInt8.toInt32) (x1 &&& (3 : Int32)) (1 : Int32) o n 1 ho ho3 hN (by decide) (by decide)).1 (own_at v (x2.toInt8.toInt32) (x1 &&& (3 : Int32)) (1 : Int32) o n 1 ho ho3 hN (by decide) (by decide)).2.1 (own_at v (x2.toInt8.toInt32) (x1 &&& (3 : Int32)) (1 : Int32) o n 1 ho ho3 hN (by decide) (by decide)).2.2) (wd hw 10 rfl) (wd hw 11 rfl) (wd hw 3 rfl) (wd hw 12 rfl) (by decide) pd_3 rfl rfl rfl (by decide) (by decide) rfl rfl (by decide) (by decide) at_161 (pc' := 164) rfl rfl ?_
  refine go_if0 C (1 : Int) (by decide) at_164 (by decide) (pc' := 371) (by decide) (pcN := 167) rfl (fun (c_88 : (1 : Int) = 0) => by omega) (fun (c_88 : ¬ (1 : Int) = 0) => ?_)
  refine go_aload C at_167 (pc' := 169) rfl rfl rfl ?_
  refine go_iconst C (2 : Int32) at_169 (pc' := 170) rfl (by decide) ?_
  refine go_iload C at_170 (pc' := 172) rfl rfl ?_
  refine go_iload C at_172 (pc' := 174) rfl rfl ?_
  refine go_lloadN C at_174 (pc' := 175) rfl rfl ?_
  refine go_iload C at_175 (pc' := 177) rfl rfl ?_
  refine go_staticP C (as := [.ref a_2, .int (2 : Int32), .int (x1 &&& (3 : Int32)), .int (Int32.ofNat n), .long v, .int x2.toInt8.toInt32]) (rest := []) (W := 0) (.int (1 : Int32)) (sat_ok l Z a0 hw a_2 (2 : Int32) (x1 &&& (3 : Int32)) (Int32.ofNat n) (x2.toInt8.toInt32) _ v 2 o n _ _ _ A_85 (by decide) (by decide) ho ho3 hnn hn.1 hn.2 (vf_get _ (by decide)) (own_at v (x2.toInt8.toInt32) (x1 &&& (3 : Int32)) (2 : Int32) o n 2 ho ho3 hN (by decide) (by decide)).1 (own_at v (x2.toInt8.toInt32) (x1 &&& (3 : Int32)) (2 : Int32) o n 2 ho ho3 hN (by decide) (by decide)).2.1 (own_at v (x2.toInt8.toInt32) (x1 &&& (3 : Int32)) (2 : Int32) o n 2 ho ho3 hN (by decide) (by decide)).2.2) (wd hw 10 rfl) (wd hw 11 rfl) (wd hw 3 rfl) (wd hw 12 rfl) (by decide) pd_3 rfl rfl rfl (by decide) (by decide) rfl rfl (by decide) (by decide) at_177 (pc' := 180) rfl rfl ?_
  refine go_if0 C (1 : Int) (by decide) at_180 (by decide) (pc' := 371) (by decide) (pcN := 183) rfl (fun (c_89 : (1 : Int) = 0) => by omega) (fun (c_89 : ¬ (1 : Int) = 0) => ?_)
  refine go_aload C at_183 (pc' := 185) rfl rfl rfl ?_
  refine go_iconst C (3 : Int32) at_185 (pc' := 186) rfl (by decide) ?_
  refine go_iload C at_186 (pc' := 188) rfl rfl ?_
  refine go_iload C at_188 (pc' := 190) rfl rfl ?_
  refine go_lloadN C at_190 (pc' := 191) rfl rfl ?_
  refine go_iload C at_191 (pc' := 193) rfl rfl ?_
  refine go_staticP C (as := [.ref a_2, .int (3 : Int32), .int (x1 &&& (3 : Int32)), .int (Int32.ofNat n), .long v, .int x2.toInt8.toInt32]) (rest := []) (W := 0) (.int (1 : Int32)) (sat_ok l Z a0 hw a_2 (3 : Int32) (x1 &&& (3 : Int32)) (Int32.ofNat n) (x2.toInt8.toInt32) _ v 3 o n _ _ _ A_85 (by decide) (by decide) ho ho3 hnn hn.1 hn.2 (vf_get _ (by decide)) (own_at v (x2.toInt8.toInt32) (x1 &&& (3 : Int32)) (3 : Int32) o n 3 ho ho3 hN (by decide) (by decide)).1 (own_at v (x2.toInt8.toInt32) (x1 &&& (3 : Int32)) (3 : Int32) o n 3 ho ho3 hN (by decide) (by decide)).2.1 (own_at v (x2.toInt8.toInt32) (x1 &&& (3 : Int32)) (3 : Int32) o n 3 ho ho3 hN (by decide) (by decide)).2.2) (wd hw 10 rfl) (wd hw 11 rfl) (wd hw 3 rfl) (wd hw 12 rfl) (by decide) pd_3 rfl rfl rfl (by decide) (by decide) rfl rfl (by decide) (by decide) at_193 (pc' := 196) rfl rfl ?_
  refine go_if0 C (1 : Int) (by decide) at_196 (by decide) (pc' := 371) (by decide) (pcN := 199) rfl (fun (c_90 : (1 : Int) = 0) => by omega) (fun (c_90 : ¬ (1 : Int) = 0) => ?_)
  refine go_aload C at_199 (pc' := 201) rfl rfl rfl ?_
  refine go_iconst C (4 : Int32) at_201 (pc' := 202) rfl (by decide) ?_
  refine go_iload C at_202 (pc' := 204) rfl rfl ?_
  refine go_iload C at_204 (pc' := 206) rfl rfl ?_
  refine go_lloadN C at_206 (pc' := 207) rfl rfl ?_
  refine go_iload C at_207 (pc' := 209) rfl rfl ?_
  refine go_staticP C (as := [.ref a_2, .int (4 : Int32), .int (x1 &&& (3 : Int32)), .int (Int32.ofNat n), .long v, .int x2.toInt8.toInt32]) (rest := []) (W := 0) (.int (1 : Int32)) (sat_ok l Z a0 hw a_2 (4 : Int32) (x1 &&& (3 : Int32)) (Int32.ofNat n) (x2.toInt8.toInt32) _ v 4 o n _ _ _ A_85 (by decide) (by decide) ho ho3 hnn hn.1 hn.2 (vf_get _ (by decide)) (own_at v (x2.toInt8.toInt32) (x1 &&& (3 : Int32)) (4 : Int32) o n 4 ho ho3 hN (by decide) (by decide)).1 (own_at v (x2.toInt8.toInt32) (x1 &&& (3 : Int32)) (4 : Int32) o n 4 ho ho3 hN (by decide) (by decide)).2.1 (own_at v (x2.toInt8.toInt32) (x1 &&& (3 : Int32)) (4 : Int32) o n 4 ho ho3 hN (by decide) (by decide)).2.2) (wd hw 10 rfl) (wd hw 11 rfl) (wd hw 3 rfl) (wd hw 12 rfl) (by decide) pd_3 rfl rfl rfl (by decide) (by decide) rfl rfl (by decide) (by decide) at_209 (pc' := 212) rfl rfl ?_
  refine go_if0 C (1 : Int) (by decide) at_212 (by decide) (pc' := 371) (by decide) (pcN := 215) rfl (fun (c_91 : (1 : Int) = 0) => by omega) (fun (c_91 : ¬ (1 : Int) = 0) => ?_)
  refine go_aload C at_215 (pc' := 217) rfl rfl rfl ?_
  refine go_iconst C (5 : Int32) at_217 (pc' := 218) rfl (by decide) ?_
  refine go_iload C at_218 (pc' := 220) rfl rfl ?_
  refine go_iload C at_220 (pc' := 222) rfl rfl ?_
  refine go_lloadN C at_222 (pc' := 223) rfl rfl ?_
  refine go_iload C at_223 (pc' := 225) rfl rfl ?_
  refine go_staticP C (as := [.ref a_2, .int (5 : Int32), .int (x1 &&& (3 : Int32)), .int (Int32.ofNat n), .long v, .int x2.toInt8.toInt32]) (rest := []) (W := 0) (.int (1 : Int32)) (sat_ok l Z a0 hw a_2 (5 : Int32) (x1 &&& (3 : Int32)) (Int32.ofNat n) (x2.toInt8.toInt32) _ v 5 o n _ _ _ A_85 (by decide) (by decide) ho ho3 hnn hn.1 hn.2 (vf_get _ (by decide)) (own_at v (x2.toInt8.toInt32) (x1 &&& (3 : Int32)) (5 : Int32) o n 5 ho ho3 hN (by decide) (by decide)).1 (own_at v (x2.toInt8.toInt32) (x1 &&& (3 : Int32)) (5 : Int32) o n 5 ho ho3 hN (by decide) (by decide)).2.1 (own_at v (x2.toInt8.toInt32) (x1 &&& (3 : Int32)) (5 : Int32) o n 5 ho ho3 hN (by decide) (by decide)).2.2) (wd hw 10 rfl) (wd hw 11 rfl) (wd hw 3 rfl) (wd hw 12 rfl) (by decide) pd_3 rfl rfl rfl (by decide) (by decide) rfl rfl (by decide) (by decide) at_225 (pc' := 228) rfl rfl ?_
  refine go_if0 C (1 : Int) (by decide) at_228 (by decide) (pc' := 371) (by decide) (pcN := 231) rfl (fun (c_92 : (1 : Int) = 0) => by omega) (fun (c_92 : ¬ (1 : Int) = 0) => ?_)
  refine go_aload C at_231 (pc' := 233) rfl rfl rfl ?_
  refine go_bipush C (6 : Int32) at_233 (pc' := 235) rfl (by decide) ?_
  refine go_iload C at_235 (pc' := 237) rfl rfl ?_
  refine go_iload C at_237 (pc' := 239) rfl rfl ?_
  refine go_lloadN C at_239 (pc' := 240) rfl rfl ?_
  refine go_iload C at_240 (pc' := 242) rfl rfl ?_
  refine go_staticP C (as := [.ref a_2, .int (6 : Int32), .int (x1 &&& (3 : Int32)), .int (Int32.ofNat n), .long v, .int x2.toInt8.toInt32]) (rest := []) (W := 0) (.int (1 : Int32)) (sat_ok l Z a0 hw a_2 (6 : Int32) (x1 &&& (3 : Int32)) (Int32.ofNat n) (x2.toInt8.toInt32) _ v 6 o n _ _ _ A_85 (by decide) (by decide) ho ho3 hnn hn.1 hn.2 (vf_get _ (by decide)) (own_at v (x2.toInt8.toInt32) (x1 &&& (3 : Int32)) (6 : Int32) o n 6 ho ho3 hN (by decide) (by decide)).1 (own_at v (x2.toInt8.toInt32) (x1 &&& (3 : Int32)) (6 : Int32) o n 6 ho ho3 hN (by decide) (by decide)).2.1 (own_at v (x2.toInt8.toInt32) (x1 &&& (3 : Int32)) (6 : Int32) o n 6 ho ho3 hN (by decide) (by decide)).2.2) (wd hw 10 rfl) (wd hw 11 rfl) (wd hw 3 rfl) (wd hw 12 rfl) (by decide) pd_3 rfl rfl rfl (by decide) (by decide) rfl rfl (by decide) (by decide) at_242 (pc' := 245) rfl rfl ?_
  refine go_if0 C (1 : Int) (by decide) at_245 (by decide) (pc' := 371) (by decide) (pcN := 248) rfl (fun (c_93 : (1 : Int) = 0) => by omega) (fun (c_93 : ¬ (1 : Int) = 0) => ?_)
  refine go_aload C at_248 (pc' := 250) rfl rfl rfl ?_
  refine go_bipush C (7 : Int32) at_250 (pc' := 252) rfl (by decide) ?_
  refine go_iload C at_252 (pc' := 254) rfl rfl ?_
  refine go_iload C at_254 (pc' := 256) rfl rfl ?_
  refine go_lloadN C at_256 (pc' := 257) rfl rfl ?_
  refine go_iload C at_257 (pc' := 259) rfl rfl ?_
  refine go_staticP C (as := [.ref a_2, .int (7 : Int32), .int (x1 &&& (3 : Int32)), .int (Int32.ofNat n), .long v, .int x2.toInt8.toInt32]) (rest := []) (W := 0) (.int (1 : Int32)) (sat_ok l Z a0 hw a_2 (7 : Int32) (x1 &&& (3 : Int32)) (Int32.ofNat n) (x2.toInt8.toInt32) _ v 7 o n _ _ _ A_85 (by decide) (by decide) ho ho3 hnn hn.1 hn.2 (vf_get _ (by decide)) (own_at v (x2.toInt8.toInt32) (x1 &&& (3 : Int32)) (7 : Int32) o n 7 ho ho3 hN (by decide) (by decide)).1 (own_at v (x2.toInt8.toInt32) (x1 &&& (3 : Int32)) (7 : Int32) o n 7 ho ho3 hN (by decide) (by decide)).2.1 (own_at v (x2.toInt8.toInt32) (x1 &&& (3 : Int32)) (7 : Int32) o n 7 ho ho3 hN (by decide) (by decide)).2.2) (wd hw 10 rfl) (wd hw 11 rfl) (wd hw 3 rfl) (wd hw 12 rfl) (by decide) pd_3 rfl rfl rfl (by decide) (by decide) rfl rfl (by decide) (by decide) at_259 (pc' := 262) rfl rfl ?_
  refine go_if0 C (1 : Int) (by decide) at_262 (by decide) (pc' := 371) (by decide) (pcN := 265) rfl (fun (c_94 : (1 : Int) = 0) => by omega) (fun (c_94 : ¬ (1 : Int) = 0) => ?_)
  refine go_aload C at_265 (pc' := 267) rfl rfl rfl ?_
  refine go_bipush C (8 : Int32) at_267 (pc' := 269) rfl (by decide) ?_
  refine go_iload C at_269 (pc' := 271) rfl rfl ?_
  refine go_iload C at_271 (pc' := 273) rfl rfl ?_
  refine go_lloadN C at_273 (pc' := 274) rfl rfl ?_
  refine go_iload C at_274 (pc' := 276) rfl rfl ?_
  refine go_staticP C (as := [.ref a_2, .int (8 : Int32), .int (x1 &&& (3 : Int32)), .int (Int32.ofNat n), .long v, .int x2.toInt8.toInt32]) (rest := []) (W := 0) (.int (1 : Int32)) (sat_ok l Z a0 hw a_2 (8 : Int32) (x1 &&& (3 : Int32)) (Int32.ofNat n) (x2.toInt8.toInt32) _ v 8 o n _ _ _ A_85 (by decide) (by decide) ho ho3 hnn hn.1 hn.2 (vf_get _ (by decide)) (own_at v (x2.toInt8.toInt32) (x1 &&& (3 : Int32)) (8 : Int32) o n 8 ho ho3 hN (by decide) (by decide)).1 (own_at v (x2.toInt8.toInt32) (x1 &&& (3 : Int32)) (8 : Int32) o n 8 ho ho3 hN (by decide) (by decide)).2.1 (own_at v (x2.toInt8.toInt32) (x1 &&& (3 : Int32)) (8 : Int32) o n 8 ho ho3 hN (by decide) (by decide)).2.2) (wd hw 10 rfl) (wd hw 11 rfl) (wd hw 3 rfl) (wd hw 12 rfl) (by decide) pd_3 rfl rfl rfl (by decide) (by decide) rfl rfl (by decide) (by decide) at_276 (pc' := 279) rfl rfl ?_
  refine go_if0 C (1 : Int) (by decide) at_279 (by decide) (pc' := 371) (by decide) (pcN := 282) rfl (fun (c_95 : (1 : Int) = 0) => by omega) (fun (c_95 : ¬ (1 : Int) = 0) => ?_)
  refine go_aload C at_282 (pc' := 284) rfl rfl rfl ?_
  refine go_bipush C (9 : Int32) at_284 (pc' := 286) rfl (by decide) ?_
  refine go_iload C at_286 (pc' := 288) rfl rfl ?_
  refine go_iload C at_288 (pc' := 290) rfl rfl ?_
  refine go_lloadN C at_290 (pc' := 291) rfl rfl ?_
  refine go_iload C at_291 (pc' := 293) rfl rfl ?_
  refine go_staticP C (as := [.ref a_2, .int (9 : Int32), .int (x1 &&& (3 : Int32)), .int (Int32.ofNat n), .long v, .int x2.toInt8.toInt32]) (rest := []) (W := 0) (.int (1 : Int32)) (sat_ok l Z a0 hw a_2 (9 : Int32) (x1 &&& (3 : Int32)) (Int32.ofNat n) (x2.toInt8.toInt32) _ v 9 o n _ _ _ A_85 (by decide) (by decide) ho ho3 hnn hn.1 hn.2 (vf_get _ (by decide)) (own_at v (x2.toInt8.toInt32) (x1 &&& (3 : Int32)) (9 : Int32) o n 9 ho ho3 hN (by decide) (by decide)).1 (own_at v (x2.toInt8.toInt32) (x1 &&& (3 : Int32)) (9 : Int32) o n 9 ho ho3 hN (by decide) (by decide)).2.1 (own_at v (x2.toInt8.toInt32) (x1 &&& (3 : Int32)) (9 : Int32) o n 9 ho ho3 hN (by decide) (by decide)).2.2) (wd hw 10 rfl) (wd hw 11 rfl) (wd hw 3 rfl) (wd hw 12 rfl) (by decide) pd_3 rfl rfl rfl (by decide) (by decide) rfl rfl (by decide) (by decide) at_293 (pc' := 296) rfl rfl ?_
  refine go_if0 C (1 : Int) (by decide) at_296 (by decide) (pc' := 371) (by decide) (pcN := 299) rfl (fun (c_96 : (1 : Int) = 0) => by omega) (fun (c_96 : ¬ (1 : Int) = 0) => ?_)
  refine go_aload C at_299 (pc' := 301) rfl rfl rfl ?_
  refine go_bipush C (10 : Int32) at_301 (pc' := 303) rfl (by decide) ?_
  refine go_iload C at_303 (pc' := 305) rfl rfl ?_
  refine go_iload C at_305 (pc' := 307) rfl rfl ?_
  refine go_lloadN C at_307 (pc' := 308) rfl rfl ?_
  refine go_iload C at_308 (pc' := 310) rfl rfl ?_
  refine go_staticP C (as := [.ref a_2, .int (10 : Int32), .int (x1 &&& (3 : Int32)), .int (Int32.ofNat n), .long v, .int x2.toInt8.toInt32]) (rest := []) (W := 0) (.int (1 : Int32)) (sat_ok l Z a0 hw a_2 (10 : Int32) (x1 &&& (3 : Int32)) (Int32.ofNat n) (x2.toInt8.toInt32) _ v 10 o n _ _ _ A_85 (by decide) (by decide) ho ho3 hnn hn.1 hn.2 (vf_get _ (by decide)) (own_at v (x2.toInt8.toInt32) (x1 &&& (3 : Int32)) (10 : Int32) o n 10 ho ho3 hN (by decide) (by decide)).1 (own_at v (x2.toInt8.toInt32) (x1 &&& (3 : Int32)) (10 : Int32) o n 10 ho ho3 hN (by decide) (by decide)).2.1 (own_at v (x2.toInt8.toInt32) (x1 &&& (3 : Int32)) (10 : Int32) o n 10 ho ho3 hN (by decide) (by decide)).2.2) (wd hw 10 rfl) (wd hw 11 rfl) (wd hw 3 rfl) (wd hw 12 rfl) (by decide) pd_3 rfl rfl rfl (by decide) (by decide) rfl rfl (by decide) (by decide) at_310 (pc' := 313) rfl rfl ?_
  refine go_if0 C (1 : Int) (by decide) at_313 (by decide) (pc' := 371) (by decide) (pcN := 316) rfl (fun (c_97 : (1 : Int) = 0) => by omega) (fun (c_97 : ¬ (1 : Int) = 0) => ?_)
  refine go_aload C at_316 (pc' := 318) rfl rfl rfl ?_
  refine go_bipush C (11 : Int32) at_318 (pc' := 320) rfl (by decide) ?_
  refine go_iload C at_320 (pc' := 322) rfl rfl ?_
  refine go_iload C at_322 (pc' := 324) rfl rfl ?_
  refine go_lloadN C at_324 (pc' := 325) rfl rfl ?_
  refine go_iload C at_325 (pc' := 327) rfl rfl ?_
  refine go_staticP C (as := [.ref a_2, .int (11 : Int32), .int (x1 &&& (3 : Int32)), .int (Int32.ofNat n), .long v, .int x2.toInt8.toInt32]) (rest := []) (W := 0) (.int (1 : Int32)) (sat_ok l Z a0 hw a_2 (11 : Int32) (x1 &&& (3 : Int32)) (Int32.ofNat n) (x2.toInt8.toInt32) _ v 11 o n _ _ _ A_85 (by decide) (by decide) ho ho3 hnn hn.1 hn.2 (vf_get _ (by decide)) (own_at v (x2.toInt8.toInt32) (x1 &&& (3 : Int32)) (11 : Int32) o n 11 ho ho3 hN (by decide) (by decide)).1 (own_at v (x2.toInt8.toInt32) (x1 &&& (3 : Int32)) (11 : Int32) o n 11 ho ho3 hN (by decide) (by decide)).2.1 (own_at v (x2.toInt8.toInt32) (x1 &&& (3 : Int32)) (11 : Int32) o n 11 ho ho3 hN (by decide) (by decide)).2.2) (wd hw 10 rfl) (wd hw 11 rfl) (wd hw 3 rfl) (wd hw 12 rfl) (by decide) pd_3 rfl rfl rfl (by decide) (by decide) rfl rfl (by decide) (by decide) at_327 (pc' := 330) rfl rfl ?_
  refine go_if0 C (1 : Int) (by decide) at_330 (by decide) (pc' := 371) (by decide) (pcN := 333) rfl (fun (c_98 : (1 : Int) = 0) => by omega) (fun (c_98 : ¬ (1 : Int) = 0) => ?_)
  refine go_aload C at_333 (pc' := 335) rfl rfl rfl ?_
  refine go_bipush C (12 : Int32) at_335 (pc' := 337) rfl (by decide) ?_
  refine go_iload C at_337 (pc' := 339) rfl rfl ?_
  refine go_iload C at_339 (pc' := 341) rfl rfl ?_
  refine go_lloadN C at_341 (pc' := 342) rfl rfl ?_
  refine go_iload C at_342 (pc' := 344) rfl rfl ?_
  refine go_staticP C (as := [.ref a_2, .int (12 : Int32), .int (x1 &&& (3 : Int32)), .int (Int32.ofNat n), .long v, .int x2.toInt8.toInt32]) (rest := []) (W := 0) (.int (1 : Int32)) (sat_ok l Z a0 hw a_2 (12 : Int32) (x1 &&& (3 : Int32)) (Int32.ofNat n) (x2.toInt8.toInt32) _ v 12 o n _ _ _ A_85 (by decide) (by decide) ho ho3 hnn hn.1 hn.2 (vf_get _ (by decide)) (own_at v (x2.toInt8.toInt32) (x1 &&& (3 : Int32)) (12 : Int32) o n 12 ho ho3 hN (by decide) (by decide)).1 (own_at v (x2.toInt8.toInt32) (x1 &&& (3 : Int32)) (12 : Int32) o n 12 ho ho3 hN (by decide) (by decide)).2.1 (own_at v (x2.toInt8.toInt32) (x1 &&& (3 : Int32)) (12 : Int32) o n 12 ho ho3 hN (by decide) (by decide)).2.2) (wd hw 10 rfl) (wd hw 11 rfl) (wd hw 3 rfl) (wd hw 12 rfl) (by decide) pd_3 rfl rfl rfl (by decide) (by decide) rfl rfl (by decide) (by decide) at_344 (pc' := 347) rfl rfl ?_
  refine go_if0 C (1 : Int) (by decide) at_347 (by decide) (pc' := 371) (by decide) (pcN := 350) rfl (fun (c_99 : (1 : Int) = 0) => by omega) (fun (c_99 : ¬ (1 : Int) = 0) => ?_)
  refine go_aload C at_350 (pc' := 352) rfl rfl rfl ?_
  refine go_bipush C (13 : Int32) at_352 (pc' := 354) rfl (by decide) ?_
  refine go_iload C at_354 (pc' := 356) rfl rfl ?_
  refine go_iload C at_356 (pc' := 358) rfl rfl ?_
  refine go_lloadN C at_358 (pc' := 359) rfl rfl ?_
  refine go_iload C at_359 (pc' := 361) rfl rfl ?_
  refine go_staticP C (as := [.ref a_2, .int (13 : Int32), .int (x1 &&& (3 : Int32)), .int (Int32.ofNat n), .long v, .int x2.toInt8.toInt32]) (rest := []) (W := 0) (.int (1 : Int32)) (sat_ok l Z a0 hw a_2 (13 : Int32) (x1 &&& (3 : Int32)) (Int32.ofNat n) (x2.toInt8.toInt32) _ v 13 o n _ _ _ A_85 (by decide) (by decide) ho ho3 hnn hn.1 hn.2 (vf_get _ (by decide)) (own_at v (x2.toInt8.toInt32) (x1 &&& (3 : Int32)) (13 : Int32) o n 13 ho ho3 hN (by decide) (by decide)).1 (own_at v (x2.toInt8.toInt32) (x1 &&& (3 : Int32)) (13 : Int32) o n 13 ho ho3 hN (by decide) (by decide)).2.1 (own_at v (x2.toInt8.toInt32) (x1 &&& (3 : Int32)) (13 : Int32) o n 13 ho ho3 hN (by decide) (by decide)).2.2) (wd hw 10 rfl) (wd hw 11 rfl) (wd hw 3 rfl) (wd hw 12 rfl) (by decide) pd_3 rfl rfl rfl (by decide) (by decide) rfl rfl (by decide) (by decide) at_361 (pc' := 364) rfl rfl ?_
  refine go_if0 C (1 : Int) (by decide) at_364 (by decide) (pc' := 371) (by decide) (pcN := 367) rfl (fun (c_100 : (1 : Int) = 0) => by omega) (fun (c_100 : ¬ (1 : Int) = 0) => ?_)
  refine go_iconst C (1 : Int32) at_367 (pc' := 368) rfl (by decide) ?_
  refine go_goto C at_368 (by decide) (pc' := 372) (by decide) ?_
  refine go_ireturnN C (z' := (1 : Int32)) rfl (by simp) rfl at_372 (by decide) (by decide) ?_
  exact ⟨_, rfl, rfl⟩
set_option maxRecDepth 65536 in
set_option maxHeartbeats 40000000 in
theorem comes_1 {Post : Tables → Env → Array Value → State → Outcome → State → Prop} (hpost : ∀ tb e args s v u, (limb_1_1.after args s (.returned v) u = true ∧ limb_1_2.after args s (.returned v) u = true ∧ True) → FrameEnd s (.returned v) u (Jvm.fieldLocs frame_1_writes args s ++ Jvm.arrayLocs frame_1_arrays args s ++ Jvm.staticLocs frame_1_statics s) 16 128 → Post tb e args s (.returned v) u) :
    ArmFor flags0 classFile x code maxLocals ret World_1 tables_1 room_1 Calls_1 rest_1 Pre_1 Post := by
  intro l hfl _ _ p e ha hc hk s m args below hf hA hF happ hP
  obtain ⟨hcalls, hrest, hpre⟩ := hP
  obtain ⟨-, -, -, hnamed, -, -, -, hat⟩ := (Spec.applies_iff hf).mp happ
  obtain ⟨hg, hn⟩ := and_e (Cond.before_iff.mp (show (Jvm.Cond.and given_1 narrow_1).before args s = true from hpre))
  obtain ⟨k0, g0⟩ := and_e hg
  obtain ⟨k1, g1⟩ := and_e g0
  obtain ⟨k2, g2⟩ := and_e g1
  obtain ⟨w0, w1, w2, rfl⟩ : ∃ w0 w1 w2 : Value, args = #[w0, w1, w2] := by
    have hs : args.size = 3 := by simpa [Cond.value, given_1] using k0
    obtain ⟨L⟩ := args
    match L, hs with
    | [w0, w1, w2], _ => exact ⟨w0, w1, w2, rfl⟩
  have hw := fun d (hd : d ∈ tables_1) => atoms_spec (ws := Jvm.Cond.code x code maxLocals ret :: tables_1) hat d (List.mem_cons_of_mem _ hd)
  obtain ⟨i0, e0⟩ := isL_v k1
  obtain ⟨i1, e1⟩ := is_v k2
  obtain ⟨i2, e2⟩ := is_v g2
  obtain rfl : w0 = (.long i0) := Option.some.inj e0
  obtain rfl : w1 = (.int i1) := Option.some.inj e1
  obtain rfl : w2 = (.int i2) := Option.some.inj e2
  obtain ⟨n, o, h1, h2, h3, _, L, rfl, ⟨⟨_, rfl, rfl⟩, N⟩, hq⟩ := law_sat l s _ hw i0 i1 i2 tables_1 p e ha hc hk s m _ below hf ((Spec.applies_iff_loose hf).mp happ).1 ⟨rfl, State.Warmed39.refl s, rfl⟩ trivial
  refine ⟨n, _, h1, h2, h3, hpost _ _ _ _ _ _ ⟨Cond.after_iff.mpr rfl, Cond.after_iff.mpr (eq_i res_at (Term.int_eval (1)) rfl), trivial⟩ ⟨hq.1, hq.2.1, (hq.2.2.sift fun y hy => Or.inr (N y hy)).mono (by decide) (by decide)⟩⟩
theorem main_1_1 : Claimed_1_1 := comes_1 fun _ _ _ _ _ _ h hF => ⟨h.1, hF⟩
theorem main_1_2 : Claimed_1_2 := comes_1 fun _ _ _ _ _ _ h hF => ⟨h.2.1, hF⟩
end Jvm.Pilot.@@N@@
namespace Jvm.Pilot.@@N@@
open Jvm Jvm.ClassFile Sem Op Lib Jvm.Free Jvm.Stand Jvm.Pilot.@@N@@.Jvm.D
/-! MADE BY PROGRAM (witnessworld.py) out of the Statement's table words and the real class files: 9 classes; the members and pool entries that the words name. The judged class is class 1, her method 3. -/
namespace start1
open Jvm.ClassFile
def u (s : String) : CpInfo := .utf8 (stringToUtf16 s)
/-- a pool by its gaps: so many unusable entries, then the entry; so many at the end -/
def gap : Nat → List CpInfo → List CpInfo
  | 0, r => r
  | n + 1, r => .unusable :: gap n r
def poolList (es : List (Nat × CpInfo)) (last : Nat) : List CpInfo := es.foldr (fun e r => gap e.1 (e.2 :: r)) (gap last [])
def pool (es : List (Nat × CpInfo)) (last : Nat) : Array CpInfo := ⟨poolList es last⟩
def fileOf (pool : Array CpInfo) (this : Nat) (attrs : Array Attribute := #[]) (ms : Array MethodInfo := #[]) (fl : Nat := 33) (sup : Nat := 0) (ifs : Array Nat := #[]) (fds : Array FieldInfo := #[]) : ClassFile where
  minorVersion := 0
  majorVersion := 65
  constantPool := pool
  accessFlags := fl
  thisClass := this
  superClass := sup
  interfaces := ifs
  fields := fds
  methods := ms
  attributes := attrs
def plain (name : String) (sup : Option ClassId) : Class where
  name := name
  kind := .ordinary
  loader := none
  accessFlags := 33
  super := sup
  interfaces := #[]
  cf := none
  fields := #[]
  methods := #[]
  instanceTypes := #[]
  staticTypes := #[]
  resolved := #[]
  callSites := []
  init := .initialized
  statics := none
  mirror := none

def pool0 : Array CpInfo := pool [(5, u "<init>"), (0, u "()V"), (1, .class_ 10), (1, u "java/lang/Object")] 113

def k0m0 : Method := { name := "<init>", desc := "()V", sig := { parameters := [], returnType := none }, accessFlags := 1, code := none }
/-- java/lang/Object -/
def k0 : Class := { plain "java/lang/Object" none with
  accessFlags := 33
  interfaces := #[]
  cf := some (fileOf pool0 8 #[] #[{ accessFlags := 1, nameIndex := 5, descriptorIndex := 6, attributes := #[] }] 33 0 #[] #[])
  fields := #[]
  methods := #[k0m0]
  instanceTypes := #[]
  staticTypes := #[]
  resolved := Array.replicate 124 none
  statics := none }

def pool1 : Array CpInfo := pool [(2, .class_ 4), (1, u "java/lang/Object"), (0, u "<init>"), (0, u "()V"), (0, .long 127), (1, .methodref 10 11), (0, .class_ 12), (0, .nameAndType 13 14), (0, u "com/example/chunkwright/chunkwright/encoding/VarIntsPutPinLaw"), (0, u "len"), (0, u "(J)I"), (0, .methodref 16 17), (0, .class_ 18), (0, .nameAndType 19 20), (0, u "com/example/chunkwright/chunkwright/encoding/VarInts"), (0, u "put"), (0, u "(J[BI)I"), (0, .methodref 10 22), (0, .nameAndType 23 24), (0, u "ok"), (0, u "([BIIIJB)Z"), (3, u "law"), (0, u "(JII)Z")] 4

def k1m0 : Method := { name := "<init>", desc := "()V", sig := { parameters := [], returnType := none }, accessFlags := 2, code := none }
def k1c1 : Code := { maxStack := 4, maxLocals := 3, code := method_2_code, exceptionTable := #[], attributes := #[] }
def k1m1 : Method := { name := "len", desc := "(J)I", sig := { parameters := [.long], returnType := some .int }, accessFlags := 10, code := some k1c1 }
def k1c2 : Code := { maxStack := 4, maxLocals := 10, code := method_3_code, exceptionTable := #[], attributes := #[] }
def k1m2 : Method := { name := "ok", desc := "([BIIIJB)Z", sig := { parameters := [(.array .byte), .int, .int, .int, .long, .byte], returnType := some .boolean }, accessFlags := 10, code := some k1c2 }
def k1c3 : Code := { maxStack := 7, maxLocals := 9, code := code, exceptionTable := #[], attributes := #[] }
def k1m3 : Method := { name := "law", desc := "(JII)Z", sig := { parameters := [.long, .int, .int], returnType := some .boolean }, accessFlags := 9, code := some k1c3 }
/-- com/example/chunkwright/chunkwright/encoding/VarIntsPutPinLaw -/
def k1 : Class := { plain "com/example/chunkwright/chunkwright/encoding/VarIntsPutPinLaw" (some 0) with
  accessFlags := 49
  interfaces := #[]
  cf := some (fileOf pool1 10 #[] #[{ accessFlags := 2, nameIndex := 5, descriptorIndex := 6, attributes := #[] }, { accessFlags := 10, nameIndex := 13, descriptorIndex := 14, attributes := #[] }, { accessFlags := 10, nameIndex := 23, descriptorIndex := 24, attributes := #[] }, { accessFlags := 9, nameIndex := 28, descriptorIndex := 29, attributes := #[] }] 49 2 #[] #[])
  fields := #[]
  methods := #[k1m0, k1m1, k1m2, k1m3]
  instanceTypes := #[]
  staticTypes := #[]
  resolved := Array.replicate 34 none
  statics := none }

def pool2 : Array CpInfo := pool [(2, .class_ 4), (1, u "java/lang/Object"), (0, u "<init>"), (0, u "()V"), (6, .class_ 14), (0, u "com/example/chunkwright/chunkwright/encoding/VarInts"), (0, .long 18446744073709551488), (1, .long 128), (26, u "MAX_LENGTH"), (0, u "I"), (2, u "GROUP_BITS"), (1, u "MORE"), (4, u "put"), (0, u "(J[BI)I")] 4

def k2m0 : Method := { name := "<init>", desc := "()V", sig := { parameters := [], returnType := none }, accessFlags := 2, code := none }
def k2c1 : Code := { maxStack := 6, maxLocals := 7, code := prog_25_method_3_code, exceptionTable := #[], attributes := #[] }
def k2m1 : Method := { name := "put", desc := "(J[BI)I", sig := { parameters := [.long, (.array .byte), .int], returnType := some .int }, accessFlags := 9, code := some k2c1 }
/-- com/example/chunkwright/chunkwright/encoding/VarInts -/
def k2 : Class := { plain "com/example/chunkwright/chunkwright/encoding/VarInts" (some 0) with
  accessFlags := 49
  interfaces := #[]
  cf := some (fileOf pool2 13 #[] #[{ accessFlags := 2, nameIndex := 5, descriptorIndex := 6, attributes := #[] }, { accessFlags := 9, nameIndex := 55, descriptorIndex := 56, attributes := #[] }] 49 2 #[] #[{ accessFlags := 25, nameIndex := 44, descriptorIndex := 45, attributes := #[] }, { accessFlags := 26, nameIndex := 48, descriptorIndex := 45, attributes := #[] }, { accessFlags := 26, nameIndex := 50, descriptorIndex := 45, attributes := #[] }])
  fields := #[{ name := "MAX_LENGTH", type := .int, accessFlags := 25, slot := 0, constantValue := 0 }, { name := "GROUP_BITS", type := .int, accessFlags := 26, slot := 1, constantValue := 0 }, { name := "MORE", type := .int, accessFlags := 26, slot := 2, constantValue := 0 }]
  methods := #[k2m0, k2m1]
  instanceTypes := #[]
  staticTypes := #[.int, .int, .int]
  resolved := Array.replicate 61 none
  statics := none }

def pool3 : Array CpInfo := pool [(1, u "java/lang/Cloneable"), (0, .class_ 1), (0, u "java/lang/Object"), (0, .class_ 3)] 3

/-- java/lang/Cloneable -/
def k3 : Class := { plain "java/lang/Cloneable" (some 0) with
  accessFlags := 1537
  interfaces := #[]
  cf := some (fileOf pool3 2 #[] #[] 1537 4 #[] #[])
  fields := #[]
  methods := #[]
  instanceTypes := #[]
  staticTypes := #[]
  resolved := Array.replicate 8 none
  statics := none }

def pool4 : Array CpInfo := pool [(1, u "java/io/Serializable"), (0, .class_ 1), (0, u "java/lang/Object"), (0, .class_ 3)] 3

/-- java/io/Serializable -/
def k4 : Class := { plain "java/io/Serializable" (some 0) with
  accessFlags := 1537
  interfaces := #[]
  cf := some (fileOf pool4 2 #[] #[] 1537 4 #[] #[])
  fields := #[]
  methods := #[]
  instanceTypes := #[]
  staticTypes := #[]
  resolved := Array.replicate 8 none
  statics := none }

/-- the primitive byte -/
def k5 : Class := { plain "byte" none with kind := .primitive 'B', accessFlags := 0x411 }
/-- [B -/
def k6 : Class := { plain "[B" (some 0) with kind := .array 5 .byte, interfaces := #[3, 4], accessFlags := 1041 }

/-- the primitive int -/
def k7 : Class := { plain "int" none with kind := .primitive 'I', accessFlags := 0x411 }
/-- [I -/
def k8 : Class := { plain "[I" (some 0) with kind := .array 7 .int, interfaces := #[3, 4], accessFlags := 1041 }

def heap : Heap := #[]
def classes : Array Class := #[k0, k1, k2, k3, k4, k5, k6, k7, k8]
def interned : List (Array UInt16 × Addr) := []
def slotsUsed : Nat := 0
def theMethod : MethodId := ⟨1, 3⟩
def args0 : Array Value := #[.long 5, .int 4, .int 5]
def aboutOver (below : List Frame) : State where
  vm := { classes := classes, interned := interned.toArray }
  heap := heap
  slotsUsed := slotsUsed
  threads := #[{ frames := .invoking theMethod args0 :: below }]
def below0 : List Frame := [.native { method := ⟨0, 0⟩, args := #[] }]
def about1 : State := aboutOver below0
def p0 : Program := .bare "" "" ""
def e0 : Env := launch0.env 0 0 0
theorem w_frames : about1.frames = Frame.invoking theMethod args0 :: below0 := rfl
set_option maxRecDepth 65536 in
theorem w_args : argsFit about1.vm theMethod args0 = true := by decide +kernel
set_option maxRecDepth 65536 in
theorem w_heap : heapFits about1 = true := by decide +kernel
set_option maxRecDepth 65536 in
theorem w_runnable : about1.curStatus? = some .runnable := by decide +kernel
set_option maxRecDepth 65536 in
theorem w_alone : about1.alone = true := by decide +kernel
set_option maxRecDepth 65536 in
theorem w_named : about1.methodNamed? x = some theMethod := by decide +kernel
set_option maxRecDepth 65536 in
theorem w_hears : about1.hears theMethod below0 = true := by decide +kernel
set_option maxRecDepth 65536 in
theorem w_ripe : about1.ripe theMethod args0 below0 = true := by decide +kernel
theorem w_running : about1.status = .running := rfl
set_option maxRecDepth 65536 in
theorem w_room : about1.hasRoom e0.platform room_1 = true :=
  launch0.hasRoom_least _ room_1 (by decide +kernel) (by decide +kernel) (by decide +kernel) (by decide +kernel) (by decide +kernel) (by decide +kernel)
theorem allAtoms_all (ts : List Jvm.Cond) (a : Array Jvm.Value) (st : Jvm.State) : (allAtoms ts).before a st = ts.all (fun c => c.before a st) := by
  induction ts with
  | nil => rfl
  | cons c t ih =>
    show (Jvm.Cond.and c (allAtoms t)).before a st = _
    rw [Jvm.Cond.before_and, ih, List.all_cons]
def words1 : List Jvm.Cond := Jvm.Cond.code x code maxLocals ret :: tables_1
/-- a 'code' word, met by the world's own term for the bytes: nothing is compared byte by byte -/
theorem code_word {y : MethodName} {bytes : ByteArray} {mx : Nat} {rt : Option FieldType} {a : Array Value} {s : State} {m : MethodId} {meth : Method} {c : Code} (h1 : s.methodNamed? y = some m) (h2 : s.vm.method? m = some meth) (h3 : meth.code = some c) (h4 : c.code = bytes)
    (h5 : (c.maxLocals == mx && c.exceptionTable.isEmpty && decide (c.maxStack ≤ mostOperands) && decide (meth.sig.returnType = rt) && !meth.locks && decide (parseMethodDescriptor y.desc = some meth.sig)) = true) : (Jvm.Cond.code y bytes mx rt).before a s = true := by
  simp only [Bool.and_eq_true, beq_iff_eq, Bool.not_eq_true', decide_eq_true_eq] at h5
  obtain ⟨⟨⟨⟨⟨g1, g2⟩, g3⟩, g4⟩, g5⟩, g6⟩ := h5
  simp [Cond.before, Cond.holds, Cond.value, h1, h2, h3, h4, g1, g2, g3, g4, g5, g6]
def isCode : Jvm.Cond → Bool
  | .code _ _ _ _ => true
  | _ => false
theorem all_split {L : List Jvm.Cond} {P : Jvm.Cond → Bool} (h1 : L.all (fun c => isCode c || P c) = true) (h2 : ∀ c ∈ L.filter isCode, P c = true) : L.all P = true := by
  refine List.all_eq_true.mpr fun c hc => ?_
  have h := List.all_eq_true.mp h1 c hc
  rcases Bool.eq_false_or_eq_true (isCode c) with hi | hi
  · exact h2 c (List.mem_filter.mpr ⟨hc, hi⟩)
  · simpa [hi] using h
set_option maxRecDepth 65536 in
theorem w_c0 : (Jvm.Cond.code x code maxLocals ret).before args0 about1 = true := code_word (m := ⟨1, 3⟩) (meth := k1m3) (c := k1c3) (by decide +kernel) rfl rfl rfl (by decide +kernel)
set_option maxRecDepth 65536 in
theorem w_c1 : (Jvm.Cond.code ({ cls := "com/example/chunkwright/chunkwright/encoding/VarIntsPutPinLaw", name := "len", desc := "(J)I" } : Jvm.MethodName) method_2_code (3 : Nat) (Option.some Jvm.ClassFile.FieldType.int)).before args0 about1 = true := code_word (m := ⟨1, 1⟩) (meth := k1m1) (c := k1c1) (by decide +kernel) rfl rfl rfl (by decide +kernel)
set_option maxRecDepth 65536 in
theorem w_c2 : (Jvm.Cond.code ({ cls := "com/example/chunkwright/chunkwright/encoding/VarInts", name := "put", desc := "(J[BI)I" } : Jvm.MethodName) prog_25_method_3_code (7 : Nat) (Option.some Jvm.ClassFile.FieldType.int)).before args0 about1 = true := code_word (m := ⟨2, 1⟩) (meth := k2m1) (c := k2c1) (by decide +kernel) rfl rfl rfl (by decide +kernel)
set_option maxRecDepth 65536 in
theorem w_c3 : (Jvm.Cond.code ({ cls := "com/example/chunkwright/chunkwright/encoding/VarIntsPutPinLaw", name := "ok", desc := "([BIIIJB)Z" } : Jvm.MethodName) method_3_code (10 : Nat) (Option.some Jvm.ClassFile.FieldType.boolean)).before args0 about1 = true := code_word (m := ⟨1, 2⟩) (meth := k1m2) (c := k1c2) (by decide +kernel) rfl rfl rfl (by decide +kernel)
def codes1 : List Jvm.Cond := [Jvm.Cond.code x code maxLocals ret, Jvm.Cond.code ({ cls := "com/example/chunkwright/chunkwright/encoding/VarIntsPutPinLaw", name := "len", desc := "(J)I" } : Jvm.MethodName) method_2_code (3 : Nat) (Option.some Jvm.ClassFile.FieldType.int), Jvm.Cond.code ({ cls := "com/example/chunkwright/chunkwright/encoding/VarInts", name := "put", desc := "(J[BI)I" } : Jvm.MethodName) prog_25_method_3_code (7 : Nat) (Option.some Jvm.ClassFile.FieldType.int), Jvm.Cond.code ({ cls := "com/example/chunkwright/chunkwright/encoding/VarIntsPutPinLaw", name := "ok", desc := "([BIIIJB)Z" } : Jvm.MethodName) method_3_code (10 : Nat) (Option.some Jvm.ClassFile.FieldType.boolean)]
set_option maxRecDepth 65536 in
theorem codes_eq : words1.filter isCode = codes1 := rfl
theorem w_codes : ∀ c ∈ words1.filter isCode, c.before args0 about1 = true := by
  rw [codes_eq]
  intro c hc
  simp only [codes1, List.mem_cons, List.not_mem_nil, or_false] at hc
  rcases hc with rfl | rfl | rfl | rfl
  · exact w_c0
  · exact w_c1
  · exact w_c2
  · exact w_c3
set_option maxRecDepth 65536 in
theorem w_t1 : words1.all (fun c => isCode c || c.before args0 about1) = true := by decide +kernel
theorem w_tables : (allAtoms (Jvm.Cond.code x code maxLocals ret :: tables_1)).before args0 about1 = true := by
  rw [allAtoms_all]
  show words1.all (fun c => c.before args0 about1) = true
  refine all_split ?_ w_codes
  rw [w_t1]
set_option maxRecDepth 65536 in
theorem w_case : (Jvm.Cond.and given_1 narrow_1).before args0 about1 = true := by decide +kernel
theorem w_applies : (headSpec (Jvm.Cond.code x code maxLocals ret :: tables_1) room_1).applies x e0.platform about1 = true :=
  (Spec.applies_iff w_frames).mpr ⟨w_running, w_runnable, w_alone, w_named, w_hears, w_ripe, w_room, w_tables⟩
theorem atStart : AtStart classFile x code maxLocals ret World_1 tables_1 room_1 Calls_1 rest_1 Pre_1 launch0 p0 e0 about1 theMethod args0 below0 :=
  ⟨lists_1, trivial, launch0.admits_env _ _ _, launch0.least_env, fairChoices_fair.cas, fairChoices_fair.clock, w_frames, w_args, w_heap, w_applies, trivial, trivial, w_case⟩
end start1
theorem witness_1 : WitnessClaimed_1 := ⟨start1.p0, start1.e0, start1.about1, start1.theMethod, start1.args0, start1.below0, start1.atStart⟩
end Jvm.Pilot.@@N@@
