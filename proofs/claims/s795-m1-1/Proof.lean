import JvmDerived
import JvmDerived.Pilot.@@N@@Statement
import JvmDerived.Pilot.@@N@@Code
set_option linter.unusedVariables false
set_option linter.unusedSimpArgs false
@@BLOCK:NumsL.lean.txt@@
namespace Jvm.Pilot.@@N@@
open Jvm Jvm.ClassFile Sem Op Lib Jvm.Free Jvm.Stand Jvm.LawKit Jvm.RoadKit Bundle Jvm.Pilot.@@N@@.Jvm.D
section OwnLayer
/-- the surroundings of a walk: what stays the same from step to step -/
def Cx (p : Program) (s : State) (m : MethodId) (meth : Method) (c : Code) (Z : State) (own : String) (bs : ByteArray) (mx : Nat) (rt : Option FieldType) (nm : String) : Prop :=
  p.tables.exec = Jvm.exec ∧ c.code = bs ∧ c.maxLocals = mx ∧ Z.Warmed39 s.vm ∧ s.vm.findClass own = some m.cls ∧ meth.sig.returnType = rt ∧ meth.locks = false ∧ meth.name = nm
/-- wherever the walk stands with heap h and top frame g, it comes to its end, and Q holds there -/
def Go (p : Program) (l : Launch) (e : Env) (R : Room) (s : State) (m : MethodId) (args : Array Value) (below : List Frame) (meth : Method) (c : Code) (n0 : Nat) (Q : Option Value → Heap → Prop) (K N : Nat) (h : Heap) (ce sl : Nat) (g : JFrame) : Prop :=
  ∀ (T : State) (locs : List Loc), Stand p l e R s m args below meth c T locs ce sl → T.heap = h → Fr n0 locs →
    ∃ s₂ o, Steps p.tables e below (T.setTop g) s₂ ∧ s₂.status = .running ∧ Ended s₂ below o ∧ ∃ v L, o = .returned v ∧ (Q v s₂.heap ∧ Fr n0 L) ∧ FrameEnd s o s₂ L K N
/-- a method's contract, for given arguments and a given heap -/
def Sat (l : Launch) (Z : State) (y : MethodName) (bs : ByteArray) (mx : Nat) (rt : Option FieldType) (rm : Room) (as : List Value) (h0 : Heap) (n0 : Nat) (Q : Option Value → Heap → Prop) : Prop :=
  ∀ ws : List Jvm.Cond, MetFree l y (head1 (Jvm.Cond.code y bs mx rt :: ws) rm) (fun a U => a = as.toArray ∧ Z.Warmed39 U.vm ∧ U.heap = h0) (fun _ _ _ _ _ => True) (fun _ U o U' => ∃ v L, o = .returned v ∧ (Q v U'.heap ∧ Fr n0 L) ∧ FrameEnd U o U' L rm.cells rm.slots)
def RV (P : Value → Heap → Prop) : Option Value → Heap → Prop := fun v h => ∃ r, v = some r ∧ P r h
def RN (P : Heap → Prop) : Option Value → Heap → Prop := fun v h => v = none ∧ P h
def wt (st : List Value) : Nat := (st.map fun v => v.category).sum
def bi (P : Prop) [Decidable P] : Int32 := if P then 1 else 0
theorem bi_t {P : Prop} [Decidable P] (h : P) : bi P = 1 := if_pos h
theorem bi_f {P : Prop} [Decidable P] (h : ¬ P) : bi P = 0 := if_neg h
theorem bi1 {P : Prop} [Decidable P] (h : P) : (1 : Int32) = bi P := (if_pos h).symm
theorem bi0 {P : Prop} [Decidable P] (h : ¬ P) : (0 : Int32) = bi P := (if_neg h).symm
theorem bi_congr {P P' : Prop} [Decidable P] [Decidable P'] (h : P ↔ P') : bi P = bi P' := by
  by_cases q : P
  · rw [bi_t q, bi_t (h.mp q)]
  · rw [bi_f q, bi_f fun z => q (h.mpr z)]
theorem bi_nar (P : Prop) [Decidable P] : nar .boolean (bi P) = bi P := by
  by_cases q : P
  · rw [bi_t q]; rfl
  · rw [bi_f q]; rfl
theorem bi_inj {P P' : Prop} [Decidable P] [Decidable P'] (h : bi P = bi P') : P ↔ P' := by
  by_cases q : P <;> by_cases q' : P' <;> simp_all [bi]
theorem bi_narrow (P : Prop) [Decidable P] : narrow .boolean (.int (bi P)) = .int (bi P) := by
  by_cases q : P
  · rw [bi_t q]; rfl
  · rw [bi_f q]; rfl
theorem bi_fits (P : Prop) [Decidable P] : fits .boolean (.int (bi P)) = true := by
  by_cases q : P
  · rw [bi_t q]; rfl
  · rw [bi_f q]; rfl
theorem bi_toInt (P : Prop) [Decidable P] : (bi P).toInt = if P then 1 else 0 := by
  by_cases q : P
  · rw [bi_t q, if_pos q]; rfl
  · rw [bi_f q, if_neg q]; rfl
theorem own_add_t {P : Prop} [Decidable P] (n : Int32) (h : P) : n + 1 = n + bi P := by rw [bi_t h]
theorem own_add_f {P : Prop} [Decidable P] (n : Int32) (h : ¬ P) : n = n + bi P := by rw [bi_f h, Int32.add_zero]
theorem own_narrow_arr {v : Value} {t : FieldType} (h : v.isRef = true) : narrow (.array t) v = v := by
  cases v <;> first | rfl | simp [Value.isRef] at h
theorem own_fits_arr {v : Value} {t : FieldType} (h : v.isRef = true) : fits (.array t) v = true := by
  cases v <;> first | rfl | simp [Value.isRef] at h
theorem own_bb (x : Int32) : x.toInt8.toInt32.toInt8.toInt32 = x.toInt8.toInt32 := by simp
theorem own_ne_new {h : Heap} {a b : Addr} (q : b < h.size) (g : h.size = a) : b ≠ a := Nat.ne_of_lt (g ▸ q)
theorem own_ge {h : Heap} {a : Addr} {n : Nat} (q : n ≤ h.size) (g : h.size = a) : n ≤ a := g ▸ q
theorem int_eq {x y : Int32} (h : x.toInt = y.toInt) : x = y := Int32.toInt_inj.mp h
theorem long_eq {x y : Int64} (h : x.toInt = y.toInt) : x = y := Int64.toInt_inj.mp h
section Walk
variable {p : Program} {l : Launch} {e : Env} {R : Room} {s : State} {m : MethodId} {args : Array Value} {below : List Frame} {meth : Method} {c : Code} {Z : State} {a0 : Array Value} {own : String} {bs : ByteArray} {mx : Nat} {rt : Option FieldType} {nm : String} {n0 : Nat} {Q : Option Value → Heap → Prop} {K N : Nat} {h : Heap} {ce sl : Nat} {pc pc' : Nat} {Ls Ls' : Array Slot} {st : List Value} {g g' : JFrame}
theorem Go.step (H : ∀ (T : State), At T m c below → ∀ target, Steps p.tables e below (T.setTop g') target → Steps p.tables e below (T.setTop g) target) (hr : Go p l e R s m args below meth c n0 Q K N h ce sl g') : Go p l e R s m args below meth c n0 Q K N h ce sl g := fun T locs X eT Nn => by
  obtain ⟨s₂, o, h1, r⟩ := hr T locs X eT Nn
  exact ⟨s₂, o, H T X.here _ h1, r⟩
theorem Go.stepX (H : ∀ (T : State) (locs : List Loc), Stand p l e R s m args below meth c T locs ce sl → T.heap = h → ∀ target, Steps p.tables e below (T.setTop g') target → Steps p.tables e below (T.setTop g) target) (hr : Go p l e R s m args below meth c n0 Q K N h ce sl g') : Go p l e R s m args below meth c n0 Q K N h ce sl g := fun T locs X eT Nn => by
  obtain ⟨s₂, o, h1, r⟩ := hr T locs X eT Nn
  exact ⟨s₂, o, H T locs X eT _ h1, r⟩
theorem Go.more {ce' sl' : Nat} (hc : ce ≤ ce') (hs : sl ≤ sl') (hr : Go p l e R s m args below meth c n0 Q K N h ce' sl' g) : Go p l e R s m args below meth c n0 Q K N h ce sl g := fun T locs X eT Nn => hr T locs (X.more hc hs) eT Nn
theorem go_iloadN (C : Cx p s m meth c Z own bs mx rt nm) {k : Fin 4} {v : Int32} (hd : decode bs pc = .ok (.iload_n k, 1)) (hp : pc + 1 = pc') (hl : Ls[k.val]? = some (.val (.int v))) (hr : Go p l e R s m args below meth c n0 Q K N h ce sl (mkF m pc' Ls (.int v :: st))) : Go p l e R s m args below meth c n0 Q K N h ce sl (mkF m pc Ls st) := by
  subst hp
  exact Go.step (fun T A _ q => XS.iloadN A C.1 rfl (hb C.2.1 hd) hl q) hr
theorem go_iload (C : Cx p s m meth c Z own bs mx rt nm) {k : Nat} {v : Int32} (hd : decode bs pc = .ok (.iload k, 2)) (hp : pc + 2 = pc') (hl : Ls[k]? = some (.val (.int v))) (hr : Go p l e R s m args below meth c n0 Q K N h ce sl (mkF m pc' Ls (.int v :: st))) : Go p l e R s m args below meth c n0 Q K N h ce sl (mkF m pc Ls st) := by
  subst hp
  exact Go.step (fun T A _ q => XS.iload A C.1 rfl (hb C.2.1 hd) hl q) hr
theorem go_lloadN (C : Cx p s m meth c Z own bs mx rt nm) {k : Fin 4} {v : Int64} (hd : decode bs pc = .ok (.lload_n k, 1)) (hp : pc + 1 = pc') (hl : Ls[k.val]? = some (.val (.long v))) (hr : Go p l e R s m args below meth c n0 Q K N h ce sl (mkF m pc' Ls (.long v :: st))) : Go p l e R s m args below meth c n0 Q K N h ce sl (mkF m pc Ls st) := by
  subst hp
  exact Go.step (fun T A _ q => XT.lloadN A C.1 rfl (hb C.2.1 hd) hl q) hr
theorem go_lload (C : Cx p s m meth c Z own bs mx rt nm) {k : Nat} {v : Int64} (hd : decode bs pc = .ok (.lload k, 2)) (hp : pc + 2 = pc') (hl : Ls[k]? = some (.val (.long v))) (hr : Go p l e R s m args below meth c n0 Q K N h ce sl (mkF m pc' Ls (.long v :: st))) : Go p l e R s m args below meth c n0 Q K N h ce sl (mkF m pc Ls st) := by
  subst hp
  exact Go.step (fun T A _ q => XT.lload A C.1 rfl (hb C.2.1 hd) hl q) hr
theorem go_aloadN (C : Cx p s m meth c Z own bs mx rt nm) {k : Fin 4} {v : Value} (hd : decode bs pc = .ok (.aload_n k, 1)) (hp : pc + 1 = pc') (hl : Ls[k.val]? = some (.val v)) (hv : v.isRef = true) (hr : Go p l e R s m args below meth c n0 Q K N h ce sl (mkF m pc' Ls (v :: st))) : Go p l e R s m args below meth c n0 Q K N h ce sl (mkF m pc Ls st) := by
  subst hp
  exact Go.step (fun T A _ q => XS.aloadN A C.1 rfl (hb C.2.1 hd) hl hv q) hr
theorem go_aload (C : Cx p s m meth c Z own bs mx rt nm) {k : Nat} {v : Value} (hd : decode bs pc = .ok (.aload k, 2)) (hp : pc + 2 = pc') (hl : Ls[k]? = some (.val v)) (hv : v.isRef = true) (hr : Go p l e R s m args below meth c n0 Q K N h ce sl (mkF m pc' Ls (v :: st))) : Go p l e R s m args below meth c n0 Q K N h ce sl (mkF m pc Ls st) := by
  subst hp
  exact Go.step (fun T A _ q => XS.aload A C.1 rfl (hb C.2.1 hd) hl hv q) hr
theorem go_istoreN (C : Cx p s m meth c Z own bs mx rt nm) {k : Fin 4} {v : Int32} (hd : decode bs pc = .ok (.istore_n k, 1)) (hp : pc + 1 = pc') (hl : storeLocals Ls k.val (.int v) = some Ls') (hr : Go p l e R s m args below meth c n0 Q K N h ce sl (mkF m pc' Ls' st)) : Go p l e R s m args below meth c n0 Q K N h ce sl (mkF m pc Ls (.int v :: st)) := by
  subst hp
  exact Go.step (fun T A _ q => XS.istoreN A C.1 rfl (hb C.2.1 hd) rfl hl q) hr
theorem go_istore (C : Cx p s m meth c Z own bs mx rt nm) {k : Nat} {v : Int32} (hd : decode bs pc = .ok (.istore k, 2)) (hp : pc + 2 = pc') (hl : storeLocals Ls k (.int v) = some Ls') (hr : Go p l e R s m args below meth c n0 Q K N h ce sl (mkF m pc' Ls' st)) : Go p l e R s m args below meth c n0 Q K N h ce sl (mkF m pc Ls (.int v :: st)) := by
  subst hp
  exact Go.step (fun T A _ q => XS.istore A C.1 rfl (hb C.2.1 hd) rfl hl q) hr
theorem go_lstoreN (C : Cx p s m meth c Z own bs mx rt nm) {k : Fin 4} {v : Int64} (hd : decode bs pc = .ok (.lstore_n k, 1)) (hp : pc + 1 = pc') (hl : storeLocals Ls k.val (.long v) = some Ls') (hr : Go p l e R s m args below meth c n0 Q K N h ce sl (mkF m pc' Ls' st)) : Go p l e R s m args below meth c n0 Q K N h ce sl (mkF m pc Ls (.long v :: st)) := by
  subst hp
  exact Go.step (fun T A _ q => XT.lstoreN A C.1 rfl (hb C.2.1 hd) rfl hl q) hr
theorem go_lstore (C : Cx p s m meth c Z own bs mx rt nm) {k : Nat} {v : Int64} (hd : decode bs pc = .ok (.lstore k, 2)) (hp : pc + 2 = pc') (hl : storeLocals Ls k (.long v) = some Ls') (hr : Go p l e R s m args below meth c n0 Q K N h ce sl (mkF m pc' Ls' st)) : Go p l e R s m args below meth c n0 Q K N h ce sl (mkF m pc Ls (.long v :: st)) := by
  subst hp
  exact Go.step (fun T A _ q => XT.lstore A C.1 rfl (hb C.2.1 hd) rfl hl q) hr
theorem go_astoreN (C : Cx p s m meth c Z own bs mx rt nm) {k : Fin 4} {v : Value} (hd : decode bs pc = .ok (.astore_n k, 1)) (hp : pc + 1 = pc') (hv : v.isRef = true) (hl : storeLocals Ls k.val v = some Ls') (hr : Go p l e R s m args below meth c n0 Q K N h ce sl (mkF m pc' Ls' st)) : Go p l e R s m args below meth c n0 Q K N h ce sl (mkF m pc Ls (v :: st)) := by
  subst hp
  exact Go.step (fun T A _ q => XS.astoreN A C.1 rfl (hb C.2.1 hd) rfl hv hl q) hr
theorem go_astore (C : Cx p s m meth c Z own bs mx rt nm) {k : Nat} {v : Value} (hd : decode bs pc = .ok (.astore k, 2)) (hp : pc + 2 = pc') (hv : v.isRef = true) (hl : storeLocals Ls k v = some Ls') (hr : Go p l e R s m args below meth c n0 Q K N h ce sl (mkF m pc' Ls' st)) : Go p l e R s m args below meth c n0 Q K N h ce sl (mkF m pc Ls (v :: st)) := by
  subst hp
  exact Go.step (fun T A _ q => XS.astore A C.1 rfl (hb C.2.1 hd) rfl hv hl q) hr
theorem go_istoreS (C : Cx p s m meth c Z own bs mx rt nm) {k : Nat} {v : Int32} {o : Slot} (hd : decode bs pc = .ok (.istore k, 2)) (hp : pc + 2 = pc') (hold : Ls[k]? = some o) (ho : One o) (hL : Ls.setIfInBounds k (.val (.int v)) = Ls') (hr : Go p l e R s m args below meth c n0 Q K N h ce sl (mkF m pc' Ls' st)) : Go p l e R s m args below meth c n0 Q K N h ce sl (mkF m pc Ls (.int v :: st)) := by
  subst hp hL
  exact Go.step (fun T A _ q => XS.istoreS A C.1 rfl (hb C.2.1 hd) rfl hold ho q) hr
theorem go_istoreNS (C : Cx p s m meth c Z own bs mx rt nm) {k : Fin 4} {v : Int32} {o : Slot} (hd : decode bs pc = .ok (.istore_n k, 1)) (hp : pc + 1 = pc') (hold : Ls[k.val]? = some o) (ho : One o) (hL : Ls.setIfInBounds k.val (.val (.int v)) = Ls') (hr : Go p l e R s m args below meth c n0 Q K N h ce sl (mkF m pc' Ls' st)) : Go p l e R s m args below meth c n0 Q K N h ce sl (mkF m pc Ls (.int v :: st)) := by
  subst hp hL
  exact Go.step (fun T A _ q => XS.istoreNS A C.1 rfl (hb C.2.1 hd) rfl hold ho q) hr
theorem go_iconst (C : Cx p s m meth c Z own bs mx rt nm) {i : Int} (v : Int32) (hd : decode bs pc = .ok (.iconst i, 1)) (hp : pc + 1 = pc') (hv : Int32.ofInt i = v) (hr : Go p l e R s m args below meth c n0 Q K N h ce sl (mkF m pc' Ls (.int v :: st))) : Go p l e R s m args below meth c n0 Q K N h ce sl (mkF m pc Ls st) := by
  subst hp
  exact Go.step (fun T A _ q => XT.iconstV A C.1 rfl v (hb C.2.1 hd) hv q) hr
theorem go_bipush (C : Cx p s m meth c Z own bs mx rt nm) {i : Int} (v : Int32) (hd : decode bs pc = .ok (.bipush i, 2)) (hp : pc + 2 = pc') (hv : (Int8.ofInt i).toInt32 = v) (hr : Go p l e R s m args below meth c n0 Q K N h ce sl (mkF m pc' Ls (.int v :: st))) : Go p l e R s m args below meth c n0 Q K N h ce sl (mkF m pc Ls st) := by
  subst hp
  exact Go.step (fun T A _ q => XT.bipushV A C.1 rfl v (hb C.2.1 hd) hv q) hr
theorem go_sipush (C : Cx p s m meth c Z own bs mx rt nm) {i : Int} (v : Int32) (hd : decode bs pc = .ok (.sipush i, 3)) (hp : pc + 3 = pc') (hv : (Int16.ofInt i).toInt32 = v) (hr : Go p l e R s m args below meth c n0 Q K N h ce sl (mkF m pc' Ls (.int v :: st))) : Go p l e R s m args below meth c n0 Q K N h ce sl (mkF m pc Ls st) := by
  subst hp
  exact Go.step (fun T A _ q => XT.sipushV A C.1 rfl v (hb C.2.1 hd) hv q) hr
theorem go_lconst (C : Cx p s m meth c Z own bs mx rt nm) {k : Fin 2} (v : Int64) (hd : decode bs pc = .ok (.lconst k, 1)) (hp : pc + 1 = pc') (hv : Int64.ofNat k = v) (hr : Go p l e R s m args below meth c n0 Q K N h ce sl (mkF m pc' Ls (.long v :: st))) : Go p l e R s m args below meth c n0 Q K N h ce sl (mkF m pc Ls st) := by
  subst hp
  exact Go.step (fun T A _ q => XT.lconstV A C.1 rfl v (hb C.2.1 hd) hv q) hr
theorem go_aconst_null (C : Cx p s m meth c Z own bs mx rt nm)  (hd : decode bs pc = .ok (.aconst_null, 1)) (hp : pc + 1 = pc') (hr : Go p l e R s m args below meth c n0 Q K N h ce sl (mkF m pc' Ls (.null :: st))) : Go p l e R s m args below meth c n0 Q K N h ce sl (mkF m pc Ls st) := by
  subst hp
  exact Go.step (fun T A _ q => XS.aconstNull A C.1 rfl (hb C.2.1 hd)  q) hr
theorem go_iinc (C : Cx p s m meth c Z own bs mx rt nm) {k : Nat} {i : Int} {x : Int32} (v : Int32) (hd : decode bs pc = .ok (.iinc k i, 3)) (hp : pc + 3 = pc') (hv : Int32.ofInt i = v) (hl : Ls[k]? = some (.val (.int x))) (hl' : storeLocals Ls k (.int (x + v)) = some Ls') (hr : Go p l e R s m args below meth c n0 Q K N h ce sl (mkF m pc' Ls' st)) : Go p l e R s m args below meth c n0 Q K N h ce sl (mkF m pc Ls st) := by
  subst hp
  exact Go.step (fun T A _ q => XT.iincV A C.1 rfl v (hb C.2.1 hd) hv hl hl' q) hr
theorem go_iadd (C : Cx p s m meth c Z own bs mx rt nm) {x y : Int32} (hd : decode bs pc = .ok (.iadd, 1)) (hp : pc + 1 = pc') (hr : Go p l e R s m args below meth c n0 Q K N h ce sl (mkF m pc' Ls (.int (x + y) :: st))) : Go p l e R s m args below meth c n0 Q K N h ce sl (mkF m pc Ls (.int y :: .int x :: st)) := by
  subst hp
  exact Go.step (fun T A _ q => XS.iadd A C.1 rfl (hb C.2.1 hd) rfl q) hr
theorem go_isub (C : Cx p s m meth c Z own bs mx rt nm) {x y : Int32} (hd : decode bs pc = .ok (.isub, 1)) (hp : pc + 1 = pc') (hr : Go p l e R s m args below meth c n0 Q K N h ce sl (mkF m pc' Ls (.int (x - y) :: st))) : Go p l e R s m args below meth c n0 Q K N h ce sl (mkF m pc Ls (.int y :: .int x :: st)) := by
  subst hp
  exact Go.step (fun T A _ q => XS.isub A C.1 rfl (hb C.2.1 hd) rfl q) hr
theorem go_iand (C : Cx p s m meth c Z own bs mx rt nm) {x y : Int32} (hd : decode bs pc = .ok (.iand, 1)) (hp : pc + 1 = pc') (hr : Go p l e R s m args below meth c n0 Q K N h ce sl (mkF m pc' Ls (.int (x &&& y) :: st))) : Go p l e R s m args below meth c n0 Q K N h ce sl (mkF m pc Ls (.int y :: .int x :: st)) := by
  subst hp
  exact Go.step (fun T A _ q => XS.iand A C.1 rfl (hb C.2.1 hd) rfl q) hr
theorem go_imul (C : Cx p s m meth c Z own bs mx rt nm) {x y : Int32} (hd : decode bs pc = .ok (.imul, 1)) (hp : pc + 1 = pc') (hr : Go p l e R s m args below meth c n0 Q K N h ce sl (mkF m pc' Ls (.int (x * y) :: st))) : Go p l e R s m args below meth c n0 Q K N h ce sl (mkF m pc Ls (.int y :: .int x :: st)) := by
  subst hp
  exact Go.step (fun T A _ q => XS.imul A C.1 rfl (hb C.2.1 hd) rfl q) hr
theorem go_ior (C : Cx p s m meth c Z own bs mx rt nm) {x y : Int32} (hd : decode bs pc = .ok (.ior, 1)) (hp : pc + 1 = pc') (hr : Go p l e R s m args below meth c n0 Q K N h ce sl (mkF m pc' Ls (.int (x ||| y) :: st))) : Go p l e R s m args below meth c n0 Q K N h ce sl (mkF m pc Ls (.int y :: .int x :: st)) := by
  subst hp
  exact Go.step (fun T A _ q => XT.ior A C.1 rfl (hb C.2.1 hd) rfl q) hr
theorem go_ixor (C : Cx p s m meth c Z own bs mx rt nm) {x y : Int32} (hd : decode bs pc = .ok (.ixor, 1)) (hp : pc + 1 = pc') (hr : Go p l e R s m args below meth c n0 Q K N h ce sl (mkF m pc' Ls (.int (x ^^^ y) :: st))) : Go p l e R s m args below meth c n0 Q K N h ce sl (mkF m pc Ls (.int y :: .int x :: st)) := by
  subst hp
  exact Go.step (fun T A _ q => XT.ixor A C.1 rfl (hb C.2.1 hd) rfl q) hr
theorem go_ishl (C : Cx p s m meth c Z own bs mx rt nm) {x y : Int32} (hd : decode bs pc = .ok (.ishl, 1)) (hp : pc + 1 = pc') (hr : Go p l e R s m args below meth c n0 Q K N h ce sl (mkF m pc' Ls (.int (x <<< (y &&& 31)) :: st))) : Go p l e R s m args below meth c n0 Q K N h ce sl (mkF m pc Ls (.int y :: .int x :: st)) := by
  subst hp
  exact Go.step (fun T A _ q => XT.ishl A C.1 rfl (hb C.2.1 hd) rfl q) hr
theorem go_ishr (C : Cx p s m meth c Z own bs mx rt nm) {x y : Int32} (hd : decode bs pc = .ok (.ishr, 1)) (hp : pc + 1 = pc') (hr : Go p l e R s m args below meth c n0 Q K N h ce sl (mkF m pc' Ls (.int (x >>> (y &&& 31)) :: st))) : Go p l e R s m args below meth c n0 Q K N h ce sl (mkF m pc Ls (.int y :: .int x :: st)) := by
  subst hp
  exact Go.step (fun T A _ q => XT.ishr A C.1 rfl (hb C.2.1 hd) rfl q) hr
theorem go_iushr (C : Cx p s m meth c Z own bs mx rt nm) {x y : Int32} (hd : decode bs pc = .ok (.iushr, 1)) (hp : pc + 1 = pc') (hr : Go p l e R s m args below meth c n0 Q K N h ce sl (mkF m pc' Ls (.int (XT.ushr x y) :: st))) : Go p l e R s m args below meth c n0 Q K N h ce sl (mkF m pc Ls (.int y :: .int x :: st)) := by
  subst hp
  exact Go.step (fun T A _ q => XT.iushr A C.1 rfl (hb C.2.1 hd) rfl q) hr
theorem go_ladd (C : Cx p s m meth c Z own bs mx rt nm) {x y : Int64} (hd : decode bs pc = .ok (.ladd, 1)) (hp : pc + 1 = pc') (hr : Go p l e R s m args below meth c n0 Q K N h ce sl (mkF m pc' Ls (.long (x + y) :: st))) : Go p l e R s m args below meth c n0 Q K N h ce sl (mkF m pc Ls (.long y :: .long x :: st)) := by
  subst hp
  exact Go.step (fun T A _ q => XT.ladd A C.1 rfl (hb C.2.1 hd) rfl q) hr
theorem go_lsub (C : Cx p s m meth c Z own bs mx rt nm) {x y : Int64} (hd : decode bs pc = .ok (.lsub, 1)) (hp : pc + 1 = pc') (hr : Go p l e R s m args below meth c n0 Q K N h ce sl (mkF m pc' Ls (.long (x - y) :: st))) : Go p l e R s m args below meth c n0 Q K N h ce sl (mkF m pc Ls (.long y :: .long x :: st)) := by
  subst hp
  exact Go.step (fun T A _ q => XT.lsub A C.1 rfl (hb C.2.1 hd) rfl q) hr
theorem go_land (C : Cx p s m meth c Z own bs mx rt nm) {x y : Int64} (hd : decode bs pc = .ok (.land, 1)) (hp : pc + 1 = pc') (hr : Go p l e R s m args below meth c n0 Q K N h ce sl (mkF m pc' Ls (.long (x &&& y) :: st))) : Go p l e R s m args below meth c n0 Q K N h ce sl (mkF m pc Ls (.long y :: .long x :: st)) := by
  subst hp
  exact Go.step (fun T A _ q => XT.land A C.1 rfl (hb C.2.1 hd) rfl q) hr
theorem go_lmul (C : Cx p s m meth c Z own bs mx rt nm) {x y : Int64} (hd : decode bs pc = .ok (.lmul, 1)) (hp : pc + 1 = pc') (hr : Go p l e R s m args below meth c n0 Q K N h ce sl (mkF m pc' Ls (.long (x * y) :: st))) : Go p l e R s m args below meth c n0 Q K N h ce sl (mkF m pc Ls (.long y :: .long x :: st)) := by
  subst hp
  exact Go.step (fun T A _ q => XT.lmul A C.1 rfl (hb C.2.1 hd) rfl q) hr
theorem go_lor (C : Cx p s m meth c Z own bs mx rt nm) {x y : Int64} (hd : decode bs pc = .ok (.lor, 1)) (hp : pc + 1 = pc') (hr : Go p l e R s m args below meth c n0 Q K N h ce sl (mkF m pc' Ls (.long (x ||| y) :: st))) : Go p l e R s m args below meth c n0 Q K N h ce sl (mkF m pc Ls (.long y :: .long x :: st)) := by
  subst hp
  exact Go.step (fun T A _ q => XT.lor A C.1 rfl (hb C.2.1 hd) rfl q) hr
theorem go_lxor (C : Cx p s m meth c Z own bs mx rt nm) {x y : Int64} (hd : decode bs pc = .ok (.lxor, 1)) (hp : pc + 1 = pc') (hr : Go p l e R s m args below meth c n0 Q K N h ce sl (mkF m pc' Ls (.long (x ^^^ y) :: st))) : Go p l e R s m args below meth c n0 Q K N h ce sl (mkF m pc Ls (.long y :: .long x :: st)) := by
  subst hp
  exact Go.step (fun T A _ q => XT.lxor A C.1 rfl (hb C.2.1 hd) rfl q) hr
theorem go_idiv (C : Cx p s m meth c Z own bs mx rt nm) {x y : Int32} (hd : decode bs pc = .ok (.idiv, 1)) (hp : pc + 1 = pc') (hy : y ≠ 0) (hr : Go p l e R s m args below meth c n0 Q K N h ce sl (mkF m pc' Ls (.int (x / y) :: st))) : Go p l e R s m args below meth c n0 Q K N h ce sl (mkF m pc Ls (.int y :: .int x :: st)) := by
  subst hp
  exact Go.step (fun T A _ q => XS.idiv A C.1 rfl (hb C.2.1 hd) rfl hy q) hr
theorem go_irem (C : Cx p s m meth c Z own bs mx rt nm) {x y : Int32} (hd : decode bs pc = .ok (.irem, 1)) (hp : pc + 1 = pc') (hy : y ≠ 0) (hr : Go p l e R s m args below meth c n0 Q K N h ce sl (mkF m pc' Ls (.int (x % y) :: st))) : Go p l e R s m args below meth c n0 Q K N h ce sl (mkF m pc Ls (.int y :: .int x :: st)) := by
  subst hp
  exact Go.stepX (fun T locs X _ _ q => iremM X C.1 rfl (hb C.2.1 hd) rfl hy q) hr
theorem go_i2l (C : Cx p s m meth c Z own bs mx rt nm) {x : Int32} (hd : decode bs pc = .ok (.i2l, 1)) (hp : pc + 1 = pc') (hr : Go p l e R s m args below meth c n0 Q K N h ce sl (mkF m pc' Ls (.long x.toInt64 :: st))) : Go p l e R s m args below meth c n0 Q K N h ce sl (mkF m pc Ls (.int x :: st)) := by
  subst hp
  exact Go.step (fun T A _ q => XT.i2l A C.1 rfl (hb C.2.1 hd) rfl q) hr
theorem go_l2i (C : Cx p s m meth c Z own bs mx rt nm) {x : Int64} (hd : decode bs pc = .ok (.l2i, 1)) (hp : pc + 1 = pc') (hr : Go p l e R s m args below meth c n0 Q K N h ce sl (mkF m pc' Ls (.int x.toInt32 :: st))) : Go p l e R s m args below meth c n0 Q K N h ce sl (mkF m pc Ls (.long x :: st)) := by
  subst hp
  exact Go.step (fun T A _ q => XT.l2i A C.1 rfl (hb C.2.1 hd) rfl q) hr
theorem go_i2b (C : Cx p s m meth c Z own bs mx rt nm) {x : Int32} (hd : decode bs pc = .ok (.i2b, 1)) (hp : pc + 1 = pc') (hr : Go p l e R s m args below meth c n0 Q K N h ce sl (mkF m pc' Ls (.int x.toInt8.toInt32 :: st))) : Go p l e R s m args below meth c n0 Q K N h ce sl (mkF m pc Ls (.int x :: st)) := by
  subst hp
  exact Go.step (fun T A _ q => XT.i2b A C.1 rfl (hb C.2.1 hd) rfl q) hr
theorem go_i2c (C : Cx p s m meth c Z own bs mx rt nm) {x : Int32} (hd : decode bs pc = .ok (.i2c, 1)) (hp : pc + 1 = pc') (hr : Go p l e R s m args below meth c n0 Q K N h ce sl (mkF m pc' Ls (.int x.toUInt32.toUInt16.toUInt32.toInt32 :: st))) : Go p l e R s m args below meth c n0 Q K N h ce sl (mkF m pc Ls (.int x :: st)) := by
  subst hp
  exact Go.step (fun T A _ q => XT.i2c A C.1 rfl (hb C.2.1 hd) rfl q) hr
theorem go_ineg (C : Cx p s m meth c Z own bs mx rt nm) {x : Int32} (hd : decode bs pc = .ok (.ineg, 1)) (hp : pc + 1 = pc') (hr : Go p l e R s m args below meth c n0 Q K N h ce sl (mkF m pc' Ls (.int (-x) :: st))) : Go p l e R s m args below meth c n0 Q K N h ce sl (mkF m pc Ls (.int x :: st)) := by
  subst hp
  exact Go.step (fun T A _ q => XS.ineg A C.1 rfl (hb C.2.1 hd) rfl q) hr
theorem go_dup (C : Cx p s m meth c Z own bs mx rt nm) {v : Value} (hd : decode bs pc = .ok (.dup, 1)) (hp : pc + 1 = pc') (hc : v.category = 1) (hr : Go p l e R s m args below meth c n0 Q K N h ce sl (mkF m pc' Ls (v :: v :: st))) : Go p l e R s m args below meth c n0 Q K N h ce sl (mkF m pc Ls (v :: st)) := by
  subst hp
  exact Go.step (fun T A _ q => XS.dup A C.1 rfl (hb C.2.1 hd) rfl hc q) hr
theorem go_pop (C : Cx p s m meth c Z own bs mx rt nm) {v : Value} (hd : decode bs pc = .ok (.pop, 1)) (hp : pc + 1 = pc') (hc : v.category = 1) (hr : Go p l e R s m args below meth c n0 Q K N h ce sl (mkF m pc' Ls st)) : Go p l e R s m args below meth c n0 Q K N h ce sl (mkF m pc Ls (v :: st)) := by
  subst hp
  exact Go.step (fun T A _ q => XT.pop A C.1 rfl (hb C.2.1 hd) rfl hc q) hr
theorem go_dup2 (C : Cx p s m meth c Z own bs mx rt nm) {v w : Value} (hd : decode bs pc = .ok (.dup2, 1)) (hp : pc + 1 = pc') (hc : v.category = 1) (hc' : w.category = 1) (hr : Go p l e R s m args below meth c n0 Q K N h ce sl (mkF m pc' Ls (v :: w :: v :: w :: st))) : Go p l e R s m args below meth c n0 Q K N h ce sl (mkF m pc Ls (v :: w :: st)) := by
  subst hp
  exact Go.step (fun T A _ q => XT.dup2 A C.1 rfl (hb C.2.1 hd) rfl hc hc' q) hr
theorem go_dup_x1 (C : Cx p s m meth c Z own bs mx rt nm) {v w : Value} (hd : decode bs pc = .ok (.dup_x1, 1)) (hp : pc + 1 = pc') (hc : v.category = 1) (hc' : w.category = 1) (hr : Go p l e R s m args below meth c n0 Q K N h ce sl (mkF m pc' Ls (v :: w :: v :: st))) : Go p l e R s m args below meth c n0 Q K N h ce sl (mkF m pc Ls (v :: w :: st)) := by
  subst hp
  exact Go.step (fun T A _ q => XT.dupX1 A C.1 rfl (hb C.2.1 hd) rfl hc hc' q) hr
theorem go_lushr (C : Cx p s m meth c Z own bs mx rt nm) {x : Int64} {y : Int32} (hd : decode bs pc = .ok (.lushr, 1)) (hp : pc + 1 = pc') (hr : Go p l e R s m args below meth c n0 Q K N h ce sl (mkF m pc' Ls (.long (XT.ushrL x y) :: st))) : Go p l e R s m args below meth c n0 Q K N h ce sl (mkF m pc Ls (.int y :: .long x :: st)) := by
  subst hp
  exact Go.step (fun T A _ q => XT.lushr A C.1 rfl (hb C.2.1 hd) rfl q) hr
theorem go_lshl (C : Cx p s m meth c Z own bs mx rt nm) {x : Int64} {y : Int32} (hd : decode bs pc = .ok (.lshl, 1)) (hp : pc + 1 = pc') (hr : Go p l e R s m args below meth c n0 Q K N h ce sl (mkF m pc' Ls (.long (x <<< (y.toInt64 &&& 63)) :: st))) : Go p l e R s m args below meth c n0 Q K N h ce sl (mkF m pc Ls (.int y :: .long x :: st)) := by
  subst hp
  exact Go.step (fun T A _ q => XT.lshl A C.1 rfl (hb C.2.1 hd) rfl q) hr
theorem go_ldiv (C : Cx p s m meth c Z own bs mx rt nm) {x y : Int64} (hd : decode bs pc = .ok (.ldiv, 1)) (hp : pc + 1 = pc') (hy : y ≠ 0) (hr : Go p l e R s m args below meth c n0 Q K N h ce sl (mkF m pc' Ls (.long (x / y) :: st))) : Go p l e R s m args below meth c n0 Q K N h ce sl (mkF m pc Ls (.long y :: .long x :: st)) := by
  subst hp
  exact Go.step (fun T A _ q => XT.ldiv A C.1 rfl (hb C.2.1 hd) rfl hy q) hr
theorem go_lrem (C : Cx p s m meth c Z own bs mx rt nm) {x y : Int64} (hd : decode bs pc = .ok (.lrem, 1)) (hp : pc + 1 = pc') (hy : y ≠ 0) (hr : Go p l e R s m args below meth c n0 Q K N h ce sl (mkF m pc' Ls (.long (x - (x / y) * y) :: st))) : Go p l e R s m args below meth c n0 Q K N h ce sl (mkF m pc Ls (.long y :: .long x :: st)) := by
  subst hp
  exact Go.step (fun T A _ q => XT.lrem A C.1 rfl (hb C.2.1 hd) rfl hy q) hr
theorem go_goto (C : Cx p s m meth c Z own bs mx rt nm) {o : Int} (hd : decode bs pc = .ok (.goto o, 3)) (ho : 0 ≤ (pc : Int) + o) (hp : ((pc : Int) + o).toNat = pc') (hr : Go p l e R s m args below meth c n0 Q K N h ce sl (mkF m pc' Ls st)) : Go p l e R s m args below meth c n0 Q K N h ce sl (mkF m pc Ls st) :=
  Go.step (fun T A _ q => XS.goto A C.1 rfl rfl (hb C.2.1 hd) ho hp q) hr
/-- what a comparison says, of integers -/
def cmpP (cd : ClassFile.Cond) (x y : Int) : Prop := match cd with | .eq => x = y | .ne => ¬ x = y | .lt => x < y | .ge => ¬ x < y | .gt => y < x | .le => ¬ y < x
def cmpN (cd : ClassFile.Cond) (x y : Int) : Prop := match cd with | .eq => ¬ x = y | .ne => x = y | .lt => ¬ x < y | .ge => x < y | .gt => ¬ y < x | .le => y < x
theorem cmpN_of {cd : ClassFile.Cond} {x y : Int} (h : ¬ cmpP cd x y) : cmpN cd x y := by
  cases cd <;> simp only [cmpP] at h <;> simp only [cmpN] <;> omega
theorem cmp_t {cd : ClassFile.Cond} {x y : Int32} (h : cmpP cd x.toInt y.toInt) : if_icmp.holds cd x y = true := by
  cases cd <;> simp only [cmpP] at h
  · exact XT.ii_eq_t (int_eq h)
  · exact XT.ii_ne_t fun q => h (by rw [q])
  · exact XT.ii_lt_t (Int32.lt_iff_toInt_lt.mpr h)
  · exact XT.ii_ge_t fun q => h (Int32.lt_iff_toInt_lt.mp q)
  · exact XT.ii_gt_t (Int32.lt_iff_toInt_lt.mpr h)
  · exact XT.ii_le_t fun q => h (Int32.lt_iff_toInt_lt.mp q)
theorem cmp_f {cd : ClassFile.Cond} {x y : Int32} (h : ¬ cmpP cd x.toInt y.toInt) : if_icmp.holds cd x y = false := by
  cases cd <;> simp only [cmpP] at h
  · exact XT.ii_eq_f fun q => h (by rw [q])
  · exact XT.ii_ne_f (int_eq (Classical.not_not.mp h))
  · exact XT.ii_lt_f fun q => h (Int32.lt_iff_toInt_lt.mp q)
  · exact XT.ii_ge_f (Int32.lt_iff_toInt_lt.mpr (Classical.not_not.mp h))
  · exact XT.ii_gt_f fun q => h (Int32.lt_iff_toInt_lt.mp q)
  · exact XT.ii_le_f (Int32.lt_iff_toInt_lt.mpr (Classical.not_not.mp h))
theorem cmpL_t {cd : ClassFile.Cond} {x y : Int64} (h : cmpP cd x.toInt y.toInt) : ifCond.holds cd (XT.cmpL x y) = true := by
  cases cd <;> simp only [cmpP] at h
  · exact XT.ll_eq_t (long_eq h)
  · exact XT.ll_ne_t fun q => h (by rw [q])
  · exact XT.ll_lt_t (Int64.lt_iff_toInt_lt.mpr h)
  · exact XT.ll_ge_t fun q => h (Int64.lt_iff_toInt_lt.mp q)
  · exact XT.ll_gt_t (Int64.lt_iff_toInt_lt.mpr h)
  · exact XT.ll_le_t fun q => h (Int64.lt_iff_toInt_lt.mp q)
theorem cmpL_f {cd : ClassFile.Cond} {x y : Int64} (h : ¬ cmpP cd x.toInt y.toInt) : ifCond.holds cd (XT.cmpL x y) = false := by
  cases cd <;> simp only [cmpP] at h
  · exact XT.ll_eq_f fun q => h (by rw [q])
  · exact XT.ll_ne_f (long_eq (Classical.not_not.mp h))
  · exact XT.ll_lt_f fun q => h (Int64.lt_iff_toInt_lt.mp q)
  · exact XT.ll_ge_f (Int64.lt_iff_toInt_lt.mpr (Classical.not_not.mp h))
  · exact XT.ll_gt_f fun q => h (Int64.lt_iff_toInt_lt.mp q)
  · exact XT.ll_le_f (Int64.lt_iff_toInt_lt.mpr (Classical.not_not.mp h))
theorem go_icmp (C : Cx p s m meth c Z own bs mx rt nm) {cd : ClassFile.Cond} {x y : Int32} {o : Int} {pcN : Nat} (kx ky : Int) (hx : x.toInt = kx) (hy : y.toInt = ky) (hd : decode bs pc = .ok (.if_icmp cd o, 3)) (ho : 0 ≤ (pc : Int) + o) (hp : ((pc : Int) + o).toNat = pc') (hpn : pc + 3 = pcN) (h1 : cmpP cd kx ky → Go p l e R s m args below meth c n0 Q K N h ce sl (mkF m pc' Ls st)) (h2 : cmpN cd kx ky → Go p l e R s m args below meth c n0 Q K N h ce sl (mkF m pcN Ls st)) : Go p l e R s m args below meth c n0 Q K N h ce sl (mkF m pc Ls (.int y :: .int x :: st)) := by
  subst hpn hx hy
  by_cases q : cmpP cd x.toInt y.toInt
  · exact Go.step (fun T A _ k => XS.icmpYes A C.1 rfl rfl (hb C.2.1 hd) rfl (cmp_t q) ho hp k) (h1 q)
  · exact Go.step (fun T A _ k => XS.icmpNo A C.1 rfl (hb C.2.1 hd) rfl (cmp_f q) k) (h2 (cmpN_of q))
theorem go_if0 (C : Cx p s m meth c Z own bs mx rt nm) {cd : ClassFile.Cond} {x : Int32} {o : Int} {pcN : Nat} (kx : Int) (hx : x.toInt = kx) (hd : decode bs pc = .ok (.ifCond cd o, 3)) (ho : 0 ≤ (pc : Int) + o) (hp : ((pc : Int) + o).toNat = pc') (hpn : pc + 3 = pcN) (h1 : cmpP cd kx 0 → Go p l e R s m args below meth c n0 Q K N h ce sl (mkF m pc' Ls st)) (h2 : cmpN cd kx 0 → Go p l e R s m args below meth c n0 Q K N h ce sl (mkF m pcN Ls st)) : Go p l e R s m args below meth c n0 Q K N h ce sl (mkF m pc Ls (.int x :: st)) := by
  subst hpn hx
  by_cases q : cmpP cd x.toInt 0
  · exact Go.step (fun T A _ k => XS.ifYes A C.1 rfl rfl (hb C.2.1 hd) rfl ((if0 cd x).trans (cmp_t q)) ho hp k) (h1 q)
  · exact Go.step (fun T A _ k => XS.ifNo A C.1 rfl (hb C.2.1 hd) rfl ((if0 cd x).trans (cmp_f q)) k) (h2 (cmpN_of q))
theorem go_lcmp (C : Cx p s m meth c Z own bs mx rt nm) {cd : ClassFile.Cond} {x y : Int64} {o : Int} {pc1 pcN : Nat} (kx ky : Int) (hx : x.toInt = kx) (hy : y.toInt = ky) (hd0 : decode bs pc = .ok (.lcmp, 1)) (hp1 : pc + 1 = pc1) (hd : decode bs pc1 = .ok (.ifCond cd o, 3)) (ho : 0 ≤ (pc1 : Int) + o) (hp : ((pc1 : Int) + o).toNat = pc') (hpn : pc1 + 3 = pcN) (h1 : cmpP cd kx ky → Go p l e R s m args below meth c n0 Q K N h ce sl (mkF m pc' Ls st)) (h2 : cmpN cd kx ky → Go p l e R s m args below meth c n0 Q K N h ce sl (mkF m pcN Ls st)) : Go p l e R s m args below meth c n0 Q K N h ce sl (mkF m pc Ls (.long y :: .long x :: st)) := by
  subst hpn hp1 hx hy
  refine Go.step (g' := mkF m (pc + 1) Ls (.int (XT.cmpL x y) :: st)) (fun T A _ k => XT.lcmp A C.1 rfl (hb C.2.1 hd0) rfl k) ?_
  by_cases q : cmpP cd x.toInt y.toInt
  · exact Go.step (fun T A _ k => XS.ifYes A C.1 rfl rfl (hb C.2.1 hd) rfl (cmpL_t q) ho hp k) (h1 q)
  · exact Go.step (fun T A _ k => XS.ifNo A C.1 rfl (hb C.2.1 hd) rfl (cmpL_f q) k) (h2 (cmpN_of q))
theorem go_ifne_b (C : Cx p s m meth c Z own bs mx rt nm) {B : Prop} [Decidable B] {o : Int} {pcN : Nat} (hd : decode bs pc = .ok (.ifCond .ne o, 3)) (ho : 0 ≤ (pc : Int) + o) (hp : ((pc : Int) + o).toNat = pc') (hpn : pc + 3 = pcN) (h1 : B → Go p l e R s m args below meth c n0 Q K N h ce sl (mkF m pc' Ls st)) (h2 : ¬ B → Go p l e R s m args below meth c n0 Q K N h ce sl (mkF m pcN Ls st)) : Go p l e R s m args below meth c n0 Q K N h ce sl (mkF m pc Ls (.int (bi B) :: st)) := by
  refine go_if0 C _ rfl hd ho hp hpn (fun q => h1 ?_) (fun q => h2 ?_)
  · exact Classical.byContradiction fun z => q (by rw [bi_f z]; rfl)
  · exact fun z => by
      have q' : (bi B).toInt = 0 := q
      rw [bi_t z] at q'
      exact absurd q' (by decide)
theorem go_ifeq_b (C : Cx p s m meth c Z own bs mx rt nm) {B : Prop} [Decidable B] {o : Int} {pcN : Nat} (hd : decode bs pc = .ok (.ifCond .eq o, 3)) (ho : 0 ≤ (pc : Int) + o) (hp : ((pc : Int) + o).toNat = pc') (hpn : pc + 3 = pcN) (h1 : ¬ B → Go p l e R s m args below meth c n0 Q K N h ce sl (mkF m pc' Ls st)) (h2 : B → Go p l e R s m args below meth c n0 Q K N h ce sl (mkF m pcN Ls st)) : Go p l e R s m args below meth c n0 Q K N h ce sl (mkF m pc Ls (.int (bi B) :: st)) := by
  refine go_if0 C _ rfl hd ho hp hpn (fun q => h1 ?_) (fun q => h2 ?_)
  · exact fun z => by
      have q' : (bi B).toInt = 0 := q
      rw [bi_t z] at q'
      exact absurd q' (by decide)
  · exact Classical.byContradiction fun z => q (by rw [bi_f z]; rfl)
theorem go_ifnull_r (C : Cx p s m meth c Z own bs mx rt nm) {a : Addr} {o : Int} (hd : decode bs pc = .ok (.ifnull o, 3)) (hp : pc + 3 = pc') (hr : Go p l e R s m args below meth c n0 Q K N h ce sl (mkF m pc' Ls st)) : Go p l e R s m args below meth c n0 Q K N h ce sl (mkF m pc Ls (.ref a :: st)) := by
  subst hp
  exact Go.step (fun T A _ k => XS.ifnullNo A C.1 rfl (hb C.2.1 hd) rfl k) hr
theorem go_ifnull_n (C : Cx p s m meth c Z own bs mx rt nm) {o : Int} (hd : decode bs pc = .ok (.ifnull o, 3)) (ho : 0 ≤ (pc : Int) + o) (hp : ((pc : Int) + o).toNat = pc') (hr : Go p l e R s m args below meth c n0 Q K N h ce sl (mkF m pc' Ls st)) : Go p l e R s m args below meth c n0 Q K N h ce sl (mkF m pc Ls (.null :: st)) :=
  Go.step (fun T A _ k => XS.ifnullYes A C.1 rfl rfl (hb C.2.1 hd) rfl ho hp k) hr
theorem go_ldc (C : Cx p s m meth c Z own bs mx rt nm) {i : Nat} {v : Int32} (w : (Jvm.Cond.constant own i v).before a0 Z = true) (hd : decode bs pc = .ok (.ldc i, 2)) (hp : pc + 2 = pc') (hr : Go p l e R s m args below meth c n0 Q K N h ce sl (mkF m pc' Ls (.int v :: st))) : Go p l e R s m args below meth c n0 Q K N h ce sl (mkF m pc Ls st) := by
  subst hp
  exact Go.stepX (fun T locs X _ _ q => X.ldcI C.1 C.2.2.2.2.1 (mv C.2.2.2.1 w) rfl (hb C.2.1 hd) q) hr
theorem go_ldc2 (C : Cx p s m meth c Z own bs mx rt nm) {i : Nat} {v : Int64} (w : (Jvm.Cond.constantLong own i v).before a0 Z = true) (hd : decode bs pc = .ok (.ldc2_w i, 3)) (hp : pc + 3 = pc') (hr : Go p l e R s m args below meth c n0 Q K N h ce sl (mkF m pc' Ls (.long v :: st))) : Go p l e R s m args below meth c n0 Q K N h ce sl (mkF m pc Ls st) := by
  subst hp
  exact Go.stepX (fun T locs X _ _ q => X.ldc2J C.1 C.2.2.2.2.1 (mv C.2.2.2.1 w) rfl (hb C.2.1 hd) q) hr
theorem go_getfield (C : Cx p s m meth c Z own bs mx rt nm) {O n d : String} {i : Nat} {a : Addr} {v : Value} (w : (Jvm.Cond.fieldLink own i O n d).before a0 Z = true) (F0 : Fld Z h a O n d v) (hd : decode bs pc = .ok (.getfield i, 3)) (hp : pc + 3 = pc') (hr : Go p l e R s m args below meth c n0 Q K N h ce sl (mkF m pc' Ls (v :: st))) : Go p l e R s m args below meth c n0 Q K N h ce sl (mkF m pc Ls (.ref a :: st)) := by
  subst hp
  intro T locs X eT Nn
  obtain ⟨T', X', e', stp⟩ := getF X C.1 C.2.2.2.1 C.2.2.2.2.1 (host := "") (Or.inl w) Via.refl eT F0 (g := mkF m pc Ls (.ref a :: st)) rfl rfl (hb C.2.1 hd)
  obtain ⟨s₂, o, h1, r⟩ := hr T' locs X' e' Nn
  exact ⟨s₂, o, stp _ h1, r⟩
theorem go_putfield (C : Cx p s m meth c Z own bs mx rt nm) {O n d C0 : String} {i kk : Nat} {ty : FieldType} {a : Addr} {v old : Value} (w : (Jvm.Cond.fieldLink own i O n d).before a0 Z = true) (F0 : Fld Z h a O n d old) (E : Exa Z h a C0) (L : (Jvm.Cond.lays C0 O n d).before a0 Z = true ∨ ((Jvm.Cond.laysFinal C0 O n d).before a0 Z = true ∧ own = O ∧ nm = "<init>")) (wi : (Jvm.Cond.instantiable C0 kk).before a0 Z = true) (hty : parseFieldDescriptor d = some ty) (hn : narrow ty v = v) (hf : fits ty v = true) (ha : n0 ≤ a) (hd : decode bs pc = .ok (.putfield i, 3)) (hp : pc + 3 = pc') (hr : ∀ h', Wr h h' a (Jvm.RoadKit.slotOf Z O n d) v → Go p l e R s m args below meth c n0 Q K N h' ce sl (mkF m pc' Ls st)) : Go p l e R s m args below meth c n0 Q K N h ce sl (mkF m pc Ls (v :: .ref a :: st)) := by
  subst hp
  intro T locs X eT Nn
  obtain ⟨T', h', X', e', W', stp⟩ := putF X C.1 C.2.2.2.1 C.2.2.2.2.1 (host := "") (Or.inl w) Via.refl eT F0 E (L.imp id fun q => ⟨q.1, q.2.1, C.2.2.2.2.2.2.2.trans q.2.2⟩) wi hty hn hf (g := mkF m pc Ls (v :: .ref a :: st)) rfl rfl (hb C.2.1 hd)
  obtain ⟨s₂, o, h1, r⟩ := hr h' W' T' _ X' e' (Fr.snoc X' Nn ha)
  exact ⟨s₂, o, stp _ h1, r⟩
theorem go_new (C : Cx p s m meth c Z own bs mx rt nm) {C0 : String} {i k ce' sl' : Nat} (w : (Jvm.Cond.classLink own i C0).before a0 Z = true) (wi : (Jvm.Cond.instantiable C0 k).before a0 Z = true) (wz : (Jvm.Cond.initialized C0).before a0 Z = true) (hd : decode bs pc = .ok (.new i, 3)) (hp : pc + 3 = pc') (hce : ce + 1 = ce') (hsl : sl + k = sl') (hc : ce' ≤ R.cells) (hl : sl' ≤ R.slots)
    (hr : ∀ (h' : Heap) (a : Addr), h.size = a → Ext h h' → Exa Z h' a C0 → (∀ {O nm d : String} {ty : FieldType}, Laid Z a0 C0 O nm d → parseFieldDescriptor d = some ty → Fld Z h' a O nm d (defaultValue ty)) → Go p l e R s m args below meth c n0 Q K N h' ce' sl' (mkF m pc' Ls (.ref a :: st))) : Go p l e R s m args below meth c n0 Q K N h ce sl (mkF m pc Ls st) := by
  subst hp hce hsl
  intro T locs X eT Nn
  obtain ⟨T', h', X', e', E', A', D', -, stp⟩ := newO X C.1 C.2.2.2.1 C.2.2.2.2.1 w wi wz eT (g := mkF m pc Ls st) rfl (hb C.2.1 hd) hc hl
  obtain ⟨s₂, o, h1, r⟩ := hr h' _ rfl E' A' D' T' _ X' e' Nn
  exact ⟨s₂, o, stp _ h1, r⟩
/-- an array of type ty that holds just vs -/
def Av (Z : State) (h : Heap) (a : Addr) (ty : FieldType) (vs : List Value) : Prop := ∃ cl : Cell, Arr Z h a cl ty ∧ cl.slots.toList = vs ∧ vs.length < 2147483648
theorem Av.lt {ty : FieldType} {vs : List Value} {a : Addr} (A : Av Z h a ty vs) : a < h.size := by obtain ⟨c, A, -⟩ := A; exact A.lt
theorem Av.ext {ty : FieldType} {vs : List Value} {a : Addr} {h' : Heap} (A : Av Z h a ty vs) (E : Ext h h') : Av Z h' a ty vs := by obtain ⟨c, A, r⟩ := A; exact ⟨c, A.ext E, r⟩
theorem Av.other {ty : FieldType} {vs : List Value} {a b : Addr} {h' : Heap} {k : Nat} {v : Value} (A : Av Z h b ty vs) (W : Wr h h' a k v) (q : b ≠ a) : Av Z h' b ty vs := by obtain ⟨c, A, r⟩ := A; exact ⟨c, A.other W q, r⟩
theorem Av.keep {ty : FieldType} {vs : List Value} {a : Addr} {h' : Heap} {ws : List Addr} (A : Av Z h a ty vs) (K0 : Keep h h' ws) (q : a ∉ ws) : Av Z h' a ty vs := by obtain ⟨c, A, r⟩ := A; exact ⟨c, ⟨K0.2.1 a c A.1 q, A.2⟩, r⟩
theorem own_ne_arr {C0 : String} {ty : FieldType} {vs : List Value} {a b : Addr} {k : Nat} (F0 : Exa Z h a C0) (wi : (Jvm.Cond.instantiable C0 k).before a0 Z = true) (G : Av Z h b ty vs) : a ≠ b := by obtain ⟨c, G, -⟩ := G; exact ne_arr F0 wi G
theorem clamp_of {j : Int32} {k : Nat} (hj : j.toInt = k) : j.toNatClampNeg = k := by
  show j.toInt.toNat = k
  rw [hj]; rfl
theorem nonneg_of {j : Int32} {k : Nat} (hj : j.toInt = k) : ¬ j < 0 := fun q => by
  have := Int32.lt_iff_toInt_lt.mp q
  rw [hj] at this
  exact absurd this (by show ¬ (k : Int) < 0; omega)
theorem Av.at {ty : FieldType} {vs : List Value} {a : Addr} (A : Av Z h a ty vs) {j : Int32} {k : Nat} (hj : j.toInt = k) (hk : k < vs.length) : ∃ cl : Cell, Arr Z h a cl ty ∧ cl.slots.toList = vs ∧ ¬ (j < 0 ∨ cl.slots.size ≤ j.toNatClampNeg) ∧ cl.slots[j.toNatClampNeg]? = vs[k]? := by
  obtain ⟨cl, A, e1, e2⟩ := A
  refine ⟨cl, A, e1, ?_, ?_⟩
  · rw [clamp_of hj]
    intro q
    rcases q with q | q
    · exact nonneg_of hj q
    · rw [← e1] at hk; simp at hk; omega
  · rw [clamp_of hj, ← e1]; simp
theorem Av.set {ty : FieldType} {vs : List Value} {a : Addr} {h' : Heap} {k : Nat} {v : Value} (A : Av Z h a ty vs) (W : Wr h h' a k v) : Av Z h' a ty (vs.set k v) := by
  obtain ⟨cl, A, e1, e2⟩ := A
  exact ⟨_, A.same W, by rw [← e1]; simp [Cell.setSlot], by simpa using e2⟩
/-- n ints, whichever -/
def Ints (vs : List Value) (n : Nat) : Prop := vs.length = n ∧ ∀ k, k < n → ∃ x : Int32, vs[k]? = some (.int x)
theorem Ints.rep (n : Nat) (x : Int32) : Ints (List.replicate n (.int x)) n := ⟨by simp, fun k hk => ⟨x, by simp [hk]⟩⟩
theorem Ints.set {vs : List Value} {n k : Nat} (x : Int32) (I : Ints vs n) : Ints (vs.set k (.int x)) n := ⟨by simpa using I.1, fun j hj => by
  by_cases q : k = j
  · subst q
    exact ⟨x, by rw [List.getElem?_set_self (by rw [I.1]; exact hj)]⟩
  · obtain ⟨y, hy⟩ := I.2 j hj
    exact ⟨y, by rw [List.getElem?_set_ne q]; exact hy⟩⟩
theorem go_arraylength (C : Cx p s m meth c Z own bs mx rt nm) {ty : FieldType} {vs : List Value} {a : Addr} (A : Av Z h a ty vs) (n : Int32) (hn : n.toInt = vs.length) (hd : decode bs pc = .ok (.arraylength, 1)) (hp : pc + 1 = pc') (hr : Go p l e R s m args below meth c n0 Q K N h ce sl (mkF m pc' Ls (.int n :: st))) : Go p l e R s m args below meth c n0 Q K N h ce sl (mkF m pc Ls (.ref a :: st)) := by
  subst hp
  obtain ⟨cl, A, e1, e2⟩ := A
  have q : cl.slots.size.toInt32 = n := by
    have hl : cl.slots.size = vs.length := by rw [← e1]; simp
    rw [hl]
    refine int_eq ?_
    rw [hn]
    exact Int32.toInt_ofNat_of_lt (by omega)
  exact Go.stepX (fun T locs X eT _ k => X.arraylength C.1 (cell := cl) (by rw [eT]; exact A.1) (State.isArrayOf_alike C.2.2.2.1.alike A.2.1) (g := mkF m pc Ls (.ref a :: st)) rfl rfl (hb C.2.1 hd) _ (by rw [q]; exact k)) hr
theorem go_iaload (C : Cx p s m meth c Z own bs mx rt nm) {vs : List Value} {a : Addr} {j : Int32} (A : Av Z h a .int vs) (k : Nat) (v : Value) (hj : j.toInt = k) (hv : vs[k]? = some v) (hd : decode bs pc = .ok (.iaload, 1)) (hp : pc + 1 = pc') (hr : Go p l e R s m args below meth c n0 Q K N h ce sl (mkF m pc' Ls (v :: st))) : Go p l e R s m args below meth c n0 Q K N h ce sl (mkF m pc Ls (.int j :: .ref a :: st)) := by
  subst hp
  obtain ⟨cl, A, e1, e2, e3⟩ := A.at hj (List.getElem?_eq_some_iff.mp hv).1
  exact Go.stepX (fun T locs X eT _ q => X.iaload C.1 (j := j) (v := v) (by rw [eT]; exact A.1) (State.isArrayOf_alike C.2.2.2.1.alike A.2.1) A.2.2 e2 (e3.trans hv) (g := mkF m pc Ls (.int j :: .ref a :: st)) rfl rfl (hb C.2.1 hd) _ q) hr
theorem go_laload (C : Cx p s m meth c Z own bs mx rt nm) {vs : List Value} {a : Addr} {j : Int32} (A : Av Z h a .long vs) (k : Nat) (v : Value) (hj : j.toInt = k) (hv : vs[k]? = some v) (hd : decode bs pc = .ok (.laload, 1)) (hp : pc + 1 = pc') (hr : Go p l e R s m args below meth c n0 Q K N h ce sl (mkF m pc' Ls (v :: st))) : Go p l e R s m args below meth c n0 Q K N h ce sl (mkF m pc Ls (.int j :: .ref a :: st)) := by
  subst hp
  obtain ⟨cl, A, e1, e2, e3⟩ := A.at hj (List.getElem?_eq_some_iff.mp hv).1
  exact Go.stepX (fun T locs X eT _ q => X.laload C.1 (j := j) (v := v) (by rw [eT]; exact A.1) (State.isArrayOf_alike C.2.2.2.1.alike A.2.1) A.2.2 e2 (e3.trans hv) (g := mkF m pc Ls (.int j :: .ref a :: st)) rfl rfl (hb C.2.1 hd) _ q) hr
theorem go_baload (C : Cx p s m meth c Z own bs mx rt nm) {vs : List Value} {a : Addr} {j : Int32} (A : Av Z h a .byte vs) (k : Nat) (v : Value) (hj : j.toInt = k) (hv : vs[k]? = some v) (hd : decode bs pc = .ok (.baload, 1)) (hp : pc + 1 = pc') (hr : Go p l e R s m args below meth c n0 Q K N h ce sl (mkF m pc' Ls (v :: st))) : Go p l e R s m args below meth c n0 Q K N h ce sl (mkF m pc Ls (.int j :: .ref a :: st)) := by
  subst hp
  obtain ⟨cl, A, e1, e2, e3⟩ := A.at hj (List.getElem?_eq_some_iff.mp hv).1
  exact Go.stepX (fun T locs X eT _ q => X.baloadBytes C.1 (j := j) (v := v) (by rw [eT]; exact A.1) (State.isArrayOf_alike C.2.2.2.1.alike A.2.1) A.2.2 e2 (e3.trans hv) (g := mkF m pc Ls (.int j :: .ref a :: st)) rfl rfl (hb C.2.1 hd) _ q) hr
theorem go_iastore (C : Cx p s m meth c Z own bs mx rt nm) {vs : List Value} {a : Addr} {j : Int32} {x : Int32} (A : Av Z h a .int vs) (k : Nat) (hj : j.toInt = k) (hk : k < vs.length) (ha : n0 ≤ a) (hd : decode bs pc = .ok (.iastore, 1)) (hp : pc + 1 = pc') (hr : ∀ h', Wr h h' a k (.int x) → Av Z h' a .int (vs.set k (.int x)) → Go p l e R s m args below meth c n0 Q K N h' ce sl (mkF m pc' Ls st)) : Go p l e R s m args below meth c n0 Q K N h ce sl (mkF m pc Ls (.int x :: .int j :: .ref a :: st)) := by
  subst hp
  obtain ⟨cl, A1, e1, e2, e3⟩ := A.at hj hk
  intro T locs X eT Nn
  obtain ⟨T', h', X', e', W', stp⟩ := stI X C.1 C.2.2.2.1 eT A1 e2 (g := mkF m pc Ls (.int x :: .int j :: .ref a :: st)) rfl rfl (hb C.2.1 hd)
  have W2 : Wr h h' a k (.int x) := by rw [clamp_of hj] at W'; exact W'
  obtain ⟨s₂, o, h1, r⟩ := hr h' W2 (A.set W2) T' _ X' e' (Fr.snoc X' Nn ha)
  exact ⟨s₂, o, stp _ h1, r⟩
theorem go_lastore (C : Cx p s m meth c Z own bs mx rt nm) {vs : List Value} {a : Addr} {j : Int32} {x : Int64} (A : Av Z h a .long vs) (k : Nat) (hj : j.toInt = k) (hk : k < vs.length) (ha : n0 ≤ a) (hd : decode bs pc = .ok (.lastore, 1)) (hp : pc + 1 = pc') (hr : ∀ h', Wr h h' a k (.long x) → Av Z h' a .long (vs.set k (.long x)) → Go p l e R s m args below meth c n0 Q K N h' ce sl (mkF m pc' Ls st)) : Go p l e R s m args below meth c n0 Q K N h ce sl (mkF m pc Ls (.long x :: .int j :: .ref a :: st)) := by
  subst hp
  obtain ⟨cl, A1, e1, e2, e3⟩ := A.at hj hk
  intro T locs X eT Nn
  obtain ⟨T', h', X', e', W', stp⟩ := stJ X C.1 C.2.2.2.1 eT A1 e2 (g := mkF m pc Ls (.long x :: .int j :: .ref a :: st)) rfl rfl (hb C.2.1 hd)
  have W2 : Wr h h' a k (.long x) := by rw [clamp_of hj] at W'; exact W'
  obtain ⟨s₂, o, h1, r⟩ := hr h' W2 (A.set W2) T' _ X' e' (Fr.snoc X' Nn ha)
  exact ⟨s₂, o, stp _ h1, r⟩
theorem go_bastore (C : Cx p s m meth c Z own bs mx rt nm) {vs : List Value} {a : Addr} {j : Int32} {x : Int32} (A : Av Z h a .byte vs) (k : Nat) (hj : j.toInt = k) (hk : k < vs.length) (x' : Int32) (hx : x.toInt8.toInt32 = x') (ha : n0 ≤ a) (hd : decode bs pc = .ok (.bastore, 1)) (hp : pc + 1 = pc') (hr : ∀ h', Wr h h' a k (.int x') → Av Z h' a .byte (vs.set k (.int x')) → Go p l e R s m args below meth c n0 Q K N h' ce sl (mkF m pc' Ls st)) : Go p l e R s m args below meth c n0 Q K N h ce sl (mkF m pc Ls (.int x :: .int j :: .ref a :: st)) := by
  subst hp hx
  obtain ⟨cl, A1, e1, e2, e3⟩ := A.at hj hk
  intro T locs X eT Nn
  obtain ⟨T', h', X', e', W', stp⟩ := stB X C.1 C.2.2.2.1 eT A1 e2 (g := mkF m pc Ls (.int x :: .int j :: .ref a :: st)) rfl rfl (hb C.2.1 hd)
  have W2 : Wr h h' a k (.int x.toInt8.toInt32) := by rw [clamp_of hj] at W'; exact W'
  obtain ⟨s₂, o, h1, r⟩ := hr h' W2 (A.set W2) T' _ X' e' (Fr.snoc X' Nn ha)
  exact ⟨s₂, o, stp _ h1, r⟩
theorem go_newarray (C : Cx p s m meth c Z own bs mx rt nm) {aty : ArrayType} {ty : FieldType} {n : Int32} {ce' sl' : Nat} (w : (Jvm.Cond.arrayClass ty).before a0 Z = true) (hty : newarray.typeOf aty = ty) (k cap : Nat) (hn : n.toInt = k) (hcap : k ≤ cap) (hc8 : cap * 8 ≤ 536870912) (hce : ce + 1 = ce') (hsl : sl + cap = sl') (hc : ce' ≤ R.cells) (hl : sl' ≤ R.slots) (hd : decode bs pc = .ok (.newarray aty, 2)) (hp : pc + 2 = pc')
    (hr : ∀ (h' : Heap) (a : Addr), h.size = a → Ext h h' → Av Z h' a ty (List.replicate k (defaultValue ty)) → Go p l e R s m args below meth c n0 Q K N h' ce' sl' (mkF m pc' Ls (.ref a :: st))) : Go p l e R s m args below meth c n0 Q K N h ce sl (mkF m pc Ls (.int n :: st)) := by
  subst hp hty hce hsl
  intro T locs X eT Nn
  obtain ⟨T', h', cA, X', e', E', A', stp⟩ := newP X C.1 C.2.2.2.1 w eT (g := mkF m pc Ls (.int n :: st)) rfl (hb C.2.1 hd) rfl (nonneg_of hn) (cap := cap) (by rw [clamp_of hn]; exact hcap) hc8 hc hl
  have hb31 : k < 2147483648 := by have := n.toInt_lt; omega
  obtain ⟨s₂, o, h1, r⟩ := hr h' _ rfl E' ⟨_, A', by simp [newA, clamp_of hn], by simpa using hb31⟩ T' _ X' e' Nn
  exact ⟨s₂, o, stp _ h1, r⟩
theorem go_newarrayE (C : Cx p s m meth c Z own bs mx rt nm) {aty : ArrayType} {ty : FieldType} {n : Int32} {ce' sl' : Nat} {ad : String} (w : (Jvm.Cond.arrayClass ty).before a0 Z = true) (hty : newarray.typeOf aty = ty) (had : "[" ++ ty.toString = ad) (k cap : Nat) (hn : n.toInt = k) (hcap : k ≤ cap) (hc8 : cap * 8 ≤ 536870912) (hce : ce + 1 = ce') (hsl : sl + cap = sl') (hc : ce' ≤ R.cells) (hl : sl' ≤ R.slots) (hd : decode bs pc = .ok (.newarray aty, 2)) (hp : pc + 2 = pc')
    (hr : ∀ (h' : Heap) (a : Addr), h.size = a → Ext h h' → Exa Z h' a ad → Av Z h' a ty (List.replicate k (defaultValue ty)) → Go p l e R s m args below meth c n0 Q K N h' ce' sl' (mkF m pc' Ls (.ref a :: st))) : Go p l e R s m args below meth c n0 Q K N h ce sl (mkF m pc Ls (.int n :: st)) := by
  subst hp hty hce hsl
  intro T locs X eT Nn
  obtain ⟨T', h', cA, X', e', E', A', Q', stp⟩ := newPE X C.1 C.2.2.2.1 w eT (g := mkF m pc Ls (.int n :: st)) rfl (hb C.2.1 hd) rfl (nonneg_of hn) (cap := cap) (by rw [clamp_of hn]; exact hcap) hc8 hc hl had
  have hb31 : k < 2147483648 := by have := n.toInt_lt; omega
  obtain ⟨s₂, o, h1, r⟩ := hr h' _ rfl E' Q' ⟨_, A', by simp [newA, clamp_of hn], by simpa using hb31⟩ T' _ X' e' Nn
  exact ⟨s₂, o, stp _ h1, r⟩
theorem go_clone (C : Cx p s m meth c Z own bs mx rt nm) {i : Nat} {ad : String} {ty : FieldType} {vs : List Value} {a : Addr} {W cap ce' sl' : Nat} (w1 : (Jvm.Cond.methodLink own i ⟨ad, "clone", "()Ljava/lang/Object;"⟩).before a0 Z = true) (w2 : (Jvm.Cond.sameMethod ad "java/lang/Object" "clone" "()Ljava/lang/Object;").before a0 Z = true) (w3 : (Jvm.Cond.native ⟨"java/lang/Object", "clone", "()Ljava/lang/Object;"⟩).before a0 Z = true) (w4 : (Jvm.Cond.instanceMethod ⟨"java/lang/Object", "clone", "()Ljava/lang/Object;"⟩).before a0 Z = true) (w5 : (Jvm.Cond.selects ad ⟨ad, "clone", "()Ljava/lang/Object;"⟩ ⟨"java/lang/Object", "clone", "()Ljava/lang/Object;"⟩).before a0 Z = true) (w6 : (Jvm.Cond.castable ad "java/lang/Cloneable").before a0 Z = true) (A : Av Z h a ty vs) (E : Exa Z h a ad) (hfit : ∀ v ∈ vs, fits ty v = true) (hls : Ls.size = mx) (hf : 1 ≤ R.frames) (hW : wt st = W) (hlo : W + 14 ≤ R.locals) (hcap : vs.length ≤ cap) (hce : ce + 1 = ce') (hsl : sl + cap = sl') (hc : ce' ≤ R.cells) (hl : sl' ≤ R.slots) (hd : decode bs pc = .ok (.invokevirtual i, 3)) (hp : pc + 3 = pc')
    (hr : ∀ (h' : Heap) (b : Addr), h.size = b → Ext h h' → Exa Z h' b ad → Av Z h' b ty vs → Go p l e R s m args below meth c n0 Q K N h' ce' sl' (mkF m pc' Ls (.ref b :: st))) : Go p l e R s m args below meth c n0 Q K N h ce sl (mkF m pc Ls (.ref a :: st)) := by
  subst hp hce hsl
  intro T locs X eT Nn
  obtain ⟨cl, A1, e1, e2⟩ := A
  have hsz : cl.slots.size = vs.length := by rw [← e1]; simp
  have FC : FitC Z cl := fitC_of A1 fun i hi v hv => hfit v (by rw [← e1]; exact Array.mem_toList_iff.mpr (Array.mem_of_getElem? hv))
  obtain ⟨T', h', X', e', E', A', Q', stp⟩ := cloneA X C.1 C.2.2.2.1 C.2.2.2.2.1 w1 w2 w3 w4 w5 w6 eT A1 E FC (g := mkF m pc Ls (.ref a :: st)) rfl (hls.trans C.2.2.1.symm) rfl (hb C.2.1 hd) hf (W := W) (cap := cap) (by show 2 * 0 + wt st ≤ W; omega) hlo (by rw [hsz]; exact hcap) hc hl
  obtain ⟨s₂, o, h1, r⟩ := hr h' _ rfl E' Q' ⟨_, A', e1, e2⟩ T' _ X' e' Nn
  exact ⟨s₂, o, stp _ h1, r⟩
theorem go_checkcast (C : Cx p s m meth c Z own bs mx rt nm) {i : Nat} {K0 : String} {a : Addr} (w : (Jvm.Cond.classLink own i K0).before a0 Z = true) (E : Exa Z h a K0) (hd : decode bs pc = .ok (.checkcast i, 3)) (hp : pc + 3 = pc') (hr : Go p l e R s m args below meth c n0 Q K N h ce sl (mkF m pc' Ls (.ref a :: st))) : Go p l e R s m args below meth c n0 Q K N h ce sl (mkF m pc Ls (.ref a :: st)) := by
  subst hp
  intro T locs X eT Nn
  obtain ⟨T', X', e', stp⟩ := castY X C.1 C.2.2.2.1 C.2.2.2.2.1 w eT (Ins.self E) (g := mkF m pc Ls (.ref a :: st)) rfl rfl (hb C.2.1 hd)
  obtain ⟨s₂, o, h1, r⟩ := hr T' locs X' e' Nn
  exact ⟨s₂, o, stp _ h1, r⟩
theorem go_objinit (C : Cx p s m meth c Z own bs mx rt nm) {i : Nat} {a : Addr} {W : Nat} (w1 : (Jvm.Cond.methodLink own i Lib.objectInit).before a0 Z = true) (w2 : (Jvm.Cond.instanceMethod Lib.objectInit).before a0 Z = true) (w3 : (Jvm.Cond.code Lib.objectInit ⟨#[0xb1]⟩ 1 none).before a0 Z = true) (hls : Ls.size = mx) (hf : 1 ≤ R.frames) (hW : wt st = W) (hl : W + 12 ≤ R.locals) (hd : decode bs pc = .ok (.invokespecial i, 3)) (hp : pc + 3 = pc') (hr : Go p l e R s m args below meth c n0 Q K N h ce sl (mkF m pc' Ls st)) : Go p l e R s m args below meth c n0 Q K N h ce sl (mkF m pc Ls (.ref a :: st)) := by
  subst hp
  intro T locs X eT Nn
  obtain ⟨T', X', e', stp⟩ := initO X C.1 C.2.2.2.1 C.2.2.2.2.1 w1 w2 w3 eT (g := mkF m pc Ls (.ref a :: st)) rfl (hls.trans C.2.2.1.symm) rfl (hb C.2.1 hd) hf (W := W) (by show 2 * 0 + wt st ≤ W; omega) hl
  obtain ⟨s₂, o, h1, r⟩ := hr T' locs X' e' Nn
  exact ⟨s₂, o, stp _ h1, r⟩
theorem back_of_sat {y : MethodName} {cb : ByteArray} {cm : Nat} {cr : Option FieldType} {rm : Room} {as : List Value} {Qc : Option Value → Heap → Prop} {W len : Nat} (S : Sat l Z y cb cm cr rm as h n0 Qc) (hZ : Z.Warmed39 s.vm) (w3 : (Jvm.Cond.initialized y.cls).before a0 Z = true) (w4 : (Jvm.Cond.code y cb cm cr).before a0 Z = true) (hfr : rm.frames + 1 ≤ R.frames) (hlo : W + (cm + 11) + rm.locals ≤ R.locals) :
    Back l R p e below s args y len W (fun A a => a = as.toArray ∧ A.U.heap = h ∧ A.cells + rm.cells ≤ R.cells ∧ A.slots + rm.slots ≤ R.slots) (fun A _ v B => ∃ L, (Qc v B.U.heap ∧ Fr n0 L) ∧ B.locs = A.locs ++ L ∧ B.cells = A.cells + rm.cells ∧ B.slots = A.slots + rm.slots) :=
  backOf (Q := fun v h L => Qc v h ∧ Fr n0 L) (W := W) (S []) hZ w4 w3 hfr hlo
theorem go_static (C : Cx p s m meth c Z own bs mx rt nm) {y : MethodName} {i : Nat} {cb : ByteArray} {cm : Nat} {cr : Option FieldType} {rm : Room} {as rest : List Value} {W : Nat} {ps : List FieldType} {pr : Option FieldType} {ce' sl' : Nat} {Qc : Option Value → Heap → Prop} (S : Sat l Z y cb cm cr rm as h n0 Qc) (w1 : (Jvm.Cond.methodLink own i y).before a0 Z = true) (w2 : (Jvm.Cond.static y).before a0 Z = true) (w3 : (Jvm.Cond.initialized y.cls).before a0 Z = true) (w4 : (Jvm.Cond.code y cb cm cr).before a0 Z = true) (hy : y.cls ≠ "java/lang/invoke/MethodHandle" ∧ y.cls ≠ "java/lang/invoke/VarHandle") (hpd : parseMethodDescriptor y.desc = some ⟨ps, pr⟩) (hlen : as.length = ps.length) (hls : Ls.size = mx) (hW : wt rest = W) (hfr : rm.frames + 1 ≤ R.frames) (hlo : W + (cm + 11) + rm.locals ≤ R.locals) (hce : ce + rm.cells = ce') (hsl : sl + rm.slots = sl') (hcc : ce' ≤ R.cells) (hss : sl' ≤ R.slots) (hd : decode bs pc = .ok (.invokestatic i, 3)) (hp : pc + 3 = pc') (hst : st = as.reverse ++ rest) (hr : ∀ v h', Qc v h' → Go p l e R s m args below meth c n0 Q K N h' ce' sl' (mkF m pc' Ls (v.toList ++ rest))) : Go p l e R s m args below meth c n0 Q K N h ce sl (mkF m pc Ls st) := by
  subst hp hce hsl
  intro T locs X eT Nn
  have hZ := C.2.2.2.1
  obtain ⟨v, _, ⟨T', L', k', n'⟩, -, X', ⟨Lc, hQ, l', y', z'⟩, stp⟩ := Jvm.LawKit.callS X C.1 (y := y) C.2.2.2.2.1 (mvT hZ w1) (mvT hZ w2) (mvT hZ w3) (mvT hZ w4) hy (back_of_sat S hZ w3 w4 hfr hlo) (g := mkF m pc Ls st) rfl (hls.trans C.2.2.1.symm) (argsL := as) (rest := rest) (lenOf hpd hlen) hst (by show 2 * 0 + wt rest ≤ W; omega) (hb C.2.1 hd) (fun _ _ => ⟨rfl, eT, hcc, hss⟩)
  dsimp only [Pt.U, Pt.locs, Pt.cells, Pt.slots] at X' l' y' z' stp hQ
  subst l' y' z'
  obtain ⟨s₂, o, h1, r⟩ := hr v T'.heap hQ.1 T' _ X' rfl (Fr.app Nn hQ.2)
  exact ⟨s₂, o, stp _ h1, r⟩
theorem go_special (C : Cx p s m meth c Z own bs mx rt nm) {y : MethodName} {i : Nat} {cb : ByteArray} {cm : Nat} {rm : Room} {as rest : List Value} {W : Nat} {ps : List FieldType} {pr : Option FieldType} {ce' sl' : Nat} {a : Addr} {Qc : Option Value → Heap → Prop} (S : Sat l Z y cb cm none rm (.ref a :: as) h n0 Qc) (hyn : y.name = "<init>") (w1 : (Jvm.Cond.methodLink own i y).before a0 Z = true) (w2 : (Jvm.Cond.instanceMethod y).before a0 Z = true) (w3 : (Jvm.Cond.initialized y.cls).before a0 Z = true) (w4 : (Jvm.Cond.code y cb cm none).before a0 Z = true) (hy : y.cls ≠ "java/lang/invoke/MethodHandle" ∧ y.cls ≠ "java/lang/invoke/VarHandle") (hpd : parseMethodDescriptor y.desc = some ⟨ps, pr⟩) (hlen : as.length = ps.length) (hls : Ls.size = mx) (hW : wt rest = W) (hfr : rm.frames + 1 ≤ R.frames) (hlo : W + (cm + 11) + rm.locals ≤ R.locals) (hce : ce + rm.cells = ce') (hsl : sl + rm.slots = sl') (hcc : ce' ≤ R.cells) (hss : sl' ≤ R.slots) (hd : decode bs pc = .ok (.invokespecial i, 3)) (hp : pc + 3 = pc') (hst : st = as.reverse ++ .ref a :: rest) (hr : ∀ v h', Qc v h' → Go p l e R s m args below meth c n0 Q K N h' ce' sl' (mkF m pc' Ls (v.toList ++ rest))) : Go p l e R s m args below meth c n0 Q K N h ce sl (mkF m pc Ls st) := by
  subst hp hce hsl
  intro T locs X eT Nn
  have hZ := C.2.2.2.1
  obtain ⟨v, _, ⟨T', L', k', n'⟩, -, X', ⟨Lc, hQ, l', y', z'⟩, stp⟩ := X.specialBack C.1 (y := y) hyn C.2.2.2.2.1 (mvT hZ w1) (mvT hZ w2) (mvT hZ w4) hy (back_of_sat S hZ w3 w4 hfr hlo) (g := mkF m pc Ls st) rfl (hls.trans C.2.2.1.symm) (Steps.refl _) (a := a) (argsL := as) (rest := rest) (lenOf hpd hlen) hst (by show 2 * 0 + wt rest ≤ W; omega) (hb C.2.1 hd) (fun _ _ => ⟨rfl, eT, hcc, hss⟩)
  dsimp only [Pt.U, Pt.locs, Pt.cells, Pt.slots] at X' l' y' z' stp hQ
  subst l' y' z'
  obtain ⟨s₂, o, h1, r⟩ := hr v T'.heap hQ.1 T' _ X' rfl (Fr.app Nn hQ.2)
  exact ⟨s₂, o, stp.trans h1, r⟩
theorem go_virtual (C : Cx p s m meth c Z own bs mx rt nm) {y : MethodName} {i : Nat} {cb : ByteArray} {cm : Nat} {cr : Option FieldType} {rm : Room} {as rest : List Value} {W : Nat} {ps : List FieldType} {pr : Option FieldType} {ce' sl' : Nat} {a : Addr} {C0 : String} {Qc : Option Value → Heap → Prop} (S : Sat l Z y cb cm cr rm (.ref a :: as) h n0 Qc) (E : Exa Z h a C0) (w1 : (Jvm.Cond.methodLink own i y).before a0 Z = true) (w5 : (Jvm.Cond.declares y).before a0 Z = true) (w6 : (Jvm.Cond.selects C0 y y).before a0 Z = true) (w2 : (Jvm.Cond.instanceMethod y).before a0 Z = true) (w3 : (Jvm.Cond.initialized y.cls).before a0 Z = true) (w4 : (Jvm.Cond.code y cb cm cr).before a0 Z = true) (hy : y.cls ≠ "java/lang/invoke/MethodHandle" ∧ y.cls ≠ "java/lang/invoke/VarHandle") (hpd : parseMethodDescriptor y.desc = some ⟨ps, pr⟩) (hlen : as.length = ps.length) (hls : Ls.size = mx) (hW : wt rest = W) (hfr : rm.frames + 1 ≤ R.frames) (hlo : W + (cm + 11) + rm.locals ≤ R.locals) (hce : ce + rm.cells = ce') (hsl : sl + rm.slots = sl') (hcc : ce' ≤ R.cells) (hss : sl' ≤ R.slots) (hd : decode bs pc = .ok (.invokevirtual i, 3)) (hp : pc + 3 = pc') (hst : st = as.reverse ++ .ref a :: rest) (hr : ∀ v h', Qc v h' → Go p l e R s m args below meth c n0 Q K N h' ce' sl' (mkF m pc' Ls (v.toList ++ rest))) : Go p l e R s m args below meth c n0 Q K N h ce sl (mkF m pc Ls st) := by
  subst hp hce hsl
  intro T locs X eT Nn
  have hZ := C.2.2.2.1
  obtain ⟨cq, kq, qa, qb, qc⟩ := isOf hZ eT E
  obtain ⟨v, _, ⟨T', L', k', n'⟩, -, X', ⟨Lc, hQ, l', y', z'⟩, stp⟩ := X.virtualBack C.1 (y := y) (z := y) C.2.2.2.2.1 (mvT hZ w1) (mvT hZ w5) (notFace_of_selects (args := #[]) (mvT hZ w6)) (mvT hZ w6) (mvT hZ w2) hy (back_of_sat S hZ w3 w4 hfr hlo) qa qc (g := mkF m pc Ls st) rfl (hls.trans C.2.2.1.symm) (Steps.refl _) (argsL := as) (rest := rest) (lenOf hpd hlen) hst (by show 2 * 0 + wt rest ≤ W; omega) (hb C.2.1 hd) (fun _ _ => ⟨rfl, eT, hcc, hss⟩)
  dsimp only [Pt.U, Pt.locs, Pt.cells, Pt.slots] at X' l' y' z' stp hQ
  subst l' y' z'
  obtain ⟨s₂, o, h1, r⟩ := hr v T'.heap hQ.1 T' _ X' rfl (Fr.app Nn hQ.2)
  exact ⟨s₂, o, stp.trans h1, r⟩
theorem go_private (C : Cx p s m meth c Z own bs mx rt nm) {y : MethodName} {i : Nat} {cb : ByteArray} {cm : Nat} {cr : Option FieldType} {rm : Room} {as rest : List Value} {W : Nat} {ps : List FieldType} {pr : Option FieldType} {ce' sl' : Nat} {a : Addr} {C0 : String} {Qc : Option Value → Heap → Prop} (S : Sat l Z y cb cm cr rm (.ref a :: as) h n0 Qc) (E : Exa Z h a C0) (w1 : (Jvm.Cond.methodLink own i y).before a0 Z = true) (w5 : (Jvm.Cond.privateMethod y).before a0 Z = true) (w6 : (Jvm.Cond.selects y.cls y y).before a0 Z = true) (w2 : (Jvm.Cond.instanceMethod y).before a0 Z = true) (w3 : (Jvm.Cond.initialized y.cls).before a0 Z = true) (w4 : (Jvm.Cond.code y cb cm cr).before a0 Z = true) (hy : y.cls ≠ "java/lang/invoke/MethodHandle" ∧ y.cls ≠ "java/lang/invoke/VarHandle") (hpd : parseMethodDescriptor y.desc = some ⟨ps, pr⟩) (hlen : as.length = ps.length) (hls : Ls.size = mx) (hW : wt rest = W) (hfr : rm.frames + 1 ≤ R.frames) (hlo : W + (cm + 11) + rm.locals ≤ R.locals) (hce : ce + rm.cells = ce') (hsl : sl + rm.slots = sl') (hcc : ce' ≤ R.cells) (hss : sl' ≤ R.slots) (hd : decode bs pc = .ok (.invokevirtual i, 3)) (hp : pc + 3 = pc') (hst : st = as.reverse ++ .ref a :: rest) (hr : ∀ v h', Qc v h' → Go p l e R s m args below meth c n0 Q K N h' ce' sl' (mkF m pc' Ls (v.toList ++ rest))) : Go p l e R s m args below meth c n0 Q K N h ce sl (mkF m pc Ls st) := by
  subst hp hce hsl
  intro T locs X eT Nn
  have hZ := C.2.2.2.1
  obtain ⟨cell, hc1, hc2⟩ := E.cell
  obtain ⟨v, _, ⟨T', L', k', n'⟩, -, X', ⟨Lc, hQ, l', y', z'⟩, stp⟩ := X.privateBack C.1 (y := y) C.2.2.2.2.1 (mvT hZ w1) (mvT hZ w2) (mvT hZ w6) (Cond.privateMethod_at (args := #[]) (mvP hZ w5)) (mvT hZ w4) hy (back_of_sat S hZ w3 w4 hfr hlo) (g := mkF m pc Ls st) rfl (hls.trans C.2.2.1.symm) (Steps.refl _) (a := a) (by rw [eT]; exact hc1) hc2 (argsL := as) (rest := rest) (lenOf hpd hlen) hst (by show 2 * 0 + wt rest ≤ W; omega) (hb C.2.1 hd) (fun _ _ => ⟨rfl, eT, hcc, hss⟩)
  dsimp only [Pt.U, Pt.locs, Pt.cells, Pt.slots] at X' l' y' z' stp hQ
  subst l' y' z'
  obtain ⟨s₂, o, h1, r⟩ := hr v T'.heap hQ.1 T' _ X' rfl (Fr.app Nn hQ.2)
  exact ⟨s₂, o, stp.trans h1, r⟩
theorem own_selects_private {y : MethodName} {k : Nat} (wi : (Jvm.Cond.instantiable y.cls k).before a0 Z = true) (wp : (Jvm.Cond.privateMethod y).before a0 Z = true) (wm : (Jvm.Cond.instanceMethod y).before a0 Z = true) (hy : y.cls ≠ "java/lang/invoke/MethodHandle" ∧ y.cls ≠ "java/lang/invoke/VarHandle") : (Jvm.Cond.selects y.cls y y).before a0 Z = true := by
  obtain ⟨mk, methM, hnamed, hmethM, hstM, habM⟩ := Cond.instanceMethod_spec wm
  obtain ⟨c1, k1, q1, q2, q3, q4, -⟩ := Cond.instantiable_spec wi
  have hc := findClass_of_methodNamed hnamed
  cases q1.symm.trans hc
  have hf := State.methodFound?_of_named hnamed hy
  have hs : selectMethod {} Z.vm mk.cls mk = .method mk := selectMethod_private hmethM (Cond.privateMethod_at wp mk methM hnamed hmethM)
  have hi : k1.isInterface = false := by
    cases h : k1.isInterface
    · rfl
    · rw [h] at q4; simp at q4
  simp [Cond.before, Cond.holds, Cond.value, hc, hf, hnamed, hs, q2, hi]
theorem go_specialW (C : Cx p s m meth c Z own bs mx rt nm) {y : MethodName} {i : Nat} {cb : ByteArray} {cm : Nat} {rm : Room} {as rest : List Value} {W : Nat} {ps : List FieldType} {pr : Option FieldType} {ce' sl' : Nat} {a : Addr} {Qc : Option Value → Heap → Prop} (S : Sat l Z y cb cm none rm (.ref a :: as) h n0 Qc) (hyn : y.name = "<init>") (w1 : (Jvm.Cond.methodRef own i y).before a0 Z = true) (w2 : (Jvm.Cond.instanceMethod y).before a0 Z = true) (w3 : (Jvm.Cond.initialized y.cls).before a0 Z = true) (w4 : (Jvm.Cond.code y cb cm none).before a0 Z = true) (hy : y.cls ≠ "java/lang/invoke/MethodHandle" ∧ y.cls ≠ "java/lang/invoke/VarHandle") (hpd : parseMethodDescriptor y.desc = some ⟨ps, pr⟩) (hlen : as.length = ps.length) (hls : Ls.size = mx) (hW : wt rest = W) (hfr : rm.frames + 1 ≤ R.frames) (hlo : W + (cm + 11) + rm.locals ≤ R.locals) (hce : ce + rm.cells = ce') (hsl : sl + rm.slots = sl') (hcc : ce' ≤ R.cells) (hss : sl' ≤ R.slots) (hd : decode bs pc = .ok (.invokespecial i, 3)) (hp : pc + 3 = pc') (hst : st = as.reverse ++ .ref a :: rest) (hr : ∀ v h', Qc v h' → Go p l e R s m args below meth c n0 Q K N h' ce' sl' (mkF m pc' Ls (v.toList ++ rest))) : Go p l e R s m args below meth c n0 Q K N h ce sl (mkF m pc Ls st) := by
  subst hp hce hsl
  intro T locs X eT Nn
  have hZ := C.2.2.2.1
  have hT : Z.Warmed39 T.vm := wtrans hZ X.warmed
  obtain ⟨mZ, _, hnZ, -⟩ := Cond.instanceMethod_spec w2
  have w1T : (Jvm.Cond.methodRef own i y).before a0 T = true := (Cond.methodRef_warmed39 hT hnZ hy w1 :)
  obtain ⟨mO, methO, hnO, hmO, hstO, habO⟩ := Cond.instanceMethod_spec (mv (args := a0) hT w2)
  obtain ⟨methO', cO, hmO', hcO, hbO, hlO, -, hlockO, -, hsigO⟩ := Cond.code_spec hnO (mv (args := a0) hT w4)
  cases hmO.symm.trans hmO'
  obtain ⟨kO, hkO, hnameO⟩ := className_of_methodNamed hnO
  obtain ⟨hnameMO, hdescO⟩ := name_of_methodNamed hnO hmO
  have hownT : T.vm.findClass own = some m.cls := by rw [X.warmed.alike.findClass]; exact C.2.2.2.2.1
  obtain ⟨m', c', hf', hready, hfc, hnr⟩ := Cond.methodRef_named e hownT w1T
  have e1 : m' = mO := Option.some.inj (hf'.symm.trans (State.methodFound?_of_named hnO hy))
  subst e1
  have e2 : c' = m'.cls := Option.some.inj (hfc.symm.trans (findClass_of_methodNamed hnO))
  subst e2
  have hfound : lookupSpecial T.vm m'.cls "<init>" methO.desc = .method m' := by rw [hdescO, ← hyn]; exact lookupSpecial_of_named hnO hmO hstO
  have hstep : ∀ target, (∀ acts, Steps p.tables e below (doInvoke e (T.setTop { mkF m pc Ls st with stack := rest }) acts m' (.ref a :: as).toArray).1 target) → Steps p.tables e below (T.setTop (mkF m pc Ls st)) target := fun target hrest => by
    jvm_step X.here [C.1, (hb C.2.1 hd), invokespecial.wp_init (e := e) (s := T) (k := kO) (meth := methO) (m := m') (a := a) (args := as) (rest := rest) (f := mkF m pc Ls st) X.here.top hnr hready hkO hmO (by rw [hnameMO]; exact hyn) hstO habO hfound (lenOf hpd hlen _ hsigO) hst]
    exact hrest
  have B := back_of_sat (p := p) (e := e) (below := below) (args := args) (R := R) (len := 3) S hZ w3 w4 hfr hlo
  obtain ⟨v, ⟨T', L', k', n'⟩, X', ⟨Lc, hQ, l', y', z'⟩, stp⟩ := B m meth c ⟨T, locs, ce, sl⟩ { mkF m pc Ls st with stack := rest } (.invokespecial i) m' (.ref a :: as).toArray X rfl (hls.trans C.2.2.1.symm) (hb C.2.1 hd) (by show 2 * 0 + wt rest ≤ W; omega) hnO ⟨rfl, eT, hcc, hss⟩
  dsimp only [Pt.U, Pt.locs, Pt.cells, Pt.slots] at X' l' y' z' stp hQ
  subst l' y' z'
  obtain ⟨s₂, o, h1, r⟩ := hr v T'.heap hQ.1 T' _ X' rfl (Fr.app Nn hQ.2)
  exact ⟨s₂, o, (hstep _ (fun acts => by rw [doInvoke_state]; exact Steps.refl _)).trans (stp.trans h1), r⟩
theorem go_staticP (C : Cx p s m meth c Z own bs mx rt nm) {y : MethodName} {i : Nat} {cb : ByteArray} {cm : Nat} {cr : Option FieldType} {rm : Room} {as rest : List Value} {W : Nat} {ps : List FieldType} {pr : Option FieldType}  (v : Value) (S : Sat l Z y cb cm cr rm as h n0 (RV fun r h' => r = v ∧ h' = h)) (w1 : (Jvm.Cond.methodLink own i y).before a0 Z = true) (w2 : (Jvm.Cond.static y).before a0 Z = true) (w3 : (Jvm.Cond.initialized y.cls).before a0 Z = true) (w4 : (Jvm.Cond.code y cb cm cr).before a0 Z = true) (hy : y.cls ≠ "java/lang/invoke/MethodHandle" ∧ y.cls ≠ "java/lang/invoke/VarHandle") (hpd : parseMethodDescriptor y.desc = some ⟨ps, pr⟩) (hlen : as.length = ps.length) (hls : Ls.size = mx) (hW : wt rest = W) (hfr : rm.frames + 1 ≤ R.frames) (hlo : W + (cm + 11) + rm.locals ≤ R.locals) (hce : rm.cells = 0) (hsl : rm.slots = 0) (hcc : ce ≤ R.cells) (hss : sl ≤ R.slots) (hd : decode bs pc = .ok (.invokestatic i, 3)) (hp : pc + 3 = pc') (hst : st = as.reverse ++ rest) (hr : Go p l e R s m args below meth c n0 Q K N h ce sl (mkF m pc' Ls (v :: rest))) : Go p l e R s m args below meth c n0 Q K N h ce sl (mkF m pc Ls st) :=
  go_static C S w1 w2 w3 w4 hy hpd hlen hls hW hfr hlo (by rw [hce]; rfl) (by rw [hsl]; rfl) hcc hss hd hp hst (fun w h' hq => by obtain ⟨r, rfl, q1, q2⟩ := hq; rw [q1, q2]; exact hr)
theorem go_staticV (C : Cx p s m meth c Z own bs mx rt nm) {y : MethodName} {i : Nat} {cb : ByteArray} {cm : Nat} {cr : Option FieldType} {rm : Room} {as rest : List Value} {W : Nat} {ps : List FieldType} {pr : Option FieldType} {ce' sl' : Nat}  {P : Value → Heap → Prop} (S : Sat l Z y cb cm cr rm as h n0 (RV P)) (w1 : (Jvm.Cond.methodLink own i y).before a0 Z = true) (w2 : (Jvm.Cond.static y).before a0 Z = true) (w3 : (Jvm.Cond.initialized y.cls).before a0 Z = true) (w4 : (Jvm.Cond.code y cb cm cr).before a0 Z = true) (hy : y.cls ≠ "java/lang/invoke/MethodHandle" ∧ y.cls ≠ "java/lang/invoke/VarHandle") (hpd : parseMethodDescriptor y.desc = some ⟨ps, pr⟩) (hlen : as.length = ps.length) (hls : Ls.size = mx) (hW : wt rest = W) (hfr : rm.frames + 1 ≤ R.frames) (hlo : W + (cm + 11) + rm.locals ≤ R.locals) (hce : ce + rm.cells = ce') (hsl : sl + rm.slots = sl') (hcc : ce' ≤ R.cells) (hss : sl' ≤ R.slots) (hd : decode bs pc = .ok (.invokestatic i, 3)) (hp : pc + 3 = pc') (hst : st = as.reverse ++ rest) (hr : ∀ r h', P r h' → Go p l e R s m args below meth c n0 Q K N h' ce' sl' (mkF m pc' Ls (r :: rest))) : Go p l e R s m args below meth c n0 Q K N h ce sl (mkF m pc Ls st) :=
  go_static C S w1 w2 w3 w4 hy hpd hlen hls hW hfr hlo hce hsl hcc hss hd hp hst (fun v h' hq => by obtain ⟨r, rfl, q⟩ := hq; exact hr r h' q)
theorem go_staticN (C : Cx p s m meth c Z own bs mx rt nm) {y : MethodName} {i : Nat} {cb : ByteArray} {cm : Nat} {cr : Option FieldType} {rm : Room} {as rest : List Value} {W : Nat} {ps : List FieldType} {pr : Option FieldType} {ce' sl' : Nat}  {P : Heap → Prop} (S : Sat l Z y cb cm cr rm as h n0 (RN P)) (w1 : (Jvm.Cond.methodLink own i y).before a0 Z = true) (w2 : (Jvm.Cond.static y).before a0 Z = true) (w3 : (Jvm.Cond.initialized y.cls).before a0 Z = true) (w4 : (Jvm.Cond.code y cb cm cr).before a0 Z = true) (hy : y.cls ≠ "java/lang/invoke/MethodHandle" ∧ y.cls ≠ "java/lang/invoke/VarHandle") (hpd : parseMethodDescriptor y.desc = some ⟨ps, pr⟩) (hlen : as.length = ps.length) (hls : Ls.size = mx) (hW : wt rest = W) (hfr : rm.frames + 1 ≤ R.frames) (hlo : W + (cm + 11) + rm.locals ≤ R.locals) (hce : ce + rm.cells = ce') (hsl : sl + rm.slots = sl') (hcc : ce' ≤ R.cells) (hss : sl' ≤ R.slots) (hd : decode bs pc = .ok (.invokestatic i, 3)) (hp : pc + 3 = pc') (hst : st = as.reverse ++ rest) (hr : ∀ h', P h' → Go p l e R s m args below meth c n0 Q K N h' ce' sl' (mkF m pc' Ls rest)) : Go p l e R s m args below meth c n0 Q K N h ce sl (mkF m pc Ls st) :=
  go_static C S w1 w2 w3 w4 hy hpd hlen hls hW hfr hlo hce hsl hcc hss hd hp hst (fun v h' hq => by obtain ⟨rfl, q⟩ := hq; exact hr h' q)
theorem go_virtualP (C : Cx p s m meth c Z own bs mx rt nm) {y : MethodName} {i : Nat} {cb : ByteArray} {cm : Nat} {cr : Option FieldType} {rm : Room} {as rest : List Value} {W : Nat} {ps : List FieldType} {pr : Option FieldType} {a : Addr} {C0 : String} (v : Value) (S : Sat l Z y cb cm cr rm (.ref a :: as) h n0 (RV fun r h' => r = v ∧ h' = h)) (E : Exa Z h a C0) (w1 : (Jvm.Cond.methodLink own i y).before a0 Z = true) (w5 : (Jvm.Cond.declares y).before a0 Z = true) (w6 : (Jvm.Cond.selects C0 y y).before a0 Z = true) (w2 : (Jvm.Cond.instanceMethod y).before a0 Z = true) (w3 : (Jvm.Cond.initialized y.cls).before a0 Z = true) (w4 : (Jvm.Cond.code y cb cm cr).before a0 Z = true) (hy : y.cls ≠ "java/lang/invoke/MethodHandle" ∧ y.cls ≠ "java/lang/invoke/VarHandle") (hpd : parseMethodDescriptor y.desc = some ⟨ps, pr⟩) (hlen : as.length = ps.length) (hls : Ls.size = mx) (hW : wt rest = W) (hfr : rm.frames + 1 ≤ R.frames) (hlo : W + (cm + 11) + rm.locals ≤ R.locals) (hce : rm.cells = 0) (hsl : rm.slots = 0) (hcc : ce ≤ R.cells) (hss : sl ≤ R.slots) (hd : decode bs pc = .ok (.invokevirtual i, 3)) (hp : pc + 3 = pc') (hst : st = as.reverse ++ .ref a :: rest) (hr : Go p l e R s m args below meth c n0 Q K N h ce sl (mkF m pc' Ls (v :: rest))) : Go p l e R s m args below meth c n0 Q K N h ce sl (mkF m pc Ls st) :=
  go_virtual C S E w1 w5 w6 w2 w3 w4 hy hpd hlen hls hW hfr hlo (by rw [hce]; rfl) (by rw [hsl]; rfl) hcc hss hd hp hst (fun w h' hq => by obtain ⟨r, rfl, q1, q2⟩ := hq; rw [q1, q2]; exact hr)
theorem go_virtualV (C : Cx p s m meth c Z own bs mx rt nm) {y : MethodName} {i : Nat} {cb : ByteArray} {cm : Nat} {cr : Option FieldType} {rm : Room} {as rest : List Value} {W : Nat} {ps : List FieldType} {pr : Option FieldType} {ce' sl' : Nat} {a : Addr} {C0 : String} {P : Value → Heap → Prop} (S : Sat l Z y cb cm cr rm (.ref a :: as) h n0 (RV P)) (E : Exa Z h a C0) (w1 : (Jvm.Cond.methodLink own i y).before a0 Z = true) (w5 : (Jvm.Cond.declares y).before a0 Z = true) (w6 : (Jvm.Cond.selects C0 y y).before a0 Z = true) (w2 : (Jvm.Cond.instanceMethod y).before a0 Z = true) (w3 : (Jvm.Cond.initialized y.cls).before a0 Z = true) (w4 : (Jvm.Cond.code y cb cm cr).before a0 Z = true) (hy : y.cls ≠ "java/lang/invoke/MethodHandle" ∧ y.cls ≠ "java/lang/invoke/VarHandle") (hpd : parseMethodDescriptor y.desc = some ⟨ps, pr⟩) (hlen : as.length = ps.length) (hls : Ls.size = mx) (hW : wt rest = W) (hfr : rm.frames + 1 ≤ R.frames) (hlo : W + (cm + 11) + rm.locals ≤ R.locals) (hce : ce + rm.cells = ce') (hsl : sl + rm.slots = sl') (hcc : ce' ≤ R.cells) (hss : sl' ≤ R.slots) (hd : decode bs pc = .ok (.invokevirtual i, 3)) (hp : pc + 3 = pc') (hst : st = as.reverse ++ .ref a :: rest) (hr : ∀ r h', P r h' → Go p l e R s m args below meth c n0 Q K N h' ce' sl' (mkF m pc' Ls (r :: rest))) : Go p l e R s m args below meth c n0 Q K N h ce sl (mkF m pc Ls st) :=
  go_virtual C S E w1 w5 w6 w2 w3 w4 hy hpd hlen hls hW hfr hlo hce hsl hcc hss hd hp hst (fun v h' hq => by obtain ⟨r, rfl, q⟩ := hq; exact hr r h' q)
theorem go_virtualN (C : Cx p s m meth c Z own bs mx rt nm) {y : MethodName} {i : Nat} {cb : ByteArray} {cm : Nat} {cr : Option FieldType} {rm : Room} {as rest : List Value} {W : Nat} {ps : List FieldType} {pr : Option FieldType} {ce' sl' : Nat} {a : Addr} {C0 : String} {P : Heap → Prop} (S : Sat l Z y cb cm cr rm (.ref a :: as) h n0 (RN P)) (E : Exa Z h a C0) (w1 : (Jvm.Cond.methodLink own i y).before a0 Z = true) (w5 : (Jvm.Cond.declares y).before a0 Z = true) (w6 : (Jvm.Cond.selects C0 y y).before a0 Z = true) (w2 : (Jvm.Cond.instanceMethod y).before a0 Z = true) (w3 : (Jvm.Cond.initialized y.cls).before a0 Z = true) (w4 : (Jvm.Cond.code y cb cm cr).before a0 Z = true) (hy : y.cls ≠ "java/lang/invoke/MethodHandle" ∧ y.cls ≠ "java/lang/invoke/VarHandle") (hpd : parseMethodDescriptor y.desc = some ⟨ps, pr⟩) (hlen : as.length = ps.length) (hls : Ls.size = mx) (hW : wt rest = W) (hfr : rm.frames + 1 ≤ R.frames) (hlo : W + (cm + 11) + rm.locals ≤ R.locals) (hce : ce + rm.cells = ce') (hsl : sl + rm.slots = sl') (hcc : ce' ≤ R.cells) (hss : sl' ≤ R.slots) (hd : decode bs pc = .ok (.invokevirtual i, 3)) (hp : pc + 3 = pc') (hst : st = as.reverse ++ .ref a :: rest) (hr : ∀ h', P h' → Go p l e R s m args below meth c n0 Q K N h' ce' sl' (mkF m pc' Ls rest)) : Go p l e R s m args below meth c n0 Q K N h ce sl (mkF m pc Ls st) :=
  go_virtual C S E w1 w5 w6 w2 w3 w4 hy hpd hlen hls hW hfr hlo hce hsl hcc hss hd hp hst (fun v h' hq => by obtain ⟨rfl, q⟩ := hq; exact hr h' q)
theorem go_privateP (C : Cx p s m meth c Z own bs mx rt nm) {y : MethodName} {i : Nat} {cb : ByteArray} {cm : Nat} {cr : Option FieldType} {rm : Room} {as rest : List Value} {W : Nat} {ps : List FieldType} {pr : Option FieldType} {a : Addr} {C0 : String} (v : Value) (S : Sat l Z y cb cm cr rm (.ref a :: as) h n0 (RV fun r h' => r = v ∧ h' = h)) (E : Exa Z h a C0) (w1 : (Jvm.Cond.methodLink own i y).before a0 Z = true) (w5 : (Jvm.Cond.privateMethod y).before a0 Z = true) (w6 : (Jvm.Cond.selects y.cls y y).before a0 Z = true) (w2 : (Jvm.Cond.instanceMethod y).before a0 Z = true) (w3 : (Jvm.Cond.initialized y.cls).before a0 Z = true) (w4 : (Jvm.Cond.code y cb cm cr).before a0 Z = true) (hy : y.cls ≠ "java/lang/invoke/MethodHandle" ∧ y.cls ≠ "java/lang/invoke/VarHandle") (hpd : parseMethodDescriptor y.desc = some ⟨ps, pr⟩) (hlen : as.length = ps.length) (hls : Ls.size = mx) (hW : wt rest = W) (hfr : rm.frames + 1 ≤ R.frames) (hlo : W + (cm + 11) + rm.locals ≤ R.locals) (hce : rm.cells = 0) (hsl : rm.slots = 0) (hcc : ce ≤ R.cells) (hss : sl ≤ R.slots) (hd : decode bs pc = .ok (.invokevirtual i, 3)) (hp : pc + 3 = pc') (hst : st = as.reverse ++ .ref a :: rest) (hr : Go p l e R s m args below meth c n0 Q K N h ce sl (mkF m pc' Ls (v :: rest))) : Go p l e R s m args below meth c n0 Q K N h ce sl (mkF m pc Ls st) :=
  go_private C S E w1 w5 w6 w2 w3 w4 hy hpd hlen hls hW hfr hlo (by rw [hce]; rfl) (by rw [hsl]; rfl) hcc hss hd hp hst (fun w h' hq => by obtain ⟨r, rfl, q1, q2⟩ := hq; rw [q1, q2]; exact hr)
theorem go_privateV (C : Cx p s m meth c Z own bs mx rt nm) {y : MethodName} {i : Nat} {cb : ByteArray} {cm : Nat} {cr : Option FieldType} {rm : Room} {as rest : List Value} {W : Nat} {ps : List FieldType} {pr : Option FieldType} {ce' sl' : Nat} {a : Addr} {C0 : String} {P : Value → Heap → Prop} (S : Sat l Z y cb cm cr rm (.ref a :: as) h n0 (RV P)) (E : Exa Z h a C0) (w1 : (Jvm.Cond.methodLink own i y).before a0 Z = true) (w5 : (Jvm.Cond.privateMethod y).before a0 Z = true) (w6 : (Jvm.Cond.selects y.cls y y).before a0 Z = true) (w2 : (Jvm.Cond.instanceMethod y).before a0 Z = true) (w3 : (Jvm.Cond.initialized y.cls).before a0 Z = true) (w4 : (Jvm.Cond.code y cb cm cr).before a0 Z = true) (hy : y.cls ≠ "java/lang/invoke/MethodHandle" ∧ y.cls ≠ "java/lang/invoke/VarHandle") (hpd : parseMethodDescriptor y.desc = some ⟨ps, pr⟩) (hlen : as.length = ps.length) (hls : Ls.size = mx) (hW : wt rest = W) (hfr : rm.frames + 1 ≤ R.frames) (hlo : W + (cm + 11) + rm.locals ≤ R.locals) (hce : ce + rm.cells = ce') (hsl : sl + rm.slots = sl') (hcc : ce' ≤ R.cells) (hss : sl' ≤ R.slots) (hd : decode bs pc = .ok (.invokevirtual i, 3)) (hp : pc + 3 = pc') (hst : st = as.reverse ++ .ref a :: rest) (hr : ∀ r h', P r h' → Go p l e R s m args below meth c n0 Q K N h' ce' sl' (mkF m pc' Ls (r :: rest))) : Go p l e R s m args below meth c n0 Q K N h ce sl (mkF m pc Ls st) :=
  go_private C S E w1 w5 w6 w2 w3 w4 hy hpd hlen hls hW hfr hlo hce hsl hcc hss hd hp hst (fun v h' hq => by obtain ⟨r, rfl, q⟩ := hq; exact hr r h' q)
theorem go_privateN (C : Cx p s m meth c Z own bs mx rt nm) {y : MethodName} {i : Nat} {cb : ByteArray} {cm : Nat} {cr : Option FieldType} {rm : Room} {as rest : List Value} {W : Nat} {ps : List FieldType} {pr : Option FieldType} {ce' sl' : Nat} {a : Addr} {C0 : String} {P : Heap → Prop} (S : Sat l Z y cb cm cr rm (.ref a :: as) h n0 (RN P)) (E : Exa Z h a C0) (w1 : (Jvm.Cond.methodLink own i y).before a0 Z = true) (w5 : (Jvm.Cond.privateMethod y).before a0 Z = true) (w6 : (Jvm.Cond.selects y.cls y y).before a0 Z = true) (w2 : (Jvm.Cond.instanceMethod y).before a0 Z = true) (w3 : (Jvm.Cond.initialized y.cls).before a0 Z = true) (w4 : (Jvm.Cond.code y cb cm cr).before a0 Z = true) (hy : y.cls ≠ "java/lang/invoke/MethodHandle" ∧ y.cls ≠ "java/lang/invoke/VarHandle") (hpd : parseMethodDescriptor y.desc = some ⟨ps, pr⟩) (hlen : as.length = ps.length) (hls : Ls.size = mx) (hW : wt rest = W) (hfr : rm.frames + 1 ≤ R.frames) (hlo : W + (cm + 11) + rm.locals ≤ R.locals) (hce : ce + rm.cells = ce') (hsl : sl + rm.slots = sl') (hcc : ce' ≤ R.cells) (hss : sl' ≤ R.slots) (hd : decode bs pc = .ok (.invokevirtual i, 3)) (hp : pc + 3 = pc') (hst : st = as.reverse ++ .ref a :: rest) (hr : ∀ h', P h' → Go p l e R s m args below meth c n0 Q K N h' ce' sl' (mkF m pc' Ls rest)) : Go p l e R s m args below meth c n0 Q K N h ce sl (mkF m pc Ls st) :=
  go_private C S E w1 w5 w6 w2 w3 w4 hy hpd hlen hls hW hfr hlo hce hsl hcc hss hd hp hst (fun v h' hq => by obtain ⟨rfl, q⟩ := hq; exact hr h' q)
theorem go_specialV (C : Cx p s m meth c Z own bs mx rt nm) {y : MethodName} {i : Nat} {cb : ByteArray} {cm : Nat} {rm : Room} {as rest : List Value} {W : Nat} {ps : List FieldType} {pr : Option FieldType} {ce' sl' : Nat} {a : Addr} {P : Value → Heap → Prop} (S : Sat l Z y cb cm none rm (.ref a :: as) h n0 (RV P)) (hyn : y.name = "<init>") (w1 : (Jvm.Cond.methodLink own i y).before a0 Z = true) (w2 : (Jvm.Cond.instanceMethod y).before a0 Z = true) (w3 : (Jvm.Cond.initialized y.cls).before a0 Z = true) (w4 : (Jvm.Cond.code y cb cm none).before a0 Z = true) (hy : y.cls ≠ "java/lang/invoke/MethodHandle" ∧ y.cls ≠ "java/lang/invoke/VarHandle") (hpd : parseMethodDescriptor y.desc = some ⟨ps, pr⟩) (hlen : as.length = ps.length) (hls : Ls.size = mx) (hW : wt rest = W) (hfr : rm.frames + 1 ≤ R.frames) (hlo : W + (cm + 11) + rm.locals ≤ R.locals) (hce : ce + rm.cells = ce') (hsl : sl + rm.slots = sl') (hcc : ce' ≤ R.cells) (hss : sl' ≤ R.slots) (hd : decode bs pc = .ok (.invokespecial i, 3)) (hp : pc + 3 = pc') (hst : st = as.reverse ++ .ref a :: rest) (hr : ∀ r h', P r h' → Go p l e R s m args below meth c n0 Q K N h' ce' sl' (mkF m pc' Ls (r :: rest))) : Go p l e R s m args below meth c n0 Q K N h ce sl (mkF m pc Ls st) :=
  go_special C S hyn w1 w2 w3 w4 hy hpd hlen hls hW hfr hlo hce hsl hcc hss hd hp hst (fun v h' hq => by obtain ⟨r, rfl, q⟩ := hq; exact hr r h' q)
theorem go_specialN (C : Cx p s m meth c Z own bs mx rt nm) {y : MethodName} {i : Nat} {cb : ByteArray} {cm : Nat} {rm : Room} {as rest : List Value} {W : Nat} {ps : List FieldType} {pr : Option FieldType} {ce' sl' : Nat} {a : Addr} {P : Heap → Prop} (S : Sat l Z y cb cm none rm (.ref a :: as) h n0 (RN P)) (hyn : y.name = "<init>") (w1 : (Jvm.Cond.methodLink own i y).before a0 Z = true) (w2 : (Jvm.Cond.instanceMethod y).before a0 Z = true) (w3 : (Jvm.Cond.initialized y.cls).before a0 Z = true) (w4 : (Jvm.Cond.code y cb cm none).before a0 Z = true) (hy : y.cls ≠ "java/lang/invoke/MethodHandle" ∧ y.cls ≠ "java/lang/invoke/VarHandle") (hpd : parseMethodDescriptor y.desc = some ⟨ps, pr⟩) (hlen : as.length = ps.length) (hls : Ls.size = mx) (hW : wt rest = W) (hfr : rm.frames + 1 ≤ R.frames) (hlo : W + (cm + 11) + rm.locals ≤ R.locals) (hce : ce + rm.cells = ce') (hsl : sl + rm.slots = sl') (hcc : ce' ≤ R.cells) (hss : sl' ≤ R.slots) (hd : decode bs pc = .ok (.invokespecial i, 3)) (hp : pc + 3 = pc') (hst : st = as.reverse ++ .ref a :: rest) (hr : ∀ h', P h' → Go p l e R s m args below meth c n0 Q K N h' ce' sl' (mkF m pc' Ls rest)) : Go p l e R s m args below meth c n0 Q K N h ce sl (mkF m pc Ls st) :=
  go_special C S hyn w1 w2 w3 w4 hy hpd hlen hls hW hfr hlo hce hsl hcc hss hd hp hst (fun v h' hq => by obtain ⟨rfl, q⟩ := hq; exact hr h' q)
theorem go_specialWV (C : Cx p s m meth c Z own bs mx rt nm) {y : MethodName} {i : Nat} {cb : ByteArray} {cm : Nat} {rm : Room} {as rest : List Value} {W : Nat} {ps : List FieldType} {pr : Option FieldType} {ce' sl' : Nat} {a : Addr} {P : Value → Heap → Prop} (S : Sat l Z y cb cm none rm (.ref a :: as) h n0 (RV P)) (hyn : y.name = "<init>") (w1 : (Jvm.Cond.methodRef own i y).before a0 Z = true) (w2 : (Jvm.Cond.instanceMethod y).before a0 Z = true) (w3 : (Jvm.Cond.initialized y.cls).before a0 Z = true) (w4 : (Jvm.Cond.code y cb cm none).before a0 Z = true) (hy : y.cls ≠ "java/lang/invoke/MethodHandle" ∧ y.cls ≠ "java/lang/invoke/VarHandle") (hpd : parseMethodDescriptor y.desc = some ⟨ps, pr⟩) (hlen : as.length = ps.length) (hls : Ls.size = mx) (hW : wt rest = W) (hfr : rm.frames + 1 ≤ R.frames) (hlo : W + (cm + 11) + rm.locals ≤ R.locals) (hce : ce + rm.cells = ce') (hsl : sl + rm.slots = sl') (hcc : ce' ≤ R.cells) (hss : sl' ≤ R.slots) (hd : decode bs pc = .ok (.invokespecial i, 3)) (hp : pc + 3 = pc') (hst : st = as.reverse ++ .ref a :: rest) (hr : ∀ r h', P r h' → Go p l e R s m args below meth c n0 Q K N h' ce' sl' (mkF m pc' Ls (r :: rest))) : Go p l e R s m args below meth c n0 Q K N h ce sl (mkF m pc Ls st) :=
  go_specialW C S hyn w1 w2 w3 w4 hy hpd hlen hls hW hfr hlo hce hsl hcc hss hd hp hst (fun v h' hq => by obtain ⟨r, rfl, q⟩ := hq; exact hr r h' q)
theorem go_specialWN (C : Cx p s m meth c Z own bs mx rt nm) {y : MethodName} {i : Nat} {cb : ByteArray} {cm : Nat} {rm : Room} {as rest : List Value} {W : Nat} {ps : List FieldType} {pr : Option FieldType} {ce' sl' : Nat} {a : Addr} {P : Heap → Prop} (S : Sat l Z y cb cm none rm (.ref a :: as) h n0 (RN P)) (hyn : y.name = "<init>") (w1 : (Jvm.Cond.methodRef own i y).before a0 Z = true) (w2 : (Jvm.Cond.instanceMethod y).before a0 Z = true) (w3 : (Jvm.Cond.initialized y.cls).before a0 Z = true) (w4 : (Jvm.Cond.code y cb cm none).before a0 Z = true) (hy : y.cls ≠ "java/lang/invoke/MethodHandle" ∧ y.cls ≠ "java/lang/invoke/VarHandle") (hpd : parseMethodDescriptor y.desc = some ⟨ps, pr⟩) (hlen : as.length = ps.length) (hls : Ls.size = mx) (hW : wt rest = W) (hfr : rm.frames + 1 ≤ R.frames) (hlo : W + (cm + 11) + rm.locals ≤ R.locals) (hce : ce + rm.cells = ce') (hsl : sl + rm.slots = sl') (hcc : ce' ≤ R.cells) (hss : sl' ≤ R.slots) (hd : decode bs pc = .ok (.invokespecial i, 3)) (hp : pc + 3 = pc') (hst : st = as.reverse ++ .ref a :: rest) (hr : ∀ h', P h' → Go p l e R s m args below meth c n0 Q K N h' ce' sl' (mkF m pc' Ls rest)) : Go p l e R s m args below meth c n0 Q K N h ce sl (mkF m pc Ls st) :=
  go_specialW C S hyn w1 w2 w3 w4 hy hpd hlen hls hW hfr hlo hce hsl hcc hss hd hp hst (fun v h' hq => by obtain ⟨rfl, q⟩ := hq; exact hr h' q)
theorem go_ireturnI (C : Cx p s m meth c Z own bs mx rt nm) {z : Int32} (hrt : rt = some .int) (hd : decode bs pc = .ok (.ireturn, 1)) (hk : ce ≤ K) (hn : sl ≤ N) (hq : Q (some (.int z)) h) : Go p l e R s m args below meth c n0 Q K N h ce sl (mkF m pc Ls [.int z]) := by
  subst hrt
  intro T locs X eT Nn
  obtain ⟨fs, hr, hrun, hended, hW, hsame⟩ := X.leave (v := some (.int z)) (fun q => by first | rfl | (rw [C.2.2.2.2.2.1] at q; cases q)) C.2.2.2.2.2.2.1
  refine ⟨_, _, X.ireturnOut C.1 C.2.2.2.2.2.1 rfl (Or.inl rfl) (hb C.2.1 hd) hr, hrun, hended, _, _, rfl, ⟨?_, Nn⟩, ⟨_, rfl⟩, hW, hsame.mono hk hn⟩
  show Q (some (.int z)) T.heap
  rw [eT]; exact hq
theorem go_lreturn (C : Cx p s m meth c Z own bs mx rt nm) {z : Int64} (hrt : rt = some .long) (hd : decode bs pc = .ok (.lreturn, 1)) (hk : ce ≤ K) (hn : sl ≤ N) (hq : Q (some (.long z)) h) : Go p l e R s m args below meth c n0 Q K N h ce sl (mkF m pc Ls [.long z]) := by
  subst hrt
  intro T locs X eT Nn
  obtain ⟨fs, hr, hrun, hended, hW, hsame⟩ := X.leave (v := some (.long z)) (fun q => by first | rfl | (rw [C.2.2.2.2.2.1] at q; cases q)) C.2.2.2.2.2.2.1
  refine ⟨_, _, Jvm.Stand.lreturnOut X C.1 C.2.2.2.2.2.1 (hb C.2.1 hd) hr, hrun, hended, _, _, rfl, ⟨?_, Nn⟩, ⟨_, rfl⟩, hW, hsame.mono hk hn⟩
  show Q (some (.long z)) T.heap
  rw [eT]; exact hq
theorem go_areturn (C : Cx p s m meth c Z own bs mx rt nm) {w : Value} {t : FieldType} (hrt : rt = some t) (hd : decode bs pc = .ok (.areturn, 1)) (hk : ce ≤ K) (hn : sl ≤ N) (hw : w.isRef = true) (ht : t.isReference = true) (hq : Q (some w) h) : Go p l e R s m args below meth c n0 Q K N h ce sl (mkF m pc Ls [w]) := by
  subst hrt
  intro T locs X eT Nn
  obtain ⟨fs, hr, hrun, hended, hW, hsame⟩ := X.leave (v := some w) (fun q => by first | rfl | (rw [C.2.2.2.2.2.1] at q; cases q)) C.2.2.2.2.2.2.1
  refine ⟨_, _, X.areturnOut C.1 hw C.2.2.2.2.2.1 ht (hb C.2.1 hd) hr, hrun, hended, _, _, rfl, ⟨?_, Nn⟩, ⟨_, rfl⟩, hW, hsame.mono hk hn⟩
  show Q (some w) T.heap
  rw [eT]; exact hq
theorem go_return (C : Cx p s m meth c Z own bs mx rt nm)  (hrt : rt = none) (hd : decode bs pc = .ok (.return_, 1)) (hk : ce ≤ K) (hn : sl ≤ N) (hq : Q (none) h) : Go p l e R s m args below meth c n0 Q K N h ce sl (mkF m pc Ls []) := by
  subst hrt
  intro T locs X eT Nn
  obtain ⟨fs, hr, hrun, hended, hW, hsame⟩ := X.leave (v := none) (fun q => by first | rfl | (rw [C.2.2.2.2.2.1] at q; cases q)) C.2.2.2.2.2.2.1
  refine ⟨_, _, X.returnOut C.1 C.2.2.2.2.2.1 (hb C.2.1 hd) hr, hrun, hended, _, _, rfl, ⟨?_, Nn⟩, ⟨_, rfl⟩, hW, hsame.mono hk hn⟩
  show Q (none) T.heap
  rw [eT]; exact hq
theorem go_ireturnN (C : Cx p s m meth c Z own bs mx rt nm) {z z' : Int32} {t : FieldType} (hrt : rt = some t) (ht : t = .boolean ∨ t = .byte ∨ t = .char ∨ t = .short) (hz : nar t z = z') (hd : decode bs pc = .ok (.ireturn, 1)) (hk : ce ≤ K) (hn : sl ≤ N) (hq : Q (some (.int z')) h) : Go p l e R s m args below meth c n0 Q K N h ce sl (mkF m pc Ls [.int z]) := by
  subst hrt hz
  intro T locs X eT Nn
  obtain ⟨fs, hr, hrun, hended, hW, hsame⟩ := X.leave (v := some (.int (nar t z))) (fun q => by rw [C.2.2.2.2.2.1] at q; cases q) C.2.2.2.2.2.2.1
  refine ⟨_, _, retN X C.1 (t := t) C.2.2.2.2.2.1 ht (hb C.2.1 hd) hr, hrun, hended, _, _, rfl, ⟨?_, Nn⟩, ⟨_, rfl⟩, hW, hsame.mono hk hn⟩
  show Q (some (.int (nar t z))) T.heap
  rw [eT]; exact hq
theorem sat_of {y : MethodName} {cb : ByteArray} {cm : Nat} {cr : Option FieldType} {rm : Room} {as : List Value} {h0 : Heap} (ho : y.cls = own) (hnm : y.name = nm) (hpn : plainFor y = true) (Ls : Array Slot) (hef : ∀ m, entryFrame m as.toArray cm = mkF m 0 Ls [])
    (body : ∀ (p : Program) (e : Env) (s : State) (m : MethodId) (below : List Frame) (meth : Method) (c : Code), Cx p s m meth c Z own cb cm cr nm → Go p l e rm s m as.toArray below meth c n0 Q rm.cells rm.slots h0 0 0 (mkF m 0 Ls [])) : Sat l Z y cb cm cr rm as h0 n0 Q := by
  intro ws
  subst ho hnm
  refine MetFree.of_bodySF hpn hisR ?_
  intro p e s m args below meth c s₁ Bd hml0 hP hK
  obtain ⟨rfl, hZ, hh⟩ := hP
  have X0 : Stand p l e rm s m as.toArray below meth c s₁ [] 0 0 := Stand.of_body Bd
  obtain ⟨s₂, o, h1, h2, h3, v, L, h4, h5, h6⟩ := body p e s m below meth c ⟨Bd.exec, Bd.bytes, hml0, hZ, findClass_of_methodNamed Bd.named, Bd.returns, Bd.notSynchronized, (name_of_methodNamed Bd.named Bd.method).1⟩ s₁ [] X0 (by rw [← hh, Bd.state]; rfl) (Fr.nil n0)
  exact ⟨s₂, o, castTop (hef m) h1, h2, h3, v, L, h4, h5, h6⟩
theorem Sat.weaken {y : MethodName} {cb : ByteArray} {cm : Nat} {cr : Option FieldType} {rm : Room} {as : List Value} {h0 : Heap} {Q' : Option Value → Heap → Prop} (S : Sat l Z y cb cm cr rm as h0 n0 Q) (H : ∀ v h, Q v h → Q' v h) : Sat l Z y cb cm cr rm as h0 n0 Q' := by
  intro ws p e ha hc hk s m args below hf happ hP hK
  obtain ⟨n, o, h1, h2, h3, v, L, h4, h5, h6⟩ := S ws p e ha hc hk s m args below hf happ hP hK
  exact ⟨n, o, h1, h2, h3, v, L, h4, ⟨H _ _ h5.1, h5.2⟩, h6⟩
end Walk
end OwnLayer
theorem wd {Z : State} {a0 : Array Value} (hw : ∀ d ∈ tables_1, d.before a0 Z = true) (k : Nat) {d : Jvm.Cond} (h : tables_1[k]? = some d) : d.before a0 Z = true := hw d (List.mem_of_getElem? h)
theorem d1_0 : decode method_3_code 0 = .ok (.iload_n 0, 1) := by decide +kernel
theorem d1_1 : decode method_3_code 1 = .ok (.ifCond .ne 7, 3) := by decide +kernel
theorem d1_4 : decode method_3_code 4 = .ok (.iconst 0, 1) := by decide +kernel
theorem d1_5 : decode method_3_code 5 = .ok (.newarray .long, 2) := by decide +kernel
theorem d1_7 : decode method_3_code 7 = .ok (.areturn, 1) := by decide +kernel
theorem d1_8 : decode method_3_code 8 = .ok (.iload_n 0, 1) := by decide +kernel
theorem d1_9 : decode method_3_code 9 = .ok (.iconst 1, 1) := by decide +kernel
theorem d1_10 : decode method_3_code 10 = .ok (.if_icmp .ne 11, 3) := by decide +kernel
theorem d1_13 : decode method_3_code 13 = .ok (.iconst 1, 1) := by decide +kernel
theorem d1_14 : decode method_3_code 14 = .ok (.newarray .long, 2) := by decide +kernel
theorem d1_16 : decode method_3_code 16 = .ok (.dup, 1) := by decide +kernel
theorem d1_17 : decode method_3_code 17 = .ok (.iconst 0, 1) := by decide +kernel
theorem d1_18 : decode method_3_code 18 = .ok (.lload_n 1, 1) := by decide +kernel
theorem d1_19 : decode method_3_code 19 = .ok (.lastore, 1) := by decide +kernel
theorem d1_20 : decode method_3_code 20 = .ok (.areturn, 1) := by decide +kernel
theorem d1_21 : decode method_3_code 21 = .ok (.iload_n 0, 1) := by decide +kernel
theorem d1_22 : decode method_3_code 22 = .ok (.iconst 2, 1) := by decide +kernel
theorem d1_23 : decode method_3_code 23 = .ok (.if_icmp .ne 15, 3) := by decide +kernel
theorem d1_26 : decode method_3_code 26 = .ok (.iconst 2, 1) := by decide +kernel
theorem d1_27 : decode method_3_code 27 = .ok (.newarray .long, 2) := by decide +kernel
theorem d1_29 : decode method_3_code 29 = .ok (.dup, 1) := by decide +kernel
theorem d1_30 : decode method_3_code 30 = .ok (.iconst 0, 1) := by decide +kernel
theorem d1_31 : decode method_3_code 31 = .ok (.lload_n 1, 1) := by decide +kernel
theorem d1_32 : decode method_3_code 32 = .ok (.lastore, 1) := by decide +kernel
theorem d1_33 : decode method_3_code 33 = .ok (.dup, 1) := by decide +kernel
theorem d1_34 : decode method_3_code 34 = .ok (.iconst 1, 1) := by decide +kernel
theorem d1_35 : decode method_3_code 35 = .ok (.lload_n 3, 1) := by decide +kernel
theorem d1_36 : decode method_3_code 36 = .ok (.lastore, 1) := by decide +kernel
theorem d1_37 : decode method_3_code 37 = .ok (.areturn, 1) := by decide +kernel
theorem d1_38 : decode method_3_code 38 = .ok (.iconst 3, 1) := by decide +kernel
theorem d1_39 : decode method_3_code 39 = .ok (.newarray .long, 2) := by decide +kernel
theorem d1_41 : decode method_3_code 41 = .ok (.dup, 1) := by decide +kernel
theorem d1_42 : decode method_3_code 42 = .ok (.iconst 0, 1) := by decide +kernel
theorem d1_43 : decode method_3_code 43 = .ok (.lload_n 1, 1) := by decide +kernel
theorem d1_44 : decode method_3_code 44 = .ok (.lastore, 1) := by decide +kernel
theorem d1_45 : decode method_3_code 45 = .ok (.dup, 1) := by decide +kernel
theorem d1_46 : decode method_3_code 46 = .ok (.iconst 1, 1) := by decide +kernel
theorem d1_47 : decode method_3_code 47 = .ok (.lload_n 3, 1) := by decide +kernel
theorem d1_48 : decode method_3_code 48 = .ok (.lastore, 1) := by decide +kernel
theorem d1_49 : decode method_3_code 49 = .ok (.dup, 1) := by decide +kernel
theorem d1_50 : decode method_3_code 50 = .ok (.iconst 2, 1) := by decide +kernel
theorem d1_51 : decode method_3_code 51 = .ok (.lload 5, 2) := by decide +kernel
theorem d1_53 : decode method_3_code 53 = .ok (.lastore, 1) := by decide +kernel
theorem d1_54 : decode method_3_code 54 = .ok (.areturn, 1) := by decide +kernel
theorem d2_0 : decode prog_68_method_5_code 0 = .ok (.iconst 0, 1) := by decide +kernel
theorem d2_1 : decode prog_68_method_5_code 1 = .ok (.istore_n 2, 1) := by decide +kernel
theorem d2_2 : decode prog_68_method_5_code 2 = .ok (.iconst 0, 1) := by decide +kernel
theorem d2_3 : decode prog_68_method_5_code 3 = .ok (.istore_n 3, 1) := by decide +kernel
theorem d2_4 : decode prog_68_method_5_code 4 = .ok (.iload_n 3, 1) := by decide +kernel
theorem d2_5 : decode prog_68_method_5_code 5 = .ok (.aload_n 0, 1) := by decide +kernel
theorem d2_6 : decode prog_68_method_5_code 6 = .ok (.arraylength, 1) := by decide +kernel
theorem d2_7 : decode prog_68_method_5_code 7 = .ok (.if_icmp .ge 39, 3) := by decide +kernel
theorem d2_10 : decode prog_68_method_5_code 10 = .ok (.aload_n 0, 1) := by decide +kernel
theorem d2_11 : decode prog_68_method_5_code 11 = .ok (.iload_n 3, 1) := by decide +kernel
theorem d2_12 : decode prog_68_method_5_code 12 = .ok (.laload, 1) := by decide +kernel
theorem d2_13 : decode prog_68_method_5_code 13 = .ok (.aload_n 1, 1) := by decide +kernel
theorem d2_14 : decode prog_68_method_5_code 14 = .ok (.iload_n 3, 1) := by decide +kernel
theorem d2_15 : decode prog_68_method_5_code 15 = .ok (.laload, 1) := by decide +kernel
theorem d2_16 : decode prog_68_method_5_code 16 = .ok (.lcmp, 1) := by decide +kernel
theorem d2_17 : decode prog_68_method_5_code 17 = .ok (.ifCond .le 5, 3) := by decide +kernel
theorem d2_20 : decode prog_68_method_5_code 20 = .ok (.iconst 0, 1) := by decide +kernel
theorem d2_21 : decode prog_68_method_5_code 21 = .ok (.ireturn, 1) := by decide +kernel
theorem d2_22 : decode prog_68_method_5_code 22 = .ok (.iload_n 2, 1) := by decide +kernel
theorem d2_23 : decode prog_68_method_5_code 23 = .ok (.aload_n 0, 1) := by decide +kernel
theorem d2_24 : decode prog_68_method_5_code 24 = .ok (.iload_n 3, 1) := by decide +kernel
theorem d2_25 : decode prog_68_method_5_code 25 = .ok (.laload, 1) := by decide +kernel
theorem d2_26 : decode prog_68_method_5_code 26 = .ok (.aload_n 1, 1) := by decide +kernel
theorem d2_27 : decode prog_68_method_5_code 27 = .ok (.iload_n 3, 1) := by decide +kernel
theorem d2_28 : decode prog_68_method_5_code 28 = .ok (.laload, 1) := by decide +kernel
theorem d2_29 : decode prog_68_method_5_code 29 = .ok (.lcmp, 1) := by decide +kernel
theorem d2_30 : decode prog_68_method_5_code 30 = .ok (.ifCond .ge 7, 3) := by decide +kernel
theorem d2_33 : decode prog_68_method_5_code 33 = .ok (.iconst 1, 1) := by decide +kernel
theorem d2_34 : decode prog_68_method_5_code 34 = .ok (.goto 4, 3) := by decide +kernel
theorem d2_37 : decode prog_68_method_5_code 37 = .ok (.iconst 0, 1) := by decide +kernel
theorem d2_38 : decode prog_68_method_5_code 38 = .ok (.ior, 1) := by decide +kernel
theorem d2_39 : decode prog_68_method_5_code 39 = .ok (.istore_n 2, 1) := by decide +kernel
theorem d2_40 : decode prog_68_method_5_code 40 = .ok (.iinc 3 1, 3) := by decide +kernel
theorem d2_43 : decode prog_68_method_5_code 43 = .ok (.goto (-39), 3) := by decide +kernel
theorem d2_46 : decode prog_68_method_5_code 46 = .ok (.iload_n 2, 1) := by decide +kernel
theorem d2_47 : decode prog_68_method_5_code 47 = .ok (.ireturn, 1) := by decide +kernel
theorem pn_0 : plainName "com/example/holder/holder/protocol/VectorClockStrictlyOlderPinLaw" = true := by first | (simp [plainName, overriddenIn]; done) | decide +kernel
theorem pd_0 : parseMethodDescriptor "(IJJJJJ)Z" = some ⟨[.int, .long, .long, .long, .long, .long], some .boolean⟩ := by decide +kernel
theorem pd_1 : parseMethodDescriptor "(IJJJ)[J" = some ⟨[.int, .long, .long, .long], some (.array .long)⟩ := by decide +kernel
theorem pn_1 : plainName "com/example/holder/holder/protocol/VectorClock" = true := by first | (simp [plainName, overriddenIn]; done) | decide +kernel
theorem pd_2 : parseMethodDescriptor "([J[J)Z" = some ⟨[(.array .long), (.array .long)], some .boolean⟩ := by decide +kernel
set_option maxRecDepth 65536 in
set_option maxHeartbeats 40000000 in
theorem sat_make0 (l : Launch) (Z : State) (a0 : Array Value) (hw : ∀ d ∈ tables_1, d.before a0 Z = true) (x y z : Int64) (h0 : Heap) (n0 : Nat) (gz : n0 ≤ h0.size) :
    Sat l Z (⟨"com/example/holder/holder/protocol/VectorClockStrictlyOlderPinLaw", "make", "(IJJJ)[J"⟩ : MethodName) method_3_code 7 (some (.array .long)) ({ frames := 0, cells := 1, slots := 0, locals := 0 } : Room) [.int (0 : Int32), .long x, .long y, .long z] h0 n0 (RV fun r h => ∃ a : Addr, r = .ref a ∧ h0.size ≤ a ∧ Keep h0 h [] ∧ Av Z h a .long []) := by
  refine sat_of (own := "com/example/holder/holder/protocol/VectorClockStrictlyOlderPinLaw") (nm := "make") rfl rfl (plainFor_of_name pn_0) #[.val (.int (0 : Int32)), .val (.long x), .second, .val (.long y), .second, .val (.long z), .second] (fun m => by first | (simp [entryFrame, mkF, argsToLocals, Value.category, maxLocals]; done) | rfl) ?_
  intro p e s m below meth c C
  refine go_iloadN C d1_0 (pc' := 1) rfl rfl ?_
  refine go_if0 C (0 : Int) (by decide) d1_1 (by decide) (pc' := 8) (by decide) (pcN := 4) rfl (fun (c_1 : ¬ (0 : Int) = 0) => by omega) (fun (c_1 : (0 : Int) = 0) => ?_)
  refine go_iconst C (0 : Int32) d1_4 (pc' := 5) rfl (by decide) ?_
  refine go_newarray C (wd hw 4 rfl) rfl 0 0 (by decide) (by decide) (by decide) (ce' := 1) (sl' := 0) rfl rfl (by decide) (by decide) d1_5 (pc' := 7) rfl ?_
  intro h_2 a_3 g_4 E_5 A_6
  have g_7 : n0 ≤ a_3 := own_ge gz g_4
  have z_8 : n0 ≤ h_2.size := Nat.le_trans gz E_5.1
  have K_9 := Keep.ext (Keep.refl h0 []) E_5
  have g_10 : h0.size ≤ a_3 := own_ge (Keep.refl h0 []).1 g_4
  have A_11 : Av Z h_2 a_3 .long [] := A_6
  refine go_areturn C rfl d1_7 (by decide) (by decide) rfl rfl ?_
  exact ⟨_, rfl, _, rfl, g_10, K_9, A_11⟩
set_option maxRecDepth 65536 in
set_option maxHeartbeats 40000000 in
theorem sat_make1 (l : Launch) (Z : State) (a0 : Array Value) (hw : ∀ d ∈ tables_1, d.before a0 Z = true) (x y z : Int64) (h0 : Heap) (n0 : Nat) (gz : n0 ≤ h0.size) :
    Sat l Z (⟨"com/example/holder/holder/protocol/VectorClockStrictlyOlderPinLaw", "make", "(IJJJ)[J"⟩ : MethodName) method_3_code 7 (some (.array .long)) ({ frames := 0, cells := 1, slots := 1, locals := 0 } : Room) [.int (1 : Int32), .long x, .long y, .long z] h0 n0 (RV fun r h => ∃ a : Addr, r = .ref a ∧ h0.size ≤ a ∧ Keep h0 h [] ∧ Av Z h a .long [.long x]) := by
  refine sat_of (own := "com/example/holder/holder/protocol/VectorClockStrictlyOlderPinLaw") (nm := "make") rfl rfl (plainFor_of_name pn_0) #[.val (.int (1 : Int32)), .val (.long x), .second, .val (.long y), .second, .val (.long z), .second] (fun m => by first | (simp [entryFrame, mkF, argsToLocals, Value.category, maxLocals]; done) | rfl) ?_
  intro p e s m below meth c C
  refine go_iloadN C d1_0 (pc' := 1) rfl rfl ?_
  refine go_if0 C (1 : Int) (by decide) d1_1 (by decide) (pc' := 8) (by decide) (pcN := 4) rfl (fun (c_1 : ¬ (1 : Int) = 0) => ?_) (fun (c_1 : (1 : Int) = 0) => by omega)
  refine go_iloadN C d1_8 (pc' := 9) rfl rfl ?_
  refine go_iconst C (1 : Int32) d1_9 (pc' := 10) rfl (by decide) ?_
  refine go_icmp C (1 : Int) (1 : Int) (by decide) (by decide) d1_10 (by decide) (pc' := 21) (by decide) (pcN := 13) rfl (fun (c_2 : ¬ (1 : Int) = (1 : Int)) => by omega) (fun (c_2 : (1 : Int) = (1 : Int)) => ?_)
  refine go_iconst C (1 : Int32) d1_13 (pc' := 14) rfl (by decide) ?_
  refine go_newarray C (wd hw 4 rfl) rfl 1 1 (by decide) (by decide) (by decide) (ce' := 1) (sl' := 1) rfl rfl (by decide) (by decide) d1_14 (pc' := 16) rfl ?_
  intro h_3 a_4 g_5 E_6 A_7
  have g_8 : n0 ≤ a_4 := own_ge gz g_5
  have z_9 : n0 ≤ h_3.size := Nat.le_trans gz E_6.1
  have K_10 := Keep.ext (Keep.refl h0 []) E_6
  have g_11 : h0.size ≤ a_4 := own_ge (Keep.refl h0 []).1 g_5
  have A_12 : Av Z h_3 a_4 .long [.long (0 : Int64)] := A_7
  refine go_dup C d1_16 (pc' := 17) rfl rfl ?_
  refine go_iconst C (0 : Int32) d1_17 (pc' := 18) rfl (by decide) ?_
  refine go_lloadN C d1_18 (pc' := 19) rfl rfl ?_
  refine go_lastore C A_12 0 (by decide) (show 0 < 1 from by decide) g_8 d1_19 (pc' := 20) rfl ?_
  intro h_13 W_14 A_15
  have z_16 : n0 ≤ h_13.size := W_14.size.symm ▸ z_9
  have K_17 := Keep.wr K_10 W_14 (Or.inr g_11)
  have A_18 : Av Z h_13 a_4 .long [.long x] := A_15
  refine go_areturn C rfl d1_20 (by decide) (by decide) rfl rfl ?_
  exact ⟨_, rfl, _, rfl, g_11, K_17, A_18⟩
set_option maxRecDepth 65536 in
set_option maxHeartbeats 40000000 in
theorem sat_make2 (l : Launch) (Z : State) (a0 : Array Value) (hw : ∀ d ∈ tables_1, d.before a0 Z = true) (x y z : Int64) (h0 : Heap) (n0 : Nat) (gz : n0 ≤ h0.size) :
    Sat l Z (⟨"com/example/holder/holder/protocol/VectorClockStrictlyOlderPinLaw", "make", "(IJJJ)[J"⟩ : MethodName) method_3_code 7 (some (.array .long)) ({ frames := 0, cells := 1, slots := 2, locals := 0 } : Room) [.int (2 : Int32), .long x, .long y, .long z] h0 n0 (RV fun r h => ∃ a : Addr, r = .ref a ∧ h0.size ≤ a ∧ Keep h0 h [] ∧ Av Z h a .long [.long x, .long y]) := by
  refine sat_of (own := "com/example/holder/holder/protocol/VectorClockStrictlyOlderPinLaw") (nm := "make") rfl rfl (plainFor_of_name pn_0) #[.val (.int (2 : Int32)), .val (.long x), .second, .val (.long y), .second, .val (.long z), .second] (fun m => by first | (simp [entryFrame, mkF, argsToLocals, Value.category, maxLocals]; done) | rfl) ?_
  intro p e s m below meth c C
  refine go_iloadN C d1_0 (pc' := 1) rfl rfl ?_
  refine go_if0 C (2 : Int) (by decide) d1_1 (by decide) (pc' := 8) (by decide) (pcN := 4) rfl (fun (c_1 : ¬ (2 : Int) = 0) => ?_) (fun (c_1 : (2 : Int) = 0) => by omega)
  refine go_iloadN C d1_8 (pc' := 9) rfl rfl ?_
  refine go_iconst C (1 : Int32) d1_9 (pc' := 10) rfl (by decide) ?_
  refine go_icmp C (2 : Int) (1 : Int) (by decide) (by decide) d1_10 (by decide) (pc' := 21) (by decide) (pcN := 13) rfl (fun (c_2 : ¬ (2 : Int) = (1 : Int)) => ?_) (fun (c_2 : (2 : Int) = (1 : Int)) => by omega)
  refine go_iloadN C d1_21 (pc' := 22) rfl rfl ?_
  refine go_iconst C (2 : Int32) d1_22 (pc' := 23) rfl (by decide) ?_
  refine go_icmp C (2 : Int) (2 : Int) (by decide) (by decide) d1_23 (by decide) (pc' := 38) (by decide) (pcN := 26) rfl (fun (c_3 : ¬ (2 : Int) = (2 : Int)) => by omega) (fun (c_3 : (2 : Int) = (2 : Int)) => ?_)
  refine go_iconst C (2 : Int32) d1_26 (pc' := 27) rfl (by decide) ?_
  refine go_newarray C (wd hw 4 rfl) rfl 2 2 (by decide) (by decide) (by decide) (ce' := 1) (sl' := 2) rfl rfl (by decide) (by decide) d1_27 (pc' := 29) rfl ?_
  intro h_4 a_5 g_6 E_7 A_8
  have g_9 : n0 ≤ a_5 := own_ge gz g_6
  have z_10 : n0 ≤ h_4.size := Nat.le_trans gz E_7.1
  have K_11 := Keep.ext (Keep.refl h0 []) E_7
  have g_12 : h0.size ≤ a_5 := own_ge (Keep.refl h0 []).1 g_6
  have A_13 : Av Z h_4 a_5 .long [.long (0 : Int64), .long (0 : Int64)] := A_8
  refine go_dup C d1_29 (pc' := 30) rfl rfl ?_
  refine go_iconst C (0 : Int32) d1_30 (pc' := 31) rfl (by decide) ?_
  refine go_lloadN C d1_31 (pc' := 32) rfl rfl ?_
  refine go_lastore C A_13 0 (by decide) (show 0 < 2 from by decide) g_9 d1_32 (pc' := 33) rfl ?_
  intro h_14 W_15 A_16
  have z_17 : n0 ≤ h_14.size := W_15.size.symm ▸ z_10
  have K_18 := Keep.wr K_11 W_15 (Or.inr g_12)
  have A_19 : Av Z h_14 a_5 .long [.long x, .long (0 : Int64)] := A_16
  refine go_dup C d1_33 (pc' := 34) rfl rfl ?_
  refine go_iconst C (1 : Int32) d1_34 (pc' := 35) rfl (by decide) ?_
  refine go_lloadN C d1_35 (pc' := 36) rfl rfl ?_
  refine go_lastore C A_19 1 (by decide) (show 1 < 2 from by decide) g_9 d1_36 (pc' := 37) rfl ?_
  intro h_20 W_21 A_22
  have z_23 : n0 ≤ h_20.size := W_21.size.symm ▸ z_17
  have K_24 := Keep.wr K_18 W_21 (Or.inr g_12)
  have A_25 : Av Z h_20 a_5 .long [.long x, .long y] := A_22
  refine go_areturn C rfl d1_37 (by decide) (by decide) rfl rfl ?_
  exact ⟨_, rfl, _, rfl, g_12, K_24, A_25⟩
set_option maxRecDepth 65536 in
set_option maxHeartbeats 40000000 in
theorem sat_make3 (l : Launch) (Z : State) (a0 : Array Value) (hw : ∀ d ∈ tables_1, d.before a0 Z = true) (x y z : Int64) (h0 : Heap) (n0 : Nat) (gz : n0 ≤ h0.size) :
    Sat l Z (⟨"com/example/holder/holder/protocol/VectorClockStrictlyOlderPinLaw", "make", "(IJJJ)[J"⟩ : MethodName) method_3_code 7 (some (.array .long)) ({ frames := 0, cells := 1, slots := 3, locals := 0 } : Room) [.int (3 : Int32), .long x, .long y, .long z] h0 n0 (RV fun r h => ∃ a : Addr, r = .ref a ∧ h0.size ≤ a ∧ Keep h0 h [] ∧ Av Z h a .long [.long x, .long y, .long z]) := by
  refine sat_of (own := "com/example/holder/holder/protocol/VectorClockStrictlyOlderPinLaw") (nm := "make") rfl rfl (plainFor_of_name pn_0) #[.val (.int (3 : Int32)), .val (.long x), .second, .val (.long y), .second, .val (.long z), .second] (fun m => by first | (simp [entryFrame, mkF, argsToLocals, Value.category, maxLocals]; done) | rfl) ?_
  intro p e s m below meth c C
  refine go_iloadN C d1_0 (pc' := 1) rfl rfl ?_
  refine go_if0 C (3 : Int) (by decide) d1_1 (by decide) (pc' := 8) (by decide) (pcN := 4) rfl (fun (c_1 : ¬ (3 : Int) = 0) => ?_) (fun (c_1 : (3 : Int) = 0) => by omega)
  refine go_iloadN C d1_8 (pc' := 9) rfl rfl ?_
  refine go_iconst C (1 : Int32) d1_9 (pc' := 10) rfl (by decide) ?_
  refine go_icmp C (3 : Int) (1 : Int) (by decide) (by decide) d1_10 (by decide) (pc' := 21) (by decide) (pcN := 13) rfl (fun (c_2 : ¬ (3 : Int) = (1 : Int)) => ?_) (fun (c_2 : (3 : Int) = (1 : Int)) => by omega)
  refine go_iloadN C d1_21 (pc' := 22) rfl rfl ?_
  refine go_iconst C (2 : Int32) d1_22 (pc' := 23) rfl (by decide) ?_
  refine go_icmp C (3 : Int) (2 : Int) (by decide) (by decide) d1_23 (by decide) (pc' := 38) (by decide) (pcN := 26) rfl (fun (c_3 : ¬ (3 : Int) = (2 : Int)) => ?_) (fun (c_3 : (3 : Int) = (2 : Int)) => by omega)
  refine go_iconst C (3 : Int32) d1_38 (pc' := 39) rfl (by decide) ?_
  refine go_newarray C (wd hw 4 rfl) rfl 3 3 (by decide) (by decide) (by decide) (ce' := 1) (sl' := 3) rfl rfl (by decide) (by decide) d1_39 (pc' := 41) rfl ?_
  intro h_4 a_5 g_6 E_7 A_8
  have g_9 : n0 ≤ a_5 := own_ge gz g_6
  have z_10 : n0 ≤ h_4.size := Nat.le_trans gz E_7.1
  have K_11 := Keep.ext (Keep.refl h0 []) E_7
  have g_12 : h0.size ≤ a_5 := own_ge (Keep.refl h0 []).1 g_6
  have A_13 : Av Z h_4 a_5 .long [.long (0 : Int64), .long (0 : Int64), .long (0 : Int64)] := A_8
  refine go_dup C d1_41 (pc' := 42) rfl rfl ?_
  refine go_iconst C (0 : Int32) d1_42 (pc' := 43) rfl (by decide) ?_
  refine go_lloadN C d1_43 (pc' := 44) rfl rfl ?_
  refine go_lastore C A_13 0 (by decide) (show 0 < 3 from by decide) g_9 d1_44 (pc' := 45) rfl ?_
  intro h_14 W_15 A_16
  have z_17 : n0 ≤ h_14.size := W_15.size.symm ▸ z_10
  have K_18 := Keep.wr K_11 W_15 (Or.inr g_12)
  have A_19 : Av Z h_14 a_5 .long [.long x, .long (0 : Int64), .long (0 : Int64)] := A_16
  refine go_dup C d1_45 (pc' := 46) rfl rfl ?_
  refine go_iconst C (1 : Int32) d1_46 (pc' := 47) rfl (by decide) ?_
  refine go_lloadN C d1_47 (pc' := 48) rfl rfl ?_
  refine go_lastore C A_19 1 (by decide) (show 1 < 3 from by decide) g_9 d1_48 (pc' := 49) rfl ?_
  intro h_20 W_21 A_22
  have z_23 : n0 ≤ h_20.size := W_21.size.symm ▸ z_17
  have K_24 := Keep.wr K_18 W_21 (Or.inr g_12)
  have A_25 : Av Z h_20 a_5 .long [.long x, .long y, .long (0 : Int64)] := A_22
  refine go_dup C d1_49 (pc' := 50) rfl rfl ?_
  refine go_iconst C (2 : Int32) d1_50 (pc' := 51) rfl (by decide) ?_
  refine go_lload C d1_51 (pc' := 53) rfl rfl ?_
  refine go_lastore C A_25 2 (by decide) (show 2 < 3 from by decide) g_9 d1_53 (pc' := 54) rfl ?_
  intro h_26 W_27 A_28
  have z_29 : n0 ≤ h_26.size := W_27.size.symm ▸ z_23
  have K_30 := Keep.wr K_24 W_27 (Or.inr g_12)
  have A_31 : Av Z h_26 a_5 .long [.long x, .long y, .long z] := A_28
  refine go_areturn C rfl d1_54 (by decide) (by decide) rfl rfl ?_
  exact ⟨_, rfl, _, rfl, g_12, K_30, A_31⟩
set_option maxRecDepth 65536 in
set_option maxHeartbeats 40000000 in
theorem sat_so0 (l : Launch) (Z : State) (a0 : Array Value) (hw : ∀ d ∈ tables_1, d.before a0 Z = true) (a b : Addr) (h0 : Heap) (n0 : Nat) (A1 : Av Z h0 a .long []) (A2 : Av Z h0 b .long []) :
    Sat l Z (⟨"com/example/holder/holder/protocol/VectorClock", "strictlyOlder", "([J[J)Z"⟩ : MethodName) prog_68_method_5_code 4 (some .boolean) ({ frames := 0, cells := 0, slots := 0, locals := 0 } : Room) [.ref a, .ref b] h0 n0 (RV fun r h => r = .int (bi ((True) ∧ (False))) ∧ h = h0) := by
  refine sat_of (own := "com/example/holder/holder/protocol/VectorClock") (nm := "strictlyOlder") rfl rfl (plainFor_of_name pn_1) #[.val (.ref a), .val (.ref b), .unset, .unset] (fun m => by first | (simp [entryFrame, mkF, argsToLocals, Value.category, maxLocals]; done) | rfl) ?_
  intro p e s m below meth c C
  refine go_iconst C (0 : Int32) d2_0 (pc' := 1) rfl (by decide) ?_
  refine go_istoreN C (Ls' := #[.val (.ref a), .val (.ref b), .val (.int (0 : Int32)), .unset]) d2_1 (pc' := 2) rfl rfl ?_
  refine go_iconst C (0 : Int32) d2_2 (pc' := 3) rfl (by decide) ?_
  refine go_istoreN C (Ls' := #[.val (.ref a), .val (.ref b), .val (.int (0 : Int32)), .val (.int (0 : Int32))]) d2_3 (pc' := 4) rfl rfl ?_
  refine go_iloadN C d2_4 (pc' := 5) rfl rfl ?_
  refine go_aloadN C d2_5 (pc' := 6) rfl rfl rfl ?_
  refine go_arraylength C A1 (0 : Int32) rfl d2_6 (pc' := 7) rfl ?_
  refine go_icmp C (0 : Int) (0 : Int) (by decide) (by decide) d2_7 (by decide) (pc' := 46) (by decide) (pcN := 10) rfl (fun (c_1 : ¬ (0 : Int) < (0 : Int)) => ?_) (fun (c_1 : (0 : Int) < (0 : Int)) => by omega)
  refine go_iloadN C d2_46 (pc' := 47) rfl rfl ?_
  refine go_ireturnN C (z' := (0 : Int32)) rfl (by simp) rfl d2_47 (by decide) (by decide) ?_
  exact ⟨_, rfl, congrArg Value.int (bi0 (fun q => q.2)), rfl⟩
set_option maxRecDepth 65536 in
set_option maxHeartbeats 40000000 in
theorem sat_so1 (l : Launch) (Z : State) (a0 : Array Value) (hw : ∀ d ∈ tables_1, d.before a0 Z = true) (a b : Addr) (x0 : Int64) (y0 : Int64) (h0 : Heap) (n0 : Nat) (A1 : Av Z h0 a .long [.long x0]) (A2 : Av Z h0 b .long [.long y0]) :
    Sat l Z (⟨"com/example/holder/holder/protocol/VectorClock", "strictlyOlder", "([J[J)Z"⟩ : MethodName) prog_68_method_5_code 4 (some .boolean) ({ frames := 0, cells := 0, slots := 0, locals := 0 } : Room) [.ref a, .ref b] h0 n0 (RV fun r h => r = .int (bi ((x0.toInt ≤ y0.toInt) ∧ (x0.toInt < y0.toInt))) ∧ h = h0) := by
  refine sat_of (own := "com/example/holder/holder/protocol/VectorClock") (nm := "strictlyOlder") rfl rfl (plainFor_of_name pn_1) #[.val (.ref a), .val (.ref b), .unset, .unset] (fun m => by first | (simp [entryFrame, mkF, argsToLocals, Value.category, maxLocals]; done) | rfl) ?_
  intro p e s m below meth c C
  refine go_iconst C (0 : Int32) d2_0 (pc' := 1) rfl (by decide) ?_
  refine go_istoreN C (Ls' := #[.val (.ref a), .val (.ref b), .val (.int (0 : Int32)), .unset]) d2_1 (pc' := 2) rfl rfl ?_
  refine go_iconst C (0 : Int32) d2_2 (pc' := 3) rfl (by decide) ?_
  refine go_istoreN C (Ls' := #[.val (.ref a), .val (.ref b), .val (.int (0 : Int32)), .val (.int (0 : Int32))]) d2_3 (pc' := 4) rfl rfl ?_
  refine go_iloadN C d2_4 (pc' := 5) rfl rfl ?_
  refine go_aloadN C d2_5 (pc' := 6) rfl rfl rfl ?_
  refine go_arraylength C A1 (1 : Int32) rfl d2_6 (pc' := 7) rfl ?_
  refine go_icmp C (0 : Int) (1 : Int) (by decide) (by decide) d2_7 (by decide) (pc' := 46) (by decide) (pcN := 10) rfl (fun (c_1 : ¬ (0 : Int) < (1 : Int)) => by omega) (fun (c_1 : (0 : Int) < (1 : Int)) => ?_)
  refine go_aloadN C d2_10 (pc' := 11) rfl rfl rfl ?_
  refine go_iloadN C d2_11 (pc' := 12) rfl rfl ?_
  refine go_laload C A1 0 (.long x0) (by decide) rfl d2_12 (pc' := 13) rfl ?_
  refine go_aloadN C d2_13 (pc' := 14) rfl rfl rfl ?_
  refine go_iloadN C d2_14 (pc' := 15) rfl rfl ?_
  refine go_laload C A2 0 (.long y0) (by decide) rfl d2_15 (pc' := 16) rfl ?_
  refine go_lcmp C x0.toInt y0.toInt rfl rfl d2_16 (pc1 := 17) rfl d2_17 (by decide) (pc' := 22) (by decide) (pcN := 20) rfl (fun (c_2 : ¬ y0.toInt < x0.toInt) => ?_) (fun (c_2 : y0.toInt < x0.toInt) => ?_)
  · skip
    refine go_iloadN C d2_22 (pc' := 23) rfl rfl ?_
    refine go_aloadN C d2_23 (pc' := 24) rfl rfl rfl ?_
    refine go_iloadN C d2_24 (pc' := 25) rfl rfl ?_
    refine go_laload C A1 0 (.long x0) (by decide) rfl d2_25 (pc' := 26) rfl ?_
    refine go_aloadN C d2_26 (pc' := 27) rfl rfl rfl ?_
    refine go_iloadN C d2_27 (pc' := 28) rfl rfl ?_
    refine go_laload C A2 0 (.long y0) (by decide) rfl d2_28 (pc' := 29) rfl ?_
    refine go_lcmp C x0.toInt y0.toInt rfl rfl d2_29 (pc1 := 30) rfl d2_30 (by decide) (pc' := 37) (by decide) (pcN := 33) rfl (fun (c_3 : ¬ x0.toInt < y0.toInt) => ?_) (fun (c_3 : x0.toInt < y0.toInt) => ?_)
    · skip
      refine go_iconst C (0 : Int32) d2_37 (pc' := 38) rfl (by decide) ?_
      refine go_ior C d2_38 (pc' := 39) rfl ?_
      rw [(by decide : (0 : Int32) ||| (0 : Int32) = (0 : Int32))]
      refine go_istoreN C (Ls' := #[.val (.ref a), .val (.ref b), .val (.int (0 : Int32)), .val (.int (0 : Int32))]) d2_39 (pc' := 40) rfl rfl ?_
      refine go_iinc C (Ls' := #[.val (.ref a), .val (.ref b), .val (.int (0 : Int32)), .val (.int ((0 : Int32) + (1 : Int32)))]) (1 : Int32) d2_40 (pc' := 43) rfl (by decide) rfl rfl ?_
      rw [(by decide : (0 : Int32) + (1 : Int32) = (1 : Int32))]
      refine go_goto C d2_43 (by decide) (pc' := 4) (by decide) ?_
      refine go_iloadN C d2_4 (pc' := 5) rfl rfl ?_
      refine go_aloadN C d2_5 (pc' := 6) rfl rfl rfl ?_
      refine go_arraylength C A1 (1 : Int32) rfl d2_6 (pc' := 7) rfl ?_
      refine go_icmp C (1 : Int) (1 : Int) (by decide) (by decide) d2_7 (by decide) (pc' := 46) (by decide) (pcN := 10) rfl (fun (c_4 : ¬ (1 : Int) < (1 : Int)) => ?_) (fun (c_4 : (1 : Int) < (1 : Int)) => by omega)
      refine go_iloadN C d2_46 (pc' := 47) rfl rfl ?_
      refine go_ireturnN C (z' := (0 : Int32)) rfl (by simp) rfl d2_47 (by decide) (by decide) ?_
      exact ⟨_, rfl, congrArg Value.int (bi0 (by omega)), rfl⟩
    · skip
      refine go_iconst C (1 : Int32) d2_33 (pc' := 34) rfl (by decide) ?_
      refine go_goto C d2_34 (by decide) (pc' := 38) (by decide) ?_
      refine go_ior C d2_38 (pc' := 39) rfl ?_
      rw [(by decide : (0 : Int32) ||| (1 : Int32) = (1 : Int32))]
      refine go_istoreN C (Ls' := #[.val (.ref a), .val (.ref b), .val (.int (1 : Int32)), .val (.int (0 : Int32))]) d2_39 (pc' := 40) rfl rfl ?_
      refine go_iinc C (Ls' := #[.val (.ref a), .val (.ref b), .val (.int (1 : Int32)), .val (.int ((0 : Int32) + (1 : Int32)))]) (1 : Int32) d2_40 (pc' := 43) rfl (by decide) rfl rfl ?_
      rw [(by decide : (0 : Int32) + (1 : Int32) = (1 : Int32))]
      refine go_goto C d2_43 (by decide) (pc' := 4) (by decide) ?_
      refine go_iloadN C d2_4 (pc' := 5) rfl rfl ?_
      refine go_aloadN C d2_5 (pc' := 6) rfl rfl rfl ?_
      refine go_arraylength C A1 (1 : Int32) rfl d2_6 (pc' := 7) rfl ?_
      refine go_icmp C (1 : Int) (1 : Int) (by decide) (by decide) d2_7 (by decide) (pc' := 46) (by decide) (pcN := 10) rfl (fun (c_5 : ¬ (1 : Int) < (1 : Int)) => ?_) (fun (c_5 : (1 : Int) < (1 : Int)) => by omega)
      refine go_iloadN C d2_46 (pc' := 47) rfl rfl ?_
      refine go_ireturnN C (z' := (1 : Int32)) rfl (by simp) rfl d2_47 (by decide) (by decide) ?_
      exact ⟨_, rfl, congrArg Value.int (bi1 (by omega)), rfl⟩
  · skip
    refine go_iconst C (0 : Int32) d2_20 (pc' := 21) rfl (by decide) ?_
    refine go_ireturnN C (z' := (0 : Int32)) rfl (by simp) rfl d2_21 (by decide) (by decide) ?_
    exact ⟨_, rfl, congrArg Value.int (bi0 (by omega)), rfl⟩
set_option maxRecDepth 65536 in
set_option maxHeartbeats 40000000 in
theorem sat_so2 (l : Launch) (Z : State) (a0 : Array Value) (hw : ∀ d ∈ tables_1, d.before a0 Z = true) (a b : Addr) (x0 : Int64) (x1 : Int64) (y0 : Int64) (y1 : Int64) (h0 : Heap) (n0 : Nat) (A1 : Av Z h0 a .long [.long x0, .long x1]) (A2 : Av Z h0 b .long [.long y0, .long y1]) :
    Sat l Z (⟨"com/example/holder/holder/protocol/VectorClock", "strictlyOlder", "([J[J)Z"⟩ : MethodName) prog_68_method_5_code 4 (some .boolean) ({ frames := 0, cells := 0, slots := 0, locals := 0 } : Room) [.ref a, .ref b] h0 n0 (RV fun r h => r = .int (bi ((x0.toInt ≤ y0.toInt ∧ x1.toInt ≤ y1.toInt) ∧ (x0.toInt < y0.toInt ∨ x1.toInt < y1.toInt))) ∧ h = h0) := by
  refine sat_of (own := "com/example/holder/holder/protocol/VectorClock") (nm := "strictlyOlder") rfl rfl (plainFor_of_name pn_1) #[.val (.ref a), .val (.ref b), .unset, .unset] (fun m => by first | (simp [entryFrame, mkF, argsToLocals, Value.category, maxLocals]; done) | rfl) ?_
  intro p e s m below meth c C
  refine go_iconst C (0 : Int32) d2_0 (pc' := 1) rfl (by decide) ?_
  refine go_istoreN C (Ls' := #[.val (.ref a), .val (.ref b), .val (.int (0 : Int32)), .unset]) d2_1 (pc' := 2) rfl rfl ?_
  refine go_iconst C (0 : Int32) d2_2 (pc' := 3) rfl (by decide) ?_
  refine go_istoreN C (Ls' := #[.val (.ref a), .val (.ref b), .val (.int (0 : Int32)), .val (.int (0 : Int32))]) d2_3 (pc' := 4) rfl rfl ?_
  refine go_iloadN C d2_4 (pc' := 5) rfl rfl ?_
  refine go_aloadN C d2_5 (pc' := 6) rfl rfl rfl ?_
  refine go_arraylength C A1 (2 : Int32) rfl d2_6 (pc' := 7) rfl ?_
  refine go_icmp C (0 : Int) (2 : Int) (by decide) (by decide) d2_7 (by decide) (pc' := 46) (by decide) (pcN := 10) rfl (fun (c_1 : ¬ (0 : Int) < (2 : Int)) => by omega) (fun (c_1 : (0 : Int) < (2 : Int)) => ?_)
  refine go_aloadN C d2_10 (pc' := 11) rfl rfl rfl ?_
  refine go_iloadN C d2_11 (pc' := 12) rfl rfl ?_
  refine go_laload C A1 0 (.long x0) (by decide) rfl d2_12 (pc' := 13) rfl ?_
  refine go_aloadN C d2_13 (pc' := 14) rfl rfl rfl ?_
  refine go_iloadN C d2_14 (pc' := 15) rfl rfl ?_
  refine go_laload C A2 0 (.long y0) (by decide) rfl d2_15 (pc' := 16) rfl ?_
  refine go_lcmp C x0.toInt y0.toInt rfl rfl d2_16 (pc1 := 17) rfl d2_17 (by decide) (pc' := 22) (by decide) (pcN := 20) rfl (fun (c_2 : ¬ y0.toInt < x0.toInt) => ?_) (fun (c_2 : y0.toInt < x0.toInt) => ?_)
  · skip
    refine go_iloadN C d2_22 (pc' := 23) rfl rfl ?_
    refine go_aloadN C d2_23 (pc' := 24) rfl rfl rfl ?_
    refine go_iloadN C d2_24 (pc' := 25) rfl rfl ?_
    refine go_laload C A1 0 (.long x0) (by decide) rfl d2_25 (pc' := 26) rfl ?_
    refine go_aloadN C d2_26 (pc' := 27) rfl rfl rfl ?_
    refine go_iloadN C d2_27 (pc' := 28) rfl rfl ?_
    refine go_laload C A2 0 (.long y0) (by decide) rfl d2_28 (pc' := 29) rfl ?_
    refine go_lcmp C x0.toInt y0.toInt rfl rfl d2_29 (pc1 := 30) rfl d2_30 (by decide) (pc' := 37) (by decide) (pcN := 33) rfl (fun (c_3 : ¬ x0.toInt < y0.toInt) => ?_) (fun (c_3 : x0.toInt < y0.toInt) => ?_)
    · skip
      refine go_iconst C (0 : Int32) d2_37 (pc' := 38) rfl (by decide) ?_
      refine go_ior C d2_38 (pc' := 39) rfl ?_
      rw [(by decide : (0 : Int32) ||| (0 : Int32) = (0 : Int32))]
      refine go_istoreN C (Ls' := #[.val (.ref a), .val (.ref b), .val (.int (0 : Int32)), .val (.int (0 : Int32))]) d2_39 (pc' := 40) rfl rfl ?_
      refine go_iinc C (Ls' := #[.val (.ref a), .val (.ref b), .val (.int (0 : Int32)), .val (.int ((0 : Int32) + (1 : Int32)))]) (1 : Int32) d2_40 (pc' := 43) rfl (by decide) rfl rfl ?_
      rw [(by decide : (0 : Int32) + (1 : Int32) = (1 : Int32))]
      refine go_goto C d2_43 (by decide) (pc' := 4) (by decide) ?_
      refine go_iloadN C d2_4 (pc' := 5) rfl rfl ?_
      refine go_aloadN C d2_5 (pc' := 6) rfl rfl rfl ?_
      refine go_arraylength C A1 (2 : Int32) rfl d2_6 (pc' := 7) rfl ?_
      refine go_icmp C (1 : Int) (2 : Int) (by decide) (by decide) d2_7 (by decide) (pc' := 46) (by decide) (pcN := 10) rfl (fun (c_4 : ¬ (1 : Int) < (2 : Int)) => by omega) (fun (c_4 : (1 : Int) < (2 : Int)) => ?_)
      refine go_aloadN C d2_10 (pc' := 11) rfl rfl rfl ?_
      refine go_iloadN C d2_11 (pc' := 12) rfl rfl ?_
      refine go_laload C A1 1 (.long x1) (by decide) rfl d2_12 (pc' := 13) rfl ?_
      refine go_aloadN C d2_13 (pc' := 14) rfl rfl rfl ?_
      refine go_iloadN C d2_14 (pc' := 15) rfl rfl ?_
      refine go_laload C A2 1 (.long y1) (by decide) rfl d2_15 (pc' := 16) rfl ?_
      refine go_lcmp C x1.toInt y1.toInt rfl rfl d2_16 (pc1 := 17) rfl d2_17 (by decide) (pc' := 22) (by decide) (pcN := 20) rfl (fun (c_5 : ¬ y1.toInt < x1.toInt) => ?_) (fun (c_5 : y1.toInt < x1.toInt) => ?_)
      · skip
        refine go_iloadN C d2_22 (pc' := 23) rfl rfl ?_
        refine go_aloadN C d2_23 (pc' := 24) rfl rfl rfl ?_
        refine go_iloadN C d2_24 (pc' := 25) rfl rfl ?_
        refine go_laload C A1 1 (.long x1) (by decide) rfl d2_25 (pc' := 26) rfl ?_
        refine go_aloadN C d2_26 (pc' := 27) rfl rfl rfl ?_
        refine go_iloadN C d2_27 (pc' := 28) rfl rfl ?_
        refine go_laload C A2 1 (.long y1) (by decide) rfl d2_28 (pc' := 29) rfl ?_
        refine go_lcmp C x1.toInt y1.toInt rfl rfl d2_29 (pc1 := 30) rfl d2_30 (by decide) (pc' := 37) (by decide) (pcN := 33) rfl (fun (c_6 : ¬ x1.toInt < y1.toInt) => ?_) (fun (c_6 : x1.toInt < y1.toInt) => ?_)
        · skip
          refine go_iconst C (0 : Int32) d2_37 (pc' := 38) rfl (by decide) ?_
          refine go_ior C d2_38 (pc' := 39) rfl ?_
          rw [(by decide : (0 : Int32) ||| (0 : Int32) = (0 : Int32))]
          refine go_istoreN C (Ls' := #[.val (.ref a), .val (.ref b), .val (.int (0 : Int32)), .val (.int (1 : Int32))]) d2_39 (pc' := 40) rfl rfl ?_
          refine go_iinc C (Ls' := #[.val (.ref a), .val (.ref b), .val (.int (0 : Int32)), .val (.int ((1 : Int32) + (1 : Int32)))]) (1 : Int32) d2_40 (pc' := 43) rfl (by decide) rfl rfl ?_
          rw [(by decide : (1 : Int32) + (1 : Int32) = (2 : Int32))]
          refine go_goto C d2_43 (by decide) (pc' := 4) (by decide) ?_
          refine go_iloadN C d2_4 (pc' := 5) rfl rfl ?_
          refine go_aloadN C d2_5 (pc' := 6) rfl rfl rfl ?_
          refine go_arraylength C A1 (2 : Int32) rfl d2_6 (pc' := 7) rfl ?_
          refine go_icmp C (2 : Int) (2 : Int) (by decide) (by decide) d2_7 (by decide) (pc' := 46) (by decide) (pcN := 10) rfl (fun (c_7 : ¬ (2 : Int) < (2 : Int)) => ?_) (fun (c_7 : (2 : Int) < (2 : Int)) => by omega)
          refine go_iloadN C d2_46 (pc' := 47) rfl rfl ?_
          refine go_ireturnN C (z' := (0 : Int32)) rfl (by simp) rfl d2_47 (by decide) (by decide) ?_
          exact ⟨_, rfl, congrArg Value.int (bi0 (by omega)), rfl⟩
        · skip
          refine go_iconst C (1 : Int32) d2_33 (pc' := 34) rfl (by decide) ?_
          refine go_goto C d2_34 (by decide) (pc' := 38) (by decide) ?_
          refine go_ior C d2_38 (pc' := 39) rfl ?_
          rw [(by decide : (0 : Int32) ||| (1 : Int32) = (1 : Int32))]
          refine go_istoreN C (Ls' := #[.val (.ref a), .val (.ref b), .val (.int (1 : Int32)), .val (.int (1 : Int32))]) d2_39 (pc' := 40) rfl rfl ?_
          refine go_iinc C (Ls' := #[.val (.ref a), .val (.ref b), .val (.int (1 : Int32)), .val (.int ((1 : Int32) + (1 : Int32)))]) (1 : Int32) d2_40 (pc' := 43) rfl (by decide) rfl rfl ?_
          rw [(by decide : (1 : Int32) + (1 : Int32) = (2 : Int32))]
          refine go_goto C d2_43 (by decide) (pc' := 4) (by decide) ?_
          refine go_iloadN C d2_4 (pc' := 5) rfl rfl ?_
          refine go_aloadN C d2_5 (pc' := 6) rfl rfl rfl ?_
          refine go_arraylength C A1 (2 : Int32) rfl d2_6 (pc' := 7) rfl ?_
          refine go_icmp C (2 : Int) (2 : Int) (by decide) (by decide) d2_7 (by decide) (pc' := 46) (by decide) (pcN := 10) rfl (fun (c_8 : ¬ (2 : Int) < (2 : Int)) => ?_) (fun (c_8 : (2 : Int) < (2 : Int)) => by omega)
          refine go_iloadN C d2_46 (pc' := 47) rfl rfl ?_
          refine go_ireturnN C (z' := (1 : Int32)) rfl (by simp) rfl d2_47 (by decide) (by decide) ?_
          exact ⟨_, rfl, congrArg Value.int (bi1 (by omega)), rfl⟩
      · skip
        refine go_iconst C (0 : Int32) d2_20 (pc' := 21) rfl (by decide) ?_
        refine go_ireturnN C (z' := (0 : Int32)) rfl (by simp) rfl d2_21 (by decide) (by decide) ?_
        exact ⟨_, rfl, congrArg Value.int (bi0 (by omega)), rfl⟩
    · skip
      refine go_iconst C (1 : Int32) d2_33 (pc' := 34) rfl (by decide) ?_
      refine go_goto C d2_34 (by decide) (pc' := 38) (by decide) ?_
      refine go_ior C d2_38 (pc' := 39) rfl ?_
      rw [(by decide : (0 : Int32) ||| (1 : Int32) = (1 : Int32))]
      refine go_istoreN C (Ls' := #[.val (.ref a), .val (.ref b), .val (.int (1 : Int32)), .val (.int (0 : Int32))]) d2_39 (pc' := 40) rfl rfl ?_
      refine go_iinc C (Ls' := #[.val (.ref a), .val (.ref b), .val (.int (1 : Int32)), .val (.int ((0 : Int32) + (1 : Int32)))]) (1 : Int32) d2_40 (pc' := 43) rfl (by decide) rfl rfl ?_
      rw [(by decide : (0 : Int32) + (1 : Int32) = (1 : Int32))]
      refine go_goto C d2_43 (by decide) (pc' := 4) (by decide) ?_
      refine go_iloadN C d2_4 (pc' := 5) rfl rfl ?_
      refine go_aloadN C d2_5 (pc' := 6) rfl rfl rfl ?_
      refine go_arraylength C A1 (2 : Int32) rfl d2_6 (pc' := 7) rfl ?_
      refine go_icmp C (1 : Int) (2 : Int) (by decide) (by decide) d2_7 (by decide) (pc' := 46) (by decide) (pcN := 10) rfl (fun (c_9 : ¬ (1 : Int) < (2 : Int)) => by omega) (fun (c_9 : (1 : Int) < (2 : Int)) => ?_)
      refine go_aloadN C d2_10 (pc' := 11) rfl rfl rfl ?_
      refine go_iloadN C d2_11 (pc' := 12) rfl rfl ?_
      refine go_laload C A1 1 (.long x1) (by decide) rfl d2_12 (pc' := 13) rfl ?_
      refine go_aloadN C d2_13 (pc' := 14) rfl rfl rfl ?_
      refine go_iloadN C d2_14 (pc' := 15) rfl rfl ?_
      refine go_laload C A2 1 (.long y1) (by decide) rfl d2_15 (pc' := 16) rfl ?_
      refine go_lcmp C x1.toInt y1.toInt rfl rfl d2_16 (pc1 := 17) rfl d2_17 (by decide) (pc' := 22) (by decide) (pcN := 20) rfl (fun (c_10 : ¬ y1.toInt < x1.toInt) => ?_) (fun (c_10 : y1.toInt < x1.toInt) => ?_)
      · skip
        refine go_iloadN C d2_22 (pc' := 23) rfl rfl ?_
        refine go_aloadN C d2_23 (pc' := 24) rfl rfl rfl ?_
        refine go_iloadN C d2_24 (pc' := 25) rfl rfl ?_
        refine go_laload C A1 1 (.long x1) (by decide) rfl d2_25 (pc' := 26) rfl ?_
        refine go_aloadN C d2_26 (pc' := 27) rfl rfl rfl ?_
        refine go_iloadN C d2_27 (pc' := 28) rfl rfl ?_
        refine go_laload C A2 1 (.long y1) (by decide) rfl d2_28 (pc' := 29) rfl ?_
        refine go_lcmp C x1.toInt y1.toInt rfl rfl d2_29 (pc1 := 30) rfl d2_30 (by decide) (pc' := 37) (by decide) (pcN := 33) rfl (fun (c_11 : ¬ x1.toInt < y1.toInt) => ?_) (fun (c_11 : x1.toInt < y1.toInt) => ?_)
        · skip
          refine go_iconst C (0 : Int32) d2_37 (pc' := 38) rfl (by decide) ?_
          refine go_ior C d2_38 (pc' := 39) rfl ?_
          rw [(by decide : (1 : Int32) ||| (0 : Int32) = (1 : Int32))]
          refine go_istoreN C (Ls' := #[.val (.ref a), .val (.ref b), .val (.int (1 : Int32)), .val (.int (1 : Int32))]) d2_39 (pc' := 40) rfl rfl ?_
          refine go_iinc C (Ls' := #[.val (.ref a), .val (.ref b), .val (.int (1 : Int32)), .val (.int ((1 : Int32) + (1 : Int32)))]) (1 : Int32) d2_40 (pc' := 43) rfl (by decide) rfl rfl ?_
          rw [(by decide : (1 : Int32) + (1 : Int32) = (2 : Int32))]
          refine go_goto C d2_43 (by decide) (pc' := 4) (by decide) ?_
          refine go_iloadN C d2_4 (pc' := 5) rfl rfl ?_
          refine go_aloadN C d2_5 (pc' := 6) rfl rfl rfl ?_
          refine go_arraylength C A1 (2 : Int32) rfl d2_6 (pc' := 7) rfl ?_
          refine go_icmp C (2 : Int) (2 : Int) (by decide) (by decide) d2_7 (by decide) (pc' := 46) (by decide) (pcN := 10) rfl (fun (c_12 : ¬ (2 : Int) < (2 : Int)) => ?_) (fun (c_12 : (2 : Int) < (2 : Int)) => by omega)
          refine go_iloadN C d2_46 (pc' := 47) rfl rfl ?_
          refine go_ireturnN C (z' := (1 : Int32)) rfl (by simp) rfl d2_47 (by decide) (by decide) ?_
          exact ⟨_, rfl, congrArg Value.int (bi1 (by omega)), rfl⟩
        · skip
          refine go_iconst C (1 : Int32) d2_33 (pc' := 34) rfl (by decide) ?_
          refine go_goto C d2_34 (by decide) (pc' := 38) (by decide) ?_
          refine go_ior C d2_38 (pc' := 39) rfl ?_
          rw [(by decide : (1 : Int32) ||| (1 : Int32) = (1 : Int32))]
          refine go_istoreN C (Ls' := #[.val (.ref a), .val (.ref b), .val (.int (1 : Int32)), .val (.int (1 : Int32))]) d2_39 (pc' := 40) rfl rfl ?_
          refine go_iinc C (Ls' := #[.val (.ref a), .val (.ref b), .val (.int (1 : Int32)), .val (.int ((1 : Int32) + (1 : Int32)))]) (1 : Int32) d2_40 (pc' := 43) rfl (by decide) rfl rfl ?_
          rw [(by decide : (1 : Int32) + (1 : Int32) = (2 : Int32))]
          refine go_goto C d2_43 (by decide) (pc' := 4) (by decide) ?_
          refine go_iloadN C d2_4 (pc' := 5) rfl rfl ?_
          refine go_aloadN C d2_5 (pc' := 6) rfl rfl rfl ?_
          refine go_arraylength C A1 (2 : Int32) rfl d2_6 (pc' := 7) rfl ?_
          refine go_icmp C (2 : Int) (2 : Int) (by decide) (by decide) d2_7 (by decide) (pc' := 46) (by decide) (pcN := 10) rfl (fun (c_13 : ¬ (2 : Int) < (2 : Int)) => ?_) (fun (c_13 : (2 : Int) < (2 : Int)) => by omega)
          refine go_iloadN C d2_46 (pc' := 47) rfl rfl ?_
          refine go_ireturnN C (z' := (1 : Int32)) rfl (by simp) rfl d2_47 (by decide) (by decide) ?_
          exact ⟨_, rfl, congrArg Value.int (bi1 (by omega)), rfl⟩
      · skip
        refine go_iconst C (0 : Int32) d2_20 (pc' := 21) rfl (by decide) ?_
        refine go_ireturnN C (z' := (0 : Int32)) rfl (by simp) rfl d2_21 (by decide) (by decide) ?_
        exact ⟨_, rfl, congrArg Value.int (bi0 (by omega)), rfl⟩
  · skip
    refine go_iconst C (0 : Int32) d2_20 (pc' := 21) rfl (by decide) ?_
    refine go_ireturnN C (z' := (0 : Int32)) rfl (by simp) rfl d2_21 (by decide) (by decide) ?_
    exact ⟨_, rfl, congrArg Value.int (bi0 (by omega)), rfl⟩
set_option maxRecDepth 65536 in
set_option maxHeartbeats 40000000 in
theorem sat_so3 (l : Launch) (Z : State) (a0 : Array Value) (hw : ∀ d ∈ tables_1, d.before a0 Z = true) (a b : Addr) (x0 : Int64) (x1 : Int64) (x2 : Int64) (y0 : Int64) (y1 : Int64) (y2 : Int64) (h0 : Heap) (n0 : Nat) (A1 : Av Z h0 a .long [.long x0, .long x1, .long x2]) (A2 : Av Z h0 b .long [.long y0, .long y1, .long y2]) :
    Sat l Z (⟨"com/example/holder/holder/protocol/VectorClock", "strictlyOlder", "([J[J)Z"⟩ : MethodName) prog_68_method_5_code 4 (some .boolean) ({ frames := 0, cells := 0, slots := 0, locals := 0 } : Room) [.ref a, .ref b] h0 n0 (RV fun r h => r = .int (bi ((x0.toInt ≤ y0.toInt ∧ x1.toInt ≤ y1.toInt ∧ x2.toInt ≤ y2.toInt) ∧ (x0.toInt < y0.toInt ∨ x1.toInt < y1.toInt ∨ x2.toInt < y2.toInt))) ∧ h = h0) := by
  refine sat_of (own := "com/example/holder/holder/protocol/VectorClock") (nm := "strictlyOlder") rfl rfl (plainFor_of_name pn_1) #[.val (.ref a), .val (.ref b), .unset, .unset] (fun m => by first | (simp [entryFrame, mkF, argsToLocals, Value.category, maxLocals]; done) | rfl) ?_
  intro p e s m below meth c C
  refine go_iconst C (0 : Int32) d2_0 (pc' := 1) rfl (by decide) ?_
  refine go_istoreN C (Ls' := #[.val (.ref a), .val (.ref b), .val (.int (0 : Int32)), .unset]) d2_1 (pc' := 2) rfl rfl ?_
  refine go_iconst C (0 : Int32) d2_2 (pc' := 3) rfl (by decide) ?_
  refine go_istoreN C (Ls' := #[.val (.ref a), .val (.ref b), .val (.int (0 : Int32)), .val (.int (0 : Int32))]) d2_3 (pc' := 4) rfl rfl ?_
  refine go_iloadN C d2_4 (pc' := 5) rfl rfl ?_
  refine go_aloadN C d2_5 (pc' := 6) rfl rfl rfl ?_
  refine go_arraylength C A1 (3 : Int32) rfl d2_6 (pc' := 7) rfl ?_
  refine go_icmp C (0 : Int) (3 : Int) (by decide) (by decide) d2_7 (by decide) (pc' := 46) (by decide) (pcN := 10) rfl (fun (c_1 : ¬ (0 : Int) < (3 : Int)) => by omega) (fun (c_1 : (0 : Int) < (3 : Int)) => ?_)
  refine go_aloadN C d2_10 (pc' := 11) rfl rfl rfl ?_
  refine go_iloadN C d2_11 (pc' := 12) rfl rfl ?_
  refine go_laload C A1 0 (.long x0) (by decide) rfl d2_12 (pc' := 13) rfl ?_
  refine go_aloadN C d2_13 (pc' := 14) rfl rfl rfl ?_
  refine go_iloadN C d2_14 (pc' := 15) rfl rfl ?_
  refine go_laload C A2 0 (.long y0) (by decide) rfl d2_15 (pc' := 16) rfl ?_
  refine go_lcmp C x0.toInt y0.toInt rfl rfl d2_16 (pc1 := 17) rfl d2_17 (by decide) (pc' := 22) (by decide) (pcN := 20) rfl (fun (c_2 : ¬ y0.toInt < x0.toInt) => ?_) (fun (c_2 : y0.toInt < x0.toInt) => ?_)
  · skip
    refine go_iloadN C d2_22 (pc' := 23) rfl rfl ?_
    refine go_aloadN C d2_23 (pc' := 24) rfl rfl rfl ?_
    refine go_iloadN C d2_24 (pc' := 25) rfl rfl ?_
    refine go_laload C A1 0 (.long x0) (by decide) rfl d2_25 (pc' := 26) rfl ?_
    refine go_aloadN C d2_26 (pc' := 27) rfl rfl rfl ?_
    refine go_iloadN C d2_27 (pc' := 28) rfl rfl ?_
    refine go_laload C A2 0 (.long y0) (by decide) rfl d2_28 (pc' := 29) rfl ?_
    refine go_lcmp C x0.toInt y0.toInt rfl rfl d2_29 (pc1 := 30) rfl d2_30 (by decide) (pc' := 37) (by decide) (pcN := 33) rfl (fun (c_3 : ¬ x0.toInt < y0.toInt) => ?_) (fun (c_3 : x0.toInt < y0.toInt) => ?_)
    · skip
      refine go_iconst C (0 : Int32) d2_37 (pc' := 38) rfl (by decide) ?_
      refine go_ior C d2_38 (pc' := 39) rfl ?_
      rw [(by decide : (0 : Int32) ||| (0 : Int32) = (0 : Int32))]
      refine go_istoreN C (Ls' := #[.val (.ref a), .val (.ref b), .val (.int (0 : Int32)), .val (.int (0 : Int32))]) d2_39 (pc' := 40) rfl rfl ?_
      refine go_iinc C (Ls' := #[.val (.ref a), .val (.ref b), .val (.int (0 : Int32)), .val (.int ((0 : Int32) + (1 : Int32)))]) (1 : Int32) d2_40 (pc' := 43) rfl (by decide) rfl rfl ?_
      rw [(by decide : (0 : Int32) + (1 : Int32) = (1 : Int32))]
      refine go_goto C d2_43 (by decide) (pc' := 4) (by decide) ?_
      refine go_iloadN C d2_4 (pc' := 5) rfl rfl ?_
      refine go_aloadN C d2_5 (pc' := 6) rfl rfl rfl ?_
      refine go_arraylength C A1 (3 : Int32) rfl d2_6 (pc' := 7) rfl ?_
      refine go_icmp C (1 : Int) (3 : Int) (by decide) (by decide) d2_7 (by decide) (pc' := 46) (by decide) (pcN := 10) rfl (fun (c_4 : ¬ (1 : Int) < (3 : Int)) => by omega) (fun (c_4 : (1 : Int) < (3 : Int)) => ?_)
      refine go_aloadN C d2_10 (pc' := 11) rfl rfl rfl ?_
      refine go_iloadN C d2_11 (pc' := 12) rfl rfl ?_
      refine go_laload C A1 1 (.long x1) (by decide) rfl d2_12 (pc' := 13) rfl ?_
      refine go_aloadN C d2_13 (pc' := 14) rfl rfl rfl ?_
      refine go_iloadN C d2_14 (pc' := 15) rfl rfl ?_
      refine go_laload C A2 1 (.long y1) (by decide) rfl d2_15 (pc' := 16) rfl ?_
      refine go_lcmp C x1.toInt y1.toInt rfl rfl d2_16 (pc1 := 17) rfl d2_17 (by decide) (pc' := 22) (by decide) (pcN := 20) rfl (fun (c_5 : ¬ y1.toInt < x1.toInt) => ?_) (fun (c_5 : y1.toInt < x1.toInt) => ?_)
      · skip
        refine go_iloadN C d2_22 (pc' := 23) rfl rfl ?_
        refine go_aloadN C d2_23 (pc' := 24) rfl rfl rfl ?_
        refine go_iloadN C d2_24 (pc' := 25) rfl rfl ?_
        refine go_laload C A1 1 (.long x1) (by decide) rfl d2_25 (pc' := 26) rfl ?_
        refine go_aloadN C d2_26 (pc' := 27) rfl rfl rfl ?_
        refine go_iloadN C d2_27 (pc' := 28) rfl rfl ?_
        refine go_laload C A2 1 (.long y1) (by decide) rfl d2_28 (pc' := 29) rfl ?_
        refine go_lcmp C x1.toInt y1.toInt rfl rfl d2_29 (pc1 := 30) rfl d2_30 (by decide) (pc' := 37) (by decide) (pcN := 33) rfl (fun (c_6 : ¬ x1.toInt < y1.toInt) => ?_) (fun (c_6 : x1.toInt < y1.toInt) => ?_)
        · skip
          refine go_iconst C (0 : Int32) d2_37 (pc' := 38) rfl (by decide) ?_
          refine go_ior C d2_38 (pc' := 39) rfl ?_
          rw [(by decide : (0 : Int32) ||| (0 : Int32) = (0 : Int32))]
          refine go_istoreN C (Ls' := #[.val (.ref a), .val (.ref b), .val (.int (0 : Int32)), .val (.int (1 : Int32))]) d2_39 (pc' := 40) rfl rfl ?_
          refine go_iinc C (Ls' := #[.val (.ref a), .val (.ref b), .val (.int (0 : Int32)), .val (.int ((1 : Int32) + (1 : Int32)))]) (1 : Int32) d2_40 (pc' := 43) rfl (by decide) rfl rfl ?_
          rw [(by decide : (1 : Int32) + (1 : Int32) = (2 : Int32))]
          refine go_goto C d2_43 (by decide) (pc' := 4) (by decide) ?_
          refine go_iloadN C d2_4 (pc' := 5) rfl rfl ?_
          refine go_aloadN C d2_5 (pc' := 6) rfl rfl rfl ?_
          refine go_arraylength C A1 (3 : Int32) rfl d2_6 (pc' := 7) rfl ?_
          refine go_icmp C (2 : Int) (3 : Int) (by decide) (by decide) d2_7 (by decide) (pc' := 46) (by decide) (pcN := 10) rfl (fun (c_7 : ¬ (2 : Int) < (3 : Int)) => by omega) (fun (c_7 : (2 : Int) < (3 : Int)) => ?_)
          refine go_aloadN C d2_10 (pc' := 11) rfl rfl rfl ?_
          refine go_iloadN C d2_11 (pc' := 12) rfl rfl ?_
          refine go_laload C A1 2 (.long x2) (by decide) rfl d2_12 (pc' := 13) rfl ?_
          refine go_aloadN C d2_13 (pc' := 14) rfl rfl rfl ?_
          refine go_iloadN C d2_14 (pc' := 15) rfl rfl ?_
          refine go_laload C A2 2 (.long y2) (by decide) rfl d2_15 (pc' := 16) rfl ?_
          refine go_lcmp C x2.toInt y2.toInt rfl rfl d2_16 (pc1 := 17) rfl d2_17 (by decide) (pc' := 22) (by decide) (pcN := 20) rfl (fun (c_8 : ¬ y2.toInt < x2.toInt) => ?_) (fun (c_8 : y2.toInt < x2.toInt) => ?_)
          · skip
            refine go_iloadN C d2_22 (pc' := 23) rfl rfl ?_
            refine go_aloadN C d2_23 (pc' := 24) rfl rfl rfl ?_
            refine go_iloadN C d2_24 (pc' := 25) rfl rfl ?_
            refine go_laload C A1 2 (.long x2) (by decide) rfl d2_25 (pc' := 26) rfl ?_
            refine go_aloadN C d2_26 (pc' := 27) rfl rfl rfl ?_
            refine go_iloadN C d2_27 (pc' := 28) rfl rfl ?_
            refine go_laload C A2 2 (.long y2) (by decide) rfl d2_28 (pc' := 29) rfl ?_
            refine go_lcmp C x2.toInt y2.toInt rfl rfl d2_29 (pc1 := 30) rfl d2_30 (by decide) (pc' := 37) (by decide) (pcN := 33) rfl (fun (c_9 : ¬ x2.toInt < y2.toInt) => ?_) (fun (c_9 : x2.toInt < y2.toInt) => ?_)
            · skip
              refine go_iconst C (0 : Int32) d2_37 (pc' := 38) rfl (by decide) ?_
              refine go_ior C d2_38 (pc' := 39) rfl ?_
              rw [(by decide : (0 : Int32) ||| (0 : Int32) = (0 : Int32))]
              refine go_istoreN C (Ls' := #[.val (.ref a), .val (.ref b), .val (.int (0 : Int32)), .val (.int (2 : Int32))]) d2_39 (pc' := 40) rfl rfl ?_
              refine go_iinc C (Ls' := #[.val (.ref a), .val (.ref b), .val (.int (0 : Int32)), .val (.int ((2 : Int32) + (1 : Int32)))]) (1 : Int32) d2_40 (pc' := 43) rfl (by decide) rfl rfl ?_
              rw [(by decide : (2 : Int32) + (1 : Int32) = (3 : Int32))]
              refine go_goto C d2_43 (by decide) (pc' := 4) (by decide) ?_
              refine go_iloadN C d2_4 (pc' := 5) rfl rfl ?_
              refine go_aloadN C d2_5 (pc' := 6) rfl rfl rfl ?_
              refine go_arraylength C A1 (3 : Int32) rfl d2_6 (pc' := 7) rfl ?_
              refine go_icmp C (3 : Int) (3 : Int) (by decide) (by decide) d2_7 (by decide) (pc' := 46) (by decide) (pcN := 10) rfl (fun (c_10 : ¬ (3 : Int) < (3 : Int)) => ?_) (fun (c_10 : (3 : Int) < (3 : Int)) => by omega)
              refine go_iloadN C d2_46 (pc' := 47) rfl rfl ?_
              refine go_ireturnN C (z' := (0 : Int32)) rfl (by simp) rfl d2_47 (by decide) (by decide) ?_
              exact ⟨_, rfl, congrArg Value.int (bi0 (by omega)), rfl⟩
            · skip
              refine go_iconst C (1 : Int32) d2_33 (pc' := 34) rfl (by decide) ?_
              refine go_goto C d2_34 (by decide) (pc' := 38) (by decide) ?_
              refine go_ior C d2_38 (pc' := 39) rfl ?_
              rw [(by decide : (0 : Int32) ||| (1 : Int32) = (1 : Int32))]
              refine go_istoreN C (Ls' := #[.val (.ref a), .val (.ref b), .val (.int (1 : Int32)), .val (.int (2 : Int32))]) d2_39 (pc' := 40) rfl rfl ?_
              refine go_iinc C (Ls' := #[.val (.ref a), .val (.ref b), .val (.int (1 : Int32)), .val (.int ((2 : Int32) + (1 : Int32)))]) (1 : Int32) d2_40 (pc' := 43) rfl (by decide) rfl rfl ?_
              rw [(by decide : (2 : Int32) + (1 : Int32) = (3 : Int32))]
              refine go_goto C d2_43 (by decide) (pc' := 4) (by decide) ?_
              refine go_iloadN C d2_4 (pc' := 5) rfl rfl ?_
              refine go_aloadN C d2_5 (pc' := 6) rfl rfl rfl ?_
              refine go_arraylength C A1 (3 : Int32) rfl d2_6 (pc' := 7) rfl ?_
              refine go_icmp C (3 : Int) (3 : Int) (by decide) (by decide) d2_7 (by decide) (pc' := 46) (by decide) (pcN := 10) rfl (fun (c_11 : ¬ (3 : Int) < (3 : Int)) => ?_) (fun (c_11 : (3 : Int) < (3 : Int)) => by omega)
              refine go_iloadN C d2_46 (pc' := 47) rfl rfl ?_
              refine go_ireturnN C (z' := (1 : Int32)) rfl (by simp) rfl d2_47 (by decide) (by decide) ?_
              exact ⟨_, rfl, congrArg Value.int (bi1 (by omega)), rfl⟩
          · skip
            refine go_iconst C (0 : Int32) d2_20 (pc' := 21) rfl (by decide) ?_
            refine go_ireturnN C (z' := (0 : Int32)) rfl (by simp) rfl d2_21 (by decide) (by decide) ?_
            exact ⟨_, rfl, congrArg Value.int (bi0 (by omega)), rfl⟩
        · skip
          refine go_iconst C (1 : Int32) d2_33 (pc' := 34) rfl (by decide) ?_
          refine go_goto C d2_34 (by decide) (pc' := 38) (by decide) ?_
          refine go_ior C d2_38 (pc' := 39) rfl ?_
          rw [(by decide : (0 : Int32) ||| (1 : Int32) = (1 : Int32))]
          refine go_istoreN C (Ls' := #[.val (.ref a), .val (.ref b), .val (.int (1 : Int32)), .val (.int (1 : Int32))]) d2_39 (pc' := 40) rfl rfl ?_
          refine go_iinc C (Ls' := #[.val (.ref a), .val (.ref b), .val (.int (1 : Int32)), .val (.int ((1 : Int32) + (1 : Int32)))]) (1 : Int32) d2_40 (pc' := 43) rfl (by decide) rfl rfl ?_
          rw [(by decide : (1 : Int32) + (1 : Int32) = (2 : Int32))]
          refine go_goto C d2_43 (by decide) (pc' := 4) (by decide) ?_
          refine go_iloadN C d2_4 (pc' := 5) rfl rfl ?_
          refine go_aloadN C d2_5 (pc' := 6) rfl rfl rfl ?_
          refine go_arraylength C A1 (3 : Int32) rfl d2_6 (pc' := 7) rfl ?_
          refine go_icmp C (2 : Int) (3 : Int) (by decide) (by decide) d2_7 (by decide) (pc' := 46) (by decide) (pcN := 10) rfl (fun (c_12 : ¬ (2 : Int) < (3 : Int)) => by omega) (fun (c_12 : (2 : Int) < (3 : Int)) => ?_)
          refine go_aloadN C d2_10 (pc' := 11) rfl rfl rfl ?_
          refine go_iloadN C d2_11 (pc' := 12) rfl rfl ?_
          refine go_laload C A1 2 (.long x2) (by decide) rfl d2_12 (pc' := 13) rfl ?_
          refine go_aloadN C d2_13 (pc' := 14) rfl rfl rfl ?_
          refine go_iloadN C d2_14 (pc' := 15) rfl rfl ?_
          refine go_laload C A2 2 (.long y2) (by decide) rfl d2_15 (pc' := 16) rfl ?_
          refine go_lcmp C x2.toInt y2.toInt rfl rfl d2_16 (pc1 := 17) rfl d2_17 (by decide) (pc' := 22) (by decide) (pcN := 20) rfl (fun (c_13 : ¬ y2.toInt < x2.toInt) => ?_) (fun (c_13 : y2.toInt < x2.toInt) => ?_)
          · skip
            refine go_iloadN C d2_22 (pc' := 23) rfl rfl ?_
            refine go_aloadN C d2_23 (pc' := 24) rfl rfl rfl ?_
            refine go_iloadN C d2_24 (pc' := 25) rfl rfl ?_
            refine go_laload C A1 2 (.long x2) (by decide) rfl d2_25 (pc' := 26) rfl ?_
            refine go_aloadN C d2_26 (pc' := 27) rfl rfl rfl ?_
            refine go_iloadN C d2_27 (pc' := 28) rfl rfl ?_
            refine go_laload C A2 2 (.long y2) (by decide) rfl d2_28 (pc' := 29) rfl ?_
            refine go_lcmp C x2.toInt y2.toInt rfl rfl d2_29 (pc1 := 30) rfl d2_30 (by decide) (pc' := 37) (by decide) (pcN := 33) rfl (fun (c_14 : ¬ x2.toInt < y2.toInt) => ?_) (fun (c_14 : x2.toInt < y2.toInt) => ?_)
            · skip
              refine go_iconst C (0 : Int32) d2_37 (pc' := 38) rfl (by decide) ?_
              refine go_ior C d2_38 (pc' := 39) rfl ?_
              rw [(by decide : (1 : Int32) ||| (0 : Int32) = (1 : Int32))]
              refine go_istoreN C (Ls' := #[.val (.ref a), .val (.ref b), .val (.int (1 : Int32)), .val (.int (2 : Int32))]) d2_39 (pc' := 40) rfl rfl ?_
              refine go_iinc C (Ls' := #[.val (.ref a), .val (.ref b), .val (.int (1 : Int32)), .val (.int ((2 : Int32) + (1 : Int32)))]) (1 : Int32) d2_40 (pc' := 43) rfl (by decide) rfl rfl ?_
              rw [(by decide : (2 : Int32) + (1 : Int32) = (3 : Int32))]
              refine go_goto C d2_43 (by decide) (pc' := 4) (by decide) ?_
              refine go_iloadN C d2_4 (pc' := 5) rfl rfl ?_
              refine go_aloadN C d2_5 (pc' := 6) rfl rfl rfl ?_
              refine go_arraylength C A1 (3 : Int32) rfl d2_6 (pc' := 7) rfl ?_
              refine go_icmp C (3 : Int) (3 : Int) (by decide) (by decide) d2_7 (by decide) (pc' := 46) (by decide) (pcN := 10) rfl (fun (c_15 : ¬ (3 : Int) < (3 : Int)) => ?_) (fun (c_15 : (3 : Int) < (3 : Int)) => by omega)
              refine go_iloadN C d2_46 (pc' := 47) rfl rfl ?_
              refine go_ireturnN C (z' := (1 : Int32)) rfl (by simp) rfl d2_47 (by decide) (by decide) ?_
              exact ⟨_, rfl, congrArg Value.int (bi1 (by omega)), rfl⟩
            · skip
              refine go_iconst C (1 : Int32) d2_33 (pc' := 34) rfl (by decide) ?_
              refine go_goto C d2_34 (by decide) (pc' := 38) (by decide) ?_
              refine go_ior C d2_38 (pc' := 39) rfl ?_
              rw [(by decide : (1 : Int32) ||| (1 : Int32) = (1 : Int32))]
              refine go_istoreN C (Ls' := #[.val (.ref a), .val (.ref b), .val (.int (1 : Int32)), .val (.int (2 : Int32))]) d2_39 (pc' := 40) rfl rfl ?_
              refine go_iinc C (Ls' := #[.val (.ref a), .val (.ref b), .val (.int (1 : Int32)), .val (.int ((2 : Int32) + (1 : Int32)))]) (1 : Int32) d2_40 (pc' := 43) rfl (by decide) rfl rfl ?_
              rw [(by decide : (2 : Int32) + (1 : Int32) = (3 : Int32))]
              refine go_goto C d2_43 (by decide) (pc' := 4) (by decide) ?_
              refine go_iloadN C d2_4 (pc' := 5) rfl rfl ?_
              refine go_aloadN C d2_5 (pc' := 6) rfl rfl rfl ?_
              refine go_arraylength C A1 (3 : Int32) rfl d2_6 (pc' := 7) rfl ?_
              refine go_icmp C (3 : Int) (3 : Int) (by decide) (by decide) d2_7 (by decide) (pc' := 46) (by decide) (pcN := 10) rfl (fun (c_16 : ¬ (3 : Int) < (3 : Int)) => ?_) (fun (c_16 : (3 : Int) < (3 : Int)) => by omega)
              refine go_iloadN C d2_46 (pc' := 47) rfl rfl ?_
              refine go_ireturnN C (z' := (1 : Int32)) rfl (by simp) rfl d2_47 (by decide) (by decide) ?_
              exact ⟨_, rfl, congrArg Value.int (bi1 (by omega)), rfl⟩
          · skip
            refine go_iconst C (0 : Int32) d2_20 (pc' := 21) rfl (by decide) ?_
            refine go_ireturnN C (z' := (0 : Int32)) rfl (by simp) rfl d2_21 (by decide) (by decide) ?_
            exact ⟨_, rfl, congrArg Value.int (bi0 (by omega)), rfl⟩
      · skip
        refine go_iconst C (0 : Int32) d2_20 (pc' := 21) rfl (by decide) ?_
        refine go_ireturnN C (z' := (0 : Int32)) rfl (by simp) rfl d2_21 (by decide) (by decide) ?_
        exact ⟨_, rfl, congrArg Value.int (bi0 (by omega)), rfl⟩
    · skip
      refine go_iconst C (1 : Int32) d2_33 (pc' := 34) rfl (by decide) ?_
      refine go_goto C d2_34 (by decide) (pc' := 38) (by decide) ?_
      refine go_ior C d2_38 (pc' := 39) rfl ?_
      rw [(by decide : (0 : Int32) ||| (1 : Int32) = (1 : Int32))]
      refine go_istoreN C (Ls' := #[.val (.ref a), .val (.ref b), .val (.int (1 : Int32)), .val (.int (0 : Int32))]) d2_39 (pc' := 40) rfl rfl ?_
      refine go_iinc C (Ls' := #[.val (.ref a), .val (.ref b), .val (.int (1 : Int32)), .val (.int ((0 : Int32) + (1 : Int32)))]) (1 : Int32) d2_40 (pc' := 43) rfl (by decide) rfl rfl ?_
      rw [(by decide : (0 : Int32) + (1 : Int32) = (1 : Int32))]
      refine go_goto C d2_43 (by decide) (pc' := 4) (by decide) ?_
      refine go_iloadN C d2_4 (pc' := 5) rfl rfl ?_
      refine go_aloadN C d2_5 (pc' := 6) rfl rfl rfl ?_
      refine go_arraylength C A1 (3 : Int32) rfl d2_6 (pc' := 7) rfl ?_
      refine go_icmp C (1 : Int) (3 : Int) (by decide) (by decide) d2_7 (by decide) (pc' := 46) (by decide) (pcN := 10) rfl (fun (c_17 : ¬ (1 : Int) < (3 : Int)) => by omega) (fun (c_17 : (1 : Int) < (3 : Int)) => ?_)
      refine go_aloadN C d2_10 (pc' := 11) rfl rfl rfl ?_
      refine go_iloadN C d2_11 (pc' := 12) rfl rfl ?_
      refine go_laload C A1 1 (.long x1) (by decide) rfl d2_12 (pc' := 13) rfl ?_
      refine go_aloadN C d2_13 (pc' := 14) rfl rfl rfl ?_
      refine go_iloadN C d2_14 (pc' := 15) rfl rfl ?_
      refine go_laload C A2 1 (.long y1) (by decide) rfl d2_15 (pc' := 16) rfl ?_
      refine go_lcmp C x1.toInt y1.toInt rfl rfl d2_16 (pc1 := 17) rfl d2_17 (by decide) (pc' := 22) (by decide) (pcN := 20) rfl (fun (c_18 : ¬ y1.toInt < x1.toInt) => ?_) (fun (c_18 : y1.toInt < x1.toInt) => ?_)
      · skip
        refine go_iloadN C d2_22 (pc' := 23) rfl rfl ?_
        refine go_aloadN C d2_23 (pc' := 24) rfl rfl rfl ?_
        refine go_iloadN C d2_24 (pc' := 25) rfl rfl ?_
        refine go_laload C A1 1 (.long x1) (by decide) rfl d2_25 (pc' := 26) rfl ?_
        refine go_aloadN C d2_26 (pc' := 27) rfl rfl rfl ?_
        refine go_iloadN C d2_27 (pc' := 28) rfl rfl ?_
        refine go_laload C A2 1 (.long y1) (by decide) rfl d2_28 (pc' := 29) rfl ?_
        refine go_lcmp C x1.toInt y1.toInt rfl rfl d2_29 (pc1 := 30) rfl d2_30 (by decide) (pc' := 37) (by decide) (pcN := 33) rfl (fun (c_19 : ¬ x1.toInt < y1.toInt) => ?_) (fun (c_19 : x1.toInt < y1.toInt) => ?_)
        · skip
          refine go_iconst C (0 : Int32) d2_37 (pc' := 38) rfl (by decide) ?_
          refine go_ior C d2_38 (pc' := 39) rfl ?_
          rw [(by decide : (1 : Int32) ||| (0 : Int32) = (1 : Int32))]
          refine go_istoreN C (Ls' := #[.val (.ref a), .val (.ref b), .val (.int (1 : Int32)), .val (.int (1 : Int32))]) d2_39 (pc' := 40) rfl rfl ?_
          refine go_iinc C (Ls' := #[.val (.ref a), .val (.ref b), .val (.int (1 : Int32)), .val (.int ((1 : Int32) + (1 : Int32)))]) (1 : Int32) d2_40 (pc' := 43) rfl (by decide) rfl rfl ?_
          rw [(by decide : (1 : Int32) + (1 : Int32) = (2 : Int32))]
          refine go_goto C d2_43 (by decide) (pc' := 4) (by decide) ?_
          refine go_iloadN C d2_4 (pc' := 5) rfl rfl ?_
          refine go_aloadN C d2_5 (pc' := 6) rfl rfl rfl ?_
          refine go_arraylength C A1 (3 : Int32) rfl d2_6 (pc' := 7) rfl ?_
          refine go_icmp C (2 : Int) (3 : Int) (by decide) (by decide) d2_7 (by decide) (pc' := 46) (by decide) (pcN := 10) rfl (fun (c_20 : ¬ (2 : Int) < (3 : Int)) => by omega) (fun (c_20 : (2 : Int) < (3 : Int)) => ?_)
          refine go_aloadN C d2_10 (pc' := 11) rfl rfl rfl ?_
          refine go_iloadN C d2_11 (pc' := 12) rfl rfl ?_
          refine go_laload C A1 2 (.long x2) (by decide) rfl d2_12 (pc' := 13) rfl ?_
          refine go_aloadN C d2_13 (pc' := 14) rfl rfl rfl ?_
          refine go_iloadN C d2_14 (pc' := 15) rfl rfl ?_
          refine go_laload C A2 2 (.long y2) (by decide) rfl d2_15 (pc' := 16) rfl ?_
          refine go_lcmp C x2.toInt y2.toInt rfl rfl d2_16 (pc1 := 17) rfl d2_17 (by decide) (pc' := 22) (by decide) (pcN := 20) rfl (fun (c_21 : ¬ y2.toInt < x2.toInt) => ?_) (fun (c_21 : y2.toInt < x2.toInt) => ?_)
          · skip
            refine go_iloadN C d2_22 (pc' := 23) rfl rfl ?_
            refine go_aloadN C d2_23 (pc' := 24) rfl rfl rfl ?_
            refine go_iloadN C d2_24 (pc' := 25) rfl rfl ?_
            refine go_laload C A1 2 (.long x2) (by decide) rfl d2_25 (pc' := 26) rfl ?_
            refine go_aloadN C d2_26 (pc' := 27) rfl rfl rfl ?_
            refine go_iloadN C d2_27 (pc' := 28) rfl rfl ?_
            refine go_laload C A2 2 (.long y2) (by decide) rfl d2_28 (pc' := 29) rfl ?_
            refine go_lcmp C x2.toInt y2.toInt rfl rfl d2_29 (pc1 := 30) rfl d2_30 (by decide) (pc' := 37) (by decide) (pcN := 33) rfl (fun (c_22 : ¬ x2.toInt < y2.toInt) => ?_) (fun (c_22 : x2.toInt < y2.toInt) => ?_)
            · skip
              refine go_iconst C (0 : Int32) d2_37 (pc' := 38) rfl (by decide) ?_
              refine go_ior C d2_38 (pc' := 39) rfl ?_
              rw [(by decide : (1 : Int32) ||| (0 : Int32) = (1 : Int32))]
              refine go_istoreN C (Ls' := #[.val (.ref a), .val (.ref b), .val (.int (1 : Int32)), .val (.int (2 : Int32))]) d2_39 (pc' := 40) rfl rfl ?_
              refine go_iinc C (Ls' := #[.val (.ref a), .val (.ref b), .val (.int (1 : Int32)), .val (.int ((2 : Int32) + (1 : Int32)))]) (1 : Int32) d2_40 (pc' := 43) rfl (by decide) rfl rfl ?_
              rw [(by decide : (2 : Int32) + (1 : Int32) = (3 : Int32))]
              refine go_goto C d2_43 (by decide) (pc' := 4) (by decide) ?_
              refine go_iloadN C d2_4 (pc' := 5) rfl rfl ?_
              refine go_aloadN C d2_5 (pc' := 6) rfl rfl rfl ?_
              refine go_arraylength C A1 (3 : Int32) rfl d2_6 (pc' := 7) rfl ?_
              refine go_icmp C (3 : Int) (3 : Int) (by decide) (by decide) d2_7 (by decide) (pc' := 46) (by decide) (pcN := 10) rfl (fun (c_23 : ¬ (3 : Int) < (3 : Int)) => ?_) (fun (c_23 : (3 : Int) < (3 : Int)) => by omega)
              refine go_iloadN C d2_46 (pc' := 47) rfl rfl ?_
              refine go_ireturnN C (z' := (1 : Int32)) rfl (by simp) rfl d2_47 (by decide) (by decide) ?_
              exact ⟨_, rfl, congrArg Value.int (bi1 (by omega)), rfl⟩
            · skip
              refine go_iconst C (1 : Int32) d2_33 (pc' := 34) rfl (by decide) ?_
              refine go_goto C d2_34 (by decide) (pc' := 38) (by decide) ?_
              refine go_ior C d2_38 (pc' := 39) rfl ?_
              rw [(by decide : (1 : Int32) ||| (1 : Int32) = (1 : Int32))]
              refine go_istoreN C (Ls' := #[.val (.ref a), .val (.ref b), .val (.int (1 : Int32)), .val (.int (2 : Int32))]) d2_39 (pc' := 40) rfl rfl ?_
              refine go_iinc C (Ls' := #[.val (.ref a), .val (.ref b), .val (.int (1 : Int32)), .val (.int ((2 : Int32) + (1 : Int32)))]) (1 : Int32) d2_40 (pc' := 43) rfl (by decide) rfl rfl ?_
              rw [(by decide : (2 : Int32) + (1 : Int32) = (3 : Int32))]
              refine go_goto C d2_43 (by decide) (pc' := 4) (by decide) ?_
              refine go_iloadN C d2_4 (pc' := 5) rfl rfl ?_
              refine go_aloadN C d2_5 (pc' := 6) rfl rfl rfl ?_
              refine go_arraylength C A1 (3 : Int32) rfl d2_6 (pc' := 7) rfl ?_
              refine go_icmp C (3 : Int) (3 : Int) (by decide) (by decide) d2_7 (by decide) (pc' := 46) (by decide) (pcN := 10) rfl (fun (c_24 : ¬ (3 : Int) < (3 : Int)) => ?_) (fun (c_24 : (3 : Int) < (3 : Int)) => by omega)
              refine go_iloadN C d2_46 (pc' := 47) rfl rfl ?_
              refine go_ireturnN C (z' := (1 : Int32)) rfl (by simp) rfl d2_47 (by decide) (by decide) ?_
              exact ⟨_, rfl, congrArg Value.int (bi1 (by omega)), rfl⟩
          · skip
            refine go_iconst C (0 : Int32) d2_20 (pc' := 21) rfl (by decide) ?_
            refine go_ireturnN C (z' := (0 : Int32)) rfl (by simp) rfl d2_21 (by decide) (by decide) ?_
            exact ⟨_, rfl, congrArg Value.int (bi0 (by omega)), rfl⟩
        · skip
          refine go_iconst C (1 : Int32) d2_33 (pc' := 34) rfl (by decide) ?_
          refine go_goto C d2_34 (by decide) (pc' := 38) (by decide) ?_
          refine go_ior C d2_38 (pc' := 39) rfl ?_
          rw [(by decide : (1 : Int32) ||| (1 : Int32) = (1 : Int32))]
          refine go_istoreN C (Ls' := #[.val (.ref a), .val (.ref b), .val (.int (1 : Int32)), .val (.int (1 : Int32))]) d2_39 (pc' := 40) rfl rfl ?_
          refine go_iinc C (Ls' := #[.val (.ref a), .val (.ref b), .val (.int (1 : Int32)), .val (.int ((1 : Int32) + (1 : Int32)))]) (1 : Int32) d2_40 (pc' := 43) rfl (by decide) rfl rfl ?_
          rw [(by decide : (1 : Int32) + (1 : Int32) = (2 : Int32))]
          refine go_goto C d2_43 (by decide) (pc' := 4) (by decide) ?_
          refine go_iloadN C d2_4 (pc' := 5) rfl rfl ?_
          refine go_aloadN C d2_5 (pc' := 6) rfl rfl rfl ?_
          refine go_arraylength C A1 (3 : Int32) rfl d2_6 (pc' := 7) rfl ?_
          refine go_icmp C (2 : Int) (3 : Int) (by decide) (by decide) d2_7 (by decide) (pc' := 46) (by decide) (pcN := 10) rfl (fun (c_25 : ¬ (2 : Int) < (3 : Int)) => by omega) (fun (c_25 : (2 : Int) < (3 : Int)) => ?_)
          refine go_aloadN C d2_10 (pc' := 11) rfl rfl rfl ?_
          refine go_iloadN C d2_11 (pc' := 12) rfl rfl ?_
          refine go_laload C A1 2 (.long x2) (by decide) rfl d2_12 (pc' := 13) rfl ?_
          refine go_aloadN C d2_13 (pc' := 14) rfl rfl rfl ?_
          refine go_iloadN C d2_14 (pc' := 15) rfl rfl ?_
          refine go_laload C A2 2 (.long y2) (by decide) rfl d2_15 (pc' := 16) rfl ?_
          refine go_lcmp C x2.toInt y2.toInt rfl rfl d2_16 (pc1 := 17) rfl d2_17 (by decide) (pc' := 22) (by decide) (pcN := 20) rfl (fun (c_26 : ¬ y2.toInt < x2.toInt) => ?_) (fun (c_26 : y2.toInt < x2.toInt) => ?_)
          · skip
            refine go_iloadN C d2_22 (pc' := 23) rfl rfl ?_
            refine go_aloadN C d2_23 (pc' := 24) rfl rfl rfl ?_
            refine go_iloadN C d2_24 (pc' := 25) rfl rfl ?_
            refine go_laload C A1 2 (.long x2) (by decide) rfl d2_25 (pc' := 26) rfl ?_
            refine go_aloadN C d2_26 (pc' := 27) rfl rfl rfl ?_
            refine go_iloadN C d2_27 (pc' := 28) rfl rfl ?_
            refine go_laload C A2 2 (.long y2) (by decide) rfl d2_28 (pc' := 29) rfl ?_
            refine go_lcmp C x2.toInt y2.toInt rfl rfl d2_29 (pc1 := 30) rfl d2_30 (by decide) (pc' := 37) (by decide) (pcN := 33) rfl (fun (c_27 : ¬ x2.toInt < y2.toInt) => ?_) (fun (c_27 : x2.toInt < y2.toInt) => ?_)
            · skip
              refine go_iconst C (0 : Int32) d2_37 (pc' := 38) rfl (by decide) ?_
              refine go_ior C d2_38 (pc' := 39) rfl ?_
              rw [(by decide : (1 : Int32) ||| (0 : Int32) = (1 : Int32))]
              refine go_istoreN C (Ls' := #[.val (.ref a), .val (.ref b), .val (.int (1 : Int32)), .val (.int (2 : Int32))]) d2_39 (pc' := 40) rfl rfl ?_
              refine go_iinc C (Ls' := #[.val (.ref a), .val (.ref b), .val (.int (1 : Int32)), .val (.int ((2 : Int32) + (1 : Int32)))]) (1 : Int32) d2_40 (pc' := 43) rfl (by decide) rfl rfl ?_
              rw [(by decide : (2 : Int32) + (1 : Int32) = (3 : Int32))]
              refine go_goto C d2_43 (by decide) (pc' := 4) (by decide) ?_
              refine go_iloadN C d2_4 (pc' := 5) rfl rfl ?_
              refine go_aloadN C d2_5 (pc' := 6) rfl rfl rfl ?_
              refine go_arraylength C A1 (3 : Int32) rfl d2_6 (pc' := 7) rfl ?_
              refine go_icmp C (3 : Int) (3 : Int) (by decide) (by decide) d2_7 (by decide) (pc' := 46) (by decide) (pcN := 10) rfl (fun (c_28 : ¬ (3 : Int) < (3 : Int)) => ?_) (fun (c_28 : (3 : Int) < (3 : Int)) => by omega)
              refine go_iloadN C d2_46 (pc' := 47) rfl rfl ?_
              refine go_ireturnN C (z' := (1 : Int32)) rfl (by simp) rfl d2_47 (by decide) (by decide) ?_
              exact ⟨_, rfl, congrArg Value.int (bi1 (by omega)), rfl⟩
            · skip
              refine go_iconst C (1 : Int32) d2_33 (pc' := 34) rfl (by decide) ?_
              refine go_goto C d2_34 (by decide) (pc' := 38) (by decide) ?_
              refine go_ior C d2_38 (pc' := 39) rfl ?_
              rw [(by decide : (1 : Int32) ||| (1 : Int32) = (1 : Int32))]
              refine go_istoreN C (Ls' := #[.val (.ref a), .val (.ref b), .val (.int (1 : Int32)), .val (.int (2 : Int32))]) d2_39 (pc' := 40) rfl rfl ?_
              refine go_iinc C (Ls' := #[.val (.ref a), .val (.ref b), .val (.int (1 : Int32)), .val (.int ((2 : Int32) + (1 : Int32)))]) (1 : Int32) d2_40 (pc' := 43) rfl (by decide) rfl rfl ?_
              rw [(by decide : (2 : Int32) + (1 : Int32) = (3 : Int32))]
              refine go_goto C d2_43 (by decide) (pc' := 4) (by decide) ?_
              refine go_iloadN C d2_4 (pc' := 5) rfl rfl ?_
              refine go_aloadN C d2_5 (pc' := 6) rfl rfl rfl ?_
              refine go_arraylength C A1 (3 : Int32) rfl d2_6 (pc' := 7) rfl ?_
              refine go_icmp C (3 : Int) (3 : Int) (by decide) (by decide) d2_7 (by decide) (pc' := 46) (by decide) (pcN := 10) rfl (fun (c_29 : ¬ (3 : Int) < (3 : Int)) => ?_) (fun (c_29 : (3 : Int) < (3 : Int)) => by omega)
              refine go_iloadN C d2_46 (pc' := 47) rfl rfl ?_
              refine go_ireturnN C (z' := (1 : Int32)) rfl (by simp) rfl d2_47 (by decide) (by decide) ?_
              exact ⟨_, rfl, congrArg Value.int (bi1 (by omega)), rfl⟩
          · skip
            refine go_iconst C (0 : Int32) d2_20 (pc' := 21) rfl (by decide) ?_
            refine go_ireturnN C (z' := (0 : Int32)) rfl (by simp) rfl d2_21 (by decide) (by decide) ?_
            exact ⟨_, rfl, congrArg Value.int (bi0 (by omega)), rfl⟩
      · skip
        refine go_iconst C (0 : Int32) d2_20 (pc' := 21) rfl (by decide) ?_
        refine go_ireturnN C (z' := (0 : Int32)) rfl (by simp) rfl d2_21 (by decide) (by decide) ?_
        exact ⟨_, rfl, congrArg Value.int (bi0 (by omega)), rfl⟩
  · skip
    refine go_iconst C (0 : Int32) d2_20 (pc' := 21) rfl (by decide) ?_
    refine go_ireturnN C (z' := (0 : Int32)) rfl (by simp) rfl d2_21 (by decide) (by decide) ?_
    exact ⟨_, rfl, congrArg Value.int (bi0 (by omega)), rfl⟩
theorem own_k4 (x : Int32) : (x &&& (3 : Int32)) = 0 ∨ (x &&& (3 : Int32)) = 1 ∨ (x &&& (3 : Int32)) = 2 ∨ (x &&& (3 : Int32)) = 3 := by
  have h : (x &&& (3 : Int32)).toInt = x.toInt % 2 ^ 2 := Jvm.Kit.i32_mask x _ (k := 2) (by decide) (by decide)
  have : x.toInt % 2 ^ 2 = 0 ∨ x.toInt % 2 ^ 2 = 1 ∨ x.toInt % 2 ^ 2 = 2 ∨ x.toInt % 2 ^ 2 = 3 := by omega
  rcases this with q | q | q | q
  · exact Or.inl (int_eq (h.trans q))
  · exact Or.inr (Or.inl (int_eq (h.trans q)))
  · exact Or.inr (Or.inr (Or.inl (int_eq (h.trans q))))
  · exact Or.inr (Or.inr (Or.inr (int_eq (h.trans q))))
set_option maxRecDepth 65536 in
set_option maxHeartbeats 40000000 in
theorem law_sat (l : Launch) (Z : State) (a0 : Array Value) (hw : ∀ d ∈ tables_1, d.before a0 Z = true) (s0 : Int32) (p0 p1 q0 q1 cc : Int64)  :
    Sat l Z x code maxLocals ret room_1 [.int s0, .long p0, .long p1, .long q0, .long q1, .long cc] Z.heap Z.heap.size (RV fun r _ => r = .int 1) := by
  refine sat_of (own := "com/example/holder/holder/protocol/VectorClockStrictlyOlderPinLaw") (nm := "law") rfl rfl (plainFor_of_name pn_0) #[.val (.int s0), .val (.long p0), .second, .val (.long p1), .second, .val (.long q0), .second, .val (.long q1), .second, .val (.long cc), .second, .unset, .unset, .unset, .unset, .unset, .unset, .unset, .unset, .unset] (fun m => by first | (simp [entryFrame, mkF, argsToLocals, Value.category, maxLocals]; done) | rfl) ?_
  intro p e s m below meth c C
  refine go_iloadN C at_0 (pc' := 1) rfl rfl ?_
  refine go_iconst C (3 : Int32) at_1 (pc' := 2) rfl (by decide) ?_
  refine go_iand C at_2 (pc' := 3) rfl ?_
  refine go_istore C (Ls' := #[.val (.int s0), .val (.long p0), .second, .val (.long p1), .second, .val (.long q0), .second, .val (.long q1), .second, .val (.long cc), .second, .val (.int (s0 &&& (3 : Int32))), .unset, .unset, .unset, .unset, .unset, .unset, .unset, .unset]) at_3 (pc' := 5) rfl rfl ?_
  rcases own_k4 s0 with hn | hn | hn | hn
  · rw [hn]
    refine go_iloadN C at_5 (pc' := 6) rfl rfl ?_
    refine go_iconst C (2 : Int32) at_6 (pc' := 7) rfl (by decide) ?_
    refine go_iushr C at_7 (pc' := 8) rfl ?_
    refine go_iconst C (3 : Int32) at_8 (pc' := 9) rfl (by decide) ?_
    refine go_iand C at_9 (pc' := 10) rfl ?_
    refine go_istore C (Ls' := #[.val (.int s0), .val (.long p0), .second, .val (.long p1), .second, .val (.long q0), .second, .val (.long q1), .second, .val (.long cc), .second, .val (.int (0 : Int32)), .val (.int ((XT.ushr s0 (2 : Int32)) &&& (3 : Int32))), .unset, .unset, .unset, .unset, .unset, .unset, .unset]) at_10 (pc' := 12) rfl rfl ?_
    generalize (XT.ushr s0 (2 : Int32)) &&& (3 : Int32) = pk
    have j52 : ∀ dd : Int64, Go p l e room_1 s m ([.int s0, .long p0, .long p1, .long q0, .long q1, .long cc] : List Value).toArray below meth c Z.heap.size (RV fun r _ => r = .int 1) room_1.cells room_1.slots Z.heap 0 0 (mkF m 52 #[.val (.int s0), .val (.long p0), .second, .val (.long p1), .second, .val (.long q0), .second, .val (.long q1), .second, .val (.long cc), .second, .val (.int (0 : Int32)), .val (.int pk), .val (.long dd), .second, .unset, .unset, .unset, .unset, .unset] []) := by
      intro dd
      refine go_iload C at_52 (pc' := 54) rfl rfl ?_
      refine go_lloadN C at_54 (pc' := 55) rfl rfl ?_
      refine go_lloadN C at_55 (pc' := 56) rfl rfl ?_
      refine go_lload C at_56 (pc' := 58) rfl rfl ?_
      refine go_staticV C (as := [.int (0 : Int32), .long p0, .long p1, .long cc]) (rest := []) (W := 0) (sat_make0 l Z a0 hw p0 p1 cc _ _ (Nat.le_refl _)) (wd hw 0 rfl) (wd hw 1 rfl) (wd hw 2 rfl) (wd hw 3 rfl) (by decide) pd_1 rfl rfl rfl (by decide) (by decide) (ce' := 1) (sl' := 0) rfl rfl (by decide) (by decide) at_58 (pc' := 61) rfl rfl ?_
      intro r_1 h_2 q_3
      obtain ⟨a_4, rfl, g_5, K_6, A_7⟩ := q_3
      have z_8 : Z.heap.size ≤ h_2.size := Nat.le_trans (Nat.le_refl _) K_6.1
      refine go_astore C (Ls' := #[.val (.int s0), .val (.long p0), .second, .val (.long p1), .second, .val (.long q0), .second, .val (.long q1), .second, .val (.long cc), .second, .val (.int (0 : Int32)), .val (.int pk), .val (.long dd), .second, .val (.ref a_4), .unset, .unset, .unset, .unset]) at_61 (pc' := 63) rfl rfl rfl ?_
      refine go_iload C at_63 (pc' := 65) rfl rfl ?_
      refine go_lload C at_65 (pc' := 67) rfl rfl ?_
      refine go_lload C at_67 (pc' := 69) rfl rfl ?_
      refine go_lload C at_69 (pc' := 71) rfl rfl ?_
      refine go_staticV C (as := [.int (0 : Int32), .long q0, .long q1, .long dd]) (rest := []) (W := 0) (sat_make0 l Z a0 hw q0 q1 dd _ _ z_8) (wd hw 0 rfl) (wd hw 1 rfl) (wd hw 2 rfl) (wd hw 3 rfl) (by decide) pd_1 rfl rfl rfl (by decide) (by decide) (ce' := 2) (sl' := 0) rfl rfl (by decide) (by decide) at_71 (pc' := 74) rfl rfl ?_
      intro r_9 h_10 q_11
      obtain ⟨a_12, rfl, g_13, K_14, A_15⟩ := q_11
      have n_16 : a_4 ≠ a_12 := Nat.ne_of_lt (Nat.lt_of_lt_of_le A_7.lt g_13)
      have z_17 : Z.heap.size ≤ h_10.size := Nat.le_trans z_8 K_14.1
      have A_18 := Av.keep A_7 K_14 nin0
      refine go_astore C (Ls' := #[.val (.int s0), .val (.long p0), .second, .val (.long p1), .second, .val (.long q0), .second, .val (.long q1), .second, .val (.long cc), .second, .val (.int (0 : Int32)), .val (.int pk), .val (.long dd), .second, .val (.ref a_4), .val (.ref a_12), .unset, .unset, .unset]) at_74 (pc' := 76) rfl rfl rfl ?_
      have j_19 : ∀ b_20 : Int32, b_20 = bi (True) → Go p l e room_1 s m ([.int s0, .long p0, .long p1, .long q0, .long q1, .long cc] : List Value).toArray below meth c Z.heap.size (RV fun r _ => r = .int 1) room_1.cells room_1.slots h_10 2 0 (mkF m 121 #[.val (.int s0), .val (.long p0), .second, .val (.long p1), .second, .val (.long q0), .second, .val (.long q1), .second, .val (.long cc), .second, .val (.int (0 : Int32)), .val (.int pk), .val (.long dd), .second, .val (.ref a_4), .val (.ref a_12), .unset, .unset, .unset] [.int b_20]) := by
        intro b_20 e_21
        subst e_21
        refine go_istore C (Ls' := #[.val (.int s0), .val (.long p0), .second, .val (.long p1), .second, .val (.long q0), .second, .val (.long q1), .second, .val (.long cc), .second, .val (.int (0 : Int32)), .val (.int pk), .val (.long dd), .second, .val (.ref a_4), .val (.ref a_12), .val (.int (bi (True))), .unset, .unset]) at_121 (pc' := 123) rfl rfl ?_
        have j_22 : ∀ b_23 : Int32, b_23 = bi (False) → Go p l e room_1 s m ([.int s0, .long p0, .long p1, .long q0, .long q1, .long cc] : List Value).toArray below meth c Z.heap.size (RV fun r _ => r = .int 1) room_1.cells room_1.slots h_10 2 0 (mkF m 168 #[.val (.int s0), .val (.long p0), .second, .val (.long p1), .second, .val (.long q0), .second, .val (.long q1), .second, .val (.long cc), .second, .val (.int (0 : Int32)), .val (.int pk), .val (.long dd), .second, .val (.ref a_4), .val (.ref a_12), .val (.int (bi (True))), .unset, .unset] [.int b_23]) := by
          intro b_23 e_24
          subst e_24
          refine go_istore C (Ls' := #[.val (.int s0), .val (.long p0), .second, .val (.long p1), .second, .val (.long q0), .second, .val (.long q1), .second, .val (.long cc), .second, .val (.int (0 : Int32)), .val (.int pk), .val (.long dd), .second, .val (.ref a_4), .val (.ref a_12), .val (.int (bi (True))), .val (.int (bi (False))), .unset]) at_168 (pc' := 170) rfl rfl ?_
          have j_25 : ∀ b_26 : Int32, b_26 = bi ((True) ∧ (False)) → Go p l e room_1 s m ([.int s0, .long p0, .long p1, .long q0, .long q1, .long cc] : List Value).toArray below meth c Z.heap.size (RV fun r _ => r = .int 1) room_1.cells room_1.slots h_10 2 0 (mkF m 185 #[.val (.int s0), .val (.long p0), .second, .val (.long p1), .second, .val (.long q0), .second, .val (.long q1), .second, .val (.long cc), .second, .val (.int (0 : Int32)), .val (.int pk), .val (.long dd), .second, .val (.ref a_4), .val (.ref a_12), .val (.int (bi (True))), .val (.int (bi (False))), .unset] [.int b_26]) := by
            intro b_26 e_27
            subst e_27
            refine go_istore C (Ls' := #[.val (.int s0), .val (.long p0), .second, .val (.long p1), .second, .val (.long q0), .second, .val (.long q1), .second, .val (.long cc), .second, .val (.int (0 : Int32)), .val (.int pk), .val (.long dd), .second, .val (.ref a_4), .val (.ref a_12), .val (.int (bi (True))), .val (.int (bi (False))), .val (.int (bi ((True) ∧ (False))))]) at_185 (pc' := 187) rfl rfl ?_
            refine go_aload C at_187 (pc' := 189) rfl rfl rfl ?_
            refine go_aload C at_189 (pc' := 191) rfl rfl rfl ?_
            refine go_staticP C (as := [.ref a_4, .ref a_12]) (rest := []) (W := 0) (.int (bi ((True) ∧ (False)))) (sat_so0 l Z a0 hw a_4 a_12  _ _ A_18 A_15) (wd hw 5 rfl) (wd hw 6 rfl) (wd hw 7 rfl) (wd hw 8 rfl) (by decide) pd_2 rfl rfl rfl (by decide) (by decide) rfl rfl (by decide) (by decide) at_191 (pc' := 194) rfl rfl ?_
            refine go_iload C at_194 (pc' := 196) rfl rfl ?_
            refine go_icmp C ((bi ((True) ∧ (False))).toInt) ((bi ((True) ∧ (False))).toInt) rfl rfl at_196 (by decide) (pc' := 203) (by decide) (pcN := 199) rfl (fun (c_28 : ¬ ((bi ((True) ∧ (False))).toInt) = ((bi ((True) ∧ (False))).toInt)) => by omega) (fun (c_28 : ((bi ((True) ∧ (False))).toInt) = ((bi ((True) ∧ (False))).toInt)) => ?_)
            refine go_iconst C (1 : Int32) at_199 (pc' := 200) rfl (by decide) ?_
            refine go_goto C at_200 (by decide) (pc' := 204) (by decide) ?_
            refine go_ireturnN C (z' := (1 : Int32)) rfl (by simp) rfl at_204 (by decide) (by decide) ?_
            exact ⟨_, rfl, rfl⟩
          refine go_iload C at_170 (pc' := 172) rfl rfl ?_
          refine go_ifeq_b C at_172 (by decide) (pc' := 184) (by decide) (pcN := 175) rfl (fun c_29 => ?_) (fun c_29 => ?_)
          · skip
            refine go_iconst C (0 : Int32) at_184 (pc' := 185) rfl (by decide) ?_
            exact j_25 _ (bi0 (by first | omega | (intro q; exact q.2) | trivial))
          · skip
            refine go_iload C at_175 (pc' := 177) rfl rfl ?_
            refine go_ifeq_b C at_177 (by decide) (pc' := 184) (by decide) (pcN := 180) rfl (fun c_30 => ?_) (fun c_30 => ?_)
            · skip
              refine go_iconst C (0 : Int32) at_184 (pc' := 185) rfl (by decide) ?_
              exact j_25 _ (bi0 (by first | omega | (intro q; exact q.2) | trivial))
            · skip
              refine go_iconst C (1 : Int32) at_180 (pc' := 181) rfl (by decide) ?_
              refine go_goto C at_181 (by decide) (pc' := 185) (by decide) ?_
              exact j_25 _ (bi1 (by first | omega | (intro q; exact q.2) | trivial))
        refine go_iload C at_123 (pc' := 125) rfl rfl ?_
        refine go_iconst C (1 : Int32) at_125 (pc' := 126) rfl (by decide) ?_
        refine go_icmp C (0 : Int) (1 : Int) (by decide) (by decide) at_126 (by decide) (pc' := 136) (by decide) (pcN := 129) rfl (fun (c_31 : (0 : Int) < (1 : Int)) => ?_) (fun (c_31 : ¬ (0 : Int) < (1 : Int)) => by omega)
        refine go_iload C at_136 (pc' := 138) rfl rfl ?_
        refine go_iconst C (2 : Int32) at_138 (pc' := 139) rfl (by decide) ?_
        refine go_icmp C (0 : Int) (2 : Int) (by decide) (by decide) at_139 (by decide) (pc' := 149) (by decide) (pcN := 142) rfl (fun (c_32 : (0 : Int) < (2 : Int)) => ?_) (fun (c_32 : ¬ (0 : Int) < (2 : Int)) => by omega)
        refine go_iload C at_149 (pc' := 151) rfl rfl ?_
        refine go_iconst C (3 : Int32) at_151 (pc' := 152) rfl (by decide) ?_
        refine go_icmp C (0 : Int) (3 : Int) (by decide) (by decide) at_152 (by decide) (pc' := 167) (by decide) (pcN := 155) rfl (fun (c_33 : (0 : Int) < (3 : Int)) => ?_) (fun (c_33 : ¬ (0 : Int) < (3 : Int)) => by omega)
        refine go_iconst C (0 : Int32) at_167 (pc' := 168) rfl (by decide) ?_
        exact j_22 _ (bi0 (by first | omega | exact id))
      refine go_iload C at_76 (pc' := 78) rfl rfl ?_
      refine go_iconst C (1 : Int32) at_78 (pc' := 79) rfl (by decide) ?_
      refine go_icmp C (0 : Int) (1 : Int) (by decide) (by decide) at_79 (by decide) (pc' := 89) (by decide) (pcN := 82) rfl (fun (c_34 : (0 : Int) < (1 : Int)) => ?_) (fun (c_34 : ¬ (0 : Int) < (1 : Int)) => by omega)
      refine go_iload C at_89 (pc' := 91) rfl rfl ?_
      refine go_iconst C (2 : Int32) at_91 (pc' := 92) rfl (by decide) ?_
      refine go_icmp C (0 : Int) (2 : Int) (by decide) (by decide) at_92 (by decide) (pc' := 102) (by decide) (pcN := 95) rfl (fun (c_35 : (0 : Int) < (2 : Int)) => ?_) (fun (c_35 : ¬ (0 : Int) < (2 : Int)) => by omega)
      refine go_iload C at_102 (pc' := 104) rfl rfl ?_
      refine go_iconst C (3 : Int32) at_104 (pc' := 105) rfl (by decide) ?_
      refine go_icmp C (0 : Int) (3 : Int) (by decide) (by decide) at_105 (by decide) (pc' := 116) (by decide) (pcN := 108) rfl (fun (c_36 : (0 : Int) < (3 : Int)) => ?_) (fun (c_36 : ¬ (0 : Int) < (3 : Int)) => by omega)
      refine go_iconst C (1 : Int32) at_116 (pc' := 117) rfl (by decide) ?_
      refine go_goto C at_117 (by decide) (pc' := 121) (by decide) ?_
      exact j_19 _ (bi1 (by first | omega | trivial))
    refine go_iload C at_12 (pc' := 14) rfl rfl ?_
    refine go_if0 C pk.toInt rfl at_14 (by decide) (pc' := 23) (by decide) (pcN := 17) rfl (fun (c_37 : ¬ pk.toInt = 0) => ?_) (fun (c_37 : pk.toInt = 0) => ?_)
    · skip
      refine go_iload C at_23 (pc' := 25) rfl rfl ?_
      refine go_iconst C (1 : Int32) at_25 (pc' := 26) rfl (by decide) ?_
      refine go_icmp C pk.toInt (1 : Int) rfl (by decide) at_26 (by decide) (pc' := 35) (by decide) (pcN := 29) rfl (fun (c_38 : ¬ pk.toInt = (1 : Int)) => ?_) (fun (c_38 : pk.toInt = (1 : Int)) => ?_)
      · skip
        refine go_iload C at_35 (pc' := 37) rfl rfl ?_
        refine go_iconst C (2 : Int32) at_37 (pc' := 38) rfl (by decide) ?_
        refine go_icmp C pk.toInt (2 : Int) rfl (by decide) at_38 (by decide) (pc' := 48) (by decide) (pcN := 41) rfl (fun (c_39 : ¬ pk.toInt = (2 : Int)) => ?_) (fun (c_39 : pk.toInt = (2 : Int)) => ?_)
        · skip
          refine go_lload C at_48 (pc' := 50) rfl rfl ?_
          refine go_lstore C (Ls' := #[.val (.int s0), .val (.long p0), .second, .val (.long p1), .second, .val (.long q0), .second, .val (.long q1), .second, .val (.long cc), .second, .val (.int (0 : Int32)), .val (.int pk), .val (.long q1), .second, .unset, .unset, .unset, .unset, .unset]) at_50 (pc' := 52) rfl rfl ?_
          exact j52 _
        · skip
          refine go_lload C at_41 (pc' := 43) rfl rfl ?_
          refine go_lstore C (Ls' := #[.val (.int s0), .val (.long p0), .second, .val (.long p1), .second, .val (.long q0), .second, .val (.long q1), .second, .val (.long cc), .second, .val (.int (0 : Int32)), .val (.int pk), .val (.long q0), .second, .unset, .unset, .unset, .unset, .unset]) at_43 (pc' := 45) rfl rfl ?_
          refine go_goto C at_45 (by decide) (pc' := 52) (by decide) ?_
          exact j52 _
      · skip
        refine go_lloadN C at_29 (pc' := 30) rfl rfl ?_
        refine go_lstore C (Ls' := #[.val (.int s0), .val (.long p0), .second, .val (.long p1), .second, .val (.long q0), .second, .val (.long q1), .second, .val (.long cc), .second, .val (.int (0 : Int32)), .val (.int pk), .val (.long p1), .second, .unset, .unset, .unset, .unset, .unset]) at_30 (pc' := 32) rfl rfl ?_
        refine go_goto C at_32 (by decide) (pc' := 52) (by decide) ?_
        exact j52 _
    · skip
      refine go_lloadN C at_17 (pc' := 18) rfl rfl ?_
      refine go_lstore C (Ls' := #[.val (.int s0), .val (.long p0), .second, .val (.long p1), .second, .val (.long q0), .second, .val (.long q1), .second, .val (.long cc), .second, .val (.int (0 : Int32)), .val (.int pk), .val (.long p0), .second, .unset, .unset, .unset, .unset, .unset]) at_18 (pc' := 20) rfl rfl ?_
      refine go_goto C at_20 (by decide) (pc' := 52) (by decide) ?_
      exact j52 _
  · rw [hn]
    refine go_iloadN C at_5 (pc' := 6) rfl rfl ?_
    refine go_iconst C (2 : Int32) at_6 (pc' := 7) rfl (by decide) ?_
    refine go_iushr C at_7 (pc' := 8) rfl ?_
    refine go_iconst C (3 : Int32) at_8 (pc' := 9) rfl (by decide) ?_
    refine go_iand C at_9 (pc' := 10) rfl ?_
    refine go_istore C (Ls' := #[.val (.int s0), .val (.long p0), .second, .val (.long p1), .second, .val (.long q0), .second, .val (.long q1), .second, .val (.long cc), .second, .val (.int (1 : Int32)), .val (.int ((XT.ushr s0 (2 : Int32)) &&& (3 : Int32))), .unset, .unset, .unset, .unset, .unset, .unset, .unset]) at_10 (pc' := 12) rfl rfl ?_
    generalize (XT.ushr s0 (2 : Int32)) &&& (3 : Int32) = pk
    have j52 : ∀ dd : Int64, Go p l e room_1 s m ([.int s0, .long p0, .long p1, .long q0, .long q1, .long cc] : List Value).toArray below meth c Z.heap.size (RV fun r _ => r = .int 1) room_1.cells room_1.slots Z.heap 0 0 (mkF m 52 #[.val (.int s0), .val (.long p0), .second, .val (.long p1), .second, .val (.long q0), .second, .val (.long q1), .second, .val (.long cc), .second, .val (.int (1 : Int32)), .val (.int pk), .val (.long dd), .second, .unset, .unset, .unset, .unset, .unset] []) := by
      intro dd
      refine go_iload C at_52 (pc' := 54) rfl rfl ?_
      refine go_lloadN C at_54 (pc' := 55) rfl rfl ?_
      refine go_lloadN C at_55 (pc' := 56) rfl rfl ?_
      refine go_lload C at_56 (pc' := 58) rfl rfl ?_
      refine go_staticV C (as := [.int (1 : Int32), .long p0, .long p1, .long cc]) (rest := []) (W := 0) (sat_make1 l Z a0 hw p0 p1 cc _ _ (Nat.le_refl _)) (wd hw 0 rfl) (wd hw 1 rfl) (wd hw 2 rfl) (wd hw 3 rfl) (by decide) pd_1 rfl rfl rfl (by decide) (by decide) (ce' := 1) (sl' := 1) rfl rfl (by decide) (by decide) at_58 (pc' := 61) rfl rfl ?_
      intro r_40 h_41 q_42
      obtain ⟨a_43, rfl, g_44, K_45, A_46⟩ := q_42
      have z_47 : Z.heap.size ≤ h_41.size := Nat.le_trans (Nat.le_refl _) K_45.1
      refine go_astore C (Ls' := #[.val (.int s0), .val (.long p0), .second, .val (.long p1), .second, .val (.long q0), .second, .val (.long q1), .second, .val (.long cc), .second, .val (.int (1 : Int32)), .val (.int pk), .val (.long dd), .second, .val (.ref a_43), .unset, .unset, .unset, .unset]) at_61 (pc' := 63) rfl rfl rfl ?_
      refine go_iload C at_63 (pc' := 65) rfl rfl ?_
      refine go_lload C at_65 (pc' := 67) rfl rfl ?_
      refine go_lload C at_67 (pc' := 69) rfl rfl ?_
      refine go_lload C at_69 (pc' := 71) rfl rfl ?_
      refine go_staticV C (as := [.int (1 : Int32), .long q0, .long q1, .long dd]) (rest := []) (W := 0) (sat_make1 l Z a0 hw q0 q1 dd _ _ z_47) (wd hw 0 rfl) (wd hw 1 rfl) (wd hw 2 rfl) (wd hw 3 rfl) (by decide) pd_1 rfl rfl rfl (by decide) (by decide) (ce' := 2) (sl' := 2) rfl rfl (by decide) (by decide) at_71 (pc' := 74) rfl rfl ?_
      intro r_48 h_49 q_50
      obtain ⟨a_51, rfl, g_52, K_53, A_54⟩ := q_50
      have n_55 : a_43 ≠ a_51 := Nat.ne_of_lt (Nat.lt_of_lt_of_le A_46.lt g_52)
      have z_56 : Z.heap.size ≤ h_49.size := Nat.le_trans z_47 K_53.1
      have A_57 := Av.keep A_46 K_53 nin0
      refine go_astore C (Ls' := #[.val (.int s0), .val (.long p0), .second, .val (.long p1), .second, .val (.long q0), .second, .val (.long q1), .second, .val (.long cc), .second, .val (.int (1 : Int32)), .val (.int pk), .val (.long dd), .second, .val (.ref a_43), .val (.ref a_51), .unset, .unset, .unset]) at_74 (pc' := 76) rfl rfl rfl ?_
      have j_58 : ∀ b_59 : Int32, b_59 = bi (p0.toInt ≤ q0.toInt) → Go p l e room_1 s m ([.int s0, .long p0, .long p1, .long q0, .long q1, .long cc] : List Value).toArray below meth c Z.heap.size (RV fun r _ => r = .int 1) room_1.cells room_1.slots h_49 2 2 (mkF m 121 #[.val (.int s0), .val (.long p0), .second, .val (.long p1), .second, .val (.long q0), .second, .val (.long q1), .second, .val (.long cc), .second, .val (.int (1 : Int32)), .val (.int pk), .val (.long dd), .second, .val (.ref a_43), .val (.ref a_51), .unset, .unset, .unset] [.int b_59]) := by
        intro b_59 e_60
        subst e_60
        refine go_istore C (Ls' := #[.val (.int s0), .val (.long p0), .second, .val (.long p1), .second, .val (.long q0), .second, .val (.long q1), .second, .val (.long cc), .second, .val (.int (1 : Int32)), .val (.int pk), .val (.long dd), .second, .val (.ref a_43), .val (.ref a_51), .val (.int (bi (p0.toInt ≤ q0.toInt))), .unset, .unset]) at_121 (pc' := 123) rfl rfl ?_
        have j_61 : ∀ b_62 : Int32, b_62 = bi (p0.toInt < q0.toInt) → Go p l e room_1 s m ([.int s0, .long p0, .long p1, .long q0, .long q1, .long cc] : List Value).toArray below meth c Z.heap.size (RV fun r _ => r = .int 1) room_1.cells room_1.slots h_49 2 2 (mkF m 168 #[.val (.int s0), .val (.long p0), .second, .val (.long p1), .second, .val (.long q0), .second, .val (.long q1), .second, .val (.long cc), .second, .val (.int (1 : Int32)), .val (.int pk), .val (.long dd), .second, .val (.ref a_43), .val (.ref a_51), .val (.int (bi (p0.toInt ≤ q0.toInt))), .unset, .unset] [.int b_62]) := by
          intro b_62 e_63
          subst e_63
          refine go_istore C (Ls' := #[.val (.int s0), .val (.long p0), .second, .val (.long p1), .second, .val (.long q0), .second, .val (.long q1), .second, .val (.long cc), .second, .val (.int (1 : Int32)), .val (.int pk), .val (.long dd), .second, .val (.ref a_43), .val (.ref a_51), .val (.int (bi (p0.toInt ≤ q0.toInt))), .val (.int (bi (p0.toInt < q0.toInt))), .unset]) at_168 (pc' := 170) rfl rfl ?_
          have j_64 : ∀ b_65 : Int32, b_65 = bi ((p0.toInt ≤ q0.toInt) ∧ (p0.toInt < q0.toInt)) → Go p l e room_1 s m ([.int s0, .long p0, .long p1, .long q0, .long q1, .long cc] : List Value).toArray below meth c Z.heap.size (RV fun r _ => r = .int 1) room_1.cells room_1.slots h_49 2 2 (mkF m 185 #[.val (.int s0), .val (.long p0), .second, .val (.long p1), .second, .val (.long q0), .second, .val (.long q1), .second, .val (.long cc), .second, .val (.int (1 : Int32)), .val (.int pk), .val (.long dd), .second, .val (.ref a_43), .val (.ref a_51), .val (.int (bi (p0.toInt ≤ q0.toInt))), .val (.int (bi (p0.toInt < q0.toInt))), .unset] [.int b_65]) := by
            intro b_65 e_66
            subst e_66
            refine go_istore C (Ls' := #[.val (.int s0), .val (.long p0), .second, .val (.long p1), .second, .val (.long q0), .second, .val (.long q1), .second, .val (.long cc), .second, .val (.int (1 : Int32)), .val (.int pk), .val (.long dd), .second, .val (.ref a_43), .val (.ref a_51), .val (.int (bi (p0.toInt ≤ q0.toInt))), .val (.int (bi (p0.toInt < q0.toInt))), .val (.int (bi ((p0.toInt ≤ q0.toInt) ∧ (p0.toInt < q0.toInt))))]) at_185 (pc' := 187) rfl rfl ?_
            refine go_aload C at_187 (pc' := 189) rfl rfl rfl ?_
            refine go_aload C at_189 (pc' := 191) rfl rfl rfl ?_
            refine go_staticP C (as := [.ref a_43, .ref a_51]) (rest := []) (W := 0) (.int (bi ((p0.toInt ≤ q0.toInt) ∧ (p0.toInt < q0.toInt)))) (sat_so1 l Z a0 hw a_43 a_51 p0 q0 _ _ A_57 A_54) (wd hw 5 rfl) (wd hw 6 rfl) (wd hw 7 rfl) (wd hw 8 rfl) (by decide) pd_2 rfl rfl rfl (by decide) (by decide) rfl rfl (by decide) (by decide) at_191 (pc' := 194) rfl rfl ?_
            refine go_iload C at_194 (pc' := 196) rfl rfl ?_
            refine go_icmp C ((bi ((p0.toInt ≤ q0.toInt) ∧ (p0.toInt < q0.toInt))).toInt) ((bi ((p0.toInt ≤ q0.toInt) ∧ (p0.toInt < q0.toInt))).toInt) rfl rfl at_196 (by decide) (pc' := 203) (by decide) (pcN := 199) rfl (fun (c_67 : ¬ ((bi ((p0.toInt ≤ q0.toInt) ∧ (p0.toInt < q0.toInt))).toInt) = ((bi ((p0.toInt ≤ q0.toInt) ∧ (p0.toInt < q0.toInt))).toInt)) => by omega) (fun (c_67 : ((bi ((p0.toInt ≤ q0.toInt) ∧ (p0.toInt < q0.toInt))).toInt) = ((bi ((p0.toInt ≤ q0.toInt) ∧ (p0.toInt < q0.toInt))).toInt)) => ?_)
            refine go_iconst C (1 : Int32) at_199 (pc' := 200) rfl (by decide) ?_
            refine go_goto C at_200 (by decide) (pc' := 204) (by decide) ?_
            refine go_ireturnN C (z' := (1 : Int32)) rfl (by simp) rfl at_204 (by decide) (by decide) ?_
            exact ⟨_, rfl, rfl⟩
          refine go_iload C at_170 (pc' := 172) rfl rfl ?_
          refine go_ifeq_b C at_172 (by decide) (pc' := 184) (by decide) (pcN := 175) rfl (fun c_68 => ?_) (fun c_68 => ?_)
          · skip
            refine go_iconst C (0 : Int32) at_184 (pc' := 185) rfl (by decide) ?_
            exact j_64 _ (bi0 (by first | omega | (intro q; exact q.2) | trivial))
          · skip
            refine go_iload C at_175 (pc' := 177) rfl rfl ?_
            refine go_ifeq_b C at_177 (by decide) (pc' := 184) (by decide) (pcN := 180) rfl (fun c_69 => ?_) (fun c_69 => ?_)
            · skip
              refine go_iconst C (0 : Int32) at_184 (pc' := 185) rfl (by decide) ?_
              exact j_64 _ (bi0 (by first | omega | (intro q; exact q.2) | trivial))
            · skip
              refine go_iconst C (1 : Int32) at_180 (pc' := 181) rfl (by decide) ?_
              refine go_goto C at_181 (by decide) (pc' := 185) (by decide) ?_
              exact j_64 _ (bi1 (by first | omega | (intro q; exact q.2) | trivial))
        refine go_iload C at_123 (pc' := 125) rfl rfl ?_
        refine go_iconst C (1 : Int32) at_125 (pc' := 126) rfl (by decide) ?_
        refine go_icmp C (1 : Int) (1 : Int) (by decide) (by decide) at_126 (by decide) (pc' := 136) (by decide) (pcN := 129) rfl (fun (c_70 : (1 : Int) < (1 : Int)) => by omega) (fun (c_70 : ¬ (1 : Int) < (1 : Int)) => ?_)
        refine go_lloadN C at_129 (pc' := 130) rfl rfl ?_
        refine go_lload C at_130 (pc' := 132) rfl rfl ?_
        refine go_lcmp C p0.toInt q0.toInt rfl rfl at_132 (pc1 := 133) rfl at_133 (by decide) (pc' := 163) (by decide) (pcN := 136) rfl (fun (c_71 : p0.toInt < q0.toInt) => ?_) (fun (c_71 : ¬ p0.toInt < q0.toInt) => ?_)
        · skip
          refine go_iconst C (1 : Int32) at_163 (pc' := 164) rfl (by decide) ?_
          refine go_goto C at_164 (by decide) (pc' := 168) (by decide) ?_
          exact j_61 _ (bi1 (by first | omega | exact id))
        · skip
          refine go_iload C at_136 (pc' := 138) rfl rfl ?_
          refine go_iconst C (2 : Int32) at_138 (pc' := 139) rfl (by decide) ?_
          refine go_icmp C (1 : Int) (2 : Int) (by decide) (by decide) at_139 (by decide) (pc' := 149) (by decide) (pcN := 142) rfl (fun (c_72 : (1 : Int) < (2 : Int)) => ?_) (fun (c_72 : ¬ (1 : Int) < (2 : Int)) => by omega)
          refine go_iload C at_149 (pc' := 151) rfl rfl ?_
          refine go_iconst C (3 : Int32) at_151 (pc' := 152) rfl (by decide) ?_
          refine go_icmp C (1 : Int) (3 : Int) (by decide) (by decide) at_152 (by decide) (pc' := 167) (by decide) (pcN := 155) rfl (fun (c_73 : (1 : Int) < (3 : Int)) => ?_) (fun (c_73 : ¬ (1 : Int) < (3 : Int)) => by omega)
          refine go_iconst C (0 : Int32) at_167 (pc' := 168) rfl (by decide) ?_
          exact j_61 _ (bi0 (by first | omega | exact id))
      refine go_iload C at_76 (pc' := 78) rfl rfl ?_
      refine go_iconst C (1 : Int32) at_78 (pc' := 79) rfl (by decide) ?_
      refine go_icmp C (1 : Int) (1 : Int) (by decide) (by decide) at_79 (by decide) (pc' := 89) (by decide) (pcN := 82) rfl (fun (c_74 : (1 : Int) < (1 : Int)) => by omega) (fun (c_74 : ¬ (1 : Int) < (1 : Int)) => ?_)
      refine go_lloadN C at_82 (pc' := 83) rfl rfl ?_
      refine go_lload C at_83 (pc' := 85) rfl rfl ?_
      refine go_lcmp C p0.toInt q0.toInt rfl rfl at_85 (pc1 := 86) rfl at_86 (by decide) (pc' := 120) (by decide) (pcN := 89) rfl (fun (c_75 : q0.toInt < p0.toInt) => ?_) (fun (c_75 : ¬ q0.toInt < p0.toInt) => ?_)
      · skip
        refine go_iconst C (0 : Int32) at_120 (pc' := 121) rfl (by decide) ?_
        exact j_58 _ (bi0 (by first | omega | trivial))
      · skip
        refine go_iload C at_89 (pc' := 91) rfl rfl ?_
        refine go_iconst C (2 : Int32) at_91 (pc' := 92) rfl (by decide) ?_
        refine go_icmp C (1 : Int) (2 : Int) (by decide) (by decide) at_92 (by decide) (pc' := 102) (by decide) (pcN := 95) rfl (fun (c_76 : (1 : Int) < (2 : Int)) => ?_) (fun (c_76 : ¬ (1 : Int) < (2 : Int)) => by omega)
        refine go_iload C at_102 (pc' := 104) rfl rfl ?_
        refine go_iconst C (3 : Int32) at_104 (pc' := 105) rfl (by decide) ?_
        refine go_icmp C (1 : Int) (3 : Int) (by decide) (by decide) at_105 (by decide) (pc' := 116) (by decide) (pcN := 108) rfl (fun (c_77 : (1 : Int) < (3 : Int)) => ?_) (fun (c_77 : ¬ (1 : Int) < (3 : Int)) => by omega)
        refine go_iconst C (1 : Int32) at_116 (pc' := 117) rfl (by decide) ?_
        refine go_goto C at_117 (by decide) (pc' := 121) (by decide) ?_
        exact j_58 _ (bi1 (by first | omega | trivial))
    refine go_iload C at_12 (pc' := 14) rfl rfl ?_
    refine go_if0 C pk.toInt rfl at_14 (by decide) (pc' := 23) (by decide) (pcN := 17) rfl (fun (c_78 : ¬ pk.toInt = 0) => ?_) (fun (c_78 : pk.toInt = 0) => ?_)
    · skip
      refine go_iload C at_23 (pc' := 25) rfl rfl ?_
      refine go_iconst C (1 : Int32) at_25 (pc' := 26) rfl (by decide) ?_
      refine go_icmp C pk.toInt (1 : Int) rfl (by decide) at_26 (by decide) (pc' := 35) (by decide) (pcN := 29) rfl (fun (c_79 : ¬ pk.toInt = (1 : Int)) => ?_) (fun (c_79 : pk.toInt = (1 : Int)) => ?_)
      · skip
        refine go_iload C at_35 (pc' := 37) rfl rfl ?_
        refine go_iconst C (2 : Int32) at_37 (pc' := 38) rfl (by decide) ?_
        refine go_icmp C pk.toInt (2 : Int) rfl (by decide) at_38 (by decide) (pc' := 48) (by decide) (pcN := 41) rfl (fun (c_80 : ¬ pk.toInt = (2 : Int)) => ?_) (fun (c_80 : pk.toInt = (2 : Int)) => ?_)
        · skip
          refine go_lload C at_48 (pc' := 50) rfl rfl ?_
          refine go_lstore C (Ls' := #[.val (.int s0), .val (.long p0), .second, .val (.long p1), .second, .val (.long q0), .second, .val (.long q1), .second, .val (.long cc), .second, .val (.int (1 : Int32)), .val (.int pk), .val (.long q1), .second, .unset, .unset, .unset, .unset, .unset]) at_50 (pc' := 52) rfl rfl ?_
          exact j52 _
        · skip
          refine go_lload C at_41 (pc' := 43) rfl rfl ?_
          refine go_lstore C (Ls' := #[.val (.int s0), .val (.long p0), .second, .val (.long p1), .second, .val (.long q0), .second, .val (.long q1), .second, .val (.long cc), .second, .val (.int (1 : Int32)), .val (.int pk), .val (.long q0), .second, .unset, .unset, .unset, .unset, .unset]) at_43 (pc' := 45) rfl rfl ?_
          refine go_goto C at_45 (by decide) (pc' := 52) (by decide) ?_
          exact j52 _
      · skip
        refine go_lloadN C at_29 (pc' := 30) rfl rfl ?_
        refine go_lstore C (Ls' := #[.val (.int s0), .val (.long p0), .second, .val (.long p1), .second, .val (.long q0), .second, .val (.long q1), .second, .val (.long cc), .second, .val (.int (1 : Int32)), .val (.int pk), .val (.long p1), .second, .unset, .unset, .unset, .unset, .unset]) at_30 (pc' := 32) rfl rfl ?_
        refine go_goto C at_32 (by decide) (pc' := 52) (by decide) ?_
        exact j52 _
    · skip
      refine go_lloadN C at_17 (pc' := 18) rfl rfl ?_
      refine go_lstore C (Ls' := #[.val (.int s0), .val (.long p0), .second, .val (.long p1), .second, .val (.long q0), .second, .val (.long q1), .second, .val (.long cc), .second, .val (.int (1 : Int32)), .val (.int pk), .val (.long p0), .second, .unset, .unset, .unset, .unset, .unset]) at_18 (pc' := 20) rfl rfl ?_
      refine go_goto C at_20 (by decide) (pc' := 52) (by decide) ?_
      exact j52 _
  · rw [hn]
    refine go_iloadN C at_5 (pc' := 6) rfl rfl ?_
    refine go_iconst C (2 : Int32) at_6 (pc' := 7) rfl (by decide) ?_
    refine go_iushr C at_7 (pc' := 8) rfl ?_
    refine go_iconst C (3 : Int32) at_8 (pc' := 9) rfl (by decide) ?_
    refine go_iand C at_9 (pc' := 10) rfl ?_
    refine go_istore C (Ls' := #[.val (.int s0), .val (.long p0), .second, .val (.long p1), .second, .val (.long q0), .second, .val (.long q1), .second, .val (.long cc), .second, .val (.int (2 : Int32)), .val (.int ((XT.ushr s0 (2 : Int32)) &&& (3 : Int32))), .unset, .unset, .unset, .unset, .unset, .unset, .unset]) at_10 (pc' := 12) rfl rfl ?_
    generalize (XT.ushr s0 (2 : Int32)) &&& (3 : Int32) = pk
    have j52 : ∀ dd : Int64, Go p l e room_1 s m ([.int s0, .long p0, .long p1, .long q0, .long q1, .long cc] : List Value).toArray below meth c Z.heap.size (RV fun r _ => r = .int 1) room_1.cells room_1.slots Z.heap 0 0 (mkF m 52 #[.val (.int s0), .val (.long p0), .second, .val (.long p1), .second, .val (.long q0), .second, .val (.long q1), .second, .val (.long cc), .second, .val (.int (2 : Int32)), .val (.int pk), .val (.long dd), .second, .unset, .unset, .unset, .unset, .unset] []) := by
      intro dd
      refine go_iload C at_52 (pc' := 54) rfl rfl ?_
      refine go_lloadN C at_54 (pc' := 55) rfl rfl ?_
      refine go_lloadN C at_55 (pc' := 56) rfl rfl ?_
      refine go_lload C at_56 (pc' := 58) rfl rfl ?_
      refine go_staticV C (as := [.int (2 : Int32), .long p0, .long p1, .long cc]) (rest := []) (W := 0) (sat_make2 l Z a0 hw p0 p1 cc _ _ (Nat.le_refl _)) (wd hw 0 rfl) (wd hw 1 rfl) (wd hw 2 rfl) (wd hw 3 rfl) (by decide) pd_1 rfl rfl rfl (by decide) (by decide) (ce' := 1) (sl' := 2) rfl rfl (by decide) (by decide) at_58 (pc' := 61) rfl rfl ?_
      intro r_81 h_82 q_83
      obtain ⟨a_84, rfl, g_85, K_86, A_87⟩ := q_83
      have z_88 : Z.heap.size ≤ h_82.size := Nat.le_trans (Nat.le_refl _) K_86.1
      refine go_astore C (Ls' := #[.val (.int s0), .val (.long p0), .second, .val (.long p1), .second, .val (.long q0), .second, .val (.long q1), .second, .val (.long cc), .second, .val (.int (2 : Int32)), .val (.int pk), .val (.long dd), .second, .val (.ref a_84), .unset, .unset, .unset, .unset]) at_61 (pc' := 63) rfl rfl rfl ?_
      refine go_iload C at_63 (pc' := 65) rfl rfl ?_
      refine go_lload C at_65 (pc' := 67) rfl rfl ?_
      refine go_lload C at_67 (pc' := 69) rfl rfl ?_
      refine go_lload C at_69 (pc' := 71) rfl rfl ?_
      refine go_staticV C (as := [.int (2 : Int32), .long q0, .long q1, .long dd]) (rest := []) (W := 0) (sat_make2 l Z a0 hw q0 q1 dd _ _ z_88) (wd hw 0 rfl) (wd hw 1 rfl) (wd hw 2 rfl) (wd hw 3 rfl) (by decide) pd_1 rfl rfl rfl (by decide) (by decide) (ce' := 2) (sl' := 4) rfl rfl (by decide) (by decide) at_71 (pc' := 74) rfl rfl ?_
      intro r_89 h_90 q_91
      obtain ⟨a_92, rfl, g_93, K_94, A_95⟩ := q_91
      have n_96 : a_84 ≠ a_92 := Nat.ne_of_lt (Nat.lt_of_lt_of_le A_87.lt g_93)
      have z_97 : Z.heap.size ≤ h_90.size := Nat.le_trans z_88 K_94.1
      have A_98 := Av.keep A_87 K_94 nin0
      refine go_astore C (Ls' := #[.val (.int s0), .val (.long p0), .second, .val (.long p1), .second, .val (.long q0), .second, .val (.long q1), .second, .val (.long cc), .second, .val (.int (2 : Int32)), .val (.int pk), .val (.long dd), .second, .val (.ref a_84), .val (.ref a_92), .unset, .unset, .unset]) at_74 (pc' := 76) rfl rfl rfl ?_
      have j_99 : ∀ b_100 : Int32, b_100 = bi (p0.toInt ≤ q0.toInt ∧ p1.toInt ≤ q1.toInt) → Go p l e room_1 s m ([.int s0, .long p0, .long p1, .long q0, .long q1, .long cc] : List Value).toArray below meth c Z.heap.size (RV fun r _ => r = .int 1) room_1.cells room_1.slots h_90 2 4 (mkF m 121 #[.val (.int s0), .val (.long p0), .second, .val (.long p1), .second, .val (.long q0), .second, .val (.long q1), .second, .val (.long cc), .second, .val (.int (2 : Int32)), .val (.int pk), .val (.long dd), .second, .val (.ref a_84), .val (.ref a_92), .unset, .unset, .unset] [.int b_100]) := by
        intro b_100 e_101
        subst e_101
        refine go_istore C (Ls' := #[.val (.int s0), .val (.long p0), .second, .val (.long p1), .second, .val (.long q0), .second, .val (.long q1), .second, .val (.long cc), .second, .val (.int (2 : Int32)), .val (.int pk), .val (.long dd), .second, .val (.ref a_84), .val (.ref a_92), .val (.int (bi (p0.toInt ≤ q0.toInt ∧ p1.toInt ≤ q1.toInt))), .unset, .unset]) at_121 (pc' := 123) rfl rfl ?_
        have j_102 : ∀ b_103 : Int32, b_103 = bi (p0.toInt < q0.toInt ∨ p1.toInt < q1.toInt) → Go p l e room_1 s m ([.int s0, .long p0, .long p1, .long q0, .long q1, .long cc] : List Value).toArray below meth c Z.heap.size (RV fun r _ => r = .int 1) room_1.cells room_1.slots h_90 2 4 (mkF m 168 #[.val (.int s0), .val (.long p0), .second, .val (.long p1), .second, .val (.long q0), .second, .val (.long q1), .second, .val (.long cc), .second, .val (.int (2 : Int32)), .val (.int pk), .val (.long dd), .second, .val (.ref a_84), .val (.ref a_92), .val (.int (bi (p0.toInt ≤ q0.toInt ∧ p1.toInt ≤ q1.toInt))), .unset, .unset] [.int b_103]) := by
          intro b_103 e_104
          subst e_104
          refine go_istore C (Ls' := #[.val (.int s0), .val (.long p0), .second, .val (.long p1), .second, .val (.long q0), .second, .val (.long q1), .second, .val (.long cc), .second, .val (.int (2 : Int32)), .val (.int pk), .val (.long dd), .second, .val (.ref a_84), .val (.ref a_92), .val (.int (bi (p0.toInt ≤ q0.toInt ∧ p1.toInt ≤ q1.toInt))), .val (.int (bi (p0.toInt < q0.toInt ∨ p1.toInt < q1.toInt))), .unset]) at_168 (pc' := 170) rfl rfl ?_
          have j_105 : ∀ b_106 : Int32, b_106 = bi ((p0.toInt ≤ q0.toInt ∧ p1.toInt ≤ q1.toInt) ∧ (p0.toInt < q0.toInt ∨ p1.toInt < q1.toInt)) → Go p l e room_1 s m ([.int s0, .long p0, .long p1, .long q0, .long q1, .long cc] : List Value).toArray below meth c Z.heap.size (RV fun r _ => r = .int 1) room_1.cells room_1.slots h_90 2 4 (mkF m 185 #[.val (.int s0), .val (.long p0), .second, .val (.long p1), .second, .val (.long q0), .second, .val (.long q1), .second, .val (.long cc), .second, .val (.int (2 : Int32)), .val (.int pk), .val (.long dd), .second, .val (.ref a_84), .val (.ref a_92), .val (.int (bi (p0.toInt ≤ q0.toInt ∧ p1.toInt ≤ q1.toInt))), .val (.int (bi (p0.toInt < q0.toInt ∨ p1.toInt < q1.toInt))), .unset] [.int b_106]) := by
            intro b_106 e_107
            subst e_107
            refine go_istore C (Ls' := #[.val (.int s0), .val (.long p0), .second, .val (.long p1), .second, .val (.long q0), .second, .val (.long q1), .second, .val (.long cc), .second, .val (.int (2 : Int32)), .val (.int pk), .val (.long dd), .second, .val (.ref a_84), .val (.ref a_92), .val (.int (bi (p0.toInt ≤ q0.toInt ∧ p1.toInt ≤ q1.toInt))), .val (.int (bi (p0.toInt < q0.toInt ∨ p1.toInt < q1.toInt))), .val (.int (bi ((p0.toInt ≤ q0.toInt ∧ p1.toInt ≤ q1.toInt) ∧ (p0.toInt < q0.toInt ∨ p1.toInt < q1.toInt))))]) at_185 (pc' := 187) rfl rfl ?_
            refine go_aload C at_187 (pc' := 189) rfl rfl rfl ?_
            refine go_aload C at_189 (pc' := 191) rfl rfl rfl ?_
            refine go_staticP C (as := [.ref a_84, .ref a_92]) (rest := []) (W := 0) (.int (bi ((p0.toInt ≤ q0.toInt ∧ p1.toInt ≤ q1.toInt) ∧ (p0.toInt < q0.toInt ∨ p1.toInt < q1.toInt)))) (sat_so2 l Z a0 hw a_84 a_92 p0 p1 q0 q1 _ _ A_98 A_95) (wd hw 5 rfl) (wd hw 6 rfl) (wd hw 7 rfl) (wd hw 8 rfl) (by decide) pd_2 rfl rfl rfl (by decide) (by decide) rfl rfl (by decide) (by decide) at_191 (pc' := 194) rfl rfl ?_
            refine go_iload C at_194 (pc' := 196) rfl rfl ?_
            refine go_icmp C ((bi ((p0.toInt ≤ q0.toInt ∧ p1.toInt ≤ q1.toInt) ∧ (p0.toInt < q0.toInt ∨ p1.toInt < q1.toInt))).toInt) ((bi ((p0.toInt ≤ q0.toInt ∧ p1.toInt ≤ q1.toInt) ∧ (p0.toInt < q0.toInt ∨ p1.toInt < q1.toInt))).toInt) rfl rfl at_196 (by decide) (pc' := 203) (by decide) (pcN := 199) rfl (fun (c_108 : ¬ ((bi ((p0.toInt ≤ q0.toInt ∧ p1.toInt ≤ q1.toInt) ∧ (p0.toInt < q0.toInt ∨ p1.toInt < q1.toInt))).toInt) = ((bi ((p0.toInt ≤ q0.toInt ∧ p1.toInt ≤ q1.toInt) ∧ (p0.toInt < q0.toInt ∨ p1.toInt < q1.toInt))).toInt)) => by omega) (fun (c_108 : ((bi ((p0.toInt ≤ q0.toInt ∧ p1.toInt ≤ q1.toInt) ∧ (p0.toInt < q0.toInt ∨ p1.toInt < q1.toInt))).toInt) = ((bi ((p0.toInt ≤ q0.toInt ∧ p1.toInt ≤ q1.toInt) ∧ (p0.toInt < q0.toInt ∨ p1.toInt < q1.toInt))).toInt)) => ?_)
            refine go_iconst C (1 : Int32) at_199 (pc' := 200) rfl (by decide) ?_
            refine go_goto C at_200 (by decide) (pc' := 204) (by decide) ?_
            refine go_ireturnN C (z' := (1 : Int32)) rfl (by simp) rfl at_204 (by decide) (by decide) ?_
            exact ⟨_, rfl, rfl⟩
          refine go_iload C at_170 (pc' := 172) rfl rfl ?_
          refine go_ifeq_b C at_172 (by decide) (pc' := 184) (by decide) (pcN := 175) rfl (fun c_109 => ?_) (fun c_109 => ?_)
          · skip
            refine go_iconst C (0 : Int32) at_184 (pc' := 185) rfl (by decide) ?_
            exact j_105 _ (bi0 (by first | omega | (intro q; exact q.2) | trivial))
          · skip
            refine go_iload C at_175 (pc' := 177) rfl rfl ?_
            refine go_ifeq_b C at_177 (by decide) (pc' := 184) (by decide) (pcN := 180) rfl (fun c_110 => ?_) (fun c_110 => ?_)
            · skip
              refine go_iconst C (0 : Int32) at_184 (pc' := 185) rfl (by decide) ?_
              exact j_105 _ (bi0 (by first | omega | (intro q; exact q.2) | trivial))
            · skip
              refine go_iconst C (1 : Int32) at_180 (pc' := 181) rfl (by decide) ?_
              refine go_goto C at_181 (by decide) (pc' := 185) (by decide) ?_
              exact j_105 _ (bi1 (by first | omega | (intro q; exact q.2) | trivial))
        refine go_iload C at_123 (pc' := 125) rfl rfl ?_
        refine go_iconst C (1 : Int32) at_125 (pc' := 126) rfl (by decide) ?_
        refine go_icmp C (2 : Int) (1 : Int) (by decide) (by decide) at_126 (by decide) (pc' := 136) (by decide) (pcN := 129) rfl (fun (c_111 : (2 : Int) < (1 : Int)) => by omega) (fun (c_111 : ¬ (2 : Int) < (1 : Int)) => ?_)
        refine go_lloadN C at_129 (pc' := 130) rfl rfl ?_
        refine go_lload C at_130 (pc' := 132) rfl rfl ?_
        refine go_lcmp C p0.toInt q0.toInt rfl rfl at_132 (pc1 := 133) rfl at_133 (by decide) (pc' := 163) (by decide) (pcN := 136) rfl (fun (c_112 : p0.toInt < q0.toInt) => ?_) (fun (c_112 : ¬ p0.toInt < q0.toInt) => ?_)
        · skip
          refine go_iconst C (1 : Int32) at_163 (pc' := 164) rfl (by decide) ?_
          refine go_goto C at_164 (by decide) (pc' := 168) (by decide) ?_
          exact j_102 _ (bi1 (by first | omega | exact id))
        · skip
          refine go_iload C at_136 (pc' := 138) rfl rfl ?_
          refine go_iconst C (2 : Int32) at_138 (pc' := 139) rfl (by decide) ?_
          refine go_icmp C (2 : Int) (2 : Int) (by decide) (by decide) at_139 (by decide) (pc' := 149) (by decide) (pcN := 142) rfl (fun (c_113 : (2 : Int) < (2 : Int)) => by omega) (fun (c_113 : ¬ (2 : Int) < (2 : Int)) => ?_)
          refine go_lloadN C at_142 (pc' := 143) rfl rfl ?_
          refine go_lload C at_143 (pc' := 145) rfl rfl ?_
          refine go_lcmp C p1.toInt q1.toInt rfl rfl at_145 (pc1 := 146) rfl at_146 (by decide) (pc' := 163) (by decide) (pcN := 149) rfl (fun (c_114 : p1.toInt < q1.toInt) => ?_) (fun (c_114 : ¬ p1.toInt < q1.toInt) => ?_)
          · skip
            refine go_iconst C (1 : Int32) at_163 (pc' := 164) rfl (by decide) ?_
            refine go_goto C at_164 (by decide) (pc' := 168) (by decide) ?_
            exact j_102 _ (bi1 (by first | omega | exact id))
          · skip
            refine go_iload C at_149 (pc' := 151) rfl rfl ?_
            refine go_iconst C (3 : Int32) at_151 (pc' := 152) rfl (by decide) ?_
            refine go_icmp C (2 : Int) (3 : Int) (by decide) (by decide) at_152 (by decide) (pc' := 167) (by decide) (pcN := 155) rfl (fun (c_115 : (2 : Int) < (3 : Int)) => ?_) (fun (c_115 : ¬ (2 : Int) < (3 : Int)) => by omega)
            refine go_iconst C (0 : Int32) at_167 (pc' := 168) rfl (by decide) ?_
            exact j_102 _ (bi0 (by first | omega | exact id))
      refine go_iload C at_76 (pc' := 78) rfl rfl ?_
      refine go_iconst C (1 : Int32) at_78 (pc' := 79) rfl (by decide) ?_
      refine go_icmp C (2 : Int) (1 : Int) (by decide) (by decide) at_79 (by decide) (pc' := 89) (by decide) (pcN := 82) rfl (fun (c_116 : (2 : Int) < (1 : Int)) => by omega) (fun (c_116 : ¬ (2 : Int) < (1 : Int)) => ?_)
      refine go_lloadN C at_82 (pc' := 83) rfl rfl ?_
      refine go_lload C at_83 (pc' := 85) rfl rfl ?_
      refine go_lcmp C p0.toInt q0.toInt rfl rfl at_85 (pc1 := 86) rfl at_86 (by decide) (pc' := 120) (by decide) (pcN := 89) rfl (fun (c_117 : q0.toInt < p0.toInt) => ?_) (fun (c_117 : ¬ q0.toInt < p0.toInt) => ?_)
      · skip
        refine go_iconst C (0 : Int32) at_120 (pc' := 121) rfl (by decide) ?_
        exact j_99 _ (bi0 (by first | omega | trivial))
      · skip
        refine go_iload C at_89 (pc' := 91) rfl rfl ?_
        refine go_iconst C (2 : Int32) at_91 (pc' := 92) rfl (by decide) ?_
        refine go_icmp C (2 : Int) (2 : Int) (by decide) (by decide) at_92 (by decide) (pc' := 102) (by decide) (pcN := 95) rfl (fun (c_118 : (2 : Int) < (2 : Int)) => by omega) (fun (c_118 : ¬ (2 : Int) < (2 : Int)) => ?_)
        refine go_lloadN C at_95 (pc' := 96) rfl rfl ?_
        refine go_lload C at_96 (pc' := 98) rfl rfl ?_
        refine go_lcmp C p1.toInt q1.toInt rfl rfl at_98 (pc1 := 99) rfl at_99 (by decide) (pc' := 120) (by decide) (pcN := 102) rfl (fun (c_119 : q1.toInt < p1.toInt) => ?_) (fun (c_119 : ¬ q1.toInt < p1.toInt) => ?_)
        · skip
          refine go_iconst C (0 : Int32) at_120 (pc' := 121) rfl (by decide) ?_
          exact j_99 _ (bi0 (by first | omega | trivial))
        · skip
          refine go_iload C at_102 (pc' := 104) rfl rfl ?_
          refine go_iconst C (3 : Int32) at_104 (pc' := 105) rfl (by decide) ?_
          refine go_icmp C (2 : Int) (3 : Int) (by decide) (by decide) at_105 (by decide) (pc' := 116) (by decide) (pcN := 108) rfl (fun (c_120 : (2 : Int) < (3 : Int)) => ?_) (fun (c_120 : ¬ (2 : Int) < (3 : Int)) => by omega)
          refine go_iconst C (1 : Int32) at_116 (pc' := 117) rfl (by decide) ?_
          refine go_goto C at_117 (by decide) (pc' := 121) (by decide) ?_
          exact j_99 _ (bi1 (by first | omega | trivial))
    refine go_iload C at_12 (pc' := 14) rfl rfl ?_
    refine go_if0 C pk.toInt rfl at_14 (by decide) (pc' := 23) (by decide) (pcN := 17) rfl (fun (c_121 : ¬ pk.toInt = 0) => ?_) (fun (c_121 : pk.toInt = 0) => ?_)
    · skip
      refine go_iload C at_23 (pc' := 25) rfl rfl ?_
      refine go_iconst C (1 : Int32) at_25 (pc' := 26) rfl (by decide) ?_
      refine go_icmp C pk.toInt (1 : Int) rfl (by decide) at_26 (by decide) (pc' := 35) (by decide) (pcN := 29) rfl (fun (c_122 : ¬ pk.toInt = (1 : Int)) => ?_) (fun (c_122 : pk.toInt = (1 : Int)) => ?_)
      · skip
        refine go_iload C at_35 (pc' := 37) rfl rfl ?_
        refine go_iconst C (2 : Int32) at_37 (pc' := 38) rfl (by decide) ?_
        refine go_icmp C pk.toInt (2 : Int) rfl (by decide) at_38 (by decide) (pc' := 48) (by decide) (pcN := 41) rfl (fun (c_123 : ¬ pk.toInt = (2 : Int)) => ?_) (fun (c_123 : pk.toInt = (2 : Int)) => ?_)
        · skip
          refine go_lload C at_48 (pc' := 50) rfl rfl ?_
          refine go_lstore C (Ls' := #[.val (.int s0), .val (.long p0), .second, .val (.long p1), .second, .val (.long q0), .second, .val (.long q1), .second, .val (.long cc), .second, .val (.int (2 : Int32)), .val (.int pk), .val (.long q1), .second, .unset, .unset, .unset, .unset, .unset]) at_50 (pc' := 52) rfl rfl ?_
          exact j52 _
        · skip
          refine go_lload C at_41 (pc' := 43) rfl rfl ?_
          refine go_lstore C (Ls' := #[.val (.int s0), .val (.long p0), .second, .val (.long p1), .second, .val (.long q0), .second, .val (.long q1), .second, .val (.long cc), .second, .val (.int (2 : Int32)), .val (.int pk), .val (.long q0), .second, .unset, .unset, .unset, .unset, .unset]) at_43 (pc' := 45) rfl rfl ?_
          refine go_goto C at_45 (by decide) (pc' := 52) (by decide) ?_
          exact j52 _
      · skip
        refine go_lloadN C at_29 (pc' := 30) rfl rfl ?_
        refine go_lstore C (Ls' := #[.val (.int s0), .val (.long p0), .second, .val (.long p1), .second, .val (.long q0), .second, .val (.long q1), .second, .val (.long cc), .second, .val (.int (2 : Int32)), .val (.int pk), .val (.long p1), .second, .unset, .unset, .unset, .unset, .unset]) at_30 (pc' := 32) rfl rfl ?_
        refine go_goto C at_32 (by decide) (pc' := 52) (by decide) ?_
        exact j52 _
    · skip
      refine go_lloadN C at_17 (pc' := 18) rfl rfl ?_
      refine go_lstore C (Ls' := #[.val (.int s0), .val (.long p0), .second, .val (.long p1), .second, .val (.long q0), .second, .val (.long q1), .second, .val (.long cc), .second, .val (.int (2 : Int32)), .val (.int pk), .val (.long p0), .second, .unset, .unset, .unset, .unset, .unset]) at_18 (pc' := 20) rfl rfl ?_
      refine go_goto C at_20 (by decide) (pc' := 52) (by decide) ?_
      exact j52 _
  · rw [hn]
    refine go_iloadN C at_5 (pc' := 6) rfl rfl ?_
    refine go_iconst C (2 : Int32) at_6 (pc' := 7) rfl (by decide) ?_
    refine go_iushr C at_7 (pc' := 8) rfl ?_
    refine go_iconst C (3 : Int32) at_8 (pc' := 9) rfl (by decide) ?_
    refine go_iand C at_9 (pc' := 10) rfl ?_
    refine go_istore C (Ls' := #[.val (.int s0), .val (.long p0), .second, .val (.long p1), .second, .val (.long q0), .second, .val (.long q1), .second, .val (.long cc), .second, .val (.int (3 : Int32)), .val (.int ((XT.ushr s0 (2 : Int32)) &&& (3 : Int32))), .unset, .unset, .unset, .unset, .unset, .unset, .unset]) at_10 (pc' := 12) rfl rfl ?_
    generalize (XT.ushr s0 (2 : Int32)) &&& (3 : Int32) = pk
    have j52 : ∀ dd : Int64, Go p l e room_1 s m ([.int s0, .long p0, .long p1, .long q0, .long q1, .long cc] : List Value).toArray below meth c Z.heap.size (RV fun r _ => r = .int 1) room_1.cells room_1.slots Z.heap 0 0 (mkF m 52 #[.val (.int s0), .val (.long p0), .second, .val (.long p1), .second, .val (.long q0), .second, .val (.long q1), .second, .val (.long cc), .second, .val (.int (3 : Int32)), .val (.int pk), .val (.long dd), .second, .unset, .unset, .unset, .unset, .unset] []) := by
      intro dd
      refine go_iload C at_52 (pc' := 54) rfl rfl ?_
      refine go_lloadN C at_54 (pc' := 55) rfl rfl ?_
      refine go_lloadN C at_55 (pc' := 56) rfl rfl ?_
      refine go_lload C at_56 (pc' := 58) rfl rfl ?_
      refine go_staticV C (as := [.int (3 : Int32), .long p0, .long p1, .long cc]) (rest := []) (W := 0) (sat_make3 l Z a0 hw p0 p1 cc _ _ (Nat.le_refl _)) (wd hw 0 rfl) (wd hw 1 rfl) (wd hw 2 rfl) (wd hw 3 rfl) (by decide) pd_1 rfl rfl rfl (by decide) (by decide) (ce' := 1) (sl' := 3) rfl rfl (by decide) (by decide) at_58 (pc' := 61) rfl rfl ?_
      intro r_124 h_125 q_126
      obtain ⟨a_127, rfl, g_128, K_129, A_130⟩ := q_126
      have z_131 : Z.heap.size ≤ h_125.size := Nat.le_trans (Nat.le_refl _) K_129.1
      refine go_astore C (Ls' := #[.val (.int s0), .val (.long p0), .second, .val (.long p1), .second, .val (.long q0), .second, .val (.long q1), .second, .val (.long cc), .second, .val (.int (3 : Int32)), .val (.int pk), .val (.long dd), .second, .val (.ref a_127), .unset, .unset, .unset, .unset]) at_61 (pc' := 63) rfl rfl rfl ?_
      refine go_iload C at_63 (pc' := 65) rfl rfl ?_
      refine go_lload C at_65 (pc' := 67) rfl rfl ?_
      refine go_lload C at_67 (pc' := 69) rfl rfl ?_
      refine go_lload C at_69 (pc' := 71) rfl rfl ?_
      refine go_staticV C (as := [.int (3 : Int32), .long q0, .long q1, .long dd]) (rest := []) (W := 0) (sat_make3 l Z a0 hw q0 q1 dd _ _ z_131) (wd hw 0 rfl) (wd hw 1 rfl) (wd hw 2 rfl) (wd hw 3 rfl) (by decide) pd_1 rfl rfl rfl (by decide) (by decide) (ce' := 2) (sl' := 6) rfl rfl (by decide) (by decide) at_71 (pc' := 74) rfl rfl ?_
      intro r_132 h_133 q_134
      obtain ⟨a_135, rfl, g_136, K_137, A_138⟩ := q_134
      have n_139 : a_127 ≠ a_135 := Nat.ne_of_lt (Nat.lt_of_lt_of_le A_130.lt g_136)
      have z_140 : Z.heap.size ≤ h_133.size := Nat.le_trans z_131 K_137.1
      have A_141 := Av.keep A_130 K_137 nin0
      refine go_astore C (Ls' := #[.val (.int s0), .val (.long p0), .second, .val (.long p1), .second, .val (.long q0), .second, .val (.long q1), .second, .val (.long cc), .second, .val (.int (3 : Int32)), .val (.int pk), .val (.long dd), .second, .val (.ref a_127), .val (.ref a_135), .unset, .unset, .unset]) at_74 (pc' := 76) rfl rfl rfl ?_
      have j_142 : ∀ b_143 : Int32, b_143 = bi (p0.toInt ≤ q0.toInt ∧ p1.toInt ≤ q1.toInt ∧ cc.toInt ≤ dd.toInt) → Go p l e room_1 s m ([.int s0, .long p0, .long p1, .long q0, .long q1, .long cc] : List Value).toArray below meth c Z.heap.size (RV fun r _ => r = .int 1) room_1.cells room_1.slots h_133 2 6 (mkF m 121 #[.val (.int s0), .val (.long p0), .second, .val (.long p1), .second, .val (.long q0), .second, .val (.long q1), .second, .val (.long cc), .second, .val (.int (3 : Int32)), .val (.int pk), .val (.long dd), .second, .val (.ref a_127), .val (.ref a_135), .unset, .unset, .unset] [.int b_143]) := by
        intro b_143 e_144
        subst e_144
        refine go_istore C (Ls' := #[.val (.int s0), .val (.long p0), .second, .val (.long p1), .second, .val (.long q0), .second, .val (.long q1), .second, .val (.long cc), .second, .val (.int (3 : Int32)), .val (.int pk), .val (.long dd), .second, .val (.ref a_127), .val (.ref a_135), .val (.int (bi (p0.toInt ≤ q0.toInt ∧ p1.toInt ≤ q1.toInt ∧ cc.toInt ≤ dd.toInt))), .unset, .unset]) at_121 (pc' := 123) rfl rfl ?_
        have j_145 : ∀ b_146 : Int32, b_146 = bi (p0.toInt < q0.toInt ∨ p1.toInt < q1.toInt ∨ cc.toInt < dd.toInt) → Go p l e room_1 s m ([.int s0, .long p0, .long p1, .long q0, .long q1, .long cc] : List Value).toArray below meth c Z.heap.size (RV fun r _ => r = .int 1) room_1.cells room_1.slots h_133 2 6 (mkF m 168 #[.val (.int s0), .val (.long p0), .second, .val (.long p1), .second, .val (.long q0), .second, .val (.long q1), .second, .val (.long cc), .second, .val (.int (3 : Int32)), .val (.int pk), .val (.long dd), .second, .val (.ref a_127), .val (.ref a_135), .val (.int (bi (p0.toInt ≤ q0.toInt ∧ p1.toInt ≤ q1.toInt ∧ cc.toInt ≤ dd.toInt))), .unset, .unset] [.int b_146]) := by
          intro b_146 e_147
          subst e_147
          refine go_istore C (Ls' := #[.val (.int s0), .val (.long p0), .second, .val (.long p1), .second, .val (.long q0), .second, .val (.long q1), .second, .val (.long cc), .second, .val (.int (3 : Int32)), .val (.int pk), .val (.long dd), .second, .val (.ref a_127), .val (.ref a_135), .val (.int (bi (p0.toInt ≤ q0.toInt ∧ p1.toInt ≤ q1.toInt ∧ cc.toInt ≤ dd.toInt))), .val (.int (bi (p0.toInt < q0.toInt ∨ p1.toInt < q1.toInt ∨ cc.toInt < dd.toInt))), .unset]) at_168 (pc' := 170) rfl rfl ?_
          have j_148 : ∀ b_149 : Int32, b_149 = bi ((p0.toInt ≤ q0.toInt ∧ p1.toInt ≤ q1.toInt ∧ cc.toInt ≤ dd.toInt) ∧ (p0.toInt < q0.toInt ∨ p1.toInt < q1.toInt ∨ cc.toInt < dd.toInt)) → Go p l e room_1 s m ([.int s0, .long p0, .long p1, .long q0, .long q1, .long cc] : List Value).toArray below meth c Z.heap.size (RV fun r _ => r = .int 1) room_1.cells room_1.slots h_133 2 6 (mkF m 185 #[.val (.int s0), .val (.long p0), .second, .val (.long p1), .second, .val (.long q0), .second, .val (.long q1), .second, .val (.long cc), .second, .val (.int (3 : Int32)), .val (.int pk), .val (.long dd), .second, .val (.ref a_127), .val (.ref a_135), .val (.int (bi (p0.toInt ≤ q0.toInt ∧ p1.toInt ≤ q1.toInt ∧ cc.toInt ≤ dd.toInt))), .val (.int (bi (p0.toInt < q0.toInt ∨ p1.toInt < q1.toInt ∨ cc.toInt < dd.toInt))), .unset] [.int b_149]) := by
            intro b_149 e_150
            subst e_150
            refine go_istore C (Ls' := #[.val (.int s0), .val (.long p0), .second, .val (.long p1), .second, .val (.long q0), .second, .val (.long q1), .second, .val (.long cc), .second, .val (.int (3 : Int32)), .val (.int pk), .val (.long dd), .second, .val (.ref a_127), .val (.ref a_135), .val (.int (bi (p0.toInt ≤ q0.toInt ∧ p1.toInt ≤ q1.toInt ∧ cc.toInt ≤ dd.toInt))), .val (.int (bi (p0.toInt < q0.toInt ∨ p1.toInt < q1.toInt ∨ cc.toInt < dd.toInt))), .val (.int (bi ((p0.toInt ≤ q0.toInt ∧ p1.toInt ≤ q1.toInt ∧ cc.toInt ≤ dd.toInt) ∧ (p0.toInt < q0.toInt ∨ p1.toInt < q1.toInt ∨ cc.toInt < dd.toInt))))]) at_185 (pc' := 187) rfl rfl ?_
            refine go_aload C at_187 (pc' := 189) rfl rfl rfl ?_
            refine go_aload C at_189 (pc' := 191) rfl rfl rfl ?_
            refine go_staticP C (as := [.ref a_127, .ref a_135]) (rest := []) (W := 0) (.int (bi ((p0.toInt ≤ q0.toInt ∧ p1.toInt ≤ q1.toInt ∧ cc.toInt ≤ dd.toInt) ∧ (p0.toInt < q0.toInt ∨ p1.toInt < q1.toInt ∨ cc.toInt < dd.toInt)))) (sat_so3 l Z a0 hw a_127 a_135 p0 p1 cc q0 q1 dd _ _ A_141 A_138) (wd hw 5 rfl) (wd hw 6 rfl) (wd hw 7 rfl) (wd hw 8 rfl) (by decide) pd_2 rfl rfl rfl (by decide) (by decide) rfl rfl (by decide) (by decide) at_191 (pc' := 194) rfl rfl ?_
            refine go_iload C at_194 (pc' := 196) rfl rfl ?_
            refine go_icmp C ((bi ((p0.toInt ≤ q0.toInt ∧ p1.toInt ≤ q1.toInt ∧ cc.toInt ≤ dd.toInt) ∧ (p0.toInt < q0.toInt ∨ p1.toInt < q1.toInt ∨ cc.toInt < dd.toInt))).toInt) ((bi ((p0.toInt ≤ q0.toInt ∧ p1.toInt ≤ q1.toInt ∧ cc.toInt ≤ dd.toInt) ∧ (p0.toInt < q0.toInt ∨ p1.toInt < q1.toInt ∨ cc.toInt < dd.toInt))).toInt) rfl rfl at_196 (by decide) (pc' := 203) (by decide) (pcN := 199) rfl (fun (c_151 : ¬ ((bi ((p0.toInt ≤ q0.toInt ∧ p1.toInt ≤ q1.toInt ∧ cc.toInt ≤ dd.toInt) ∧ (p0.toInt < q0.toInt ∨ p1.toInt < q1.toInt ∨ cc.toInt < dd.toInt))).toInt) = ((bi ((p0.toInt ≤ q0.toInt ∧ p1.toInt ≤ q1.toInt ∧ cc.toInt ≤ dd.toInt) ∧ (p0.toInt < q0.toInt ∨ p1.toInt < q1.toInt ∨ cc.toInt < dd.toInt))).toInt)) => by omega) (fun (c_151 : ((bi ((p0.toInt ≤ q0.toInt ∧ p1.toInt ≤ q1.toInt ∧ cc.toInt ≤ dd.toInt) ∧ (p0.toInt < q0.toInt ∨ p1.toInt < q1.toInt ∨ cc.toInt < dd.toInt))).toInt) = ((bi ((p0.toInt ≤ q0.toInt ∧ p1.toInt ≤ q1.toInt ∧ cc.toInt ≤ dd.toInt) ∧ (p0.toInt < q0.toInt ∨ p1.toInt < q1.toInt ∨ cc.toInt < dd.toInt))).toInt)) => ?_)
            refine go_iconst C (1 : Int32) at_199 (pc' := 200) rfl (by decide) ?_
            refine go_goto C at_200 (by decide) (pc' := 204) (by decide) ?_
            refine go_ireturnN C (z' := (1 : Int32)) rfl (by simp) rfl at_204 (by decide) (by decide) ?_
            exact ⟨_, rfl, rfl⟩
          refine go_iload C at_170 (pc' := 172) rfl rfl ?_
          refine go_ifeq_b C at_172 (by decide) (pc' := 184) (by decide) (pcN := 175) rfl (fun c_152 => ?_) (fun c_152 => ?_)
          · skip
            refine go_iconst C (0 : Int32) at_184 (pc' := 185) rfl (by decide) ?_
            exact j_148 _ (bi0 (by first | omega | (intro q; exact q.2) | trivial))
          · skip
            refine go_iload C at_175 (pc' := 177) rfl rfl ?_
            refine go_ifeq_b C at_177 (by decide) (pc' := 184) (by decide) (pcN := 180) rfl (fun c_153 => ?_) (fun c_153 => ?_)
            · skip
              refine go_iconst C (0 : Int32) at_184 (pc' := 185) rfl (by decide) ?_
              exact j_148 _ (bi0 (by first | omega | (intro q; exact q.2) | trivial))
            · skip
              refine go_iconst C (1 : Int32) at_180 (pc' := 181) rfl (by decide) ?_
              refine go_goto C at_181 (by decide) (pc' := 185) (by decide) ?_
              exact j_148 _ (bi1 (by first | omega | (intro q; exact q.2) | trivial))
        refine go_iload C at_123 (pc' := 125) rfl rfl ?_
        refine go_iconst C (1 : Int32) at_125 (pc' := 126) rfl (by decide) ?_
        refine go_icmp C (3 : Int) (1 : Int) (by decide) (by decide) at_126 (by decide) (pc' := 136) (by decide) (pcN := 129) rfl (fun (c_154 : (3 : Int) < (1 : Int)) => by omega) (fun (c_154 : ¬ (3 : Int) < (1 : Int)) => ?_)
        refine go_lloadN C at_129 (pc' := 130) rfl rfl ?_
        refine go_lload C at_130 (pc' := 132) rfl rfl ?_
        refine go_lcmp C p0.toInt q0.toInt rfl rfl at_132 (pc1 := 133) rfl at_133 (by decide) (pc' := 163) (by decide) (pcN := 136) rfl (fun (c_155 : p0.toInt < q0.toInt) => ?_) (fun (c_155 : ¬ p0.toInt < q0.toInt) => ?_)
        · skip
          refine go_iconst C (1 : Int32) at_163 (pc' := 164) rfl (by decide) ?_
          refine go_goto C at_164 (by decide) (pc' := 168) (by decide) ?_
          exact j_145 _ (bi1 (by first | omega | exact id))
        · skip
          refine go_iload C at_136 (pc' := 138) rfl rfl ?_
          refine go_iconst C (2 : Int32) at_138 (pc' := 139) rfl (by decide) ?_
          refine go_icmp C (3 : Int) (2 : Int) (by decide) (by decide) at_139 (by decide) (pc' := 149) (by decide) (pcN := 142) rfl (fun (c_156 : (3 : Int) < (2 : Int)) => by omega) (fun (c_156 : ¬ (3 : Int) < (2 : Int)) => ?_)
          refine go_lloadN C at_142 (pc' := 143) rfl rfl ?_
          refine go_lload C at_143 (pc' := 145) rfl rfl ?_
          refine go_lcmp C p1.toInt q1.toInt rfl rfl at_145 (pc1 := 146) rfl at_146 (by decide) (pc' := 163) (by decide) (pcN := 149) rfl (fun (c_157 : p1.toInt < q1.toInt) => ?_) (fun (c_157 : ¬ p1.toInt < q1.toInt) => ?_)
          · skip
            refine go_iconst C (1 : Int32) at_163 (pc' := 164) rfl (by decide) ?_
            refine go_goto C at_164 (by decide) (pc' := 168) (by decide) ?_
            exact j_145 _ (bi1 (by first | omega | exact id))
          · skip
            refine go_iload C at_149 (pc' := 151) rfl rfl ?_
            refine go_iconst C (3 : Int32) at_151 (pc' := 152) rfl (by decide) ?_
            refine go_icmp C (3 : Int) (3 : Int) (by decide) (by decide) at_152 (by decide) (pc' := 167) (by decide) (pcN := 155) rfl (fun (c_158 : (3 : Int) < (3 : Int)) => by omega) (fun (c_158 : ¬ (3 : Int) < (3 : Int)) => ?_)
            refine go_lload C at_155 (pc' := 157) rfl rfl ?_
            refine go_lload C at_157 (pc' := 159) rfl rfl ?_
            refine go_lcmp C cc.toInt dd.toInt rfl rfl at_159 (pc1 := 160) rfl at_160 (by decide) (pc' := 167) (by decide) (pcN := 163) rfl (fun (c_159 : ¬ cc.toInt < dd.toInt) => ?_) (fun (c_159 : cc.toInt < dd.toInt) => ?_)
            · skip
              refine go_iconst C (0 : Int32) at_167 (pc' := 168) rfl (by decide) ?_
              exact j_145 _ (bi0 (by first | omega | exact id))
            · skip
              refine go_iconst C (1 : Int32) at_163 (pc' := 164) rfl (by decide) ?_
              refine go_goto C at_164 (by decide) (pc' := 168) (by decide) ?_
              exact j_145 _ (bi1 (by first | omega | exact id))
      refine go_iload C at_76 (pc' := 78) rfl rfl ?_
      refine go_iconst C (1 : Int32) at_78 (pc' := 79) rfl (by decide) ?_
      refine go_icmp C (3 : Int) (1 : Int) (by decide) (by decide) at_79 (by decide) (pc' := 89) (by decide) (pcN := 82) rfl (fun (c_160 : (3 : Int) < (1 : Int)) => by omega) (fun (c_160 : ¬ (3 : Int) < (1 : Int)) => ?_)
      refine go_lloadN C at_82 (pc' := 83) rfl rfl ?_
      refine go_lload C at_83 (pc' := 85) rfl rfl ?_
      refine go_lcmp C p0.toInt q0.toInt rfl rfl at_85 (pc1 := 86) rfl at_86 (by decide) (pc' := 120) (by decide) (pcN := 89) rfl (fun (c_161 : q0.toInt < p0.toInt) => ?_) (fun (c_161 : ¬ q0.toInt < p0.toInt) => ?_)
      · skip
        refine go_iconst C (0 : Int32) at_120 (pc' := 121) rfl (by decide) ?_
        exact j_142 _ (bi0 (by first | omega | trivial))
      · skip
        refine go_iload C at_89 (pc' := 91) rfl rfl ?_
        refine go_iconst C (2 : Int32) at_91 (pc' := 92) rfl (by decide) ?_
        refine go_icmp C (3 : Int) (2 : Int) (by decide) (by decide) at_92 (by decide) (pc' := 102) (by decide) (pcN := 95) rfl (fun (c_162 : (3 : Int) < (2 : Int)) => by omega) (fun (c_162 : ¬ (3 : Int) < (2 : Int)) => ?_)
        refine go_lloadN C at_95 (pc' := 96) rfl rfl ?_
        refine go_lload C at_96 (pc' := 98) rfl rfl ?_
        refine go_lcmp C p1.toInt q1.toInt rfl rfl at_98 (pc1 := 99) rfl at_99 (by decide) (pc' := 120) (by decide) (pcN := 102) rfl (fun (c_163 : q1.toInt < p1.toInt) => ?_) (fun (c_163 : ¬ q1.toInt < p1.toInt) => ?_)
        · skip
          refine go_iconst C (0 : Int32) at_120 (pc' := 121) rfl (by decide) ?_
          exact j_142 _ (bi0 (by first | omega | trivial))
        · skip
          refine go_iload C at_102 (pc' := 104) rfl rfl ?_
          refine go_iconst C (3 : Int32) at_104 (pc' := 105) rfl (by decide) ?_
          refine go_icmp C (3 : Int) (3 : Int) (by decide) (by decide) at_105 (by decide) (pc' := 116) (by decide) (pcN := 108) rfl (fun (c_164 : (3 : Int) < (3 : Int)) => by omega) (fun (c_164 : ¬ (3 : Int) < (3 : Int)) => ?_)
          refine go_lload C at_108 (pc' := 110) rfl rfl ?_
          refine go_lload C at_110 (pc' := 112) rfl rfl ?_
          refine go_lcmp C cc.toInt dd.toInt rfl rfl at_112 (pc1 := 113) rfl at_113 (by decide) (pc' := 120) (by decide) (pcN := 116) rfl (fun (c_165 : dd.toInt < cc.toInt) => ?_) (fun (c_165 : ¬ dd.toInt < cc.toInt) => ?_)
          · skip
            refine go_iconst C (0 : Int32) at_120 (pc' := 121) rfl (by decide) ?_
            exact j_142 _ (bi0 (by first | omega | trivial))
          · skip
            refine go_iconst C (1 : Int32) at_116 (pc' := 117) rfl (by decide) ?_
            refine go_goto C at_117 (by decide) (pc' := 121) (by decide) ?_
            exact j_142 _ (bi1 (by first | omega | trivial))
    refine go_iload C at_12 (pc' := 14) rfl rfl ?_
    refine go_if0 C pk.toInt rfl at_14 (by decide) (pc' := 23) (by decide) (pcN := 17) rfl (fun (c_166 : ¬ pk.toInt = 0) => ?_) (fun (c_166 : pk.toInt = 0) => ?_)
    · skip
      refine go_iload C at_23 (pc' := 25) rfl rfl ?_
      refine go_iconst C (1 : Int32) at_25 (pc' := 26) rfl (by decide) ?_
      refine go_icmp C pk.toInt (1 : Int) rfl (by decide) at_26 (by decide) (pc' := 35) (by decide) (pcN := 29) rfl (fun (c_167 : ¬ pk.toInt = (1 : Int)) => ?_) (fun (c_167 : pk.toInt = (1 : Int)) => ?_)
      · skip
        refine go_iload C at_35 (pc' := 37) rfl rfl ?_
        refine go_iconst C (2 : Int32) at_37 (pc' := 38) rfl (by decide) ?_
        refine go_icmp C pk.toInt (2 : Int) rfl (by decide) at_38 (by decide) (pc' := 48) (by decide) (pcN := 41) rfl (fun (c_168 : ¬ pk.toInt = (2 : Int)) => ?_) (fun (c_168 : pk.toInt = (2 : Int)) => ?_)
        · skip
          refine go_lload C at_48 (pc' := 50) rfl rfl ?_
          refine go_lstore C (Ls' := #[.val (.int s0), .val (.long p0), .second, .val (.long p1), .second, .val (.long q0), .second, .val (.long q1), .second, .val (.long cc), .second, .val (.int (3 : Int32)), .val (.int pk), .val (.long q1), .second, .unset, .unset, .unset, .unset, .unset]) at_50 (pc' := 52) rfl rfl ?_
          exact j52 _
        · skip
          refine go_lload C at_41 (pc' := 43) rfl rfl ?_
          refine go_lstore C (Ls' := #[.val (.int s0), .val (.long p0), .second, .val (.long p1), .second, .val (.long q0), .second, .val (.long q1), .second, .val (.long cc), .second, .val (.int (3 : Int32)), .val (.int pk), .val (.long q0), .second, .unset, .unset, .unset, .unset, .unset]) at_43 (pc' := 45) rfl rfl ?_
          refine go_goto C at_45 (by decide) (pc' := 52) (by decide) ?_
          exact j52 _
      · skip
        refine go_lloadN C at_29 (pc' := 30) rfl rfl ?_
        refine go_lstore C (Ls' := #[.val (.int s0), .val (.long p0), .second, .val (.long p1), .second, .val (.long q0), .second, .val (.long q1), .second, .val (.long cc), .second, .val (.int (3 : Int32)), .val (.int pk), .val (.long p1), .second, .unset, .unset, .unset, .unset, .unset]) at_30 (pc' := 32) rfl rfl ?_
        refine go_goto C at_32 (by decide) (pc' := 52) (by decide) ?_
        exact j52 _
    · skip
      refine go_lloadN C at_17 (pc' := 18) rfl rfl ?_
      refine go_lstore C (Ls' := #[.val (.int s0), .val (.long p0), .second, .val (.long p1), .second, .val (.long q0), .second, .val (.long q1), .second, .val (.long cc), .second, .val (.int (3 : Int32)), .val (.int pk), .val (.long p0), .second, .unset, .unset, .unset, .unset, .unset]) at_18 (pc' := 20) rfl rfl ?_
      refine go_goto C at_20 (by decide) (pc' := 52) (by decide) ?_
      exact j52 _
set_option maxRecDepth 65536 in
set_option maxHeartbeats 40000000 in
theorem comes_1 {Post : Tables → Env → Array Value → State → Outcome → State → Prop} (hpost : ∀ tb e args s v u, (limb_1_1.after args s (.returned v) u = true ∧ limb_1_2.after args s (.returned v) u = true ∧ True) → FrameEnd s (.returned v) u (Jvm.fieldLocs frame_1_writes args s ++ Jvm.arrayLocs frame_1_arrays args s ++ Jvm.staticLocs frame_1_statics s) 16 128 → Post tb e args s (.returned v) u) :
    ArmFor flags0 classFile x code maxLocals ret World_1 tables_1 room_1 Calls_1 rest_1 Pre_1 Post := by
  intro l hfl _ _ p e ha hc hk s m args below hf hA hF happ hP
  obtain ⟨hcalls, hrest, hpre⟩ := hP
  obtain ⟨-, -, -, hnamed, -, -, -, hat⟩ := (Spec.applies_iff hf).mp happ
  obtain ⟨hg, hn⟩ := and_e (Cond.before_iff.mp (show (Jvm.Cond.and given_1 narrow_1).before args s = true from hpre))
  obtain ⟨k0, g0⟩ := and_e hg
  obtain ⟨k1, g1⟩ := and_e g0
  obtain ⟨k2, g2⟩ := and_e g1
  obtain ⟨k3, g3⟩ := and_e g2
  obtain ⟨k4, g4⟩ := and_e g3
  obtain ⟨k5, g5⟩ := and_e g4
  obtain ⟨w0, w1, w2, w3, w4, w5, rfl⟩ : ∃ w0 w1 w2 w3 w4 w5 : Value, args = #[w0, w1, w2, w3, w4, w5] := by
    have hs : args.size = 6 := by simpa [Cond.value, given_1] using k0
    obtain ⟨L⟩ := args
    match L, hs with
    | [w0, w1, w2, w3, w4, w5], _ => exact ⟨w0, w1, w2, w3, w4, w5, rfl⟩
  have hw := fun d (hd : d ∈ tables_1) => atoms_spec (ws := Jvm.Cond.code x code maxLocals ret :: tables_1) hat d (List.mem_cons_of_mem _ hd)
  obtain ⟨i0, e0⟩ := is_v k1
  obtain ⟨i1, e1⟩ := isL_v k2
  obtain ⟨i2, e2⟩ := isL_v k3
  obtain ⟨i3, e3⟩ := isL_v k4
  obtain ⟨i4, e4⟩ := isL_v k5
  obtain ⟨i5, e5⟩ := isL_v g5
  obtain rfl : w0 = (.int i0) := Option.some.inj e0
  obtain rfl : w1 = (.long i1) := Option.some.inj e1
  obtain rfl : w2 = (.long i2) := Option.some.inj e2
  obtain rfl : w3 = (.long i3) := Option.some.inj e3
  obtain rfl : w4 = (.long i4) := Option.some.inj e4
  obtain rfl : w5 = (.long i5) := Option.some.inj e5
  obtain ⟨n, o, h1, h2, h3, _, L, rfl, ⟨⟨_, rfl, rfl⟩, N⟩, hq⟩ := law_sat l s _ hw i0 i1 i2 i3 i4 i5 tables_1 p e ha hc hk s m _ below hf ((Spec.applies_iff_loose hf).mp happ).1 ⟨rfl, State.Warmed39.refl s, rfl⟩ trivial
  refine ⟨n, _, h1, h2, h3, hpost _ _ _ _ _ _ ⟨Cond.after_iff.mpr rfl, Cond.after_iff.mpr (eq_i res_at (Term.int_eval (1)) rfl), trivial⟩ ⟨hq.1, hq.2.1, (hq.2.2.sift fun y hy => Or.inr (N y hy)).mono (by decide) (by decide)⟩⟩
theorem main_1_1 : Claimed_1_1 := comes_1 fun _ _ _ _ _ _ h hF => ⟨h.1, hF⟩
theorem main_1_2 : Claimed_1_2 := comes_1 fun _ _ _ _ _ _ h hF => ⟨h.2.1, hF⟩
end Jvm.Pilot.@@N@@
namespace Jvm.Pilot.@@N@@
open Jvm Jvm.ClassFile Sem Op Lib Jvm.Free Jvm.Stand Jvm.Pilot.@@N@@.Jvm.D
/-! MADE BY PROGRAM (witnessworld.py) out of the Statement's table words and the real class files: 11 classes; the members and pool entries that the words name. The judged class is class 1, her method 1. -/
namespace start1
open Jvm.ClassFile
def u (s : String) : CpInfo := .utf8 (stringToUtf16 s)
/-- a pool by its gaps: so many unusable entries, then the entry; so many at the end -/
def gap : Nat → List CpInfo → List CpInfo
  | 0, r => r
  | n + 1, r => .unusable :: gap n r
def poolList (es : List (Nat × CpInfo)) (last : Nat) : List CpInfo := es.foldr (fun e r => gap e.1 (e.2 :: r)) (gap last [])
def pool (es : List (Nat × CpInfo)) (last : Nat) : Array CpInfo := ⟨poolList es last⟩
def fileOf (pool : Array CpInfo) (this : Nat) (attrs : Array Attribute := #[]) (ms : Array MethodInfo := #[]) (fl : Nat := 33) (sup : Nat := 0) (ifs : Array Nat := #[]) (fds : Array FieldInfo := #[]) : ClassFile where
  minorVersion := 0
  majorVersion := 65
  constantPool := pool
  accessFlags := fl
  thisClass := this
  superClass := sup
  interfaces := ifs
  fields := fds
  methods := ms
  attributes := attrs
def plain (name : String) (sup : Option ClassId) : Class where
  name := name
  kind := .ordinary
  loader := none
  accessFlags := 33
  super := sup
  interfaces := #[]
  cf := none
  fields := #[]
  methods := #[]
  instanceTypes := #[]
  staticTypes := #[]
  resolved := #[]
  callSites := []
  init := .initialized
  statics := none
  mirror := none

def pool0 : Array CpInfo := pool [(5, u "<init>"), (0, u "()V"), (1, .class_ 10), (1, u "java/lang/Object")] 113

def k0m0 : Method := { name := "<init>", desc := "()V", sig := { parameters := [], returnType := none }, accessFlags := 1, code := none }
/-- java/lang/Object -/
def k0 : Class := { plain "java/lang/Object" none with
  accessFlags := 33
  interfaces := #[]
  cf := some (fileOf pool0 8 #[] #[{ accessFlags := 1, nameIndex := 5, descriptorIndex := 6, attributes := #[] }] 33 0 #[] #[])
  fields := #[]
  methods := #[k0m0]
  instanceTypes := #[]
  staticTypes := #[]
  resolved := Array.replicate 124 none
  statics := none }

def pool1 : Array CpInfo := pool [(2, .class_ 4), (1, u "java/lang/Object"), (0, u "<init>"), (0, u "()V"), (0, .methodref 8 9), (0, .class_ 10), (0, .nameAndType 11 12), (0, u "com/example/holder/holder/protocol/VectorClockStrictlyOlderPinLaw"), (0, u "make"), (0, u "(IJJJ)[J"), (0, .methodref 14 15), (0, .class_ 16), (0, .nameAndType 17 18), (0, u "com/example/holder/holder/protocol/VectorClock"), (0, u "strictlyOlder"), (0, u "([J[J)Z"), (2, u "law"), (0, u "(IJJJJJ)Z")] 5

def k1m0 : Method := { name := "<init>", desc := "()V", sig := { parameters := [], returnType := none }, accessFlags := 1, code := none }
def k1c1 : Code := { maxStack := 7, maxLocals := 20, code := code, exceptionTable := #[], attributes := #[] }
def k1m1 : Method := { name := "law", desc := "(IJJJJJ)Z", sig := { parameters := [.int, .long, .long, .long, .long, .long], returnType := some .boolean }, accessFlags := 9, code := some k1c1 }
def k1c2 : Code := { maxStack := 5, maxLocals := 7, code := method_3_code, exceptionTable := #[], attributes := #[] }
def k1m2 : Method := { name := "make", desc := "(IJJJ)[J", sig := { parameters := [.int, .long, .long, .long], returnType := some (.array .long) }, accessFlags := 10, code := some k1c2 }
/-- com/example/holder/holder/protocol/VectorClockStrictlyOlderPinLaw -/
def k1 : Class := { plain "com/example/holder/holder/protocol/VectorClockStrictlyOlderPinLaw" (some 0) with
  accessFlags := 49
  interfaces := #[]
  cf := some (fileOf pool1 8 #[] #[{ accessFlags := 1, nameIndex := 5, descriptorIndex := 6, attributes := #[] }, { accessFlags := 9, nameIndex := 21, descriptorIndex := 22, attributes := #[] }, { accessFlags := 10, nameIndex := 11, descriptorIndex := 12, attributes := #[] }] 49 2 #[] #[])
  fields := #[]
  methods := #[k1m0, k1m1, k1m2]
  instanceTypes := #[]
  staticTypes := #[]
  resolved := Array.replicate 28 none
  statics := none }

def pool2 : Array CpInfo := pool [(2, .class_ 4), (1, u "java/lang/Object"), (3, .class_ 10), (1, u "com/example/holder/holder/protocol/VectorClock"), (0, u "counters"), (0, u "[J"), (2, u "own"), (0, u "I"), (20, u "strictlyOlder"), (0, u "([J[J)Z")] 2

def k2c0 : Code := { maxStack := 5, maxLocals := 4, code := prog_68_method_5_code, exceptionTable := #[], attributes := #[] }
def k2m0 : Method := { name := "strictlyOlder", desc := "([J[J)Z", sig := { parameters := [(.array .long), (.array .long)], returnType := some .boolean }, accessFlags := 8, code := some k2c0 }
/-- com/example/holder/holder/protocol/VectorClock -/
def k2 : Class := { plain "com/example/holder/holder/protocol/VectorClock" (some 0) with
  accessFlags := 32
  interfaces := #[]
  cf := some (fileOf pool2 8 #[] #[{ accessFlags := 8, nameIndex := 37, descriptorIndex := 38, attributes := #[] }] 32 2 #[] #[{ accessFlags := 18, nameIndex := 11, descriptorIndex := 12, attributes := #[] }, { accessFlags := 18, nameIndex := 15, descriptorIndex := 16, attributes := #[] }])
  fields := #[{ name := "counters", type := (.array .long), accessFlags := 18, slot := 0, constantValue := 0 }, { name := "own", type := .int, accessFlags := 18, slot := 1, constantValue := 0 }]
  methods := #[k2m0]
  instanceTypes := #[(.array .long), .int]
  staticTypes := #[]
  resolved := Array.replicate 41 none
  statics := none }

def pool3 : Array CpInfo := pool [(1, u "java/lang/Cloneable"), (0, .class_ 1), (0, u "java/lang/Object"), (0, .class_ 3)] 3

/-- java/lang/Cloneable -/
def k3 : Class := { plain "java/lang/Cloneable" (some 0) with
  accessFlags := 1537
  interfaces := #[]
  cf := some (fileOf pool3 2 #[] #[] 1537 4 #[] #[])
  fields := #[]
  methods := #[]
  instanceTypes := #[]
  staticTypes := #[]
  resolved := Array.replicate 8 none
  statics := none }

def pool4 : Array CpInfo := pool [(1, u "java/io/Serializable"), (0, .class_ 1), (0, u "java/lang/Object"), (0, .class_ 3)] 3

/-- java/io/Serializable -/
def k4 : Class := { plain "java/io/Serializable" (some 0) with
  accessFlags := 1537
  interfaces := #[]
  cf := some (fileOf pool4 2 #[] #[] 1537 4 #[] #[])
  fields := #[]
  methods := #[]
  instanceTypes := #[]
  staticTypes := #[]
  resolved := Array.replicate 8 none
  statics := none }

/-- the primitive byte -/
def k5 : Class := { plain "byte" none with kind := .primitive 'B', accessFlags := 0x411 }
/-- [B -/
def k6 : Class := { plain "[B" (some 0) with kind := .array 5 .byte, interfaces := #[3, 4], accessFlags := 1041 }

/-- the primitive int -/
def k7 : Class := { plain "int" none with kind := .primitive 'I', accessFlags := 0x411 }
/-- [I -/
def k8 : Class := { plain "[I" (some 0) with kind := .array 7 .int, interfaces := #[3, 4], accessFlags := 1041 }

/-- the primitive long -/
def k9 : Class := { plain "long" none with kind := .primitive 'J', accessFlags := 0x411 }
/-- [J -/
def k10 : Class := { plain "[J" (some 0) with kind := .array 9 .long, interfaces := #[3, 4], accessFlags := 1041 }

def heap : Heap := #[]
def classes : Array Class := #[k0, k1, k2, k3, k4, k5, k6, k7, k8, k9, k10]
def interned : List (Array UInt16 × Addr) := []
def slotsUsed : Nat := 0
def theMethod : MethodId := ⟨1, 1⟩
def args0 : Array Value := #[.int 3, .long 6, .long 7, .long 8, .long 9, .long 10]
def aboutOver (below : List Frame) : State where
  vm := { classes := classes, interned := interned.toArray }
  heap := heap
  slotsUsed := slotsUsed
  threads := #[{ frames := .invoking theMethod args0 :: below }]
def below0 : List Frame := [.native { method := ⟨0, 0⟩, args := #[] }]
def about1 : State := aboutOver below0
def p0 : Program := .bare "" "" ""
def e0 : Env := launch0.env 0 0 0
theorem w_frames : about1.frames = Frame.invoking theMethod args0 :: below0 := rfl
set_option maxRecDepth 65536 in
theorem w_args : argsFit about1.vm theMethod args0 = true := by decide +kernel
set_option maxRecDepth 65536 in
theorem w_heap : heapFits about1 = true := by decide +kernel
set_option maxRecDepth 65536 in
theorem w_runnable : about1.curStatus? = some .runnable := by decide +kernel
set_option maxRecDepth 65536 in
theorem w_alone : about1.alone = true := by decide +kernel
set_option maxRecDepth 65536 in
theorem w_named : about1.methodNamed? x = some theMethod := by decide +kernel
set_option maxRecDepth 65536 in
theorem w_hears : about1.hears theMethod below0 = true := by decide +kernel
set_option maxRecDepth 65536 in
theorem w_ripe : about1.ripe theMethod args0 below0 = true := by decide +kernel
theorem w_running : about1.status = .running := rfl
set_option maxRecDepth 65536 in
theorem w_room : about1.hasRoom e0.platform room_1 = true :=
  launch0.hasRoom_least _ room_1 (by decide +kernel) (by decide +kernel) (by decide +kernel) (by decide +kernel) (by decide +kernel) (by decide +kernel)
theorem allAtoms_all (ts : List Jvm.Cond) (a : Array Jvm.Value) (st : Jvm.State) : (allAtoms ts).before a st = ts.all (fun c => c.before a st) := by
  induction ts with
  | nil => rfl
  | cons c t ih =>
    show (Jvm.Cond.and c (allAtoms t)).before a st = _
    rw [Jvm.Cond.before_and, ih, List.all_cons]
def words1 : List Jvm.Cond := Jvm.Cond.code x code maxLocals ret :: tables_1
/-- a 'code' word, met by the world's own term for the bytes: nothing is compared byte by byte -/
theorem code_word {y : MethodName} {bytes : ByteArray} {mx : Nat} {rt : Option FieldType} {a : Array Value} {s : State} {m : MethodId} {meth : Method} {c : Code} (h1 : s.methodNamed? y = some m) (h2 : s.vm.method? m = some meth) (h3 : meth.code = some c) (h4 : c.code = bytes)
    (h5 : (c.maxLocals == mx && c.exceptionTable.isEmpty && decide (c.maxStack ≤ mostOperands) && decide (meth.sig.returnType = rt) && !meth.locks && decide (parseMethodDescriptor y.desc = some meth.sig)) = true) : (Jvm.Cond.code y bytes mx rt).before a s = true := by
  simp only [Bool.and_eq_true, beq_iff_eq, Bool.not_eq_true', decide_eq_true_eq] at h5
  obtain ⟨⟨⟨⟨⟨g1, g2⟩, g3⟩, g4⟩, g5⟩, g6⟩ := h5
  simp [Cond.before, Cond.holds, Cond.value, h1, h2, h3, h4, g1, g2, g3, g4, g5, g6]
def isCode : Jvm.Cond → Bool
  | .code _ _ _ _ => true
  | _ => false
theorem all_split {L : List Jvm.Cond} {P : Jvm.Cond → Bool} (h1 : L.all (fun c => isCode c || P c) = true) (h2 : ∀ c ∈ L.filter isCode, P c = true) : L.all P = true := by
  refine List.all_eq_true.mpr fun c hc => ?_
  have h := List.all_eq_true.mp h1 c hc
  rcases Bool.eq_false_or_eq_true (isCode c) with hi | hi
  · exact h2 c (List.mem_filter.mpr ⟨hc, hi⟩)
  · simpa [hi] using h
set_option maxRecDepth 65536 in
theorem w_c0 : (Jvm.Cond.code x code maxLocals ret).before args0 about1 = true := code_word (m := ⟨1, 1⟩) (meth := k1m1) (c := k1c1) (by decide +kernel) rfl rfl rfl (by decide +kernel)
set_option maxRecDepth 65536 in
theorem w_c1 : (Jvm.Cond.code ({ cls := "com/example/holder/holder/protocol/VectorClockStrictlyOlderPinLaw", name := "make", desc := "(IJJJ)[J" } : Jvm.MethodName) method_3_code (7 : Nat) (Option.some (Jvm.ClassFile.FieldType.array Jvm.ClassFile.FieldType.long))).before args0 about1 = true := code_word (m := ⟨1, 2⟩) (meth := k1m2) (c := k1c2) (by decide +kernel) rfl rfl rfl (by decide +kernel)
set_option maxRecDepth 65536 in
theorem w_c2 : (Jvm.Cond.code ({ cls := "com/example/holder/holder/protocol/VectorClock", name := "strictlyOlder", desc := "([J[J)Z" } : Jvm.MethodName) prog_68_method_5_code (4 : Nat) (Option.some Jvm.ClassFile.FieldType.boolean)).before args0 about1 = true := code_word (m := ⟨2, 0⟩) (meth := k2m0) (c := k2c0) (by decide +kernel) rfl rfl rfl (by decide +kernel)
def codes1 : List Jvm.Cond := [Jvm.Cond.code x code maxLocals ret, Jvm.Cond.code ({ cls := "com/example/holder/holder/protocol/VectorClockStrictlyOlderPinLaw", name := "make", desc := "(IJJJ)[J" } : Jvm.MethodName) method_3_code (7 : Nat) (Option.some (Jvm.ClassFile.FieldType.array Jvm.ClassFile.FieldType.long)), Jvm.Cond.code ({ cls := "com/example/holder/holder/protocol/VectorClock", name := "strictlyOlder", desc := "([J[J)Z" } : Jvm.MethodName) prog_68_method_5_code (4 : Nat) (Option.some Jvm.ClassFile.FieldType.boolean)]
set_option maxRecDepth 65536 in
theorem codes_eq : words1.filter isCode = codes1 := rfl
theorem w_codes : ∀ c ∈ words1.filter isCode, c.before args0 about1 = true := by
  rw [codes_eq]
  intro c hc
  simp only [codes1, List.mem_cons, List.not_mem_nil, or_false] at hc
  rcases hc with rfl | rfl | rfl
  · exact w_c0
  · exact w_c1
  · exact w_c2
set_option maxRecDepth 65536 in
theorem w_t1 : words1.all (fun c => isCode c || c.before args0 about1) = true := by decide +kernel
theorem w_tables : (allAtoms (Jvm.Cond.code x code maxLocals ret :: tables_1)).before args0 about1 = true := by
  rw [allAtoms_all]
  show words1.all (fun c => c.before args0 about1) = true
  refine all_split ?_ w_codes
  rw [w_t1]
set_option maxRecDepth 65536 in
theorem w_case : (Jvm.Cond.and given_1 narrow_1).before args0 about1 = true := by decide +kernel
theorem w_applies : (headSpec (Jvm.Cond.code x code maxLocals ret :: tables_1) room_1).applies x e0.platform about1 = true :=
  (Spec.applies_iff w_frames).mpr ⟨w_running, w_runnable, w_alone, w_named, w_hears, w_ripe, w_room, w_tables⟩
theorem atStart : AtStart classFile x code maxLocals ret World_1 tables_1 room_1 Calls_1 rest_1 Pre_1 launch0 p0 e0 about1 theMethod args0 below0 :=
  ⟨lists_1, trivial, launch0.admits_env _ _ _, launch0.least_env, fairChoices_fair.cas, fairChoices_fair.clock, w_frames, w_args, w_heap, w_applies, trivial, trivial, w_case⟩
end start1
theorem witness_1 : WitnessClaimed_1 := ⟨start1.p0, start1.e0, start1.about1, start1.theMethod, start1.args0, start1.below0, start1.atStart⟩
end Jvm.Pilot.@@N@@
