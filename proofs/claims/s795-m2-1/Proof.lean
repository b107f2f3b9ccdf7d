import JvmDerived
import JvmDerived.Pilot.@@N@@Statement
import JvmDerived.Pilot.@@N@@Code
set_option linter.unusedVariables false
set_option linter.unusedSimpArgs false
@@BLOCK:NumsL.lean.txt@@
namespace Jvm.Pilot.@@N@@
open Jvm Jvm.ClassFile Sem Op Lib Jvm.Free Jvm.Stand Jvm.LawKit Jvm.RoadKit Bundle Jvm.Pilot.@@N@@.Jvm.D
section OwnLayer
/-- the surroundings of a walk: what stays the same from step to step -/
def Cx (p : Program) (s : State) (m : MethodId) (meth : Method) (c : Code) (Z : State) (own : String) (bs : ByteArray) (mx : Nat) (rt : Option FieldType) (nm : String) : Prop :=
  p.tables.exec = Jvm.exec ∧ c.code = bs ∧ c.maxLocals = mx ∧ Z.Warmed39 s.vm ∧ s.vm.findClass own = some m.cls ∧ meth.sig.returnType = rt ∧ meth.locks = false ∧ meth.name = nm
/-- wherever the walk stands with heap h and top frame g, it comes to its end, and Q holds there -/
def Go (p : Program) (l : Launch) (e : Env) (R : Room) (s : State) (m : MethodId) (args : Array Value) (below : List Frame) (meth : Method) (c : Code) (n0 : Nat) (Q : Option Value → Heap → Prop) (K N : Nat) (h : Heap) (ce sl : Nat) (g : JFrame) : Prop :=
  ∀ (T : State) (locs : List Loc), Stand p l e R s m args below meth c T locs ce sl → T.heap = h → Fr n0 locs →
    ∃ s₂ o, Steps p.tables e below (T.setTop g) s₂ ∧ s₂.status = .running ∧ Ended s₂ below o ∧ ∃ v L, o = .returned v ∧ (Q v s₂.heap ∧ Fr n0 L) ∧ FrameEnd s o s₂ L K N
/-- a method's contract, for given arguments and a given heap -/
def Sat (l : Launch) (Z : State) (y : MethodName) (bs : ByteArray) (mx : Nat) (rt : Option FieldType) (rm : Room) (as : List Value) (h0 : Heap) (n0 : Nat) (Q : Option Value → Heap → Prop) : Prop :=
  ∀ ws : List Jvm.Cond, MetFree l y (head1 (Jvm.Cond.code y bs mx rt :: ws) rm) (fun a U => a = as.toArray ∧ Z.Warmed39 U.vm ∧ U.heap = h0) (fun _ _ _ _ _ => True) (fun _ U o U' => ∃ v L, o = .returned v ∧ (Q v U'.heap ∧ Fr n0 L) ∧ FrameEnd U o U' L rm.cells rm.slots)
def RV (P : Value → Heap → Prop) : Option Value → Heap → Prop := fun v h => ∃ r, v = some r ∧ P r h
def RN (P : Heap → Prop) : Option Value → Heap → Prop := fun v h => v = none ∧ P h
def wt (st : List Value) : Nat := (st.map fun v => v.category).sum
def bi (P : Prop) [Decidable P] : Int32 := if P then 1 else 0
theorem bi_t {P : Prop} [Decidable P] (h : P) : bi P = 1 := if_pos h
theorem bi_f {P : Prop} [Decidable P] (h : ¬ P) : bi P = 0 := if_neg h
theorem bi1 {P : Prop} [Decidable P] (h : P) : (1 : Int32) = bi P := (if_pos h).symm
theorem bi0 {P : Prop} [Decidable P] (h : ¬ P) : (0 : Int32) = bi P := (if_neg h).symm
theorem bi_congr {P P' : Prop} [Decidable P] [Decidable P'] (h : P ↔ P') : bi P = bi P' := by
  by_cases q : P
  · rw [bi_t q, bi_t (h.mp q)]
  · rw [bi_f q, bi_f fun z => q (h.mpr z)]
theorem bi_nar (P : Prop) [Decidable P] : nar .boolean (bi P) = bi P := by
  by_cases q : P
  · rw [bi_t q]; rfl
  · rw [bi_f q]; rfl
theorem bi_inj {P P' : Prop} [Decidable P] [Decidable P'] (h : bi P = bi P') : P ↔ P' := by
  by_cases q : P <;> by_cases q' : P' <;> simp_all [bi]
theorem bi_narrow (P : Prop) [Decidable P] : narrow .boolean (.int (bi P)) = .int (bi P) := by
  by_cases q : P
  · rw [bi_t q]; rfl
  · rw [bi_f q]; rfl
theorem bi_fits (P : Prop) [Decidable P] : fits .boolean (.int (bi P)) = true := by
  by_cases q : P
  · rw [bi_t q]; rfl
  · rw [bi_f q]; rfl
theorem bi_toInt (P : Prop) [Decidable P] : (bi P).toInt = if P then 1 else 0 := by
  by_cases q : P
  · rw [bi_t q, if_pos q]; rfl
  · rw [bi_f q, if_neg q]; rfl
theorem own_add_t {P : Prop} [Decidable P] (n : Int32) (h : P) : n + 1 = n + bi P := by rw [bi_t h]
theorem own_add_f {P : Prop} [Decidable P] (n : Int32) (h : ¬ P) : n = n + bi P := by rw [bi_f h, Int32.add_zero]
theorem own_narrow_arr {v : Value} {t : FieldType} (h : v.isRef = true) : narrow (.array t) v = v := by
  cases v <;> first | rfl | simp [Value.isRef] at h
theorem own_fits_arr {v : Value} {t : FieldType} (h : v.isRef = true) : fits (.array t) v = true := by
  cases v <;> first | rfl | simp [Value.isRef] at h
theorem own_bb (x : Int32) : x.toInt8.toInt32.toInt8.toInt32 = x.toInt8.toInt32 := by simp
theorem own_ne_new {h : Heap} {a b : Addr} (q : b < h.size) (g : h.size = a) : b ≠ a := Nat.ne_of_lt (g ▸ q)
theorem own_ge {h : Heap} {a : Addr} {n : Nat} (q : n ≤ h.size) (g : h.size = a) : n ≤ a := g ▸ q
theorem int_eq {x y : Int32} (h : x.toInt = y.toInt) : x = y := Int32.toInt_inj.mp h
theorem long_eq {x y : Int64} (h : x.toInt = y.toInt) : x = y := Int64.toInt_inj.mp h
section Walk
variable {p : Program} {l : Launch} {e : Env} {R : Room} {s : State} {m : MethodId} {args : Array Value} {below : List Frame} {meth : Method} {c : Code} {Z : State} {a0 : Array Value} {own : String} {bs : ByteArray} {mx : Nat} {rt : Option FieldType} {nm : String} {n0 : Nat} {Q : Option Value → Heap → Prop} {K N : Nat} {h : Heap} {ce sl : Nat} {pc pc' : Nat} {Ls Ls' : Array Slot} {st : List Value} {g g' : JFrame}
theorem Go.step (H : ∀ (T : State), At T m c below → ∀ target, Steps p.tables e below (T.setTop g') target → Steps p.tables e below (T.setTop g) target) (hr : Go p l e R s m args below meth c n0 Q K N h ce sl g') : Go p l e R s m args below meth c n0 Q K N h ce sl g := fun T locs X eT Nn => by
  obtain ⟨s₂, o, h1, r⟩ := hr T locs X eT Nn
  exact ⟨s₂, o, H T X.here _ h1, r⟩
theorem Go.stepX (H : ∀ (T : State) (locs : List Loc), Stand p l e R s m args below meth c T locs ce sl → T.heap = h → ∀ target, Steps p.tables e below (T.setTop g') target → Steps p.tables e below (T.setTop g) target) (hr : Go p l e R s m args below meth c n0 Q K N h ce sl g') : Go p l e R s m args below meth c n0 Q K N h ce sl g := fun T locs X eT Nn => by
  obtain ⟨s₂, o, h1, r⟩ := hr T locs X eT Nn
  exact ⟨s₂, o, H T locs X eT _ h1, r⟩
theorem Go.more {ce' sl' : Nat} (hc : ce ≤ ce') (hs : sl ≤ sl') (hr : Go p l e R s m args below meth c n0 Q K N h ce' sl' g) : Go p l e R s m args below meth c n0 Q K N h ce sl g := fun T locs X eT Nn => hr T locs (X.more hc hs) eT Nn
theorem go_iloadN (C : Cx p s m meth c Z own bs mx rt nm) {k : Fin 4} {v : Int32} (hd : decode bs pc = .ok (.iload_n k, 1)) (hp : pc + 1 = pc') (hl : Ls[k.val]? = some (.val (.int v))) (hr : Go p l e R s m args below meth c n0 Q K N h ce sl (mkF m pc' Ls (.int v :: st))) : Go p l e R s m args below meth c n0 Q K N h ce sl (mkF m pc Ls st) := by
  subst hp
  exact Go.step (fun T A _ q => XS.iloadN A C.1 rfl (hb C.2.1 hd) hl q) hr
theorem go_iload (C : Cx p s m meth c Z own bs mx rt nm) {k : Nat} {v : Int32} (hd : decode bs pc = .ok (.iload k, 2)) (hp : pc + 2 = pc') (hl : Ls[k]? = some (.val (.int v))) (hr : Go p l e R s m args below meth c n0 Q K N h ce sl (mkF m pc' Ls (.int v :: st))) : Go p l e R s m args below meth c n0 Q K N h ce sl (mkF m pc Ls st) := by
  subst hp
  exact Go.step (fun T A _ q => XS.iload A C.1 rfl (hb C.2.1 hd) hl q) hr
theorem go_lloadN (C : Cx p s m meth c Z own bs mx rt nm) {k : Fin 4} {v : Int64} (hd : decode bs pc = .ok (.lload_n k, 1)) (hp : pc + 1 = pc') (hl : Ls[k.val]? = some (.val (.long v))) (hr : Go p l e R s m args below meth c n0 Q K N h ce sl (mkF m pc' Ls (.long v :: st))) : Go p l e R s m args below meth c n0 Q K N h ce sl (mkF m pc Ls st) := by
  subst hp
  exact Go.step (fun T A _ q => XT.lloadN A C.1 rfl (hb C.2.1 hd) hl q) hr
theorem go_lload (C : Cx p s m meth c Z own bs mx rt nm) {k : Nat} {v : Int64} (hd : decode bs pc = .ok (.lload k, 2)) (hp : pc + 2 = pc') (hl : Ls[k]? = some (.val (.long v))) (hr : Go p l e R s m args below meth c n0 Q K N h ce sl (mkF m pc' Ls (.long v :: st))) : Go p l e R s m args below meth c n0 Q K N h ce sl (mkF m pc Ls st) := by
  subst hp
  exact Go.step (fun T A _ q => XT.lload A C.1 rfl (hb C.2.1 hd) hl q) hr
theorem go_aloadN (C : Cx p s m meth c Z own bs mx rt nm) {k : Fin 4} {v : Value} (hd : decode bs pc = .ok (.aload_n k, 1)) (hp : pc + 1 = pc') (hl : Ls[k.val]? = some (.val v)) (hv : v.isRef = true) (hr : Go p l e R s m args below meth c n0 Q K N h ce sl (mkF m pc' Ls (v :: st))) : Go p l e R s m args below meth c n0 Q K N h ce sl (mkF m pc Ls st) := by
  subst hp
  exact Go.step (fun T A _ q => XS.aloadN A C.1 rfl (hb C.2.1 hd) hl hv q) hr
theorem go_aload (C : Cx p s m meth c Z own bs mx rt nm) {k : Nat} {v : Value} (hd : decode bs pc = .ok (.aload k, 2)) (hp : pc + 2 = pc') (hl : Ls[k]? = some (.val v)) (hv : v.isRef = true) (hr : Go p l e R s m args below meth c n0 Q K N h ce sl (mkF m pc' Ls (v :: st))) : Go p l e R s m args below meth c n0 Q K N h ce sl (mkF m pc Ls st) := by
  subst hp
  exact Go.step (fun T A _ q => XS.aload A C.1 rfl (hb C.2.1 hd) hl hv q) hr
theorem go_istoreN (C : Cx p s m meth c Z own bs mx rt nm) {k : Fin 4} {v : Int32} (hd : decode bs pc = .ok (.istore_n k, 1)) (hp : pc + 1 = pc') (hl : storeLocals Ls k.val (.int v) = some Ls') (hr : Go p l e R s m args below meth c n0 Q K N h ce sl (mkF m pc' Ls' st)) : Go p l e R s m args below meth c n0 Q K N h ce sl (mkF m pc Ls (.int v :: st)) := by
  subst hp
  exact Go.step (fun T A _ q => XS.istoreN A C.1 rfl (hb C.2.1 hd) rfl hl q) hr
theorem go_istore (C : Cx p s m meth c Z own bs mx rt nm) {k : Nat} {v : Int32} (hd : decode bs pc = .ok (.istore k, 2)) (hp : pc + 2 = pc') (hl : storeLocals Ls k (.int v) = some Ls') (hr : Go p l e R s m args below meth c n0 Q K N h ce sl (mkF m pc' Ls' st)) : Go p l e R s m args below meth c n0 Q K N h ce sl (mkF m pc Ls (.int v :: st)) := by
  subst hp
  exact Go.step (fun T A _ q => XS.istore A C.1 rfl (hb C.2.1 hd) rfl hl q) hr
theorem go_lstoreN (C : Cx p s m meth c Z own bs mx rt nm) {k : Fin 4} {v : Int64} (hd : decode bs pc = .ok (.lstore_n k, 1)) (hp : pc + 1 = pc') (hl : storeLocals Ls k.val (.long v) = some Ls') (hr : Go p l e R s m args below meth c n0 Q K N h ce sl (mkF m pc' Ls' st)) : Go p l e R s m args below meth c n0 Q K N h ce sl (mkF m pc Ls (.long v :: st)) := by
  subst hp
  exact Go.step (fun T A _ q => XT.lstoreN A C.1 rfl (hb C.2.1 hd) rfl hl q) hr
theorem go_lstore (C : Cx p s m meth c Z own bs mx rt nm) {k : Nat} {v : Int64} (hd : decode bs pc = .ok (.lstore k, 2)) (hp : pc + 2 = pc') (hl : storeLocals Ls k (.long v) = some Ls') (hr : Go p l e R s m args below meth c n0 Q K N h ce sl (mkF m pc' Ls' st)) : Go p l e R s m args below meth c n0 Q K N h ce sl (mkF m pc Ls (.long v :: st)) := by
  subst hp
  exact Go.step (fun T A _ q => XT.lstore A C.1 rfl (hb C.2.1 hd) rfl hl q) hr
theorem go_astoreN (C : Cx p s m meth c Z own bs mx rt nm) {k : Fin 4} {v : Value} (hd : decode bs pc = .ok (.astore_n k, 1)) (hp : pc + 1 = pc') (hv : v.isRef = true) (hl : storeLocals Ls k.val v = some Ls') (hr : Go p l e R s m args below meth c n0 Q K N h ce sl (mkF m pc' Ls' st)) : Go p l e R s m args below meth c n0 Q K N h ce sl (mkF m pc Ls (v :: st)) := by
  subst hp
  exact Go.step (fun T A _ q => XS.astoreN A C.1 rfl (hb C.2.1 hd) rfl hv hl q) hr
theorem go_astore (C : Cx p s m meth c Z own bs mx rt nm) {k : Nat} {v : Value} (hd : decode bs pc = .ok (.astore k, 2)) (hp : pc + 2 = pc') (hv : v.isRef = true) (hl : storeLocals Ls k v = some Ls') (hr : Go p l e R s m args below meth c n0 Q K N h ce sl (mkF m pc' Ls' st)) : Go p l e R s m args below meth c n0 Q K N h ce sl (mkF m pc Ls (v :: st)) := by
  subst hp
  exact Go.step (fun T A _ q => XS.astore A C.1 rfl (hb C.2.1 hd) rfl hv hl q) hr
theorem go_istoreS (C : Cx p s m meth c Z own bs mx rt nm) {k : Nat} {v : Int32} {o : Slot} (hd : decode bs pc = .ok (.istore k, 2)) (hp : pc + 2 = pc') (hold : Ls[k]? = some o) (ho : One o) (hL : Ls.setIfInBounds k (.val (.int v)) = Ls') (hr : Go p l e R s m args below meth c n0 Q K N h ce sl (mkF m pc' Ls' st)) : Go p l e R s m args below meth c n0 Q K N h ce sl (mkF m pc Ls (.int v :: st)) := by
  subst hp hL
  exact Go.step (fun T A _ q => XS.istoreS A C.1 rfl (hb C.2.1 hd) rfl hold ho q) hr
theorem go_istoreNS (C : Cx p s m meth c Z own bs mx rt nm) {k : Fin 4} {v : Int32} {o : Slot} (hd : decode bs pc = .ok (.istore_n k, 1)) (hp : pc + 1 = pc') (hold : Ls[k.val]? = some o) (ho : One o) (hL : Ls.setIfInBounds k.val (.val (.int v)) = Ls') (hr : Go p l e R s m args below meth c n0 Q K N h ce sl (mkF m pc' Ls' st)) : Go p l e R s m args below meth c n0 Q K N h ce sl (mkF m pc Ls (.int v :: st)) := by
  subst hp hL
  exact Go.step (fun T A _ q => XS.istoreNS A C.1 rfl (hb C.2.1 hd) rfl hold ho q) hr
theorem go_iconst (C : Cx p s m meth c Z own bs mx rt nm) {i : Int} (v : Int32) (hd : decode bs pc = .ok (.iconst i, 1)) (hp : pc + 1 = pc') (hv : Int32.ofInt i = v) (hr : Go p l e R s m args below meth c n0 Q K N h ce sl (mkF m pc' Ls (.int v :: st))) : Go p l e R s m args below meth c n0 Q K N h ce sl (mkF m pc Ls st) := by
  subst hp
  exact Go.step (fun T A _ q => XT.iconstV A C.1 rfl v (hb C.2.1 hd) hv q) hr
theorem go_bipush (C : Cx p s m meth c Z own bs mx rt nm) {i : Int} (v : Int32) (hd : decode bs pc = .ok (.bipush i, 2)) (hp : pc + 2 = pc') (hv : (Int8.ofInt i).toInt32 = v) (hr : Go p l e R s m args below meth c n0 Q K N h ce sl (mkF m pc' Ls (.int v :: st))) : Go p l e R s m args below meth c n0 Q K N h ce sl (mkF m pc Ls st) := by
  subst hp
  exact Go.step (fun T A _ q => XT.bipushV A C.1 rfl v (hb C.2.1 hd) hv q) hr
theorem go_sipush (C : Cx p s m meth c Z own bs mx rt nm) {i : Int} (v : Int32) (hd : decode bs pc = .ok (.sipush i, 3)) (hp : pc + 3 = pc') (hv : (Int16.ofInt i).toInt32 = v) (hr : Go p l e R s m args below meth c n0 Q K N h ce sl (mkF m pc' Ls (.int v :: st))) : Go p l e R s m args below meth c n0 Q K N h ce sl (mkF m pc Ls st) := by
  subst hp
  exact Go.step (fun T A _ q => XT.sipushV A C.1 rfl v (hb C.2.1 hd) hv q) hr
theorem go_lconst (C : Cx p s m meth c Z own bs mx rt nm) {k : Fin 2} (v : Int64) (hd : decode bs pc = .ok (.lconst k, 1)) (hp : pc + 1 = pc') (hv : Int64.ofNat k = v) (hr : Go p l e R s m args below meth c n0 Q K N h ce sl (mkF m pc' Ls (.long v :: st))) : Go p l e R s m args below meth c n0 Q K N h ce sl (mkF m pc Ls st) := by
  subst hp
  exact Go.step (fun T A _ q => XT.lconstV A C.1 rfl v (hb C.2.1 hd) hv q) hr
theorem go_aconst_null (C : Cx p s m meth c Z own bs mx rt nm)  (hd : decode bs pc = .ok (.aconst_null, 1)) (hp : pc + 1 = pc') (hr : Go p l e R s m args below meth c n0 Q K N h ce sl (mkF m pc' Ls (.null :: st))) : Go p l e R s m args below meth c n0 Q K N h ce sl (mkF m pc Ls st) := by
  subst hp
  exact Go.step (fun T A _ q => XS.aconstNull A C.1 rfl (hb C.2.1 hd)  q) hr
theorem go_iinc (C : Cx p s m meth c Z own bs mx rt nm) {k : Nat} {i : Int} {x : Int32} (v : Int32) (hd : decode bs pc = .ok (.iinc k i, 3)) (hp : pc + 3 = pc') (hv : Int32.ofInt i = v) (hl : Ls[k]? = some (.val (.int x))) (hl' : storeLocals Ls k (.int (x + v)) = some Ls') (hr : Go p l e R s m args below meth c n0 Q K N h ce sl (mkF m pc' Ls' st)) : Go p l e R s m args below meth c n0 Q K N h ce sl (mkF m pc Ls st) := by
  subst hp
  exact Go.step (fun T A _ q => XT.iincV A C.1 rfl v (hb C.2.1 hd) hv hl hl' q) hr
theorem go_iadd (C : Cx p s m meth c Z own bs mx rt nm) {x y : Int32} (hd : decode bs pc = .ok (.iadd, 1)) (hp : pc + 1 = pc') (hr : Go p l e R s m args below meth c n0 Q K N h ce sl (mkF m pc' Ls (.int (x + y) :: st))) : Go p l e R s m args below meth c n0 Q K N h ce sl (mkF m pc Ls (.int y :: .int x :: st)) := by
  subst hp
  exact Go.step (fun T A _ q => XS.iadd A C.1 rfl (hb C.2.1 hd) rfl q) hr
theorem go_isub (C : Cx p s m meth c Z own bs mx rt nm) {x y : Int32} (hd : decode bs pc = .ok (.isub, 1)) (hp : pc + 1 = pc') (hr : Go p l e R s m args below meth c n0 Q K N h ce sl (mkF m pc' Ls (.int (x - y) :: st))) : Go p l e R s m args below meth c n0 Q K N h ce sl (mkF m pc Ls (.int y :: .int x :: st)) := by
  subst hp
  exact Go.step (fun T A _ q => XS.isub A C.1 rfl (hb C.2.1 hd) rfl q) hr
theorem go_iand (C : Cx p s m meth c Z own bs mx rt nm) {x y : Int32} (hd : decode bs pc = .ok (.iand, 1)) (hp : pc + 1 = pc') (hr : Go p l e R s m args below meth c n0 Q K N h ce sl (mkF m pc' Ls (.int (x &&& y) :: st))) : Go p l e R s m args below meth c n0 Q K N h ce sl (mkF m pc Ls (.int y :: .int x :: st)) := by
  subst hp
  exact Go.step (fun T A _ q => XS.iand A C.1 rfl (hb C.2.1 hd) rfl q) hr
theorem go_imul (C : Cx p s m meth c Z own bs mx rt nm) {x y : Int32} (hd : decode bs pc = .ok (.imul, 1)) (hp : pc + 1 = pc') (hr : Go p l e R s m args below meth c n0 Q K N h ce sl (mkF m pc' Ls (.int (x * y) :: st))) : Go p l e R s m args below meth c n0 Q K N h ce sl (mkF m pc Ls (.int y :: .int x :: st)) := by
  subst hp
  exact Go.step (fun T A _ q => XS.imul A C.1 rfl (hb C.2.1 hd) rfl q) hr
theorem go_ior (C : Cx p s m meth c Z own bs mx rt nm) {x y : Int32} (hd : decode bs pc = .ok (.ior, 1)) (hp : pc + 1 = pc') (hr : Go p l e R s m args below meth c n0 Q K N h ce sl (mkF m pc' Ls (.int (x ||| y) :: st))) : Go p l e R s m args below meth c n0 Q K N h ce sl (mkF m pc Ls (.int y :: .int x :: st)) := by
  subst hp
  exact Go.step (fun T A _ q => XT.ior A C.1 rfl (hb C.2.1 hd) rfl q) hr
theorem go_ixor (C : Cx p s m meth c Z own bs mx rt nm) {x y : Int32} (hd : decode bs pc = .ok (.ixor, 1)) (hp : pc + 1 = pc') (hr : Go p l e R s m args below meth c n0 Q K N h ce sl (mkF m pc' Ls (.int (x ^^^ y) :: st))) : Go p l e R s m args below meth c n0 Q K N h ce sl (mkF m pc Ls (.int y :: .int x :: st)) := by
  subst hp
  exact Go.step (fun T A _ q => XT.ixor A C.1 rfl (hb C.2.1 hd) rfl q) hr
theorem go_ishl (C : Cx p s m meth c Z own bs mx rt nm) {x y : Int32} (hd : decode bs pc = .ok (.ishl, 1)) (hp : pc + 1 = pc') (hr : Go p l e R s m args below meth c n0 Q K N h ce sl (mkF m pc' Ls (.int (x <<< (y &&& 31)) :: st))) : Go p l e R s m args below meth c n0 Q K N h ce sl (mkF m pc Ls (.int y :: .int x :: st)) := by
  subst hp
  exact Go.step (fun T A _ q => XT.ishl A C.1 rfl (hb C.2.1 hd) rfl q) hr
theorem go_ishr (C : Cx p s m meth c Z own bs mx rt nm) {x y : Int32} (hd : decode bs pc = .ok (.ishr, 1)) (hp : pc + 1 = pc') (hr : Go p l e R s m args below meth c n0 Q K N h ce sl (mkF m pc' Ls (.int (x >>> (y &&& 31)) :: st))) : Go p l e R s m args below meth c n0 Q K N h ce sl (mkF m pc Ls (.int y :: .int x :: st)) := by
  subst hp
  exact Go.step (fun T A _ q => XT.ishr A C.1 rfl (hb C.2.1 hd) rfl q) hr
theorem go_iushr (C : Cx p s m meth c Z own bs mx rt nm) {x y : Int32} (hd : decode bs pc = .ok (.iushr, 1)) (hp : pc + 1 = pc') (hr : Go p l e R s m args below meth c n0 Q K N h ce sl (mkF m pc' Ls (.int (XT.ushr x y) :: st))) : Go p l e R s m args below meth c n0 Q K N h ce sl (mkF m pc Ls (.int y :: .int x :: st)) := by
  subst hp
  exact Go.step (fun T A _ q => XT.iushr A C.1 rfl (hb C.2.1 hd) rfl q) hr
theorem go_ladd (C : Cx p s m meth c Z own bs mx rt nm) {x y : Int64} (hd : decode bs pc = .ok (.ladd, 1)) (hp : pc + 1 = pc') (hr : Go p l e R s m args below meth c n0 Q K N h ce sl (mkF m pc' Ls (.long (x + y) :: st))) : Go p l e R s m args below meth c n0 Q K N h ce sl (mkF m pc Ls (.long y :: .long x :: st)) := by
  subst hp
  exact Go.step (fun T A _ q => XT.ladd A C.1 rfl (hb C.2.1 hd) rfl q) hr
theorem go_lsub (C : Cx p s m meth c Z own bs mx rt nm) {x y : Int64} (hd : decode bs pc = .ok (.lsub, 1)) (hp : pc + 1 = pc') (hr : Go p l e R s m args below meth c n0 Q K N h ce sl (mkF m pc' Ls (.long (x - y) :: st))) : Go p l e R s m args below meth c n0 Q K N h ce sl (mkF m pc Ls (.long y :: .long x :: st)) := by
  subst hp
  exact Go.step (fun T A _ q => XT.lsub A C.1 rfl (hb C.2.1 hd) rfl q) hr
theorem go_land (C : Cx p s m meth c Z own bs mx rt nm) {x y : Int64} (hd : decode bs pc = .ok (.land, 1)) (hp : pc + 1 = pc') (hr : Go p l e R s m args below meth c n0 Q K N h ce sl (mkF m pc' Ls (.long (x &&& y) :: st))) : Go p l e R s m args below meth c n0 Q K N h ce sl (mkF m pc Ls (.long y :: .long x :: st)) := by
  subst hp
  exact Go.step (fun T A _ q => XT.land A C.1 rfl (hb C.2.1 hd) rfl q) hr
theorem go_lmul (C : Cx p s m meth c Z own bs mx rt nm) {x y : Int64} (hd : decode bs pc = .ok (.lmul, 1)) (hp : pc + 1 = pc') (hr : Go p l e R s m args below meth c n0 Q K N h ce sl (mkF m pc' Ls (.long (x * y) :: st))) : Go p l e R s m args below meth c n0 Q K N h ce sl (mkF m pc Ls (.long y :: .long x :: st)) := by
  subst hp
  exact Go.step (fun T A _ q => XT.lmul A C.1 rfl (hb C.2.1 hd) rfl q) hr
theorem go_lor (C : Cx p s m meth c Z own bs mx rt nm) {x y : Int64} (hd : decode bs pc = .ok (.lor, 1)) (hp : pc + 1 = pc') (hr : Go p l e R s m args below meth c n0 Q K N h ce sl (mkF m pc' Ls (.long (x ||| y) :: st))) : Go p l e R s m args below meth c n0 Q K N h ce sl (mkF m pc Ls (.long y :: .long x :: st)) := by
  subst hp
  exact Go.step (fun T A _ q => XT.lor A C.1 rfl (hb C.2.1 hd) rfl q) hr
theorem go_lxor (C : Cx p s m meth c Z own bs mx rt nm) {x y : Int64} (hd : decode bs pc = .ok (.lxor, 1)) (hp : pc + 1 = pc') (hr : Go p l e R s m args below meth c n0 Q K N h ce sl (mkF m pc' Ls (.long (x ^^^ y) :: st))) : Go p l e R s m args below meth c n0 Q K N h ce sl (mkF m pc Ls (.long y :: .long x :: st)) := by
  subst hp
  exact Go.step (fun T A _ q => XT.lxor A C.1 rfl (hb C.2.1 hd) rfl q) hr
theorem go_idiv (C : Cx p s m meth c Z own bs mx rt nm) {x y : Int32} (hd : decode bs pc = .ok (.idiv, 1)) (hp : pc + 1 = pc') (hy : y ≠ 0) (hr : Go p l e R s m args below meth c n0 Q K N h ce sl (mkF m pc' Ls (.int (x / y) :: st))) : Go p l e R s m args below meth c n0 Q K N h ce sl (mkF m pc Ls (.int y :: .int x :: st)) := by
  subst hp
  exact Go.step (fun T A _ q => XS.idiv A C.1 rfl (hb C.2.1 hd) rfl hy q) hr
theorem go_irem (C : Cx p s m meth c Z own bs mx rt nm) {x y : Int32} (hd : decode bs pc = .ok (.irem, 1)) (hp : pc + 1 = pc') (hy : y ≠ 0) (hr : Go p l e R s m args below meth c n0 Q K N h ce sl (mkF m pc' Ls (.int (x % y) :: st))) : Go p l e R s m args below meth c n0 Q K N h ce sl (mkF m pc Ls (.int y :: .int x :: st)) := by
  subst hp
  exact Go.stepX (fun T locs X _ _ q => iremM X C.1 rfl (hb C.2.1 hd) rfl hy q) hr
theorem go_i2l (C : Cx p s m meth c Z own bs mx rt nm) {x : Int32} (hd : decode bs pc = .ok (.i2l, 1)) (hp : pc + 1 = pc') (hr : Go p l e R s m args below meth c n0 Q K N h ce sl (mkF m pc' Ls (.long x.toInt64 :: st))) : Go p l e R s m args below meth c n0 Q K N h ce sl (mkF m pc Ls (.int x :: st)) := by
  subst hp
  exact Go.step (fun T A _ q => XT.i2l A C.1 rfl (hb C.2.1 hd) rfl q) hr
theorem go_l2i (C : Cx p s m meth c Z own bs mx rt nm) {x : Int64} (hd : decode bs pc = .ok (.l2i, 1)) (hp : pc + 1 = pc') (hr : Go p l e R s m args below meth c n0 Q K N h ce sl (mkF m pc' Ls (.int x.toInt32 :: st))) : Go p l e R s m args below meth c n0 Q K N h ce sl (mkF m pc Ls (.long x :: st)) := by
  subst hp
  exact Go.step (fun T A _ q => XT.l2i A C.1 rfl (hb C.2.1 hd) rfl q) hr
theorem go_i2b (C : Cx p s m meth c Z own bs mx rt nm) {x : Int32} (hd : decode bs pc = .ok (.i2b, 1)) (hp : pc + 1 = pc') (hr : Go p l e R s m args below meth c n0 Q K N h ce sl (mkF m pc' Ls (.int x.toInt8.toInt32 :: st))) : Go p l e R s m args below meth c n0 Q K N h ce sl (mkF m pc Ls (.int x :: st)) := by
  subst hp
  exact Go.step (fun T A _ q => XT.i2b A C.1 rfl (hb C.2.1 hd) rfl q) hr
theorem go_i2c (C : Cx p s m meth c Z own bs mx rt nm) {x : Int32} (hd : decode bs pc = .ok (.i2c, 1)) (hp : pc + 1 = pc') (hr : Go p l e R s m args below meth c n0 Q K N h ce sl (mkF m pc' Ls (.int x.toUInt32.toUInt16.toUInt32.toInt32 :: st))) : Go p l e R s m args below meth c n0 Q K N h ce sl (mkF m pc Ls (.int x :: st)) := by
  subst hp
  exact Go.step (fun T A _ q => XT.i2c A C.1 rfl (hb C.2.1 hd) rfl q) hr
theorem go_ineg (C : Cx p s m meth c Z own bs mx rt nm) {x : Int32} (hd : decode bs pc = .ok (.ineg, 1)) (hp : pc + 1 = pc') (hr : Go p l e R s m args below meth c n0 Q K N h ce sl (mkF m pc' Ls (.int (-x) :: st))) : Go p l e R s m args below meth c n0 Q K N h ce sl (mkF m pc Ls (.int x :: st)) := by
  subst hp
  exact Go.step (fun T A _ q => XS.ineg A C.1 rfl (hb C.2.1 hd) rfl q) hr
theorem go_dup (C : Cx p s m meth c Z own bs mx rt nm) {v : Value} (hd : decode bs pc = .ok (.dup, 1)) (hp : pc + 1 = pc') (hc : v.category = 1) (hr : Go p l e R s m args below meth c n0 Q K N h ce sl (mkF m pc' Ls (v :: v :: st))) : Go p l e R s m args below meth c n0 Q K N h ce sl (mkF m pc Ls (v :: st)) := by
  subst hp
  exact Go.step (fun T A _ q => XS.dup A C.1 rfl (hb C.2.1 hd) rfl hc q) hr
theorem go_pop (C : Cx p s m meth c Z own bs mx rt nm) {v : Value} (hd : decode bs pc = .ok (.pop, 1)) (hp : pc + 1 = pc') (hc : v.category = 1) (hr : Go p l e R s m args below meth c n0 Q K N h ce sl (mkF m pc' Ls st)) : Go p l e R s m args below meth c n0 Q K N h ce sl (mkF m pc Ls (v :: st)) := by
  subst hp
  exact Go.step (fun T A _ q => XT.pop A C.1 rfl (hb C.2.1 hd) rfl hc q) hr
theorem go_dup2 (C : Cx p s m meth c Z own bs mx rt nm) {v w : Value} (hd : decode bs pc = .ok (.dup2, 1)) (hp : pc + 1 = pc') (hc : v.category = 1) (hc' : w.category = 1) (hr : Go p l e R s m args below meth c n0 Q K N h ce sl (mkF m pc' Ls (v :: w :: v :: w :: st))) : Go p l e R s m args below meth c n0 Q K N h ce sl (mkF m pc Ls (v :: w :: st)) := by
  subst hp
  exact Go.step (fun T A _ q => XT.dup2 A C.1 rfl (hb C.2.1 hd) rfl hc hc' q) hr
theorem go_dup_x1 (C : Cx p s m meth c Z own bs mx rt nm) {v w : Value} (hd : decode bs pc = .ok (.dup_x1, 1)) (hp : pc + 1 = pc') (hc : v.category = 1) (hc' : w.category = 1) (hr : Go p l e R s m args below meth c n0 Q K N h ce sl (mkF m pc' Ls (v :: w :: v :: st))) : Go p l e R s m args below meth c n0 Q K N h ce sl (mkF m pc Ls (v :: w :: st)) := by
  subst hp
  exact Go.step (fun T A _ q => XT.dupX1 A C.1 rfl (hb C.2.1 hd) rfl hc hc' q) hr
theorem go_lushr (C : Cx p s m meth c Z own bs mx rt nm) {x : Int64} {y : Int32} (hd : decode bs pc = .ok (.lushr, 1)) (hp : pc + 1 = pc') (hr : Go p l e R s m args below meth c n0 Q K N h ce sl (mkF m pc' Ls (.long (XT.ushrL x y) :: st))) : Go p l e R s m args below meth c n0 Q K N h ce sl (mkF m pc Ls (.int y :: .long x :: st)) := by
  subst hp
  exact Go.step (fun T A _ q => XT.lushr A C.1 rfl (hb C.2.1 hd) rfl q) hr
theorem go_lshl (C : Cx p s m meth c Z own bs mx rt nm) {x : Int64} {y : Int32} (hd : decode bs pc = .ok (.lshl, 1)) (hp : pc + 1 = pc') (hr : Go p l e R s m args below meth c n0 Q K N h ce sl (mkF m pc' Ls (.long (x <<< (y.toInt64 &&& 63)) :: st))) : Go p l e R s m args below meth c n0 Q K N h ce sl (mkF m pc Ls (.int y :: .long x :: st)) := by
  subst hp
  exact Go.step (fun T A _ q => XT.lshl A C.1 rfl (hb C.2.1 hd) rfl q) hr
theorem go_ldiv (C : Cx p s m meth c Z own bs mx rt nm) {x y : Int64} (hd : decode bs pc = .ok (.ldiv, 1)) (hp : pc + 1 = pc') (hy : y ≠ 0) (hr : Go p l e R s m args below meth c n0 Q K N h ce sl (mkF m pc' Ls (.long (x / y) :: st))) : Go p l e R s m args below meth c n0 Q K N h ce sl (mkF m pc Ls (.long y :: .long x :: st)) := by
  subst hp
  exact Go.step (fun T A _ q => XT.ldiv A C.1 rfl (hb C.2.1 hd) rfl hy q) hr
theorem go_lrem (C : Cx p s m meth c Z own bs mx rt nm) {x y : Int64} (hd : decode bs pc = .ok (.lrem, 1)) (hp : pc + 1 = pc') (hy : y ≠ 0) (hr : Go p l e R s m args below meth c n0 Q K N h ce sl (mkF m pc' Ls (.long (x - (x / y) * y) :: st))) : Go p l e R s m args below meth c n0 Q K N h ce sl (mkF m pc Ls (.long y :: .long x :: st)) := by
  subst hp
  exact Go.step (fun T A _ q => XT.lrem A C.1 rfl (hb C.2.1 hd) rfl hy q) hr
theorem go_goto (C : Cx p s m meth c Z own bs mx rt nm) {o : Int} (hd : decode bs pc = .ok (.goto o, 3)) (ho : 0 ≤ (pc : Int) + o) (hp : ((pc : Int) + o).toNat = pc') (hr : Go p l e R s m args below meth c n0 Q K N h ce sl (mkF m pc' Ls st)) : Go p l e R s m args below meth c n0 Q K N h ce sl (mkF m pc Ls st) :=
  Go.step (fun T A _ q => XS.goto A C.1 rfl rfl (hb C.2.1 hd) ho hp q) hr
/-- what a comparison says, of integers -/
def cmpP (cd : ClassFile.Cond) (x y : Int) : Prop := match cd with | .eq => x = y | .ne => ¬ x = y | .lt => x < y | .ge => ¬ x < y | .gt => y < x | .le => ¬ y < x
def cmpN (cd : ClassFile.Cond) (x y : Int) : Prop := match cd with | .eq => ¬ x = y | .ne => x = y | .lt => ¬ x < y | .ge => x < y | .gt => ¬ y < x | .le => y < x
theorem cmpN_of {cd : ClassFile.Cond} {x y : Int} (h : ¬ cmpP cd x y) : cmpN cd x y := by
  cases cd <;> simp only [cmpP] at h <;> simp only [cmpN] <;> omega
theorem cmp_t {cd : ClassFile.Cond} {x y : Int32} (h : cmpP cd x.toInt y.toInt) : if_icmp.holds cd x y = true := by
  cases cd <;> simp only [cmpP] at h
  · exact XT.ii_eq_t (int_eq h)
  · exact XT.ii_ne_t fun q => h (by rw [q])
  · exact XT.ii_lt_t (Int32.lt_iff_toInt_lt.mpr h)
  · exact XT.ii_ge_t fun q => h (Int32.lt_iff_toInt_lt.mp q)
  · exact XT.ii_gt_t (Int32.lt_iff_toInt_lt.mpr h)
  · exact XT.ii_le_t fun q => h (Int32.lt_iff_toInt_lt.mp q)
theorem cmp_f {cd : ClassFile.Cond} {x y : Int32} (h : ¬ cmpP cd x.toInt y.toInt) : if_icmp.holds cd x y = false := by
  cases cd <;> simp only [cmpP] at h
  · exact XT.ii_eq_f fun q => h (by rw [q])
  · exact XT.ii_ne_f (int_eq (Classical.not_not.mp h))
  · exact XT.ii_lt_f fun q => h (Int32.lt_iff_toInt_lt.mp q)
  · exact XT.ii_ge_f (Int32.lt_iff_toInt_lt.mpr (Classical.not_not.mp h))
  · exact XT.ii_gt_f fun q => h (Int32.lt_iff_toInt_lt.mp q)
  · exact XT.ii_le_f (Int32.lt_iff_toInt_lt.mpr (Classical.not_not.mp h))
theorem cmpL_t {cd : ClassFile.Cond} {x y : Int64} (h : cmpP cd x.toInt y.toInt) : ifCond.holds cd (XT.cmpL x y) = true := by
  cases cd <;> simp only [cmpP] at h
  · exact XT.ll_eq_t (long_eq h)
  · exact XT.ll_ne_t fun q => h (by rw [q])
  · exact XT.ll_lt_t (Int64.lt_iff_toInt_lt.mpr h)
  · exact XT.ll_ge_t fun q => h (Int64.lt_iff_toInt_lt.mp q)
  · exact XT.ll_gt_t (Int64.lt_iff_toInt_lt.mpr h)
  · exact XT.ll_le_t fun q => h (Int64.lt_iff_toInt_lt.mp q)
theorem cmpL_f {cd : ClassFile.Cond} {x y : Int64} (h : ¬ cmpP cd x.toInt y.toInt) : ifCond.holds cd (XT.cmpL x y) = false := by
  cases cd <;> simp only [cmpP] at h
  · exact XT.ll_eq_f fun q => h (by rw [q])
  · exact XT.ll_ne_f (long_eq (Classical.not_not.mp h))
  · exact XT.ll_lt_f fun q => h (Int64.lt_iff_toInt_lt.mp q)
  · exact XT.ll_ge_f (Int64.lt_iff_toInt_lt.mpr (Classical.not_not.mp h))
  · exact XT.ll_gt_f fun q => h (Int64.lt_iff_toInt_lt.mp q)
  · exact XT.ll_le_f (Int64.lt_iff_toInt_lt.mpr (Classical.not_not.mp h))
theorem go_icmp (C : Cx p s m meth c Z own bs mx rt nm) {cd : ClassFile.Cond} {x y : Int32} {o : Int} {pcN : Nat} (kx ky : Int) (hx : x.toInt = kx) (hy : y.toInt = ky) (hd : decode bs pc = .ok (.if_icmp cd o, 3)) (ho : 0 ≤ (pc : Int) + o) (hp : ((pc : Int) + o).toNat = pc') (hpn : pc + 3 = pcN) (h1 : cmpP cd kx ky → Go p l e R s m args below meth c n0 Q K N h ce sl (mkF m pc' Ls st)) (h2 : cmpN cd kx ky → Go p l e R s m args below meth c n0 Q K N h ce sl (mkF m pcN Ls st)) : Go p l e R s m args below meth c n0 Q K N h ce sl (mkF m pc Ls (.int y :: .int x :: st)) := by
  subst hpn hx hy
  by_cases q : cmpP cd x.toInt y.toInt
  · exact Go.step (fun T A _ k => XS.icmpYes A C.1 rfl rfl (hb C.2.1 hd) rfl (cmp_t q) ho hp k) (h1 q)
  · exact Go.step (fun T A _ k => XS.icmpNo A C.1 rfl (hb C.2.1 hd) rfl (cmp_f q) k) (h2 (cmpN_of q))
theorem go_if0 (C : Cx p s m meth c Z own bs mx rt nm) {cd : ClassFile.Cond} {x : Int32} {o : Int} {pcN : Nat} (kx : Int) (hx : x.toInt = kx) (hd : decode bs pc = .ok (.ifCond cd o, 3)) (ho : 0 ≤ (pc : Int) + o) (hp : ((pc : Int) + o).toNat = pc') (hpn : pc + 3 = pcN) (h1 : cmpP cd kx 0 → Go p l e R s m args below meth c n0 Q K N h ce sl (mkF m pc' Ls st)) (h2 : cmpN cd kx 0 → Go p l e R s m args below meth c n0 Q K N h ce sl (mkF m pcN Ls st)) : Go p l e R s m args below meth c n0 Q K N h ce sl (mkF m pc Ls (.int x :: st)) := by
  subst hpn hx
  by_cases q : cmpP cd x.toInt 0
  · exact Go.step (fun T A _ k => XS.ifYes A C.1 rfl rfl (hb C.2.1 hd) rfl ((if0 cd x).trans (cmp_t q)) ho hp k) (h1 q)
  · exact Go.step (fun T A _ k => XS.ifNo A C.1 rfl (hb C.2.1 hd) rfl ((if0 cd x).trans (cmp_f q)) k) (h2 (cmpN_of q))
theorem go_lcmp (C : Cx p s m meth c Z own bs mx rt nm) {cd : ClassFile.Cond} {x y : Int64} {o : Int} {pc1 pcN : Nat} (kx ky : Int) (hx : x.toInt = kx) (hy : y.toInt = ky) (hd0 : decode bs pc = .ok (.lcmp, 1)) (hp1 : pc + 1 = pc1) (hd : decode bs pc1 = .ok (.ifCond cd o, 3)) (ho : 0 ≤ (pc1 : Int) + o) (hp : ((pc1 : Int) + o).toNat = pc') (hpn : pc1 + 3 = pcN) (h1 : cmpP cd kx ky → Go p l e R s m args below meth c n0 Q K N h ce sl (mkF m pc' Ls st)) (h2 : cmpN cd kx ky → Go p l e R s m args below meth c n0 Q K N h ce sl (mkF m pcN Ls st)) : Go p l e R s m args below meth c n0 Q K N h ce sl (mkF m pc Ls (.long y :: .long x :: st)) := by
  subst hpn hp1 hx hy
  refine Go.step (g' := mkF m (pc + 1) Ls (.int (XT.cmpL x y) :: st)) (fun T A _ k => XT.lcmp A C.1 rfl (hb C.2.1 hd0) rfl k) ?_
  by_cases q : cmpP cd x.toInt y.toInt
  · exact Go.step (fun T A _ k => XS.ifYes A C.1 rfl rfl (hb C.2.1 hd) rfl (cmpL_t q) ho hp k) (h1 q)
  · exact Go.step (fun T A _ k => XS.ifNo A C.1 rfl (hb C.2.1 hd) rfl (cmpL_f q) k) (h2 (cmpN_of q))
theorem go_ifne_b (C : Cx p s m meth c Z own bs mx rt nm) {B : Prop} [Decidable B] {o : Int} {pcN : Nat} (hd : decode bs pc = .ok (.ifCond .ne o, 3)) (ho : 0 ≤ (pc : Int) + o) (hp : ((pc : Int) + o).toNat = pc') (hpn : pc + 3 = pcN) (h1 : B → Go p l e R s m args below meth c n0 Q K N h ce sl (mkF m pc' Ls st)) (h2 : ¬ B → Go p l e R s m args below meth c n0 Q K N h ce sl (mkF m pcN Ls st)) : Go p l e R s m args below meth c n0 Q K N h ce sl (mkF m pc Ls (.int (bi B) :: st)) := by
  refine go_if0 C _ rfl hd ho hp hpn (fun q => h1 ?_) (fun q => h2 ?_)
  · exact Classical.byContradiction fun z => q (by rw [bi_f z]; rfl)
  · exact fun z => by
      have q' : (bi B).toInt = 0 := q
      rw [bi_t z] at q'
      exact absurd q' (by decide)
theorem go_ifeq_b (C : Cx p s m meth c Z own bs mx rt nm) {B : Prop} [Decidable B] {o : Int} {pcN : Nat} (hd : decode bs pc = .ok (.ifCond .eq o, 3)) (ho : 0 ≤ (pc : Int) + o) (hp : ((pc : Int) + o).toNat = pc') (hpn : pc + 3 = pcN) (h1 : ¬ B → Go p l e R s m args below meth c n0 Q K N h ce sl (mkF m pc' Ls st)) (h2 : B → Go p l e R s m args below meth c n0 Q K N h ce sl (mkF m pcN Ls st)) : Go p l e R s m args below meth c n0 Q K N h ce sl (mkF m pc Ls (.int (bi B) :: st)) := by
  refine go_if0 C _ rfl hd ho hp hpn (fun q => h1 ?_) (fun q => h2 ?_)
  · exact fun z => by
      have q' : (bi B).toInt = 0 := q
      rw [bi_t z] at q'
      exact absurd q' (by decide)
  · exact Classical.byContradiction fun z => q (by rw [bi_f z]; rfl)
theorem go_ifnull_r (C : Cx p s m meth c Z own bs mx rt nm) {a : Addr} {o : Int} (hd : decode bs pc = .ok (.ifnull o, 3)) (hp : pc + 3 = pc') (hr : Go p l e R s m args below meth c n0 Q K N h ce sl (mkF m pc' Ls st)) : Go p l e R s m args below meth c n0 Q K N h ce sl (mkF m pc Ls (.ref a :: st)) := by
  subst hp
  exact Go.step (fun T A _ k => XS.ifnullNo A C.1 rfl (hb C.2.1 hd) rfl k) hr
theorem go_ifnull_n (C : Cx p s m meth c Z own bs mx rt nm) {o : Int} (hd : decode bs pc = .ok (.ifnull o, 3)) (ho : 0 ≤ (pc : Int) + o) (hp : ((pc : Int) + o).toNat = pc') (hr : Go p l e R s m args below meth c n0 Q K N h ce sl (mkF m pc' Ls st)) : Go p l e R s m args below meth c n0 Q K N h ce sl (mkF m pc Ls (.null :: st)) :=
  Go.step (fun T A _ k => XS.ifnullYes A C.1 rfl rfl (hb C.2.1 hd) rfl ho hp k) hr
theorem go_ldc (C : Cx p s m meth c Z own bs mx rt nm) {i : Nat} {v : Int32} (w : (Jvm.Cond.constant own i v).before a0 Z = true) (hd : decode bs pc = .ok (.ldc i, 2)) (hp : pc + 2 = pc') (hr : Go p l e R s m args below meth c n0 Q K N h ce sl (mkF m pc' Ls (.int v :: st))) : Go p l e R s m args below meth c n0 Q K N h ce sl (mkF m pc Ls st) := by
  subst hp
  exact Go.stepX (fun T locs X _ _ q => X.ldcI C.1 C.2.2.2.2.1 (mv C.2.2.2.1 w) rfl (hb C.2.1 hd) q) hr
theorem go_ldc2 (C : Cx p s m meth c Z own bs mx rt nm) {i : Nat} {v : Int64} (w : (Jvm.Cond.constantLong own i v).before a0 Z = true) (hd : decode bs pc = .ok (.ldc2_w i, 3)) (hp : pc + 3 = pc') (hr : Go p l e R s m args below meth c n0 Q K N h ce sl (mkF m pc' Ls (.long v :: st))) : Go p l e R s m args below meth c n0 Q K N h ce sl (mkF m pc Ls st) := by
  subst hp
  exact Go.stepX (fun T locs X _ _ q => X.ldc2J C.1 C.2.2.2.2.1 (mv C.2.2.2.1 w) rfl (hb C.2.1 hd) q) hr
theorem go_getfield (C : Cx p s m meth c Z own bs mx rt nm) {O n d : String} {i : Nat} {a : Addr} {v : Value} (w : (Jvm.Cond.fieldLink own i O n d).before a0 Z = true) (F0 : Fld Z h a O n d v) (hd : decode bs pc = .ok (.getfield i, 3)) (hp : pc + 3 = pc') (hr : Go p l e R s m args below meth c n0 Q K N h ce sl (mkF m pc' Ls (v :: st))) : Go p l e R s m args below meth c n0 Q K N h ce sl (mkF m pc Ls (.ref a :: st)) := by
  subst hp
  intro T locs X eT Nn
  obtain ⟨T', X', e', stp⟩ := getF X C.1 C.2.2.2.1 C.2.2.2.2.1 (host := "") (Or.inl w) Via.refl eT F0 (g := mkF m pc Ls (.ref a :: st)) rfl rfl (hb C.2.1 hd)
  obtain ⟨s₂, o, h1, r⟩ := hr T' locs X' e' Nn
  exact ⟨s₂, o, stp _ h1, r⟩
theorem go_putfield (C : Cx p s m meth c Z own bs mx rt nm) {O n d C0 : String} {i kk : Nat} {ty : FieldType} {a : Addr} {v old : Value} (w : (Jvm.Cond.fieldLink own i O n d).before a0 Z = true) (F0 : Fld Z h a O n d old) (E : Exa Z h a C0) (L : (Jvm.Cond.lays C0 O n d).before a0 Z = true ∨ ((Jvm.Cond.laysFinal C0 O n d).before a0 Z = true ∧ own = O ∧ nm = "<init>")) (wi : (Jvm.Cond.instantiable C0 kk).before a0 Z = true) (hty : parseFieldDescriptor d = some ty) (hn : narrow ty v = v) (hf : fits ty v = true) (ha : n0 ≤ a) (hd : decode bs pc = .ok (.putfield i, 3)) (hp : pc + 3 = pc') (hr : ∀ h', Wr h h' a (Jvm.RoadKit.slotOf Z O n d) v → Go p l e R s m args below meth c n0 Q K N h' ce sl (mkF m pc' Ls st)) : Go p l e R s m args below meth c n0 Q K N h ce sl (mkF m pc Ls (v :: .ref a :: st)) := by
  subst hp
  intro T locs X eT Nn
  obtain ⟨T', h', X', e', W', stp⟩ := putF X C.1 C.2.2.2.1 C.2.2.2.2.1 (host := "") (Or.inl w) Via.refl eT F0 E (L.imp id fun q => ⟨q.1, q.2.1, C.2.2.2.2.2.2.2.trans q.2.2⟩) wi hty hn hf (g := mkF m pc Ls (v :: .ref a :: st)) rfl rfl (hb C.2.1 hd)
  obtain ⟨s₂, o, h1, r⟩ := hr h' W' T' _ X' e' (Fr.snoc X' Nn ha)
  exact ⟨s₂, o, stp _ h1, r⟩
theorem go_new (C : Cx p s m meth c Z own bs mx rt nm) {C0 : String} {i k ce' sl' : Nat} (w : (Jvm.Cond.classLink own i C0).before a0 Z = true) (wi : (Jvm.Cond.instantiable C0 k).before a0 Z = true) (wz : (Jvm.Cond.initialized C0).before a0 Z = true) (hd : decode bs pc = .ok (.new i, 3)) (hp : pc + 3 = pc') (hce : ce + 1 = ce') (hsl : sl + k = sl') (hc : ce' ≤ R.cells) (hl : sl' ≤ R.slots)
    (hr : ∀ (h' : Heap) (a : Addr), h.size = a → Ext h h' → Exa Z h' a C0 → (∀ {O nm d : String} {ty : FieldType}, Laid Z a0 C0 O nm d → parseFieldDescriptor d = some ty → Fld Z h' a O nm d (defaultValue ty)) → Go p l e R s m args below meth c n0 Q K N h' ce' sl' (mkF m pc' Ls (.ref a :: st))) : Go p l e R s m args below meth c n0 Q K N h ce sl (mkF m pc Ls st) := by
  subst hp hce hsl
  intro T locs X eT Nn
  obtain ⟨T', h', X', e', E', A', D', -, stp⟩ := newO X C.1 C.2.2.2.1 C.2.2.2.2.1 w wi wz eT (g := mkF m pc Ls st) rfl (hb C.2.1 hd) hc hl
  obtain ⟨s₂, o, h1, r⟩ := hr h' _ rfl E' A' D' T' _ X' e' Nn
  exact ⟨s₂, o, stp _ h1, r⟩
/-- an array of type ty that holds just vs -/
def Av (Z : State) (h : Heap) (a : Addr) (ty : FieldType) (vs : List Value) : Prop := ∃ cl : Cell, Arr Z h a cl ty ∧ cl.slots.toList = vs ∧ vs.length < 2147483648
theorem Av.lt {ty : FieldType} {vs : List Value} {a : Addr} (A : Av Z h a ty vs) : a < h.size := by obtain ⟨c, A, -⟩ := A; exact A.lt
theorem Av.ext {ty : FieldType} {vs : List Value} {a : Addr} {h' : Heap} (A : Av Z h a ty vs) (E : Ext h h') : Av Z h' a ty vs := by obtain ⟨c, A, r⟩ := A; exact ⟨c, A.ext E, r⟩
theorem Av.other {ty : FieldType} {vs : List Value} {a b : Addr} {h' : Heap} {k : Nat} {v : Value} (A : Av Z h b ty vs) (W : Wr h h' a k v) (q : b ≠ a) : Av Z h' b ty vs := by obtain ⟨c, A, r⟩ := A; exact ⟨c, A.other W q, r⟩
theorem Av.keep {ty : FieldType} {vs : List Value} {a : Addr} {h' : Heap} {ws : List Addr} (A : Av Z h a ty vs) (K0 : Keep h h' ws) (q : a ∉ ws) : Av Z h' a ty vs := by obtain ⟨c, A, r⟩ := A; exact ⟨c, ⟨K0.2.1 a c A.1 q, A.2⟩, r⟩
theorem own_ne_arr {C0 : String} {ty : FieldType} {vs : List Value} {a b : Addr} {k : Nat} (F0 : Exa Z h a C0) (wi : (Jvm.Cond.instantiable C0 k).before a0 Z = true) (G : Av Z h b ty vs) : a ≠ b := by obtain ⟨c, G, -⟩ := G; exact ne_arr F0 wi G
theorem clamp_of {j : Int32} {k : Nat} (hj : j.toInt = k) : j.toNatClampNeg = k := by
  show j.toInt.toNat = k
  rw [hj]; rfl
theorem nonneg_of {j : Int32} {k : Nat} (hj : j.toInt = k) : ¬ j < 0 := fun q => by
  have := Int32.lt_iff_toInt_lt.mp q
  rw [hj] at this
  exact absurd this (by show ¬ (k : Int) < 0; omega)
theorem Av.at {ty : FieldType} {vs : List Value} {a : Addr} (A : Av Z h a ty vs) {j : Int32} {k : Nat} (hj : j.toInt = k) (hk : k < vs.length) : ∃ cl : Cell, Arr Z h a cl ty ∧ cl.slots.toList = vs ∧ ¬ (j < 0 ∨ cl.slots.size ≤ j.toNatClampNeg) ∧ cl.slots[j.toNatClampNeg]? = vs[k]? := by
  obtain ⟨cl, A, e1, e2⟩ := A
  refine ⟨cl, A, e1, ?_, ?_⟩
  · rw [clamp_of hj]
    intro q
    rcases q with q | q
    · exact nonneg_of hj q
    · rw [← e1] at hk; simp at hk; omega
  · rw [clamp_of hj, ← e1]; simp
theorem Av.set {ty : FieldType} {vs : List Value} {a : Addr} {h' : Heap} {k : Nat} {v : Value} (A : Av Z h a ty vs) (W : Wr h h' a k v) : Av Z h' a ty (vs.set k v) := by
  obtain ⟨cl, A, e1, e2⟩ := A
  exact ⟨_, A.same W, by rw [← e1]; simp [Cell.setSlot], by simpa using e2⟩
/-- n ints, whichever -/
def Ints (vs : List Value) (n : Nat) : Prop := vs.length = n ∧ ∀ k, k < n → ∃ x : Int32, vs[k]? = some (.int x)
theorem Ints.rep (n : Nat) (x : Int32) : Ints (List.replicate n (.int x)) n := ⟨by simp, fun k hk => ⟨x, by simp [hk]⟩⟩
theorem Ints.set {vs : List Value} {n k : Nat} (x : Int32) (I : Ints vs n) : Ints (vs.set k (.int x)) n := ⟨by simpa using I.1, fun j hj => by
  by_cases q : k = j
  · subst q
    exact ⟨x, by rw [List.getElem?_set_self (by rw [I.1]; exact hj)]⟩
  · obtain ⟨y, hy⟩ := I.2 j hj
    exact ⟨y, by rw [List.getElem?_set_ne q]; exact hy⟩⟩
theorem go_arraylength (C : Cx p s m meth c Z own bs mx rt nm) {ty : FieldType} {vs : List Value} {a : Addr} (A : Av Z h a ty vs) (n : Int32) (hn : n.toInt = vs.length) (hd : decode bs pc = .ok (.arraylength, 1)) (hp : pc + 1 = pc') (hr : Go p l e R s m args below meth c n0 Q K N h ce sl (mkF m pc' Ls (.int n :: st))) : Go p l e R s m args below meth c n0 Q K N h ce sl (mkF m pc Ls (.ref a :: st)) := by
  subst hp
  obtain ⟨cl, A, e1, e2⟩ := A
  have q : cl.slots.size.toInt32 = n := by
    have hl : cl.slots.size = vs.length := by rw [← e1]; simp
    rw [hl]
    refine int_eq ?_
    rw [hn]
    exact Int32.toInt_ofNat_of_lt (by omega)
  exact Go.stepX (fun T locs X eT _ k => X.arraylength C.1 (cell := cl) (by rw [eT]; exact A.1) (State.isArrayOf_alike C.2.2.2.1.alike A.2.1) (g := mkF m pc Ls (.ref a :: st)) rfl rfl (hb C.2.1 hd) _ (by rw [q]; exact k)) hr
theorem go_iaload (C : Cx p s m meth c Z own bs mx rt nm) {vs : List Value} {a : Addr} {j : Int32} (A : Av Z h a .int vs) (k : Nat) (v : Value) (hj : j.toInt = k) (hv : vs[k]? = some v) (hd : decode bs pc = .ok (.iaload, 1)) (hp : pc + 1 = pc') (hr : Go p l e R s m args below meth c n0 Q K N h ce sl (mkF m pc' Ls (v :: st))) : Go p l e R s m args below meth c n0 Q K N h ce sl (mkF m pc Ls (.int j :: .ref a :: st)) := by
  subst hp
  obtain ⟨cl, A, e1, e2, e3⟩ := A.at hj (List.getElem?_eq_some_iff.mp hv).1
  exact Go.stepX (fun T locs X eT _ q => X.iaload C.1 (j := j) (v := v) (by rw [eT]; exact A.1) (State.isArrayOf_alike C.2.2.2.1.alike A.2.1) A.2.2 e2 (e3.trans hv) (g := mkF m pc Ls (.int j :: .ref a :: st)) rfl rfl (hb C.2.1 hd) _ q) hr
theorem go_laload (C : Cx p s m meth c Z own bs mx rt nm) {vs : List Value} {a : Addr} {j : Int32} (A : Av Z h a .long vs) (k : Nat) (v : Value) (hj : j.toInt = k) (hv : vs[k]? = some v) (hd : decode bs pc = .ok (.laload, 1)) (hp : pc + 1 = pc') (hr : Go p l e R s m args below meth c n0 Q K N h ce sl (mkF m pc' Ls (v :: st))) : Go p l e R s m args below meth c n0 Q K N h ce sl (mkF m pc Ls (.int j :: .ref a :: st)) := by
  subst hp
  obtain ⟨cl, A, e1, e2, e3⟩ := A.at hj (List.getElem?_eq_some_iff.mp hv).1
  exact Go.stepX (fun T locs X eT _ q => X.laload C.1 (j := j) (v := v) (by rw [eT]; exact A.1) (State.isArrayOf_alike C.2.2.2.1.alike A.2.1) A.2.2 e2 (e3.trans hv) (g := mkF m pc Ls (.int j :: .ref a :: st)) rfl rfl (hb C.2.1 hd) _ q) hr
theorem go_baload (C : Cx p s m meth c Z own bs mx rt nm) {vs : List Value} {a : Addr} {j : Int32} (A : Av Z h a .byte vs) (k : Nat) (v : Value) (hj : j.toInt = k) (hv : vs[k]? = some v) (hd : decode bs pc = .ok (.baload, 1)) (hp : pc + 1 = pc') (hr : Go p l e R s m args below meth c n0 Q K N h ce sl (mkF m pc' Ls (v :: st))) : Go p l e R s m args below meth c n0 Q K N h ce sl (mkF m pc Ls (.int j :: .ref a :: st)) := by
  subst hp
  obtain ⟨cl, A, e1, e2, e3⟩ := A.at hj (List.getElem?_eq_some_iff.mp hv).1
  exact Go.stepX (fun T locs X eT _ q => X.baloadBytes C.1 (j := j) (v := v) (by rw [eT]; exact A.1) (State.isArrayOf_alike C.2.2.2.1.alike A.2.1) A.2.2 e2 (e3.trans hv) (g := mkF m pc Ls (.int j :: .ref a :: st)) rfl rfl (hb C.2.1 hd) _ q) hr
theorem go_iastore (C : Cx p s m meth c Z own bs mx rt nm) {vs : List Value} {a : Addr} {j : Int32} {x : Int32} (A : Av Z h a .int vs) (k : Nat) (hj : j.toInt = k) (hk : k < vs.length) (ha : n0 ≤ a) (hd : decode bs pc = .ok (.iastore, 1)) (hp : pc + 1 = pc') (hr : ∀ h', Wr h h' a k (.int x) → Av Z h' a .int (vs.set k (.int x)) → Go p l e R s m args below meth c n0 Q K N h' ce sl (mkF m pc' Ls st)) : Go p l e R s m args below meth c n0 Q K N h ce sl (mkF m pc Ls (.int x :: .int j :: .ref a :: st)) := by
  subst hp
  obtain ⟨cl, A1, e1, e2, e3⟩ := A.at hj hk
  intro T locs X eT Nn
  obtain ⟨T', h', X', e', W', stp⟩ := stI X C.1 C.2.2.2.1 eT A1 e2 (g := mkF m pc Ls (.int x :: .int j :: .ref a :: st)) rfl rfl (hb C.2.1 hd)
  have W2 : Wr h h' a k (.int x) := by rw [clamp_of hj] at W'; exact W'
  obtain ⟨s₂, o, h1, r⟩ := hr h' W2 (A.set W2) T' _ X' e' (Fr.snoc X' Nn ha)
  exact ⟨s₂, o, stp _ h1, r⟩
theorem go_lastore (C : Cx p s m meth c Z own bs mx rt nm) {vs : List Value} {a : Addr} {j : Int32} {x : Int64} (A : Av Z h a .long vs) (k : Nat) (hj : j.toInt = k) (hk : k < vs.length) (ha : n0 ≤ a) (hd : decode bs pc = .ok (.lastore, 1)) (hp : pc + 1 = pc') (hr : ∀ h', Wr h h' a k (.long x) → Av Z h' a .long (vs.set k (.long x)) → Go p l e R s m args below meth c n0 Q K N h' ce sl (mkF m pc' Ls st)) : Go p l e R s m args below meth c n0 Q K N h ce sl (mkF m pc Ls (.long x :: .int j :: .ref a :: st)) := by
  subst hp
  obtain ⟨cl, A1, e1, e2, e3⟩ := A.at hj hk
  intro T locs X eT Nn
  obtain ⟨T', h', X', e', W', stp⟩ := stJ X C.1 C.2.2.2.1 eT A1 e2 (g := mkF m pc Ls (.long x :: .int j :: .ref a :: st)) rfl rfl (hb C.2.1 hd)
  have W2 : Wr h h' a k (.long x) := by rw [clamp_of hj] at W'; exact W'
  obtain ⟨s₂, o, h1, r⟩ := hr h' W2 (A.set W2) T' _ X' e' (Fr.snoc X' Nn ha)
  exact ⟨s₂, o, stp _ h1, r⟩
theorem go_bastore (C : Cx p s m meth c Z own bs mx rt nm) {vs : List Value} {a : Addr} {j : Int32} {x : Int32} (A : Av Z h a .byte vs) (k : Nat) (hj : j.toInt = k) (hk : k < vs.length) (x' : Int32) (hx : x.toInt8.toInt32 = x') (ha : n0 ≤ a) (hd : decode bs pc = .ok (.bastore, 1)) (hp : pc + 1 = pc') (hr : ∀ h', Wr h h' a k (.int x') → Av Z h' a .byte (vs.set k (.int x')) → Go p l e R s m args below meth c n0 Q K N h' ce sl (mkF m pc' Ls st)) : Go p l e R s m args below meth c n0 Q K N h ce sl (mkF m pc Ls (.int x :: .int j :: .ref a :: st)) := by
  subst hp hx
  obtain ⟨cl, A1, e1, e2, e3⟩ := A.at hj hk
  intro T locs X eT Nn
  obtain ⟨T', h', X', e', W', stp⟩ := stB X C.1 C.2.2.2.1 eT A1 e2 (g := mkF m pc Ls (.int x :: .int j :: .ref a :: st)) rfl rfl (hb C.2.1 hd)
  have W2 : Wr h h' a k (.int x.toInt8.toInt32) := by rw [clamp_of hj] at W'; exact W'
  obtain ⟨s₂, o, h1, r⟩ := hr h' W2 (A.set W2) T' _ X' e' (Fr.snoc X' Nn ha)
  exact ⟨s₂, o, stp _ h1, r⟩
theorem go_newarray (C : Cx p s m meth c Z own bs mx rt nm) {aty : ArrayType} {ty : FieldType} {n : Int32} {ce' sl' : Nat} (w : (Jvm.Cond.arrayClass ty).before a0 Z = true) (hty : newarray.typeOf aty = ty) (k cap : Nat) (hn : n.toInt = k) (hcap : k ≤ cap) (hc8 : cap * 8 ≤ 536870912) (hce : ce + 1 = ce') (hsl : sl + cap = sl') (hc : ce' ≤ R.cells) (hl : sl' ≤ R.slots) (hd : decode bs pc = .ok (.newarray aty, 2)) (hp : pc + 2 = pc')
    (hr : ∀ (h' : Heap) (a : Addr), h.size = a → Ext h h' → Av Z h' a ty (List.replicate k (defaultValue ty)) → Go p l e R s m args below meth c n0 Q K N h' ce' sl' (mkF m pc' Ls (.ref a :: st))) : Go p l e R s m args below meth c n0 Q K N h ce sl (mkF m pc Ls (.int n :: st)) := by
  subst hp hty hce hsl
  intro T locs X eT Nn
  obtain ⟨T', h', cA, X', e', E', A', stp⟩ := newP X C.1 C.2.2.2.1 w eT (g := mkF m pc Ls (.int n :: st)) rfl (hb C.2.1 hd) rfl (nonneg_of hn) (cap := cap) (by rw [clamp_of hn]; exact hcap) hc8 hc hl
  have hb31 : k < 2147483648 := by have := n.toInt_lt; omega
  obtain ⟨s₂, o, h1, r⟩ := hr h' _ rfl E' ⟨_, A', by simp [newA, clamp_of hn], by simpa using hb31⟩ T' _ X' e' Nn
  exact ⟨s₂, o, stp _ h1, r⟩
theorem go_newarrayE (C : Cx p s m meth c Z own bs mx rt nm) {aty : ArrayType} {ty : FieldType} {n : Int32} {ce' sl' : Nat} {ad : String} (w : (Jvm.Cond.arrayClass ty).before a0 Z = true) (hty : newarray.typeOf aty = ty) (had : "[" ++ ty.toString = ad) (k cap : Nat) (hn : n.toInt = k) (hcap : k ≤ cap) (hc8 : cap * 8 ≤ 536870912) (hce : ce + 1 = ce') (hsl : sl + cap = sl') (hc : ce' ≤ R.cells) (hl : sl' ≤ R.slots) (hd : decode bs pc = .ok (.newarray aty, 2)) (hp : pc + 2 = pc')
    (hr : ∀ (h' : Heap) (a : Addr), h.size = a → Ext h h' → Exa Z h' a ad → Av Z h' a ty (List.replicate k (defaultValue ty)) → Go p l e R s m args below meth c n0 Q K N h' ce' sl' (mkF m pc' Ls (.ref a :: st))) : Go p l e R s m args below meth c n0 Q K N h ce sl (mkF m pc Ls (.int n :: st)) := by
  subst hp hty hce hsl
  intro T locs X eT Nn
  obtain ⟨T', h', cA, X', e', E', A', Q', stp⟩ := newPE X C.1 C.2.2.2.1 w eT (g := mkF m pc Ls (.int n :: st)) rfl (hb C.2.1 hd) rfl (nonneg_of hn) (cap := cap) (by rw [clamp_of hn]; exact hcap) hc8 hc hl had
  have hb31 : k < 2147483648 := by have := n.toInt_lt; omega
  obtain ⟨s₂, o, h1, r⟩ := hr h' _ rfl E' Q' ⟨_, A', by simp [newA, clamp_of hn], by simpa using hb31⟩ T' _ X' e' Nn
  exact ⟨s₂, o, stp _ h1, r⟩
theorem go_clone (C : Cx p s m meth c Z own bs mx rt nm) {i : Nat} {ad : String} {ty : FieldType} {vs : List Value} {a : Addr} {W cap ce' sl' : Nat} (w1 : (Jvm.Cond.methodLink own i ⟨ad, "clone", "()Ljava/lang/Object;"⟩).before a0 Z = true) (w2 : (Jvm.Cond.sameMethod ad "java/lang/Object" "clone" "()Ljava/lang/Object;").before a0 Z = true) (w3 : (Jvm.Cond.native ⟨"java/lang/Object", "clone", "()Ljava/lang/Object;"⟩).before a0 Z = true) (w4 : (Jvm.Cond.instanceMethod ⟨"java/lang/Object", "clone", "()Ljava/lang/Object;"⟩).before a0 Z = true) (w5 : (Jvm.Cond.selects ad ⟨ad, "clone", "()Ljava/lang/Object;"⟩ ⟨"java/lang/Object", "clone", "()Ljava/lang/Object;"⟩).before a0 Z = true) (w6 : (Jvm.Cond.castable ad "java/lang/Cloneable").before a0 Z = true) (A : Av Z h a ty vs) (E : Exa Z h a ad) (hfit : ∀ v ∈ vs, fits ty v = true) (hls : Ls.size = mx) (hf : 1 ≤ R.frames) (hW : wt st = W) (hlo : W + 14 ≤ R.locals) (hcap : vs.length ≤ cap) (hce : ce + 1 = ce') (hsl : sl + cap = sl') (hc : ce' ≤ R.cells) (hl : sl' ≤ R.slots) (hd : decode bs pc = .ok (.invokevirtual i, 3)) (hp : pc + 3 = pc')
    (hr : ∀ (h' : Heap) (b : Addr), h.size = b → Ext h h' → Exa Z h' b ad → Av Z h' b ty vs → Go p l e R s m args below meth c n0 Q K N h' ce' sl' (mkF m pc' Ls (.ref b :: st))) : Go p l e R s m args below meth c n0 Q K N h ce sl (mkF m pc Ls (.ref a :: st)) := by
  subst hp hce hsl
  intro T locs X eT Nn
  obtain ⟨cl, A1, e1, e2⟩ := A
  have hsz : cl.slots.size = vs.length := by rw [← e1]; simp
  have FC : FitC Z cl := fitC_of A1 fun i hi v hv => hfit v (by rw [← e1]; exact Array.mem_toList_iff.mpr (Array.mem_of_getElem? hv))
  obtain ⟨T', h', X', e', E', A', Q', stp⟩ := cloneA X C.1 C.2.2.2.1 C.2.2.2.2.1 w1 w2 w3 w4 w5 w6 eT A1 E FC (g := mkF m pc Ls (.ref a :: st)) rfl (hls.trans C.2.2.1.symm) rfl (hb C.2.1 hd) hf (W := W) (cap := cap) (by show 2 * 0 + wt st ≤ W; omega) hlo (by rw [hsz]; exact hcap) hc hl
  obtain ⟨s₂, o, h1, r⟩ := hr h' _ rfl E' Q' ⟨_, A', e1, e2⟩ T' _ X' e' Nn
  exact ⟨s₂, o, stp _ h1, r⟩
theorem go_checkcast (C : Cx p s m meth c Z own bs mx rt nm) {i : Nat} {K0 : String} {a : Addr} (w : (Jvm.Cond.classLink own i K0).before a0 Z = true) (E : Exa Z h a K0) (hd : decode bs pc = .ok (.checkcast i, 3)) (hp : pc + 3 = pc') (hr : Go p l e R s m args below meth c n0 Q K N h ce sl (mkF m pc' Ls (.ref a :: st))) : Go p l e R s m args below meth c n0 Q K N h ce sl (mkF m pc Ls (.ref a :: st)) := by
  subst hp
  intro T locs X eT Nn
  obtain ⟨T', X', e', stp⟩ := castY X C.1 C.2.2.2.1 C.2.2.2.2.1 w eT (Ins.self E) (g := mkF m pc Ls (.ref a :: st)) rfl rfl (hb C.2.1 hd)
  obtain ⟨s₂, o, h1, r⟩ := hr T' locs X' e' Nn
  exact ⟨s₂, o, stp _ h1, r⟩
theorem go_objinit (C : Cx p s m meth c Z own bs mx rt nm) {i : Nat} {a : Addr} {W : Nat} (w1 : (Jvm.Cond.methodLink own i Lib.objectInit).before a0 Z = true) (w2 : (Jvm.Cond.instanceMethod Lib.objectInit).before a0 Z = true) (w3 : (Jvm.Cond.code Lib.objectInit ⟨#[0xb1]⟩ 1 none).before a0 Z = true) (hls : Ls.size = mx) (hf : 1 ≤ R.frames) (hW : wt st = W) (hl : W + 12 ≤ R.locals) (hd : decode bs pc = .ok (.invokespecial i, 3)) (hp : pc + 3 = pc') (hr : Go p l e R s m args below meth c n0 Q K N h ce sl (mkF m pc' Ls st)) : Go p l e R s m args below meth c n0 Q K N h ce sl (mkF m pc Ls (.ref a :: st)) := by
  subst hp
  intro T locs X eT Nn
  obtain ⟨T', X', e', stp⟩ := initO X C.1 C.2.2.2.1 C.2.2.2.2.1 w1 w2 w3 eT (g := mkF m pc Ls (.ref a :: st)) rfl (hls.trans C.2.2.1.symm) rfl (hb C.2.1 hd) hf (W := W) (by show 2 * 0 + wt st ≤ W; omega) hl
  obtain ⟨s₂, o, h1, r⟩ := hr T' locs X' e' Nn
  exact ⟨s₂, o, stp _ h1, r⟩
theorem back_of_sat {y : MethodName} {cb : ByteArray} {cm : Nat} {cr : Option FieldType} {rm : Room} {as : List Value} {Qc : Option Value → Heap → Prop} {W len : Nat} (S : Sat l Z y cb cm cr rm as h n0 Qc) (hZ : Z.Warmed39 s.vm) (w3 : (Jvm.Cond.initialized y.cls).before a0 Z = true) (w4 : (Jvm.Cond.code y cb cm cr).before a0 Z = true) (hfr : rm.frames + 1 ≤ R.frames) (hlo : W + (cm + 11) + rm.locals ≤ R.locals) :
    Back l R p e below s args y len W (fun A a => a = as.toArray ∧ A.U.heap = h ∧ A.cells + rm.cells ≤ R.cells ∧ A.slots + rm.slots ≤ R.slots) (fun A _ v B => ∃ L, (Qc v B.U.heap ∧ Fr n0 L) ∧ B.locs = A.locs ++ L ∧ B.cells = A.cells + rm.cells ∧ B.slots = A.slots + rm.slots) :=
  backOf (Q := fun v h L => Qc v h ∧ Fr n0 L) (W := W) (S []) hZ w4 w3 hfr hlo
theorem go_static (C : Cx p s m meth c Z own bs mx rt nm) {y : MethodName} {i : Nat} {cb : ByteArray} {cm : Nat} {cr : Option FieldType} {rm : Room} {as rest : List Value} {W : Nat} {ps : List FieldType} {pr : Option FieldType} {ce' sl' : Nat} {Qc : Option Value → Heap → Prop} (S : Sat l Z y cb cm cr rm as h n0 Qc) (w1 : (Jvm.Cond.methodLink own i y).before a0 Z = true) (w2 : (Jvm.Cond.static y).before a0 Z = true) (w3 : (Jvm.Cond.initialized y.cls).before a0 Z = true) (w4 : (Jvm.Cond.code y cb cm cr).before a0 Z = true) (hy : y.cls ≠ "java/lang/invoke/MethodHandle" ∧ y.cls ≠ "java/lang/invoke/VarHandle") (hpd : parseMethodDescriptor y.desc = some ⟨ps, pr⟩) (hlen : as.length = ps.length) (hls : Ls.size = mx) (hW : wt rest = W) (hfr : rm.frames + 1 ≤ R.frames) (hlo : W + (cm + 11) + rm.locals ≤ R.locals) (hce : ce + rm.cells = ce') (hsl : sl + rm.slots = sl') (hcc : ce' ≤ R.cells) (hss : sl' ≤ R.slots) (hd : decode bs pc = .ok (.invokestatic i, 3)) (hp : pc + 3 = pc') (hst : st = as.reverse ++ rest) (hr : ∀ v h', Qc v h' → Go p l e R s m args below meth c n0 Q K N h' ce' sl' (mkF m pc' Ls (v.toList ++ rest))) : Go p l e R s m args below meth c n0 Q K N h ce sl (mkF m pc Ls st) := by
  subst hp hce hsl
  intro T locs X eT Nn
  have hZ := C.2.2.2.1
  obtain ⟨v, _, ⟨T', L', k', n'⟩, -, X', ⟨Lc, hQ, l', y', z'⟩, stp⟩ := Jvm.LawKit.callS X C.1 (y := y) C.2.2.2.2.1 (mvT hZ w1) (mvT hZ w2) (mvT hZ w3) (mvT hZ w4) hy (back_of_sat S hZ w3 w4 hfr hlo) (g := mkF m pc Ls st) rfl (hls.trans C.2.2.1.symm) (argsL := as) (rest := rest) (lenOf hpd hlen) hst (by show 2 * 0 + wt rest ≤ W; omega) (hb C.2.1 hd) (fun _ _ => ⟨rfl, eT, hcc, hss⟩)
  dsimp only [Pt.U, Pt.locs, Pt.cells, Pt.slots] at X' l' y' z' stp hQ
  subst l' y' z'
  obtain ⟨s₂, o, h1, r⟩ := hr v T'.heap hQ.1 T' _ X' rfl (Fr.app Nn hQ.2)
  exact ⟨s₂, o, stp _ h1, r⟩
theorem go_special (C : Cx p s m meth c Z own bs mx rt nm) {y : MethodName} {i : Nat} {cb : ByteArray} {cm : Nat} {rm : Room} {as rest : List Value} {W : Nat} {ps : List FieldType} {pr : Option FieldType} {ce' sl' : Nat} {a : Addr} {Qc : Option Value → Heap → Prop} (S : Sat l Z y cb cm none rm (.ref a :: as) h n0 Qc) (hyn : y.name = "<init>") (w1 : (Jvm.Cond.methodLink own i y).before a0 Z = true) (w2 : (Jvm.Cond.instanceMethod y).before a0 Z = true) (w3 : (Jvm.Cond.initialized y.cls).before a0 Z = true) (w4 : (Jvm.Cond.code y cb cm none).before a0 Z = true) (hy : y.cls ≠ "java/lang/invoke/MethodHandle" ∧ y.cls ≠ "java/lang/invoke/VarHandle") (hpd : parseMethodDescriptor y.desc = some ⟨ps, pr⟩) (hlen : as.length = ps.length) (hls : Ls.size = mx) (hW : wt rest = W) (hfr : rm.frames + 1 ≤ R.frames) (hlo : W + (cm + 11) + rm.locals ≤ R.locals) (hce : ce + rm.cells = ce') (hsl : sl + rm.slots = sl') (hcc : ce' ≤ R.cells) (hss : sl' ≤ R.slots) (hd : decode bs pc = .ok (.invokespecial i, 3)) (hp : pc + 3 = pc') (hst : st = as.reverse ++ .ref a :: rest) (hr : ∀ v h', Qc v h' → Go p l e R s m args below meth c n0 Q K N h' ce' sl' (mkF m pc' Ls (v.toList ++ rest))) : Go p l e R s m args below meth c n0 Q K N h ce sl (mkF m pc Ls st) := by
  subst hp hce hsl
  intro T locs X eT Nn
  have hZ := C.2.2.2.1
  obtain ⟨v, _, ⟨T', L', k', n'⟩, -, X', ⟨Lc, hQ, l', y', z'⟩, stp⟩ := X.specialBack C.1 (y := y) hyn C.2.2.2.2.1 (mvT hZ w1) (mvT hZ w2) (mvT hZ w4) hy (back_of_sat S hZ w3 w4 hfr hlo) (g := mkF m pc Ls st) rfl (hls.trans C.2.2.1.symm) (Steps.refl _) (a := a) (argsL := as) (rest := rest) (lenOf hpd hlen) hst (by show 2 * 0 + wt rest ≤ W; omega) (hb C.2.1 hd) (fun _ _ => ⟨rfl, eT, hcc, hss⟩)
  dsimp only [Pt.U, Pt.locs, Pt.cells, Pt.slots] at X' l' y' z' stp hQ
  subst l' y' z'
  obtain ⟨s₂, o, h1, r⟩ := hr v T'.heap hQ.1 T' _ X' rfl (Fr.app Nn hQ.2)
  exact ⟨s₂, o, stp.trans h1, r⟩
theorem go_virtual (C : Cx p s m meth c Z own bs mx rt nm) {y : MethodName} {i : Nat} {cb : ByteArray} {cm : Nat} {cr : Option FieldType} {rm : Room} {as rest : List Value} {W : Nat} {ps : List FieldType} {pr : Option FieldType} {ce' sl' : Nat} {a : Addr} {C0 : String} {Qc : Option Value → Heap → Prop} (S : Sat l Z y cb cm cr rm (.ref a :: as) h n0 Qc) (E : Exa Z h a C0) (w1 : (Jvm.Cond.methodLink own i y).before a0 Z = true) (w5 : (Jvm.Cond.declares y).before a0 Z = true) (w6 : (Jvm.Cond.selects C0 y y).before a0 Z = true) (w2 : (Jvm.Cond.instanceMethod y).before a0 Z = true) (w3 : (Jvm.Cond.initialized y.cls).before a0 Z = true) (w4 : (Jvm.Cond.code y cb cm cr).before a0 Z = true) (hy : y.cls ≠ "java/lang/invoke/MethodHandle" ∧ y.cls ≠ "java/lang/invoke/VarHandle") (hpd : parseMethodDescriptor y.desc = some ⟨ps, pr⟩) (hlen : as.length = ps.length) (hls : Ls.size = mx) (hW : wt rest = W) (hfr : rm.frames + 1 ≤ R.frames) (hlo : W + (cm + 11) + rm.locals ≤ R.locals) (hce : ce + rm.cells = ce') (hsl : sl + rm.slots = sl') (hcc : ce' ≤ R.cells) (hss : sl' ≤ R.slots) (hd : decode bs pc = .ok (.invokevirtual i, 3)) (hp : pc + 3 = pc') (hst : st = as.reverse ++ .ref a :: rest) (hr : ∀ v h', Qc v h' → Go p l e R s m args below meth c n0 Q K N h' ce' sl' (mkF m pc' Ls (v.toList ++ rest))) : Go p l e R s m args below meth c n0 Q K N h ce sl (mkF m pc Ls st) := by
  subst hp hce hsl
  intro T locs X eT Nn
  have hZ := C.2.2.2.1
  obtain ⟨cq, kq, qa, qb, qc⟩ := isOf hZ eT E
  obtain ⟨v, _, ⟨T', L', k', n'⟩, -, X', ⟨Lc, hQ, l', y', z'⟩, stp⟩ := X.virtualBack C.1 (y := y) (z := y) C.2.2.2.2.1 (mvT hZ w1) (mvT hZ w5) (notFace_of_selects (args := #[]) (mvT hZ w6)) (mvT hZ w6) (mvT hZ w2) hy (back_of_sat S hZ w3 w4 hfr hlo) qa qc (g := mkF m pc Ls st) rfl (hls.trans C.2.2.1.symm) (Steps.refl _) (argsL := as) (rest := rest) (lenOf hpd hlen) hst (by show 2 * 0 + wt rest ≤ W; omega) (hb C.2.1 hd) (fun _ _ => ⟨rfl, eT, hcc, hss⟩)
  dsimp only [Pt.U, Pt.locs, Pt.cells, Pt.slots] at X' l' y' z' stp hQ
  subst l' y' z'
  obtain ⟨s₂, o, h1, r⟩ := hr v T'.heap hQ.1 T' _ X' rfl (Fr.app Nn hQ.2)
  exact ⟨s₂, o, stp.trans h1, r⟩
theorem go_private (C : Cx p s m meth c Z own bs mx rt nm) {y : MethodName} {i : Nat} {cb : ByteArray} {cm : Nat} {cr : Option FieldType} {rm : Room} {as rest : List Value} {W : Nat} {ps : List FieldType} {pr : Option FieldType} {ce' sl' : Nat} {a : Addr} {C0 : String} {Qc : Option Value → Heap → Prop} (S : Sat l Z y cb cm cr rm (.ref a :: as) h n0 Qc) (E : Exa Z h a C0) (w1 : (Jvm.Cond.methodLink own i y).before a0 Z = true) (w5 : (Jvm.Cond.privateMethod y).before a0 Z = true) (w6 : (Jvm.Cond.selects y.cls y y).before a0 Z = true) (w2 : (Jvm.Cond.instanceMethod y).before a0 Z = true) (w3 : (Jvm.Cond.initialized y.cls).before a0 Z = true) (w4 : (Jvm.Cond.code y cb cm cr).before a0 Z = true) (hy : y.cls ≠ "java/lang/invoke/MethodHandle" ∧ y.cls ≠ "java/lang/invoke/VarHandle") (hpd : parseMethodDescriptor y.desc = some ⟨ps, pr⟩) (hlen : as.length = ps.length) (hls : Ls.size = mx) (hW : wt rest = W) (hfr : rm.frames + 1 ≤ R.frames) (hlo : W + (cm + 11) + rm.locals ≤ R.locals) (hce : ce + rm.cells = ce') (hsl : sl + rm.slots = sl') (hcc : ce' ≤ R.cells) (hss : sl' ≤ R.slots) (hd : decode bs pc = .ok (.invokevirtual i, 3)) (hp : pc + 3 = pc') (hst : st = as.reverse ++ .ref a :: rest) (hr : ∀ v h', Qc v h' → Go p l e R s m args below meth c n0 Q K N h' ce' sl' (mkF m pc' Ls (v.toList ++ rest))) : Go p l e R s m args below meth c n0 Q K N h ce sl (mkF m pc Ls st) := by
  subst hp hce hsl
  intro T locs X eT Nn
  have hZ := C.2.2.2.1
  obtain ⟨cell, hc1, hc2⟩ := E.cell
  obtain ⟨v, _, ⟨T', L', k', n'⟩, -, X', ⟨Lc, hQ, l', y', z'⟩, stp⟩ := X.privateBack C.1 (y := y) C.2.2.2.2.1 (mvT hZ w1) (mvT hZ w2) (mvT hZ w6) (Cond.privateMethod_at (args := #[]) (mvP hZ w5)) (mvT hZ w4) hy (back_of_sat S hZ w3 w4 hfr hlo) (g := mkF m pc Ls st) rfl (hls.trans C.2.2.1.symm) (Steps.refl _) (a := a) (by rw [eT]; exact hc1) hc2 (argsL := as) (rest := rest) (lenOf hpd hlen) hst (by show 2 * 0 + wt rest ≤ W; omega) (hb C.2.1 hd) (fun _ _ => ⟨rfl, eT, hcc, hss⟩)
  dsimp only [Pt.U, Pt.locs, Pt.cells, Pt.slots] at X' l' y' z' stp hQ
  subst l' y' z'
  obtain ⟨s₂, o, h1, r⟩ := hr v T'.heap hQ.1 T' _ X' rfl (Fr.app Nn hQ.2)
  exact ⟨s₂, o, stp.trans h1, r⟩
theorem own_selects_private {y : MethodName} {k : Nat} (wi : (Jvm.Cond.instantiable y.cls k).before a0 Z = true) (wp : (Jvm.Cond.privateMethod y).before a0 Z = true) (wm : (Jvm.Cond.instanceMethod y).before a0 Z = true) (hy : y.cls ≠ "java/lang/invoke/MethodHandle" ∧ y.cls ≠ "java/lang/invoke/VarHandle") : (Jvm.Cond.selects y.cls y y).before a0 Z = true := by
  obtain ⟨mk, methM, hnamed, hmethM, hstM, habM⟩ := Cond.instanceMethod_spec wm
  obtain ⟨c1, k1, q1, q2, q3, q4, -⟩ := Cond.instantiable_spec wi
  have hc := findClass_of_methodNamed hnamed
  cases q1.symm.trans hc
  have hf := State.methodFound?_of_named hnamed hy
  have hs : selectMethod {} Z.vm mk.cls mk = .method mk := selectMethod_private hmethM (Cond.privateMethod_at wp mk methM hnamed hmethM)
  have hi : k1.isInterface = false := by
    cases h : k1.isInterface
    · rfl
    · rw [h] at q4; simp at q4
  simp [Cond.before, Cond.holds, Cond.value, hc, hf, hnamed, hs, q2, hi]
theorem go_specialW (C : Cx p s m meth c Z own bs mx rt nm) {y : MethodName} {i : Nat} {cb : ByteArray} {cm : Nat} {rm : Room} {as rest : List Value} {W : Nat} {ps : List FieldType} {pr : Option FieldType} {ce' sl' : Nat} {a : Addr} {Qc : Option Value → Heap → Prop} (S : Sat l Z y cb cm none rm (.ref a :: as) h n0 Qc) (hyn : y.name = "<init>") (w1 : (Jvm.Cond.methodRef own i y).before a0 Z = true) (w2 : (Jvm.Cond.instanceMethod y).before a0 Z = true) (w3 : (Jvm.Cond.initialized y.cls).before a0 Z = true) (w4 : (Jvm.Cond.code y cb cm none).before a0 Z = true) (hy : y.cls ≠ "java/lang/invoke/MethodHandle" ∧ y.cls ≠ "java/lang/invoke/VarHandle") (hpd : parseMethodDescriptor y.desc = some ⟨ps, pr⟩) (hlen : as.length = ps.length) (hls : Ls.size = mx) (hW : wt rest = W) (hfr : rm.frames + 1 ≤ R.frames) (hlo : W + (cm + 11) + rm.locals ≤ R.locals) (hce : ce + rm.cells = ce') (hsl : sl + rm.slots = sl') (hcc : ce' ≤ R.cells) (hss : sl' ≤ R.slots) (hd : decode bs pc = .ok (.invokespecial i, 3)) (hp : pc + 3 = pc') (hst : st = as.reverse ++ .ref a :: rest) (hr : ∀ v h', Qc v h' → Go p l e R s m args below meth c n0 Q K N h' ce' sl' (mkF m pc' Ls (v.toList ++ rest))) : Go p l e R s m args below meth c n0 Q K N h ce sl (mkF m pc Ls st) := by
  subst hp hce hsl
  intro T locs X eT Nn
  have hZ := C.2.2.2.1
  have hT : Z.Warmed39 T.vm := wtrans hZ X.warmed
  obtain ⟨mZ, _, hnZ, -⟩ := Cond.instanceMethod_spec w2
  have w1T : (Jvm.Cond.methodRef own i y).before a0 T = true := (Cond.methodRef_warmed39 hT hnZ hy w1 :)
  obtain ⟨mO, methO, hnO, hmO, hstO, habO⟩ := Cond.instanceMethod_spec (mv (args := a0) hT w2)
  obtain ⟨methO', cO, hmO', hcO, hbO, hlO, -, hlockO, -, hsigO⟩ := Cond.code_spec hnO (mv (args := a0) hT w4)
  cases hmO.symm.trans hmO'
  obtain ⟨kO, hkO, hnameO⟩ := className_of_methodNamed hnO
  obtain ⟨hnameMO, hdescO⟩ := name_of_methodNamed hnO hmO
  have hownT : T.vm.findClass own = some m.cls := by rw [X.warmed.alike.findClass]; exact C.2.2.2.2.1
  obtain ⟨m', c', hf', hready, hfc, hnr⟩ := Cond.methodRef_named e hownT w1T
  have e1 : m' = mO := Option.some.inj (hf'.symm.trans (State.methodFound?_of_named hnO hy))
  subst e1
  have e2 : c' = m'.cls := Option.some.inj (hfc.symm.trans (findClass_of_methodNamed hnO))
  subst e2
  have hfound : lookupSpecial T.vm m'.cls "<init>" methO.desc = .method m' := by rw [hdescO, ← hyn]; exact lookupSpecial_of_named hnO hmO hstO
  have hstep : ∀ target, (∀ acts, Steps p.tables e below (doInvoke e (T.setTop { mkF m pc Ls st with stack := rest }) acts m' (.ref a :: as).toArray).1 target) → Steps p.tables e below (T.setTop (mkF m pc Ls st)) target := fun target hrest => by
    jvm_step X.here [C.1, (hb C.2.1 hd), invokespecial.wp_init (e := e) (s := T) (k := kO) (meth := methO) (m := m') (a := a) (args := as) (rest := rest) (f := mkF m pc Ls st) X.here.top hnr hready hkO hmO (by rw [hnameMO]; exact hyn) hstO habO hfound (lenOf hpd hlen _ hsigO) hst]
    exact hrest
  have B := back_of_sat (p := p) (e := e) (below := below) (args := args) (R := R) (len := 3) S hZ w3 w4 hfr hlo
  obtain ⟨v, ⟨T', L', k', n'⟩, X', ⟨Lc, hQ, l', y', z'⟩, stp⟩ := B m meth c ⟨T, locs, ce, sl⟩ { mkF m pc Ls st with stack := rest } (.invokespecial i) m' (.ref a :: as).toArray X rfl (hls.trans C.2.2.1.symm) (hb C.2.1 hd) (by show 2 * 0 + wt rest ≤ W; omega) hnO ⟨rfl, eT, hcc, hss⟩
  dsimp only [Pt.U, Pt.locs, Pt.cells, Pt.slots] at X' l' y' z' stp hQ
  subst l' y' z'
  obtain ⟨s₂, o, h1, r⟩ := hr v T'.heap hQ.1 T' _ X' rfl (Fr.app Nn hQ.2)
  exact ⟨s₂, o, (hstep _ (fun acts => by rw [doInvoke_state]; exact Steps.refl _)).trans (stp.trans h1), r⟩
theorem go_staticP (C : Cx p s m meth c Z own bs mx rt nm) {y : MethodName} {i : Nat} {cb : ByteArray} {cm : Nat} {cr : Option FieldType} {rm : Room} {as rest : List Value} {W : Nat} {ps : List FieldType} {pr : Option FieldType}  (v : Value) (S : Sat l Z y cb cm cr rm as h n0 (RV fun r h' => r = v ∧ h' = h)) (w1 : (Jvm.Cond.methodLink own i y).before a0 Z = true) (w2 : (Jvm.Cond.static y).before a0 Z = true) (w3 : (Jvm.Cond.initialized y.cls).before a0 Z = true) (w4 : (Jvm.Cond.code y cb cm cr).before a0 Z = true) (hy : y.cls ≠ "java/lang/invoke/MethodHandle" ∧ y.cls ≠ "java/lang/invoke/VarHandle") (hpd : parseMethodDescriptor y.desc = some ⟨ps, pr⟩) (hlen : as.length = ps.length) (hls : Ls.size = mx) (hW : wt rest = W) (hfr : rm.frames + 1 ≤ R.frames) (hlo : W + (cm + 11) + rm.locals ≤ R.locals) (hce : rm.cells = 0) (hsl : rm.slots = 0) (hcc : ce ≤ R.cells) (hss : sl ≤ R.slots) (hd : decode bs pc = .ok (.invokestatic i, 3)) (hp : pc + 3 = pc') (hst : st = as.reverse ++ rest) (hr : Go p l e R s m args below meth c n0 Q K N h ce sl (mkF m pc' Ls (v :: rest))) : Go p l e R s m args below meth c n0 Q K N h ce sl (mkF m pc Ls st) :=
  go_static C S w1 w2 w3 w4 hy hpd hlen hls hW hfr hlo (by rw [hce]; rfl) (by rw [hsl]; rfl) hcc hss hd hp hst (fun w h' hq => by obtain ⟨r, rfl, q1, q2⟩ := hq; rw [q1, q2]; exact hr)
theorem go_staticV (C : Cx p s m meth c Z own bs mx rt nm) {y : MethodName} {i : Nat} {cb : ByteArray} {cm : Nat} {cr : Option FieldType} {rm : Room} {as rest : List Value} {W : Nat} {ps : List FieldType} {pr : Option FieldType} {ce' sl' : Nat}  {P : Value → Heap → Prop} (S : Sat l Z y cb cm cr rm as h n0 (RV P)) (w1 : (Jvm.Cond.methodLink own i y).before a0 Z = true) (w2 : (Jvm.Cond.static y).before a0 Z = true) (w3 : (Jvm.Cond.initialized y.cls).before a0 Z = true) (w4 : (Jvm.Cond.code y cb cm cr).before a0 Z = true) (hy : y.cls ≠ "java/lang/invoke/MethodHandle" ∧ y.cls ≠ "java/lang/invoke/VarHandle") (hpd : parseMethodDescriptor y.desc = some ⟨ps, pr⟩) (hlen : as.length = ps.length) (hls : Ls.size = mx) (hW : wt rest = W) (hfr : rm.frames + 1 ≤ R.frames) (hlo : W + (cm + 11) + rm.locals ≤ R.locals) (hce : ce + rm.cells = ce') (hsl : sl + rm.slots = sl') (hcc : ce' ≤ R.cells) (hss : sl' ≤ R.slots) (hd : decode bs pc = .ok (.invokestatic i, 3)) (hp : pc + 3 = pc') (hst : st = as.reverse ++ rest) (hr : ∀ r h', P r h' → Go p l e R s m args below meth c n0 Q K N h' ce' sl' (mkF m pc' Ls (r :: rest))) : Go p l e R s m args below meth c n0 Q K N h ce sl (mkF m pc Ls st) :=
  go_static C S w1 w2 w3 w4 hy hpd hlen hls hW hfr hlo hce hsl hcc hss hd hp hst (fun v h' hq => by obtain ⟨r, rfl, q⟩ := hq; exact hr r h' q)
theorem go_staticN (C : Cx p s m meth c Z own bs mx rt nm) {y : MethodName} {i : Nat} {cb : ByteArray} {cm : Nat} {cr : Option FieldType} {rm : Room} {as rest : List Value} {W : Nat} {ps : List FieldType} {pr : Option FieldType} {ce' sl' : Nat}  {P : Heap → Prop} (S : Sat l Z y cb cm cr rm as h n0 (RN P)) (w1 : (Jvm.Cond.methodLink own i y).before a0 Z = true) (w2 : (Jvm.Cond.static y).before a0 Z = true) (w3 : (Jvm.Cond.initialized y.cls).before a0 Z = true) (w4 : (Jvm.Cond.code y cb cm cr).before a0 Z = true) (hy : y.cls ≠ "java/lang/invoke/MethodHandle" ∧ y.cls ≠ "java/lang/invoke/VarHandle") (hpd : parseMethodDescriptor y.desc = some ⟨ps, pr⟩) (hlen : as.length = ps.length) (hls : Ls.size = mx) (hW : wt rest = W) (hfr : rm.frames + 1 ≤ R.frames) (hlo : W + (cm + 11) + rm.locals ≤ R.locals) (hce : ce + rm.cells = ce') (hsl : sl + rm.slots = sl') (hcc : ce' ≤ R.cells) (hss : sl' ≤ R.slots) (hd : decode bs pc = .ok (.invokestatic i, 3)) (hp : pc + 3 = pc') (hst : st = as.reverse ++ rest) (hr : ∀ h', P h' → Go p l e R s m args below meth c n0 Q K N h' ce' sl' (mkF m pc' Ls rest)) : Go p l e R s m args below meth c n0 Q K N h ce sl (mkF m pc Ls st) :=
  go_static C S w1 w2 w3 w4 hy hpd hlen hls hW hfr hlo hce hsl hcc hss hd hp hst (fun v h' hq => by obtain ⟨rfl, q⟩ := hq; exact hr h' q)
theorem go_virtualP (C : Cx p s m meth c Z own bs mx rt nm) {y : MethodName} {i : Nat} {cb : ByteArray} {cm : Nat} {cr : Option FieldType} {rm : Room} {as rest : List Value} {W : Nat} {ps : List FieldType} {pr : Option FieldType} {a : Addr} {C0 : String} (v : Value) (S : Sat l Z y cb cm cr rm (.ref a :: as) h n0 (RV fun r h' => r = v ∧ h' = h)) (E : Exa Z h a C0) (w1 : (Jvm.Cond.methodLink own i y).before a0 Z = true) (w5 : (Jvm.Cond.declares y).before a0 Z = true) (w6 : (Jvm.Cond.selects C0 y y).before a0 Z = true) (w2 : (Jvm.Cond.instanceMethod y).before a0 Z = true) (w3 : (Jvm.Cond.initialized y.cls).before a0 Z = true) (w4 : (Jvm.Cond.code y cb cm cr).before a0 Z = true) (hy : y.cls ≠ "java/lang/invoke/MethodHandle" ∧ y.cls ≠ "java/lang/invoke/VarHandle") (hpd : parseMethodDescriptor y.desc = some ⟨ps, pr⟩) (hlen : as.length = ps.length) (hls : Ls.size = mx) (hW : wt rest = W) (hfr : rm.frames + 1 ≤ R.frames) (hlo : W + (cm + 11) + rm.locals ≤ R.locals) (hce : rm.cells = 0) (hsl : rm.slots = 0) (hcc : ce ≤ R.cells) (hss : sl ≤ R.slots) (hd : decode bs pc = .ok (.invokevirtual i, 3)) (hp : pc + 3 = pc') (hst : st = as.reverse ++ .ref a :: rest) (hr : Go p l e R s m args below meth c n0 Q K N h ce sl (mkF m pc' Ls (v :: rest))) : Go p l e R s m args below meth c n0 Q K N h ce sl (mkF m pc Ls st) :=
  go_virtual C S E w1 w5 w6 w2 w3 w4 hy hpd hlen hls hW hfr hlo (by rw [hce]; rfl) (by rw [hsl]; rfl) hcc hss hd hp hst (fun w h' hq => by obtain ⟨r, rfl, q1, q2⟩ := hq; rw [q1, q2]; exact hr)
theorem go_virtualV (C : Cx p s m meth c Z own bs mx rt nm) {y : MethodName} {i : Nat} {cb : ByteArray} {cm : Nat} {cr : Option FieldType} {rm : Room} {as rest : List Value} {W : Nat} {ps : List FieldType} {pr : Option FieldType} {ce' sl' : Nat} {a : Addr} {C0 : String} {P : Value → Heap → Prop} (S : Sat l Z y cb cm cr rm (.ref a :: as) h n0 (RV P)) (E : Exa Z h a C0) (w1 : (Jvm.Cond.methodLink own i y).before a0 Z = true) (w5 : (Jvm.Cond.declares y).before a0 Z = true) (w6 : (Jvm.Cond.selects C0 y y).before a0 Z = true) (w2 : (Jvm.Cond.instanceMethod y).before a0 Z = true) (w3 : (Jvm.Cond.initialized y.cls).before a0 Z = true) (w4 : (Jvm.Cond.code y cb cm cr).before a0 Z = true) (hy : y.cls ≠ "java/lang/invoke/MethodHandle" ∧ y.cls ≠ "java/lang/invoke/VarHandle") (hpd : parseMethodDescriptor y.desc = some ⟨ps, pr⟩) (hlen : as.length = ps.length) (hls : Ls.size = mx) (hW : wt rest = W) (hfr : rm.frames + 1 ≤ R.frames) (hlo : W + (cm + 11) + rm.locals ≤ R.locals) (hce : ce + rm.cells = ce') (hsl : sl + rm.slots = sl') (hcc : ce' ≤ R.cells) (hss : sl' ≤ R.slots) (hd : decode bs pc = .ok (.invokevirtual i, 3)) (hp : pc + 3 = pc') (hst : st = as.reverse ++ .ref a :: rest) (hr : ∀ r h', P r h' → Go p l e R s m args below meth c n0 Q K N h' ce' sl' (mkF m pc' Ls (r :: rest))) : Go p l e R s m args below meth c n0 Q K N h ce sl (mkF m pc Ls st) :=
  go_virtual C S E w1 w5 w6 w2 w3 w4 hy hpd hlen hls hW hfr hlo hce hsl hcc hss hd hp hst (fun v h' hq => by obtain ⟨r, rfl, q⟩ := hq; exact hr r h' q)
theorem go_virtualN (C : Cx p s m meth c Z own bs mx rt nm) {y : MethodName} {i : Nat} {cb : ByteArray} {cm : Nat} {cr : Option FieldType} {rm : Room} {as rest : List Value} {W : Nat} {ps : List FieldType} {pr : Option FieldType} {ce' sl' : Nat} {a : Addr} {C0 : String} {P : Heap → Prop} (S : Sat l Z y cb cm cr rm (.ref a :: as) h n0 (RN P)) (E : Exa Z h a C0) (w1 : (Jvm.Cond.methodLink own i y).before a0 Z = true) (w5 : (Jvm.Cond.declares y).before a0 Z = true) (w6 : (Jvm.Cond.selects C0 y y).before a0 Z = true) (w2 : (Jvm.Cond.instanceMethod y).before a0 Z = true) (w3 : (Jvm.Cond.initialized y.cls).before a0 Z = true) (w4 : (Jvm.Cond.code y cb cm cr).before a0 Z = true) (hy : y.cls ≠ "java/lang/invoke/MethodHandle" ∧ y.cls ≠ "java/lang/invoke/VarHandle") (hpd : parseMethodDescriptor y.desc = some ⟨ps, pr⟩) (hlen : as.length = ps.length) (hls : Ls.size = mx) (hW : wt rest = W) (hfr : rm.frames + 1 ≤ R.frames) (hlo : W + (cm + 11) + rm.locals ≤ R.locals) (hce : ce + rm.cells = ce') (hsl : sl + rm.slots = sl') (hcc : ce' ≤ R.cells) (hss : sl' ≤ R.slots) (hd : decode bs pc = .ok (.invokevirtual i, 3)) (hp : pc + 3 = pc') (hst : st = as.reverse ++ .ref a :: rest) (hr : ∀ h', P h' → Go p l e R s m args below meth c n0 Q K N h' ce' sl' (mkF m pc' Ls rest)) : Go p l e R s m args below meth c n0 Q K N h ce sl (mkF m pc Ls st) :=
  go_virtual C S E w1 w5 w6 w2 w3 w4 hy hpd hlen hls hW hfr hlo hce hsl hcc hss hd hp hst (fun v h' hq => by obtain ⟨rfl, q⟩ := hq; exact hr h' q)
theorem go_privateP (C : Cx p s m meth c Z own bs mx rt nm) {y : MethodName} {i : Nat} {cb : ByteArray} {cm : Nat} {cr : Option FieldType} {rm : Room} {as rest : List Value} {W : Nat} {ps : List FieldType} {pr : Option FieldType} {a : Addr} {C0 : String} (v : Value) (S : Sat l Z y cb cm cr rm (.ref a :: as) h n0 (RV fun r h' => r = v ∧ h' = h)) (E : Exa Z h a C0) (w1 : (Jvm.Cond.methodLink own i y).before a0 Z = true) (w5 : (Jvm.Cond.privateMethod y).before a0 Z = true) (w6 : (Jvm.Cond.selects y.cls y y).before a0 Z = true) (w2 : (Jvm.Cond.instanceMethod y).before a0 Z = true) (w3 : (Jvm.Cond.initialized y.cls).before a0 Z = true) (w4 : (Jvm.Cond.code y cb cm cr).before a0 Z = true) (hy : y.cls ≠ "java/lang/invoke/MethodHandle" ∧ y.cls ≠ "java/lang/invoke/VarHandle") (hpd : parseMethodDescriptor y.desc = some ⟨ps, pr⟩) (hlen : as.length = ps.length) (hls : Ls.size = mx) (hW : wt rest = W) (hfr : rm.frames + 1 ≤ R.frames) (hlo : W + (cm + 11) + rm.locals ≤ R.locals) (hce : rm.cells = 0) (hsl : rm.slots = 0) (hcc : ce ≤ R.cells) (hss : sl ≤ R.slots) (hd : decode bs pc = .ok (.invokevirtual i, 3)) (hp : pc + 3 = pc') (hst : st = as.reverse ++ .ref a :: rest) (hr : Go p l e R s m args below meth c n0 Q K N h ce sl (mkF m pc' Ls (v :: rest))) : Go p l e R s m args below meth c n0 Q K N h ce sl (mkF m pc Ls st) :=
  go_private C S E w1 w5 w6 w2 w3 w4 hy hpd hlen hls hW hfr hlo (by rw [hce]; rfl) (by rw [hsl]; rfl) hcc hss hd hp hst (fun w h' hq => by obtain ⟨r, rfl, q1, q2⟩ := hq; rw [q1, q2]; exact hr)
theorem go_privateV (C : Cx p s m meth c Z own bs mx rt nm) {y : MethodName} {i : Nat} {cb : ByteArray} {cm : Nat} {cr : Option FieldType} {rm : Room} {as rest : List Value} {W : Nat} {ps : List FieldType} {pr : Option FieldType} {ce' sl' : Nat} {a : Addr} {C0 : String} {P : Value → Heap → Prop} (S : Sat l Z y cb cm cr rm (.ref a :: as) h n0 (RV P)) (E : Exa Z h a C0) (w1 : (Jvm.Cond.methodLink own i y).before a0 Z = true) (w5 : (Jvm.Cond.privateMethod y).before a0 Z = true) (w6 : (Jvm.Cond.selects y.cls y y).before a0 Z = true) (w2 : (Jvm.Cond.instanceMethod y).before a0 Z = true) (w3 : (Jvm.Cond.initialized y.cls).before a0 Z = true) (w4 : (Jvm.Cond.code y cb cm cr).before a0 Z = true) (hy : y.cls ≠ "java/lang/invoke/MethodHandle" ∧ y.cls ≠ "java/lang/invoke/VarHandle") (hpd : parseMethodDescriptor y.desc = some ⟨ps, pr⟩) (hlen : as.length = ps.length) (hls : Ls.size = mx) (hW : wt rest = W) (hfr : rm.frames + 1 ≤ R.frames) (hlo : W + (cm + 11) + rm.locals ≤ R.locals) (hce : ce + rm.cells = ce') (hsl : sl + rm.slots = sl') (hcc : ce' ≤ R.cells) (hss : sl' ≤ R.slots) (hd : decode bs pc = .ok (.invokevirtual i, 3)) (hp : pc + 3 = pc') (hst : st = as.reverse ++ .ref a :: rest) (hr : ∀ r h', P r h' → Go p l e R s m args below meth c n0 Q K N h' ce' sl' (mkF m pc' Ls (r :: rest))) : Go p l e R s m args below meth c n0 Q K N h ce sl (mkF m pc Ls st) :=
  go_private C S E w1 w5 w6 w2 w3 w4 hy hpd hlen hls hW hfr hlo hce hsl hcc hss hd hp hst (fun v h' hq => by obtain ⟨r, rfl, q⟩ := hq; exact hr r h' q)
theorem go_privateN (C : Cx p s m meth c Z own bs mx rt nm) {y : MethodName} {i : Nat} {cb : ByteArray} {cm : Nat} {cr : Option FieldType} {rm : Room} {as rest : List Value} {W : Nat} {ps : List FieldType} {pr : Option FieldType} {ce' sl' : Nat} {a : Addr} {C0 : String} {P : Heap → Prop} (S : Sat l Z y cb cm cr rm (.ref a :: as) h n0 (RN P)) (E : Exa Z h a C0) (w1 : (Jvm.Cond.methodLink own i y).before a0 Z = true) (w5 : (Jvm.Cond.privateMethod y).before a0 Z = true) (w6 : (Jvm.Cond.selects y.cls y y).before a0 Z = true) (w2 : (Jvm.Cond.instanceMethod y).before a0 Z = true) (w3 : (Jvm.Cond.initialized y.cls).before a0 Z = true) (w4 : (Jvm.Cond.code y cb cm cr).before a0 Z = true) (hy : y.cls ≠ "java/lang/invoke/MethodHandle" ∧ y.cls ≠ "java/lang/invoke/VarHandle") (hpd : parseMethodDescriptor y.desc = some ⟨ps, pr⟩) (hlen : as.length = ps.length) (hls : Ls.size = mx) (hW : wt rest = W) (hfr : rm.frames + 1 ≤ R.frames) (hlo : W + (cm + 11) + rm.locals ≤ R.locals) (hce : ce + rm.cells = ce') (hsl : sl + rm.slots = sl') (hcc : ce' ≤ R.cells) (hss : sl' ≤ R.slots) (hd : decode bs pc = .ok (.invokevirtual i, 3)) (hp : pc + 3 = pc') (hst : st = as.reverse ++ .ref a :: rest) (hr : ∀ h', P h' → Go p l e R s m args below meth c n0 Q K N h' ce' sl' (mkF m pc' Ls rest)) : Go p l e R s m args below meth c n0 Q K N h ce sl (mkF m pc Ls st) :=
  go_private C S E w1 w5 w6 w2 w3 w4 hy hpd hlen hls hW hfr hlo hce hsl hcc hss hd hp hst (fun v h' hq => by obtain ⟨rfl, q⟩ := hq; exact hr h' q)
theorem go_specialV (C : Cx p s m meth c Z own bs mx rt nm) {y : MethodName} {i : Nat} {cb : ByteArray} {cm : Nat} {rm : Room} {as rest : List Value} {W : Nat} {ps : List FieldType} {pr : Option FieldType} {ce' sl' : Nat} {a : Addr} {P : Value → Heap → Prop} (S : Sat l Z y cb cm none rm (.ref a :: as) h n0 (RV P)) (hyn : y.name = "<init>") (w1 : (Jvm.Cond.methodLink own i y).before a0 Z = true) (w2 : (Jvm.Cond.instanceMethod y).before a0 Z = true) (w3 : (Jvm.Cond.initialized y.cls).before a0 Z = true) (w4 : (Jvm.Cond.code y cb cm none).before a0 Z = true) (hy : y.cls ≠ "java/lang/invoke/MethodHandle" ∧ y.cls ≠ "java/lang/invoke/VarHandle") (hpd : parseMethodDescriptor y.desc = some ⟨ps, pr⟩) (hlen : as.length = ps.length) (hls : Ls.size = mx) (hW : wt rest = W) (hfr : rm.frames + 1 ≤ R.frames) (hlo : W + (cm + 11) + rm.locals ≤ R.locals) (hce : ce + rm.cells = ce') (hsl : sl + rm.slots = sl') (hcc : ce' ≤ R.cells) (hss : sl' ≤ R.slots) (hd : decode bs pc = .ok (.invokespecial i, 3)) (hp : pc + 3 = pc') (hst : st = as.reverse ++ .ref a :: rest) (hr : ∀ r h', P r h' → Go p l e R s m args below meth c n0 Q K N h' ce' sl' (mkF m pc' Ls (r :: rest))) : Go p l e R s m args below meth c n0 Q K N h ce sl (mkF m pc Ls st) :=
  go_special C S hyn w1 w2 w3 w4 hy hpd hlen hls hW hfr hlo hce hsl hcc hss hd hp hst (fun v h' hq => by obtain ⟨r, rfl, q⟩ := hq; exact hr r h' q)
theorem go_specialN (C : Cx p s m meth c Z own bs mx rt nm) {y : MethodName} {i : Nat} {cb : ByteArray} {cm : Nat} {rm : Room} {as rest : List Value} {W : Nat} {ps : List FieldType} {pr : Option FieldType} {ce' sl' : Nat} {a : Addr} {P : Heap → Prop} (S : Sat l Z y cb cm none rm (.ref a :: as) h n0 (RN P)) (hyn : y.name = "<init>") (w1 : (Jvm.Cond.methodLink own i y).before a0 Z = true) (w2 : (Jvm.Cond.instanceMethod y).before a0 Z = true) (w3 : (Jvm.Cond.initialized y.cls).before a0 Z = true) (w4 : (Jvm.Cond.code y cb cm none).before a0 Z = true) (hy : y.cls ≠ "java/lang/invoke/MethodHandle" ∧ y.cls ≠ "java/lang/invoke/VarHandle") (hpd : parseMethodDescriptor y.desc = some ⟨ps, pr⟩) (hlen : as.length = ps.length) (hls : Ls.size = mx) (hW : wt rest = W) (hfr : rm.frames + 1 ≤ R.frames) (hlo : W + (cm + 11) + rm.locals ≤ R.locals) (hce : ce + rm.cells = ce') (hsl : sl + rm.slots = sl') (hcc : ce' ≤ R.cells) (hss : sl' ≤ R.slots) (hd : decode bs pc = .ok (.invokespecial i, 3)) (hp : pc + 3 = pc') (hst : st = as.reverse ++ .ref a :: rest) (hr : ∀ h', P h' → Go p l e R s m args below meth c n0 Q K N h' ce' sl' (mkF m pc' Ls rest)) : Go p l e R s m args below meth c n0 Q K N h ce sl (mkF m pc Ls st) :=
  go_special C S hyn w1 w2 w3 w4 hy hpd hlen hls hW hfr hlo hce hsl hcc hss hd hp hst (fun v h' hq => by obtain ⟨rfl, q⟩ := hq; exact hr h' q)
theorem go_specialWV (C : Cx p s m meth c Z own bs mx rt nm) {y : MethodName} {i : Nat} {cb : ByteArray} {cm : Nat} {rm : Room} {as rest : List Value} {W : Nat} {ps : List FieldType} {pr : Option FieldType} {ce' sl' : Nat} {a : Addr} {P : Value → Heap → Prop} (S : Sat l Z y cb cm none rm (.ref a :: as) h n0 (RV P)) (hyn : y.name = "<init>") (w1 : (Jvm.Cond.methodRef own i y).before a0 Z = true) (w2 : (Jvm.Cond.instanceMethod y).before a0 Z = true) (w3 : (Jvm.Cond.initialized y.cls).before a0 Z = true) (w4 : (Jvm.Cond.code y cb cm none).before a0 Z = true) (hy : y.cls ≠ "java/lang/invoke/MethodHandle" ∧ y.cls ≠ "java/lang/invoke/VarHandle") (hpd : parseMethodDescriptor y.desc = some ⟨ps, pr⟩) (hlen : as.length = ps.length) (hls : Ls.size = mx) (hW : wt rest = W) (hfr : rm.frames + 1 ≤ R.frames) (hlo : W + (cm + 11) + rm.locals ≤ R.locals) (hce : ce + rm.cells = ce') (hsl : sl + rm.slots = sl') (hcc : ce' ≤ R.cells) (hss : sl' ≤ R.slots) (hd : decode bs pc = .ok (.invokespecial i, 3)) (hp : pc + 3 = pc') (hst : st = as.reverse ++ .ref a :: rest) (hr : ∀ r h', P r h' → Go p l e R s m args below meth c n0 Q K N h' ce' sl' (mkF m pc' Ls (r :: rest))) : Go p l e R s m args below meth c n0 Q K N h ce sl (mkF m pc Ls st) :=
  go_specialW C S hyn w1 w2 w3 w4 hy hpd hlen hls hW hfr hlo hce hsl hcc hss hd hp hst (fun v h' hq => by obtain ⟨r, rfl, q⟩ := hq; exact hr r h' q)
theorem go_specialWN (C : Cx p s m meth c Z own bs mx rt nm) {y : MethodName} {i : Nat} {cb : ByteArray} {cm : Nat} {rm : Room} {as rest : List Value} {W : Nat} {ps : List FieldType} {pr : Option FieldType} {ce' sl' : Nat} {a : Addr} {P : Heap → Prop} (S : Sat l Z y cb cm none rm (.ref a :: as) h n0 (RN P)) (hyn : y.name = "<init>") (w1 : (Jvm.Cond.methodRef own i y).before a0 Z = true) (w2 : (Jvm.Cond.instanceMethod y).before a0 Z = true) (w3 : (Jvm.Cond.initialized y.cls).before a0 Z = true) (w4 : (Jvm.Cond.code y cb cm none).before a0 Z = true) (hy : y.cls ≠ "java/lang/invoke/MethodHandle" ∧ y.cls ≠ "java/lang/invoke/VarHandle") (hpd : parseMethodDescriptor y.desc = some ⟨ps, pr⟩) (hlen : as.length = ps.length) (hls : Ls.size = mx) (hW : wt rest = W) (hfr : rm.frames + 1 ≤ R.frames) (hlo : W + (cm + 11) + rm.locals ≤ R.locals) (hce : ce + rm.cells = ce') (hsl : sl + rm.slots = sl') (hcc : ce' ≤ R.cells) (hss : sl' ≤ R.slots) (hd : decode bs pc = .ok (.invokespecial i, 3)) (hp : pc + 3 = pc') (hst : st = as.reverse ++ .ref a :: rest) (hr : ∀ h', P h' → Go p l e R s m args below meth c n0 Q K N h' ce' sl' (mkF m pc' Ls rest)) : Go p l e R s m args below meth c n0 Q K N h ce sl (mkF m pc Ls st) :=
  go_specialW C S hyn w1 w2 w3 w4 hy hpd hlen hls hW hfr hlo hce hsl hcc hss hd hp hst (fun v h' hq => by obtain ⟨rfl, q⟩ := hq; exact hr h' q)
theorem go_ireturnI (C : Cx p s m meth c Z own bs mx rt nm) {z : Int32} (hrt : rt = some .int) (hd : decode bs pc = .ok (.ireturn, 1)) (hk : ce ≤ K) (hn : sl ≤ N) (hq : Q (some (.int z)) h) : Go p l e R s m args below meth c n0 Q K N h ce sl (mkF m pc Ls [.int z]) := by
  subst hrt
  intro T locs X eT Nn
  obtain ⟨fs, hr, hrun, hended, hW, hsame⟩ := X.leave (v := some (.int z)) (fun q => by first | rfl | (rw [C.2.2.2.2.2.1] at q; cases q)) C.2.2.2.2.2.2.1
  refine ⟨_, _, X.ireturnOut C.1 C.2.2.2.2.2.1 rfl (Or.inl rfl) (hb C.2.1 hd) hr, hrun, hended, _, _, rfl, ⟨?_, Nn⟩, ⟨_, rfl⟩, hW, hsame.mono hk hn⟩
  show Q (some (.int z)) T.heap
  rw [eT]; exact hq
theorem go_lreturn (C : Cx p s m meth c Z own bs mx rt nm) {z : Int64} (hrt : rt = some .long) (hd : decode bs pc = .ok (.lreturn, 1)) (hk : ce ≤ K) (hn : sl ≤ N) (hq : Q (some (.long z)) h) : Go p l e R s m args below meth c n0 Q K N h ce sl (mkF m pc Ls [.long z]) := by
  subst hrt
  intro T locs X eT Nn
  obtain ⟨fs, hr, hrun, hended, hW, hsame⟩ := X.leave (v := some (.long z)) (fun q => by first | rfl | (rw [C.2.2.2.2.2.1] at q; cases q)) C.2.2.2.2.2.2.1
  refine ⟨_, _, Jvm.Stand.lreturnOut X C.1 C.2.2.2.2.2.1 (hb C.2.1 hd) hr, hrun, hended, _, _, rfl, ⟨?_, Nn⟩, ⟨_, rfl⟩, hW, hsame.mono hk hn⟩
  show Q (some (.long z)) T.heap
  rw [eT]; exact hq
theorem go_areturn (C : Cx p s m meth c Z own bs mx rt nm) {w : Value} {t : FieldType} (hrt : rt = some t) (hd : decode bs pc = .ok (.areturn, 1)) (hk : ce ≤ K) (hn : sl ≤ N) (hw : w.isRef = true) (ht : t.isReference = true) (hq : Q (some w) h) : Go p l e R s m args below meth c n0 Q K N h ce sl (mkF m pc Ls [w]) := by
  subst hrt
  intro T locs X eT Nn
  obtain ⟨fs, hr, hrun, hended, hW, hsame⟩ := X.leave (v := some w) (fun q => by first | rfl | (rw [C.2.2.2.2.2.1] at q; cases q)) C.2.2.2.2.2.2.1
  refine ⟨_, _, X.areturnOut C.1 hw C.2.2.2.2.2.1 ht (hb C.2.1 hd) hr, hrun, hended, _, _, rfl, ⟨?_, Nn⟩, ⟨_, rfl⟩, hW, hsame.mono hk hn⟩
  show Q (some w) T.heap
  rw [eT]; exact hq
theorem go_return (C : Cx p s m meth c Z own bs mx rt nm)  (hrt : rt = none) (hd : decode bs pc = .ok (.return_, 1)) (hk : ce ≤ K) (hn : sl ≤ N) (hq : Q (none) h) : Go p l e R s m args below meth c n0 Q K N h ce sl (mkF m pc Ls []) := by
  subst hrt
  intro T locs X eT Nn
  obtain ⟨fs, hr, hrun, hended, hW, hsame⟩ := X.leave (v := none) (fun q => by first | rfl | (rw [C.2.2.2.2.2.1] at q; cases q)) C.2.2.2.2.2.2.1
  refine ⟨_, _, X.returnOut C.1 C.2.2.2.2.2.1 (hb C.2.1 hd) hr, hrun, hended, _, _, rfl, ⟨?_, Nn⟩, ⟨_, rfl⟩, hW, hsame.mono hk hn⟩
  show Q (none) T.heap
  rw [eT]; exact hq
theorem go_ireturnN (C : Cx p s m meth c Z own bs mx rt nm) {z z' : Int32} {t : FieldType} (hrt : rt = some t) (ht : t = .boolean ∨ t = .byte ∨ t = .char ∨ t = .short) (hz : nar t z = z') (hd : decode bs pc = .ok (.ireturn, 1)) (hk : ce ≤ K) (hn : sl ≤ N) (hq : Q (some (.int z')) h) : Go p l e R s m args below meth c n0 Q K N h ce sl (mkF m pc Ls [.int z]) := by
  subst hrt hz
  intro T locs X eT Nn
  obtain ⟨fs, hr, hrun, hended, hW, hsame⟩ := X.leave (v := some (.int (nar t z))) (fun q => by rw [C.2.2.2.2.2.1] at q; cases q) C.2.2.2.2.2.2.1
  refine ⟨_, _, retN X C.1 (t := t) C.2.2.2.2.2.1 ht (hb C.2.1 hd) hr, hrun, hended, _, _, rfl, ⟨?_, Nn⟩, ⟨_, rfl⟩, hW, hsame.mono hk hn⟩
  show Q (some (.int (nar t z))) T.heap
  rw [eT]; exact hq
theorem sat_of {y : MethodName} {cb : ByteArray} {cm : Nat} {cr : Option FieldType} {rm : Room} {as : List Value} {h0 : Heap} (ho : y.cls = own) (hnm : y.name = nm) (hpn : plainFor y = true) (Ls : Array Slot) (hef : ∀ m, entryFrame m as.toArray cm = mkF m 0 Ls [])
    (body : ∀ (p : Program) (e : Env) (s : State) (m : MethodId) (below : List Frame) (meth : Method) (c : Code), Cx p s m meth c Z own cb cm cr nm → Go p l e rm s m as.toArray below meth c n0 Q rm.cells rm.slots h0 0 0 (mkF m 0 Ls [])) : Sat l Z y cb cm cr rm as h0 n0 Q := by
  intro ws
  subst ho hnm
  refine MetFree.of_bodySF hpn hisR ?_
  intro p e s m args below meth c s₁ Bd hml0 hP hK
  obtain ⟨rfl, hZ, hh⟩ := hP
  have X0 : Stand p l e rm s m as.toArray below meth c s₁ [] 0 0 := Stand.of_body Bd
  obtain ⟨s₂, o, h1, h2, h3, v, L, h4, h5, h6⟩ := body p e s m below meth c ⟨Bd.exec, Bd.bytes, hml0, hZ, findClass_of_methodNamed Bd.named, Bd.returns, Bd.notSynchronized, (name_of_methodNamed Bd.named Bd.method).1⟩ s₁ [] X0 (by rw [← hh, Bd.state]; rfl) (Fr.nil n0)
  exact ⟨s₂, o, castTop (hef m) h1, h2, h3, v, L, h4, h5, h6⟩
theorem Sat.weaken {y : MethodName} {cb : ByteArray} {cm : Nat} {cr : Option FieldType} {rm : Room} {as : List Value} {h0 : Heap} {Q' : Option Value → Heap → Prop} (S : Sat l Z y cb cm cr rm as h0 n0 Q) (H : ∀ v h, Q v h → Q' v h) : Sat l Z y cb cm cr rm as h0 n0 Q' := by
  intro ws p e ha hc hk s m args below hf happ hP hK
  obtain ⟨n, o, h1, h2, h3, v, L, h4, h5, h6⟩ := S ws p e ha hc hk s m args below hf happ hP hK
  exact ⟨n, o, h1, h2, h3, v, L, h4, ⟨H _ _ h5.1, h5.2⟩, h6⟩
end Walk
end OwnLayer
theorem wd {Z : State} {a0 : Array Value} (hw : ∀ d ∈ tables_1, d.before a0 Z = true) (k : Nat) {d : Jvm.Cond} (h : tables_1[k]? = some d) : d.before a0 Z = true := hw d (List.mem_of_getElem? h)
theorem d1_0 : decode prog_68_method_1_code 0 = .ok (.aload_n 0, 1) := by decide +kernel
theorem d1_1 : decode prog_68_method_1_code 1 = .ok (.invokespecial 1, 3) := by decide +kernel
theorem d1_4 : decode prog_68_method_1_code 4 = .ok (.aload_n 0, 1) := by decide +kernel
theorem d1_5 : decode prog_68_method_1_code 5 = .ok (.iload_n 1, 1) := by decide +kernel
theorem d1_6 : decode prog_68_method_1_code 6 = .ok (.newarray .long, 2) := by decide +kernel
theorem d1_8 : decode prog_68_method_1_code 8 = .ok (.putfield 7, 3) := by decide +kernel
theorem d1_11 : decode prog_68_method_1_code 11 = .ok (.aload_n 0, 1) := by decide +kernel
theorem d1_12 : decode prog_68_method_1_code 12 = .ok (.iload_n 2, 1) := by decide +kernel
theorem d1_13 : decode prog_68_method_1_code 13 = .ok (.putfield 13, 3) := by decide +kernel
theorem d1_16 : decode prog_68_method_1_code 16 = .ok (.return_, 1) := by decide +kernel
theorem d3_0 : decode prog_68_method_3_code 0 = .ok (.iconst 0, 1) := by decide +kernel
theorem d3_1 : decode prog_68_method_3_code 1 = .ok (.istore_n 2, 1) := by decide +kernel
theorem d3_2 : decode prog_68_method_3_code 2 = .ok (.iload_n 2, 1) := by decide +kernel
theorem d3_3 : decode prog_68_method_3_code 3 = .ok (.aload_n 0, 1) := by decide +kernel
theorem d3_4 : decode prog_68_method_3_code 4 = .ok (.getfield 7, 3) := by decide +kernel
theorem d3_7 : decode prog_68_method_3_code 7 = .ok (.arraylength, 1) := by decide +kernel
theorem d3_8 : decode prog_68_method_3_code 8 = .ok (.if_icmp .ge 27, 3) := by decide +kernel
theorem d3_11 : decode prog_68_method_3_code 11 = .ok (.aload_n 0, 1) := by decide +kernel
theorem d3_12 : decode prog_68_method_3_code 12 = .ok (.getfield 7, 3) := by decide +kernel
theorem d3_15 : decode prog_68_method_3_code 15 = .ok (.iload_n 2, 1) := by decide +kernel
theorem d3_16 : decode prog_68_method_3_code 16 = .ok (.aload_n 0, 1) := by decide +kernel
theorem d3_17 : decode prog_68_method_3_code 17 = .ok (.getfield 7, 3) := by decide +kernel
theorem d3_20 : decode prog_68_method_3_code 20 = .ok (.iload_n 2, 1) := by decide +kernel
theorem d3_21 : decode prog_68_method_3_code 21 = .ok (.laload, 1) := by decide +kernel
theorem d3_22 : decode prog_68_method_3_code 22 = .ok (.aload_n 1, 1) := by decide +kernel
theorem d3_23 : decode prog_68_method_3_code 23 = .ok (.iload_n 2, 1) := by decide +kernel
theorem d3_24 : decode prog_68_method_3_code 24 = .ok (.laload, 1) := by decide +kernel
theorem d3_25 : decode prog_68_method_3_code 25 = .ok (.invokestatic 17, 3) := by decide +kernel
theorem d3_28 : decode prog_68_method_3_code 28 = .ok (.lastore, 1) := by decide +kernel
theorem d3_29 : decode prog_68_method_3_code 29 = .ok (.iinc 2 1, 3) := by decide +kernel
theorem d3_32 : decode prog_68_method_3_code 32 = .ok (.goto (-30), 3) := by decide +kernel
theorem d3_35 : decode prog_68_method_3_code 35 = .ok (.return_, 1) := by decide +kernel
theorem d4_0 : decode jdk_29_method_66_code 0 = .ok (.lload_n 0, 1) := by decide +kernel
theorem d4_1 : decode jdk_29_method_66_code 1 = .ok (.lload_n 2, 1) := by decide +kernel
theorem d4_2 : decode jdk_29_method_66_code 2 = .ok (.lcmp, 1) := by decide +kernel
theorem d4_3 : decode jdk_29_method_66_code 3 = .ok (.ifCond .lt 7, 3) := by decide +kernel
theorem d4_6 : decode jdk_29_method_66_code 6 = .ok (.lload_n 0, 1) := by decide +kernel
theorem d4_7 : decode jdk_29_method_66_code 7 = .ok (.goto 4, 3) := by decide +kernel
theorem d4_10 : decode jdk_29_method_66_code 10 = .ok (.lload_n 2, 1) := by decide +kernel
theorem d4_11 : decode jdk_29_method_66_code 11 = .ok (.lreturn, 1) := by decide +kernel
theorem d5_0 : decode prog_68_method_4_code 0 = .ok (.aload_n 0, 1) := by decide +kernel
theorem d5_1 : decode prog_68_method_4_code 1 = .ok (.getfield 7, 3) := by decide +kernel
theorem d5_4 : decode prog_68_method_4_code 4 = .ok (.invokevirtual 23, 3) := by decide +kernel
theorem d5_7 : decode prog_68_method_4_code 7 = .ok (.checkcast 24, 3) := by decide +kernel
theorem d5_10 : decode prog_68_method_4_code 10 = .ok (.areturn, 1) := by decide +kernel
theorem d6_0 : decode method_3_code 0 = .ok (.iload_n 2, 1) := by decide +kernel
theorem d6_1 : decode method_3_code 1 = .ok (.iload_n 3, 1) := by decide +kernel
theorem d6_2 : decode method_3_code 2 = .ok (.if_icmp .lt 5, 3) := by decide +kernel
theorem d6_5 : decode method_3_code 5 = .ok (.iconst 1, 1) := by decide +kernel
theorem d6_6 : decode method_3_code 6 = .ok (.ireturn, 1) := by decide +kernel
theorem d6_7 : decode method_3_code 7 = .ok (.lconst 0, 1) := by decide +kernel
theorem d6_8 : decode method_3_code 8 = .ok (.lload 6, 2) := by decide +kernel
theorem d6_10 : decode method_3_code 10 = .ok (.invokestatic 30, 3) := by decide +kernel
theorem d6_13 : decode method_3_code 13 = .ok (.lstore 8, 2) := by decide +kernel
theorem d6_15 : decode method_3_code 15 = .ok (.iload_n 2, 1) := by decide +kernel
theorem d6_16 : decode method_3_code 16 = .ok (.iload 4, 2) := by decide +kernel
theorem d6_18 : decode method_3_code 18 = .ok (.if_icmp .ne 12, 3) := by decide +kernel
theorem d6_21 : decode method_3_code 21 = .ok (.lload 8, 2) := by decide +kernel
theorem d6_23 : decode method_3_code 23 = .ok (.iload 5, 2) := by decide +kernel
theorem d6_25 : decode method_3_code 25 = .ok (.i2l, 1) := by decide +kernel
theorem d6_26 : decode method_3_code 26 = .ok (.ladd, 1) := by decide +kernel
theorem d6_27 : decode method_3_code 27 = .ok (.goto 5, 3) := by decide +kernel
theorem d6_30 : decode method_3_code 30 = .ok (.lload 8, 2) := by decide +kernel
theorem d6_32 : decode method_3_code 32 = .ok (.lstore 10, 2) := by decide +kernel
theorem d6_34 : decode method_3_code 34 = .ok (.aload_n 0, 1) := by decide +kernel
theorem d6_35 : decode method_3_code 35 = .ok (.iload_n 2, 1) := by decide +kernel
theorem d6_36 : decode method_3_code 36 = .ok (.laload, 1) := by decide +kernel
theorem d6_37 : decode method_3_code 37 = .ok (.lload 8, 2) := by decide +kernel
theorem d6_39 : decode method_3_code 39 = .ok (.lcmp, 1) := by decide +kernel
theorem d6_40 : decode method_3_code 40 = .ok (.ifCond .ne 16, 3) := by decide +kernel
theorem d6_43 : decode method_3_code 43 = .ok (.aload_n 1, 1) := by decide +kernel
theorem d6_44 : decode method_3_code 44 = .ok (.iload_n 2, 1) := by decide +kernel
theorem d6_45 : decode method_3_code 45 = .ok (.laload, 1) := by decide +kernel
theorem d6_46 : decode method_3_code 46 = .ok (.lload 10, 2) := by decide +kernel
theorem d6_48 : decode method_3_code 48 = .ok (.lcmp, 1) := by decide +kernel
theorem d6_49 : decode method_3_code 49 = .ok (.ifCond .ne 7, 3) := by decide +kernel
theorem d6_52 : decode method_3_code 52 = .ok (.iconst 1, 1) := by decide +kernel
theorem d6_53 : decode method_3_code 53 = .ok (.goto 4, 3) := by decide +kernel
theorem d6_56 : decode method_3_code 56 = .ok (.iconst 0, 1) := by decide +kernel
theorem d6_57 : decode method_3_code 57 = .ok (.ireturn, 1) := by decide +kernel
theorem d7_0 : decode prog_68_method_2_code 0 = .ok (.aload_n 0, 1) := by decide +kernel
theorem d7_1 : decode prog_68_method_2_code 1 = .ok (.getfield 7, 3) := by decide +kernel
theorem d7_4 : decode prog_68_method_2_code 4 = .ok (.aload_n 0, 1) := by decide +kernel
theorem d7_5 : decode prog_68_method_2_code 5 = .ok (.getfield 13, 3) := by decide +kernel
theorem d7_8 : decode prog_68_method_2_code 8 = .ok (.dup2, 1) := by decide +kernel
theorem d7_9 : decode prog_68_method_2_code 9 = .ok (.laload, 1) := by decide +kernel
theorem d7_10 : decode prog_68_method_2_code 10 = .ok (.lconst 1, 1) := by decide +kernel
theorem d7_11 : decode prog_68_method_2_code 11 = .ok (.ladd, 1) := by decide +kernel
theorem d7_12 : decode prog_68_method_2_code 12 = .ok (.lastore, 1) := by decide +kernel
theorem d7_13 : decode prog_68_method_2_code 13 = .ok (.return_, 1) := by decide +kernel
theorem pn_0 : plainName "com/example/holder/holder/protocol/VectorClockTickPinLaw" = true := by first | (simp [plainName, overriddenIn]; done) | decide +kernel
theorem pd_0 : parseMethodDescriptor "(IIJJJJ)Z" = some ⟨[.int, .int, .long, .long, .long, .long], some .boolean⟩ := by decide +kernel
theorem pn_1 : plainName "com/example/holder/holder/protocol/VectorClock" = true := by first | (simp [plainName, overriddenIn]; done) | decide +kernel
theorem pd_1 : parseMethodDescriptor "(II)V" = some ⟨[.int, .int], none⟩ := by decide +kernel
theorem pd_2 : parseMethodDescriptor "()V" = some ⟨[], none⟩ := by decide +kernel
theorem pd_3 : parseMethodDescriptor "([J)V" = some ⟨[(.array .long)], none⟩ := by decide +kernel
theorem pd_4 : parseMethodDescriptor "(JJ)J" = some ⟨[.long, .long], some .long⟩ := by decide +kernel
theorem pd_5 : parseMethodDescriptor "()[J" = some ⟨[], some (.array .long)⟩ := by decide +kernel
theorem pd_6 : parseMethodDescriptor "([J[JIIIIJ)Z" = some ⟨[(.array .long), (.array .long), .int, .int, .int, .int, .long], some .boolean⟩ := by decide +kernel
def lf (n : Nat) (f : Nat → Int64) : List Value := (List.range n).map (fun j => Value.long (f j))
theorem lf_len (n : Nat) (f : Nat → Int64) : (lf n f).length = n := by simp [lf]
theorem lf_get {n j : Nat} (f : Nat → Int64) (h : j < n) : (lf n f)[j]? = some (.long (f j)) := by simp [lf, h]
theorem lf_congr {n : Nat} {f g : Nat → Int64} (h : ∀ j, j < n → f j = g j) : lf n f = lf n g := by
  unfold lf
  refine List.map_congr_left fun j hj => ?_
  rw [h j (List.mem_range.mp hj)]
theorem lf_set {n k : Nat} (f : Nat → Int64) (v : Int64) : (lf n f).set k (.long v) = lf n (fun j => if j = k then v else f j) := by
  refine List.ext_getElem? fun j => ?_
  by_cases hj : j < n
  · rw [lf_get _ hj]
    by_cases q : k = j
    · subst q
      rw [List.getElem?_set_self (by rw [lf_len]; exact hj), if_pos rfl]
    · rw [List.getElem?_set_ne q, lf_get _ hj, if_neg (fun z => q z.symm)]
  · rw [List.getElem?_eq_none (by rw [List.length_set, lf_len]; omega), List.getElem?_eq_none (by rw [lf_len]; omega)]
theorem lf_step {n i : Nat} (A B : Nat → Int64) : lf n (fun j => if j = i then A i else (if j < i then A j else B j)) = lf n (fun j => if j < i + 1 then A j else B j) := lf_congr fun j _ => by
  by_cases z1 : j = i
  · subst z1; rw [if_pos rfl, if_pos (Nat.lt_succ_self _)]
  · by_cases z2 : j < i
    · rw [if_neg z1, if_pos z2, if_pos (Nat.lt_succ_of_lt z2)]
    · rw [if_neg z1, if_neg z2, if_neg (by omega)]
theorem lf_rep (n : Nat) (v : Int64) : List.replicate n (Value.long v) = lf n (fun _ => v) := by
  refine List.ext_getElem? fun j => ?_
  by_cases hj : j < n
  · rw [lf_get _ hj]; simp [hj]
  · rw [List.getElem?_eq_none (by simp; omega), List.getElem?_eq_none (by rw [lf_len]; omega)]
theorem lf_fits (n : Nat) (f : Nat → Int64) : ∀ v ∈ lf n f, fits .long v = true := by
  intro v hv
  obtain ⟨j, -, rfl⟩ := List.mem_map.mp hv
  rfl
theorem own_next {t : Int32} {i : Nat} (h : t.toInt = (i : Int)) (hi : i < 1000000) : (t + (1 : Int32)).toInt = ((i + 1 : Nat) : Int) := by
  have k1 : ((1 : Int32)).toInt = 1 := by decide
  rw [Jvm.Kit.i32_add (by rw [k1]; omega) (by rw [k1]; omega), k1, h]
  omega
def o_maxL (x y : Int64) : Int64 := if x.toInt < y.toInt then y else x
def g4 (x y z w : Int64) (j : Nat) : Int64 := if j = 0 then x else if j = 1 then y else if j = 2 then z else w
theorem own_t0 (b : Int64) : b = b + (0 : Int32).toInt64 := by rw [(by decide : (0 : Int32).toInt64 = 0), Int64.add_zero]
theorem own_t1 (b : Int64) : b + (1 : Int64) = b + (1 : Int32).toInt64 := by rw [(by decide : (1 : Int32).toInt64 = 1)]
theorem own_t2 (b : Int64) : b + (1 : Int64) + (1 : Int64) = b + (2 : Int32).toInt64 := by rw [Int64.add_assoc, (by decide : (1 : Int64) + (1 : Int64) = (2 : Int32).toInt64)]
theorem own_t3 (b : Int64) : b + (1 : Int64) + (1 : Int64) + (1 : Int64) = b + (3 : Int32).toInt64 := by rw [Int64.add_assoc, Int64.add_assoc, (by decide : (1 : Int64) + ((1 : Int64) + (1 : Int64)) = (3 : Int32).toInt64)]
theorem own_k4 (x : Int32) : (x &&& (3 : Int32)) = 0 ∨ (x &&& (3 : Int32)) = 1 ∨ (x &&& (3 : Int32)) = 2 ∨ (x &&& (3 : Int32)) = 3 := by
  have h : (x &&& (3 : Int32)).toInt = x.toInt % 2 ^ 2 := Jvm.Kit.i32_mask x _ (k := 2) (by decide) (by decide)
  have : x.toInt % 2 ^ 2 = 0 ∨ x.toInt % 2 ^ 2 = 1 ∨ x.toInt % 2 ^ 2 = 2 ∨ x.toInt % 2 ^ 2 = 3 := by omega
  rcases this with q | q | q | q
  · exact Or.inl (int_eq (h.trans q))
  · exact Or.inr (Or.inl (int_eq (h.trans q)))
  · exact Or.inr (Or.inr (Or.inl (int_eq (h.trans q))))
  · exact Or.inr (Or.inr (Or.inr (int_eq (h.trans q))))
set_option maxRecDepth 65536 in
set_option maxHeartbeats 40000000 in
theorem sat_max (l : Launch) (Z : State) (a0 : Array Value) (hw : ∀ d ∈ tables_1, d.before a0 Z = true) (u v : Int64) (h0 : Heap) (n0 : Nat)  :
    Sat l Z (⟨"java/lang/Math", "max", "(JJ)J"⟩ : MethodName) jdk_29_method_66_code 4 (some .long) ({ frames := 0, cells := 0, slots := 0, locals := 0 } : Room) [.long u, .long v] h0 n0 (RV fun r h => r = .long (o_maxL u v) ∧ h = h0) := by
  refine sat_of (own := "java/lang/Math") (nm := "max") rfl rfl (by decide +kernel) #[.val (.long u), .second, .val (.long v), .second] (fun m => by first | rfl | (simp [entryFrame, mkF, argsToLocals, Value.category]; done)) ?_
  intro p e s m below meth c C
  refine go_lloadN C d4_0 (pc' := 1) rfl rfl ?_
  refine go_lloadN C d4_1 (pc' := 2) rfl rfl ?_
  refine go_lcmp C u.toInt v.toInt rfl rfl d4_2 (pc1 := 3) rfl d4_3 (by decide) (pc' := 10) (by decide) (pcN := 6) rfl (fun (c_1 : u.toInt < v.toInt) => ?_) (fun (c_1 : ¬ u.toInt < v.toInt) => ?_)
  · skip
    refine go_lloadN C d4_10 (pc' := 11) rfl rfl ?_
    refine go_lreturn C rfl d4_11 (by decide) (by decide) ?_
    exact ⟨_, rfl, congrArg Value.long (by unfold o_maxL; first | rw [if_pos (by omega)] | rw [if_neg (by omega)]), rfl⟩
  · skip
    refine go_lloadN C d4_6 (pc' := 7) rfl rfl ?_
    refine go_goto C d4_7 (by decide) (pc' := 11) (by decide) ?_
    refine go_lreturn C rfl d4_11 (by decide) (by decide) ?_
    exact ⟨_, rfl, congrArg Value.long (by unfold o_maxL; first | rw [if_pos (by omega)] | rw [if_neg (by omega)]), rfl⟩
set_option maxRecDepth 65536 in
set_option maxHeartbeats 40000000 in
theorem sat_init (l : Launch) (Z : State) (a0 : Array Value) (hw : ∀ d ∈ tables_1, d.before a0 Z = true) (a : Addr) (sz ow : Int32) (S : Nat) (h0 : Heap) (n0 : Nat) (hS : sz.toInt = (S : Int)) (hS4 : S ≤ 4) (E1 : Exa Z h0 a "com/example/holder/holder/protocol/VectorClock") (F1 : Fld Z h0 a "com/example/holder/holder/protocol/VectorClock" "counters" "[J" .null) (F2 : Fld Z h0 a "com/example/holder/holder/protocol/VectorClock" "own" "I" (.int 0)) (ga : n0 ≤ a) (gz : n0 ≤ h0.size) :
    Sat l Z (⟨"com/example/holder/holder/protocol/VectorClock", "<init>", "(II)V"⟩ : MethodName) prog_68_method_1_code 3 none ({ frames := 1, cells := 1, slots := 4, locals := 12 } : Room) [.ref a, .int sz, .int ow] h0 n0 (RN fun h => ∃ r : Addr, n0 ≤ r ∧ a ≠ r ∧ Exa Z h a "com/example/holder/holder/protocol/VectorClock" ∧ Fld Z h a "com/example/holder/holder/protocol/VectorClock" "counters" "[J" (.ref r) ∧ Fld Z h a "com/example/holder/holder/protocol/VectorClock" "own" "I" (.int ow) ∧ Exa Z h r "[J" ∧ Av Z h r .long (lf S (fun _ => 0))) := by
  refine sat_of (own := "com/example/holder/holder/protocol/VectorClock") (nm := "<init>") rfl rfl (plainFor_of_name pn_1) #[.val (.ref a), .val (.int sz), .val (.int ow)] (fun m => by first | rfl | (simp [entryFrame, mkF, argsToLocals, Value.category]; done)) ?_
  intro p e s m below meth c C
  refine go_aloadN C d1_0 (pc' := 1) rfl rfl rfl ?_
  refine go_objinit C (W := 0) (wd hw 7 rfl) (wd hw 8 rfl) (wd hw 9 rfl) rfl (by decide) rfl (by decide) d1_1 (pc' := 4) rfl ?_
  refine go_aloadN C d1_4 (pc' := 5) rfl rfl rfl ?_
  refine go_iloadN C d1_5 (pc' := 6) rfl rfl ?_
  refine go_newarrayE C (ad := "[J") (wd hw 10 rfl) rfl (by decide) S 4 hS hS4 (by decide) (ce' := 1) (sl' := 4) rfl rfl (by decide) (by decide) d1_6 (pc' := 8) rfl ?_
  intro h_1 a_2 g_3 E_4 E_5 A_6
  have n_7 : a ≠ a_2 := own_ne_new E1.lt g_3
  have g_8 : n0 ≤ a_2 := own_ge gz g_3
  have F_9 := Fld.ext E_4 F1
  have F_10 := Fld.ext E_4 F2
  have E_11 := Exa.ext E_4 E1
  have z_12 : n0 ≤ h_1.size := Nat.le_trans gz E_4.1
  refine go_putfield C (wd hw 11 rfl) F_9 E_11 (Or.inr ⟨wd hw 12 rfl, rfl, rfl⟩) (wd hw 2 rfl) (ty := (.array .long)) (by decide) rfl rfl ga d1_8 (pc' := 11) rfl ?_
  intro h_13 W_14
  have z_15 : n0 ≤ h_13.size := W_14.size.symm ▸ z_12
  have F_16 := Fld.same W_14 F_9
  have F_17 := Fld.other W_14 F_10 (Or.inr (slot_ne (a0 := a0) (Or.inr (wd hw 14 rfl)) (Or.inr (wd hw 12 rfl)) (by decide) (t := .int) (t' := (.array .long)) (by decide) (by decide)))
  have E_18 := Exa.wr W_14 E_11
  have E_19 := Exa.wr W_14 E_5
  have A_20 := Av.other (lf_rep S 0 ▸ A_6) W_14 (Ne.symm n_7)
  refine go_aloadN C d1_11 (pc' := 12) rfl rfl rfl ?_
  refine go_iloadN C d1_12 (pc' := 13) rfl rfl ?_
  refine go_putfield C (wd hw 13 rfl) F_17 E_18 (Or.inr ⟨wd hw 14 rfl, rfl, rfl⟩) (wd hw 2 rfl) (ty := .int) (by decide) rfl rfl ga d1_13 (pc' := 16) rfl ?_
  intro h_21 W_22
  have z_23 : n0 ≤ h_21.size := W_22.size.symm ▸ z_15
  have F_24 := Fld.other W_22 F_16 (Or.inr (slot_ne (a0 := a0) (Or.inr (wd hw 12 rfl)) (Or.inr (wd hw 14 rfl)) (by decide) (t := (.array .long)) (t' := .int) (by decide) (by decide)))
  have F_25 := Fld.same W_22 F_17
  have E_26 := Exa.wr W_22 E_18
  have E_27 := Exa.wr W_22 E_19
  have A_28 := Av.other A_20 W_22 (Ne.symm n_7)
  refine go_return C rfl d1_16 (by decide) (by decide) ?_
  exact ⟨rfl, a_2, g_8, n_7, E_26, F_24, F_25, E_27, A_28⟩
set_option maxRecDepth 65536 in
set_option maxHeartbeats 40000000 in
theorem sat_tick (l : Launch) (Z : State) (a0 : Array Value) (hw : ∀ d ∈ tables_1, d.before a0 Z = true) (a r : Addr) (ow : Int32) (S k : Nat) (f : Nat → Int64) (h0 : Heap) (n0 : Nat) (hk : ow.toInt = (k : Int)) (hkS : k < S) (F1 : Fld Z h0 a "com/example/holder/holder/protocol/VectorClock" "counters" "[J" (.ref r)) (F2 : Fld Z h0 a "com/example/holder/holder/protocol/VectorClock" "own" "I" (.int ow)) (A1 : Av Z h0 r .long (lf S f)) (gr : n0 ≤ r) (hne : a ≠ r) :
    Sat l Z (⟨"com/example/holder/holder/protocol/VectorClock", "tick", "()V"⟩ : MethodName) prog_68_method_2_code 1 none ({ frames := 0, cells := 0, slots := 0, locals := 0 } : Room) [.ref a] h0 n0 (RN fun h => Keep h0 h [r] ∧ Av Z h r .long (lf S (fun j => if j = k then f j + (1 : Int64) else f j))) := by
  refine sat_of (own := "com/example/holder/holder/protocol/VectorClock") (nm := "tick") rfl rfl (plainFor_of_name pn_1) #[.val (.ref a)] (fun m => by first | rfl | (simp [entryFrame, mkF, argsToLocals, Value.category]; done)) ?_
  intro p e s m below meth c C
  refine go_aloadN C d7_0 (pc' := 1) rfl rfl rfl ?_
  refine go_getfield C (wd hw 11 rfl) F1 d7_1 (pc' := 4) rfl ?_
  refine go_aloadN C d7_4 (pc' := 5) rfl rfl rfl ?_
  refine go_getfield C (wd hw 13 rfl) F2 d7_5 (pc' := 8) rfl ?_
  refine go_dup2 C d7_8 (pc' := 9) rfl rfl rfl ?_
  refine go_laload C A1 k (.long (f k)) hk (lf_get f hkS) d7_9 (pc' := 10) rfl ?_
  refine go_lconst C (1 : Int64) d7_10 (pc' := 11) rfl (by decide) ?_
  refine go_ladd C d7_11 (pc' := 12) rfl ?_
  refine go_lastore C A1 k hk (by rw [lf_len]; exact hkS) gr d7_12 (pc' := 13) rfl ?_
  intro h_1 W_2 A_3
  have F_5 := Fld.other W_2 F1 (Or.inl hne)
  have F_6 := Fld.other W_2 F2 (Or.inl hne)
  have K_7 := Keep.wr (Keep.refl h0 [r]) W_2 (Or.inl (by simp))
  refine go_return C rfl d7_13 (by decide) (by decide) ?_
  refine ⟨rfl, K_7, ?_⟩
  have q := A_3
  rw [lf_set] at q
  rw [lf_congr (g := fun j => if j = k then f k + (1 : Int64) else f j) (fun j _ => by by_cases z : j = k <;> simp [z])]
  exact q
set_option maxRecDepth 65536 in
set_option maxHeartbeats 40000000 in
theorem sat_vec (l : Launch) (Z : State) (a0 : Array Value) (hw : ∀ d ∈ tables_1, d.before a0 Z = true) (a r : Addr) (S : Nat) (f : Nat → Int64) (h0 : Heap) (n0 : Nat) (hS4 : S ≤ 4) (F1 : Fld Z h0 a "com/example/holder/holder/protocol/VectorClock" "counters" "[J" (.ref r)) (Q1 : Exa Z h0 r "[J") (A1 : Av Z h0 r .long (lf S f)) (gz : n0 ≤ h0.size) :
    Sat l Z (⟨"com/example/holder/holder/protocol/VectorClock", "vector", "()[J"⟩ : MethodName) prog_68_method_4_code 1 (some (.array .long)) ({ frames := 1, cells := 1, slots := 4, locals := 14 } : Room) [.ref a] h0 n0 (RV fun v h => ∃ b : Addr, v = .ref b ∧ n0 ≤ b ∧ h0.size ≤ b ∧ Keep h0 h [] ∧ Av Z h b .long (lf S f)) := by
  refine sat_of (own := "com/example/holder/holder/protocol/VectorClock") (nm := "vector") rfl rfl (plainFor_of_name pn_1) #[.val (.ref a)] (fun m => by first | rfl | (simp [entryFrame, mkF, argsToLocals, Value.category]; done)) ?_
  intro p e s m below meth c C
  refine go_aloadN C d5_0 (pc' := 1) rfl rfl rfl ?_
  refine go_getfield C (wd hw 11 rfl) F1 d5_1 (pc' := 4) rfl ?_
  refine go_clone C (W := 0) (cap := 4) (wd hw 29 rfl) (wd hw 30 rfl) (wd hw 34 rfl) (wd hw 32 rfl) (wd hw 33 rfl) (wd hw 35 rfl) A1 Q1 (lf_fits S f) rfl (by decide) rfl (by decide) (by rw [lf_len]; exact hS4) (ce' := 1) (sl' := 4) rfl rfl (by decide) (by decide) d5_4 (pc' := 7) rfl ?_
  intro h_1 b_2 g_3 E_4 E_5 A_6
  have n_7 : a ≠ b_2 := own_ne_new F1.lt g_3
  have n_8 : r ≠ b_2 := own_ne_new A1.lt g_3
  have g_9 : n0 ≤ b_2 := own_ge gz g_3
  have F_10 := Fld.ext E_4 F1
  have E_11 := Exa.ext E_4 Q1
  have A_12 := Av.ext A1 E_4
  have z_13 : n0 ≤ h_1.size := Nat.le_trans gz E_4.1
  have K_14 := Keep.ext (Keep.refl h0 []) E_4
  have g_15 : h0.size ≤ b_2 := own_ge (Keep.refl h0 []).1 g_3
  refine go_checkcast C (wd hw 36 rfl) E_5 d5_7 (pc' := 10) rfl ?_
  refine go_areturn C rfl d5_10 (by decide) (by decide) rfl rfl ?_
  exact ⟨_, rfl, b_2, rfl, g_9, g_15, K_14, A_6⟩
set_option maxRecDepth 65536 in
set_option maxHeartbeats 40000000 in
theorem sat_merge (l : Launch) (Z : State) (a0 : Array Value) (hw : ∀ d ∈ tables_1, d.before a0 Z = true) (a b r : Addr) (sz : Int32) (S M : Nat) (f g : Nat → Int64) (h0 : Heap) (n0 : Nat) (hS : sz.toInt = (S : Int)) (hSM : S ≤ M) (hM : M < 1000) (F1 : Fld Z h0 a "com/example/holder/holder/protocol/VectorClock" "counters" "[J" (.ref r)) (A1 : Av Z h0 r .long (lf S f)) (A2 : Av Z h0 b .long (lf M g)) (gr : n0 ≤ r) (hne : a ≠ r) (hbr : b ≠ r) :
    Sat l Z (⟨"com/example/holder/holder/protocol/VectorClock", "merge", "([J)V"⟩ : MethodName) prog_68_method_3_code 3 none ({ frames := 1, cells := 0, slots := 0, locals := 20 } : Room) [.ref a, .ref b] h0 n0 (RN fun h => Keep h0 h [r] ∧ Av Z h r .long (lf S (fun j => o_maxL (f j) (g j)))) := by
  refine sat_of (own := "com/example/holder/holder/protocol/VectorClock") (nm := "merge") rfl rfl (plainFor_of_name pn_1) #[.val (.ref a), .val (.ref b), .unset] (fun m => by first | rfl | (simp [entryFrame, mkF, argsToLocals, Value.category]; done)) ?_
  intro p e s m below meth c C
  refine go_iconst C (0 : Int32) d3_0 (pc' := 1) rfl (by decide) ?_
  refine go_istoreN C (Ls' := #[.val (.ref a), .val (.ref b), .val (.int (0 : Int32))]) d3_1 (pc' := 2) rfl rfl ?_
  have loop : ∀ (k i : Nat) (t : Int32) (h : Heap), i + k = S → t.toInt = (i : Int) → Keep h0 h [r] → Fld Z h a "com/example/holder/holder/protocol/VectorClock" "counters" "[J" (.ref r) → Av Z h r .long (lf S (fun j => if j < i then o_maxL (f j) (g j) else f j)) → Av Z h b .long (lf M g) → Go p l e ({ frames := 1, cells := 0, slots := 0, locals := 20 } : Room) s m ([.ref a, .ref b] : List Value).toArray below meth c n0 (RN fun h => Keep h0 h [r] ∧ Av Z h r .long (lf S (fun j => o_maxL (f j) (g j)))) ({ frames := 1, cells := 0, slots := 0, locals := 20 } : Room).cells ({ frames := 1, cells := 0, slots := 0, locals := 20 } : Room).slots h 0 0 (mkF m 2 #[.val (.ref a), .val (.ref b), .val (.int t)] []) := by
    intro k
    induction k with
    | zero =>
      intro i t h hik ht K F A B
      refine go_iloadN C d3_2 (pc' := 3) rfl rfl ?_
      refine go_aloadN C d3_3 (pc' := 4) rfl rfl rfl ?_
      refine go_getfield C (wd hw 11 rfl) F d3_4 (pc' := 7) rfl ?_
      refine go_arraylength C A sz (by rw [lf_len]; exact hS) d3_7 (pc' := 8) rfl ?_
      refine go_icmp C t.toInt sz.toInt rfl rfl d3_8 (by decide) (pc' := 35) (by decide) (pcN := 11) rfl (fun (c_1 : ¬ t.toInt < sz.toInt) => ?_) (fun (c_1 : t.toInt < sz.toInt) => by omega)
      refine go_return C rfl d3_35 (by decide) (by decide) ?_
      exact ⟨rfl, K, (lf_congr (fun j hj => if_pos (by omega)) : lf S (fun j => if j < i then o_maxL (f j) (g j) else f j) = lf S (fun j => o_maxL (f j) (g j))) ▸ A⟩
    | succ k ih =>
      intro i t h hik ht K F A B
      refine go_iloadN C d3_2 (pc' := 3) rfl rfl ?_
      refine go_aloadN C d3_3 (pc' := 4) rfl rfl rfl ?_
      refine go_getfield C (wd hw 11 rfl) F d3_4 (pc' := 7) rfl ?_
      refine go_arraylength C A sz (by rw [lf_len]; exact hS) d3_7 (pc' := 8) rfl ?_
      refine go_icmp C t.toInt sz.toInt rfl rfl d3_8 (by decide) (pc' := 35) (by decide) (pcN := 11) rfl (fun (c_2 : ¬ t.toInt < sz.toInt) => by omega) (fun (c_2 : t.toInt < sz.toInt) => ?_)
      refine go_aloadN C d3_11 (pc' := 12) rfl rfl rfl ?_
      refine go_getfield C (wd hw 11 rfl) F d3_12 (pc' := 15) rfl ?_
      refine go_iloadN C d3_15 (pc' := 16) rfl rfl ?_
      refine go_aloadN C d3_16 (pc' := 17) rfl rfl rfl ?_
      refine go_getfield C (wd hw 11 rfl) F d3_17 (pc' := 20) rfl ?_
      refine go_iloadN C d3_20 (pc' := 21) rfl rfl ?_
      refine go_laload C A i (.long (f i)) ht ((lf_get _ (by omega)).trans (by rw [if_neg (Nat.lt_irrefl i)])) d3_21 (pc' := 22) rfl ?_
      refine go_aloadN C d3_22 (pc' := 23) rfl rfl rfl ?_
      refine go_iloadN C d3_23 (pc' := 24) rfl rfl ?_
      refine go_laload C B i (.long (g i)) ht (lf_get g (by omega)) d3_24 (pc' := 25) rfl ?_
      refine go_staticP C (as := [.long (f i), .long (g i)]) (rest := [.int t, .ref r]) (W := 2) (.long (o_maxL (f i) (g i))) (sat_max l Z a0 hw (f i) (g i) _ _) (wd hw 20 rfl) (wd hw 21 rfl) (wd hw 22 rfl) (wd hw 23 rfl) (by decide) pd_4 rfl rfl rfl (by decide) (by decide) rfl rfl (by decide) (by decide) d3_25 (pc' := 28) rfl rfl ?_
      refine go_lastore C A i ht (by rw [lf_len]; omega) gr d3_28 (pc' := 29) rfl ?_
      intro h_3 W_4 A_5
      have F_7 := Fld.other W_4 F (Or.inl hne)
      have A_8 := Av.other B W_4 hbr
      have K_9 := Keep.wr K W_4 (Or.inl (by simp))
      refine go_iinc C (Ls' := #[.val (.ref a), .val (.ref b), .val (.int (t + (1 : Int32)))]) (1 : Int32) d3_29 (pc' := 32) rfl (by decide) rfl rfl ?_
      refine go_goto C d3_32 (by decide) (pc' := 2) (by decide) ?_
      have q := A_5
      rw [lf_set] at q
      have q2 : Av Z h_3 r .long (lf S (fun j => if j < (i + 1) then o_maxL (f j) (g j) else f j)) := (lf_step (fun j => o_maxL (f j) (g j)) f) ▸ q
      exact ih (i + 1) _ _ (by omega) (own_next ht (by omega)) K_9 F_7 q2 A_8
  exact loop S 0 _ _ (by omega) (by decide) (Keep.refl _ _) F1 ((lf_congr (fun j hj => (if_neg (Nat.not_lt_zero j)).symm) : lf S f = lf S (fun j => if j < 0 then o_maxL (f j) (g j) else f j)) ▸ A1) A2
set_option maxRecDepth 65536 in
set_option maxHeartbeats 40000000 in
theorem sat_slot (l : Launch) (Z : State) (a0 : Array Value) (hw : ∀ d ∈ tables_1, d.before a0 Z = true) (b b2 : Addr) (i sz ow nn : Int32) (xx : Int64) (k : Nat) (vb va : List Value) (h0 : Heap) (n0 : Nat) (hk : i.toInt = (k : Int)) (A1 : Av Z h0 b .long vb) (A2 : Av Z h0 b2 .long va) (hB : i.toInt < sz.toInt → vb[k]? = some (.long (o_maxL 0 xx))) (hA : i.toInt < sz.toInt → i.toInt = ow.toInt → va[k]? = some (.long (o_maxL 0 xx + nn.toInt64))) (hA' : i.toInt < sz.toInt → ¬ i.toInt = ow.toInt → va[k]? = some (.long (o_maxL 0 xx))) :
    Sat l Z (⟨"com/example/holder/holder/protocol/VectorClockTickPinLaw", "slot", "([J[JIIIIJ)Z"⟩ : MethodName) method_3_code 12 (some .boolean) ({ frames := 1, cells := 0, slots := 0, locals := 15 } : Room) [.ref b, .ref b2, .int i, .int sz, .int ow, .int nn, .long xx] h0 n0 (RV fun r h => r = .int 1 ∧ h = h0) := by
  refine sat_of (own := "com/example/holder/holder/protocol/VectorClockTickPinLaw") (nm := "slot") rfl rfl (plainFor_of_name pn_0) #[.val (.ref b), .val (.ref b2), .val (.int i), .val (.int sz), .val (.int ow), .val (.int nn), .val (.long xx), .second, .unset, .unset, .unset, .unset] (fun m => by first | rfl | (simp [entryFrame, mkF, argsToLocals, Value.category]; done)) ?_
  intro p e s m below meth c C
  refine go_iloadN C d6_0 (pc' := 1) rfl rfl ?_
  refine go_iloadN C d6_1 (pc' := 2) rfl rfl ?_
  refine go_icmp C i.toInt sz.toInt rfl rfl d6_2 (by decide) (pc' := 7) (by decide) (pcN := 5) rfl (fun (c_1 : i.toInt < sz.toInt) => ?_) (fun (c_1 : ¬ i.toInt < sz.toInt) => ?_)
  · skip
    refine go_lconst C (0 : Int64) d6_7 (pc' := 8) rfl (by decide) ?_
    refine go_lload C d6_8 (pc' := 10) rfl rfl ?_
    refine go_staticP C (as := [.long (0 : Int64), .long xx]) (rest := []) (W := 0) (.long (o_maxL (0 : Int64) xx)) (sat_max l Z a0 hw (0 : Int64) xx _ _) (wd hw 42 rfl) (wd hw 21 rfl) (wd hw 22 rfl) (wd hw 23 rfl) (by decide) pd_4 rfl rfl rfl (by decide) (by decide) rfl rfl (by decide) (by decide) d6_10 (pc' := 13) rfl rfl ?_
    refine go_lstore C (Ls' := #[.val (.ref b), .val (.ref b2), .val (.int i), .val (.int sz), .val (.int ow), .val (.int nn), .val (.long xx), .second, .val (.long (o_maxL (0 : Int64) xx)), .second, .unset, .unset]) d6_13 (pc' := 15) rfl rfl ?_
    refine go_iloadN C d6_15 (pc' := 16) rfl rfl ?_
    refine go_iload C d6_16 (pc' := 18) rfl rfl ?_
    refine go_icmp C i.toInt ow.toInt rfl rfl d6_18 (by decide) (pc' := 30) (by decide) (pcN := 21) rfl (fun (c_2 : ¬ i.toInt = ow.toInt) => ?_) (fun (c_2 : i.toInt = ow.toInt) => ?_)
    · skip
      refine go_lload C d6_30 (pc' := 32) rfl rfl ?_
      refine go_lstore C (Ls' := #[.val (.ref b), .val (.ref b2), .val (.int i), .val (.int sz), .val (.int ow), .val (.int nn), .val (.long xx), .second, .val (.long (o_maxL (0 : Int64) xx)), .second, .val (.long (o_maxL (0 : Int64) xx)), .second]) d6_32 (pc' := 34) rfl rfl ?_
      refine go_aloadN C d6_34 (pc' := 35) rfl rfl rfl ?_
      refine go_iloadN C d6_35 (pc' := 36) rfl rfl ?_
      refine go_laload C A1 k (.long (o_maxL (0 : Int64) xx)) hk (hB (by omega)) d6_36 (pc' := 37) rfl ?_
      refine go_lload C d6_37 (pc' := 39) rfl rfl ?_
      refine go_lcmp C ((o_maxL (0 : Int64) xx).toInt) ((o_maxL (0 : Int64) xx).toInt) rfl rfl d6_39 (pc1 := 40) rfl d6_40 (by decide) (pc' := 56) (by decide) (pcN := 43) rfl (fun (c_3 : ¬ ((o_maxL (0 : Int64) xx).toInt) = ((o_maxL (0 : Int64) xx).toInt)) => by omega) (fun (c_3 : ((o_maxL (0 : Int64) xx).toInt) = ((o_maxL (0 : Int64) xx).toInt)) => ?_)
      refine go_aloadN C d6_43 (pc' := 44) rfl rfl rfl ?_
      refine go_iloadN C d6_44 (pc' := 45) rfl rfl ?_
      refine go_laload C A2 k (.long (o_maxL (0 : Int64) xx)) hk (hA' (by omega) (by omega)) d6_45 (pc' := 46) rfl ?_
      refine go_lload C d6_46 (pc' := 48) rfl rfl ?_
      refine go_lcmp C ((o_maxL (0 : Int64) xx).toInt) ((o_maxL (0 : Int64) xx).toInt) rfl rfl d6_48 (pc1 := 49) rfl d6_49 (by decide) (pc' := 56) (by decide) (pcN := 52) rfl (fun (c_4 : ¬ ((o_maxL (0 : Int64) xx).toInt) = ((o_maxL (0 : Int64) xx).toInt)) => by omega) (fun (c_4 : ((o_maxL (0 : Int64) xx).toInt) = ((o_maxL (0 : Int64) xx).toInt)) => ?_)
      refine go_iconst C (1 : Int32) d6_52 (pc' := 53) rfl (by decide) ?_
      refine go_goto C d6_53 (by decide) (pc' := 57) (by decide) ?_
      refine go_ireturnN C (z' := (1 : Int32)) rfl (by simp) rfl d6_57 (by decide) (by decide) ?_
      exact ⟨_, rfl, rfl, rfl⟩
    · skip
      refine go_lload C d6_21 (pc' := 23) rfl rfl ?_
      refine go_iload C d6_23 (pc' := 25) rfl rfl ?_
      refine go_i2l C d6_25 (pc' := 26) rfl ?_
      refine go_ladd C d6_26 (pc' := 27) rfl ?_
      refine go_goto C d6_27 (by decide) (pc' := 32) (by decide) ?_
      refine go_lstore C (Ls' := #[.val (.ref b), .val (.ref b2), .val (.int i), .val (.int sz), .val (.int ow), .val (.int nn), .val (.long xx), .second, .val (.long (o_maxL (0 : Int64) xx)), .second, .val (.long ((o_maxL (0 : Int64) xx) + nn.toInt64)), .second]) d6_32 (pc' := 34) rfl rfl ?_
      refine go_aloadN C d6_34 (pc' := 35) rfl rfl rfl ?_
      refine go_iloadN C d6_35 (pc' := 36) rfl rfl ?_
      refine go_laload C A1 k (.long (o_maxL (0 : Int64) xx)) hk (hB (by omega)) d6_36 (pc' := 37) rfl ?_
      refine go_lload C d6_37 (pc' := 39) rfl rfl ?_
      refine go_lcmp C ((o_maxL (0 : Int64) xx).toInt) ((o_maxL (0 : Int64) xx).toInt) rfl rfl d6_39 (pc1 := 40) rfl d6_40 (by decide) (pc' := 56) (by decide) (pcN := 43) rfl (fun (c_5 : ¬ ((o_maxL (0 : Int64) xx).toInt) = ((o_maxL (0 : Int64) xx).toInt)) => by omega) (fun (c_5 : ((o_maxL (0 : Int64) xx).toInt) = ((o_maxL (0 : Int64) xx).toInt)) => ?_)
      refine go_aloadN C d6_43 (pc' := 44) rfl rfl rfl ?_
      refine go_iloadN C d6_44 (pc' := 45) rfl rfl ?_
      refine go_laload C A2 k (.long ((o_maxL (0 : Int64) xx) + nn.toInt64)) hk (hA (by omega) (by omega)) d6_45 (pc' := 46) rfl ?_
      refine go_lload C d6_46 (pc' := 48) rfl rfl ?_
      refine go_lcmp C (((o_maxL (0 : Int64) xx) + nn.toInt64).toInt) (((o_maxL (0 : Int64) xx) + nn.toInt64).toInt) rfl rfl d6_48 (pc1 := 49) rfl d6_49 (by decide) (pc' := 56) (by decide) (pcN := 52) rfl (fun (c_6 : ¬ (((o_maxL (0 : Int64) xx) + nn.toInt64).toInt) = (((o_maxL (0 : Int64) xx) + nn.toInt64).toInt)) => by omega) (fun (c_6 : (((o_maxL (0 : Int64) xx) + nn.toInt64).toInt) = (((o_maxL (0 : Int64) xx) + nn.toInt64).toInt)) => ?_)
      refine go_iconst C (1 : Int32) d6_52 (pc' := 53) rfl (by decide) ?_
      refine go_goto C d6_53 (by decide) (pc' := 57) (by decide) ?_
      refine go_ireturnN C (z' := (1 : Int32)) rfl (by simp) rfl d6_57 (by decide) (by decide) ?_
      exact ⟨_, rfl, rfl, rfl⟩
  · skip
    refine go_iconst C (1 : Int32) d6_5 (pc' := 6) rfl (by decide) ?_
    refine go_ireturnN C (z' := (1 : Int32)) rfl (by simp) rfl d6_6 (by decide) (by decide) ?_
    exact ⟨_, rfl, rfl, rfl⟩
set_option maxRecDepth 65536 in
set_option maxHeartbeats 40000000 in
theorem law_sat (l : Launch) (Z : State) (a0 : Array Value) (hw : ∀ d ∈ tables_1, d.before a0 Z = true) (x0 x1 : Int32) (p0 p1 p2 p3 : Int64)  :
    Sat l Z x code maxLocals ret room_1 [.int x0, .int x1, .long p0, .long p1, .long p2, .long p3] Z.heap Z.heap.size (RV fun r _ => r = .int 1) := by
  refine sat_of (own := "com/example/holder/holder/protocol/VectorClockTickPinLaw") (nm := "law") rfl rfl (plainFor_of_name pn_0) #[.val (.int x0), .val (.int x1), .val (.long p0), .second, .val (.long p1), .second, .val (.long p2), .second, .val (.long p3), .second, .unset, .unset, .unset, .unset, .unset, .unset] (fun m => by first | rfl | (simp [entryFrame, mkF, argsToLocals, Value.category]; done)) ?_
  intro p e s m below meth c C
  refine go_iconst C (1 : Int32) at_0 (pc' := 1) rfl (by decide) ?_
  refine go_iloadN C at_1 (pc' := 2) rfl rfl ?_
  refine go_iconst C (3 : Int32) at_2 (pc' := 3) rfl (by decide) ?_
  refine go_iand C at_3 (pc' := 4) rfl ?_
  refine go_iadd C at_4 (pc' := 5) rfl ?_
  refine go_istore C (Ls' := #[.val (.int x0), .val (.int x1), .val (.long p0), .second, .val (.long p1), .second, .val (.long p2), .second, .val (.long p3), .second, .val (.int ((1 : Int32) + (x0 &&& (3 : Int32)))), .unset, .unset, .unset, .unset, .unset]) at_5 (pc' := 7) rfl rfl ?_
  have k1 : ((1 : Int32)).toInt = 1 := by decide
  have hm : (x0 &&& (3 : Int32)).toInt = x0.toInt % 2 ^ 2 := Jvm.Kit.i32_mask x0 _ (k := 2) (by decide) (by decide)
  have hz : ((1 : Int32) + (x0 &&& (3 : Int32))).toInt = 1 + x0.toInt % 2 ^ 2 := by rw [Jvm.Kit.i32_add (by omega) (by omega), hm, k1]
  obtain ⟨S, hS⟩ : ∃ S : Nat, ((1 : Int32) + (x0 &&& (3 : Int32))).toInt = (S : Int) := ⟨(1 + x0.toInt % 2 ^ 2).toNat, by omega⟩
  have hS1 : 1 ≤ S := by omega
  have hS4 : S ≤ 4 := by omega
  clear hz hm
  generalize (1 : Int32) + (x0 &&& (3 : Int32)) = sz at hS ⊢
  refine go_iloadN C at_7 (pc' := 8) rfl rfl ?_
  refine go_iconst C (2 : Int32) at_8 (pc' := 9) rfl (by decide) ?_
  refine go_iushr C at_9 (pc' := 10) rfl ?_
  refine go_iconst C (3 : Int32) at_10 (pc' := 11) rfl (by decide) ?_
  refine go_iand C at_11 (pc' := 12) rfl ?_
  refine go_istore C (Ls' := #[.val (.int x0), .val (.int x1), .val (.long p0), .second, .val (.long p1), .second, .val (.long p2), .second, .val (.long p3), .second, .val (.int sz), .val (.int ((XT.ushr x0 (2 : Int32)) &&& (3 : Int32))), .unset, .unset, .unset, .unset]) at_12 (pc' := 14) rfl rfl ?_
  have hzz : sz ≠ 0 := fun q => by rw [q, (by decide : ((0 : Int32)).toInt = 0)] at hS; omega
  rcases own_k4 (XT.ushr x0 (2 : Int32)) with hn | hn | hn | hn
  · rw [hn]
    refine go_iloadN C at_14 (pc' := 15) rfl rfl ?_
    refine go_ldc C (v := (2147483647 : Int32)) (wd hw 0 rfl) at_15 (pc' := 17) rfl ?_
    refine go_iand C at_17 (pc' := 18) rfl ?_
    refine go_iload C at_18 (pc' := 20) rfl rfl ?_
    refine go_irem C at_20 (pc' := 21) rfl hzz ?_
    refine go_istore C (Ls' := #[.val (.int x0), .val (.int x1), .val (.long p0), .second, .val (.long p1), .second, .val (.long p2), .second, .val (.long p3), .second, .val (.int sz), .val (.int (0 : Int32)), .val (.int ((x1 &&& (2147483647 : Int32)) % sz)), .unset, .unset, .unset]) at_21 (pc' := 23) rfl rfl ?_
    have hm2 : (x1 &&& (2147483647 : Int32)).toInt = x1.toInt % 2 ^ 31 := Jvm.Kit.i32_mask x1 _ (k := 31) (by decide) (by decide)
    have h6 : ((x1 &&& (2147483647 : Int32)) % sz).toInt = (x1 &&& (2147483647 : Int32)).toInt % sz.toInt := Jvm.Kit.i32_rem_nonneg (by omega)
    have hN1 : 0 ≤ ((x1 &&& (2147483647 : Int32)) % sz).toInt := by rw [h6]; exact Int.emod_nonneg _ (by omega)
    have hN2 : ((x1 &&& (2147483647 : Int32)) % sz).toInt < sz.toInt := by rw [h6]; exact Int.emod_lt_of_pos _ (by omega)
    obtain ⟨k, hk⟩ : ∃ k : Nat, ((x1 &&& (2147483647 : Int32)) % sz).toInt = (k : Int) := ⟨((x1 &&& (2147483647 : Int32)) % sz).toInt.toNat, by omega⟩
    have hkS : k < S := by omega
    clear h6 hm2 hN1 hN2
    generalize (x1 &&& (2147483647 : Int32)) % sz = ow at hk ⊢
    refine go_new C (wd hw 1 rfl) (wd hw 2 rfl) (wd hw 3 rfl) at_23 (pc' := 26) rfl (ce' := 1) (sl' := 2) rfl rfl (by decide) (by decide) ?_
    intro h_1 a_2 g_3 E_4 E_5 D_6
    have g_7 : Z.heap.size ≤ a_2 := own_ge (Nat.le_refl _) g_3
    have z_8 : Z.heap.size ≤ h_1.size := Nat.le_trans (Nat.le_refl _) E_4.1
    have F_9 : Fld Z h_1 a_2 "com/example/holder/holder/protocol/VectorClock" "counters" "[J" (.null) := D_6 (Or.inr (wd hw 12 rfl)) (ty := (.array .long)) (by decide)
    have F_10 : Fld Z h_1 a_2 "com/example/holder/holder/protocol/VectorClock" "own" "I" (.int (0 : Int32)) := D_6 (Or.inr (wd hw 14 rfl)) (ty := .int) (by decide)
    refine go_dup C at_26 (pc' := 27) rfl rfl ?_
    refine go_iload C at_27 (pc' := 29) rfl rfl ?_
    refine go_iload C at_29 (pc' := 31) rfl rfl ?_
    refine go_specialN C (as := [.int sz, .int ow]) (rest := [.ref a_2]) (W := 1) (sat_init l Z a0 hw a_2 sz ow S _ _ hS hS4 E_5 F_9 F_10 g_7 z_8) rfl (wd hw 4 rfl) (wd hw 5 rfl) (wd hw 3 rfl) (wd hw 6 rfl) (by decide) pd_1 rfl rfl rfl (by decide) (by decide) (ce' := 2) (sl' := 6) rfl rfl (by decide) (by decide) at_31 (pc' := 34) rfl rfl ?_
    intro h_11 q_12
    obtain ⟨r_13, g_14, n_15, E_16, F_17, F_18, E_19, A_20⟩ := q_12
    refine go_astore C (Ls' := #[.val (.int x0), .val (.int x1), .val (.long p0), .second, .val (.long p1), .second, .val (.long p2), .second, .val (.long p3), .second, .val (.int sz), .val (.int (0 : Int32)), .val (.int ow), .val (.ref a_2), .unset, .unset]) at_34 (pc' := 36) rfl rfl rfl ?_
    refine go_aload C at_36 (pc' := 38) rfl rfl rfl ?_
    refine go_iconst C (4 : Int32) at_38 (pc' := 39) rfl (by decide) ?_
    refine go_newarray C (wd hw 10 rfl) rfl 4 4 (by decide) (by decide) (by decide) (ce' := 3) (sl' := 10) rfl rfl (by decide) (by decide) at_39 (pc' := 41) rfl ?_
    intro h_21 a_22 g_23 E_24 A_25
    have n_26 : a_2 ≠ a_22 := own_ne_new E_16.lt g_23
    have n_27 : r_13 ≠ a_22 := own_ne_new A_20.lt g_23
    have g_28 : Z.heap.size ≤ a_22 := own_ge (Nat.le_of_lt (Nat.lt_of_le_of_lt g_7 E_16.lt)) g_23
    have F_29 := Fld.ext E_24 F_17
    have F_30 := Fld.ext E_24 F_18
    have E_31 := Exa.ext E_24 E_16
    have E_32 := Exa.ext E_24 E_19
    have A_33 := Av.ext A_20 E_24
    have z_34 : Z.heap.size ≤ h_21.size := Nat.le_trans (Nat.le_of_lt (Nat.lt_of_le_of_lt g_7 E_16.lt)) E_24.1
    have A_35 : Av Z h_21 a_22 .long [.long (0 : Int64), .long (0 : Int64), .long (0 : Int64), .long (0 : Int64)] := A_25
    refine go_dup C at_41 (pc' := 42) rfl rfl ?_
    refine go_iconst C (0 : Int32) at_42 (pc' := 43) rfl (by decide) ?_
    refine go_lloadN C at_43 (pc' := 44) rfl rfl ?_
    refine go_lastore C A_35 0 (by decide) (show 0 < 4 from by decide) g_28 at_44 (pc' := 45) rfl ?_
    intro h_36 W_37 A_38
    have z_39 : Z.heap.size ≤ h_36.size := W_37.size.symm ▸ z_34
    have F_40 := Fld.other W_37 F_29 (Or.inl n_26)
    have F_41 := Fld.other W_37 F_30 (Or.inl n_26)
    have E_42 := Exa.wr W_37 E_31
    have E_43 := Exa.wr W_37 E_32
    have A_44 := Av.other A_33 W_37 n_27
    have A_45 : Av Z h_36 a_22 .long [.long p0, .long (0 : Int64), .long (0 : Int64), .long (0 : Int64)] := A_38
    refine go_dup C at_45 (pc' := 46) rfl rfl ?_
    refine go_iconst C (1 : Int32) at_46 (pc' := 47) rfl (by decide) ?_
    refine go_lload C at_47 (pc' := 49) rfl rfl ?_
    refine go_lastore C A_45 1 (by decide) (show 1 < 4 from by decide) g_28 at_49 (pc' := 50) rfl ?_
    intro h_46 W_47 A_48
    have z_49 : Z.heap.size ≤ h_46.size := W_47.size.symm ▸ z_39
    have F_50 := Fld.other W_47 F_40 (Or.inl n_26)
    have F_51 := Fld.other W_47 F_41 (Or.inl n_26)
    have E_52 := Exa.wr W_47 E_42
    have E_53 := Exa.wr W_47 E_43
    have A_54 := Av.other A_44 W_47 n_27
    have A_55 : Av Z h_46 a_22 .long [.long p0, .long p1, .long (0 : Int64), .long (0 : Int64)] := A_48
    refine go_dup C at_50 (pc' := 51) rfl rfl ?_
    refine go_iconst C (2 : Int32) at_51 (pc' := 52) rfl (by decide) ?_
    refine go_lload C at_52 (pc' := 54) rfl rfl ?_
    refine go_lastore C A_55 2 (by decide) (show 2 < 4 from by decide) g_28 at_54 (pc' := 55) rfl ?_
    intro h_56 W_57 A_58
    have z_59 : Z.heap.size ≤ h_56.size := W_57.size.symm ▸ z_49
    have F_60 := Fld.other W_57 F_50 (Or.inl n_26)
    have F_61 := Fld.other W_57 F_51 (Or.inl n_26)
    have E_62 := Exa.wr W_57 E_52
    have E_63 := Exa.wr W_57 E_53
    have A_64 := Av.other A_54 W_57 n_27
    have A_65 : Av Z h_56 a_22 .long [.long p0, .long p1, .long p2, .long (0 : Int64)] := A_58
    refine go_dup C at_55 (pc' := 56) rfl rfl ?_
    refine go_iconst C (3 : Int32) at_56 (pc' := 57) rfl (by decide) ?_
    refine go_lload C at_57 (pc' := 59) rfl rfl ?_
    refine go_lastore C A_65 3 (by decide) (show 3 < 4 from by decide) g_28 at_59 (pc' := 60) rfl ?_
    intro h_66 W_67 A_68
    have z_69 : Z.heap.size ≤ h_66.size := W_67.size.symm ▸ z_59
    have F_70 := Fld.other W_67 F_60 (Or.inl n_26)
    have F_71 := Fld.other W_67 F_61 (Or.inl n_26)
    have E_72 := Exa.wr W_67 E_62
    have E_73 := Exa.wr W_67 E_63
    have A_74 := Av.other A_64 W_67 n_27
    have A_75 : Av Z h_66 a_22 .long [.long p0, .long p1, .long p2, .long p3] := A_68
    refine go_virtualN C (as := [.ref a_22]) (rest := []) (W := 0) (sat_merge l Z a0 hw a_2 a_22 r_13 sz S 4 (fun _ => 0) (g4 p0 p1 p2 p3) _ _ hS hS4 (by decide) F_70 A_74 A_75 g_14 n_15 (Ne.symm n_27)) E_72 (wd hw 15 rfl) (wd hw 16 rfl) (wd hw 18 rfl) (wd hw 17 rfl) (wd hw 3 rfl) (wd hw 19 rfl) (by decide) pd_3 rfl rfl rfl (by decide) (by decide) (ce' := 3) (sl' := 10) rfl rfl (by decide) (by decide) at_60 (pc' := 63) rfl rfl ?_
    intro h_76 q_77
    obtain ⟨K_78, A_79⟩ := q_77
    have z_80 : Z.heap.size ≤ h_76.size := Nat.le_trans z_69 K_78.1
    have F_81 := Fld.keep F_70 K_78 (ninS n_15 nin0)
    have F_82 := Fld.keep F_71 K_78 (ninS n_15 nin0)
    have E_83 := Exa.keep E_72 K_78
    have E_84 := Exa.keep E_73 K_78
    have A_85 := Av.keep A_75 K_78 (ninS (Ne.symm n_27) nin0)
    refine go_aload C at_63 (pc' := 65) rfl rfl rfl ?_
    refine go_virtualV C (as := []) (rest := []) (W := 0) (sat_vec l Z a0 hw a_2 r_13 S (fun j => o_maxL ((fun _ => 0) j) ((g4 p0 p1 p2 p3) j)) _ _ hS4 F_81 E_84 A_79 z_80) E_83 (wd hw 24 rfl) (wd hw 25 rfl) (wd hw 27 rfl) (wd hw 26 rfl) (wd hw 3 rfl) (wd hw 28 rfl) (by decide) pd_5 rfl rfl rfl (by decide) (by decide) (ce' := 4) (sl' := 14) rfl rfl (by decide) (by decide) at_65 (pc' := 68) rfl rfl ?_
    intro r_86 h_87 q_88
    obtain ⟨b_89, rfl, g_90, g_91, K_92, A_93⟩ := q_88
    have n_94 : a_22 ≠ b_89 := Nat.ne_of_lt (Nat.lt_of_lt_of_le A_85.lt g_91)
    have n_95 : r_13 ≠ b_89 := Nat.ne_of_lt (Nat.lt_of_lt_of_le A_79.lt g_91)
    have z_96 : Z.heap.size ≤ h_87.size := Nat.le_trans z_80 K_92.1
    have F_97 := Fld.keep F_81 K_92 nin0
    have F_98 := Fld.keep F_82 K_92 nin0
    have E_99 := Exa.keep E_83 K_92
    have E_100 := Exa.keep E_84 K_92
    have A_101 := Av.keep A_85 K_92 nin0
    have A_102 := Av.keep A_79 K_92 nin0
    refine go_astore C (Ls' := #[.val (.int x0), .val (.int x1), .val (.long p0), .second, .val (.long p1), .second, .val (.long p2), .second, .val (.long p3), .second, .val (.int sz), .val (.int (0 : Int32)), .val (.int ow), .val (.ref a_2), .val (.ref b_89), .unset]) at_68 (pc' := 70) rfl rfl rfl ?_
    refine go_iload C at_70 (pc' := 72) rfl rfl ?_
    refine go_iconst C (1 : Int32) at_72 (pc' := 73) rfl (by decide) ?_
    refine go_icmp C (0 : Int) (1 : Int) (by decide) (by decide) at_73 (by decide) (pc' := 81) (by decide) (pcN := 76) rfl (fun (c_103 : (0 : Int) < (1 : Int)) => ?_) (fun (c_103 : ¬ (0 : Int) < (1 : Int)) => by omega)
    refine go_iload C at_81 (pc' := 83) rfl rfl ?_
    refine go_iconst C (2 : Int32) at_83 (pc' := 84) rfl (by decide) ?_
    refine go_icmp C (0 : Int) (2 : Int) (by decide) (by decide) at_84 (by decide) (pc' := 92) (by decide) (pcN := 87) rfl (fun (c_104 : (0 : Int) < (2 : Int)) => ?_) (fun (c_104 : ¬ (0 : Int) < (2 : Int)) => by omega)
    refine go_iload C at_92 (pc' := 94) rfl rfl ?_
    refine go_iconst C (3 : Int32) at_94 (pc' := 95) rfl (by decide) ?_
    refine go_icmp C (0 : Int) (3 : Int) (by decide) (by decide) at_95 (by decide) (pc' := 103) (by decide) (pcN := 98) rfl (fun (c_105 : (0 : Int) < (3 : Int)) => ?_) (fun (c_105 : ¬ (0 : Int) < (3 : Int)) => by omega)
    refine go_aload C at_103 (pc' := 105) rfl rfl rfl ?_
    refine go_virtualV C (as := []) (rest := []) (W := 0) (sat_vec l Z a0 hw a_2 r_13 S (fun j => o_maxL ((fun _ => 0) j) ((g4 p0 p1 p2 p3) j)) _ _ hS4 F_97 E_100 A_102 z_96) E_99 (wd hw 24 rfl) (wd hw 25 rfl) (wd hw 27 rfl) (wd hw 26 rfl) (wd hw 3 rfl) (wd hw 28 rfl) (by decide) pd_5 rfl rfl rfl (by decide) (by decide) (ce' := 5) (sl' := 18) rfl rfl (by decide) (by decide) at_105 (pc' := 108) rfl rfl ?_
    intro r_106 h_107 q_108
    obtain ⟨b_109, rfl, g_110, g_111, K_112, A_113⟩ := q_108
    have n_114 : a_22 ≠ b_109 := Nat.ne_of_lt (Nat.lt_of_lt_of_le A_101.lt g_111)
    have n_115 : r_13 ≠ b_109 := Nat.ne_of_lt (Nat.lt_of_lt_of_le A_102.lt g_111)
    have n_116 : b_89 ≠ b_109 := Nat.ne_of_lt (Nat.lt_of_lt_of_le A_93.lt g_111)
    have z_117 : Z.heap.size ≤ h_107.size := Nat.le_trans z_96 K_112.1
    have F_118 := Fld.keep F_97 K_112 nin0
    have F_119 := Fld.keep F_98 K_112 nin0
    have E_120 := Exa.keep E_99 K_112
    have E_121 := Exa.keep E_100 K_112
    have A_122 := Av.keep A_101 K_112 nin0
    have A_123 := Av.keep A_102 K_112 nin0
    have A_124 := Av.keep A_93 K_112 nin0
    refine go_astore C (Ls' := #[.val (.int x0), .val (.int x1), .val (.long p0), .second, .val (.long p1), .second, .val (.long p2), .second, .val (.long p3), .second, .val (.int sz), .val (.int (0 : Int32)), .val (.int ow), .val (.ref a_2), .val (.ref b_89), .val (.ref b_109)]) at_108 (pc' := 110) rfl rfl rfl ?_
    refine go_aload C at_110 (pc' := 112) rfl rfl rfl ?_
    refine go_arraylength C A_124 sz (by rw [lf_len]; exact hS) at_112 (pc' := 113) rfl ?_
    refine go_iload C at_113 (pc' := 115) rfl rfl ?_
    refine go_icmp C sz.toInt sz.toInt rfl rfl at_115 (by decide) (pc' := 126) (by decide) (pcN := 118) rfl (fun (c_125 : ¬ sz.toInt = sz.toInt) => by omega) (fun (c_125 : sz.toInt = sz.toInt) => ?_)
    refine go_aload C at_118 (pc' := 120) rfl rfl rfl ?_
    refine go_arraylength C A_113 sz (by rw [lf_len]; exact hS) at_120 (pc' := 121) rfl ?_
    refine go_iload C at_121 (pc' := 123) rfl rfl ?_
    refine go_icmp C sz.toInt sz.toInt rfl rfl at_123 (by decide) (pc' := 128) (by decide) (pcN := 126) rfl (fun (c_126 : sz.toInt = sz.toInt) => ?_) (fun (c_126 : ¬ sz.toInt = sz.toInt) => by omega)
    refine go_aload C at_128 (pc' := 130) rfl rfl rfl ?_
    refine go_aload C at_130 (pc' := 132) rfl rfl rfl ?_
    refine go_iconst C (0 : Int32) at_132 (pc' := 133) rfl (by decide) ?_
    refine go_iload C at_133 (pc' := 135) rfl rfl ?_
    refine go_iload C at_135 (pc' := 137) rfl rfl ?_
    refine go_iload C at_137 (pc' := 139) rfl rfl ?_
    refine go_lloadN C at_139 (pc' := 140) rfl rfl ?_
    refine go_staticP C (as := [.ref b_89, .ref b_109, .int (0 : Int32), .int sz, .int ow, .int (0 : Int32), .long p0]) (rest := []) (W := 0) (.int (1 : Int32)) (sat_slot l Z a0 hw b_89 b_109 (0 : Int32) sz ow (0 : Int32) p0 0 _ _ _ _ (by decide) A_124 A_113 (fun q => (lf_get _ (by rw [(by decide : (0 : Int32).toInt = 0)] at q; omega)).trans rfl) (fun q q2 => (lf_get _ (by rw [(by decide : (0 : Int32).toInt = 0)] at q; omega)).trans (by rw [(by decide : (0 : Int32).toInt = 0)] at q2; have z : 0 = k := (by omega); subst z; first | exact congrArg (fun v => some (Value.long v)) (own_t0 _) | (simp only [if_true, ite_true, if_pos]; exact congrArg (fun v => some (Value.long v)) (own_t0 _)))) (fun q q2 => (lf_get _ (by rw [(by decide : (0 : Int32).toInt = 0)] at q; omega)).trans (by rw [(by decide : (0 : Int32).toInt = 0)] at q2; have z : ¬ 0 = k := (by omega); simp only [if_neg z]; rfl))) (wd hw 38 rfl) (wd hw 39 rfl) (wd hw 40 rfl) (wd hw 41 rfl) (by decide) pd_6 rfl rfl rfl (by decide) (by decide) rfl rfl (by decide) (by decide) at_140 (pc' := 143) rfl rfl ?_
    refine go_if0 C (1 : Int) (by decide) at_143 (by decide) (pc' := 207) (by decide) (pcN := 146) rfl (fun (c_127 : (1 : Int) = 0) => by omega) (fun (c_127 : ¬ (1 : Int) = 0) => ?_)
    refine go_aload C at_146 (pc' := 148) rfl rfl rfl ?_
    refine go_aload C at_148 (pc' := 150) rfl rfl rfl ?_
    refine go_iconst C (1 : Int32) at_150 (pc' := 151) rfl (by decide) ?_
    refine go_iload C at_151 (pc' := 153) rfl rfl ?_
    refine go_iload C at_153 (pc' := 155) rfl rfl ?_
    refine go_iload C at_155 (pc' := 157) rfl rfl ?_
    refine go_lload C at_157 (pc' := 159) rfl rfl ?_
    refine go_staticP C (as := [.ref b_89, .ref b_109, .int (1 : Int32), .int sz, .int ow, .int (0 : Int32), .long p1]) (rest := []) (W := 0) (.int (1 : Int32)) (sat_slot l Z a0 hw b_89 b_109 (1 : Int32) sz ow (0 : Int32) p1 1 _ _ _ _ (by decide) A_124 A_113 (fun q => (lf_get _ (by rw [(by decide : (1 : Int32).toInt = 1)] at q; omega)).trans rfl) (fun q q2 => (lf_get _ (by rw [(by decide : (1 : Int32).toInt = 1)] at q; omega)).trans (by rw [(by decide : (1 : Int32).toInt = 1)] at q2; have z : 1 = k := (by omega); subst z; first | exact congrArg (fun v => some (Value.long v)) (own_t0 _) | (simp only [if_true, ite_true, if_pos]; exact congrArg (fun v => some (Value.long v)) (own_t0 _)))) (fun q q2 => (lf_get _ (by rw [(by decide : (1 : Int32).toInt = 1)] at q; omega)).trans (by rw [(by decide : (1 : Int32).toInt = 1)] at q2; have z : ¬ 1 = k := (by omega); simp only [if_neg z]; rfl))) (wd hw 38 rfl) (wd hw 39 rfl) (wd hw 40 rfl) (wd hw 41 rfl) (by decide) pd_6 rfl rfl rfl (by decide) (by decide) rfl rfl (by decide) (by decide) at_159 (pc' := 162) rfl rfl ?_
    refine go_if0 C (1 : Int) (by decide) at_162 (by decide) (pc' := 207) (by decide) (pcN := 165) rfl (fun (c_128 : (1 : Int) = 0) => by omega) (fun (c_128 : ¬ (1 : Int) = 0) => ?_)
    refine go_aload C at_165 (pc' := 167) rfl rfl rfl ?_
    refine go_aload C at_167 (pc' := 169) rfl rfl rfl ?_
    refine go_iconst C (2 : Int32) at_169 (pc' := 170) rfl (by decide) ?_
    refine go_iload C at_170 (pc' := 172) rfl rfl ?_
    refine go_iload C at_172 (pc' := 174) rfl rfl ?_
    refine go_iload C at_174 (pc' := 176) rfl rfl ?_
    refine go_lload C at_176 (pc' := 178) rfl rfl ?_
    refine go_staticP C (as := [.ref b_89, .ref b_109, .int (2 : Int32), .int sz, .int ow, .int (0 : Int32), .long p2]) (rest := []) (W := 0) (.int (1 : Int32)) (sat_slot l Z a0 hw b_89 b_109 (2 : Int32) sz ow (0 : Int32) p2 2 _ _ _ _ (by decide) A_124 A_113 (fun q => (lf_get _ (by rw [(by decide : (2 : Int32).toInt = 2)] at q; omega)).trans rfl) (fun q q2 => (lf_get _ (by rw [(by decide : (2 : Int32).toInt = 2)] at q; omega)).trans (by rw [(by decide : (2 : Int32).toInt = 2)] at q2; have z : 2 = k := (by omega); subst z; first | exact congrArg (fun v => some (Value.long v)) (own_t0 _) | (simp only [if_true, ite_true, if_pos]; exact congrArg (fun v => some (Value.long v)) (own_t0 _)))) (fun q q2 => (lf_get _ (by rw [(by decide : (2 : Int32).toInt = 2)] at q; omega)).trans (by rw [(by decide : (2 : Int32).toInt = 2)] at q2; have z : ¬ 2 = k := (by omega); simp only [if_neg z]; rfl))) (wd hw 38 rfl) (wd hw 39 rfl) (wd hw 40 rfl) (wd hw 41 rfl) (by decide) pd_6 rfl rfl rfl (by decide) (by decide) rfl rfl (by decide) (by decide) at_178 (pc' := 181) rfl rfl ?_
    refine go_if0 C (1 : Int) (by decide) at_181 (by decide) (pc' := 207) (by decide) (pcN := 184) rfl (fun (c_129 : (1 : Int) = 0) => by omega) (fun (c_129 : ¬ (1 : Int) = 0) => ?_)
    refine go_aload C at_184 (pc' := 186) rfl rfl rfl ?_
    refine go_aload C at_186 (pc' := 188) rfl rfl rfl ?_
    refine go_iconst C (3 : Int32) at_188 (pc' := 189) rfl (by decide) ?_
    refine go_iload C at_189 (pc' := 191) rfl rfl ?_
    refine go_iload C at_191 (pc' := 193) rfl rfl ?_
    refine go_iload C at_193 (pc' := 195) rfl rfl ?_
    refine go_lload C at_195 (pc' := 197) rfl rfl ?_
    refine go_staticP C (as := [.ref b_89, .ref b_109, .int (3 : Int32), .int sz, .int ow, .int (0 : Int32), .long p3]) (rest := []) (W := 0) (.int (1 : Int32)) (sat_slot l Z a0 hw b_89 b_109 (3 : Int32) sz ow (0 : Int32) p3 3 _ _ _ _ (by decide) A_124 A_113 (fun q => (lf_get _ (by rw [(by decide : (3 : Int32).toInt = 3)] at q; omega)).trans rfl) (fun q q2 => (lf_get _ (by rw [(by decide : (3 : Int32).toInt = 3)] at q; omega)).trans (by rw [(by decide : (3 : Int32).toInt = 3)] at q2; have z : 3 = k := (by omega); subst z; first | exact congrArg (fun v => some (Value.long v)) (own_t0 _) | (simp only [if_true, ite_true, if_pos]; exact congrArg (fun v => some (Value.long v)) (own_t0 _)))) (fun q q2 => (lf_get _ (by rw [(by decide : (3 : Int32).toInt = 3)] at q; omega)).trans (by rw [(by decide : (3 : Int32).toInt = 3)] at q2; have z : ¬ 3 = k := (by omega); simp only [if_neg z]; rfl))) (wd hw 38 rfl) (wd hw 39 rfl) (wd hw 40 rfl) (wd hw 41 rfl) (by decide) pd_6 rfl rfl rfl (by decide) (by decide) rfl rfl (by decide) (by decide) at_197 (pc' := 200) rfl rfl ?_
    refine go_if0 C (1 : Int) (by decide) at_200 (by decide) (pc' := 207) (by decide) (pcN := 203) rfl (fun (c_130 : (1 : Int) = 0) => by omega) (fun (c_130 : ¬ (1 : Int) = 0) => ?_)
    refine go_iconst C (1 : Int32) at_203 (pc' := 204) rfl (by decide) ?_
    refine go_goto C at_204 (by decide) (pc' := 208) (by decide) ?_
    refine go_ireturnN C (z' := (1 : Int32)) rfl (by simp) rfl at_208 (by decide) (by decide) ?_
    exact ⟨_, rfl, rfl⟩
  · rw [hn]
    refine go_iloadN C at_14 (pc' := 15) rfl rfl ?_
    refine go_ldc C (v := (2147483647 : Int32)) (wd hw 0 rfl) at_15 (pc' := 17) rfl ?_
    refine go_iand C at_17 (pc' := 18) rfl ?_
    refine go_iload C at_18 (pc' := 20) rfl rfl ?_
    refine go_irem C at_20 (pc' := 21) rfl hzz ?_
    refine go_istore C (Ls' := #[.val (.int x0), .val (.int x1), .val (.long p0), .second, .val (.long p1), .second, .val (.long p2), .second, .val (.long p3), .second, .val (.int sz), .val (.int (1 : Int32)), .val (.int ((x1 &&& (2147483647 : Int32)) % sz)), .unset, .unset, .unset]) at_21 (pc' := 23) rfl rfl ?_
    have hm2 : (x1 &&& (2147483647 : Int32)).toInt = x1.toInt % 2 ^ 31 := Jvm.Kit.i32_mask x1 _ (k := 31) (by decide) (by decide)
    have h6 : ((x1 &&& (2147483647 : Int32)) % sz).toInt = (x1 &&& (2147483647 : Int32)).toInt % sz.toInt := Jvm.Kit.i32_rem_nonneg (by omega)
    have hN1 : 0 ≤ ((x1 &&& (2147483647 : Int32)) % sz).toInt := by rw [h6]; exact Int.emod_nonneg _ (by omega)
    have hN2 : ((x1 &&& (2147483647 : Int32)) % sz).toInt < sz.toInt := by rw [h6]; exact Int.emod_lt_of_pos _ (by omega)
    obtain ⟨k, hk⟩ : ∃ k : Nat, ((x1 &&& (2147483647 : Int32)) % sz).toInt = (k : Int) := ⟨((x1 &&& (2147483647 : Int32)) % sz).toInt.toNat, by omega⟩
    have hkS : k < S := by omega
    clear h6 hm2 hN1 hN2
    generalize (x1 &&& (2147483647 : Int32)) % sz = ow at hk ⊢
    refine go_new C (wd hw 1 rfl) (wd hw 2 rfl) (wd hw 3 rfl) at_23 (pc' := 26) rfl (ce' := 1) (sl' := 2) rfl rfl (by decide) (by decide) ?_
    intro h_131 a_132 g_133 E_134 E_135 D_136
    have g_137 : Z.heap.size ≤ a_132 := own_ge (Nat.le_refl _) g_133
    have z_138 : Z.heap.size ≤ h_131.size := Nat.le_trans (Nat.le_refl _) E_134.1
    have F_139 : Fld Z h_131 a_132 "com/example/holder/holder/protocol/VectorClock" "counters" "[J" (.null) := D_136 (Or.inr (wd hw 12 rfl)) (ty := (.array .long)) (by decide)
    have F_140 : Fld Z h_131 a_132 "com/example/holder/holder/protocol/VectorClock" "own" "I" (.int (0 : Int32)) := D_136 (Or.inr (wd hw 14 rfl)) (ty := .int) (by decide)
    refine go_dup C at_26 (pc' := 27) rfl rfl ?_
    refine go_iload C at_27 (pc' := 29) rfl rfl ?_
    refine go_iload C at_29 (pc' := 31) rfl rfl ?_
    refine go_specialN C (as := [.int sz, .int ow]) (rest := [.ref a_132]) (W := 1) (sat_init l Z a0 hw a_132 sz ow S _ _ hS hS4 E_135 F_139 F_140 g_137 z_138) rfl (wd hw 4 rfl) (wd hw 5 rfl) (wd hw 3 rfl) (wd hw 6 rfl) (by decide) pd_1 rfl rfl rfl (by decide) (by decide) (ce' := 2) (sl' := 6) rfl rfl (by decide) (by decide) at_31 (pc' := 34) rfl rfl ?_
    intro h_141 q_142
    obtain ⟨r_143, g_144, n_145, E_146, F_147, F_148, E_149, A_150⟩ := q_142
    refine go_astore C (Ls' := #[.val (.int x0), .val (.int x1), .val (.long p0), .second, .val (.long p1), .second, .val (.long p2), .second, .val (.long p3), .second, .val (.int sz), .val (.int (1 : Int32)), .val (.int ow), .val (.ref a_132), .unset, .unset]) at_34 (pc' := 36) rfl rfl rfl ?_
    refine go_aload C at_36 (pc' := 38) rfl rfl rfl ?_
    refine go_iconst C (4 : Int32) at_38 (pc' := 39) rfl (by decide) ?_
    refine go_newarray C (wd hw 10 rfl) rfl 4 4 (by decide) (by decide) (by decide) (ce' := 3) (sl' := 10) rfl rfl (by decide) (by decide) at_39 (pc' := 41) rfl ?_
    intro h_151 a_152 g_153 E_154 A_155
    have n_156 : a_132 ≠ a_152 := own_ne_new E_146.lt g_153
    have n_157 : r_143 ≠ a_152 := own_ne_new A_150.lt g_153
    have g_158 : Z.heap.size ≤ a_152 := own_ge (Nat.le_of_lt (Nat.lt_of_le_of_lt g_137 E_146.lt)) g_153
    have F_159 := Fld.ext E_154 F_147
    have F_160 := Fld.ext E_154 F_148
    have E_161 := Exa.ext E_154 E_146
    have E_162 := Exa.ext E_154 E_149
    have A_163 := Av.ext A_150 E_154
    have z_164 : Z.heap.size ≤ h_151.size := Nat.le_trans (Nat.le_of_lt (Nat.lt_of_le_of_lt g_137 E_146.lt)) E_154.1
    have A_165 : Av Z h_151 a_152 .long [.long (0 : Int64), .long (0 : Int64), .long (0 : Int64), .long (0 : Int64)] := A_155
    refine go_dup C at_41 (pc' := 42) rfl rfl ?_
    refine go_iconst C (0 : Int32) at_42 (pc' := 43) rfl (by decide) ?_
    refine go_lloadN C at_43 (pc' := 44) rfl rfl ?_
    refine go_lastore C A_165 0 (by decide) (show 0 < 4 from by decide) g_158 at_44 (pc' := 45) rfl ?_
    intro h_166 W_167 A_168
    have z_169 : Z.heap.size ≤ h_166.size := W_167.size.symm ▸ z_164
    have F_170 := Fld.other W_167 F_159 (Or.inl n_156)
    have F_171 := Fld.other W_167 F_160 (Or.inl n_156)
    have E_172 := Exa.wr W_167 E_161
    have E_173 := Exa.wr W_167 E_162
    have A_174 := Av.other A_163 W_167 n_157
    have A_175 : Av Z h_166 a_152 .long [.long p0, .long (0 : Int64), .long (0 : Int64), .long (0 : Int64)] := A_168
    refine go_dup C at_45 (pc' := 46) rfl rfl ?_
    refine go_iconst C (1 : Int32) at_46 (pc' := 47) rfl (by decide) ?_
    refine go_lload C at_47 (pc' := 49) rfl rfl ?_
    refine go_lastore C A_175 1 (by decide) (show 1 < 4 from by decide) g_158 at_49 (pc' := 50) rfl ?_
    intro h_176 W_177 A_178
    have z_179 : Z.heap.size ≤ h_176.size := W_177.size.symm ▸ z_169
    have F_180 := Fld.other W_177 F_170 (Or.inl n_156)
    have F_181 := Fld.other W_177 F_171 (Or.inl n_156)
    have E_182 := Exa.wr W_177 E_172
    have E_183 := Exa.wr W_177 E_173
    have A_184 := Av.other A_174 W_177 n_157
    have A_185 : Av Z h_176 a_152 .long [.long p0, .long p1, .long (0 : Int64), .long (0 : Int64)] := A_178
    refine go_dup C at_50 (pc' := 51) rfl rfl ?_
    refine go_iconst C (2 : Int32) at_51 (pc' := 52) rfl (by decide) ?_
    refine go_lload C at_52 (pc' := 54) rfl rfl ?_
    refine go_lastore C A_185 2 (by decide) (show 2 < 4 from by decide) g_158 at_54 (pc' := 55) rfl ?_
    intro h_186 W_187 A_188
    have z_189 : Z.heap.size ≤ h_186.size := W_187.size.symm ▸ z_179
    have F_190 := Fld.other W_187 F_180 (Or.inl n_156)
    have F_191 := Fld.other W_187 F_181 (Or.inl n_156)
    have E_192 := Exa.wr W_187 E_182
    have E_193 := Exa.wr W_187 E_183
    have A_194 := Av.other A_184 W_187 n_157
    have A_195 : Av Z h_186 a_152 .long [.long p0, .long p1, .long p2, .long (0 : Int64)] := A_188
    refine go_dup C at_55 (pc' := 56) rfl rfl ?_
    refine go_iconst C (3 : Int32) at_56 (pc' := 57) rfl (by decide) ?_
    refine go_lload C at_57 (pc' := 59) rfl rfl ?_
    refine go_lastore C A_195 3 (by decide) (show 3 < 4 from by decide) g_158 at_59 (pc' := 60) rfl ?_
    intro h_196 W_197 A_198
    have z_199 : Z.heap.size ≤ h_196.size := W_197.size.symm ▸ z_189
    have F_200 := Fld.other W_197 F_190 (Or.inl n_156)
    have F_201 := Fld.other W_197 F_191 (Or.inl n_156)
    have E_202 := Exa.wr W_197 E_192
    have E_203 := Exa.wr W_197 E_193
    have A_204 := Av.other A_194 W_197 n_157
    have A_205 : Av Z h_196 a_152 .long [.long p0, .long p1, .long p2, .long p3] := A_198
    refine go_virtualN C (as := [.ref a_152]) (rest := []) (W := 0) (sat_merge l Z a0 hw a_132 a_152 r_143 sz S 4 (fun _ => 0) (g4 p0 p1 p2 p3) _ _ hS hS4 (by decide) F_200 A_204 A_205 g_144 n_145 (Ne.symm n_157)) E_202 (wd hw 15 rfl) (wd hw 16 rfl) (wd hw 18 rfl) (wd hw 17 rfl) (wd hw 3 rfl) (wd hw 19 rfl) (by decide) pd_3 rfl rfl rfl (by decide) (by decide) (ce' := 3) (sl' := 10) rfl rfl (by decide) (by decide) at_60 (pc' := 63) rfl rfl ?_
    intro h_206 q_207
    obtain ⟨K_208, A_209⟩ := q_207
    have z_210 : Z.heap.size ≤ h_206.size := Nat.le_trans z_199 K_208.1
    have F_211 := Fld.keep F_200 K_208 (ninS n_145 nin0)
    have F_212 := Fld.keep F_201 K_208 (ninS n_145 nin0)
    have E_213 := Exa.keep E_202 K_208
    have E_214 := Exa.keep E_203 K_208
    have A_215 := Av.keep A_205 K_208 (ninS (Ne.symm n_157) nin0)
    refine go_aload C at_63 (pc' := 65) rfl rfl rfl ?_
    refine go_virtualV C (as := []) (rest := []) (W := 0) (sat_vec l Z a0 hw a_132 r_143 S (fun j => o_maxL ((fun _ => 0) j) ((g4 p0 p1 p2 p3) j)) _ _ hS4 F_211 E_214 A_209 z_210) E_213 (wd hw 24 rfl) (wd hw 25 rfl) (wd hw 27 rfl) (wd hw 26 rfl) (wd hw 3 rfl) (wd hw 28 rfl) (by decide) pd_5 rfl rfl rfl (by decide) (by decide) (ce' := 4) (sl' := 14) rfl rfl (by decide) (by decide) at_65 (pc' := 68) rfl rfl ?_
    intro r_216 h_217 q_218
    obtain ⟨b_219, rfl, g_220, g_221, K_222, A_223⟩ := q_218
    have n_224 : a_152 ≠ b_219 := Nat.ne_of_lt (Nat.lt_of_lt_of_le A_215.lt g_221)
    have n_225 : r_143 ≠ b_219 := Nat.ne_of_lt (Nat.lt_of_lt_of_le A_209.lt g_221)
    have z_226 : Z.heap.size ≤ h_217.size := Nat.le_trans z_210 K_222.1
    have F_227 := Fld.keep F_211 K_222 nin0
    have F_228 := Fld.keep F_212 K_222 nin0
    have E_229 := Exa.keep E_213 K_222
    have E_230 := Exa.keep E_214 K_222
    have A_231 := Av.keep A_215 K_222 nin0
    have A_232 := Av.keep A_209 K_222 nin0
    refine go_astore C (Ls' := #[.val (.int x0), .val (.int x1), .val (.long p0), .second, .val (.long p1), .second, .val (.long p2), .second, .val (.long p3), .second, .val (.int sz), .val (.int (1 : Int32)), .val (.int ow), .val (.ref a_132), .val (.ref b_219), .unset]) at_68 (pc' := 70) rfl rfl rfl ?_
    refine go_iload C at_70 (pc' := 72) rfl rfl ?_
    refine go_iconst C (1 : Int32) at_72 (pc' := 73) rfl (by decide) ?_
    refine go_icmp C (1 : Int) (1 : Int) (by decide) (by decide) at_73 (by decide) (pc' := 81) (by decide) (pcN := 76) rfl (fun (c_233 : (1 : Int) < (1 : Int)) => by omega) (fun (c_233 : ¬ (1 : Int) < (1 : Int)) => ?_)
    refine go_aload C at_76 (pc' := 78) rfl rfl rfl ?_
    refine go_virtualN C (as := []) (rest := []) (W := 0) (sat_tick l Z a0 hw a_132 r_143 ow S k (fun j => o_maxL ((fun _ => 0) j) ((g4 p0 p1 p2 p3) j)) _ _ hk hkS F_227 F_228 A_232 g_144 n_145) E_229 (wd hw 43 rfl) (wd hw 44 rfl) (wd hw 46 rfl) (wd hw 45 rfl) (wd hw 3 rfl) (wd hw 47 rfl) (by decide) pd_2 rfl rfl rfl (by decide) (by decide) (ce' := 4) (sl' := 14) rfl rfl (by decide) (by decide) at_78 (pc' := 81) rfl rfl ?_
    intro h_234 q_235
    obtain ⟨K_236, A_237⟩ := q_235
    have z_238 : Z.heap.size ≤ h_234.size := Nat.le_trans z_226 K_236.1
    have F_239 := Fld.keep F_227 K_236 (ninS n_145 nin0)
    have F_240 := Fld.keep F_228 K_236 (ninS n_145 nin0)
    have E_241 := Exa.keep E_229 K_236
    have E_242 := Exa.keep E_230 K_236
    have A_243 := Av.keep A_231 K_236 (ninS (Ne.symm n_157) nin0)
    have A_244 := Av.keep A_223 K_236 (ninS (Ne.symm n_225) nin0)
    refine go_iload C at_81 (pc' := 83) rfl rfl ?_
    refine go_iconst C (2 : Int32) at_83 (pc' := 84) rfl (by decide) ?_
    refine go_icmp C (1 : Int) (2 : Int) (by decide) (by decide) at_84 (by decide) (pc' := 92) (by decide) (pcN := 87) rfl (fun (c_245 : (1 : Int) < (2 : Int)) => ?_) (fun (c_245 : ¬ (1 : Int) < (2 : Int)) => by omega)
    refine go_iload C at_92 (pc' := 94) rfl rfl ?_
    refine go_iconst C (3 : Int32) at_94 (pc' := 95) rfl (by decide) ?_
    refine go_icmp C (1 : Int) (3 : Int) (by decide) (by decide) at_95 (by decide) (pc' := 103) (by decide) (pcN := 98) rfl (fun (c_246 : (1 : Int) < (3 : Int)) => ?_) (fun (c_246 : ¬ (1 : Int) < (3 : Int)) => by omega)
    refine go_aload C at_103 (pc' := 105) rfl rfl rfl ?_
    refine go_virtualV C (as := []) (rest := []) (W := 0) (sat_vec l Z a0 hw a_132 r_143 S (fun j => if j = k then (fun j => o_maxL ((fun _ => 0) j) ((g4 p0 p1 p2 p3) j)) j + (1 : Int64) else (fun j => o_maxL ((fun _ => 0) j) ((g4 p0 p1 p2 p3) j)) j) _ _ hS4 F_239 E_242 A_237 z_238) E_241 (wd hw 24 rfl) (wd hw 25 rfl) (wd hw 27 rfl) (wd hw 26 rfl) (wd hw 3 rfl) (wd hw 28 rfl) (by decide) pd_5 rfl rfl rfl (by decide) (by decide) (ce' := 5) (sl' := 18) rfl rfl (by decide) (by decide) at_105 (pc' := 108) rfl rfl ?_
    intro r_247 h_248 q_249
    obtain ⟨b_250, rfl, g_251, g_252, K_253, A_254⟩ := q_249
    have n_255 : a_152 ≠ b_250 := Nat.ne_of_lt (Nat.lt_of_lt_of_le A_243.lt g_252)
    have n_256 : b_219 ≠ b_250 := Nat.ne_of_lt (Nat.lt_of_lt_of_le A_244.lt g_252)
    have n_257 : r_143 ≠ b_250 := Nat.ne_of_lt (Nat.lt_of_lt_of_le A_237.lt g_252)
    have z_258 : Z.heap.size ≤ h_248.size := Nat.le_trans z_238 K_253.1
    have F_259 := Fld.keep F_239 K_253 nin0
    have F_260 := Fld.keep F_240 K_253 nin0
    have E_261 := Exa.keep E_241 K_253
    have E_262 := Exa.keep E_242 K_253
    have A_263 := Av.keep A_243 K_253 nin0
    have A_264 := Av.keep A_244 K_253 nin0
    have A_265 := Av.keep A_237 K_253 nin0
    refine go_astore C (Ls' := #[.val (.int x0), .val (.int x1), .val (.long p0), .second, .val (.long p1), .second, .val (.long p2), .second, .val (.long p3), .second, .val (.int sz), .val (.int (1 : Int32)), .val (.int ow), .val (.ref a_132), .val (.ref b_219), .val (.ref b_250)]) at_108 (pc' := 110) rfl rfl rfl ?_
    refine go_aload C at_110 (pc' := 112) rfl rfl rfl ?_
    refine go_arraylength C A_264 sz (by rw [lf_len]; exact hS) at_112 (pc' := 113) rfl ?_
    refine go_iload C at_113 (pc' := 115) rfl rfl ?_
    refine go_icmp C sz.toInt sz.toInt rfl rfl at_115 (by decide) (pc' := 126) (by decide) (pcN := 118) rfl (fun (c_266 : ¬ sz.toInt = sz.toInt) => by omega) (fun (c_266 : sz.toInt = sz.toInt) => ?_)
    refine go_aload C at_118 (pc' := 120) rfl rfl rfl ?_
    refine go_arraylength C A_254 sz (by rw [lf_len]; exact hS) at_120 (pc' := 121) rfl ?_
    refine go_iload C at_121 (pc' := 123) rfl rfl ?_
    refine go_icmp C sz.toInt sz.toInt rfl rfl at_123 (by decide) (pc' := 128) (by decide) (pcN := 126) rfl (fun (c_267 : sz.toInt = sz.toInt) => ?_) (fun (c_267 : ¬ sz.toInt = sz.toInt) => by omega)
    refine go_aload C at_128 (pc' := 130) rfl rfl rfl ?_
    refine go_aload C at_130 (pc' := 132) rfl rfl rfl ?_
    refine go_iconst C (0 : Int32) at_132 (pc' := 133) rfl (by decide) ?_
    refine go_iload C at_133 (pc' := 135) rfl rfl ?_
    refine go_iload C at_135 (pc' := 137) rfl rfl ?_
    refine go_iload C at_137 (pc' := 139) rfl rfl ?_
    refine go_lloadN C at_139 (pc' := 140) rfl rfl ?_
    refine go_staticP C (as := [.ref b_219, .ref b_250, .int (0 : Int32), .int sz, .int ow, .int (1 : Int32), .long p0]) (rest := []) (W := 0) (.int (1 : Int32)) (sat_slot l Z a0 hw b_219 b_250 (0 : Int32) sz ow (1 : Int32) p0 0 _ _ _ _ (by decide) A_264 A_254 (fun q => (lf_get _ (by rw [(by decide : (0 : Int32).toInt = 0)] at q; omega)).trans rfl) (fun q q2 => (lf_get _ (by rw [(by decide : (0 : Int32).toInt = 0)] at q; omega)).trans (by rw [(by decide : (0 : Int32).toInt = 0)] at q2; have z : 0 = k := (by omega); subst z; first | exact congrArg (fun v => some (Value.long v)) (own_t1 _) | (simp only [if_true, ite_true, if_pos]; exact congrArg (fun v => some (Value.long v)) (own_t1 _)))) (fun q q2 => (lf_get _ (by rw [(by decide : (0 : Int32).toInt = 0)] at q; omega)).trans (by rw [(by decide : (0 : Int32).toInt = 0)] at q2; have z : ¬ 0 = k := (by omega); simp only [if_neg z]; rfl))) (wd hw 38 rfl) (wd hw 39 rfl) (wd hw 40 rfl) (wd hw 41 rfl) (by decide) pd_6 rfl rfl rfl (by decide) (by decide) rfl rfl (by decide) (by decide) at_140 (pc' := 143) rfl rfl ?_
    refine go_if0 C (1 : Int) (by decide) at_143 (by decide) (pc' := 207) (by decide) (pcN := 146) rfl (fun (c_268 : (1 : Int) = 0) => by omega) (fun (c_268 : ¬ (1 : Int) = 0) => ?_)
    refine go_aload C at_146 (pc' := 148) rfl rfl rfl ?_
    refine go_aload C at_148 (pc' := 150) rfl rfl rfl ?_
    refine go_iconst C (1 : Int32) at_150 (pc' := 151) rfl (by decide) ?_
    refine go_iload C at_151 (pc' := 153) rfl rfl ?_
    refine go_iload C at_153 (pc' := 155) rfl rfl ?_
    refine go_iload C at_155 (pc' := 157) rfl rfl ?_
    refine go_lload C at_157 (pc' := 159) rfl rfl ?_
    refine go_staticP C (as := [.ref b_219, .ref b_250, .int (1 : Int32), .int sz, .int ow, .int (1 : Int32), .long p1]) (rest := []) (W := 0) (.int (1 : Int32)) (sat_slot l Z a0 hw b_219 b_250 (1 : Int32) sz ow (1 : Int32) p1 1 _ _ _ _ (by decide) A_264 A_254 (fun q => (lf_get _ (by rw [(by decide : (1 : Int32).toInt = 1)] at q; omega)).trans rfl) (fun q q2 => (lf_get _ (by rw [(by decide : (1 : Int32).toInt = 1)] at q; omega)).trans (by rw [(by decide : (1 : Int32).toInt = 1)] at q2; have z : 1 = k := (by omega); subst z; first | exact congrArg (fun v => some (Value.long v)) (own_t1 _) | (simp only [if_true, ite_true, if_pos]; exact congrArg (fun v => some (Value.long v)) (own_t1 _)))) (fun q q2 => (lf_get _ (by rw [(by decide : (1 : Int32).toInt = 1)] at q; omega)).trans (by rw [(by decide : (1 : Int32).toInt = 1)] at q2; have z : ¬ 1 = k := (by omega); simp only [if_neg z]; rfl))) (wd hw 38 rfl) (wd hw 39 rfl) (wd hw 40 rfl) (wd hw 41 rfl) (by decide) pd_6 rfl rfl rfl (by decide) (by decide) rfl rfl (by decide) (by decide) at_159 (pc' := 162) rfl rfl ?_
    refine go_if0 C (1 : Int) (by decide) at_162 (by decide) (pc' := 207) (by decide) (pcN := 165) rfl (fun (c_269 : (1 : Int) = 0) => by omega) (fun (c_269 : ¬ (1 : Int) = 0) => ?_)
    refine go_aload C at_165 (pc' := 167) rfl rfl rfl ?_
    refine go_aload C at_167 (pc' := 169) rfl rfl rfl ?_
    refine go_iconst C (2 : Int32) at_169 (pc' := 170) rfl (by decide) ?_
    refine go_iload C at_170 (pc' := 172) rfl rfl ?_
    refine go_iload C at_172 (pc' := 174) rfl rfl ?_
    refine go_iload C at_174 (pc' := 176) rfl rfl ?_
    refine go_lload C at_176 (pc' := 178) rfl rfl ?_
    refine go_staticP C (as := [.ref b_219, .ref b_250, .int (2 : Int32), .int sz, .int ow, .int (1 : Int32), .long p2]) (rest := []) (W := 0) (.int (1 : Int32)) (sat_slot l Z a0 hw b_219 b_250 (2 : Int32) sz ow (1 : Int32) p2 2 _ _ _ _ (by decide) A_264 A_254 (fun q => (lf_get _ (by rw [(by decide : (2 : Int32).toInt = 2)] at q; omega)).trans rfl) (fun q q2 => (lf_get _ (by rw [(by decide : (2 : Int32).toInt = 2)] at q; omega)).trans (by rw [(by decide : (2 : Int32).toInt = 2)] at q2; have z : 2 = k := (by omega); subst z; first | exact congrArg (fun v => some (Value.long v)) (own_t1 _) | (simp only [if_true, ite_true, if_pos]; exact congrArg (fun v => some (Value.long v)) (own_t1 _)))) (fun q q2 => (lf_get _ (by rw [(by decide : (2 : Int32).toInt = 2)] at q; omega)).trans (by rw [(by decide : (2 : Int32).toInt = 2)] at q2; have z : ¬ 2 = k := (by omega); simp only [if_neg z]; rfl))) (wd hw 38 rfl) (wd hw 39 rfl) (wd hw 40 rfl) (wd hw 41 rfl) (by decide) pd_6 rfl rfl rfl (by decide) (by decide) rfl rfl (by decide) (by decide) at_178 (pc' := 181) rfl rfl ?_
    refine go_if0 C (1 : Int) (by decide) at_181 (by decide) (pc' := 207) (by decide) (pcN := 184) rfl (fun (c_270 : (1 : Int) = 0) => by omega) (fun (c_270 : ¬ (1 : Int) = 0) => ?_)
    refine go_aload C at_184 (pc' := 186) rfl rfl rfl ?_
    refine go_aload C at_186 (pc' := 188) rfl rfl rfl ?_
    refine go_iconst C (3 : Int32) at_188 (pc' := 189) rfl (by decide) ?_
    refine go_iload C at_189 (pc' := 191) rfl rfl ?_
    refine go_iload C at_191 (pc' := 193) rfl rfl ?_
    refine go_iload C at_193 (pc' := 195) rfl rfl ?_
    refine go_lload C at_195 (pc' := 197) rfl rfl ?_
    refine go_staticP C (as := [.ref b_219, .ref b_250, .int (3 : Int32), .int sz, .int ow, .int (1 : Int32), .long p3]) (rest := []) (W := 0) (.int (1 : Int32)) (sat_slot l Z a0 hw b_219 b_250 (3 : Int32) sz ow (1 : Int32) p3 3 _ _ _ _ (by decide) A_264 A_254 (fun q => (lf_get _ (by rw [(by decide : (3 : Int32).toInt = 3)] at q; omega)).trans rfl) (fun q q2 => (lf_get _ (by rw [(by decide : (3 : Int32).toInt = 3)] at q; omega)).trans (by rw [(by decide : (3 : Int32).toInt = 3)] at q2; have z : 3 = k := (by omega); subst z; first | exact congrArg (fun v => some (Value.long v)) (own_t1 _) | (simp only [if_true, ite_true, if_pos]; exact congrArg (fun v => some (Value.long v)) (own_t1 _)))) (fun q q2 => (lf_get _ (by rw [(by decide : (3 : Int32).toInt = 3)] at q; omega)).trans (by rw [(by decide : (3 : Int32).toInt = 3)] at q2; have z : ¬ 3 = k := (by omega); simp only [if_neg z]; rfl))) (wd hw 38 rfl) (wd hw 39 rfl) (wd hw 40 rfl) (wd hw 41 rfl) (by decide) pd_6 rfl rfl rfl (by decide) (by decide) rfl rfl (by decide) (by decide) at_197 (pc' := 200) rfl rfl ?_
    refine go_if0 C (1 : Int) (by decide) at_200 (by decide) (pc' := 207) (by decide) (pcN := 203) rfl (fun (c_271 : (1 : Int) = 0) => by omega) (fun (c_271 : ¬ (1 : Int) = 0) => ?_)
    refine go_iconst C (1 : Int32) at_203 (pc' := 204) rfl (by decide) ?_
    refine go_goto C at_204 (by decide) (pc' := 208) (by decide) ?_
    refine go_ireturnN C (z' := (1 : Int32)) rfl (by simp) rfl at_208 (by decide) (by decide) ?_
    exact ⟨_, rfl, rfl⟩
  · rw [hn]
    refine go_iloadN C at_14 (pc' := 15) rfl rfl ?_
    refine go_ldc C (v := (2147483647 : Int32)) (wd hw 0 rfl) at_15 (pc' := 17) rfl ?_
    refine go_iand C at_17 (pc' := 18) rfl ?_
    refine go_iload C at_18 (pc' := 20) rfl rfl ?_
    refine go_irem C at_20 (pc' := 21) rfl hzz ?_
    refine go_istore C (Ls' := #[.val (.int x0), .val (.int x1), .val (.long p0), .second, .val (.long p1), .second, .val (.long p2), .second, .val (.long p3), .second, .val (.int sz), .val (.int (2 : Int32)), .val (.int ((x1 &&& (2147483647 : Int32)) % sz)), .unset, .unset, .unset]) at_21 (pc' := 23) rfl rfl ?_
    have hm2 : (x1 &&& (2147483647 : Int32)).toInt = x1.toInt % 2 ^ 31 := Jvm.Kit.i32_mask x1 _ (k := 31) (by decide) (by decide)
    have h6 : ((x1 &&& (2147483647 : Int32)) % sz).toInt = (x1 &&& (2147483647 : Int32)).toInt % sz.toInt := Jvm.Kit.i32_rem_nonneg (by omega)
    have hN1 : 0 ≤ ((x1 &&& (2147483647 : Int32)) % sz).toInt := by rw [h6]; exact Int.emod_nonneg _ (by omega)
    have hN2 : ((x1 &&& (2147483647 : Int32)) % sz).toInt < sz.toInt := by rw [h6]; exact Int.emod_lt_of_pos _ (by omega)
    obtain ⟨k, hk⟩ : ∃ k : Nat, ((x1 &&& (2147483647 : Int32)) % sz).toInt = (k : Int) := ⟨((x1 &&& (2147483647 : Int32)) % sz).toInt.toNat, by omega⟩
    have hkS : k < S := by omega
    clear h6 hm2 hN1 hN2
    generalize (x1 &&& (2147483647 : Int32)) % sz = ow at hk ⊢
    refine go_new C (wd hw 1 rfl) (wd hw 2 rfl) (wd hw 3 rfl) at_23 (pc' := 26) rfl (ce' := 1) (sl' := 2) rfl rfl (by decide) (by decide) ?_
    intro h_272 a_273 g_274 E_275 E_276 D_277
    have g_278 : Z.heap.size ≤ a_273 := own_ge (Nat.le_refl _) g_274
    have z_279 : Z.heap.size ≤ h_272.size := Nat.le_trans (Nat.le_refl _) E_275.1
    have F_280 : Fld Z h_272 a_273 "com/example/holder/holder/protocol/VectorClock" "counters" "[J" (.null) := D_277 (Or.inr (wd hw 12 rfl)) (ty := (.array .long)) (by decide)
    have F_281 : Fld Z h_272 a_273 "com/example/holder/holder/protocol/VectorClock" "own" "I" (.int (0 : Int32)) := D_277 (Or.inr (wd hw 14 rfl)) (ty := .int) (by decide)
    refine go_dup C at_26 (pc' := 27) rfl rfl ?_
    refine go_iload C at_27 (pc' := 29) rfl rfl ?_
    refine go_iload C at_29 (pc' := 31) rfl rfl ?_
    refine go_specialN C (as := [.int sz, .int ow]) (rest := [.ref a_273]) (W := 1) (sat_init l Z a0 hw a_273 sz ow S _ _ hS hS4 E_276 F_280 F_281 g_278 z_279) rfl (wd hw 4 rfl) (wd hw 5 rfl) (wd hw 3 rfl) (wd hw 6 rfl) (by decide) pd_1 rfl rfl rfl (by decide) (by decide) (ce' := 2) (sl' := 6) rfl rfl (by decide) (by decide) at_31 (pc' := 34) rfl rfl ?_
    intro h_282 q_283
    obtain ⟨r_284, g_285, n_286, E_287, F_288, F_289, E_290, A_291⟩ := q_283
    refine go_astore C (Ls' := #[.val (.int x0), .val (.int x1), .val (.long p0), .second, .val (.long p1), .second, .val (.long p2), .second, .val (.long p3), .second, .val (.int sz), .val (.int (2 : Int32)), .val (.int ow), .val (.ref a_273), .unset, .unset]) at_34 (pc' := 36) rfl rfl rfl ?_
    refine go_aload C at_36 (pc' := 38) rfl rfl rfl ?_
    refine go_iconst C (4 : Int32) at_38 (pc' := 39) rfl (by decide) ?_
    refine go_newarray C (wd hw 10 rfl) rfl 4 4 (by decide) (by decide) (by decide) (ce' := 3) (sl' := 10) rfl rfl (by decide) (by decide) at_39 (pc' := 41) rfl ?_
    intro h_292 a_293 g_294 E_295 A_296
    have n_297 : a_273 ≠ a_293 := own_ne_new E_287.lt g_294
    have n_298 : r_284 ≠ a_293 := own_ne_new A_291.lt g_294
    have g_299 : Z.heap.size ≤ a_293 := own_ge (Nat.le_of_lt (Nat.lt_of_le_of_lt g_278 E_287.lt)) g_294
    have F_300 := Fld.ext E_295 F_288
    have F_301 := Fld.ext E_295 F_289
    have E_302 := Exa.ext E_295 E_287
    have E_303 := Exa.ext E_295 E_290
    have A_304 := Av.ext A_291 E_295
    have z_305 : Z.heap.size ≤ h_292.size := Nat.le_trans (Nat.le_of_lt (Nat.lt_of_le_of_lt g_278 E_287.lt)) E_295.1
    have A_306 : Av Z h_292 a_293 .long [.long (0 : Int64), .long (0 : Int64), .long (0 : Int64), .long (0 : Int64)] := A_296
    refine go_dup C at_41 (pc' := 42) rfl rfl ?_
    refine go_iconst C (0 : Int32) at_42 (pc' := 43) rfl (by decide) ?_
    refine go_lloadN C at_43 (pc' := 44) rfl rfl ?_
    refine go_lastore C A_306 0 (by decide) (show 0 < 4 from by decide) g_299 at_44 (pc' := 45) rfl ?_
    intro h_307 W_308 A_309
    have z_310 : Z.heap.size ≤ h_307.size := W_308.size.symm ▸ z_305
    have F_311 := Fld.other W_308 F_300 (Or.inl n_297)
    have F_312 := Fld.other W_308 F_301 (Or.inl n_297)
    have E_313 := Exa.wr W_308 E_302
    have E_314 := Exa.wr W_308 E_303
    have A_315 := Av.other A_304 W_308 n_298
    have A_316 : Av Z h_307 a_293 .long [.long p0, .long (0 : Int64), .long (0 : Int64), .long (0 : Int64)] := A_309
    refine go_dup C at_45 (pc' := 46) rfl rfl ?_
    refine go_iconst C (1 : Int32) at_46 (pc' := 47) rfl (by decide) ?_
    refine go_lload C at_47 (pc' := 49) rfl rfl ?_
    refine go_lastore C A_316 1 (by decide) (show 1 < 4 from by decide) g_299 at_49 (pc' := 50) rfl ?_
    intro h_317 W_318 A_319
    have z_320 : Z.heap.size ≤ h_317.size := W_318.size.symm ▸ z_310
    have F_321 := Fld.other W_318 F_311 (Or.inl n_297)
    have F_322 := Fld.other W_318 F_312 (Or.inl n_297)
    have E_323 := Exa.wr W_318 E_313
    have E_324 := Exa.wr W_318 E_314
    have A_325 := Av.other A_315 W_318 n_298
    have A_326 : Av Z h_317 a_293 .long [.long p0, .long p1, .long (0 : Int64), .long (0 : Int64)] := A_319
    refine go_dup C at_50 (pc' := 51) rfl rfl ?_
    refine go_iconst C (2 : Int32) at_51 (pc' := 52) rfl (by decide) ?_
    refine go_lload C at_52 (pc' := 54) rfl rfl ?_
    refine go_lastore C A_326 2 (by decide) (show 2 < 4 from by decide) g_299 at_54 (pc' := 55) rfl ?_
    intro h_327 W_328 A_329
    have z_330 : Z.heap.size ≤ h_327.size := W_328.size.symm ▸ z_320
    have F_331 := Fld.other W_328 F_321 (Or.inl n_297)
    have F_332 := Fld.other W_328 F_322 (Or.inl n_297)
    have E_333 := Exa.wr W_328 E_323
    have E_334 := Exa.wr W_328 E_324
    have A_335 := Av.other A_325 W_328 n_298
    have A_336 : Av Z h_327 a_293 .long [.long p0, .long p1, .long p2, .long (0 : Int64)] := A_329
    refine go_dup C at_55 (pc' := 56) rfl rfl ?_
    refine go_iconst C (3 : Int32) at_56 (pc' := 57) rfl (by decide) ?_
    refine go_lload C at_57 (pc' := 59) rfl rfl ?_
    refine go_lastore C A_336 3 (by decide) (show 3 < 4 from by decide) g_299 at_59 (pc' := 60) rfl ?_
    intro h_337 W_338 A_339
    have z_340 : Z.heap.size ≤ h_337.size := W_338.size.symm ▸ z_330
    have F_341 := Fld.other W_338 F_331 (Or.inl n_297)
    have F_342 := Fld.other W_338 F_332 (Or.inl n_297)
    have E_343 := Exa.wr W_338 E_333
    have E_344 := Exa.wr W_338 E_334
    have A_345 := Av.other A_335 W_338 n_298
    have A_346 : Av Z h_337 a_293 .long [.long p0, .long p1, .long p2, .long p3] := A_339
    refine go_virtualN C (as := [.ref a_293]) (rest := []) (W := 0) (sat_merge l Z a0 hw a_273 a_293 r_284 sz S 4 (fun _ => 0) (g4 p0 p1 p2 p3) _ _ hS hS4 (by decide) F_341 A_345 A_346 g_285 n_286 (Ne.symm n_298)) E_343 (wd hw 15 rfl) (wd hw 16 rfl) (wd hw 18 rfl) (wd hw 17 rfl) (wd hw 3 rfl) (wd hw 19 rfl) (by decide) pd_3 rfl rfl rfl (by decide) (by decide) (ce' := 3) (sl' := 10) rfl rfl (by decide) (by decide) at_60 (pc' := 63) rfl rfl ?_
    intro h_347 q_348
    obtain ⟨K_349, A_350⟩ := q_348
    have z_351 : Z.heap.size ≤ h_347.size := Nat.le_trans z_340 K_349.1
    have F_352 := Fld.keep F_341 K_349 (ninS n_286 nin0)
    have F_353 := Fld.keep F_342 K_349 (ninS n_286 nin0)
    have E_354 := Exa.keep E_343 K_349
    have E_355 := Exa.keep E_344 K_349
    have A_356 := Av.keep A_346 K_349 (ninS (Ne.symm n_298) nin0)
    refine go_aload C at_63 (pc' := 65) rfl rfl rfl ?_
    refine go_virtualV C (as := []) (rest := []) (W := 0) (sat_vec l Z a0 hw a_273 r_284 S (fun j => o_maxL ((fun _ => 0) j) ((g4 p0 p1 p2 p3) j)) _ _ hS4 F_352 E_355 A_350 z_351) E_354 (wd hw 24 rfl) (wd hw 25 rfl) (wd hw 27 rfl) (wd hw 26 rfl) (wd hw 3 rfl) (wd hw 28 rfl) (by decide) pd_5 rfl rfl rfl (by decide) (by decide) (ce' := 4) (sl' := 14) rfl rfl (by decide) (by decide) at_65 (pc' := 68) rfl rfl ?_
    intro r_357 h_358 q_359
    obtain ⟨b_360, rfl, g_361, g_362, K_363, A_364⟩ := q_359
    have n_365 : a_293 ≠ b_360 := Nat.ne_of_lt (Nat.lt_of_lt_of_le A_356.lt g_362)
    have n_366 : r_284 ≠ b_360 := Nat.ne_of_lt (Nat.lt_of_lt_of_le A_350.lt g_362)
    have z_367 : Z.heap.size ≤ h_358.size := Nat.le_trans z_351 K_363.1
    have F_368 := Fld.keep F_352 K_363 nin0
    have F_369 := Fld.keep F_353 K_363 nin0
    have E_370 := Exa.keep E_354 K_363
    have E_371 := Exa.keep E_355 K_363
    have A_372 := Av.keep A_356 K_363 nin0
    have A_373 := Av.keep A_350 K_363 nin0
    refine go_astore C (Ls' := #[.val (.int x0), .val (.int x1), .val (.long p0), .second, .val (.long p1), .second, .val (.long p2), .second, .val (.long p3), .second, .val (.int sz), .val (.int (2 : Int32)), .val (.int ow), .val (.ref a_273), .val (.ref b_360), .unset]) at_68 (pc' := 70) rfl rfl rfl ?_
    refine go_iload C at_70 (pc' := 72) rfl rfl ?_
    refine go_iconst C (1 : Int32) at_72 (pc' := 73) rfl (by decide) ?_
    refine go_icmp C (2 : Int) (1 : Int) (by decide) (by decide) at_73 (by decide) (pc' := 81) (by decide) (pcN := 76) rfl (fun (c_374 : (2 : Int) < (1 : Int)) => by omega) (fun (c_374 : ¬ (2 : Int) < (1 : Int)) => ?_)
    refine go_aload C at_76 (pc' := 78) rfl rfl rfl ?_
    refine go_virtualN C (as := []) (rest := []) (W := 0) (sat_tick l Z a0 hw a_273 r_284 ow S k (fun j => o_maxL ((fun _ => 0) j) ((g4 p0 p1 p2 p3) j)) _ _ hk hkS F_368 F_369 A_373 g_285 n_286) E_370 (wd hw 43 rfl) (wd hw 44 rfl) (wd hw 46 rfl) (wd hw 45 rfl) (wd hw 3 rfl) (wd hw 47 rfl) (by decide) pd_2 rfl rfl rfl (by decide) (by decide) (ce' := 4) (sl' := 14) rfl rfl (by decide) (by decide) at_78 (pc' := 81) rfl rfl ?_
    intro h_375 q_376
    obtain ⟨K_377, A_378⟩ := q_376
    have z_379 : Z.heap.size ≤ h_375.size := Nat.le_trans z_367 K_377.1
    have F_380 := Fld.keep F_368 K_377 (ninS n_286 nin0)
    have F_381 := Fld.keep F_369 K_377 (ninS n_286 nin0)
    have E_382 := Exa.keep E_370 K_377
    have E_383 := Exa.keep E_371 K_377
    have A_384 := Av.keep A_372 K_377 (ninS (Ne.symm n_298) nin0)
    have A_385 := Av.keep A_364 K_377 (ninS (Ne.symm n_366) nin0)
    refine go_iload C at_81 (pc' := 83) rfl rfl ?_
    refine go_iconst C (2 : Int32) at_83 (pc' := 84) rfl (by decide) ?_
    refine go_icmp C (2 : Int) (2 : Int) (by decide) (by decide) at_84 (by decide) (pc' := 92) (by decide) (pcN := 87) rfl (fun (c_386 : (2 : Int) < (2 : Int)) => by omega) (fun (c_386 : ¬ (2 : Int) < (2 : Int)) => ?_)
    refine go_aload C at_87 (pc' := 89) rfl rfl rfl ?_
    refine go_virtualN C (as := []) (rest := []) (W := 0) (sat_tick l Z a0 hw a_273 r_284 ow S k (fun j => if j = k then (fun j => o_maxL ((fun _ => 0) j) ((g4 p0 p1 p2 p3) j)) j + (1 : Int64) else (fun j => o_maxL ((fun _ => 0) j) ((g4 p0 p1 p2 p3) j)) j) _ _ hk hkS F_380 F_381 A_378 g_285 n_286) E_382 (wd hw 43 rfl) (wd hw 44 rfl) (wd hw 46 rfl) (wd hw 45 rfl) (wd hw 3 rfl) (wd hw 47 rfl) (by decide) pd_2 rfl rfl rfl (by decide) (by decide) (ce' := 4) (sl' := 14) rfl rfl (by decide) (by decide) at_89 (pc' := 92) rfl rfl ?_
    intro h_387 q_388
    obtain ⟨K_389, A_390⟩ := q_388
    have z_391 : Z.heap.size ≤ h_387.size := Nat.le_trans z_379 K_389.1
    have F_392 := Fld.keep F_380 K_389 (ninS n_286 nin0)
    have F_393 := Fld.keep F_381 K_389 (ninS n_286 nin0)
    have E_394 := Exa.keep E_382 K_389
    have E_395 := Exa.keep E_383 K_389
    have A_396 := Av.keep A_384 K_389 (ninS (Ne.symm n_298) nin0)
    have A_397 := Av.keep A_385 K_389 (ninS (Ne.symm n_366) nin0)
    refine go_iload C at_92 (pc' := 94) rfl rfl ?_
    refine go_iconst C (3 : Int32) at_94 (pc' := 95) rfl (by decide) ?_
    refine go_icmp C (2 : Int) (3 : Int) (by decide) (by decide) at_95 (by decide) (pc' := 103) (by decide) (pcN := 98) rfl (fun (c_398 : (2 : Int) < (3 : Int)) => ?_) (fun (c_398 : ¬ (2 : Int) < (3 : Int)) => by omega)
    refine go_aload C at_103 (pc' := 105) rfl rfl rfl ?_
    refine go_virtualV C (as := []) (rest := []) (W := 0) (sat_vec l Z a0 hw a_273 r_284 S (fun j => if j = k then (fun j => if j = k then (fun j => o_maxL ((fun _ => 0) j) ((g4 p0 p1 p2 p3) j)) j + (1 : Int64) else (fun j => o_maxL ((fun _ => 0) j) ((g4 p0 p1 p2 p3) j)) j) j + (1 : Int64) else (fun j => if j = k then (fun j => o_maxL ((fun _ => 0) j) ((g4 p0 p1 p2 p3) j)) j + (1 : Int64) else (fun j => o_maxL ((fun _ => 0) j) ((g4 p0 p1 p2 p3) j)) j) j) _ _ hS4 F_392 E_395 A_390 z_391) E_394 (wd hw 24 rfl) (wd hw 25 rfl) (wd hw 27 rfl) (wd hw 26 rfl) (wd hw 3 rfl) (wd hw 28 rfl) (by decide) pd_5 rfl rfl rfl (by decide) (by decide) (ce' := 5) (sl' := 18) rfl rfl (by decide) (by decide) at_105 (pc' := 108) rfl rfl ?_
    intro r_399 h_400 q_401
    obtain ⟨b_402, rfl, g_403, g_404, K_405, A_406⟩ := q_401
    have n_407 : a_293 ≠ b_402 := Nat.ne_of_lt (Nat.lt_of_lt_of_le A_396.lt g_404)
    have n_408 : b_360 ≠ b_402 := Nat.ne_of_lt (Nat.lt_of_lt_of_le A_397.lt g_404)
    have n_409 : r_284 ≠ b_402 := Nat.ne_of_lt (Nat.lt_of_lt_of_le A_390.lt g_404)
    have z_410 : Z.heap.size ≤ h_400.size := Nat.le_trans z_391 K_405.1
    have F_411 := Fld.keep F_392 K_405 nin0
    have F_412 := Fld.keep F_393 K_405 nin0
    have E_413 := Exa.keep E_394 K_405
    have E_414 := Exa.keep E_395 K_405
    have A_415 := Av.keep A_396 K_405 nin0
    have A_416 := Av.keep A_397 K_405 nin0
    have A_417 := Av.keep A_390 K_405 nin0
    refine go_astore C (Ls' := #[.val (.int x0), .val (.int x1), .val (.long p0), .second, .val (.long p1), .second, .val (.long p2), .second, .val (.long p3), .second, .val (.int sz), .val (.int (2 : Int32)), .val (.int ow), .val (.ref a_273), .val (.ref b_360), .val (.ref b_402)]) at_108 (pc' := 110) rfl rfl rfl ?_
    refine go_aload C at_110 (pc' := 112) rfl rfl rfl ?_
    refine go_arraylength C A_416 sz (by rw [lf_len]; exact hS) at_112 (pc' := 113) rfl ?_
    refine go_iload C at_113 (pc' := 115) rfl rfl ?_
    refine go_icmp C sz.toInt sz.toInt rfl rfl at_115 (by decide) (pc' := 126) (by decide) (pcN := 118) rfl (fun (c_418 : ¬ sz.toInt = sz.toInt) => by omega) (fun (c_418 : sz.toInt = sz.toInt) => ?_)
    refine go_aload C at_118 (pc' := 120) rfl rfl rfl ?_
    refine go_arraylength C A_406 sz (by rw [lf_len]; exact hS) at_120 (pc' := 121) rfl ?_
    refine go_iload C at_121 (pc' := 123) rfl rfl ?_
    refine go_icmp C sz.toInt sz.toInt rfl rfl at_123 (by decide) (pc' := 128) (by decide) (pcN := 126) rfl (fun (c_419 : sz.toInt = sz.toInt) => ?_) (fun (c_419 : ¬ sz.toInt = sz.toInt) => by omega)
    refine go_aload C at_128 (pc' := 130) rfl rfl rfl ?_
    refine go_aload C at_130 (pc' := 132) rfl rfl rfl ?_
    refine go_iconst C (0 : Int32) at_132 (pc' := 133) rfl (by decide) ?_
    refine go_iload C at_133 (pc' := 135) rfl rfl ?_
    refine go_iload C at_135 (pc' := 137) rfl rfl ?_
    refine go_iload C at_137 (pc' := 139) rfl rfl ?_
    refine go_lloadN C at_139 (pc' := 140) rfl rfl ?_
    refine go_staticP C (as := [.ref b_360, .ref b_402, .int (0 : Int32), .int sz, .int ow, .int (2 : Int32), .long p0]) (rest := []) (W := 0) (.int (1 : Int32)) (sat_slot l Z a0 hw b_360 b_402 (0 : Int32) sz ow (2 : Int32) p0 0 _ _ _ _ (by decide) A_416 A_406 (fun q => (lf_get _ (by rw [(by decide : (0 : Int32).toInt = 0)] at q; omega)).trans rfl) (fun q q2 => (lf_get _ (by rw [(by decide : (0 : Int32).toInt = 0)] at q; omega)).trans (by rw [(by decide : (0 : Int32).toInt = 0)] at q2; have z : 0 = k := (by omega); subst z; first | exact congrArg (fun v => some (Value.long v)) (own_t2 _) | (simp only [if_true, ite_true, if_pos]; exact congrArg (fun v => some (Value.long v)) (own_t2 _)))) (fun q q2 => (lf_get _ (by rw [(by decide : (0 : Int32).toInt = 0)] at q; omega)).trans (by rw [(by decide : (0 : Int32).toInt = 0)] at q2; have z : ¬ 0 = k := (by omega); simp only [if_neg z]; rfl))) (wd hw 38 rfl) (wd hw 39 rfl) (wd hw 40 rfl) (wd hw 41 rfl) (by decide) pd_6 rfl rfl rfl (by decide) (by decide) rfl rfl (by decide) (by decide) at_140 (pc' := 143) rfl rfl ?_
    refine go_if0 C (1 : Int) (by decide) at_143 (by decide) (pc' := 207) (by decide) (pcN := 146) rfl (fun (c_420 : (1 : Int) = 0) => by omega) (fun (c_420 : ¬ (1 : Int) = 0) => ?_)
    refine go_aload C at_146 (pc' := 148) rfl rfl rfl ?_
    refine go_aload C at_148 (pc' := 150) rfl rfl rfl ?_
    refine go_iconst C (1 : Int32) at_150 (pc' := 151) rfl (by decide) ?_
    refine go_iload C at_151 (pc' := 153) rfl rfl ?_
    refine go_iload C at_153 (pc' := 155) rfl rfl ?_
    refine go_iload C at_155 (pc' := 157) rfl rfl ?_
    refine go_lload C at_157 (pc' := 159) rfl rfl ?_
    refine go_staticP C (as := [.ref b_360, .ref b_402, .int (1 : Int32), .int sz, .int ow, .int (2 : Int32), .long p1]) (rest := []) (W := 0) (.int (1 : Int32)) (sat_slot l Z a0 hw b_360 b_402 (1 : Int32) sz ow (2 : Int32) p1 1 _ _ _ _ (by decide) A_416 A_406 (fun q => (lf_get _ (by rw [(by decide : (1 : Int32).toInt = 1)] at q; omega)).trans rfl) (fun q q2 => (lf_get _ (by rw [(by decide : (1 : Int32).toInt = 1)] at q; omega)).trans (by rw [(by decide : (1 : Int32).toInt = 1)] at q2; have z : 1 = k := (by omega); subst z; first | exact congrArg (fun v => some (Value.long v)) (own_t2 _) | (simp only [if_true, ite_true, if_pos]; exact congrArg (fun v => some (Value.long v)) (own_t2 _)))) (fun q q2 => (lf_get _ (by rw [(by decide : (1 : Int32).toInt = 1)] at q; omega)).trans (by rw [(by decide : (1 : Int32).toInt = 1)] at q2; have z : ¬ 1 = k := (by omega); simp only [if_neg z]; rfl))) (wd hw 38 rfl) (wd hw 39 rfl) (wd hw 40 rfl) (wd hw 41 rfl) (by decide) pd_6 rfl rfl rfl (by decide) (by decide) rfl rfl (by decide) (by decide) at_159 (pc' := 162) rfl rfl ?_
    refine go_if0 C (1 : Int) (by decide) at_162 (by decide) (pc' := 207) (by decide) (pcN := 165) rfl (fun (c_421 : (1 : Int) = 0) => by omega) (fun (c_421 : ¬ (1 : Int) = 0) => ?_)
    refine go_aload C at_165 (pc' := 167) rfl rfl rfl ?_
    refine go_aload C at_167 (pc' := 169) rfl rfl rfl ?_
    refine go_iconst C (2 : Int32) at_169 (pc' := 170) rfl (by decide) ?_
    refine go_iload C at_170 (pc' := 172) rfl rfl ?_
    refine go_iload C at_172 (pc' := 174) rfl rfl ?_
    refine go_iload C at_174 (pc' := 176) rfl rfl ?_
    refine go_lload C at_176 (pc' := 178) rfl rfl ?_
    refine go_staticP C (as := [.ref b_360, .ref b_402, .int (2 : Int32), .int sz, .int ow, .int (2 : Int32), .long p2]) (rest := []) (W := 0) (.int (1 : Int32)) (sat_slot l Z a0 hw b_360 b_402 (2 : Int32) sz ow (2 : Int32) p2 2 _ _ _ _ (by decide) A_416 A_406 (fun q => (lf_get _ (by rw [(by decide : (2 : Int32).toInt = 2)] at q; omega)).trans rfl) (fun q q2 => (lf_get _ (by rw [(by decide : (2 : Int32).toInt = 2)] at q; omega)).trans (by rw [(by decide : (2 : Int32).toInt = 2)] at q2; have z : 2 = k := (by omega); subst z; first | exact congrArg (fun v => some (Value.long v)) (own_t2 _) | (simp only [if_true, ite_true, if_pos]; exact congrArg (fun v => some (Value.long v)) (own_t2 _)))) (fun q q2 => (lf_get _ (by rw [(by decide : (2 : Int32).toInt = 2)] at q; omega)).trans (by rw [(by decide : (2 : Int32).toInt = 2)] at q2; have z : ¬ 2 = k := (by omega); simp only [if_neg z]; rfl))) (wd hw 38 rfl) (wd hw 39 rfl) (wd hw 40 rfl) (wd hw 41 rfl) (by decide) pd_6 rfl rfl rfl (by decide) (by decide) rfl rfl (by decide) (by decide) at_178 (pc' := 181) rfl rfl ?_
    refine go_if0 C (1 : Int) (by decide) at_181 (by decide) (pc' := 207) (by decide) (pcN := 184) rfl (fun (c_422 : (1 : Int) = 0) => by omega) (fun (c_422 : ¬ (1 : Int) = 0) => ?_)
    refine go_aload C at_184 (pc' := 186) rfl rfl rfl ?_
    refine go_aload C at_186 (pc' := 188) rfl rfl rfl ?_
    refine go_iconst C (3 : Int32) at_188 (pc' := 189) rfl (by decide) ?_
    refine go_iload C at_189 (pc' := 191) rfl rfl ?_
    refine go_iload C at_191 (pc' := 193) rfl rfl ?_
    refine go_iload C at_193 (pc' := 195) rfl rfl ?_
    refine go_lload C at_195 (pc' := 197) rfl rfl ?_
    refine go_staticP C (as := [.ref b_360, .ref b_402, .int (3 : Int32), .int sz, .int ow, .int (2 : Int32), .long p3]) (rest := []) (W := 0) (.int (1 : Int32)) (sat_slot l Z a0 hw b_360 b_402 (3 : Int32) sz ow (2 : Int32) p3 3 _ _ _ _ (by decide) A_416 A_406 (fun q => (lf_get _ (by rw [(by decide : (3 : Int32).toInt = 3)] at q; omega)).trans rfl) (fun q q2 => (lf_get _ (by rw [(by decide : (3 : Int32).toInt = 3)] at q; omega)).trans (by rw [(by decide : (3 : Int32).toInt = 3)] at q2; have z : 3 = k := (by omega); subst z; first | exact congrArg (fun v => some (Value.long v)) (own_t2 _) | (simp only [if_true, ite_true, if_pos]; exact congrArg (fun v => some (Value.long v)) (own_t2 _)))) (fun q q2 => (lf_get _ (by rw [(by decide : (3 : Int32).toInt = 3)] at q; omega)).trans (by rw [(by decide : (3 : Int32).toInt = 3)] at q2; have z : ¬ 3 = k := (by omega); simp only [if_neg z]; rfl))) (wd hw 38 rfl) (wd hw 39 rfl) (wd hw 40 rfl) (wd hw 41 rfl) (by decide) pd_6 rfl rfl rfl (by decide) (by decide) rfl rfl (by decide) (by decide) at_197 (pc' := 200) rfl rfl ?_
    refine go_if0 C (1 : Int) (by decide) at_200 (by decide) (pc' := 207) (by decide) (pcN := 203) rfl (fun (c_423 : (1 : Int) = 0) => by omega) (fun (c_423 : ¬ (1 : Int) = 0) => ?_)
    refine go_iconst C (1 : Int32) at_203 (pc' := 204) rfl (by decide) ?_
    refine go_goto C at_204 (by decide) (pc' := 208) (by decide) ?_
    refine go_ireturnN C (z' := (1 : Int32)) rfl (by simp) rfl at_208 (by decide) (by decide) ?_
    exact ⟨_, rfl, rfl⟩
  · rw [hn]
    refine go_iloadN C at_14 (pc' := 15) rfl rfl ?_
    refine go_ldc C (v := (2147483647 : Int32)) (wd hw 0 rfl) at_15 (pc' := 17) rfl ?_
    refine go_iand C at_17 (pc' := 18) rfl ?_
    refine go_iload C at_18 (pc' := 20) rfl rfl ?_
    refine go_irem C at_20 (pc' := 21) rfl hzz ?_
    refine go_istore C (Ls' := #[.val (.int x0), .val (.int x1), .val (.long p0), .second, .val (.long p1), .second, .val (.long p2), .second, .val (.long p3), .second, .val (.int sz), .val (.int (3 : Int32)), .val (.int ((x1 &&& (2147483647 : Int32)) % sz)), .unset, .unset, .unset]) at_21 (pc' := 23) rfl rfl ?_
    have hm2 : (x1 &&& (2147483647 : Int32)).toInt = x1.toInt % 2 ^ 31 := Jvm.Kit.i32_mask x1 _ (k := 31) (by decide) (by decide)
    have h6 : ((x1 &&& (2147483647 : Int32)) % sz).toInt = (x1 &&& (2147483647 : Int32)).toInt % sz.toInt := Jvm.Kit.i32_rem_nonneg (by omega)
    have hN1 : 0 ≤ ((x1 &&& (2147483647 : Int32)) % sz).toInt := by rw [h6]; exact Int.emod_nonneg _ (by omega)
    have hN2 : ((x1 &&& (2147483647 : Int32)) % sz).toInt < sz.toInt := by rw [h6]; exact Int.emod_lt_of_pos _ (by omega)
    obtain ⟨k, hk⟩ : ∃ k : Nat, ((x1 &&& (2147483647 : Int32)) % sz).toInt = (k : Int) := ⟨((x1 &&& (2147483647 : Int32)) % sz).toInt.toNat, by omega⟩
    have hkS : k < S := by omega
    clear h6 hm2 hN1 hN2
    generalize (x1 &&& (2147483647 : Int32)) % sz = ow at hk ⊢
    refine go_new C (wd hw 1 rfl) (wd hw 2 rfl) (wd hw 3 rfl) at_23 (pc' := 26) rfl (ce' := 1) (sl' := 2) rfl rfl (by decide) (by decide) ?_
    intro h_424 a_425 g_426 E_427 E_428 D_429
    have g_430 : Z.heap.size ≤ a_425 := own_ge (Nat.le_refl _) g_426
    have z_431 : Z.heap.size ≤ h_424.size := Nat.le_trans (Nat.le_refl _) E_427.1
    have F_432 : Fld Z h_424 a_425 "com/example/holder/holder/protocol/VectorClock" "counters" "[J" (.null) := D_429 (Or.inr (wd hw 12 rfl)) (ty := (.array .long)) (by decide)
    have F_433 : Fld Z h_424 a_425 "com/example/holder/holder/protocol/VectorClock" "own" "I" (.int (0 : Int32)) := D_429 (Or.inr (wd hw 14 rfl)) (ty := .int) (by decide)
    refine go_dup C at_26 (pc' := 27) rfl rfl ?_
    refine go_iload C at_27 (pc' := 29) rfl rfl ?_
    refine go_iload C at_29 (pc' := 31) rfl rfl ?_
    refine go_specialN C (as := [.int sz, .int ow]) (rest := [.ref a_425]) (W := 1) (sat_init l Z a0 hw a_425 sz ow S _ _ hS hS4 E_428 F_432 F_433 g_430 z_431) rfl (wd hw 4 rfl) (wd hw 5 rfl) (wd hw 3 rfl) (wd hw 6 rfl) (by decide) pd_1 rfl rfl rfl (by decide) (by decide) (ce' := 2) (sl' := 6) rfl rfl (by decide) (by decide) at_31 (pc' := 34) rfl rfl ?_
    intro h_434 q_435
    obtain ⟨r_436, g_437, n_438, E_439, F_440, F_441, E_442, A_443⟩ := q_435
    refine go_astore C (Ls' := #[.val (.int x0), .val (.int x1), .val (.long p0), .second, .val (.long p1), .second, .val (.long p2), .second, .val (.long p3), .second, .val (.int sz), .val (.int (3 : Int32)), .val (.int ow), .val (.ref a_425), .unset, .unset]) at_34 (pc' := 36) rfl rfl rfl ?_
    refine go_aload C at_36 (pc' := 38) rfl rfl rfl ?_
    refine go_iconst C (4 : Int32) at_38 (pc' := 39) rfl (by decide) ?_
    refine go_newarray C (wd hw 10 rfl) rfl 4 4 (by decide) (by decide) (by decide) (ce' := 3) (sl' := 10) rfl rfl (by decide) (by decide) at_39 (pc' := 41) rfl ?_
    intro h_444 a_445 g_446 E_447 A_448
    have n_449 : a_425 ≠ a_445 := own_ne_new E_439.lt g_446
    have n_450 : r_436 ≠ a_445 := own_ne_new A_443.lt g_446
    have g_451 : Z.heap.size ≤ a_445 := own_ge (Nat.le_of_lt (Nat.lt_of_le_of_lt g_430 E_439.lt)) g_446
    have F_452 := Fld.ext E_447 F_440
    have F_453 := Fld.ext E_447 F_441
    have E_454 := Exa.ext E_447 E_439
    have E_455 := Exa.ext E_447 E_442
    have A_456 := Av.ext A_443 E_447
    have z_457 : Z.heap.size ≤ h_444.size := Nat.le_trans (Nat.le_of_lt (Nat.lt_of_le_of_lt g_430 E_439.lt)) E_447.1
    have A_458 : Av Z h_444 a_445 .long [.long (0 : Int64), .long (0 : Int64), .long (0 : Int64), .long (0 : Int64)] := A_448
    refine go_dup C at_41 (pc' := 42) rfl rfl ?_
    refine go_iconst C (0 : Int32) at_42 (pc' := 43) rfl (by decide) ?_
    refine go_lloadN C at_43 (pc' := 44) rfl rfl ?_
    refine go_lastore C A_458 0 (by decide) (show 0 < 4 from by decide) g_451 at_44 (pc' := 45) rfl ?_
    intro h_459 W_460 A_461
    have z_462 : Z.heap.size ≤ h_459.size := W_460.size.symm ▸ z_457
    have F_463 := Fld.other W_460 F_452 (Or.inl n_449)
    have F_464 := Fld.other W_460 F_453 (Or.inl n_449)
    have E_465 := Exa.wr W_460 E_454
    have E_466 := Exa.wr W_460 E_455
    have A_467 := Av.other A_456 W_460 n_450
    have A_468 : Av Z h_459 a_445 .long [.long p0, .long (0 : Int64), .long (0 : Int64), .long (0 : Int64)] := A_461
    refine go_dup C at_45 (pc' := 46) rfl rfl ?_
    refine go_iconst C (1 : Int32) at_46 (pc' := 47) rfl (by decide) ?_
    refine go_lload C at_47 (pc' := 49) rfl rfl ?_
    refine go_lastore C A_468 1 (by decide) (show 1 < 4 from by decide) g_451 at_49 (pc' := 50) rfl ?_
    intro h_469 W_470 A_471
    have z_472 : Z.heap.size ≤ h_469.size := W_470.size.symm ▸ z_462
    have F_473 := Fld.other W_470 F_463 (Or.inl n_449)
    have F_474 := Fld.other W_470 F_464 (Or.inl n_449)
    have E_475 := Exa.wr W_470 E_465
    have E_476 := Exa.wr W_470 E_466
    have A_477 := Av.other A_467 W_470 n_450
    have A_478 : Av Z h_469 a_445 .long [.long p0, .long p1, .long (0 : Int64), .long (0 : Int64)] := A_471
    refine go_dup C at_50 (pc' := 51) rfl rfl ?_
    refine go_iconst C (2 : Int32) at_51 (pc' := 52) rfl (by decide) ?_
    refine go_lload C at_52 (pc' := 54) rfl rfl ?_
    refine go_lastore C A_478 2 (by decide) (show 2 < 4 from by decide) g_451 at_54 (pc' := 55) rfl ?_
    intro h_479 W_480 A_481
    have z_482 : Z.heap.size ≤ h_479.size := W_480.size.symm ▸ z_472
    have F_483 := Fld.other W_480 F_473 (Or.inl n_449)
    have F_484 := Fld.other W_480 F_474 (Or.inl n_449)
    have E_485 := Exa.wr W_480 E_475
    have E_486 := Exa.wr W_480 E_476
    have A_487 := Av.other A_477 W_480 n_450
    have A_488 : Av Z h_479 a_445 .long [.long p0, .long p1, .long p2, .long (0 : Int64)] := A_481
    refine go_dup C at_55 (pc' := 56) rfl rfl ?_
    refine go_iconst C (3 : Int32) at_56 (pc' := 57) rfl (by decide) ?_
    refine go_lload C at_57 (pc' := 59) rfl rfl ?_
    refine go_lastore C A_488 3 (by decide) (show 3 < 4 from by decide) g_451 at_59 (pc' := 60) rfl ?_
    intro h_489 W_490 A_491
    have z_492 : Z.heap.size ≤ h_489.size := W_490.size.symm ▸ z_482
    have F_493 := Fld.other W_490 F_483 (Or.inl n_449)
    have F_494 := Fld.other W_490 F_484 (Or.inl n_449)
    have E_495 := Exa.wr W_490 E_485
    have E_496 := Exa.wr W_490 E_486
    have A_497 := Av.other A_487 W_490 n_450
    have A_498 : Av Z h_489 a_445 .long [.long p0, .long p1, .long p2, .long p3] := A_491
    refine go_virtualN C (as := [.ref a_445]) (rest := []) (W := 0) (sat_merge l Z a0 hw a_425 a_445 r_436 sz S 4 (fun _ => 0) (g4 p0 p1 p2 p3) _ _ hS hS4 (by decide) F_493 A_497 A_498 g_437 n_438 (Ne.symm n_450)) E_495 (wd hw 15 rfl) (wd hw 16 rfl) (wd hw 18 rfl) (wd hw 17 rfl) (wd hw 3 rfl) (wd hw 19 rfl) (by decide) pd_3 rfl rfl rfl (by decide) (by decide) (ce' := 3) (sl' := 10) rfl rfl (by decide) (by decide) at_60 (pc' := 63) rfl rfl ?_
    intro h_499 q_500
    obtain ⟨K_501, A_502⟩ := q_500
    have z_503 : Z.heap.size ≤ h_499.size := Nat.le_trans z_492 K_501.1
    have F_504 := Fld.keep F_493 K_501 (ninS n_438 nin0)
    have F_505 := Fld.keep F_494 K_501 (ninS n_438 nin0)
    have E_506 := Exa.keep E_495 K_501
    have E_507 := Exa.keep E_496 K_501
    have A_508 := Av.keep A_498 K_501 (ninS (Ne.symm n_450) nin0)
    refine go_aload C at_63 (pc' := 65) rfl rfl rfl ?_
    refine go_virtualV C (as := []) (rest := []) (W := 0) (sat_vec l Z a0 hw a_425 r_436 S (fun j => o_maxL ((fun _ => 0) j) ((g4 p0 p1 p2 p3) j)) _ _ hS4 F_504 E_507 A_502 z_503) E_506 (wd hw 24 rfl) (wd hw 25 rfl) (wd hw 27 rfl) (wd hw 26 rfl) (wd hw 3 rfl) (wd hw 28 rfl) (by decide) pd_5 rfl rfl rfl (by decide) (by decide) (ce' := 4) (sl' := 14) rfl rfl (by decide) (by decide) at_65 (pc' := 68) rfl rfl ?_
    intro r_509 h_510 q_511
    obtain ⟨b_512, rfl, g_513, g_514, K_515, A_516⟩ := q_511
    have n_517 : a_445 ≠ b_512 := Nat.ne_of_lt (Nat.lt_of_lt_of_le A_508.lt g_514)
    have n_518 : r_436 ≠ b_512 := Nat.ne_of_lt (Nat.lt_of_lt_of_le A_502.lt g_514)
    have z_519 : Z.heap.size ≤ h_510.size := Nat.le_trans z_503 K_515.1
    have F_520 := Fld.keep F_504 K_515 nin0
    have F_521 := Fld.keep F_505 K_515 nin0
    have E_522 := Exa.keep E_506 K_515
    have E_523 := Exa.keep E_507 K_515
    have A_524 := Av.keep A_508 K_515 nin0
    have A_525 := Av.keep A_502 K_515 nin0
    refine go_astore C (Ls' := #[.val (.int x0), .val (.int x1), .val (.long p0), .second, .val (.long p1), .second, .val (.long p2), .second, .val (.long p3), .second, .val (.int sz), .val (.int (3 : Int32)), .val (.int ow), .val (.ref a_425), .val (.ref b_512), .unset]) at_68 (pc' := 70) rfl rfl rfl ?_
    refine go_iload C at_70 (pc' := 72) rfl rfl ?_
    refine go_iconst C (1 : Int32) at_72 (pc' := 73) rfl (by decide) ?_
    refine go_icmp C (3 : Int) (1 : Int) (by decide) (by decide) at_73 (by decide) (pc' := 81) (by decide) (pcN := 76) rfl (fun (c_526 : (3 : Int) < (1 : Int)) => by omega) (fun (c_526 : ¬ (3 : Int) < (1 : Int)) => ?_)
    refine go_aload C at_76 (pc' := 78) rfl rfl rfl ?_
    refine go_virtualN C (as := []) (rest := []) (W := 0) (sat_tick l Z a0 hw a_425 r_436 ow S k (fun j => o_maxL ((fun _ => 0) j) ((g4 p0 p1 p2 p3) j)) _ _ hk hkS F_520 F_521 A_525 g_437 n_438) E_522 (wd hw 43 rfl) (wd hw 44 rfl) (wd hw 46 rfl) (wd hw 45 rfl) (wd hw 3 rfl) (wd hw 47 rfl) (by decide) pd_2 rfl rfl rfl (by decide) (by decide) (ce' := 4) (sl' := 14) rfl rfl (by decide) (by decide) at_78 (pc' := 81) rfl rfl ?_
    intro h_527 q_528
    obtain ⟨K_529, A_530⟩ := q_528
    have z_531 : Z.heap.size ≤ h_527.size := Nat.le_trans z_519 K_529.1
    have F_532 := Fld.keep F_520 K_529 (ninS n_438 nin0)
    have F_533 := Fld.keep F_521 K_529 (ninS n_438 nin0)
    have E_534 := Exa.keep E_522 K_529
    have E_535 := Exa.keep E_523 K_529
    have A_536 := Av.keep A_524 K_529 (ninS (Ne.symm n_450) nin0)
    have A_537 := Av.keep A_516 K_529 (ninS (Ne.symm n_518) nin0)
    refine go_iload C at_81 (pc' := 83) rfl rfl ?_
    refine go_iconst C (2 : Int32) at_83 (pc' := 84) rfl (by decide) ?_
    refine go_icmp C (3 : Int) (2 : Int) (by decide) (by decide) at_84 (by decide) (pc' := 92) (by decide) (pcN := 87) rfl (fun (c_538 : (3 : Int) < (2 : Int)) => by omega) (fun (c_538 : ¬ (3 : Int) < (2 : Int)) => ?_)
    refine go_aload C at_87 (pc' := 89) rfl rfl rfl ?_
    refine go_virtualN C (as := []) (rest := []) (W := 0) (sat_tick l Z a0 hw a_425 r_436 ow S k (fun j => if j = k then (fun j => o_maxL ((fun _ => 0) j) ((g4 p0 p1 p2 p3) j)) j + (1 : Int64) else (fun j => o_maxL ((fun _ => 0) j) ((g4 p0 p1 p2 p3) j)) j) _ _ hk hkS F_532 F_533 A_530 g_437 n_438) E_534 (wd hw 43 rfl) (wd hw 44 rfl) (wd hw 46 rfl) (wd hw 45 rfl) (wd hw 3 rfl) (wd hw 47 rfl) (by decide) pd_2 rfl rfl rfl (by decide) (by decide) (ce' := 4) (sl' := 14) rfl rfl (by decide) (by decide) at_89 (pc' := 92) rfl rfl ?_
    intro h_539 q_540
    obtain ⟨K_541, A_542⟩ := q_540
    have z_543 : Z.heap.size ≤ h_539.size := Nat.le_trans z_531 K_541.1
    have F_544 := Fld.keep F_532 K_541 (ninS n_438 nin0)
    have F_545 := Fld.keep F_533 K_541 (ninS n_438 nin0)
    have E_546 := Exa.keep E_534 K_541
    have E_547 := Exa.keep E_535 K_541
    have A_548 := Av.keep A_536 K_541 (ninS (Ne.symm n_450) nin0)
    have A_549 := Av.keep A_537 K_541 (ninS (Ne.symm n_518) nin0)
    refine go_iload C at_92 (pc' := 94) rfl rfl ?_
    refine go_iconst C (3 : Int32) at_94 (pc' := 95) rfl (by decide) ?_
    refine go_icmp C (3 : Int) (3 : Int) (by decide) (by decide) at_95 (by decide) (pc' := 103) (by decide) (pcN := 98) rfl (fun (c_550 : (3 : Int) < (3 : Int)) => by omega) (fun (c_550 : ¬ (3 : Int) < (3 : Int)) => ?_)
    refine go_aload C at_98 (pc' := 100) rfl rfl rfl ?_
    refine go_virtualN C (as := []) (rest := []) (W := 0) (sat_tick l Z a0 hw a_425 r_436 ow S k (fun j => if j = k then (fun j => if j = k then (fun j => o_maxL ((fun _ => 0) j) ((g4 p0 p1 p2 p3) j)) j + (1 : Int64) else (fun j => o_maxL ((fun _ => 0) j) ((g4 p0 p1 p2 p3) j)) j) j + (1 : Int64) else (fun j => if j = k then (fun j => o_maxL ((fun _ => 0) j) ((g4 p0 p1 p2 p3) j)) j + (1 : Int64) else (fun j => o_maxL ((fun _ => 0) j) ((g4 p0 p1 p2 p3) j)) j) j) _ _ hk hkS F_544 F_545 A_542 g_437 n_438) E_546 (wd hw 43 rfl) (wd hw 44 rfl) (wd hw 46 rfl) (wd hw 45 rfl) (wd hw 3 rfl) (wd hw 47 rfl) (by decide) pd_2 rfl rfl rfl (by decide) (by decide) (ce' := 4) (sl' := 14) rfl rfl (by decide) (by decide) at_100 (pc' := 103) rfl rfl ?_
    intro h_551 q_552
    obtain ⟨K_553, A_554⟩ := q_552
    have z_555 : Z.heap.size ≤ h_551.size := Nat.le_trans z_543 K_553.1
    have F_556 := Fld.keep F_544 K_553 (ninS n_438 nin0)
    have F_557 := Fld.keep F_545 K_553 (ninS n_438 nin0)
    have E_558 := Exa.keep E_546 K_553
    have E_559 := Exa.keep E_547 K_553
    have A_560 := Av.keep A_548 K_553 (ninS (Ne.symm n_450) nin0)
    have A_561 := Av.keep A_549 K_553 (ninS (Ne.symm n_518) nin0)
    refine go_aload C at_103 (pc' := 105) rfl rfl rfl ?_
    refine go_virtualV C (as := []) (rest := []) (W := 0) (sat_vec l Z a0 hw a_425 r_436 S (fun j => if j = k then (fun j => if j = k then (fun j => if j = k then (fun j => o_maxL ((fun _ => 0) j) ((g4 p0 p1 p2 p3) j)) j + (1 : Int64) else (fun j => o_maxL ((fun _ => 0) j) ((g4 p0 p1 p2 p3) j)) j) j + (1 : Int64) else (fun j => if j = k then (fun j => o_maxL ((fun _ => 0) j) ((g4 p0 p1 p2 p3) j)) j + (1 : Int64) else (fun j => o_maxL ((fun _ => 0) j) ((g4 p0 p1 p2 p3) j)) j) j) j + (1 : Int64) else (fun j => if j = k then (fun j => if j = k then (fun j => o_maxL ((fun _ => 0) j) ((g4 p0 p1 p2 p3) j)) j + (1 : Int64) else (fun j => o_maxL ((fun _ => 0) j) ((g4 p0 p1 p2 p3) j)) j) j + (1 : Int64) else (fun j => if j = k then (fun j => o_maxL ((fun _ => 0) j) ((g4 p0 p1 p2 p3) j)) j + (1 : Int64) else (fun j => o_maxL ((fun _ => 0) j) ((g4 p0 p1 p2 p3) j)) j) j) j) _ _ hS4 F_556 E_559 A_554 z_555) E_558 (wd hw 24 rfl) (wd hw 25 rfl) (wd hw 27 rfl) (wd hw 26 rfl) (wd hw 3 rfl) (wd hw 28 rfl) (by decide) pd_5 rfl rfl rfl (by decide) (by decide) (ce' := 5) (sl' := 18) rfl rfl (by decide) (by decide) at_105 (pc' := 108) rfl rfl ?_
    intro r_562 h_563 q_564
    obtain ⟨b_565, rfl, g_566, g_567, K_568, A_569⟩ := q_564
    have n_570 : a_445 ≠ b_565 := Nat.ne_of_lt (Nat.lt_of_lt_of_le A_560.lt g_567)
    have n_571 : b_512 ≠ b_565 := Nat.ne_of_lt (Nat.lt_of_lt_of_le A_561.lt g_567)
    have n_572 : r_436 ≠ b_565 := Nat.ne_of_lt (Nat.lt_of_lt_of_le A_554.lt g_567)
    have z_573 : Z.heap.size ≤ h_563.size := Nat.le_trans z_555 K_568.1
    have F_574 := Fld.keep F_556 K_568 nin0
    have F_575 := Fld.keep F_557 K_568 nin0
    have E_576 := Exa.keep E_558 K_568
    have E_577 := Exa.keep E_559 K_568
    have A_578 := Av.keep A_560 K_568 nin0
    have A_579 := Av.keep A_561 K_568 nin0
    have A_580 := Av.keep A_554 K_568 nin0
    refine go_astore C (Ls' := #[.val (.int x0), .val (.int x1), .val (.long p0), .second, .val (.long p1), .second, .val (.long p2), .second, .val (.long p3), .second, .val (.int sz), .val (.int (3 : Int32)), .val (.int ow), .val (.ref a_425), .val (.ref b_512), .val (.ref b_565)]) at_108 (pc' := 110) rfl rfl rfl ?_
    refine go_aload C at_110 (pc' := 112) rfl rfl rfl ?_
    refine go_arraylength C A_579 sz (by rw [lf_len]; exact hS) at_112 (pc' := 113) rfl ?_
    refine go_iload C at_113 (pc' := 115) rfl rfl ?_
    refine go_icmp C sz.toInt sz.toInt rfl rfl at_115 (by decide) (pc' := 126) (by decide) (pcN := 118) rfl (fun (c_581 : ¬ sz.toInt = sz.toInt) => by omega) (fun (c_581 : sz.toInt = sz.toInt) => ?_)
    refine go_aload C at_118 (pc' := 120) rfl rfl rfl ?_
    refine go_arraylength C A_569 sz (by rw [lf_len]; exact hS) at_120 (pc' := 121) rfl ?_
    refine go_iload C at_121 (pc' := 123) rfl rfl ?_
    refine go_icmp C sz.toInt sz.toInt rfl rfl at_123 (by decide) (pc' := 128) (by decide) (pcN := 126) rfl (fun (c_582 : sz.toInt = sz.toInt) => ?_) (fun (c_582 : ¬ sz.toInt = sz.toInt) => by omega)
    refine go_aload C at_128 (pc' := 130) rfl rfl rfl ?_
    refine go_aload C at_130 (pc' := 132) rfl rfl rfl ?_
    refine go_iconst C (0 : Int32) at_132 (pc' := 133) rfl (by decide) ?_
    refine go_iload C at_133 (pc' := 135) rfl rfl ?_
    refine go_iload C at_135 (pc' := 137) rfl rfl ?_
    refine go_iload C at_137 (pc' := 139) rfl rfl ?_
    refine go_lloadN C at_139 (pc' := 140) rfl rfl ?_
    refine go_staticP C (as := [.ref b_512, .ref b_565, .int (0 : Int32), .int sz, .int ow, .int (3 : Int32), .long p0]) (rest := []) (W := 0) (.int (1 : Int32)) (sat_slot l Z a0 hw b_512 b_565 (0 : Int32) sz ow (3 : Int32) p0 0 _ _ _ _ (by decide) A_579 A_569 (fun q => (lf_get _ (by rw [(by decide : (0 : Int32).toInt = 0)] at q; omega)).trans rfl) (fun q q2 => (lf_get _ (by rw [(by decide : (0 : Int32).toInt = 0)] at q; omega)).trans (by rw [(by decide : (0 : Int32).toInt = 0)] at q2; have z : 0 = k := (by omega); subst z; first | exact congrArg (fun v => some (Value.long v)) (own_t3 _) | (simp only [if_true, ite_true, if_pos]; exact congrArg (fun v => some (Value.long v)) (own_t3 _)))) (fun q q2 => (lf_get _ (by rw [(by decide : (0 : Int32).toInt = 0)] at q; omega)).trans (by rw [(by decide : (0 : Int32).toInt = 0)] at q2; have z : ¬ 0 = k := (by omega); simp only [if_neg z]; rfl))) (wd hw 38 rfl) (wd hw 39 rfl) (wd hw 40 rfl) (wd hw 41 rfl) (by decide) pd_6 rfl rfl rfl (by decide) (by decide) rfl rfl (by decide) (by decide) at_140 (pc' := 143) rfl rfl ?_
    refine go_if0 C (1 : Int) (by decide) at_143 (by decide) (pc' := 207) (by decide) (pcN := 146) rfl (fun (c_583 : (1 : Int) = 0) => by omega) (fun (c_583 : ¬ (1 : Int) = 0) => ?_)
    refine go_aload C at_146 (pc' := 148) rfl rfl rfl ?_
    refine go_aload C at_148 (pc' := 150) rfl rfl rfl ?_
    refine go_iconst C (1 : Int32) at_150 (pc' := 151) rfl (by decide) ?_
    refine go_iload C at_151 (pc' := 153) rfl rfl ?_
    refine go_iload C at_153 (pc' := 155) rfl rfl ?_
    refine go_iload C at_155 (pc' := 157) rfl rfl ?_
    refine go_lload C at_157 (pc' := 159) rfl rfl ?_
    refine go_staticP C (as := [.ref b_512, .ref b_565, .int (1 : Int32), .int sz, .int ow, .int (3 : Int32), .long p1]) (rest := []) (W := 0) (.int (1 : Int32)) (sat_slot l Z a0 hw b_512 b_565 (1 : Int32) sz ow (3 : Int32) p1 1 _ _ _ _ (by decide) A_579 A_569 (fun q => (lf_get _ (by rw [(by decide : (1 : Int32).toInt = 1)] at q; omega)).trans rfl) (fun q q2 => (lf_get _ (by rw [(by decide : (1 : Int32).toInt = 1)] at q; omega)).trans (by rw [(by decide : (1 : Int32).toInt = 1)] at q2; have z : 1 = k := (by omega); subst z; first | exact congrArg (fun v => some (Value.long v)) (own_t3 _) | (simp only [if_true, ite_true, if_pos]; exact congrArg (fun v => some (Value.long v)) (own_t3 _)))) (fun q q2 => (lf_get _ (by rw [(by decide : (1 : Int32).toInt = 1)] at q; omega)).trans (by rw [(by decide : (1 : Int32).toInt = 1)] at q2; have z : ¬ 1 = k := (by omega); simp only [if_neg z]; rfl))) (wd hw 38 rfl) (wd hw 39 rfl) (wd hw 40 rfl) (wd hw 41 rfl) (by decide) pd_6 rfl rfl rfl (by decide) (by decide) rfl rfl (by decide) (by decide) at_159 (pc' := 162) rfl rfl ?_
    refine go_if0 C (1 : Int) (by decide) at_162 (by decide) (pc' := 207) (by decide) (pcN := 165) rfl (fun (c_584 : (1 : Int) = 0) => by omega) (fun (c_584 : ¬ (1 : Int) = 0) => ?_)
    refine go_aload C at_165 (pc' := 167) rfl rfl rfl ?_
    refine go_aload C at_167 (pc' := 169) rfl rfl rfl ?_
    refine go_iconst C (2 : Int32) at_169 (pc' := 170) rfl (by decide) ?_
    refine go_iload C at_170 (pc' := 172) rfl rfl ?_
    refine go_iload C at_172 (pc' := 174) rfl rfl ?_
    refine go_iload C at_174 (pc' := 176) rfl rfl ?_
    refine go_lload C at_176 (pc' := 178) rfl rfl ?_
    refine go_staticP C (as := [.ref b_512, .ref b_565, .int (2 : Int32), .int sz, .int ow, .int (3 : Int32), .long p2]) (rest := []) (W := 0) (.int (1 : Int32)) (sat_slot l Z a0 hw b_512 b_565 (2 : Int32) sz ow (3 : Int32) p2 2 _ _ _ _ (by decide) A_579 A_569 (fun q => (lf_get _ (by rw [(by decide : (2 : Int32).toInt = 2)] at q; omega)).trans rfl) (fun q q2 => (lf_get _ (by rw [(by decide : (2 : Int32).toInt = 2)] at q; omega)).trans (by rw [(by decide : (2 : Int32).toInt = 2)] at q2; have z : 2 = k := (by omega); subst z; first | exact congrArg (fun v => some (Value.long v)) (own_t3 _) | (simp only [if_true, ite_true, if_pos]; exact congrArg (fun v => some (Value.long v)) (own_t3 _)))) (fun q q2 => (lf_get _ (by rw [(by decide : (2 : Int32).toInt = 2)] at q; omega)).trans (by rw [(by decide : (2 : Int32).toInt = 2)] at q2; have z : ¬ 2 = k := (by omega); simp only [if_neg z]; rfl))) (wd hw 38 rfl) (wd hw 39 rfl) (wd hw 40 rfl) (wd hw 41 rfl) (by decide) pd_6 rfl rfl rfl (by decide) (by decide) rfl rfl (by decide) (by decide) at_178 (pc' := 181) rfl rfl ?_
    refine go_if0 C (1 : Int) (by decide) at_181 (by decide) (pc' := 207) (by decide) (pcN := 184) rfl (fun (c_585 : (1 : Int) = 0) => by omega) (fun (c_585 : ¬ (1 : Int) = 0) => ?_)
    refine go_aload C at_184 (pc' := 186) rfl rfl rfl ?_
    refine go_aload C at_186 (pc' := 188) rfl rfl rfl ?_
    refine go_iconst C (3 : Int32) at_188 (pc' := 189) rfl (by decide) ?_
    refine go_iload C at_189 (pc' := 191) rfl rfl ?_
    refine go_iload C at_191 (pc' := 193) rfl rfl ?_
    refine go_iload C at_193 (pc' := 195) rfl rfl ?_
    refine go_lload C at_195 (pc' := 197) rfl rfl ?_
    refine go_staticP C (as := [.ref b_512, .ref b_565, .int (3 : Int32), .int sz, .int ow, .int (3 : Int32), .long p3]) (rest := []) (W := 0) (.int (1 : Int32)) (sat_slot l Z a0 hw b_512 b_565 (3 : Int32) sz ow (3 : Int32) p3 3 _ _ _ _ (by decide) A_579 A_569 (fun q => (lf_get _ (by rw [(by decide : (3 : Int32).toInt = 3)] at q; omega)).trans rfl) (fun q q2 => (lf_get _ (by rw [(by decide : (3 : Int32).toInt = 3)] at q; omega)).trans (by rw [(by decide : (3 : Int32).toInt = 3)] at q2; have z : 3 = k := (by omega); subst z; first | exact congrArg (fun v => some (Value.long v)) (own_t3 _) | (simp only [if_true, ite_true, if_pos]; exact congrArg (fun v => some (Value.long v)) (own_t3 _)))) (fun q q2 => (lf_get _ (by rw [(by decide : (3 : Int32).toInt = 3)] at q; omega)).trans (by rw [(by decide : (3 : Int32).toInt = 3)] at q2; have z : ¬ 3 = k := (by omega); simp only [if_neg z]; rfl))) (wd hw 38 rfl) (wd hw 39 rfl) (wd hw 40 rfl) (wd hw 41 rfl) (by decide) pd_6 rfl rfl rfl (by decide) (by decide) rfl rfl (by decide) (by decide) at_197 (pc' := 200) rfl rfl ?_
    refine go_if0 C (1 : Int) (by decide) at_200 (by decide) (pc' := 207) (by decide) (pcN := 203) rfl (fun (c_586 : (1 : Int) = 0) => by omega) (fun (c_586 : ¬ (1 : Int) = 0) => ?_)
    refine go_iconst C (1 : Int32) at_203 (pc' := 204) rfl (by decide) ?_
    refine go_goto C at_204 (by decide) (pc' := 208) (by decide) ?_
    refine go_ireturnN C (z' := (1 : Int32)) rfl (by simp) rfl at_208 (by decide) (by decide) ?_
    exact ⟨_, rfl, rfl⟩
set_option maxRecDepth 65536 in
set_option maxHeartbeats 40000000 in
theorem comes_1 {Post : Tables → Env → Array Value → State → Outcome → State → Prop} (hpost : ∀ tb e args s v u, (limb_1_1.after args s (.returned v) u = true ∧ limb_1_2.after args s (.returned v) u = true ∧ True) → FrameEnd s (.returned v) u (Jvm.fieldLocs frame_1_writes args s ++ Jvm.arrayLocs frame_1_arrays args s ++ Jvm.staticLocs frame_1_statics s) 24 128 → Post tb e args s (.returned v) u) :
    ArmFor flags0 classFile x code maxLocals ret World_1 tables_1 room_1 Calls_1 rest_1 Pre_1 Post := by
  intro l hfl _ _ p e ha hc hk s m args below hf hA hF happ hP
  obtain ⟨hcalls, hrest, hpre⟩ := hP
  obtain ⟨-, -, -, hnamed, -, -, -, hat⟩ := (Spec.applies_iff hf).mp happ
  obtain ⟨hg, hn⟩ := and_e (Cond.before_iff.mp (show (Jvm.Cond.and given_1 narrow_1).before args s = true from hpre))
  obtain ⟨k0, g0⟩ := and_e hg
  obtain ⟨k1, g1⟩ := and_e g0
  obtain ⟨k2, g2⟩ := and_e g1
  obtain ⟨k3, g3⟩ := and_e g2
  obtain ⟨k4, g4⟩ := and_e g3
  obtain ⟨k5, g5⟩ := and_e g4
  obtain ⟨w0, w1, w2, w3, w4, w5, rfl⟩ : ∃ w0 w1 w2 w3 w4 w5 : Value, args = #[w0, w1, w2, w3, w4, w5] := by
    have hs : args.size = 6 := by simpa [Cond.value, given_1] using k0
    obtain ⟨L⟩ := args
    match L, hs with
    | [w0, w1, w2, w3, w4, w5], _ => exact ⟨w0, w1, w2, w3, w4, w5, rfl⟩
  have hw := fun d (hd : d ∈ tables_1) => atoms_spec (ws := Jvm.Cond.code x code maxLocals ret :: tables_1) hat d (List.mem_cons_of_mem _ hd)
  obtain ⟨i0, e0⟩ := is_v k1
  obtain ⟨i1, e1⟩ := is_v k2
  obtain ⟨i2, e2⟩ := isL_v k3
  obtain ⟨i3, e3⟩ := isL_v k4
  obtain ⟨i4, e4⟩ := isL_v k5
  obtain ⟨i5, e5⟩ := isL_v g5
  obtain rfl : w0 = (.int i0) := Option.some.inj e0
  obtain rfl : w1 = (.int i1) := Option.some.inj e1
  obtain rfl : w2 = (.long i2) := Option.some.inj e2
  obtain rfl : w3 = (.long i3) := Option.some.inj e3
  obtain rfl : w4 = (.long i4) := Option.some.inj e4
  obtain rfl : w5 = (.long i5) := Option.some.inj e5
  obtain ⟨n, o, h1, h2, h3, _, L, rfl, ⟨⟨_, rfl, rfl⟩, N⟩, hq⟩ := law_sat l s _ hw i0 i1 i2 i3 i4 i5 tables_1 p e ha hc hk s m _ below hf ((Spec.applies_iff_loose hf).mp happ).1 ⟨rfl, State.Warmed39.refl s, rfl⟩ trivial
  refine ⟨n, _, h1, h2, h3, hpost _ _ _ _ _ _ ⟨Cond.after_iff.mpr rfl, Cond.after_iff.mpr (eq_i res_at (Term.int_eval (1)) rfl), trivial⟩ ⟨hq.1, hq.2.1, (hq.2.2.sift fun y hy => Or.inr (N y hy)).mono (by decide) (by decide)⟩⟩
theorem main_1_1 : Claimed_1_1 := comes_1 fun _ _ _ _ _ _ h hF => ⟨h.1, hF⟩
theorem main_1_2 : Claimed_1_2 := comes_1 fun _ _ _ _ _ _ h hF => ⟨h.2.1, hF⟩
end Jvm.Pilot.@@N@@
namespace Jvm.Pilot.@@N@@
open Jvm Jvm.ClassFile Sem Op Lib Jvm.Free Jvm.Stand Jvm.Pilot.@@N@@.Jvm.D
/-! MADE BY PROGRAM (witnessworld.py) out of the Statement's table words and the real class files: 12 classes; the members and pool entries that the words name. The judged class is class 1, her method 1. -/
namespace start1
open Jvm.ClassFile
def u (s : String) : CpInfo := .utf8 (stringToUtf16 s)
/-- a pool by its gaps: so many unusable entries, then the entry; so many at the end -/
def gap : Nat → List CpInfo → List CpInfo
  | 0, r => r
  | n + 1, r => .unusable :: gap n r
def poolList (es : List (Nat × CpInfo)) (last : Nat) : List CpInfo := es.foldr (fun e r => gap e.1 (e.2 :: r)) (gap last [])
def pool (es : List (Nat × CpInfo)) (last : Nat) : Array CpInfo := ⟨poolList es last⟩
def fileOf (pool : Array CpInfo) (this : Nat) (attrs : Array Attribute := #[]) (ms : Array MethodInfo := #[]) (fl : Nat := 33) (sup : Nat := 0) (ifs : Array Nat := #[]) (fds : Array FieldInfo := #[]) : ClassFile where
  minorVersion := 0
  majorVersion := 65
  constantPool := pool
  accessFlags := fl
  thisClass := this
  superClass := sup
  interfaces := ifs
  fields := fds
  methods := ms
  attributes := attrs
def plain (name : String) (sup : Option ClassId) : Class where
  name := name
  kind := .ordinary
  loader := none
  accessFlags := 33
  super := sup
  interfaces := #[]
  cf := none
  fields := #[]
  methods := #[]
  instanceTypes := #[]
  staticTypes := #[]
  resolved := #[]
  callSites := []
  init := .initialized
  statics := none
  mirror := none

def pool0 : Array CpInfo := pool [(5, u "<init>"), (0, u "()V"), (1, .class_ 10), (1, u "java/lang/Object"), (85, u "clone"), (0, u "()Ljava/lang/Object;")] 26

def k0c0 : Code := { maxStack := 0, maxLocals := 1, code := object_method_1_code, exceptionTable := #[], attributes := #[] }
def k0m0 : Method := { name := "<init>", desc := "()V", sig := { parameters := [], returnType := none }, accessFlags := 1, code := some k0c0 }
def k0m1 : Method := { name := "clone", desc := "()Ljava/lang/Object;", sig := { parameters := [], returnType := some (.object "java/lang/Object") }, accessFlags := 260, code := none }
/-- java/lang/Object -/
def k0 : Class := { plain "java/lang/Object" none with
  accessFlags := 33
  interfaces := #[]
  cf := some (fileOf pool0 8 #[] #[{ accessFlags := 1, nameIndex := 5, descriptorIndex := 6, attributes := #[] }, { accessFlags := 260, nameIndex := 96, descriptorIndex := 97, attributes := #[] }] 33 0 #[] #[])
  fields := #[]
  methods := #[k0m0, k0m1]
  instanceTypes := #[]
  staticTypes := #[]
  resolved := Array.replicate 124 none
  statics := none }

def pool1 : Array CpInfo := pool [(2, .class_ 4), (1, u "java/lang/Object"), (0, u "<init>"), (0, u "()V"), (0, .integer 2147483647), (0, .class_ 9), (0, u "com/example/holder/holder/protocol/VectorClock"), (0, .methodref 8 11), (0, .nameAndType 5 12), (0, u "(II)V"), (0, .methodref 8 14), (0, .nameAndType 15 16), (0, u "merge"), (0, u "([J)V"), (0, .methodref 8 18), (0, .nameAndType 19 20), (0, u "vector"), (0, u "()[J"), (0, .methodref 8 22), (0, .nameAndType 23 6), (0, u "tick"), (0, .methodref 25 26), (0, .class_ 27), (0, .nameAndType 28 29), (0, u "com/example/holder/holder/protocol/VectorClockTickPinLaw"), (0, u "slot"), (0, u "([J[JIIIIJ)Z"), (0, .methodref 31 32), (0, .class_ 33), (0, .nameAndType 34 35), (0, u "java/lang/Math"), (0, u "max"), (0, u "(JJ)J"), (2, u "law"), (0, u "(IIJJJJ)Z")] 5

def k1m0 : Method := { name := "<init>", desc := "()V", sig := { parameters := [], returnType := none }, accessFlags := 1, code := none }
def k1c1 : Code := { maxStack := 8, maxLocals := 16, code := code, exceptionTable := #[], attributes := #[] }
def k1m1 : Method := { name := "law", desc := "(IIJJJJ)Z", sig := { parameters := [.int, .int, .long, .long, .long, .long], returnType := some .boolean }, accessFlags := 9, code := some k1c1 }
def k1c2 : Code := { maxStack := 4, maxLocals := 12, code := method_3_code, exceptionTable := #[], attributes := #[] }
def k1m2 : Method := { name := "slot", desc := "([J[JIIIIJ)Z", sig := { parameters := [(.array .long), (.array .long), .int, .int, .int, .int, .long], returnType := some .boolean }, accessFlags := 10, code := some k1c2 }
/-- com/example/holder/holder/protocol/VectorClockTickPinLaw -/
def k1 : Class := { plain "com/example/holder/holder/protocol/VectorClockTickPinLaw" (some 0) with
  accessFlags := 49
  interfaces := #[]
  cf := some (fileOf pool1 25 #[] #[{ accessFlags := 1, nameIndex := 5, descriptorIndex := 6, attributes := #[] }, { accessFlags := 9, nameIndex := 38, descriptorIndex := 39, attributes := #[] }, { accessFlags := 10, nameIndex := 28, descriptorIndex := 29, attributes := #[] }] 49 2 #[] #[])
  fields := #[]
  methods := #[k1m0, k1m1, k1m2]
  instanceTypes := #[]
  staticTypes := #[]
  resolved := Array.replicate 45 none
  statics := none }

def pool2 : Array CpInfo := pool [(1, .methodref 2 3), (0, .class_ 4), (0, .nameAndType 5 6), (0, u "java/lang/Object"), (0, u "<init>"), (0, u "()V"), (0, .fieldref 8 9), (0, .class_ 10), (0, .nameAndType 11 12), (0, u "com/example/holder/holder/protocol/VectorClock"), (0, u "counters"), (0, u "[J"), (0, .fieldref 8 14), (0, .nameAndType 15 16), (0, u "own"), (0, u "I"), (0, .methodref 18 19), (0, .class_ 20), (0, .nameAndType 21 22), (0, u "java/lang/Math"), (0, u "max"), (0, u "(JJ)J"), (0, .methodref 24 25), (0, .class_ 12), (0, .nameAndType 26 27), (0, u "clone"), (0, u "()Ljava/lang/Object;"), (0, u "(II)V"), (2, u "tick"), (0, u "merge"), (0, u "([J)V"), (1, u "vector"), (0, u "()[J")] 4

def k2c0 : Code := { maxStack := 2, maxLocals := 3, code := prog_68_method_1_code, exceptionTable := #[], attributes := #[] }
def k2m0 : Method := { name := "<init>", desc := "(II)V", sig := { parameters := [.int, .int], returnType := none }, accessFlags := 0, code := some k2c0 }
def k2c1 : Code := { maxStack := 6, maxLocals := 1, code := prog_68_method_2_code, exceptionTable := #[], attributes := #[] }
def k2m1 : Method := { name := "tick", desc := "()V", sig := { parameters := [], returnType := none }, accessFlags := 0, code := some k2c1 }
def k2c2 : Code := { maxStack := 6, maxLocals := 3, code := prog_68_method_3_code, exceptionTable := #[], attributes := #[] }
def k2m2 : Method := { name := "merge", desc := "([J)V", sig := { parameters := [(.array .long)], returnType := none }, accessFlags := 0, code := some k2c2 }
def k2c3 : Code := { maxStack := 1, maxLocals := 1, code := prog_68_method_4_code, exceptionTable := #[], attributes := #[] }
def k2m3 : Method := { name := "vector", desc := "()[J", sig := { parameters := [], returnType := some (.array .long) }, accessFlags := 0, code := some k2c3 }
/-- com/example/holder/holder/protocol/VectorClock -/
def k2 : Class := { plain "com/example/holder/holder/protocol/VectorClock" (some 0) with
  accessFlags := 32
  interfaces := #[]
  cf := some (fileOf pool2 8 #[] #[{ accessFlags := 0, nameIndex := 5, descriptorIndex := 28, attributes := #[] }, { accessFlags := 0, nameIndex := 31, descriptorIndex := 6, attributes := #[] }, { accessFlags := 0, nameIndex := 32, descriptorIndex := 33, attributes := #[] }, { accessFlags := 0, nameIndex := 35, descriptorIndex := 36, attributes := #[] }] 32 2 #[] #[{ accessFlags := 18, nameIndex := 11, descriptorIndex := 12, attributes := #[] }, { accessFlags := 18, nameIndex := 15, descriptorIndex := 16, attributes := #[] }])
  fields := #[{ name := "counters", type := (.array .long), accessFlags := 18, slot := 0, constantValue := 0 }, { name := "own", type := .int, accessFlags := 18, slot := 1, constantValue := 0 }]
  methods := #[k2m0, k2m1, k2m2, k2m3]
  instanceTypes := #[(.array .long), .int]
  staticTypes := #[]
  resolved := Array.replicate 41 none
  statics := none }

def pool3 : Array CpInfo := pool [(1, .class_ 2), (0, u "java/lang/Math"), (1, .class_ 6), (1, u "java/lang/Object"), (0, u "<init>"), (0, u "()V"), (89, .class_ 100), (1, u "java/lang/Math$RandomNumberGeneratorHolder"), (20, u "(JJ)J"), (50, u "negativeZeroFloatBits"), (0, u "J"), (2, u "negativeZeroDoubleBits"), (21, u "max"), (46, u "$assertionsDisabled"), (0, u "Z"), (91, u "twoToTheDoubleScaleDown"), (0, u "D"), (4, u "twoToTheDoubleScaleUp"), (9, u "E"), (3, u "PI"), (2, u "TAU"), (2, u "DEGREES_TO_RADIANS"), (0, u "RADIANS_TO_DEGREES")] 94

def k3m0 : Method := { name := "<init>", desc := "()V", sig := { parameters := [], returnType := none }, accessFlags := 2, code := none }
def k3c1 : Code := { maxStack := 4, maxLocals := 4, code := jdk_29_method_66_code, exceptionTable := #[], attributes := #[] }
def k3m1 : Method := { name := "max", desc := "(JJ)J", sig := { parameters := [.long, .long], returnType := some .long }, accessFlags := 9, code := some k3c1 }
/-- java/lang/Math -/
def k3 : Class := { plain "java/lang/Math" (some 0) with
  accessFlags := 49
  interfaces := #[]
  cf := some (fileOf pool3 1 #[.nestMembers #[98]] #[{ accessFlags := 2, nameIndex := 7, descriptorIndex := 8, attributes := #[] }, { accessFlags := 9, nameIndex := 198, descriptorIndex := 121, attributes := #[] }] 49 4 #[] #[{ accessFlags := 25, nameIndex := 354, descriptorIndex := 339, attributes := #[] }, { accessFlags := 25, nameIndex := 358, descriptorIndex := 339, attributes := #[] }, { accessFlags := 25, nameIndex := 361, descriptorIndex := 339, attributes := #[] }, { accessFlags := 26, nameIndex := 364, descriptorIndex := 339, attributes := #[] }, { accessFlags := 26, nameIndex := 365, descriptorIndex := 339, attributes := #[] }, { accessFlags := 26, nameIndex := 172, descriptorIndex := 173, attributes := #[] }, { accessFlags := 26, nameIndex := 176, descriptorIndex := 173, attributes := #[] }, { accessFlags := 8, nameIndex := 344, descriptorIndex := 339, attributes := #[] }, { accessFlags := 8, nameIndex := 338, descriptorIndex := 339, attributes := #[] }, { accessFlags := 4120, nameIndex := 245, descriptorIndex := 246, attributes := #[] }])
  fields := #[{ name := "E", type := .double, accessFlags := 25, slot := 0, constantValue := 0 }, { name := "PI", type := .double, accessFlags := 25, slot := 1, constantValue := 0 }, { name := "TAU", type := .double, accessFlags := 25, slot := 2, constantValue := 0 }, { name := "DEGREES_TO_RADIANS", type := .double, accessFlags := 26, slot := 3, constantValue := 0 }, { name := "RADIANS_TO_DEGREES", type := .double, accessFlags := 26, slot := 4, constantValue := 0 }, { name := "negativeZeroFloatBits", type := .long, accessFlags := 26, slot := 5, constantValue := 0 }, { name := "negativeZeroDoubleBits", type := .long, accessFlags := 26, slot := 6, constantValue := 0 }, { name := "twoToTheDoubleScaleUp", type := .double, accessFlags := 8, slot := 7, constantValue := 0 }, { name := "twoToTheDoubleScaleDown", type := .double, accessFlags := 8, slot := 8, constantValue := 0 }, { name := "$assertionsDisabled", type := .boolean, accessFlags := 4120, slot := 9, constantValue := 0 }]
  methods := #[k3m0, k3m1]
  instanceTypes := #[]
  staticTypes := #[.double, .double, .double, .double, .double, .long, .long, .double, .double, .boolean]
  resolved := Array.replicate 460 none
  statics := none }

def pool4 : Array CpInfo := pool [(1, .class_ 2), (0, u "java/lang/Cloneable"), (0, .class_ 4), (0, u "java/lang/Object")] 2

/-- java/lang/Cloneable -/
def k4 : Class := { plain "java/lang/Cloneable" (some 0) with
  accessFlags := 1537
  interfaces := #[]
  cf := some (fileOf pool4 1 #[] #[] 1537 3 #[] #[])
  fields := #[]
  methods := #[]
  instanceTypes := #[]
  staticTypes := #[]
  resolved := Array.replicate 7 none
  statics := none }

def pool5 : Array CpInfo := pool [(1, u "java/io/Serializable"), (0, .class_ 1), (0, u "java/lang/Object"), (0, .class_ 3)] 3

/-- java/io/Serializable -/
def k5 : Class := { plain "java/io/Serializable" (some 0) with
  accessFlags := 1537
  interfaces := #[]
  cf := some (fileOf pool5 2 #[] #[] 1537 4 #[] #[])
  fields := #[]
  methods := #[]
  instanceTypes := #[]
  staticTypes := #[]
  resolved := Array.replicate 8 none
  statics := none }

/-- the primitive byte -/
def k6 : Class := { plain "byte" none with kind := .primitive 'B', accessFlags := 0x411 }
/-- [B -/
def k7 : Class := { plain "[B" (some 0) with kind := .array 6 .byte, interfaces := #[4, 5], accessFlags := 1041 }

/-- the primitive int -/
def k8 : Class := { plain "int" none with kind := .primitive 'I', accessFlags := 0x411 }
/-- [I -/
def k9 : Class := { plain "[I" (some 0) with kind := .array 8 .int, interfaces := #[4, 5], accessFlags := 1041 }

/-- the primitive long -/
def k10 : Class := { plain "long" none with kind := .primitive 'J', accessFlags := 0x411 }
/-- [J -/
def k11 : Class := { plain "[J" (some 0) with kind := .array 10 .long, interfaces := #[4, 5], accessFlags := 1041 }

def heap : Heap := #[]
def classes : Array Class := #[k0, k1, k2, k3, k4, k5, k6, k7, k8, k9, k10, k11]
def interned : List (Array UInt16 × Addr) := []
def slotsUsed : Nat := 0
def theMethod : MethodId := ⟨1, 1⟩
def args0 : Array Value := #[.int 3, .int 4, .long 7, .long 8, .long 9, .long 10]
def aboutOver (below : List Frame) : State where
  vm := { classes := classes, interned := interned.toArray }
  heap := heap
  slotsUsed := slotsUsed
  threads := #[{ frames := .invoking theMethod args0 :: below }]
def below0 : List Frame := [.native { method := ⟨0, 0⟩, args := #[] }]
def about1 : State := aboutOver below0
def p0 : Program := .bare "" "" ""
def e0 : Env := launch0.env 0 0 0
theorem w_frames : about1.frames = Frame.invoking theMethod args0 :: below0 := rfl
set_option maxRecDepth 65536 in
theorem w_args : argsFit about1.vm theMethod args0 = true := by decide +kernel
set_option maxRecDepth 65536 in
theorem w_heap : heapFits about1 = true := by decide +kernel
set_option maxRecDepth 65536 in
theorem w_runnable : about1.curStatus? = some .runnable := by decide +kernel
set_option maxRecDepth 65536 in
theorem w_alone : about1.alone = true := by decide +kernel
set_option maxRecDepth 65536 in
theorem w_named : about1.methodNamed? x = some theMethod := by decide +kernel
set_option maxRecDepth 65536 in
theorem w_hears : about1.hears theMethod below0 = true := by decide +kernel
set_option maxRecDepth 65536 in
theorem w_ripe : about1.ripe theMethod args0 below0 = true := by decide +kernel
theorem w_running : about1.status = .running := rfl
set_option maxRecDepth 65536 in
theorem w_room : about1.hasRoom e0.platform room_1 = true :=
  launch0.hasRoom_least _ room_1 (by decide +kernel) (by decide +kernel) (by decide +kernel) (by decide +kernel) (by decide +kernel) (by decide +kernel)
theorem allAtoms_all (ts : List Jvm.Cond) (a : Array Jvm.Value) (st : Jvm.State) : (allAtoms ts).before a st = ts.all (fun c => c.before a st) := by
  induction ts with
  | nil => rfl
  | cons c t ih =>
    show (Jvm.Cond.and c (allAtoms t)).before a st = _
    rw [Jvm.Cond.before_and, ih, List.all_cons]
def words1 : List Jvm.Cond := Jvm.Cond.code x code maxLocals ret :: tables_1
/-- a 'code' word, met by the world's own term for the bytes: nothing is compared byte by byte -/
theorem code_word {y : MethodName} {bytes : ByteArray} {mx : Nat} {rt : Option FieldType} {a : Array Value} {s : State} {m : MethodId} {meth : Method} {c : Code} (h1 : s.methodNamed? y = some m) (h2 : s.vm.method? m = some meth) (h3 : meth.code = some c) (h4 : c.code = bytes)
    (h5 : (c.maxLocals == mx && c.exceptionTable.isEmpty && decide (c.maxStack ≤ mostOperands) && decide (meth.sig.returnType = rt) && !meth.locks && decide (parseMethodDescriptor y.desc = some meth.sig)) = true) : (Jvm.Cond.code y bytes mx rt).before a s = true := by
  simp only [Bool.and_eq_true, beq_iff_eq, Bool.not_eq_true', decide_eq_true_eq] at h5
  obtain ⟨⟨⟨⟨⟨g1, g2⟩, g3⟩, g4⟩, g5⟩, g6⟩ := h5
  simp [Cond.before, Cond.holds, Cond.value, h1, h2, h3, h4, g1, g2, g3, g4, g5, g6]
def isCode : Jvm.Cond → Bool
  | .code _ _ _ _ => true
  | _ => false
theorem all_split {L : List Jvm.Cond} {P : Jvm.Cond → Bool} (h1 : L.all (fun c => isCode c || P c) = true) (h2 : ∀ c ∈ L.filter isCode, P c = true) : L.all P = true := by
  refine List.all_eq_true.mpr fun c hc => ?_
  have h := List.all_eq_true.mp h1 c hc
  rcases Bool.eq_false_or_eq_true (isCode c) with hi | hi
  · exact h2 c (List.mem_filter.mpr ⟨hc, hi⟩)
  · simpa [hi] using h
set_option maxRecDepth 65536 in
theorem w_c0 : (Jvm.Cond.code x code maxLocals ret).before args0 about1 = true := code_word (m := ⟨1, 1⟩) (meth := k1m1) (c := k1c1) (by decide +kernel) rfl rfl rfl (by decide +kernel)
set_option maxRecDepth 65536 in
theorem w_c1 : (Jvm.Cond.code ({ cls := "com/example/holder/holder/protocol/VectorClock", name := "<init>", desc := "(II)V" } : Jvm.MethodName) prog_68_method_1_code (3 : Nat) (Option.none : Option Jvm.ClassFile.FieldType)).before args0 about1 = true := code_word (m := ⟨2, 0⟩) (meth := k2m0) (c := k2c0) (by decide +kernel) rfl rfl rfl (by decide +kernel)
set_option maxRecDepth 65536 in
theorem w_c2 : (Jvm.Cond.code ({ cls := "java/lang/Object", name := "<init>", desc := "()V" } : Jvm.MethodName) object_method_1_code (1 : Nat) (Option.none : Option Jvm.ClassFile.FieldType)).before args0 about1 = true := code_word (m := ⟨0, 0⟩) (meth := k0m0) (c := k0c0) (by decide +kernel) rfl rfl rfl (by decide +kernel)
set_option maxRecDepth 65536 in
theorem w_c3 : (Jvm.Cond.code ({ cls := "com/example/holder/holder/protocol/VectorClock", name := "merge", desc := "([J)V" } : Jvm.MethodName) prog_68_method_3_code (3 : Nat) (Option.none : Option Jvm.ClassFile.FieldType)).before args0 about1 = true := code_word (m := ⟨2, 2⟩) (meth := k2m2) (c := k2c2) (by decide +kernel) rfl rfl rfl (by decide +kernel)
set_option maxRecDepth 65536 in
theorem w_c4 : (Jvm.Cond.code ({ cls := "java/lang/Math", name := "max", desc := "(JJ)J" } : Jvm.MethodName) jdk_29_method_66_code (4 : Nat) (Option.some Jvm.ClassFile.FieldType.long)).before args0 about1 = true := code_word (m := ⟨3, 1⟩) (meth := k3m1) (c := k3c1) (by decide +kernel) rfl rfl rfl (by decide +kernel)
set_option maxRecDepth 65536 in
theorem w_c5 : (Jvm.Cond.code ({ cls := "com/example/holder/holder/protocol/VectorClock", name := "vector", desc := "()[J" } : Jvm.MethodName) prog_68_method_4_code (1 : Nat) (Option.some (Jvm.ClassFile.FieldType.array Jvm.ClassFile.FieldType.long))).before args0 about1 = true := code_word (m := ⟨2, 3⟩) (meth := k2m3) (c := k2c3) (by decide +kernel) rfl rfl rfl (by decide +kernel)
set_option maxRecDepth 65536 in
theorem w_c6 : (Jvm.Cond.code ({ cls := "com/example/holder/holder/protocol/VectorClockTickPinLaw", name := "slot", desc := "([J[JIIIIJ)Z" } : Jvm.MethodName) method_3_code (12 : Nat) (Option.some Jvm.ClassFile.FieldType.boolean)).before args0 about1 = true := code_word (m := ⟨1, 2⟩) (meth := k1m2) (c := k1c2) (by decide +kernel) rfl rfl rfl (by decide +kernel)
set_option maxRecDepth 65536 in
theorem w_c7 : (Jvm.Cond.code ({ cls := "com/example/holder/holder/protocol/VectorClock", name := "tick", desc := "()V" } : Jvm.MethodName) prog_68_method_2_code (1 : Nat) (Option.none : Option Jvm.ClassFile.FieldType)).before args0 about1 = true := code_word (m := ⟨2, 1⟩) (meth := k2m1) (c := k2c1) (by decide +kernel) rfl rfl rfl (by decide +kernel)
def codes1 : List Jvm.Cond := [Jvm.Cond.code x code maxLocals ret, Jvm.Cond.code ({ cls := "com/example/holder/holder/protocol/VectorClock", name := "<init>", desc := "(II)V" } : Jvm.MethodName) prog_68_method_1_code (3 : Nat) (Option.none : Option Jvm.ClassFile.FieldType), Jvm.Cond.code ({ cls := "java/lang/Object", name := "<init>", desc := "()V" } : Jvm.MethodName) object_method_1_code (1 : Nat) (Option.none : Option Jvm.ClassFile.FieldType), Jvm.Cond.code ({ cls := "com/example/holder/holder/protocol/VectorClock", name := "merge", desc := "([J)V" } : Jvm.MethodName) prog_68_method_3_code (3 : Nat) (Option.none : Option Jvm.ClassFile.FieldType), Jvm.Cond.code ({ cls := "java/lang/Math", name := "max", desc := "(JJ)J" } : Jvm.MethodName) jdk_29_method_66_code (4 : Nat) (Option.some Jvm.ClassFile.FieldType.long), Jvm.Cond.code ({ cls := "com/example/holder/holder/protocol/VectorClock", name := "vector", desc := "()[J" } : Jvm.MethodName) prog_68_method_4_code (1 : Nat) (Option.some (Jvm.ClassFile.FieldType.array Jvm.ClassFile.FieldType.long)), Jvm.Cond.code ({ cls := "com/example/holder/holder/protocol/VectorClockTickPinLaw", name := "slot", desc := "([J[JIIIIJ)Z" } : Jvm.MethodName) method_3_code (12 : Nat) (Option.some Jvm.ClassFile.FieldType.boolean), Jvm.Cond.code ({ cls := "com/example/holder/holder/protocol/VectorClock", name := "tick", desc := "()V" } : Jvm.MethodName) prog_68_method_2_code (1 : Nat) (Option.none : Option Jvm.ClassFile.FieldType)]
set_option maxRecDepth 65536 in
theorem codes_eq : words1.filter isCode = codes1 := rfl
theorem w_codes : ∀ c ∈ words1.filter isCode, c.before args0 about1 = true := by
  rw [codes_eq]
  intro c hc
  simp only [codes1, List.mem_cons, List.not_mem_nil, or_false] at hc
  rcases hc with rfl | rfl | rfl | rfl | rfl | rfl | rfl | rfl
  · exact w_c0
  · exact w_c1
  · exact w_c2
  · exact w_c3
  · exact w_c4
  · exact w_c5
  · exact w_c6
  · exact w_c7
set_option maxRecDepth 65536 in
theorem w_t1 : (words1.take 24).all (fun c => isCode c || c.before args0 about1) = true := by decide +kernel
set_option maxRecDepth 65536 in
theorem w_t2 : ((words1.drop 24).take 24).all (fun c => isCode c || c.before args0 about1) = true := by decide +kernel
set_option maxRecDepth 65536 in
theorem w_t3 : ((words1.drop 24).drop 24).all (fun c => isCode c || c.before args0 about1) = true := by decide +kernel
theorem w_tables : (allAtoms (Jvm.Cond.code x code maxLocals ret :: tables_1)).before args0 about1 = true := by
  rw [allAtoms_all]
  show words1.all (fun c => c.before args0 about1) = true
  refine all_split ?_ w_codes
  rw [← List.take_append_drop 24 words1, List.all_append, w_t1, ← List.take_append_drop 24 (words1.drop 24), List.all_append, w_t2, w_t3]
  rfl
set_option maxRecDepth 65536 in
theorem w_case : (Jvm.Cond.and given_1 narrow_1).before args0 about1 = true := by decide +kernel
theorem w_applies : (headSpec (Jvm.Cond.code x code maxLocals ret :: tables_1) room_1).applies x e0.platform about1 = true :=
  (Spec.applies_iff w_frames).mpr ⟨w_running, w_runnable, w_alone, w_named, w_hears, w_ripe, w_room, w_tables⟩
theorem atStart : AtStart classFile x code maxLocals ret World_1 tables_1 room_1 Calls_1 rest_1 Pre_1 launch0 p0 e0 about1 theMethod args0 below0 :=
  ⟨lists_1, trivial, launch0.admits_env _ _ _, launch0.least_env, fairChoices_fair.cas, fairChoices_fair.clock, w_frames, w_args, w_heap, w_applies, trivial, trivial, w_case⟩
end start1
theorem witness_1 : WitnessClaimed_1 := ⟨start1.p0, start1.e0, start1.about1, start1.theMethod, start1.args0, start1.below0, start1.atStart⟩
end Jvm.Pilot.@@N@@
