import JvmDerived
import JvmDerived.Pilot.@@N@@Statement
import JvmDerived.Pilot.@@N@@Code
set_option linter.unusedVariables false
set_option linter.unusedSimpArgs false
@@BLOCK:NumsL.lean.txt@@
namespace Jvm.Pilot.@@N@@
open Jvm Jvm.ClassFile Sem Op Lib Jvm.Free Jvm.Stand Jvm.LawKit Jvm.RoadKit Bundle Jvm.Pilot.@@N@@.Jvm.D
section OwnLayer
/-- the surroundings of a walk: what stays the same from step to step -/
def Cx (p : Program) (s : State) (m : MethodId) (meth : Method) (c : Code) (Z : State) (own : String) (bs : ByteArray) (mx : Nat) (rt : Option FieldType) (nm : String) : Prop :=
  p.tables.exec = Jvm.exec ∧ c.code = bs ∧ c.maxLocals = mx ∧ Z.Warmed39 s.vm ∧ s.vm.findClass own = some m.cls ∧ meth.sig.returnType = rt ∧ meth.locks = false ∧ meth.name = nm
/-- wherever the walk stands with heap h and top frame g, it comes to its end, and Q holds there -/
def Go (p : Program) (l : Launch) (e : Env) (R : Room) (s : State) (m : MethodId) (args : Array Value) (below : List Frame) (meth : Method) (c : Code) (n0 : Nat) (Q : Option Value → Heap → Prop) (K N : Nat) (h : Heap) (ce sl : Nat) (g : JFrame) : Prop :=
  ∀ (T : State) (locs : List Loc), Stand p l e R s m args below meth c T locs ce sl → T.heap = h → Fr n0 locs →
    ∃ s₂ o, Steps p.tables e below (T.setTop g) s₂ ∧ s₂.status = .running ∧ Ended s₂ below o ∧ ∃ v L, o = .returned v ∧ (Q v s₂.heap ∧ Fr n0 L) ∧ FrameEnd s o s₂ L K N
/-- a method's contract, for given arguments and a given heap -/
def Sat (l : Launch) (Z : State) (y : MethodName) (bs : ByteArray) (mx : Nat) (rt : Option FieldType) (rm : Room) (as : List Value) (h0 : Heap) (n0 : Nat) (Q : Option Value → Heap → Prop) : Prop :=
  ∀ ws : List Jvm.Cond, MetFree l y (head1 (Jvm.Cond.code y bs mx rt :: ws) rm) (fun a U => a = as.toArray ∧ Z.Warmed39 U.vm ∧ U.heap = h0) (fun _ _ _ _ _ => True) (fun _ U o U' => ∃ v L, o = .returned v ∧ (Q v U'.heap ∧ Fr n0 L) ∧ FrameEnd U o U' L rm.cells rm.slots)
def RV (P : Value → Heap → Prop) : Option Value → Heap → Prop := fun v h => ∃ r, v = some r ∧ P r h
def RN (P : Heap → Prop) : Option Value → Heap → Prop := fun v h => v = none ∧ P h
def wt (st : List Value) : Nat := (st.map fun v => v.category).sum
def bi (P : Prop) [Decidable P] : Int32 := if P then 1 else 0
theorem bi_t {P : Prop} [Decidable P] (h : P) : bi P = 1 := if_pos h
theorem bi_f {P : Prop} [Decidable P] (h : ¬ P) : bi P = 0 := if_neg h
theorem bi1 {P : Prop} [Decidable P] (h : P) : (1 : Int32) = bi P := (if_pos h).symm
theorem bi0 {P : Prop} [Decidable P] (h : ¬ P) : (0 : Int32) = bi P := (if_neg h).symm
theorem bi_congr {P P' : Prop} [Decidable P] [Decidable P'] (h : P ↔ P') : bi P = bi P' := by
  by_cases q : P
  · rw [bi_t q, bi_t (h.mp q)]
  · rw [bi_f q, bi_f fun z => q (h.mpr z)]
theorem bi_nar (P : Prop) [Decidable P] : nar .boolean (bi P) = bi P := by
  by_cases q : P
  · rw [bi_t q]; rfl
  · rw [bi_f q]; rfl
theorem bi_inj {P P' : Prop} [Decidable P] [Decidable P'] (h : bi P = bi P') : P ↔ P' := by
  by_cases q : P <;> by_cases q' : P' <;> simp_all [bi]
theorem bi_narrow (P : Prop) [Decidable P] : narrow .boolean (.int (bi P)) = .int (bi P) := by
  by_cases q : P
  · rw [bi_t q]; rfl
  · rw [bi_f q]; rfl
theorem bi_fits (P : Prop) [Decidable P] : fits .boolean (.int (bi P)) = true := by
  by_cases q : P
  · rw [bi_t q]; rfl
  · rw [bi_f q]; rfl
theorem bi_toInt (P : Prop) [Decidable P] : (bi P).toInt = if P then 1 else 0 := by
  by_cases q : P
  · rw [bi_t q, if_pos q]; rfl
  · rw [bi_f q, if_neg q]; rfl
theorem own_add_t {P : Prop} [Decidable P] (n : Int32) (h : P) : n + 1 = n + bi P := by rw [bi_t h]
theorem own_add_f {P : Prop} [Decidable P] (n : Int32) (h : ¬ P) : n = n + bi P := by rw [bi_f h, Int32.add_zero]
theorem own_narrow_arr {v : Value} {t : FieldType} (h : v.isRef = true) : narrow (.array t) v = v := by
  cases v <;> first | rfl | simp [Value.isRef] at h
theorem own_fits_arr {v : Value} {t : FieldType} (h : v.isRef = true) : fits (.array t) v = true := by
  cases v <;> first | rfl | simp [Value.isRef] at h
theorem own_bb (x : Int32) : x.toInt8.toInt32.toInt8.toInt32 = x.toInt8.toInt32 := by simp
theorem own_ne_new {h : Heap} {a b : Addr} (q : b < h.size) (g : h.size = a) : b ≠ a := Nat.ne_of_lt (g ▸ q)
theorem own_ge {h : Heap} {a : Addr} {n : Nat} (q : n ≤ h.size) (g : h.size = a) : n ≤ a := g ▸ q
theorem int_eq {x y : Int32} (h : x.toInt = y.toInt) : x = y := Int32.toInt_inj.mp h
theorem long_eq {x y : Int64} (h : x.toInt = y.toInt) : x = y := Int64.toInt_inj.mp h
section Walk
variable {p : Program} {l : Launch} {e : Env} {R : Room} {s : State} {m : MethodId} {args : Array Value} {below : List Frame} {meth : Method} {c : Code} {Z : State} {a0 : Array Value} {own : String} {bs : ByteArray} {mx : Nat} {rt : Option FieldType} {nm : String} {n0 : Nat} {Q : Option Value → Heap → Prop} {K N : Nat} {h : Heap} {ce sl : Nat} {pc pc' : Nat} {Ls Ls' : Array Slot} {st : List Value} {g g' : JFrame}
theorem Go.step (H : ∀ (T : State), At T m c below → ∀ target, Steps p.tables e below (T.setTop g') target → Steps p.tables e below (T.setTop g) target) (hr : Go p l e R s m args below meth c n0 Q K N h ce sl g') : Go p l e R s m args below meth c n0 Q K N h ce sl g := fun T locs X eT Nn => by
  obtain ⟨s₂, o, h1, r⟩ := hr T locs X eT Nn
  exact ⟨s₂, o, H T X.here _ h1, r⟩
theorem Go.stepX (H : ∀ (T : State) (locs : List Loc), Stand p l e R s m args below meth c T locs ce sl → T.heap = h → ∀ target, Steps p.tables e below (T.setTop g') target → Steps p.tables e below (T.setTop g) target) (hr : Go p l e R s m args below meth c n0 Q K N h ce sl g') : Go p l e R s m args below meth c n0 Q K N h ce sl g := fun T locs X eT Nn => by
  obtain ⟨s₂, o, h1, r⟩ := hr T locs X eT Nn
  exact ⟨s₂, o, H T locs X eT _ h1, r⟩
theorem Go.more {ce' sl' : Nat} (hc : ce ≤ ce') (hs : sl ≤ sl') (hr : Go p l e R s m args below meth c n0 Q K N h ce' sl' g) : Go p l e R s m args below meth c n0 Q K N h ce sl g := fun T locs X eT Nn => hr T locs (X.more hc hs) eT Nn
theorem go_iloadN (C : Cx p s m meth c Z own bs mx rt nm) {k : Fin 4} {v : Int32} (hd : decode bs pc = .ok (.iload_n k, 1)) (hp : pc + 1 = pc') (hl : Ls[k.val]? = some (.val (.int v))) (hr : Go p l e R s m args below meth c n0 Q K N h ce sl (mkF m pc' Ls (.int v :: st))) : Go p l e R s m args below meth c n0 Q K N h ce sl (mkF m pc Ls st) := by
  subst hp
  exact Go.step (fun T A _ q => XS.iloadN A C.1 rfl (hb C.2.1 hd) hl q) hr
theorem go_iload (C : Cx p s m meth c Z own bs mx rt nm) {k : Nat} {v : Int32} (hd : decode bs pc = .ok (.iload k, 2)) (hp : pc + 2 = pc') (hl : Ls[k]? = some (.val (.int v))) (hr : Go p l e R s m args below meth c n0 Q K N h ce sl (mkF m pc' Ls (.int v :: st))) : Go p l e R s m args below meth c n0 Q K N h ce sl (mkF m pc Ls st) := by
  subst hp
  exact Go.step (fun T A _ q => XS.iload A C.1 rfl (hb C.2.1 hd) hl q) hr
theorem go_lloadN (C : Cx p s m meth c Z own bs mx rt nm) {k : Fin 4} {v : Int64} (hd : decode bs pc = .ok (.lload_n k, 1)) (hp : pc + 1 = pc') (hl : Ls[k.val]? = some (.val (.long v))) (hr : Go p l e R s m args below meth c n0 Q K N h ce sl (mkF m pc' Ls (.long v :: st))) : Go p l e R s m args below meth c n0 Q K N h ce sl (mkF m pc Ls st) := by
  subst hp
  exact Go.step (fun T A _ q => XT.lloadN A C.1 rfl (hb C.2.1 hd) hl q) hr
theorem go_lload (C : Cx p s m meth c Z own bs mx rt nm) {k : Nat} {v : Int64} (hd : decode bs pc = .ok (.lload k, 2)) (hp : pc + 2 = pc') (hl : Ls[k]? = some (.val (.long v))) (hr : Go p l e R s m args below meth c n0 Q K N h ce sl (mkF m pc' Ls (.long v :: st))) : Go p l e R s m args below meth c n0 Q K N h ce sl (mkF m pc Ls st) := by
  subst hp
  exact Go.step (fun T A _ q => XT.lload A C.1 rfl (hb C.2.1 hd) hl q) hr
theorem go_aloadN (C : Cx p s m meth c Z own bs mx rt nm) {k : Fin 4} {v : Value} (hd : decode bs pc = .ok (.aload_n k, 1)) (hp : pc + 1 = pc') (hl : Ls[k.val]? = some (.val v)) (hv : v.isRef = true) (hr : Go p l e R s m args below meth c n0 Q K N h ce sl (mkF m pc' Ls (v :: st))) : Go p l e R s m args below meth c n0 Q K N h ce sl (mkF m pc Ls st) := by
  subst hp
  exact Go.step (fun T A _ q => XS.aloadN A C.1 rfl (hb C.2.1 hd) hl hv q) hr
theorem go_aload (C : Cx p s m meth c Z own bs mx rt nm) {k : Nat} {v : Value} (hd : decode bs pc = .ok (.aload k, 2)) (hp : pc + 2 = pc') (hl : Ls[k]? = some (.val v)) (hv : v.isRef = true) (hr : Go p l e R s m args below meth c n0 Q K N h ce sl (mkF m pc' Ls (v :: st))) : Go p l e R s m args below meth c n0 Q K N h ce sl (mkF m pc Ls st) := by
  subst hp
  exact Go.step (fun T A _ q => XS.aload A C.1 rfl (hb C.2.1 hd) hl hv q) hr
theorem go_istoreN (C : Cx p s m meth c Z own bs mx rt nm) {k : Fin 4} {v : Int32} (hd : decode bs pc = .ok (.istore_n k, 1)) (hp : pc + 1 = pc') (hl : storeLocals Ls k.val (.int v) = some Ls') (hr : Go p l e R s m args below meth c n0 Q K N h ce sl (mkF m pc' Ls' st)) : Go p l e R s m args below meth c n0 Q K N h ce sl (mkF m pc Ls (.int v :: st)) := by
  subst hp
  exact Go.step (fun T A _ q => XS.istoreN A C.1 rfl (hb C.2.1 hd) rfl hl q) hr
theorem go_istore (C : Cx p s m meth c Z own bs mx rt nm) {k : Nat} {v : Int32} (hd : decode bs pc = .ok (.istore k, 2)) (hp : pc + 2 = pc') (hl : storeLocals Ls k (.int v) = some Ls') (hr : Go p l e R s m args below meth c n0 Q K N h ce sl (mkF m pc' Ls' st)) : Go p l e R s m args below meth c n0 Q K N h ce sl (mkF m pc Ls (.int v :: st)) := by
  subst hp
  exact Go.step (fun T A _ q => XS.istore A C.1 rfl (hb C.2.1 hd) rfl hl q) hr
theorem go_lstoreN (C : Cx p s m meth c Z own bs mx rt nm) {k : Fin 4} {v : Int64} (hd : decode bs pc = .ok (.lstore_n k, 1)) (hp : pc + 1 = pc') (hl : storeLocals Ls k.val (.long v) = some Ls') (hr : Go p l e R s m args below meth c n0 Q K N h ce sl (mkF m pc' Ls' st)) : Go p l e R s m args below meth c n0 Q K N h ce sl (mkF m pc Ls (.long v :: st)) := by
  subst hp
  exact Go.step (fun T A _ q => XT.lstoreN A C.1 rfl (hb C.2.1 hd) rfl hl q) hr
theorem go_lstore (C : Cx p s m meth c Z own bs mx rt nm) {k : Nat} {v : Int64} (hd : decode bs pc = .ok (.lstore k, 2)) (hp : pc + 2 = pc') (hl : storeLocals Ls k (.long v) = some Ls') (hr : Go p l e R s m args below meth c n0 Q K N h ce sl (mkF m pc' Ls' st)) : Go p l e R s m args below meth c n0 Q K N h ce sl (mkF m pc Ls (.long v :: st)) := by
  subst hp
  exact Go.step (fun T A _ q => XT.lstore A C.1 rfl (hb C.2.1 hd) rfl hl q) hr
theorem go_astoreN (C : Cx p s m meth c Z own bs mx rt nm) {k : Fin 4} {v : Value} (hd : decode bs pc = .ok (.astore_n k, 1)) (hp : pc + 1 = pc') (hv : v.isRef = true) (hl : storeLocals Ls k.val v = some Ls') (hr : Go p l e R s m args below meth c n0 Q K N h ce sl (mkF m pc' Ls' st)) : Go p l e R s m args below meth c n0 Q K N h ce sl (mkF m pc Ls (v :: st)) := by
  subst hp
  exact Go.step (fun T A _ q => XS.astoreN A C.1 rfl (hb C.2.1 hd) rfl hv hl q) hr
theorem go_astore (C : Cx p s m meth c Z own bs mx rt nm) {k : Nat} {v : Value} (hd : decode bs pc = .ok (.astore k, 2)) (hp : pc + 2 = pc') (hv : v.isRef = true) (hl : storeLocals Ls k v = some Ls') (hr : Go p l e R s m args below meth c n0 Q K N h ce sl (mkF m pc' Ls' st)) : Go p l e R s m args below meth c n0 Q K N h ce sl (mkF m pc Ls (v :: st)) := by
  subst hp
  exact Go.step (fun T A _ q => XS.astore A C.1 rfl (hb C.2.1 hd) rfl hv hl q) hr
theorem go_istoreS (C : Cx p s m meth c Z own bs mx rt nm) {k : Nat} {v : Int32} {o : Slot} (hd : decode bs pc = .ok (.istore k, 2)) (hp : pc + 2 = pc') (hold : Ls[k]? = some o) (ho : One o) (hL : Ls.setIfInBounds k (.val (.int v)) = Ls') (hr : Go p l e R s m args below meth c n0 Q K N h ce sl (mkF m pc' Ls' st)) : Go p l e R s m args below meth c n0 Q K N h ce sl (mkF m pc Ls (.int v :: st)) := by
  subst hp hL
  exact Go.step (fun T A _ q => XS.istoreS A C.1 rfl (hb C.2.1 hd) rfl hold ho q) hr
theorem go_istoreNS (C : Cx p s m meth c Z own bs mx rt nm) {k : Fin 4} {v : Int32} {o : Slot} (hd : decode bs pc = .ok (.istore_n k, 1)) (hp : pc + 1 = pc') (hold : Ls[k.val]? = some o) (ho : One o) (hL : Ls.setIfInBounds k.val (.val (.int v)) = Ls') (hr : Go p l e R s m args below meth c n0 Q K N h ce sl (mkF m pc' Ls' st)) : Go p l e R s m args below meth c n0 Q K N h ce sl (mkF m pc Ls (.int v :: st)) := by
  subst hp hL
  exact Go.step (fun T A _ q => XS.istoreNS A C.1 rfl (hb C.2.1 hd) rfl hold ho q) hr
theorem go_iconst (C : Cx p s m meth c Z own bs mx rt nm) {i : Int} (v : Int32) (hd : decode bs pc = .ok (.iconst i, 1)) (hp : pc + 1 = pc') (hv : Int32.ofInt i = v) (hr : Go p l e R s m args below meth c n0 Q K N h ce sl (mkF m pc' Ls (.int v :: st))) : Go p l e R s m args below meth c n0 Q K N h ce sl (mkF m pc Ls st) := by
  subst hp
  exact Go.step (fun T A _ q => XT.iconstV A C.1 rfl v (hb C.2.1 hd) hv q) hr
theorem go_bipush (C : Cx p s m meth c Z own bs mx rt nm) {i : Int} (v : Int32) (hd : decode bs pc = .ok (.bipush i, 2)) (hp : pc + 2 = pc') (hv : (Int8.ofInt i).toInt32 = v) (hr : Go p l e R s m args below meth c n0 Q K N h ce sl (mkF m pc' Ls (.int v :: st))) : Go p l e R s m args below meth c n0 Q K N h ce sl (mkF m pc Ls st) := by
  subst hp
  exact Go.step (fun T A _ q => XT.bipushV A C.1 rfl v (hb C.2.1 hd) hv q) hr
theorem go_sipush (C : Cx p s m meth c Z own bs mx rt nm) {i : Int} (v : Int32) (hd : decode bs pc = .ok (.sipush i, 3)) (hp : pc + 3 = pc') (hv : (Int16.ofInt i).toInt32 = v) (hr : Go p l e R s m args below meth c n0 Q K N h ce sl (mkF m pc' Ls (.int v :: st))) : Go p l e R s m args below meth c n0 Q K N h ce sl (mkF m pc Ls st) := by
  subst hp
  exact Go.step (fun T A _ q => XT.sipushV A C.1 rfl v (hb C.2.1 hd) hv q) hr
theorem go_lconst (C : Cx p s m meth c Z own bs mx rt nm) {k : Fin 2} (v : Int64) (hd : decode bs pc = .ok (.lconst k, 1)) (hp : pc + 1 = pc') (hv : Int64.ofNat k = v) (hr : Go p l e R s m args below meth c n0 Q K N h ce sl (mkF m pc' Ls (.long v :: st))) : Go p l e R s m args below meth c n0 Q K N h ce sl (mkF m pc Ls st) := by
  subst hp
  exact Go.step (fun T A _ q => XT.lconstV A C.1 rfl v (hb C.2.1 hd) hv q) hr
theorem go_aconst_null (C : Cx p s m meth c Z own bs mx rt nm)  (hd : decode bs pc = .ok (.aconst_null, 1)) (hp : pc + 1 = pc') (hr : Go p l e R s m args below meth c n0 Q K N h ce sl (mkF m pc' Ls (.null :: st))) : Go p l e R s m args below meth c n0 Q K N h ce sl (mkF m pc Ls st) := by
  subst hp
  exact Go.step (fun T A _ q => XS.aconstNull A C.1 rfl (hb C.2.1 hd)  q) hr
theorem go_iinc (C : Cx p s m meth c Z own bs mx rt nm) {k : Nat} {i : Int} {x : Int32} (v : Int32) (hd : decode bs pc = .ok (.iinc k i, 3)) (hp : pc + 3 = pc') (hv : Int32.ofInt i = v) (hl : Ls[k]? = some (.val (.int x))) (hl' : storeLocals Ls k (.int (x + v)) = some Ls') (hr : Go p l e R s m args below meth c n0 Q K N h ce sl (mkF m pc' Ls' st)) : Go p l e R s m args below meth c n0 Q K N h ce sl (mkF m pc Ls st) := by
  subst hp
  exact Go.step (fun T A _ q => XT.iincV A C.1 rfl v (hb C.2.1 hd) hv hl hl' q) hr
theorem go_iadd (C : Cx p s m meth c Z own bs mx rt nm) {x y : Int32} (hd : decode bs pc = .ok (.iadd, 1)) (hp : pc + 1 = pc') (hr : Go p l e R s m args below meth c n0 Q K N h ce sl (mkF m pc' Ls (.int (x + y) :: st))) : Go p l e R s m args below meth c n0 Q K N h ce sl (mkF m pc Ls (.int y :: .int x :: st)) := by
  subst hp
  exact Go.step (fun T A _ q => XS.iadd A C.1 rfl (hb C.2.1 hd) rfl q) hr
theorem go_isub (C : Cx p s m meth c Z own bs mx rt nm) {x y : Int32} (hd : decode bs pc = .ok (.isub, 1)) (hp : pc + 1 = pc') (hr : Go p l e R s m args below meth c n0 Q K N h ce sl (mkF m pc' Ls (.int (x - y) :: st))) : Go p l e R s m args below meth c n0 Q K N h ce sl (mkF m pc Ls (.int y :: .int x :: st)) := by
  subst hp
  exact Go.step (fun T A _ q => XS.isub A C.1 rfl (hb C.2.1 hd) rfl q) hr
theorem go_iand (C : Cx p s m meth c Z own bs mx rt nm) {x y : Int32} (hd : decode bs pc = .ok (.iand, 1)) (hp : pc + 1 = pc') (hr : Go p l e R s m args below meth c n0 Q K N h ce sl (mkF m pc' Ls (.int (x &&& y) :: st))) : Go p l e R s m args below meth c n0 Q K N h ce sl (mkF m pc Ls (.int y :: .int x :: st)) := by
  subst hp
  exact Go.step (fun T A _ q => XS.iand A C.1 rfl (hb C.2.1 hd) rfl q) hr
theorem go_imul (C : Cx p s m meth c Z own bs mx rt nm) {x y : Int32} (hd : decode bs pc = .ok (.imul, 1)) (hp : pc + 1 = pc') (hr : Go p l e R s m args below meth c n0 Q K N h ce sl (mkF m pc' Ls (.int (x * y) :: st))) : Go p l e R s m args below meth c n0 Q K N h ce sl (mkF m pc Ls (.int y :: .int x :: st)) := by
  subst hp
  exact Go.step (fun T A _ q => XS.imul A C.1 rfl (hb C.2.1 hd) rfl q) hr
theorem go_ior (C : Cx p s m meth c Z own bs mx rt nm) {x y : Int32} (hd : decode bs pc = .ok (.ior, 1)) (hp : pc + 1 = pc') (hr : Go p l e R s m args below meth c n0 Q K N h ce sl (mkF m pc' Ls (.int (x ||| y) :: st))) : Go p l e R s m args below meth c n0 Q K N h ce sl (mkF m pc Ls (.int y :: .int x :: st)) := by
  subst hp
  exact Go.step (fun T A _ q => XT.ior A C.1 rfl (hb C.2.1 hd) rfl q) hr
theorem go_ixor (C : Cx p s m meth c Z own bs mx rt nm) {x y : Int32} (hd : decode bs pc = .ok (.ixor, 1)) (hp : pc + 1 = pc') (hr : Go p l e R s m args below meth c n0 Q K N h ce sl (mkF m pc' Ls (.int (x ^^^ y) :: st))) : Go p l e R s m args below meth c n0 Q K N h ce sl (mkF m pc Ls (.int y :: .int x :: st)) := by
  subst hp
  exact Go.step (fun T A _ q => XT.ixor A C.1 rfl (hb C.2.1 hd) rfl q) hr
theorem go_ishl (C : Cx p s m meth c Z own bs mx rt nm) {x y : Int32} (hd : decode bs pc = .ok (.ishl, 1)) (hp : pc + 1 = pc') (hr : Go p l e R s m args below meth c n0 Q K N h ce sl (mkF m pc' Ls (.int (x <<< (y &&& 31)) :: st))) : Go p l e R s m args below meth c n0 Q K N h ce sl (mkF m pc Ls (.int y :: .int x :: st)) := by
  subst hp
  exact Go.step (fun T A _ q => XT.ishl A C.1 rfl (hb C.2.1 hd) rfl q) hr
theorem go_ishr (C : Cx p s m meth c Z own bs mx rt nm) {x y : Int32} (hd : decode bs pc = .ok (.ishr, 1)) (hp : pc + 1 = pc') (hr : Go p l e R s m args below meth c n0 Q K N h ce sl (mkF m pc' Ls (.int (x >>> (y &&& 31)) :: st))) : Go p l e R s m args below meth c n0 Q K N h ce sl (mkF m pc Ls (.int y :: .int x :: st)) := by
  subst hp
  exact Go.step (fun T A _ q => XT.ishr A C.1 rfl (hb C.2.1 hd) rfl q) hr
theorem go_iushr (C : Cx p s m meth c Z own bs mx rt nm) {x y : Int32} (hd : decode bs pc = .ok (.iushr, 1)) (hp : pc + 1 = pc') (hr : Go p l e R s m args below meth c n0 Q K N h ce sl (mkF m pc' Ls (.int (XT.ushr x y) :: st))) : Go p l e R s m args below meth c n0 Q K N h ce sl (mkF m pc Ls (.int y :: .int x :: st)) := by
  subst hp
  exact Go.step (fun T A _ q => XT.iushr A C.1 rfl (hb C.2.1 hd) rfl q) hr
theorem go_ladd (C : Cx p s m meth c Z own bs mx rt nm) {x y : Int64} (hd : decode bs pc = .ok (.ladd, 1)) (hp : pc + 1 = pc') (hr : Go p l e R s m args below meth c n0 Q K N h ce sl (mkF m pc' Ls (.long (x + y) :: st))) : Go p l e R s m args below meth c n0 Q K N h ce sl (mkF m pc Ls (.long y :: .long x :: st)) := by
  subst hp
  exact Go.step (fun T A _ q => XT.ladd A C.1 rfl (hb C.2.1 hd) rfl q) hr
theorem go_lsub (C : Cx p s m meth c Z own bs mx rt nm) {x y : Int64} (hd : decode bs pc = .ok (.lsub, 1)) (hp : pc + 1 = pc') (hr : Go p l e R s m args below meth c n0 Q K N h ce sl (mkF m pc' Ls (.long (x - y) :: st))) : Go p l e R s m args below meth c n0 Q K N h ce sl (mkF m pc Ls (.long y :: .long x :: st)) := by
  subst hp
  exact Go.step (fun T A _ q => XT.lsub A C.1 rfl (hb C.2.1 hd) rfl q) hr
theorem go_land (C : Cx p s m meth c Z own bs mx rt nm) {x y : Int64} (hd : decode bs pc = .ok (.land, 1)) (hp : pc + 1 = pc') (hr : Go p l e R s m args below meth c n0 Q K N h ce sl (mkF m pc' Ls (.long (x &&& y) :: st))) : Go p l e R s m args below meth c n0 Q K N h ce sl (mkF m pc Ls (.long y :: .long x :: st)) := by
  subst hp
  exact Go.step (fun T A _ q => XT.land A C.1 rfl (hb C.2.1 hd) rfl q) hr
theorem go_lmul (C : Cx p s m meth c Z own bs mx rt nm) {x y : Int64} (hd : decode bs pc = .ok (.lmul, 1)) (hp : pc + 1 = pc') (hr : Go p l e R s m args below meth c n0 Q K N h ce sl (mkF m pc' Ls (.long (x * y) :: st))) : Go p l e R s m args below meth c n0 Q K N h ce sl (mkF m pc Ls (.long y :: .long x :: st)) := by
  subst hp
  exact Go.step (fun T A _ q => XT.lmul A C.1 rfl (hb C.2.1 hd) rfl q) hr
theorem go_lor (C : Cx p s m meth c Z own bs mx rt nm) {x y : Int64} (hd : decode bs pc = .ok (.lor, 1)) (hp : pc + 1 = pc') (hr : Go p l e R s m args below meth c n0 Q K N h ce sl (mkF m pc' Ls (.long (x ||| y) :: st))) : Go p l e R s m args below meth c n0 Q K N h ce sl (mkF m pc Ls (.long y :: .long x :: st)) := by
  subst hp
  exact Go.step (fun T A _ q => XT.lor A C.1 rfl (hb C.2.1 hd) rfl q) hr
theorem go_lxor (C : Cx p s m meth c Z own bs mx rt nm) {x y : Int64} (hd : decode bs pc = .ok (.lxor, 1)) (hp : pc + 1 = pc') (hr : Go p l e R s m args below meth c n0 Q K N h ce sl (mkF m pc' Ls (.long (x ^^^ y) :: st))) : Go p l e R s m args below meth c n0 Q K N h ce sl (mkF m pc Ls (.long y :: .long x :: st)) := by
  subst hp
  exact Go.step (fun T A _ q => XT.lxor A C.1 rfl (hb C.2.1 hd) rfl q) hr
theorem go_idiv (C : Cx p s m meth c Z own bs mx rt nm) {x y : Int32} (hd : decode bs pc = .ok (.idiv, 1)) (hp : pc + 1 = pc') (hy : y ≠ 0) (hr : Go p l e R s m args below meth c n0 Q K N h ce sl (mkF m pc' Ls (.int (x / y) :: st))) : Go p l e R s m args below meth c n0 Q K N h ce sl (mkF m pc Ls (.int y :: .int x :: st)) := by
  subst hp
  exact Go.step (fun T A _ q => XS.idiv A C.1 rfl (hb C.2.1 hd) rfl hy q) hr
theorem go_irem (C : Cx p s m meth c Z own bs mx rt nm) {x y : Int32} (hd : decode bs pc = .ok (.irem, 1)) (hp : pc + 1 = pc') (hy : y ≠ 0) (hr : Go p l e R s m args below meth c n0 Q K N h ce sl (mkF m pc' Ls (.int (x % y) :: st))) : Go p l e R s m args below meth c n0 Q K N h ce sl (mkF m pc Ls (.int y :: .int x :: st)) := by
  subst hp
  exact Go.stepX (fun T locs X _ _ q => iremM X C.1 rfl (hb C.2.1 hd) rfl hy q) hr
theorem go_i2l (C : Cx p s m meth c Z own bs mx rt nm) {x : Int32} (hd : decode bs pc = .ok (.i2l, 1)) (hp : pc + 1 = pc') (hr : Go p l e R s m args below meth c n0 Q K N h ce sl (mkF m pc' Ls (.long x.toInt64 :: st))) : Go p l e R s m args below meth c n0 Q K N h ce sl (mkF m pc Ls (.int x :: st)) := by
  subst hp
  exact Go.step (fun T A _ q => XT.i2l A C.1 rfl (hb C.2.1 hd) rfl q) hr
theorem go_l2i (C : Cx p s m meth c Z own bs mx rt nm) {x : Int64} (hd : decode bs pc = .ok (.l2i, 1)) (hp : pc + 1 = pc') (hr : Go p l e R s m args below meth c n0 Q K N h ce sl (mkF m pc' Ls (.int x.toInt32 :: st))) : Go p l e R s m args below meth c n0 Q K N h ce sl (mkF m pc Ls (.long x :: st)) := by
  subst hp
  exact Go.step (fun T A _ q => XT.l2i A C.1 rfl (hb C.2.1 hd) rfl q) hr
theorem go_i2b (C : Cx p s m meth c Z own bs mx rt nm) {x : Int32} (hd : decode bs pc = .ok (.i2b, 1)) (hp : pc + 1 = pc') (hr : Go p l e R s m args below meth c n0 Q K N h ce sl (mkF m pc' Ls (.int x.toInt8.toInt32 :: st))) : Go p l e R s m args below meth c n0 Q K N h ce sl (mkF m pc Ls (.int x :: st)) := by
  subst hp
  exact Go.step (fun T A _ q => XT.i2b A C.1 rfl (hb C.2.1 hd) rfl q) hr
theorem go_i2c (C : Cx p s m meth c Z own bs mx rt nm) {x : Int32} (hd : decode bs pc = .ok (.i2c, 1)) (hp : pc + 1 = pc') (hr : Go p l e R s m args below meth c n0 Q K N h ce sl (mkF m pc' Ls (.int x.toUInt32.toUInt16.toUInt32.toInt32 :: st))) : Go p l e R s m args below meth c n0 Q K N h ce sl (mkF m pc Ls (.int x :: st)) := by
  subst hp
  exact Go.step (fun T A _ q => XT.i2c A C.1 rfl (hb C.2.1 hd) rfl q) hr
theorem go_ineg (C : Cx p s m meth c Z own bs mx rt nm) {x : Int32} (hd : decode bs pc = .ok (.ineg, 1)) (hp : pc + 1 = pc') (hr : Go p l e R s m args below meth c n0 Q K N h ce sl (mkF m pc' Ls (.int (-x) :: st))) : Go p l e R s m args below meth c n0 Q K N h ce sl (mkF m pc Ls (.int x :: st)) := by
  subst hp
  exact Go.step (fun T A _ q => XS.ineg A C.1 rfl (hb C.2.1 hd) rfl q) hr
theorem go_dup (C : Cx p s m meth c Z own bs mx rt nm) {v : Value} (hd : decode bs pc = .ok (.dup, 1)) (hp : pc + 1 = pc') (hc : v.category = 1) (hr : Go p l e R s m args below meth c n0 Q K N h ce sl (mkF m pc' Ls (v :: v :: st))) : Go p l e R s m args below meth c n0 Q K N h ce sl (mkF m pc Ls (v :: st)) := by
  subst hp
  exact Go.step (fun T A _ q => XS.dup A C.1 rfl (hb C.2.1 hd) rfl hc q) hr
theorem go_pop (C : Cx p s m meth c Z own bs mx rt nm) {v : Value} (hd : decode bs pc = .ok (.pop, 1)) (hp : pc + 1 = pc') (hc : v.category = 1) (hr : Go p l e R s m args below meth c n0 Q K N h ce sl (mkF m pc' Ls st)) : Go p l e R s m args below meth c n0 Q K N h ce sl (mkF m pc Ls (v :: st)) := by
  subst hp
  exact Go.step (fun T A _ q => XT.pop A C.1 rfl (hb C.2.1 hd) rfl hc q) hr
theorem go_dup2 (C : Cx p s m meth c Z own bs mx rt nm) {v w : Value} (hd : decode bs pc = .ok (.dup2, 1)) (hp : pc + 1 = pc') (hc : v.category = 1) (hc' : w.category = 1) (hr : Go p l e R s m args below meth c n0 Q K N h ce sl (mkF m pc' Ls (v :: w :: v :: w :: st))) : Go p l e R s m args below meth c n0 Q K N h ce sl (mkF m pc Ls (v :: w :: st)) := by
  subst hp
  exact Go.step (fun T A _ q => XT.dup2 A C.1 rfl (hb C.2.1 hd) rfl hc hc' q) hr
theorem go_dup_x1 (C : Cx p s m meth c Z own bs mx rt nm) {v w : Value} (hd : decode bs pc = .ok (.dup_x1, 1)) (hp : pc + 1 = pc') (hc : v.category = 1) (hc' : w.category = 1) (hr : Go p l e R s m args below meth c n0 Q K N h ce sl (mkF m pc' Ls (v :: w :: v :: st))) : Go p l e R s m args below meth c n0 Q K N h ce sl (mkF m pc Ls (v :: w :: st)) := by
  subst hp
  exact Go.step (fun T A _ q => XT.dupX1 A C.1 rfl (hb C.2.1 hd) rfl hc hc' q) hr
theorem go_lushr (C : Cx p s m meth c Z own bs mx rt nm) {x : Int64} {y : Int32} (hd : decode bs pc = .ok (.lushr, 1)) (hp : pc + 1 = pc') (hr : Go p l e R s m args below meth c n0 Q K N h ce sl (mkF m pc' Ls (.long (XT.ushrL x y) :: st))) : Go p l e R s m args below meth c n0 Q K N h ce sl (mkF m pc Ls (.int y :: .long x :: st)) := by
  subst hp
  exact Go.step (fun T A _ q => XT.lushr A C.1 rfl (hb C.2.1 hd) rfl q) hr
theorem go_lshl (C : Cx p s m meth c Z own bs mx rt nm) {x : Int64} {y : Int32} (hd : decode bs pc = .ok (.lshl, 1)) (hp : pc + 1 = pc') (hr : Go p l e R s m args below meth c n0 Q K N h ce sl (mkF m pc' Ls (.long (x <<< (y.toInt64 &&& 63)) :: st))) : Go p l e R s m args below meth c n0 Q K N h ce sl (mkF m pc Ls (.int y :: .long x :: st)) := by
  subst hp
  exact Go.step (fun T A _ q => XT.lshl A C.1 rfl (hb C.2.1 hd) rfl q) hr
theorem go_ldiv (C : Cx p s m meth c Z own bs mx rt nm) {x y : Int64} (hd : decode bs pc = .ok (.ldiv, 1)) (hp : pc + 1 = pc') (hy : y ≠ 0) (hr : Go p l e R s m args below meth c n0 Q K N h ce sl (mkF m pc' Ls (.long (x / y) :: st))) : Go p l e R s m args below meth c n0 Q K N h ce sl (mkF m pc Ls (.long y :: .long x :: st)) := by
  subst hp
  exact Go.step (fun T A _ q => XT.ldiv A C.1 rfl (hb C.2.1 hd) rfl hy q) hr
theorem go_lrem (C : Cx p s m meth c Z own bs mx rt nm) {x y : Int64} (hd : decode bs pc = .ok (.lrem, 1)) (hp : pc + 1 = pc') (hy : y ≠ 0) (hr : Go p l e R s m args below meth c n0 Q K N h ce sl (mkF m pc' Ls (.long (x - (x / y) * y) :: st))) : Go p l e R s m args below meth c n0 Q K N h ce sl (mkF m pc Ls (.long y :: .long x :: st)) := by
  subst hp
  exact Go.step (fun T A _ q => XT.lrem A C.1 rfl (hb C.2.1 hd) rfl hy q) hr
theorem go_goto (C : Cx p s m meth c Z own bs mx rt nm) {o : Int} (hd : decode bs pc = .ok (.goto o, 3)) (ho : 0 ≤ (pc : Int) + o) (hp : ((pc : Int) + o).toNat = pc') (hr : Go p l e R s m args below meth c n0 Q K N h ce sl (mkF m pc' Ls st)) : Go p l e R s m args below meth c n0 Q K N h ce sl (mkF m pc Ls st) :=
  Go.step (fun T A _ q => XS.goto A C.1 rfl rfl (hb C.2.1 hd) ho hp q) hr
/-- what a comparison says, of integers -/
def cmpP (cd : ClassFile.Cond) (x y : Int) : Prop := match cd with | .eq => x = y | .ne => ¬ x = y | .lt => x < y | .ge => ¬ x < y | .gt => y < x | .le => ¬ y < x
def cmpN (cd : ClassFile.Cond) (x y : Int) : Prop := match cd with | .eq => ¬ x = y | .ne => x = y | .lt => ¬ x < y | .ge => x < y | .gt => ¬ y < x | .le => y < x
theorem cmpN_of {cd : ClassFile.Cond} {x y : Int} (h : ¬ cmpP cd x y) : cmpN cd x y := by
  cases cd <;> simp only [cmpP] at h <;> simp only [cmpN] <;> omega
theorem cmp_t {cd : ClassFile.Cond} {x y : Int32} (h : cmpP cd x.toInt y.toInt) : if_icmp.holds cd x y = true := by
  cases cd <;> simp only [cmpP] at h
  · exact XT.ii_eq_t (int_eq h)
  · exact XT.ii_ne_t fun q => h (by rw [q])
  · exact XT.ii_lt_t (Int32.lt_iff_toInt_lt.mpr h)
  · exact XT.ii_ge_t fun q => h (Int32.lt_iff_toInt_lt.mp q)
  · exact XT.ii_gt_t (Int32.lt_iff_toInt_lt.mpr h)
  · exact XT.ii_le_t fun q => h (Int32.lt_iff_toInt_lt.mp q)
theorem cmp_f {cd : ClassFile.Cond} {x y : Int32} (h : ¬ cmpP cd x.toInt y.toInt) : if_icmp.holds cd x y = false := by
  cases cd <;> simp only [cmpP] at h
  · exact XT.ii_eq_f fun q => h (by rw [q])
  · exact XT.ii_ne_f (int_eq (Classical.not_not.mp h))
  · exact XT.ii_lt_f fun q => h (Int32.lt_iff_toInt_lt.mp q)
  · exact XT.ii_ge_f (Int32.lt_iff_toInt_lt.mpr (Classical.not_not.mp h))
  · exact XT.ii_gt_f fun q => h (Int32.lt_iff_toInt_lt.mp q)
  · exact XT.ii_le_f (Int32.lt_iff_toInt_lt.mpr (Classical.not_not.mp h))
theorem cmpL_t {cd : ClassFile.Cond} {x y : Int64} (h : cmpP cd x.toInt y.toInt) : ifCond.holds cd (XT.cmpL x y) = true := by
  cases cd <;> simp only [cmpP] at h
  · exact XT.ll_eq_t (long_eq h)
  · exact XT.ll_ne_t fun q => h (by rw [q])
  · exact XT.ll_lt_t (Int64.lt_iff_toInt_lt.mpr h)
  · exact XT.ll_ge_t fun q => h (Int64.lt_iff_toInt_lt.mp q)
  · exact XT.ll_gt_t (Int64.lt_iff_toInt_lt.mpr h)
  · exact XT.ll_le_t fun q => h (Int64.lt_iff_toInt_lt.mp q)
theorem cmpL_f {cd : ClassFile.Cond} {x y : Int64} (h : ¬ cmpP cd x.toInt y.toInt) : ifCond.holds cd (XT.cmpL x y) = false := by
  cases cd <;> simp only [cmpP] at h
  · exact XT.ll_eq_f fun q => h (by rw [q])
  · exact XT.ll_ne_f (long_eq (Classical.not_not.mp h))
  · exact XT.ll_lt_f fun q => h (Int64.lt_iff_toInt_lt.mp q)
  · exact XT.ll_ge_f (Int64.lt_iff_toInt_lt.mpr (Classical.not_not.mp h))
  · exact XT.ll_gt_f fun q => h (Int64.lt_iff_toInt_lt.mp q)
  · exact XT.ll_le_f (Int64.lt_iff_toInt_lt.mpr (Classical.not_not.mp h))
theorem go_icmp (C : Cx p s m meth c Z own bs mx rt nm) {cd : ClassFile.Cond} {x y : Int32} {o : Int} {pcN : Nat} (kx ky : Int) (hx : x.toInt = kx) (hy : y.toInt = ky) (hd : decode bs pc = .ok (.if_icmp cd o, 3)) (ho : 0 ≤ (pc : Int) + o) (hp : ((pc : Int) + o).toNat = pc') (hpn : pc + 3 = pcN) (h1 : cmpP cd kx ky → Go p l e R s m args below meth c n0 Q K N h ce sl (mkF m pc' Ls st)) (h2 : cmpN cd kx ky → Go p l e R s m args below meth c n0 Q K N h ce sl (mkF m pcN Ls st)) : Go p l e R s m args below meth c n0 Q K N h ce sl (mkF m pc Ls (.int y :: .int x :: st)) := by
  subst hpn hx hy
  by_cases q : cmpP cd x.toInt y.toInt
  · exact Go.step (fun T A _ k => XS.icmpYes A C.1 rfl rfl (hb C.2.1 hd) rfl (cmp_t q) ho hp k) (h1 q)
  · exact Go.step (fun T A _ k => XS.icmpNo A C.1 rfl (hb C.2.1 hd) rfl (cmp_f q) k) (h2 (cmpN_of q))
theorem go_if0 (C : Cx p s m meth c Z own bs mx rt nm) {cd : ClassFile.Cond} {x : Int32} {o : Int} {pcN : Nat} (kx : Int) (hx : x.toInt = kx) (hd : decode bs pc = .ok (.ifCond cd o, 3)) (ho : 0 ≤ (pc : Int) + o) (hp : ((pc : Int) + o).toNat = pc') (hpn : pc + 3 = pcN) (h1 : cmpP cd kx 0 → Go p l e R s m args below meth c n0 Q K N h ce sl (mkF m pc' Ls st)) (h2 : cmpN cd kx 0 → Go p l e R s m args below meth c n0 Q K N h ce sl (mkF m pcN Ls st)) : Go p l e R s m args below meth c n0 Q K N h ce sl (mkF m pc Ls (.int x :: st)) := by
  subst hpn hx
  by_cases q : cmpP cd x.toInt 0
  · exact Go.step (fun T A _ k => XS.ifYes A C.1 rfl rfl (hb C.2.1 hd) rfl ((if0 cd x).trans (cmp_t q)) ho hp k) (h1 q)
  · exact Go.step (fun T A _ k => XS.ifNo A C.1 rfl (hb C.2.1 hd) rfl ((if0 cd x).trans (cmp_f q)) k) (h2 (cmpN_of q))
theorem go_lcmp (C : Cx p s m meth c Z own bs mx rt nm) {cd : ClassFile.Cond} {x y : Int64} {o : Int} {pc1 pcN : Nat} (kx ky : Int) (hx : x.toInt = kx) (hy : y.toInt = ky) (hd0 : decode bs pc = .ok (.lcmp, 1)) (hp1 : pc + 1 = pc1) (hd : decode bs pc1 = .ok (.ifCond cd o, 3)) (ho : 0 ≤ (pc1 : Int) + o) (hp : ((pc1 : Int) + o).toNat = pc') (hpn : pc1 + 3 = pcN) (h1 : cmpP cd kx ky → Go p l e R s m args below meth c n0 Q K N h ce sl (mkF m pc' Ls st)) (h2 : cmpN cd kx ky → Go p l e R s m args below meth c n0 Q K N h ce sl (mkF m pcN Ls st)) : Go p l e R s m args below meth c n0 Q K N h ce sl (mkF m pc Ls (.long y :: .long x :: st)) := by
  subst hpn hp1 hx hy
  refine Go.step (g' := mkF m (pc + 1) Ls (.int (XT.cmpL x y) :: st)) (fun T A _ k => XT.lcmp A C.1 rfl (hb C.2.1 hd0) rfl k) ?_
  by_cases q : cmpP cd x.toInt y.toInt
  · exact Go.step (fun T A _ k => XS.ifYes A C.1 rfl rfl (hb C.2.1 hd) rfl (cmpL_t q) ho hp k) (h1 q)
  · exact Go.step (fun T A _ k => XS.ifNo A C.1 rfl (hb C.2.1 hd) rfl (cmpL_f q) k) (h2 (cmpN_of q))
theorem go_ifne_b (C : Cx p s m meth c Z own bs mx rt nm) {B : Prop} [Decidable B] {o : Int} {pcN : Nat} (hd : decode bs pc = .ok (.ifCond .ne o, 3)) (ho : 0 ≤ (pc : Int) + o) (hp : ((pc : Int) + o).toNat = pc') (hpn : pc + 3 = pcN) (h1 : B → Go p l e R s m args below meth c n0 Q K N h ce sl (mkF m pc' Ls st)) (h2 : ¬ B → Go p l e R s m args below meth c n0 Q K N h ce sl (mkF m pcN Ls st)) : Go p l e R s m args below meth c n0 Q K N h ce sl (mkF m pc Ls (.int (bi B) :: st)) := by
  refine go_if0 C _ rfl hd ho hp hpn (fun q => h1 ?_) (fun q => h2 ?_)
  · exact Classical.byContradiction fun z => q (by rw [bi_f z]; rfl)
  · exact fun z => by
      have q' : (bi B).toInt = 0 := q
      rw [bi_t z] at q'
      exact absurd q' (by decide)
theorem go_ifeq_b (C : Cx p s m meth c Z own bs mx rt nm) {B : Prop} [Decidable B] {o : Int} {pcN : Nat} (hd : decode bs pc = .ok (.ifCond .eq o, 3)) (ho : 0 ≤ (pc : Int) + o) (hp : ((pc : Int) + o).toNat = pc') (hpn : pc + 3 = pcN) (h1 : ¬ B → Go p l e R s m args below meth c n0 Q K N h ce sl (mkF m pc' Ls st)) (h2 : B → Go p l e R s m args below meth c n0 Q K N h ce sl (mkF m pcN Ls st)) : Go p l e R s m args below meth c n0 Q K N h ce sl (mkF m pc Ls (.int (bi B) :: st)) := by
  refine go_if0 C _ rfl hd ho hp hpn (fun q => h1 ?_) (fun q => h2 ?_)
  · exact fun z => by
      have q' : (bi B).toInt = 0 := q
      rw [bi_t z] at q'
      exact absurd q' (by decide)
  · exact Classical.byContradiction fun z => q (by rw [bi_f z]; rfl)
theorem go_ifnull_r (C : Cx p s m meth c Z own bs mx rt nm) {a : Addr} {o : Int} (hd : decode bs pc = .ok (.ifnull o, 3)) (hp : pc + 3 = pc') (hr : Go p l e R s m args below meth c n0 Q K N h ce sl (mkF m pc' Ls st)) : Go p l e R s m args below meth c n0 Q K N h ce sl (mkF m pc Ls (.ref a :: st)) := by
  subst hp
  exact Go.step (fun T A _ k => XS.ifnullNo A C.1 rfl (hb C.2.1 hd) rfl k) hr
theorem go_ifnull_n (C : Cx p s m meth c Z own bs mx rt nm) {o : Int} (hd : decode bs pc = .ok (.ifnull o, 3)) (ho : 0 ≤ (pc : Int) + o) (hp : ((pc : Int) + o).toNat = pc') (hr : Go p l e R s m args below meth c n0 Q K N h ce sl (mkF m pc' Ls st)) : Go p l e R s m args below meth c n0 Q K N h ce sl (mkF m pc Ls (.null :: st)) :=
  Go.step (fun T A _ k => XS.ifnullYes A C.1 rfl rfl (hb C.2.1 hd) rfl ho hp k) hr
theorem go_ldc (C : Cx p s m meth c Z own bs mx rt nm) {i : Nat} {v : Int32} (w : (Jvm.Cond.constant own i v).before a0 Z = true) (hd : decode bs pc = .ok (.ldc i, 2)) (hp : pc + 2 = pc') (hr : Go p l e R s m args below meth c n0 Q K N h ce sl (mkF m pc' Ls (.int v :: st))) : Go p l e R s m args below meth c n0 Q K N h ce sl (mkF m pc Ls st) := by
  subst hp
  exact Go.stepX (fun T locs X _ _ q => X.ldcI C.1 C.2.2.2.2.1 (mv C.2.2.2.1 w) rfl (hb C.2.1 hd) q) hr
theorem go_ldc2 (C : Cx p s m meth c Z own bs mx rt nm) {i : Nat} {v : Int64} (w : (Jvm.Cond.constantLong own i v).before a0 Z = true) (hd : decode bs pc = .ok (.ldc2_w i, 3)) (hp : pc + 3 = pc') (hr : Go p l e R s m args below meth c n0 Q K N h ce sl (mkF m pc' Ls (.long v :: st))) : Go p l e R s m args below meth c n0 Q K N h ce sl (mkF m pc Ls st) := by
  subst hp
  exact Go.stepX (fun T locs X _ _ q => X.ldc2J C.1 C.2.2.2.2.1 (mv C.2.2.2.1 w) rfl (hb C.2.1 hd) q) hr
theorem go_getfield (C : Cx p s m meth c Z own bs mx rt nm) {O n d : String} {i : Nat} {a : Addr} {v : Value} (w : (Jvm.Cond.fieldLink own i O n d).before a0 Z = true) (F0 : Fld Z h a O n d v) (hd : decode bs pc = .ok (.getfield i, 3)) (hp : pc + 3 = pc') (hr : Go p l e R s m args below meth c n0 Q K N h ce sl (mkF m pc' Ls (v :: st))) : Go p l e R s m args below meth c n0 Q K N h ce sl (mkF m pc Ls (.ref a :: st)) := by
  subst hp
  intro T locs X eT Nn
  obtain ⟨T', X', e', stp⟩ := getF X C.1 C.2.2.2.1 C.2.2.2.2.1 (host := "") (Or.inl w) Via.refl eT F0 (g := mkF m pc Ls (.ref a :: st)) rfl rfl (hb C.2.1 hd)
  obtain ⟨s₂, o, h1, r⟩ := hr T' locs X' e' Nn
  exact ⟨s₂, o, stp _ h1, r⟩
theorem go_putfield (C : Cx p s m meth c Z own bs mx rt nm) {O n d C0 : String} {i kk : Nat} {ty : FieldType} {a : Addr} {v old : Value} (w : (Jvm.Cond.fieldLink own i O n d).before a0 Z = true) (F0 : Fld Z h a O n d old) (E : Exa Z h a C0) (L : (Jvm.Cond.lays C0 O n d).before a0 Z = true ∨ ((Jvm.Cond.laysFinal C0 O n d).before a0 Z = true ∧ own = O ∧ nm = "<init>")) (wi : (Jvm.Cond.instantiable C0 kk).before a0 Z = true) (hty : parseFieldDescriptor d = some ty) (hn : narrow ty v = v) (hf : fits ty v = true) (ha : n0 ≤ a) (hd : decode bs pc = .ok (.putfield i, 3)) (hp : pc + 3 = pc') (hr : ∀ h', Wr h h' a (Jvm.RoadKit.slotOf Z O n d) v → Go p l e R s m args below meth c n0 Q K N h' ce sl (mkF m pc' Ls st)) : Go p l e R s m args below meth c n0 Q K N h ce sl (mkF m pc Ls (v :: .ref a :: st)) := by
  subst hp
  intro T locs X eT Nn
  obtain ⟨T', h', X', e', W', stp⟩ := putF X C.1 C.2.2.2.1 C.2.2.2.2.1 (host := "") (Or.inl w) Via.refl eT F0 E (L.imp id fun q => ⟨q.1, q.2.1, C.2.2.2.2.2.2.2.trans q.2.2⟩) wi hty hn hf (g := mkF m pc Ls (v :: .ref a :: st)) rfl rfl (hb C.2.1 hd)
  obtain ⟨s₂, o, h1, r⟩ := hr h' W' T' _ X' e' (Fr.snoc X' Nn ha)
  exact ⟨s₂, o, stp _ h1, r⟩
theorem go_new (C : Cx p s m meth c Z own bs mx rt nm) {C0 : String} {i k ce' sl' : Nat} (w : (Jvm.Cond.classLink own i C0).before a0 Z = true) (wi : (Jvm.Cond.instantiable C0 k).before a0 Z = true) (wz : (Jvm.Cond.initialized C0).before a0 Z = true) (hd : decode bs pc = .ok (.new i, 3)) (hp : pc + 3 = pc') (hce : ce + 1 = ce') (hsl : sl + k = sl') (hc : ce' ≤ R.cells) (hl : sl' ≤ R.slots)
    (hr : ∀ (h' : Heap) (a : Addr), h.size = a → Ext h h' → Exa Z h' a C0 → (∀ {O nm d : String} {ty : FieldType}, Laid Z a0 C0 O nm d → parseFieldDescriptor d = some ty → Fld Z h' a O nm d (defaultValue ty)) → Go p l e R s m args below meth c n0 Q K N h' ce' sl' (mkF m pc' Ls (.ref a :: st))) : Go p l e R s m args below meth c n0 Q K N h ce sl (mkF m pc Ls st) := by
  subst hp hce hsl
  intro T locs X eT Nn
  obtain ⟨T', h', X', e', E', A', D', -, stp⟩ := newO X C.1 C.2.2.2.1 C.2.2.2.2.1 w wi wz eT (g := mkF m pc Ls st) rfl (hb C.2.1 hd) hc hl
  obtain ⟨s₂, o, h1, r⟩ := hr h' _ rfl E' A' D' T' _ X' e' Nn
  exact ⟨s₂, o, stp _ h1, r⟩
/-- an array of type ty that holds just vs -/
def Av (Z : State) (h : Heap) (a : Addr) (ty : FieldType) (vs : List Value) : Prop := ∃ cl : Cell, Arr Z h a cl ty ∧ cl.slots.toList = vs ∧ vs.length < 2147483648
theorem Av.lt {ty : FieldType} {vs : List Value} {a : Addr} (A : Av Z h a ty vs) : a < h.size := by obtain ⟨c, A, -⟩ := A; exact A.lt
theorem Av.ext {ty : FieldType} {vs : List Value} {a : Addr} {h' : Heap} (A : Av Z h a ty vs) (E : Ext h h') : Av Z h' a ty vs := by obtain ⟨c, A, r⟩ := A; exact ⟨c, A.ext E, r⟩
theorem Av.other {ty : FieldType} {vs : List Value} {a b : Addr} {h' : Heap} {k : Nat} {v : Value} (A : Av Z h b ty vs) (W : Wr h h' a k v) (q : b ≠ a) : Av Z h' b ty vs := by obtain ⟨c, A, r⟩ := A; exact ⟨c, A.other W q, r⟩
theorem Av.keep {ty : FieldType} {vs : List Value} {a : Addr} {h' : Heap} {ws : List Addr} (A : Av Z h a ty vs) (K0 : Keep h h' ws) (q : a ∉ ws) : Av Z h' a ty vs := by obtain ⟨c, A, r⟩ := A; exact ⟨c, ⟨K0.2.1 a c A.1 q, A.2⟩, r⟩
theorem own_ne_arr {C0 : String} {ty : FieldType} {vs : List Value} {a b : Addr} {k : Nat} (F0 : Exa Z h a C0) (wi : (Jvm.Cond.instantiable C0 k).before a0 Z = true) (G : Av Z h b ty vs) : a ≠ b := by obtain ⟨c, G, -⟩ := G; exact ne_arr F0 wi G
theorem clamp_of {j : Int32} {k : Nat} (hj : j.toInt = k) : j.toNatClampNeg = k := by
  show j.toInt.toNat = k
  rw [hj]; rfl
theorem nonneg_of {j : Int32} {k : Nat} (hj : j.toInt = k) : ¬ j < 0 := fun q => by
  have := Int32.lt_iff_toInt_lt.mp q
  rw [hj] at this
  exact absurd this (by show ¬ (k : Int) < 0; omega)
theorem Av.at {ty : FieldType} {vs : List Value} {a : Addr} (A : Av Z h a ty vs) {j : Int32} {k : Nat} (hj : j.toInt = k) (hk : k < vs.length) : ∃ cl : Cell, Arr Z h a cl ty ∧ cl.slots.toList = vs ∧ ¬ (j < 0 ∨ cl.slots.size ≤ j.toNatClampNeg) ∧ cl.slots[j.toNatClampNeg]? = vs[k]? := by
  obtain ⟨cl, A, e1, e2⟩ := A
  refine ⟨cl, A, e1, ?_, ?_⟩
  · rw [clamp_of hj]
    intro q
    rcases q with q | q
    · exact nonneg_of hj q
    · rw [← e1] at hk; simp at hk; omega
  · rw [clamp_of hj, ← e1]; simp
theorem Av.set {ty : FieldType} {vs : List Value} {a : Addr} {h' : Heap} {k : Nat} {v : Value} (A : Av Z h a ty vs) (W : Wr h h' a k v) : Av Z h' a ty (vs.set k v) := by
  obtain ⟨cl, A, e1, e2⟩ := A
  exact ⟨_, A.same W, by rw [← e1]; simp [Cell.setSlot], by simpa using e2⟩
/-- n ints, whichever -/
def Ints (vs : List Value) (n : Nat) : Prop := vs.length = n ∧ ∀ k, k < n → ∃ x : Int32, vs[k]? = some (.int x)
theorem Ints.rep (n : Nat) (x : Int32) : Ints (List.replicate n (.int x)) n := ⟨by simp, fun k hk => ⟨x, by simp [hk]⟩⟩
theorem Ints.set {vs : List Value} {n k : Nat} (x : Int32) (I : Ints vs n) : Ints (vs.set k (.int x)) n := ⟨by simpa using I.1, fun j hj => by
  by_cases q : k = j
  · subst q
    exact ⟨x, by rw [List.getElem?_set_self (by rw [I.1]; exact hj)]⟩
  · obtain ⟨y, hy⟩ := I.2 j hj
    exact ⟨y, by rw [List.getElem?_set_ne q]; exact hy⟩⟩
theorem go_arraylength (C : Cx p s m meth c Z own bs mx rt nm) {ty : FieldType} {vs : List Value} {a : Addr} (A : Av Z h a ty vs) (n : Int32) (hn : n.toInt = vs.length) (hd : decode bs pc = .ok (.arraylength, 1)) (hp : pc + 1 = pc') (hr : Go p l e R s m args below meth c n0 Q K N h ce sl (mkF m pc' Ls (.int n :: st))) : Go p l e R s m args below meth c n0 Q K N h ce sl (mkF m pc Ls (.ref a :: st)) := by
  subst hp
  obtain ⟨cl, A, e1, e2⟩ := A
  have q : cl.slots.size.toInt32 = n := by
    have hl : cl.slots.size = vs.length := by rw [← e1]; simp
    rw [hl]
    refine int_eq ?_
    rw [hn]
    exact Int32.toInt_ofNat_of_lt (by omega)
  exact Go.stepX (fun T locs X eT _ k => X.arraylength C.1 (cell := cl) (by rw [eT]; exact A.1) (State.isArrayOf_alike C.2.2.2.1.alike A.2.1) (g := mkF m pc Ls (.ref a :: st)) rfl rfl (hb C.2.1 hd) _ (by rw [q]; exact k)) hr
theorem go_iaload (C : Cx p s m meth c Z own bs mx rt nm) {vs : List Value} {a : Addr} {j : Int32} (A : Av Z h a .int vs) (k : Nat) (v : Value) (hj : j.toInt = k) (hv : vs[k]? = some v) (hd : decode bs pc = .ok (.iaload, 1)) (hp : pc + 1 = pc') (hr : Go p l e R s m args below meth c n0 Q K N h ce sl (mkF m pc' Ls (v :: st))) : Go p l e R s m args below meth c n0 Q K N h ce sl (mkF m pc Ls (.int j :: .ref a :: st)) := by
  subst hp
  obtain ⟨cl, A, e1, e2, e3⟩ := A.at hj (List.getElem?_eq_some_iff.mp hv).1
  exact Go.stepX (fun T locs X eT _ q => X.iaload C.1 (j := j) (v := v) (by rw [eT]; exact A.1) (State.isArrayOf_alike C.2.2.2.1.alike A.2.1) A.2.2 e2 (e3.trans hv) (g := mkF m pc Ls (.int j :: .ref a :: st)) rfl rfl (hb C.2.1 hd) _ q) hr
theorem go_laload (C : Cx p s m meth c Z own bs mx rt nm) {vs : List Value} {a : Addr} {j : Int32} (A : Av Z h a .long vs) (k : Nat) (v : Value) (hj : j.toInt = k) (hv : vs[k]? = some v) (hd : decode bs pc = .ok (.laload, 1)) (hp : pc + 1 = pc') (hr : Go p l e R s m args below meth c n0 Q K N h ce sl (mkF m pc' Ls (v :: st))) : Go p l e R s m args below meth c n0 Q K N h ce sl (mkF m pc Ls (.int j :: .ref a :: st)) := by
  subst hp
  obtain ⟨cl, A, e1, e2, e3⟩ := A.at hj (List.getElem?_eq_some_iff.mp hv).1
  exact Go.stepX (fun T locs X eT _ q => X.laload C.1 (j := j) (v := v) (by rw [eT]; exact A.1) (State.isArrayOf_alike C.2.2.2.1.alike A.2.1) A.2.2 e2 (e3.trans hv) (g := mkF m pc Ls (.int j :: .ref a :: st)) rfl rfl (hb C.2.1 hd) _ q) hr
theorem go_baload (C : Cx p s m meth c Z own bs mx rt nm) {vs : List Value} {a : Addr} {j : Int32} (A : Av Z h a .byte vs) (k : Nat) (v : Value) (hj : j.toInt = k) (hv : vs[k]? = some v) (hd : decode bs pc = .ok (.baload, 1)) (hp : pc + 1 = pc') (hr : Go p l e R s m args below meth c n0 Q K N h ce sl (mkF m pc' Ls (v :: st))) : Go p l e R s m args below meth c n0 Q K N h ce sl (mkF m pc Ls (.int j :: .ref a :: st)) := by
  subst hp
  obtain ⟨cl, A, e1, e2, e3⟩ := A.at hj (List.getElem?_eq_some_iff.mp hv).1
  exact Go.stepX (fun T locs X eT _ q => X.baloadBytes C.1 (j := j) (v := v) (by rw [eT]; exact A.1) (State.isArrayOf_alike C.2.2.2.1.alike A.2.1) A.2.2 e2 (e3.trans hv) (g := mkF m pc Ls (.int j :: .ref a :: st)) rfl rfl (hb C.2.1 hd) _ q) hr
theorem go_iastore (C : Cx p s m meth c Z own bs mx rt nm) {vs : List Value} {a : Addr} {j : Int32} {x : Int32} (A : Av Z h a .int vs) (k : Nat) (hj : j.toInt = k) (hk : k < vs.length) (ha : n0 ≤ a) (hd : decode bs pc = .ok (.iastore, 1)) (hp : pc + 1 = pc') (hr : ∀ h', Wr h h' a k (.int x) → Av Z h' a .int (vs.set k (.int x)) → Go p l e R s m args below meth c n0 Q K N h' ce sl (mkF m pc' Ls st)) : Go p l e R s m args below meth c n0 Q K N h ce sl (mkF m pc Ls (.int x :: .int j :: .ref a :: st)) := by
  subst hp
  obtain ⟨cl, A1, e1, e2, e3⟩ := A.at hj hk
  intro T locs X eT Nn
  obtain ⟨T', h', X', e', W', stp⟩ := stI X C.1 C.2.2.2.1 eT A1 e2 (g := mkF m pc Ls (.int x :: .int j :: .ref a :: st)) rfl rfl (hb C.2.1 hd)
  have W2 : Wr h h' a k (.int x) := by rw [clamp_of hj] at W'; exact W'
  obtain ⟨s₂, o, h1, r⟩ := hr h' W2 (A.set W2) T' _ X' e' (Fr.snoc X' Nn ha)
  exact ⟨s₂, o, stp _ h1, r⟩
theorem go_lastore (C : Cx p s m meth c Z own bs mx rt nm) {vs : List Value} {a : Addr} {j : Int32} {x : Int64} (A : Av Z h a .long vs) (k : Nat) (hj : j.toInt = k) (hk : k < vs.length) (ha : n0 ≤ a) (hd : decode bs pc = .ok (.lastore, 1)) (hp : pc + 1 = pc') (hr : ∀ h', Wr h h' a k (.long x) → Av Z h' a .long (vs.set k (.long x)) → Go p l e R s m args below meth c n0 Q K N h' ce sl (mkF m pc' Ls st)) : Go p l e R s m args below meth c n0 Q K N h ce sl (mkF m pc Ls (.long x :: .int j :: .ref a :: st)) := by
  subst hp
  obtain ⟨cl, A1, e1, e2, e3⟩ := A.at hj hk
  intro T locs X eT Nn
  obtain ⟨T', h', X', e', W', stp⟩ := stJ X C.1 C.2.2.2.1 eT A1 e2 (g := mkF m pc Ls (.long x :: .int j :: .ref a :: st)) rfl rfl (hb C.2.1 hd)
  have W2 : Wr h h' a k (.long x) := by rw [clamp_of hj] at W'; exact W'
  obtain ⟨s₂, o, h1, r⟩ := hr h' W2 (A.set W2) T' _ X' e' (Fr.snoc X' Nn ha)
  exact ⟨s₂, o, stp _ h1, r⟩
theorem go_bastore (C : Cx p s m meth c Z own bs mx rt nm) {vs : List Value} {a : Addr} {j : Int32} {x : Int32} (A : Av Z h a .byte vs) (k : Nat) (hj : j.toInt = k) (hk : k < vs.length) (x' : Int32) (hx : x.toInt8.toInt32 = x') (ha : n0 ≤ a) (hd : decode bs pc = .ok (.bastore, 1)) (hp : pc + 1 = pc') (hr : ∀ h', Wr h h' a k (.int x') → Av Z h' a .byte (vs.set k (.int x')) → Go p l e R s m args below meth c n0 Q K N h' ce sl (mkF m pc' Ls st)) : Go p l e R s m args below meth c n0 Q K N h ce sl (mkF m pc Ls (.int x :: .int j :: .ref a :: st)) := by
  subst hp hx
  obtain ⟨cl, A1, e1, e2, e3⟩ := A.at hj hk
  intro T locs X eT Nn
  obtain ⟨T', h', X', e', W', stp⟩ := stB X C.1 C.2.2.2.1 eT A1 e2 (g := mkF m pc Ls (.int x :: .int j :: .ref a :: st)) rfl rfl (hb C.2.1 hd)
  have W2 : Wr h h' a k (.int x.toInt8.toInt32) := by rw [clamp_of hj] at W'; exact W'
  obtain ⟨s₂, o, h1, r⟩ := hr h' W2 (A.set W2) T' _ X' e' (Fr.snoc X' Nn ha)
  exact ⟨s₂, o, stp _ h1, r⟩
theorem go_newarray (C : Cx p s m meth c Z own bs mx rt nm) {aty : ArrayType} {ty : FieldType} {n : Int32} {ce' sl' : Nat} (w : (Jvm.Cond.arrayClass ty).before a0 Z = true) (hty : newarray.typeOf aty = ty) (k cap : Nat) (hn : n.toInt = k) (hcap : k ≤ cap) (hc8 : cap * 8 ≤ 536870912) (hce : ce + 1 = ce') (hsl : sl + cap = sl') (hc : ce' ≤ R.cells) (hl : sl' ≤ R.slots) (hd : decode bs pc = .ok (.newarray aty, 2)) (hp : pc + 2 = pc')
    (hr : ∀ (h' : Heap) (a : Addr), h.size = a → Ext h h' → Av Z h' a ty (List.replicate k (defaultValue ty)) → Go p l e R s m args below meth c n0 Q K N h' ce' sl' (mkF m pc' Ls (.ref a :: st))) : Go p l e R s m args below meth c n0 Q K N h ce sl (mkF m pc Ls (.int n :: st)) := by
  subst hp hty hce hsl
  intro T locs X eT Nn
  obtain ⟨T', h', cA, X', e', E', A', stp⟩ := newP X C.1 C.2.2.2.1 w eT (g := mkF m pc Ls (.int n :: st)) rfl (hb C.2.1 hd) rfl (nonneg_of hn) (cap := cap) (by rw [clamp_of hn]; exact hcap) hc8 hc hl
  have hb31 : k < 2147483648 := by have := n.toInt_lt; omega
  obtain ⟨s₂, o, h1, r⟩ := hr h' _ rfl E' ⟨_, A', by simp [newA, clamp_of hn], by simpa using hb31⟩ T' _ X' e' Nn
  exact ⟨s₂, o, stp _ h1, r⟩
theorem go_newarrayE (C : Cx p s m meth c Z own bs mx rt nm) {aty : ArrayType} {ty : FieldType} {n : Int32} {ce' sl' : Nat} {ad : String} (w : (Jvm.Cond.arrayClass ty).before a0 Z = true) (hty : newarray.typeOf aty = ty) (had : "[" ++ ty.toString = ad) (k cap : Nat) (hn : n.toInt = k) (hcap : k ≤ cap) (hc8 : cap * 8 ≤ 536870912) (hce : ce + 1 = ce') (hsl : sl + cap = sl') (hc : ce' ≤ R.cells) (hl : sl' ≤ R.slots) (hd : decode bs pc = .ok (.newarray aty, 2)) (hp : pc + 2 = pc')
    (hr : ∀ (h' : Heap) (a : Addr), h.size = a → Ext h h' → Exa Z h' a ad → Av Z h' a ty (List.replicate k (defaultValue ty)) → Go p l e R s m args below meth c n0 Q K N h' ce' sl' (mkF m pc' Ls (.ref a :: st))) : Go p l e R s m args below meth c n0 Q K N h ce sl (mkF m pc Ls (.int n :: st)) := by
  subst hp hty hce hsl
  intro T locs X eT Nn
  obtain ⟨T', h', cA, X', e', E', A', Q', stp⟩ := newPE X C.1 C.2.2.2.1 w eT (g := mkF m pc Ls (.int n :: st)) rfl (hb C.2.1 hd) rfl (nonneg_of hn) (cap := cap) (by rw [clamp_of hn]; exact hcap) hc8 hc hl had
  have hb31 : k < 2147483648 := by have := n.toInt_lt; omega
  obtain ⟨s₂, o, h1, r⟩ := hr h' _ rfl E' Q' ⟨_, A', by simp [newA, clamp_of hn], by simpa using hb31⟩ T' _ X' e' Nn
  exact ⟨s₂, o, stp _ h1, r⟩
theorem go_clone (C : Cx p s m meth c Z own bs mx rt nm) {i : Nat} {ad : String} {ty : FieldType} {vs : List Value} {a : Addr} {W cap ce' sl' : Nat} (w1 : (Jvm.Cond.methodLink own i ⟨ad, "clone", "()Ljava/lang/Object;"⟩).before a0 Z = true) (w2 : (Jvm.Cond.sameMethod ad "java/lang/Object" "clone" "()Ljava/lang/Object;").before a0 Z = true) (w3 : (Jvm.Cond.native ⟨"java/lang/Object", "clone", "()Ljava/lang/Object;"⟩).before a0 Z = true) (w4 : (Jvm.Cond.instanceMethod ⟨"java/lang/Object", "clone", "()Ljava/lang/Object;"⟩).before a0 Z = true) (w5 : (Jvm.Cond.selects ad ⟨ad, "clone", "()Ljava/lang/Object;"⟩ ⟨"java/lang/Object", "clone", "()Ljava/lang/Object;"⟩).before a0 Z = true) (w6 : (Jvm.Cond.castable ad "java/lang/Cloneable").before a0 Z = true) (A : Av Z h a ty vs) (E : Exa Z h a ad) (hfit : ∀ v ∈ vs, fits ty v = true) (hls : Ls.size = mx) (hf : 1 ≤ R.frames) (hW : wt st = W) (hlo : W + 14 ≤ R.locals) (hcap : vs.length ≤ cap) (hce : ce + 1 = ce') (hsl : sl + cap = sl') (hc : ce' ≤ R.cells) (hl : sl' ≤ R.slots) (hd : decode bs pc = .ok (.invokevirtual i, 3)) (hp : pc + 3 = pc')
    (hr : ∀ (h' : Heap) (b : Addr), h.size = b → Ext h h' → Exa Z h' b ad → Av Z h' b ty vs → Go p l e R s m args below meth c n0 Q K N h' ce' sl' (mkF m pc' Ls (.ref b :: st))) : Go p l e R s m args below meth c n0 Q K N h ce sl (mkF m pc Ls (.ref a :: st)) := by
  subst hp hce hsl
  intro T locs X eT Nn
  obtain ⟨cl, A1, e1, e2⟩ := A
  have hsz : cl.slots.size = vs.length := by rw [← e1]; simp
  have FC : FitC Z cl := fitC_of A1 fun i hi v hv => hfit v (by rw [← e1]; exact Array.mem_toList_iff.mpr (Array.mem_of_getElem? hv))
  obtain ⟨T', h', X', e', E', A', Q', stp⟩ := cloneA X C.1 C.2.2.2.1 C.2.2.2.2.1 w1 w2 w3 w4 w5 w6 eT A1 E FC (g := mkF m pc Ls (.ref a :: st)) rfl (hls.trans C.2.2.1.symm) rfl (hb C.2.1 hd) hf (W := W) (cap := cap) (by show 2 * 0 + wt st ≤ W; omega) hlo (by rw [hsz]; exact hcap) hc hl
  obtain ⟨s₂, o, h1, r⟩ := hr h' _ rfl E' Q' ⟨_, A', e1, e2⟩ T' _ X' e' Nn
  exact ⟨s₂, o, stp _ h1, r⟩
theorem go_checkcast (C : Cx p s m meth c Z own bs mx rt nm) {i : Nat} {K0 : String} {a : Addr} (w : (Jvm.Cond.classLink own i K0).before a0 Z = true) (E : Exa Z h a K0) (hd : decode bs pc = .ok (.checkcast i, 3)) (hp : pc + 3 = pc') (hr : Go p l e R s m args below meth c n0 Q K N h ce sl (mkF m pc' Ls (.ref a :: st))) : Go p l e R s m args below meth c n0 Q K N h ce sl (mkF m pc Ls (.ref a :: st)) := by
  subst hp
  intro T locs X eT Nn
  obtain ⟨T', X', e', stp⟩ := castY X C.1 C.2.2.2.1 C.2.2.2.2.1 w eT (Ins.self E) (g := mkF m pc Ls (.ref a :: st)) rfl rfl (hb C.2.1 hd)
  obtain ⟨s₂, o, h1, r⟩ := hr T' locs X' e' Nn
  exact ⟨s₂, o, stp _ h1, r⟩
theorem go_objinit (C : Cx p s m meth c Z own bs mx rt nm) {i : Nat} {a : Addr} {W : Nat} (w1 : (Jvm.Cond.methodLink own i Lib.objectInit).before a0 Z = true) (w2 : (Jvm.Cond.instanceMethod Lib.objectInit).before a0 Z = true) (w3 : (Jvm.Cond.code Lib.objectInit ⟨#[0xb1]⟩ 1 none).before a0 Z = true) (hls : Ls.size = mx) (hf : 1 ≤ R.frames) (hW : wt st = W) (hl : W + 12 ≤ R.locals) (hd : decode bs pc = .ok (.invokespecial i, 3)) (hp : pc + 3 = pc') (hr : Go p l e R s m args below meth c n0 Q K N h ce sl (mkF m pc' Ls st)) : Go p l e R s m args below meth c n0 Q K N h ce sl (mkF m pc Ls (.ref a :: st)) := by
  subst hp
  intro T locs X eT Nn
  obtain ⟨T', X', e', stp⟩ := initO X C.1 C.2.2.2.1 C.2.2.2.2.1 w1 w2 w3 eT (g := mkF m pc Ls (.ref a :: st)) rfl (hls.trans C.2.2.1.symm) rfl (hb C.2.1 hd) hf (W := W) (by show 2 * 0 + wt st ≤ W; omega) hl
  obtain ⟨s₂, o, h1, r⟩ := hr T' locs X' e' Nn
  exact ⟨s₂, o, stp _ h1, r⟩
theorem back_of_sat {y : MethodName} {cb : ByteArray} {cm : Nat} {cr : Option FieldType} {rm : Room} {as : List Value} {Qc : Option Value → Heap → Prop} {W len : Nat} (S : Sat l Z y cb cm cr rm as h n0 Qc) (hZ : Z.Warmed39 s.vm) (w3 : (Jvm.Cond.initialized y.cls).before a0 Z = true) (w4 : (Jvm.Cond.code y cb cm cr).before a0 Z = true) (hfr : rm.frames + 1 ≤ R.frames) (hlo : W + (cm + 11) + rm.locals ≤ R.locals) :
    Back l R p e below s args y len W (fun A a => a = as.toArray ∧ A.U.heap = h ∧ A.cells + rm.cells ≤ R.cells ∧ A.slots + rm.slots ≤ R.slots) (fun A _ v B => ∃ L, (Qc v B.U.heap ∧ Fr n0 L) ∧ B.locs = A.locs ++ L ∧ B.cells = A.cells + rm.cells ∧ B.slots = A.slots + rm.slots) :=
  backOf (Q := fun v h L => Qc v h ∧ Fr n0 L) (W := W) (S []) hZ w4 w3 hfr hlo
theorem go_static (C : Cx p s m meth c Z own bs mx rt nm) {y : MethodName} {i : Nat} {cb : ByteArray} {cm : Nat} {cr : Option FieldType} {rm : Room} {as rest : List Value} {W : Nat} {ps : List FieldType} {pr : Option FieldType} {ce' sl' : Nat} {Qc : Option Value → Heap → Prop} (S : Sat l Z y cb cm cr rm as h n0 Qc) (w1 : (Jvm.Cond.methodLink own i y).before a0 Z = true) (w2 : (Jvm.Cond.static y).before a0 Z = true) (w3 : (Jvm.Cond.initialized y.cls).before a0 Z = true) (w4 : (Jvm.Cond.code y cb cm cr).before a0 Z = true) (hy : y.cls ≠ "java/lang/invoke/MethodHandle" ∧ y.cls ≠ "java/lang/invoke/VarHandle") (hpd : parseMethodDescriptor y.desc = some ⟨ps, pr⟩) (hlen : as.length = ps.length) (hls : Ls.size = mx) (hW : wt rest = W) (hfr : rm.frames + 1 ≤ R.frames) (hlo : W + (cm + 11) + rm.locals ≤ R.locals) (hce : ce + rm.cells = ce') (hsl : sl + rm.slots = sl') (hcc : ce' ≤ R.cells) (hss : sl' ≤ R.slots) (hd : decode bs pc = .ok (.invokestatic i, 3)) (hp : pc + 3 = pc') (hst : st = as.reverse ++ rest) (hr : ∀ v h', Qc v h' → Go p l e R s m args below meth c n0 Q K N h' ce' sl' (mkF m pc' Ls (v.toList ++ rest))) : Go p l e R s m args below meth c n0 Q K N h ce sl (mkF m pc Ls st) := by
  subst hp hce hsl
  intro T locs X eT Nn
  have hZ := C.2.2.2.1
  obtain ⟨v, _, ⟨T', L', k', n'⟩, -, X', ⟨Lc, hQ, l', y', z'⟩, stp⟩ := Jvm.LawKit.callS X C.1 (y := y) C.2.2.2.2.1 (mvT hZ w1) (mvT hZ w2) (mvT hZ w3) (mvT hZ w4) hy (back_of_sat S hZ w3 w4 hfr hlo) (g := mkF m pc Ls st) rfl (hls.trans C.2.2.1.symm) (argsL := as) (rest := rest) (lenOf hpd hlen) hst (by show 2 * 0 + wt rest ≤ W; omega) (hb C.2.1 hd) (fun _ _ => ⟨rfl, eT, hcc, hss⟩)
  dsimp only [Pt.U, Pt.locs, Pt.cells, Pt.slots] at X' l' y' z' stp hQ
  subst l' y' z'
  obtain ⟨s₂, o, h1, r⟩ := hr v T'.heap hQ.1 T' _ X' rfl (Fr.app Nn hQ.2)
  exact ⟨s₂, o, stp _ h1, r⟩
theorem go_special (C : Cx p s m meth c Z own bs mx rt nm) {y : MethodName} {i : Nat} {cb : ByteArray} {cm : Nat} {rm : Room} {as rest : List Value} {W : Nat} {ps : List FieldType} {pr : Option FieldType} {ce' sl' : Nat} {a : Addr} {Qc : Option Value → Heap → Prop} (S : Sat l Z y cb cm none rm (.ref a :: as) h n0 Qc) (hyn : y.name = "<init>") (w1 : (Jvm.Cond.methodLink own i y).before a0 Z = true) (w2 : (Jvm.Cond.instanceMethod y).before a0 Z = true) (w3 : (Jvm.Cond.initialized y.cls).before a0 Z = true) (w4 : (Jvm.Cond.code y cb cm none).before a0 Z = true) (hy : y.cls ≠ "java/lang/invoke/MethodHandle" ∧ y.cls ≠ "java/lang/invoke/VarHandle") (hpd : parseMethodDescriptor y.desc = some ⟨ps, pr⟩) (hlen : as.length = ps.length) (hls : Ls.size = mx) (hW : wt rest = W) (hfr : rm.frames + 1 ≤ R.frames) (hlo : W + (cm + 11) + rm.locals ≤ R.locals) (hce : ce + rm.cells = ce') (hsl : sl + rm.slots = sl') (hcc : ce' ≤ R.cells) (hss : sl' ≤ R.slots) (hd : decode bs pc = .ok (.invokespecial i, 3)) (hp : pc + 3 = pc') (hst : st = as.reverse ++ .ref a :: rest) (hr : ∀ v h', Qc v h' → Go p l e R s m args below meth c n0 Q K N h' ce' sl' (mkF m pc' Ls (v.toList ++ rest))) : Go p l e R s m args below meth c n0 Q K N h ce sl (mkF m pc Ls st) := by
  subst hp hce hsl
  intro T locs X eT Nn
  have hZ := C.2.2.2.1
  obtain ⟨v, _, ⟨T', L', k', n'⟩, -, X', ⟨Lc, hQ, l', y', z'⟩, stp⟩ := X.specialBack C.1 (y := y) hyn C.2.2.2.2.1 (mvT hZ w1) (mvT hZ w2) (mvT hZ w4) hy (back_of_sat S hZ w3 w4 hfr hlo) (g := mkF m pc Ls st) rfl (hls.trans C.2.2.1.symm) (Steps.refl _) (a := a) (argsL := as) (rest := rest) (lenOf hpd hlen) hst (by show 2 * 0 + wt rest ≤ W; omega) (hb C.2.1 hd) (fun _ _ => ⟨rfl, eT, hcc, hss⟩)
  dsimp only [Pt.U, Pt.locs, Pt.cells, Pt.slots] at X' l' y' z' stp hQ
  subst l' y' z'
  obtain ⟨s₂, o, h1, r⟩ := hr v T'.heap hQ.1 T' _ X' rfl (Fr.app Nn hQ.2)
  exact ⟨s₂, o, stp.trans h1, r⟩
theorem go_virtual (C : Cx p s m meth c Z own bs mx rt nm) {y : MethodName} {i : Nat} {cb : ByteArray} {cm : Nat} {cr : Option FieldType} {rm : Room} {as rest : List Value} {W : Nat} {ps : List FieldType} {pr : Option FieldType} {ce' sl' : Nat} {a : Addr} {C0 : String} {Qc : Option Value → Heap → Prop} (S : Sat l Z y cb cm cr rm (.ref a :: as) h n0 Qc) (E : Exa Z h a C0) (w1 : (Jvm.Cond.methodLink own i y).before a0 Z = true) (w5 : (Jvm.Cond.declares y).before a0 Z = true) (w6 : (Jvm.Cond.selects C0 y y).before a0 Z = true) (w2 : (Jvm.Cond.instanceMethod y).before a0 Z = true) (w3 : (Jvm.Cond.initialized y.cls).before a0 Z = true) (w4 : (Jvm.Cond.code y cb cm cr).before a0 Z = true) (hy : y.cls ≠ "java/lang/invoke/MethodHandle" ∧ y.cls ≠ "java/lang/invoke/VarHandle") (hpd : parseMethodDescriptor y.desc = some ⟨ps, pr⟩) (hlen : as.length = ps.length) (hls : Ls.size = mx) (hW : wt rest = W) (hfr : rm.frames + 1 ≤ R.frames) (hlo : W + (cm + 11) + rm.locals ≤ R.locals) (hce : ce + rm.cells = ce') (hsl : sl + rm.slots = sl') (hcc : ce' ≤ R.cells) (hss : sl' ≤ R.slots) (hd : decode bs pc = .ok (.invokevirtual i, 3)) (hp : pc + 3 = pc') (hst : st = as.reverse ++ .ref a :: rest) (hr : ∀ v h', Qc v h' → Go p l e R s m args below meth c n0 Q K N h' ce' sl' (mkF m pc' Ls (v.toList ++ rest))) : Go p l e R s m args below meth c n0 Q K N h ce sl (mkF m pc Ls st) := by
  subst hp hce hsl
  intro T locs X eT Nn
  have hZ := C.2.2.2.1
  obtain ⟨cq, kq, qa, qb, qc⟩ := isOf hZ eT E
  obtain ⟨v, _, ⟨T', L', k', n'⟩, -, X', ⟨Lc, hQ, l', y', z'⟩, stp⟩ := X.virtualBack C.1 (y := y) (z := y) C.2.2.2.2.1 (mvT hZ w1) (mvT hZ w5) (notFace_of_selects (args := #[]) (mvT hZ w6)) (mvT hZ w6) (mvT hZ w2) hy (back_of_sat S hZ w3 w4 hfr hlo) qa qc (g := mkF m pc Ls st) rfl (hls.trans C.2.2.1.symm) (Steps.refl _) (argsL := as) (rest := rest) (lenOf hpd hlen) hst (by show 2 * 0 + wt rest ≤ W; omega) (hb C.2.1 hd) (fun _ _ => ⟨rfl, eT, hcc, hss⟩)
  dsimp only [Pt.U, Pt.locs, Pt.cells, Pt.slots] at X' l' y' z' stp hQ
  subst l' y' z'
  obtain ⟨s₂, o, h1, r⟩ := hr v T'.heap hQ.1 T' _ X' rfl (Fr.app Nn hQ.2)
  exact ⟨s₂, o, stp.trans h1, r⟩
theorem go_private (C : Cx p s m meth c Z own bs mx rt nm) {y : MethodName} {i : Nat} {cb : ByteArray} {cm : Nat} {cr : Option FieldType} {rm : Room} {as rest : List Value} {W : Nat} {ps : List FieldType} {pr : Option FieldType} {ce' sl' : Nat} {a : Addr} {C0 : String} {Qc : Option Value → Heap → Prop} (S : Sat l Z y cb cm cr rm (.ref a :: as) h n0 Qc) (E : Exa Z h a C0) (w1 : (Jvm.Cond.methodLink own i y).before a0 Z = true) (w5 : (Jvm.Cond.privateMethod y).before a0 Z = true) (w6 : (Jvm.Cond.selects y.cls y y).before a0 Z = true) (w2 : (Jvm.Cond.instanceMethod y).before a0 Z = true) (w3 : (Jvm.Cond.initialized y.cls).before a0 Z = true) (w4 : (Jvm.Cond.code y cb cm cr).before a0 Z = true) (hy : y.cls ≠ "java/lang/invoke/MethodHandle" ∧ y.cls ≠ "java/lang/invoke/VarHandle") (hpd : parseMethodDescriptor y.desc = some ⟨ps, pr⟩) (hlen : as.length = ps.length) (hls : Ls.size = mx) (hW : wt rest = W) (hfr : rm.frames + 1 ≤ R.frames) (hlo : W + (cm + 11) + rm.locals ≤ R.locals) (hce : ce + rm.cells = ce') (hsl : sl + rm.slots = sl') (hcc : ce' ≤ R.cells) (hss : sl' ≤ R.slots) (hd : decode bs pc = .ok (.invokevirtual i, 3)) (hp : pc + 3 = pc') (hst : st = as.reverse ++ .ref a :: rest) (hr : ∀ v h', Qc v h' → Go p l e R s m args below meth c n0 Q K N h' ce' sl' (mkF m pc' Ls (v.toList ++ rest))) : Go p l e R s m args below meth c n0 Q K N h ce sl (mkF m pc Ls st) := by
  subst hp hce hsl
  intro T locs X eT Nn
  have hZ := C.2.2.2.1
  obtain ⟨cell, hc1, hc2⟩ := E.cell
  obtain ⟨v, _, ⟨T', L', k', n'⟩, -, X', ⟨Lc, hQ, l', y', z'⟩, stp⟩ := X.privateBack C.1 (y := y) C.2.2.2.2.1 (mvT hZ w1) (mvT hZ w2) (mvT hZ w6) (Cond.privateMethod_at (args := #[]) (mvP hZ w5)) (mvT hZ w4) hy (back_of_sat S hZ w3 w4 hfr hlo) (g := mkF m pc Ls st) rfl (hls.trans C.2.2.1.symm) (Steps.refl _) (a := a) (by rw [eT]; exact hc1) hc2 (argsL := as) (rest := rest) (lenOf hpd hlen) hst (by show 2 * 0 + wt rest ≤ W; omega) (hb C.2.1 hd) (fun _ _ => ⟨rfl, eT, hcc, hss⟩)
  dsimp only [Pt.U, Pt.locs, Pt.cells, Pt.slots] at X' l' y' z' stp hQ
  subst l' y' z'
  obtain ⟨s₂, o, h1, r⟩ := hr v T'.heap hQ.1 T' _ X' rfl (Fr.app Nn hQ.2)
  exact ⟨s₂, o, stp.trans h1, r⟩
theorem own_selects_private {y : MethodName} {k : Nat} (wi : (Jvm.Cond.instantiable y.cls k).before a0 Z = true) (wp : (Jvm.Cond.privateMethod y).before a0 Z = true) (wm : (Jvm.Cond.instanceMethod y).before a0 Z = true) (hy : y.cls ≠ "java/lang/invoke/MethodHandle" ∧ y.cls ≠ "java/lang/invoke/VarHandle") : (Jvm.Cond.selects y.cls y y).before a0 Z = true := by
  obtain ⟨mk, methM, hnamed, hmethM, hstM, habM⟩ := Cond.instanceMethod_spec wm
  obtain ⟨c1, k1, q1, q2, q3, q4, -⟩ := Cond.instantiable_spec wi
  have hc := findClass_of_methodNamed hnamed
  cases q1.symm.trans hc
  have hf := State.methodFound?_of_named hnamed hy
  have hs : selectMethod {} Z.vm mk.cls mk = .method mk := selectMethod_private hmethM (Cond.privateMethod_at wp mk methM hnamed hmethM)
  have hi : k1.isInterface = false := by
    cases h : k1.isInterface
    · rfl
    · rw [h] at q4; simp at q4
  simp [Cond.before, Cond.holds, Cond.value, hc, hf, hnamed, hs, q2, hi]
theorem go_specialW (C : Cx p s m meth c Z own bs mx rt nm) {y : MethodName} {i : Nat} {cb : ByteArray} {cm : Nat} {rm : Room} {as rest : List Value} {W : Nat} {ps : List FieldType} {pr : Option FieldType} {ce' sl' : Nat} {a : Addr} {Qc : Option Value → Heap → Prop} (S : Sat l Z y cb cm none rm (.ref a :: as) h n0 Qc) (hyn : y.name = "<init>") (w1 : (Jvm.Cond.methodRef own i y).before a0 Z = true) (w2 : (Jvm.Cond.instanceMethod y).before a0 Z = true) (w3 : (Jvm.Cond.initialized y.cls).before a0 Z = true) (w4 : (Jvm.Cond.code y cb cm none).before a0 Z = true) (hy : y.cls ≠ "java/lang/invoke/MethodHandle" ∧ y.cls ≠ "java/lang/invoke/VarHandle") (hpd : parseMethodDescriptor y.desc = some ⟨ps, pr⟩) (hlen : as.length = ps.length) (hls : Ls.size = mx) (hW : wt rest = W) (hfr : rm.frames + 1 ≤ R.frames) (hlo : W + (cm + 11) + rm.locals ≤ R.locals) (hce : ce + rm.cells = ce') (hsl : sl + rm.slots = sl') (hcc : ce' ≤ R.cells) (hss : sl' ≤ R.slots) (hd : decode bs pc = .ok (.invokespecial i, 3)) (hp : pc + 3 = pc') (hst : st = as.reverse ++ .ref a :: rest) (hr : ∀ v h', Qc v h' → Go p l e R s m args below meth c n0 Q K N h' ce' sl' (mkF m pc' Ls (v.toList ++ rest))) : Go p l e R s m args below meth c n0 Q K N h ce sl (mkF m pc Ls st) := by
  subst hp hce hsl
  intro T locs X eT Nn
  have hZ := C.2.2.2.1
  have hT : Z.Warmed39 T.vm := wtrans hZ X.warmed
  obtain ⟨mZ, _, hnZ, -⟩ := Cond.instanceMethod_spec w2
  have w1T : (Jvm.Cond.methodRef own i y).before a0 T = true := (Cond.methodRef_warmed39 hT hnZ hy w1 :)
  obtain ⟨mO, methO, hnO, hmO, hstO, habO⟩ := Cond.instanceMethod_spec (mv (args := a0) hT w2)
  obtain ⟨methO', cO, hmO', hcO, hbO, hlO, -, hlockO, -, hsigO⟩ := Cond.code_spec hnO (mv (args := a0) hT w4)
  cases hmO.symm.trans hmO'
  obtain ⟨kO, hkO, hnameO⟩ := className_of_methodNamed hnO
  obtain ⟨hnameMO, hdescO⟩ := name_of_methodNamed hnO hmO
  have hownT : T.vm.findClass own = some m.cls := by rw [X.warmed.alike.findClass]; exact C.2.2.2.2.1
  obtain ⟨m', c', hf', hready, hfc, hnr⟩ := Cond.methodRef_named e hownT w1T
  have e1 : m' = mO := Option.some.inj (hf'.symm.trans (State.methodFound?_of_named hnO hy))
  subst e1
  have e2 : c' = m'.cls := Option.some.inj (hfc.symm.trans (findClass_of_methodNamed hnO))
  subst e2
  have hfound : lookupSpecial T.vm m'.cls "<init>" methO.desc = .method m' := by rw [hdescO, ← hyn]; exact lookupSpecial_of_named hnO hmO hstO
  have hstep : ∀ target, (∀ acts, Steps p.tables e below (doInvoke e (T.setTop { mkF m pc Ls st with stack := rest }) acts m' (.ref a :: as).toArray).1 target) → Steps p.tables e below (T.setTop (mkF m pc Ls st)) target := fun target hrest => by
    jvm_step X.here [C.1, (hb C.2.1 hd), invokespecial.wp_init (e := e) (s := T) (k := kO) (meth := methO) (m := m') (a := a) (args := as) (rest := rest) (f := mkF m pc Ls st) X.here.top hnr hready hkO hmO (by rw [hnameMO]; exact hyn) hstO habO hfound (lenOf hpd hlen _ hsigO) hst]
    exact hrest
  have B := back_of_sat (p := p) (e := e) (below := below) (args := args) (R := R) (len := 3) S hZ w3 w4 hfr hlo
  obtain ⟨v, ⟨T', L', k', n'⟩, X', ⟨Lc, hQ, l', y', z'⟩, stp⟩ := B m meth c ⟨T, locs, ce, sl⟩ { mkF m pc Ls st with stack := rest } (.invokespecial i) m' (.ref a :: as).toArray X rfl (hls.trans C.2.2.1.symm) (hb C.2.1 hd) (by show 2 * 0 + wt rest ≤ W; omega) hnO ⟨rfl, eT, hcc, hss⟩
  dsimp only [Pt.U, Pt.locs, Pt.cells, Pt.slots] at X' l' y' z' stp hQ
  subst l' y' z'
  obtain ⟨s₂, o, h1, r⟩ := hr v T'.heap hQ.1 T' _ X' rfl (Fr.app Nn hQ.2)
  exact ⟨s₂, o, (hstep _ (fun acts => by rw [doInvoke_state]; exact Steps.refl _)).trans (stp.trans h1), r⟩
theorem go_staticP (C : Cx p s m meth c Z own bs mx rt nm) {y : MethodName} {i : Nat} {cb : ByteArray} {cm : Nat} {cr : Option FieldType} {rm : Room} {as rest : List Value} {W : Nat} {ps : List FieldType} {pr : Option FieldType}  (v : Value) (S : Sat l Z y cb cm cr rm as h n0 (RV fun r h' => r = v ∧ h' = h)) (w1 : (Jvm.Cond.methodLink own i y).before a0 Z = true) (w2 : (Jvm.Cond.static y).before a0 Z = true) (w3 : (Jvm.Cond.initialized y.cls).before a0 Z = true) (w4 : (Jvm.Cond.code y cb cm cr).before a0 Z = true) (hy : y.cls ≠ "java/lang/invoke/MethodHandle" ∧ y.cls ≠ "java/lang/invoke/VarHandle") (hpd : parseMethodDescriptor y.desc = some ⟨ps, pr⟩) (hlen : as.length = ps.length) (hls : Ls.size = mx) (hW : wt rest = W) (hfr : rm.frames + 1 ≤ R.frames) (hlo : W + (cm + 11) + rm.locals ≤ R.locals) (hce : rm.cells = 0) (hsl : rm.slots = 0) (hcc : ce ≤ R.cells) (hss : sl ≤ R.slots) (hd : decode bs pc = .ok (.invokestatic i, 3)) (hp : pc + 3 = pc') (hst : st = as.reverse ++ rest) (hr : Go p l e R s m args below meth c n0 Q K N h ce sl (mkF m pc' Ls (v :: rest))) : Go p l e R s m args below meth c n0 Q K N h ce sl (mkF m pc Ls st) :=
  go_static C S w1 w2 w3 w4 hy hpd hlen hls hW hfr hlo (by rw [hce]; rfl) (by rw [hsl]; rfl) hcc hss hd hp hst (fun w h' hq => by obtain ⟨r, rfl, q1, q2⟩ := hq; rw [q1, q2]; exact hr)
theorem go_staticV (C : Cx p s m meth c Z own bs mx rt nm) {y : MethodName} {i : Nat} {cb : ByteArray} {cm : Nat} {cr : Option FieldType} {rm : Room} {as rest : List Value} {W : Nat} {ps : List FieldType} {pr : Option FieldType} {ce' sl' : Nat}  {P : Value → Heap → Prop} (S : Sat l Z y cb cm cr rm as h n0 (RV P)) (w1 : (Jvm.Cond.methodLink own i y).before a0 Z = true) (w2 : (Jvm.Cond.static y).before a0 Z = true) (w3 : (Jvm.Cond.initialized y.cls).before a0 Z = true) (w4 : (Jvm.Cond.code y cb cm cr).before a0 Z = true) (hy : y.cls ≠ "java/lang/invoke/MethodHandle" ∧ y.cls ≠ "java/lang/invoke/VarHandle") (hpd : parseMethodDescriptor y.desc = some ⟨ps, pr⟩) (hlen : as.length = ps.length) (hls : Ls.size = mx) (hW : wt rest = W) (hfr : rm.frames + 1 ≤ R.frames) (hlo : W + (cm + 11) + rm.locals ≤ R.locals) (hce : ce + rm.cells = ce') (hsl : sl + rm.slots = sl') (hcc : ce' ≤ R.cells) (hss : sl' ≤ R.slots) (hd : decode bs pc = .ok (.invokestatic i, 3)) (hp : pc + 3 = pc') (hst : st = as.reverse ++ rest) (hr : ∀ r h', P r h' → Go p l e R s m args below meth c n0 Q K N h' ce' sl' (mkF m pc' Ls (r :: rest))) : Go p l e R s m args below meth c n0 Q K N h ce sl (mkF m pc Ls st) :=
  go_static C S w1 w2 w3 w4 hy hpd hlen hls hW hfr hlo hce hsl hcc hss hd hp hst (fun v h' hq => by obtain ⟨r, rfl, q⟩ := hq; exact hr r h' q)
theorem go_staticN (C : Cx p s m meth c Z own bs mx rt nm) {y : MethodName} {i : Nat} {cb : ByteArray} {cm : Nat} {cr : Option FieldType} {rm : Room} {as rest : List Value} {W : Nat} {ps : List FieldType} {pr : Option FieldType} {ce' sl' : Nat}  {P : Heap → Prop} (S : Sat l Z y cb cm cr rm as h n0 (RN P)) (w1 : (Jvm.Cond.methodLink own i y).before a0 Z = true) (w2 : (Jvm.Cond.static y).before a0 Z = true) (w3 : (Jvm.Cond.initialized y.cls).before a0 Z = true) (w4 : (Jvm.Cond.code y cb cm cr).before a0 Z = true) (hy : y.cls ≠ "java/lang/invoke/MethodHandle" ∧ y.cls ≠ "java/lang/invoke/VarHandle") (hpd : parseMethodDescriptor y.desc = some ⟨ps, pr⟩) (hlen : as.length = ps.length) (hls : Ls.size = mx) (hW : wt rest = W) (hfr : rm.frames + 1 ≤ R.frames) (hlo : W + (cm + 11) + rm.locals ≤ R.locals) (hce : ce + rm.cells = ce') (hsl : sl + rm.slots = sl') (hcc : ce' ≤ R.cells) (hss : sl' ≤ R.slots) (hd : decode bs pc = .ok (.invokestatic i, 3)) (hp : pc + 3 = pc') (hst : st = as.reverse ++ rest) (hr : ∀ h', P h' → Go p l e R s m args below meth c n0 Q K N h' ce' sl' (mkF m pc' Ls rest)) : Go p l e R s m args below meth c n0 Q K N h ce sl (mkF m pc Ls st) :=
  go_static C S w1 w2 w3 w4 hy hpd hlen hls hW hfr hlo hce hsl hcc hss hd hp hst (fun v h' hq => by obtain ⟨rfl, q⟩ := hq; exact hr h' q)
theorem go_virtualP (C : Cx p s m meth c Z own bs mx rt nm) {y : MethodName} {i : Nat} {cb : ByteArray} {cm : Nat} {cr : Option FieldType} {rm : Room} {as rest : List Value} {W : Nat} {ps : List FieldType} {pr : Option FieldType} {a : Addr} {C0 : String} (v : Value) (S : Sat l Z y cb cm cr rm (.ref a :: as) h n0 (RV fun r h' => r = v ∧ h' = h)) (E : Exa Z h a C0) (w1 : (Jvm.Cond.methodLink own i y).before a0 Z = true) (w5 : (Jvm.Cond.declares y).before a0 Z = true) (w6 : (Jvm.Cond.selects C0 y y).before a0 Z = true) (w2 : (Jvm.Cond.instanceMethod y).before a0 Z = true) (w3 : (Jvm.Cond.initialized y.cls).before a0 Z = true) (w4 : (Jvm.Cond.code y cb cm cr).before a0 Z = true) (hy : y.cls ≠ "java/lang/invoke/MethodHandle" ∧ y.cls ≠ "java/lang/invoke/VarHandle") (hpd : parseMethodDescriptor y.desc = some ⟨ps, pr⟩) (hlen : as.length = ps.length) (hls : Ls.size = mx) (hW : wt rest = W) (hfr : rm.frames + 1 ≤ R.frames) (hlo : W + (cm + 11) + rm.locals ≤ R.locals) (hce : rm.cells = 0) (hsl : rm.slots = 0) (hcc : ce ≤ R.cells) (hss : sl ≤ R.slots) (hd : decode bs pc = .ok (.invokevirtual i, 3)) (hp : pc + 3 = pc') (hst : st = as.reverse ++ .ref a :: rest) (hr : Go p l e R s m args below meth c n0 Q K N h ce sl (mkF m pc' Ls (v :: rest))) : Go p l e R s m args below meth c n0 Q K N h ce sl (mkF m pc Ls st) :=
  go_virtual C S E w1 w5 w6 w2 w3 w4 hy hpd hlen hls hW hfr hlo (by rw [hce]; rfl) (by rw [hsl]; rfl) hcc hss hd hp hst (fun w h' hq => by obtain ⟨r, rfl, q1, q2⟩ := hq; rw [q1, q2]; exact hr)
theorem go_virtualV (C : Cx p s m meth c Z own bs mx rt nm) {y : MethodName} {i : Nat} {cb : ByteArray} {cm : Nat} {cr : Option FieldType} {rm : Room} {as rest : List Value} {W : Nat} {ps : List FieldType} {pr : Option FieldType} {ce' sl' : Nat} {a : Addr} {C0 : String} {P : Value → Heap → Prop} (S : Sat l Z y cb cm cr rm (.ref a :: as) h n0 (RV P)) (E : Exa Z h a C0) (w1 : (Jvm.Cond.methodLink own i y).before a0 Z = true) (w5 : (Jvm.Cond.declares y).before a0 Z = true) (w6 : (Jvm.Cond.selects C0 y y).before a0 Z = true) (w2 : (Jvm.Cond.instanceMethod y).before a0 Z = true) (w3 : (Jvm.Cond.initialized y.cls).before a0 Z = true) (w4 : (Jvm.Cond.code y cb cm cr).before a0 Z = true) (hy : y.cls ≠ "java/lang/invoke/MethodHandle" ∧ y.cls ≠ "java/lang/invoke/VarHandle") (hpd : parseMethodDescriptor y.desc = some ⟨ps, pr⟩) (hlen : as.length = ps.length) (hls : Ls.size = mx) (hW : wt rest = W) (hfr : rm.frames + 1 ≤ R.frames) (hlo : W + (cm + 11) + rm.locals ≤ R.locals) (hce : ce + rm.cells = ce') (hsl : sl + rm.slots = sl') (hcc : ce' ≤ R.cells) (hss : sl' ≤ R.slots) (hd : decode bs pc = .ok (.invokevirtual i, 3)) (hp : pc + 3 = pc') (hst : st = as.reverse ++ .ref a :: rest) (hr : ∀ r h', P r h' → Go p l e R s m args below meth c n0 Q K N h' ce' sl' (mkF m pc' Ls (r :: rest))) : Go p l e R s m args below meth c n0 Q K N h ce sl (mkF m pc Ls st) :=
  go_virtual C S E w1 w5 w6 w2 w3 w4 hy hpd hlen hls hW hfr hlo hce hsl hcc hss hd hp hst (fun v h' hq => by obtain ⟨r, rfl, q⟩ := hq; exact hr r h' q)
theorem go_virtualN (C : Cx p s m meth c Z own bs mx rt nm) {y : MethodName} {i : Nat} {cb : ByteArray} {cm : Nat} {cr : Option FieldType} {rm : Room} {as rest : List Value} {W : Nat} {ps : List FieldType} {pr : Option FieldType} {ce' sl' : Nat} {a : Addr} {C0 : String} {P : Heap → Prop} (S : Sat l Z y cb cm cr rm (.ref a :: as) h n0 (RN P)) (E : Exa Z h a C0) (w1 : (Jvm.Cond.methodLink own i y).before a0 Z = true) (w5 : (Jvm.Cond.declares y).before a0 Z = true) (w6 : (Jvm.Cond.selects C0 y y).before a0 Z = true) (w2 : (Jvm.Cond.instanceMethod y).before a0 Z = true) (w3 : (Jvm.Cond.initialized y.cls).before a0 Z = true) (w4 : (Jvm.Cond.code y cb cm cr).before a0 Z = true) (hy : y.cls ≠ "java/lang/invoke/MethodHandle" ∧ y.cls ≠ "java/lang/invoke/VarHandle") (hpd : parseMethodDescriptor y.desc = some ⟨ps, pr⟩) (hlen : as.length = ps.length) (hls : Ls.size = mx) (hW : wt rest = W) (hfr : rm.frames + 1 ≤ R.frames) (hlo : W + (cm + 11) + rm.locals ≤ R.locals) (hce : ce + rm.cells = ce') (hsl : sl + rm.slots = sl') (hcc : ce' ≤ R.cells) (hss : sl' ≤ R.slots) (hd : decode bs pc = .ok (.invokevirtual i, 3)) (hp : pc + 3 = pc') (hst : st = as.reverse ++ .ref a :: rest) (hr : ∀ h', P h' → Go p l e R s m args below meth c n0 Q K N h' ce' sl' (mkF m pc' Ls rest)) : Go p l e R s m args below meth c n0 Q K N h ce sl (mkF m pc Ls st) :=
  go_virtual C S E w1 w5 w6 w2 w3 w4 hy hpd hlen hls hW hfr hlo hce hsl hcc hss hd hp hst (fun v h' hq => by obtain ⟨rfl, q⟩ := hq; exact hr h' q)
theorem go_privateP (C : Cx p s m meth c Z own bs mx rt nm) {y : MethodName} {i : Nat} {cb : ByteArray} {cm : Nat} {cr : Option FieldType} {rm : Room} {as rest : List Value} {W : Nat} {ps : List FieldType} {pr : Option FieldType} {a : Addr} {C0 : String} (v : Value) (S : Sat l Z y cb cm cr rm (.ref a :: as) h n0 (RV fun r h' => r = v ∧ h' = h)) (E : Exa Z h a C0) (w1 : (Jvm.Cond.methodLink own i y).before a0 Z = true) (w5 : (Jvm.Cond.privateMethod y).before a0 Z = true) (w6 : (Jvm.Cond.selects y.cls y y).before a0 Z = true) (w2 : (Jvm.Cond.instanceMethod y).before a0 Z = true) (w3 : (Jvm.Cond.initialized y.cls).before a0 Z = true) (w4 : (Jvm.Cond.code y cb cm cr).before a0 Z = true) (hy : y.cls ≠ "java/lang/invoke/MethodHandle" ∧ y.cls ≠ "java/lang/invoke/VarHandle") (hpd : parseMethodDescriptor y.desc = some ⟨ps, pr⟩) (hlen : as.length = ps.length) (hls : Ls.size = mx) (hW : wt rest = W) (hfr : rm.frames + 1 ≤ R.frames) (hlo : W + (cm + 11) + rm.locals ≤ R.locals) (hce : rm.cells = 0) (hsl : rm.slots = 0) (hcc : ce ≤ R.cells) (hss : sl ≤ R.slots) (hd : decode bs pc = .ok (.invokevirtual i, 3)) (hp : pc + 3 = pc') (hst : st = as.reverse ++ .ref a :: rest) (hr : Go p l e R s m args below meth c n0 Q K N h ce sl (mkF m pc' Ls (v :: rest))) : Go p l e R s m args below meth c n0 Q K N h ce sl (mkF m pc Ls st) :=
  go_private C S E w1 w5 w6 w2 w3 w4 hy hpd hlen hls hW hfr hlo (by rw [hce]; rfl) (by rw [hsl]; rfl) hcc hss hd hp hst (fun w h' hq => by obtain ⟨r, rfl, q1, q2⟩ := hq; rw [q1, q2]; exact hr)
theorem go_privateV (C : Cx p s m meth c Z own bs mx rt nm) {y : MethodName} {i : Nat} {cb : ByteArray} {cm : Nat} {cr : Option FieldType} {rm : Room} {as rest : List Value} {W : Nat} {ps : List FieldType} {pr : Option FieldType} {ce' sl' : Nat} {a : Addr} {C0 : String} {P : Value → Heap → Prop} (S : Sat l Z y cb cm cr rm (.ref a :: as) h n0 (RV P)) (E : Exa Z h a C0) (w1 : (Jvm.Cond.methodLink own i y).before a0 Z = true) (w5 : (Jvm.Cond.privateMethod y).before a0 Z = true) (w6 : (Jvm.Cond.selects y.cls y y).before a0 Z = true) (w2 : (Jvm.Cond.instanceMethod y).before a0 Z = true) (w3 : (Jvm.Cond.initialized y.cls).before a0 Z = true) (w4 : (Jvm.Cond.code y cb cm cr).before a0 Z = true) (hy : y.cls ≠ "java/lang/invoke/MethodHandle" ∧ y.cls ≠ "java/lang/invoke/VarHandle") (hpd : parseMethodDescriptor y.desc = some ⟨ps, pr⟩) (hlen : as.length = ps.length) (hls : Ls.size = mx) (hW : wt rest = W) (hfr : rm.frames + 1 ≤ R.frames) (hlo : W + (cm + 11) + rm.locals ≤ R.locals) (hce : ce + rm.cells = ce') (hsl : sl + rm.slots = sl') (hcc : ce' ≤ R.cells) (hss : sl' ≤ R.slots) (hd : decode bs pc = .ok (.invokevirtual i, 3)) (hp : pc + 3 = pc') (hst : st = as.reverse ++ .ref a :: rest) (hr : ∀ r h', P r h' → Go p l e R s m args below meth c n0 Q K N h' ce' sl' (mkF m pc' Ls (r :: rest))) : Go p l e R s m args below meth c n0 Q K N h ce sl (mkF m pc Ls st) :=
  go_private C S E w1 w5 w6 w2 w3 w4 hy hpd hlen hls hW hfr hlo hce hsl hcc hss hd hp hst (fun v h' hq => by obtain ⟨r, rfl, q⟩ := hq; exact hr r h' q)
theorem go_privateN (C : Cx p s m meth c Z own bs mx rt nm) {y : MethodName} {i : Nat} {cb : ByteArray} {cm : Nat} {cr : Option FieldType} {rm : Room} {as rest : List Value} {W : Nat} {ps : List FieldType} {pr : Option FieldType} {ce' sl' : Nat} {a : Addr} {C0 : String} {P : Heap → Prop} (S : Sat l Z y cb cm cr rm (.ref a :: as) h n0 (RN P)) (E : Exa Z h a C0) (w1 : (Jvm.Cond.methodLink own i y).before a0 Z = true) (w5 : (Jvm.Cond.privateMethod y).before a0 Z = true) (w6 : (Jvm.Cond.selects y.cls y y).before a0 Z = true) (w2 : (Jvm.Cond.instanceMethod y).before a0 Z = true) (w3 : (Jvm.Cond.initialized y.cls).before a0 Z = true) (w4 : (Jvm.Cond.code y cb cm cr).before a0 Z = true) (hy : y.cls ≠ "java/lang/invoke/MethodHandle" ∧ y.cls ≠ "java/lang/invoke/VarHandle") (hpd : parseMethodDescriptor y.desc = some ⟨ps, pr⟩) (hlen : as.length = ps.length) (hls : Ls.size = mx) (hW : wt rest = W) (hfr : rm.frames + 1 ≤ R.frames) (hlo : W + (cm + 11) + rm.locals ≤ R.locals) (hce : ce + rm.cells = ce') (hsl : sl + rm.slots = sl') (hcc : ce' ≤ R.cells) (hss : sl' ≤ R.slots) (hd : decode bs pc = .ok (.invokevirtual i, 3)) (hp : pc + 3 = pc') (hst : st = as.reverse ++ .ref a :: rest) (hr : ∀ h', P h' → Go p l e R s m args below meth c n0 Q K N h' ce' sl' (mkF m pc' Ls rest)) : Go p l e R s m args below meth c n0 Q K N h ce sl (mkF m pc Ls st) :=
  go_private C S E w1 w5 w6 w2 w3 w4 hy hpd hlen hls hW hfr hlo hce hsl hcc hss hd hp hst (fun v h' hq => by obtain ⟨rfl, q⟩ := hq; exact hr h' q)
theorem go_specialV (C : Cx p s m meth c Z own bs mx rt nm) {y : MethodName} {i : Nat} {cb : ByteArray} {cm : Nat} {rm : Room} {as rest : List Value} {W : Nat} {ps : List FieldType} {pr : Option FieldType} {ce' sl' : Nat} {a : Addr} {P : Value → Heap → Prop} (S : Sat l Z y cb cm none rm (.ref a :: as) h n0 (RV P)) (hyn : y.name = "<init>") (w1 : (Jvm.Cond.methodLink own i y).before a0 Z = true) (w2 : (Jvm.Cond.instanceMethod y).before a0 Z = true) (w3 : (Jvm.Cond.initialized y.cls).before a0 Z = true) (w4 : (Jvm.Cond.code y cb cm none).before a0 Z = true) (hy : y.cls ≠ "java/lang/invoke/MethodHandle" ∧ y.cls ≠ "java/lang/invoke/VarHandle") (hpd : parseMethodDescriptor y.desc = some ⟨ps, pr⟩) (hlen : as.length = ps.length) (hls : Ls.size = mx) (hW : wt rest = W) (hfr : rm.frames + 1 ≤ R.frames) (hlo : W + (cm + 11) + rm.locals ≤ R.locals) (hce : ce + rm.cells = ce') (hsl : sl + rm.slots = sl') (hcc : ce' ≤ R.cells) (hss : sl' ≤ R.slots) (hd : decode bs pc = .ok (.invokespecial i, 3)) (hp : pc + 3 = pc') (hst : st = as.reverse ++ .ref a :: rest) (hr : ∀ r h', P r h' → Go p l e R s m args below meth c n0 Q K N h' ce' sl' (mkF m pc' Ls (r :: rest))) : Go p l e R s m args below meth c n0 Q K N h ce sl (mkF m pc Ls st) :=
  go_special C S hyn w1 w2 w3 w4 hy hpd hlen hls hW hfr hlo hce hsl hcc hss hd hp hst (fun v h' hq => by obtain ⟨r, rfl, q⟩ := hq; exact hr r h' q)
theorem go_specialN (C : Cx p s m meth c Z own bs mx rt nm) {y : MethodName} {i : Nat} {cb : ByteArray} {cm : Nat} {rm : Room} {as rest : List Value} {W : Nat} {ps : List FieldType} {pr : Option FieldType} {ce' sl' : Nat} {a : Addr} {P : Heap → Prop} (S : Sat l Z y cb cm none rm (.ref a :: as) h n0 (RN P)) (hyn : y.name = "<init>") (w1 : (Jvm.Cond.methodLink own i y).before a0 Z = true) (w2 : (Jvm.Cond.instanceMethod y).before a0 Z = true) (w3 : (Jvm.Cond.initialized y.cls).before a0 Z = true) (w4 : (Jvm.Cond.code y cb cm none).before a0 Z = true) (hy : y.cls ≠ "java/lang/invoke/MethodHandle" ∧ y.cls ≠ "java/lang/invoke/VarHandle") (hpd : parseMethodDescriptor y.desc = some ⟨ps, pr⟩) (hlen : as.length = ps.length) (hls : Ls.size = mx) (hW : wt rest = W) (hfr : rm.frames + 1 ≤ R.frames) (hlo : W + (cm + 11) + rm.locals ≤ R.locals) (hce : ce + rm.cells = ce') (hsl : sl + rm.slots = sl') (hcc : ce' ≤ R.cells) (hss : sl' ≤ R.slots) (hd : decode bs pc = .ok (.invokespecial i, 3)) (hp : pc + 3 = pc') (hst : st = as.reverse ++ .ref a :: rest) (hr : ∀ h', P h' → Go p l e R s m args below meth c n0 Q K N h' ce' sl' (mkF m pc' Ls rest)) : Go p l e R s m args below meth c n0 Q K N h ce sl (mkF m pc Ls st) :=
  go_special C S hyn w1 w2 w3 w4 hy hpd hlen hls hW hfr hlo hce hsl hcc hss hd hp hst (fun v h' hq => by obtain ⟨rfl, q⟩ := hq; exact hr h' q)
theorem go_specialWV (C : Cx p s m meth c Z own bs mx rt nm) {y : MethodName} {i : Nat} {cb : ByteArray} {cm : Nat} {rm : Room} {as rest : List Value} {W : Nat} {ps : List FieldType} {pr : Option FieldType} {ce' sl' : Nat} {a : Addr} {P : Value → Heap → Prop} (S : Sat l Z y cb cm none rm (.ref a :: as) h n0 (RV P)) (hyn : y.name = "<init>") (w1 : (Jvm.Cond.methodRef own i y).before a0 Z = true) (w2 : (Jvm.Cond.instanceMethod y).before a0 Z = true) (w3 : (Jvm.Cond.initialized y.cls).before a0 Z = true) (w4 : (Jvm.Cond.code y cb cm none).before a0 Z = true) (hy : y.cls ≠ "java/lang/invoke/MethodHandle" ∧ y.cls ≠ "java/lang/invoke/VarHandle") (hpd : parseMethodDescriptor y.desc = some ⟨ps, pr⟩) (hlen : as.length = ps.length) (hls : Ls.size = mx) (hW : wt rest = W) (hfr : rm.frames + 1 ≤ R.frames) (hlo : W + (cm + 11) + rm.locals ≤ R.locals) (hce : ce + rm.cells = ce') (hsl : sl + rm.slots = sl') (hcc : ce' ≤ R.cells) (hss : sl' ≤ R.slots) (hd : decode bs pc = .ok (.invokespecial i, 3)) (hp : pc + 3 = pc') (hst : st = as.reverse ++ .ref a :: rest) (hr : ∀ r h', P r h' → Go p l e R s m args below meth c n0 Q K N h' ce' sl' (mkF m pc' Ls (r :: rest))) : Go p l e R s m args below meth c n0 Q K N h ce sl (mkF m pc Ls st) :=
  go_specialW C S hyn w1 w2 w3 w4 hy hpd hlen hls hW hfr hlo hce hsl hcc hss hd hp hst (fun v h' hq => by obtain ⟨r, rfl, q⟩ := hq; exact hr r h' q)
theorem go_specialWN (C : Cx p s m meth c Z own bs mx rt nm) {y : MethodName} {i : Nat} {cb : ByteArray} {cm : Nat} {rm : Room} {as rest : List Value} {W : Nat} {ps : List FieldType} {pr : Option FieldType} {ce' sl' : Nat} {a : Addr} {P : Heap → Prop} (S : Sat l Z y cb cm none rm (.ref a :: as) h n0 (RN P)) (hyn : y.name = "<init>") (w1 : (Jvm.Cond.methodRef own i y).before a0 Z = true) (w2 : (Jvm.Cond.instanceMethod y).before a0 Z = true) (w3 : (Jvm.Cond.initialized y.cls).before a0 Z = true) (w4 : (Jvm.Cond.code y cb cm none).before a0 Z = true) (hy : y.cls ≠ "java/lang/invoke/MethodHandle" ∧ y.cls ≠ "java/lang/invoke/VarHandle") (hpd : parseMethodDescriptor y.desc = some ⟨ps, pr⟩) (hlen : as.length = ps.length) (hls : Ls.size = mx) (hW : wt rest = W) (hfr : rm.frames + 1 ≤ R.frames) (hlo : W + (cm + 11) + rm.locals ≤ R.locals) (hce : ce + rm.cells = ce') (hsl : sl + rm.slots = sl') (hcc : ce' ≤ R.cells) (hss : sl' ≤ R.slots) (hd : decode bs pc = .ok (.invokespecial i, 3)) (hp : pc + 3 = pc') (hst : st = as.reverse ++ .ref a :: rest) (hr : ∀ h', P h' → Go p l e R s m args below meth c n0 Q K N h' ce' sl' (mkF m pc' Ls rest)) : Go p l e R s m args below meth c n0 Q K N h ce sl (mkF m pc Ls st) :=
  go_specialW C S hyn w1 w2 w3 w4 hy hpd hlen hls hW hfr hlo hce hsl hcc hss hd hp hst (fun v h' hq => by obtain ⟨rfl, q⟩ := hq; exact hr h' q)
theorem go_ireturnI (C : Cx p s m meth c Z own bs mx rt nm) {z : Int32} (hrt : rt = some .int) (hd : decode bs pc = .ok (.ireturn, 1)) (hk : ce ≤ K) (hn : sl ≤ N) (hq : Q (some (.int z)) h) : Go p l e R s m args below meth c n0 Q K N h ce sl (mkF m pc Ls [.int z]) := by
  subst hrt
  intro T locs X eT Nn
  obtain ⟨fs, hr, hrun, hended, hW, hsame⟩ := X.leave (v := some (.int z)) (fun q => by first | rfl | (rw [C.2.2.2.2.2.1] at q; cases q)) C.2.2.2.2.2.2.1
  refine ⟨_, _, X.ireturnOut C.1 C.2.2.2.2.2.1 rfl (Or.inl rfl) (hb C.2.1 hd) hr, hrun, hended, _, _, rfl, ⟨?_, Nn⟩, ⟨_, rfl⟩, hW, hsame.mono hk hn⟩
  show Q (some (.int z)) T.heap
  rw [eT]; exact hq
theorem go_lreturn (C : Cx p s m meth c Z own bs mx rt nm) {z : Int64} (hrt : rt = some .long) (hd : decode bs pc = .ok (.lreturn, 1)) (hk : ce ≤ K) (hn : sl ≤ N) (hq : Q (some (.long z)) h) : Go p l e R s m args below meth c n0 Q K N h ce sl (mkF m pc Ls [.long z]) := by
  subst hrt
  intro T locs X eT Nn
  obtain ⟨fs, hr, hrun, hended, hW, hsame⟩ := X.leave (v := some (.long z)) (fun q => by first | rfl | (rw [C.2.2.2.2.2.1] at q; cases q)) C.2.2.2.2.2.2.1
  refine ⟨_, _, Jvm.Stand.lreturnOut X C.1 C.2.2.2.2.2.1 (hb C.2.1 hd) hr, hrun, hended, _, _, rfl, ⟨?_, Nn⟩, ⟨_, rfl⟩, hW, hsame.mono hk hn⟩
  show Q (some (.long z)) T.heap
  rw [eT]; exact hq
theorem go_areturn (C : Cx p s m meth c Z own bs mx rt nm) {w : Value} {t : FieldType} (hrt : rt = some t) (hd : decode bs pc = .ok (.areturn, 1)) (hk : ce ≤ K) (hn : sl ≤ N) (hw : w.isRef = true) (ht : t.isReference = true) (hq : Q (some w) h) : Go p l e R s m args below meth c n0 Q K N h ce sl (mkF m pc Ls [w]) := by
  subst hrt
  intro T locs X eT Nn
  obtain ⟨fs, hr, hrun, hended, hW, hsame⟩ := X.leave (v := some w) (fun q => by first | rfl | (rw [C.2.2.2.2.2.1] at q; cases q)) C.2.2.2.2.2.2.1
  refine ⟨_, _, X.areturnOut C.1 hw C.2.2.2.2.2.1 ht (hb C.2.1 hd) hr, hrun, hended, _, _, rfl, ⟨?_, Nn⟩, ⟨_, rfl⟩, hW, hsame.mono hk hn⟩
  show Q (some w) T.heap
  rw [eT]; exact hq
theorem go_return (C : Cx p s m meth c Z own bs mx rt nm)  (hrt : rt = none) (hd : decode bs pc = .ok (.return_, 1)) (hk : ce ≤ K) (hn : sl ≤ N) (hq : Q (none) h) : Go p l e R s m args below meth c n0 Q K N h ce sl (mkF m pc Ls []) := by
  subst hrt
  intro T locs X eT Nn
  obtain ⟨fs, hr, hrun, hended, hW, hsame⟩ := X.leave (v := none) (fun q => by first | rfl | (rw [C.2.2.2.2.2.1] at q; cases q)) C.2.2.2.2.2.2.1
  refine ⟨_, _, X.returnOut C.1 C.2.2.2.2.2.1 (hb C.2.1 hd) hr, hrun, hended, _, _, rfl, ⟨?_, Nn⟩, ⟨_, rfl⟩, hW, hsame.mono hk hn⟩
  show Q (none) T.heap
  rw [eT]; exact hq
theorem go_ireturnN (C : Cx p s m meth c Z own bs mx rt nm) {z z' : Int32} {t : FieldType} (hrt : rt = some t) (ht : t = .boolean ∨ t = .byte ∨ t = .char ∨ t = .short) (hz : nar t z = z') (hd : decode bs pc = .ok (.ireturn, 1)) (hk : ce ≤ K) (hn : sl ≤ N) (hq : Q (some (.int z')) h) : Go p l e R s m args below meth c n0 Q K N h ce sl (mkF m pc Ls [.int z]) := by
  subst hrt hz
  intro T locs X eT Nn
  obtain ⟨fs, hr, hrun, hended, hW, hsame⟩ := X.leave (v := some (.int (nar t z))) (fun q => by rw [C.2.2.2.2.2.1] at q; cases q) C.2.2.2.2.2.2.1
  refine ⟨_, _, retN X C.1 (t := t) C.2.2.2.2.2.1 ht (hb C.2.1 hd) hr, hrun, hended, _, _, rfl, ⟨?_, Nn⟩, ⟨_, rfl⟩, hW, hsame.mono hk hn⟩
  show Q (some (.int (nar t z))) T.heap
  rw [eT]; exact hq
theorem sat_of {y : MethodName} {cb : ByteArray} {cm : Nat} {cr : Option FieldType} {rm : Room} {as : List Value} {h0 : Heap} (ho : y.cls = own) (hnm : y.name = nm) (hpn : plainFor y = true) (Ls : Array Slot) (hef : ∀ m, entryFrame m as.toArray cm = mkF m 0 Ls [])
    (body : ∀ (p : Program) (e : Env) (s : State) (m : MethodId) (below : List Frame) (meth : Method) (c : Code), Cx p s m meth c Z own cb cm cr nm → Go p l e rm s m as.toArray below meth c n0 Q rm.cells rm.slots h0 0 0 (mkF m 0 Ls [])) : Sat l Z y cb cm cr rm as h0 n0 Q := by
  intro ws
  subst ho hnm
  refine MetFree.of_bodySF hpn hisR ?_
  intro p e s m args below meth c s₁ Bd hml0 hP hK
  obtain ⟨rfl, hZ, hh⟩ := hP
  have X0 : Stand p l e rm s m as.toArray below meth c s₁ [] 0 0 := Stand.of_body Bd
  obtain ⟨s₂, o, h1, h2, h3, v, L, h4, h5, h6⟩ := body p e s m below meth c ⟨Bd.exec, Bd.bytes, hml0, hZ, findClass_of_methodNamed Bd.named, Bd.returns, Bd.notSynchronized, (name_of_methodNamed Bd.named Bd.method).1⟩ s₁ [] X0 (by rw [← hh, Bd.state]; rfl) (Fr.nil n0)
  exact ⟨s₂, o, castTop (hef m) h1, h2, h3, v, L, h4, h5, h6⟩
theorem Sat.weaken {y : MethodName} {cb : ByteArray} {cm : Nat} {cr : Option FieldType} {rm : Room} {as : List Value} {h0 : Heap} {Q' : Option Value → Heap → Prop} (S : Sat l Z y cb cm cr rm as h0 n0 Q) (H : ∀ v h, Q v h → Q' v h) : Sat l Z y cb cm cr rm as h0 n0 Q' := by
  intro ws p e ha hc hk s m args below hf happ hP hK
  obtain ⟨n, o, h1, h2, h3, v, L, h4, h5, h6⟩ := S ws p e ha hc hk s m args below hf happ hP hK
  exact ⟨n, o, h1, h2, h3, v, L, h4, ⟨H _ _ h5.1, h5.2⟩, h6⟩
end Walk
end OwnLayer
theorem wd {Z : State} {a0 : Array Value} (hw : ∀ d ∈ tables_1, d.before a0 Z = true) (k : Nat) {d : Jvm.Cond} (h : tables_1[k]? = some d) : d.before a0 Z = true := hw d (List.mem_of_getElem? h)
theorem d1_0 : decode prog_47_method_3_code 0 = .ok (.aload_n 0, 1) := by decide +kernel
theorem d1_1 : decode prog_47_method_3_code 1 = .ok (.invokespecial 12, 3) := by decide +kernel
theorem d1_4 : decode prog_47_method_3_code 4 = .ok (.aload_n 0, 1) := by decide +kernel
theorem d1_5 : decode prog_47_method_3_code 5 = .ok (.iload_n 1, 1) := by decide +kernel
theorem d1_6 : decode prog_47_method_3_code 6 = .ok (.putfield 17, 3) := by decide +kernel
theorem d1_9 : decode prog_47_method_3_code 9 = .ok (.aload_n 0, 1) := by decide +kernel
theorem d1_10 : decode prog_47_method_3_code 10 = .ok (.iload_n 2, 1) := by decide +kernel
theorem d1_11 : decode prog_47_method_3_code 11 = .ok (.putfield 21, 3) := by decide +kernel
theorem d1_14 : decode prog_47_method_3_code 14 = .ok (.aload_n 0, 1) := by decide +kernel
theorem d1_15 : decode prog_47_method_3_code 15 = .ok (.aload_n 3, 1) := by decide +kernel
theorem d1_16 : decode prog_47_method_3_code 16 = .ok (.putfield 24, 3) := by decide +kernel
theorem d1_19 : decode prog_47_method_3_code 19 = .ok (.aload_n 0, 1) := by decide +kernel
theorem d1_20 : decode prog_47_method_3_code 20 = .ok (.aload 4, 2) := by decide +kernel
theorem d1_22 : decode prog_47_method_3_code 22 = .ok (.putfield 28, 3) := by decide +kernel
theorem d1_25 : decode prog_47_method_3_code 25 = .ok (.return_, 1) := by decide +kernel
theorem d3_0 : decode prog_47_method_6_code 0 = .ok (.aload_n 0, 1) := by decide +kernel
theorem d3_1 : decode prog_47_method_6_code 1 = .ok (.getfield 24, 3) := by decide +kernel
theorem d3_4 : decode prog_47_method_6_code 4 = .ok (.ifnull 7, 3) := by decide +kernel
theorem d3_7 : decode prog_47_method_6_code 7 = .ok (.iconst 1, 1) := by decide +kernel
theorem d3_8 : decode prog_47_method_6_code 8 = .ok (.goto 4, 3) := by decide +kernel
theorem d3_11 : decode prog_47_method_6_code 11 = .ok (.iconst 0, 1) := by decide +kernel
theorem d3_12 : decode prog_47_method_6_code 12 = .ok (.ireturn, 1) := by decide +kernel
theorem d4_0 : decode prog_47_method_1_code 0 = .ok (.aload_n 0, 1) := by decide +kernel
theorem d4_1 : decode prog_47_method_1_code 1 = .ok (.iconst 0, 1) := by decide +kernel
theorem d4_2 : decode prog_47_method_1_code 2 = .ok (.invokespecial 3, 3) := by decide +kernel
theorem d4_5 : decode prog_47_method_1_code 5 = .ok (.return_, 1) := by decide +kernel
theorem d5_0 : decode prog_47_method_2_code 0 = .ok (.aload_n 0, 1) := by decide +kernel
theorem d5_1 : decode prog_47_method_2_code 1 = .ok (.iload_n 1, 1) := by decide +kernel
theorem d5_2 : decode prog_47_method_2_code 2 = .ok (.iconst 0, 1) := by decide +kernel
theorem d5_3 : decode prog_47_method_2_code 3 = .ok (.aconst_null, 1) := by decide +kernel
theorem d5_4 : decode prog_47_method_2_code 4 = .ok (.aconst_null, 1) := by decide +kernel
theorem d5_5 : decode prog_47_method_2_code 5 = .ok (.invokespecial 9, 3) := by decide +kernel
theorem d5_8 : decode prog_47_method_2_code 8 = .ok (.return_, 1) := by decide +kernel
theorem pn_0 : plainName "com/example/holder/holder/protocol/TokenCarriesHintPinLaw" = true := by first | (simp [plainName, overriddenIn]; done) | decide +kernel
theorem pd_0 : parseMethodDescriptor "(IIJJI)Z" = some ⟨[.int, .int, .long, .long, .int], some .boolean⟩ := by decide +kernel
theorem pn_1 : plainName "com/example/holder/holder/protocol/PathCompression$Token" = true := by first | (simp [plainName, overriddenIn]; done) | decide +kernel
theorem pd_1 : parseMethodDescriptor "(II[J[J)V" = some ⟨[.int, .int, (.array .long), (.array .long)], none⟩ := by decide +kernel
theorem pd_2 : parseMethodDescriptor "()V" = some ⟨[], none⟩ := by decide +kernel
theorem pd_3 : parseMethodDescriptor "()Z" = some ⟨[], some .boolean⟩ := by decide +kernel
theorem pd_4 : parseMethodDescriptor "(I)V" = some ⟨[.int], none⟩ := by decide +kernel
set_option maxRecDepth 65536 in
set_option maxHeartbeats 40000000 in
theorem sat_init3rr (l : Launch) (Z : State) (a0 : Array Value) (hw : ∀ d ∈ tables_1, d.before a0 Z = true) (a : Addr) (x1 x2 : Int32) (b1 : Addr) (b2 : Addr) (h0 : Heap) (n0 : Nat) (E1 : Exa Z h0 a "com/example/holder/holder/protocol/PathCompression$Token") (F_place : Fld Z h0 a "com/example/holder/holder/protocol/PathCompression$Token" "place" "I" (.int (0 : Int32))) (F_hint : Fld Z h0 a "com/example/holder/holder/protocol/PathCompression$Token" "hint" "I" (.int (0 : Int32))) (F_hintStamp : Fld Z h0 a "com/example/holder/holder/protocol/PathCompression$Token" "hintStamp" "[J" (.null)) (F_clock : Fld Z h0 a "com/example/holder/holder/protocol/PathCompression$Token" "clock" "[J" (.null)) (ga : n0 ≤ a) :
    Sat l Z (⟨"com/example/holder/holder/protocol/PathCompression$Token", "<init>", "(II[J[J)V"⟩ : MethodName) prog_47_method_3_code 5 none ({ frames := 1, cells := 0, slots := 0, locals := 12 } : Room) [.ref a, .int x1, .int x2, .ref b1, .ref b2] h0 n0 (RN fun h => Keep h0 h [a] ∧ Exa Z h a "com/example/holder/holder/protocol/PathCompression$Token" ∧ Fld Z h a "com/example/holder/holder/protocol/PathCompression$Token" "hintStamp" "[J" (.ref b1)) := by
  refine sat_of (own := "com/example/holder/holder/protocol/PathCompression$Token") (nm := "<init>") rfl rfl (plainFor_of_name pn_1) #[.val (.ref a), .val (.int x1), .val (.int x2), .val (.ref b1), .val (.ref b2)] (fun m => by first | rfl | (simp [entryFrame, mkF, argsToLocals, Value.category]; done)) ?_
  intro p e s m below meth c C
  refine go_aloadN C d1_0 (pc' := 1) rfl rfl rfl ?_
  refine go_objinit C (W := 0) (wd hw 7 rfl) (wd hw 8 rfl) (wd hw 9 rfl) rfl (by decide) rfl (by decide) d1_1 (pc' := 4) rfl ?_
  refine go_aloadN C d1_4 (pc' := 5) rfl rfl rfl ?_
  refine go_iloadN C d1_5 (pc' := 6) rfl rfl ?_
  refine go_putfield C (wd hw 10 rfl) F_place E1 (Or.inr ⟨wd hw 11 rfl, rfl, rfl⟩) (wd hw 2 rfl) (ty := .int) (by decide) rfl rfl ga d1_6 (pc' := 9) rfl ?_
  intro h_1 W_2
  have F_3 := Fld.same W_2 F_place
  have F_4 := Fld.other W_2 F_hint (Or.inr (slot_ne (a0 := a0) (Or.inr (wd hw 13 rfl)) (Or.inr (wd hw 11 rfl)) (by decide) (t := .int) (t' := .int) (by decide) (by decide)))
  have F_5 := Fld.other W_2 F_hintStamp (Or.inr (slot_ne (a0 := a0) (Or.inr (wd hw 15 rfl)) (Or.inr (wd hw 11 rfl)) (by decide) (t := (.array .long)) (t' := .int) (by decide) (by decide)))
  have F_6 := Fld.other W_2 F_clock (Or.inr (slot_ne (a0 := a0) (Or.inr (wd hw 17 rfl)) (Or.inr (wd hw 11 rfl)) (by decide) (t := (.array .long)) (t' := .int) (by decide) (by decide)))
  have E_7 := Exa.wr W_2 E1
  have K_8 := Keep.wr (Keep.refl h0 [a]) W_2 (Or.inl (by simp))
  refine go_aloadN C d1_9 (pc' := 10) rfl rfl rfl ?_
  refine go_iloadN C d1_10 (pc' := 11) rfl rfl ?_
  refine go_putfield C (wd hw 12 rfl) F_4 E_7 (Or.inr ⟨wd hw 13 rfl, rfl, rfl⟩) (wd hw 2 rfl) (ty := .int) (by decide) rfl rfl ga d1_11 (pc' := 14) rfl ?_
  intro h_9 W_10
  have F_11 := Fld.other W_10 F_3 (Or.inr (slot_ne (a0 := a0) (Or.inr (wd hw 11 rfl)) (Or.inr (wd hw 13 rfl)) (by decide) (t := .int) (t' := .int) (by decide) (by decide)))
  have F_12 := Fld.same W_10 F_4
  have F_13 := Fld.other W_10 F_5 (Or.inr (slot_ne (a0 := a0) (Or.inr (wd hw 15 rfl)) (Or.inr (wd hw 13 rfl)) (by decide) (t := (.array .long)) (t' := .int) (by decide) (by decide)))
  have F_14 := Fld.other W_10 F_6 (Or.inr (slot_ne (a0 := a0) (Or.inr (wd hw 17 rfl)) (Or.inr (wd hw 13 rfl)) (by decide) (t := (.array .long)) (t' := .int) (by decide) (by decide)))
  have E_15 := Exa.wr W_10 E_7
  have K_16 := Keep.wr K_8 W_10 (Or.inl (by simp))
  refine go_aloadN C d1_14 (pc' := 15) rfl rfl rfl ?_
  refine go_aloadN C d1_15 (pc' := 16) rfl rfl rfl ?_
  refine go_putfield C (wd hw 14 rfl) F_13 E_15 (Or.inr ⟨wd hw 15 rfl, rfl, rfl⟩) (wd hw 2 rfl) (ty := (.array .long)) (by decide) rfl rfl ga d1_16 (pc' := 19) rfl ?_
  intro h_17 W_18
  have F_19 := Fld.other W_18 F_11 (Or.inr (slot_ne (a0 := a0) (Or.inr (wd hw 11 rfl)) (Or.inr (wd hw 15 rfl)) (by decide) (t := .int) (t' := (.array .long)) (by decide) (by decide)))
  have F_20 := Fld.other W_18 F_12 (Or.inr (slot_ne (a0 := a0) (Or.inr (wd hw 13 rfl)) (Or.inr (wd hw 15 rfl)) (by decide) (t := .int) (t' := (.array .long)) (by decide) (by decide)))
  have F_21 := Fld.same W_18 F_13
  have F_22 := Fld.other W_18 F_14 (Or.inr (slot_ne (a0 := a0) (Or.inr (wd hw 17 rfl)) (Or.inr (wd hw 15 rfl)) (by decide) (t := (.array .long)) (t' := (.array .long)) (by decide) (by decide)))
  have E_23 := Exa.wr W_18 E_15
  have K_24 := Keep.wr K_16 W_18 (Or.inl (by simp))
  refine go_aloadN C d1_19 (pc' := 20) rfl rfl rfl ?_
  refine go_aload C d1_20 (pc' := 22) rfl rfl rfl ?_
  refine go_putfield C (wd hw 16 rfl) F_22 E_23 (Or.inr ⟨wd hw 17 rfl, rfl, rfl⟩) (wd hw 2 rfl) (ty := (.array .long)) (by decide) rfl rfl ga d1_22 (pc' := 25) rfl ?_
  intro h_25 W_26
  have F_27 := Fld.other W_26 F_19 (Or.inr (slot_ne (a0 := a0) (Or.inr (wd hw 11 rfl)) (Or.inr (wd hw 17 rfl)) (by decide) (t := .int) (t' := (.array .long)) (by decide) (by decide)))
  have F_28 := Fld.other W_26 F_20 (Or.inr (slot_ne (a0 := a0) (Or.inr (wd hw 13 rfl)) (Or.inr (wd hw 17 rfl)) (by decide) (t := .int) (t' := (.array .long)) (by decide) (by decide)))
  have F_29 := Fld.other W_26 F_21 (Or.inr (slot_ne (a0 := a0) (Or.inr (wd hw 15 rfl)) (Or.inr (wd hw 17 rfl)) (by decide) (t := (.array .long)) (t' := (.array .long)) (by decide) (by decide)))
  have F_30 := Fld.same W_26 F_22
  have E_31 := Exa.wr W_26 E_23
  have K_32 := Keep.wr K_24 W_26 (Or.inl (by simp))
  refine go_return C rfl d1_25 (by decide) (by decide) ?_
  exact ⟨rfl, K_32, E_31, F_29⟩
set_option maxRecDepth 65536 in
set_option maxHeartbeats 40000000 in
theorem sat_init3rn (l : Launch) (Z : State) (a0 : Array Value) (hw : ∀ d ∈ tables_1, d.before a0 Z = true) (a : Addr) (x1 x2 : Int32) (b1 : Addr) (h0 : Heap) (n0 : Nat) (E1 : Exa Z h0 a "com/example/holder/holder/protocol/PathCompression$Token") (F_place : Fld Z h0 a "com/example/holder/holder/protocol/PathCompression$Token" "place" "I" (.int (0 : Int32))) (F_hint : Fld Z h0 a "com/example/holder/holder/protocol/PathCompression$Token" "hint" "I" (.int (0 : Int32))) (F_hintStamp : Fld Z h0 a "com/example/holder/holder/protocol/PathCompression$Token" "hintStamp" "[J" (.null)) (F_clock : Fld Z h0 a "com/example/holder/holder/protocol/PathCompression$Token" "clock" "[J" (.null)) (ga : n0 ≤ a) :
    Sat l Z (⟨"com/example/holder/holder/protocol/PathCompression$Token", "<init>", "(II[J[J)V"⟩ : MethodName) prog_47_method_3_code 5 none ({ frames := 1, cells := 0, slots := 0, locals := 12 } : Room) [.ref a, .int x1, .int x2, .ref b1, .null] h0 n0 (RN fun h => Keep h0 h [a] ∧ Exa Z h a "com/example/holder/holder/protocol/PathCompression$Token" ∧ Fld Z h a "com/example/holder/holder/protocol/PathCompression$Token" "hintStamp" "[J" (.ref b1)) := by
  refine sat_of (own := "com/example/holder/holder/protocol/PathCompression$Token") (nm := "<init>") rfl rfl (plainFor_of_name pn_1) #[.val (.ref a), .val (.int x1), .val (.int x2), .val (.ref b1), .val (.null)] (fun m => by first | rfl | (simp [entryFrame, mkF, argsToLocals, Value.category]; done)) ?_
  intro p e s m below meth c C
  refine go_aloadN C d1_0 (pc' := 1) rfl rfl rfl ?_
  refine go_objinit C (W := 0) (wd hw 7 rfl) (wd hw 8 rfl) (wd hw 9 rfl) rfl (by decide) rfl (by decide) d1_1 (pc' := 4) rfl ?_
  refine go_aloadN C d1_4 (pc' := 5) rfl rfl rfl ?_
  refine go_iloadN C d1_5 (pc' := 6) rfl rfl ?_
  refine go_putfield C (wd hw 10 rfl) F_place E1 (Or.inr ⟨wd hw 11 rfl, rfl, rfl⟩) (wd hw 2 rfl) (ty := .int) (by decide) rfl rfl ga d1_6 (pc' := 9) rfl ?_
  intro h_1 W_2
  have F_3 := Fld.same W_2 F_place
  have F_4 := Fld.other W_2 F_hint (Or.inr (slot_ne (a0 := a0) (Or.inr (wd hw 13 rfl)) (Or.inr (wd hw 11 rfl)) (by decide) (t := .int) (t' := .int) (by decide) (by decide)))
  have F_5 := Fld.other W_2 F_hintStamp (Or.inr (slot_ne (a0 := a0) (Or.inr (wd hw 15 rfl)) (Or.inr (wd hw 11 rfl)) (by decide) (t := (.array .long)) (t' := .int) (by decide) (by decide)))
  have F_6 := Fld.other W_2 F_clock (Or.inr (slot_ne (a0 := a0) (Or.inr (wd hw 17 rfl)) (Or.inr (wd hw 11 rfl)) (by decide) (t := (.array .long)) (t' := .int) (by decide) (by decide)))
  have E_7 := Exa.wr W_2 E1
  have K_8 := Keep.wr (Keep.refl h0 [a]) W_2 (Or.inl (by simp))
  refine go_aloadN C d1_9 (pc' := 10) rfl rfl rfl ?_
  refine go_iloadN C d1_10 (pc' := 11) rfl rfl ?_
  refine go_putfield C (wd hw 12 rfl) F_4 E_7 (Or.inr ⟨wd hw 13 rfl, rfl, rfl⟩) (wd hw 2 rfl) (ty := .int) (by decide) rfl rfl ga d1_11 (pc' := 14) rfl ?_
  intro h_9 W_10
  have F_11 := Fld.other W_10 F_3 (Or.inr (slot_ne (a0 := a0) (Or.inr (wd hw 11 rfl)) (Or.inr (wd hw 13 rfl)) (by decide) (t := .int) (t' := .int) (by decide) (by decide)))
  have F_12 := Fld.same W_10 F_4
  have F_13 := Fld.other W_10 F_5 (Or.inr (slot_ne (a0 := a0) (Or.inr (wd hw 15 rfl)) (Or.inr (wd hw 13 rfl)) (by decide) (t := (.array .long)) (t' := .int) (by decide) (by decide)))
  have F_14 := Fld.other W_10 F_6 (Or.inr (slot_ne (a0 := a0) (Or.inr (wd hw 17 rfl)) (Or.inr (wd hw 13 rfl)) (by decide) (t := (.array .long)) (t' := .int) (by decide) (by decide)))
  have E_15 := Exa.wr W_10 E_7
  have K_16 := Keep.wr K_8 W_10 (Or.inl (by simp))
  refine go_aloadN C d1_14 (pc' := 15) rfl rfl rfl ?_
  refine go_aloadN C d1_15 (pc' := 16) rfl rfl rfl ?_
  refine go_putfield C (wd hw 14 rfl) F_13 E_15 (Or.inr ⟨wd hw 15 rfl, rfl, rfl⟩) (wd hw 2 rfl) (ty := (.array .long)) (by decide) rfl rfl ga d1_16 (pc' := 19) rfl ?_
  intro h_17 W_18
  have F_19 := Fld.other W_18 F_11 (Or.inr (slot_ne (a0 := a0) (Or.inr (wd hw 11 rfl)) (Or.inr (wd hw 15 rfl)) (by decide) (t := .int) (t' := (.array .long)) (by decide) (by decide)))
  have F_20 := Fld.other W_18 F_12 (Or.inr (slot_ne (a0 := a0) (Or.inr (wd hw 13 rfl)) (Or.inr (wd hw 15 rfl)) (by decide) (t := .int) (t' := (.array .long)) (by decide) (by decide)))
  have F_21 := Fld.same W_18 F_13
  have F_22 := Fld.other W_18 F_14 (Or.inr (slot_ne (a0 := a0) (Or.inr (wd hw 17 rfl)) (Or.inr (wd hw 15 rfl)) (by decide) (t := (.array .long)) (t' := (.array .long)) (by decide) (by decide)))
  have E_23 := Exa.wr W_18 E_15
  have K_24 := Keep.wr K_16 W_18 (Or.inl (by simp))
  refine go_aloadN C d1_19 (pc' := 20) rfl rfl rfl ?_
  refine go_aload C d1_20 (pc' := 22) rfl rfl rfl ?_
  refine go_putfield C (wd hw 16 rfl) F_22 E_23 (Or.inr ⟨wd hw 17 rfl, rfl, rfl⟩) (wd hw 2 rfl) (ty := (.array .long)) (by decide) rfl rfl ga d1_22 (pc' := 25) rfl ?_
  intro h_25 W_26
  have F_27 := Fld.other W_26 F_19 (Or.inr (slot_ne (a0 := a0) (Or.inr (wd hw 11 rfl)) (Or.inr (wd hw 17 rfl)) (by decide) (t := .int) (t' := (.array .long)) (by decide) (by decide)))
  have F_28 := Fld.other W_26 F_20 (Or.inr (slot_ne (a0 := a0) (Or.inr (wd hw 13 rfl)) (Or.inr (wd hw 17 rfl)) (by decide) (t := .int) (t' := (.array .long)) (by decide) (by decide)))
  have F_29 := Fld.other W_26 F_21 (Or.inr (slot_ne (a0 := a0) (Or.inr (wd hw 15 rfl)) (Or.inr (wd hw 17 rfl)) (by decide) (t := (.array .long)) (t' := (.array .long)) (by decide) (by decide)))
  have F_30 := Fld.same W_26 F_22
  have E_31 := Exa.wr W_26 E_23
  have K_32 := Keep.wr K_24 W_26 (Or.inl (by simp))
  refine go_return C rfl d1_25 (by decide) (by decide) ?_
  exact ⟨rfl, K_32, E_31, F_29⟩
set_option maxRecDepth 65536 in
set_option maxHeartbeats 40000000 in
theorem sat_init3nr (l : Launch) (Z : State) (a0 : Array Value) (hw : ∀ d ∈ tables_1, d.before a0 Z = true) (a : Addr) (x1 x2 : Int32) (b2 : Addr) (h0 : Heap) (n0 : Nat) (E1 : Exa Z h0 a "com/example/holder/holder/protocol/PathCompression$Token") (F_place : Fld Z h0 a "com/example/holder/holder/protocol/PathCompression$Token" "place" "I" (.int (0 : Int32))) (F_hint : Fld Z h0 a "com/example/holder/holder/protocol/PathCompression$Token" "hint" "I" (.int (0 : Int32))) (F_hintStamp : Fld Z h0 a "com/example/holder/holder/protocol/PathCompression$Token" "hintStamp" "[J" (.null)) (F_clock : Fld Z h0 a "com/example/holder/holder/protocol/PathCompression$Token" "clock" "[J" (.null)) (ga : n0 ≤ a) :
    Sat l Z (⟨"com/example/holder/holder/protocol/PathCompression$Token", "<init>", "(II[J[J)V"⟩ : MethodName) prog_47_method_3_code 5 none ({ frames := 1, cells := 0, slots := 0, locals := 12 } : Room) [.ref a, .int x1, .int x2, .null, .ref b2] h0 n0 (RN fun h => Keep h0 h [a] ∧ Exa Z h a "com/example/holder/holder/protocol/PathCompression$Token" ∧ Fld Z h a "com/example/holder/holder/protocol/PathCompression$Token" "hintStamp" "[J" (.null)) := by
  refine sat_of (own := "com/example/holder/holder/protocol/PathCompression$Token") (nm := "<init>") rfl rfl (plainFor_of_name pn_1) #[.val (.ref a), .val (.int x1), .val (.int x2), .val (.null), .val (.ref b2)] (fun m => by first | rfl | (simp [entryFrame, mkF, argsToLocals, Value.category]; done)) ?_
  intro p e s m below meth c C
  refine go_aloadN C d1_0 (pc' := 1) rfl rfl rfl ?_
  refine go_objinit C (W := 0) (wd hw 7 rfl) (wd hw 8 rfl) (wd hw 9 rfl) rfl (by decide) rfl (by decide) d1_1 (pc' := 4) rfl ?_
  refine go_aloadN C d1_4 (pc' := 5) rfl rfl rfl ?_
  refine go_iloadN C d1_5 (pc' := 6) rfl rfl ?_
  refine go_putfield C (wd hw 10 rfl) F_place E1 (Or.inr ⟨wd hw 11 rfl, rfl, rfl⟩) (wd hw 2 rfl) (ty := .int) (by decide) rfl rfl ga d1_6 (pc' := 9) rfl ?_
  intro h_1 W_2
  have F_3 := Fld.same W_2 F_place
  have F_4 := Fld.other W_2 F_hint (Or.inr (slot_ne (a0 := a0) (Or.inr (wd hw 13 rfl)) (Or.inr (wd hw 11 rfl)) (by decide) (t := .int) (t' := .int) (by decide) (by decide)))
  have F_5 := Fld.other W_2 F_hintStamp (Or.inr (slot_ne (a0 := a0) (Or.inr (wd hw 15 rfl)) (Or.inr (wd hw 11 rfl)) (by decide) (t := (.array .long)) (t' := .int) (by decide) (by decide)))
  have F_6 := Fld.other W_2 F_clock (Or.inr (slot_ne (a0 := a0) (Or.inr (wd hw 17 rfl)) (Or.inr (wd hw 11 rfl)) (by decide) (t := (.array .long)) (t' := .int) (by decide) (by decide)))
  have E_7 := Exa.wr W_2 E1
  have K_8 := Keep.wr (Keep.refl h0 [a]) W_2 (Or.inl (by simp))
  refine go_aloadN C d1_9 (pc' := 10) rfl rfl rfl ?_
  refine go_iloadN C d1_10 (pc' := 11) rfl rfl ?_
  refine go_putfield C (wd hw 12 rfl) F_4 E_7 (Or.inr ⟨wd hw 13 rfl, rfl, rfl⟩) (wd hw 2 rfl) (ty := .int) (by decide) rfl rfl ga d1_11 (pc' := 14) rfl ?_
  intro h_9 W_10
  have F_11 := Fld.other W_10 F_3 (Or.inr (slot_ne (a0 := a0) (Or.inr (wd hw 11 rfl)) (Or.inr (wd hw 13 rfl)) (by decide) (t := .int) (t' := .int) (by decide) (by decide)))
  have F_12 := Fld.same W_10 F_4
  have F_13 := Fld.other W_10 F_5 (Or.inr (slot_ne (a0 := a0) (Or.inr (wd hw 15 rfl)) (Or.inr (wd hw 13 rfl)) (by decide) (t := (.array .long)) (t' := .int) (by decide) (by decide)))
  have F_14 := Fld.other W_10 F_6 (Or.inr (slot_ne (a0 := a0) (Or.inr (wd hw 17 rfl)) (Or.inr (wd hw 13 rfl)) (by decide) (t := (.array .long)) (t' := .int) (by decide) (by decide)))
  have E_15 := Exa.wr W_10 E_7
  have K_16 := Keep.wr K_8 W_10 (Or.inl (by simp))
  refine go_aloadN C d1_14 (pc' := 15) rfl rfl rfl ?_
  refine go_aloadN C d1_15 (pc' := 16) rfl rfl rfl ?_
  refine go_putfield C (wd hw 14 rfl) F_13 E_15 (Or.inr ⟨wd hw 15 rfl, rfl, rfl⟩) (wd hw 2 rfl) (ty := (.array .long)) (by decide) rfl rfl ga d1_16 (pc' := 19) rfl ?_
  intro h_17 W_18
  have F_19 := Fld.other W_18 F_11 (Or.inr (slot_ne (a0 := a0) (Or.inr (wd hw 11 rfl)) (Or.inr (wd hw 15 rfl)) (by decide) (t := .int) (t' := (.array .long)) (by decide) (by decide)))
  have F_20 := Fld.other W_18 F_12 (Or.inr (slot_ne (a0 := a0) (Or.inr (wd hw 13 rfl)) (Or.inr (wd hw 15 rfl)) (by decide) (t := .int) (t' := (.array .long)) (by decide) (by decide)))
  have F_21 := Fld.same W_18 F_13
  have F_22 := Fld.other W_18 F_14 (Or.inr (slot_ne (a0 := a0) (Or.inr (wd hw 17 rfl)) (Or.inr (wd hw 15 rfl)) (by decide) (t := (.array .long)) (t' := (.array .long)) (by decide) (by decide)))
  have E_23 := Exa.wr W_18 E_15
  have K_24 := Keep.wr K_16 W_18 (Or.inl (by simp))
  refine go_aloadN C d1_19 (pc' := 20) rfl rfl rfl ?_
  refine go_aload C d1_20 (pc' := 22) rfl rfl rfl ?_
  refine go_putfield C (wd hw 16 rfl) F_22 E_23 (Or.inr ⟨wd hw 17 rfl, rfl, rfl⟩) (wd hw 2 rfl) (ty := (.array .long)) (by decide) rfl rfl ga d1_22 (pc' := 25) rfl ?_
  intro h_25 W_26
  have F_27 := Fld.other W_26 F_19 (Or.inr (slot_ne (a0 := a0) (Or.inr (wd hw 11 rfl)) (Or.inr (wd hw 17 rfl)) (by decide) (t := .int) (t' := (.array .long)) (by decide) (by decide)))
  have F_28 := Fld.other W_26 F_20 (Or.inr (slot_ne (a0 := a0) (Or.inr (wd hw 13 rfl)) (Or.inr (wd hw 17 rfl)) (by decide) (t := .int) (t' := (.array .long)) (by decide) (by decide)))
  have F_29 := Fld.other W_26 F_21 (Or.inr (slot_ne (a0 := a0) (Or.inr (wd hw 15 rfl)) (Or.inr (wd hw 17 rfl)) (by decide) (t := (.array .long)) (t' := (.array .long)) (by decide) (by decide)))
  have F_30 := Fld.same W_26 F_22
  have E_31 := Exa.wr W_26 E_23
  have K_32 := Keep.wr K_24 W_26 (Or.inl (by simp))
  refine go_return C rfl d1_25 (by decide) (by decide) ?_
  exact ⟨rfl, K_32, E_31, F_29⟩
set_option maxRecDepth 65536 in
set_option maxHeartbeats 40000000 in
theorem sat_init3nn (l : Launch) (Z : State) (a0 : Array Value) (hw : ∀ d ∈ tables_1, d.before a0 Z = true) (a : Addr) (x1 x2 : Int32) (h0 : Heap) (n0 : Nat) (E1 : Exa Z h0 a "com/example/holder/holder/protocol/PathCompression$Token") (F_place : Fld Z h0 a "com/example/holder/holder/protocol/PathCompression$Token" "place" "I" (.int (0 : Int32))) (F_hint : Fld Z h0 a "com/example/holder/holder/protocol/PathCompression$Token" "hint" "I" (.int (0 : Int32))) (F_hintStamp : Fld Z h0 a "com/example/holder/holder/protocol/PathCompression$Token" "hintStamp" "[J" (.null)) (F_clock : Fld Z h0 a "com/example/holder/holder/protocol/PathCompression$Token" "clock" "[J" (.null)) (ga : n0 ≤ a) :
    Sat l Z (⟨"com/example/holder/holder/protocol/PathCompression$Token", "<init>", "(II[J[J)V"⟩ : MethodName) prog_47_method_3_code 5 none ({ frames := 1, cells := 0, slots := 0, locals := 12 } : Room) [.ref a, .int x1, .int x2, .null, .null] h0 n0 (RN fun h => Keep h0 h [a] ∧ Exa Z h a "com/example/holder/holder/protocol/PathCompression$Token" ∧ Fld Z h a "com/example/holder/holder/protocol/PathCompression$Token" "hintStamp" "[J" (.null)) := by
  refine sat_of (own := "com/example/holder/holder/protocol/PathCompression$Token") (nm := "<init>") rfl rfl (plainFor_of_name pn_1) #[.val (.ref a), .val (.int x1), .val (.int x2), .val (.null), .val (.null)] (fun m => by first | rfl | (simp [entryFrame, mkF, argsToLocals, Value.category]; done)) ?_
  intro p e s m below meth c C
  refine go_aloadN C d1_0 (pc' := 1) rfl rfl rfl ?_
  refine go_objinit C (W := 0) (wd hw 7 rfl) (wd hw 8 rfl) (wd hw 9 rfl) rfl (by decide) rfl (by decide) d1_1 (pc' := 4) rfl ?_
  refine go_aloadN C d1_4 (pc' := 5) rfl rfl rfl ?_
  refine go_iloadN C d1_5 (pc' := 6) rfl rfl ?_
  refine go_putfield C (wd hw 10 rfl) F_place E1 (Or.inr ⟨wd hw 11 rfl, rfl, rfl⟩) (wd hw 2 rfl) (ty := .int) (by decide) rfl rfl ga d1_6 (pc' := 9) rfl ?_
  intro h_1 W_2
  have F_3 := Fld.same W_2 F_place
  have F_4 := Fld.other W_2 F_hint (Or.inr (slot_ne (a0 := a0) (Or.inr (wd hw 13 rfl)) (Or.inr (wd hw 11 rfl)) (by decide) (t := .int) (t' := .int) (by decide) (by decide)))
  have F_5 := Fld.other W_2 F_hintStamp (Or.inr (slot_ne (a0 := a0) (Or.inr (wd hw 15 rfl)) (Or.inr (wd hw 11 rfl)) (by decide) (t := (.array .long)) (t' := .int) (by decide) (by decide)))
  have F_6 := Fld.other W_2 F_clock (Or.inr (slot_ne (a0 := a0) (Or.inr (wd hw 17 rfl)) (Or.inr (wd hw 11 rfl)) (by decide) (t := (.array .long)) (t' := .int) (by decide) (by decide)))
  have E_7 := Exa.wr W_2 E1
  have K_8 := Keep.wr (Keep.refl h0 [a]) W_2 (Or.inl (by simp))
  refine go_aloadN C d1_9 (pc' := 10) rfl rfl rfl ?_
  refine go_iloadN C d1_10 (pc' := 11) rfl rfl ?_
  refine go_putfield C (wd hw 12 rfl) F_4 E_7 (Or.inr ⟨wd hw 13 rfl, rfl, rfl⟩) (wd hw 2 rfl) (ty := .int) (by decide) rfl rfl ga d1_11 (pc' := 14) rfl ?_
  intro h_9 W_10
  have F_11 := Fld.other W_10 F_3 (Or.inr (slot_ne (a0 := a0) (Or.inr (wd hw 11 rfl)) (Or.inr (wd hw 13 rfl)) (by decide) (t := .int) (t' := .int) (by decide) (by decide)))
  have F_12 := Fld.same W_10 F_4
  have F_13 := Fld.other W_10 F_5 (Or.inr (slot_ne (a0 := a0) (Or.inr (wd hw 15 rfl)) (Or.inr (wd hw 13 rfl)) (by decide) (t := (.array .long)) (t' := .int) (by decide) (by decide)))
  have F_14 := Fld.other W_10 F_6 (Or.inr (slot_ne (a0 := a0) (Or.inr (wd hw 17 rfl)) (Or.inr (wd hw 13 rfl)) (by decide) (t := (.array .long)) (t' := .int) (by decide) (by decide)))
  have E_15 := Exa.wr W_10 E_7
  have K_16 := Keep.wr K_8 W_10 (Or.inl (by simp))
  refine go_aloadN C d1_14 (pc' := 15) rfl rfl rfl ?_
  refine go_aloadN C d1_15 (pc' := 16) rfl rfl rfl ?_
  refine go_putfield C (wd hw 14 rfl) F_13 E_15 (Or.inr ⟨wd hw 15 rfl, rfl, rfl⟩) (wd hw 2 rfl) (ty := (.array .long)) (by decide) rfl rfl ga d1_16 (pc' := 19) rfl ?_
  intro h_17 W_18
  have F_19 := Fld.other W_18 F_11 (Or.inr (slot_ne (a0 := a0) (Or.inr (wd hw 11 rfl)) (Or.inr (wd hw 15 rfl)) (by decide) (t := .int) (t' := (.array .long)) (by decide) (by decide)))
  have F_20 := Fld.other W_18 F_12 (Or.inr (slot_ne (a0 := a0) (Or.inr (wd hw 13 rfl)) (Or.inr (wd hw 15 rfl)) (by decide) (t := .int) (t' := (.array .long)) (by decide) (by decide)))
  have F_21 := Fld.same W_18 F_13
  have F_22 := Fld.other W_18 F_14 (Or.inr (slot_ne (a0 := a0) (Or.inr (wd hw 17 rfl)) (Or.inr (wd hw 15 rfl)) (by decide) (t := (.array .long)) (t' := (.array .long)) (by decide) (by decide)))
  have E_23 := Exa.wr W_18 E_15
  have K_24 := Keep.wr K_16 W_18 (Or.inl (by simp))
  refine go_aloadN C d1_19 (pc' := 20) rfl rfl rfl ?_
  refine go_aload C d1_20 (pc' := 22) rfl rfl rfl ?_
  refine go_putfield C (wd hw 16 rfl) F_22 E_23 (Or.inr ⟨wd hw 17 rfl, rfl, rfl⟩) (wd hw 2 rfl) (ty := (.array .long)) (by decide) rfl rfl ga d1_22 (pc' := 25) rfl ?_
  intro h_25 W_26
  have F_27 := Fld.other W_26 F_19 (Or.inr (slot_ne (a0 := a0) (Or.inr (wd hw 11 rfl)) (Or.inr (wd hw 17 rfl)) (by decide) (t := .int) (t' := (.array .long)) (by decide) (by decide)))
  have F_28 := Fld.other W_26 F_20 (Or.inr (slot_ne (a0 := a0) (Or.inr (wd hw 13 rfl)) (Or.inr (wd hw 17 rfl)) (by decide) (t := .int) (t' := (.array .long)) (by decide) (by decide)))
  have F_29 := Fld.other W_26 F_21 (Or.inr (slot_ne (a0 := a0) (Or.inr (wd hw 15 rfl)) (Or.inr (wd hw 17 rfl)) (by decide) (t := (.array .long)) (t' := (.array .long)) (by decide) (by decide)))
  have F_30 := Fld.same W_26 F_22
  have E_31 := Exa.wr W_26 E_23
  have K_32 := Keep.wr K_24 W_26 (Or.inl (by simp))
  refine go_return C rfl d1_25 (by decide) (by decide) ?_
  exact ⟨rfl, K_32, E_31, F_29⟩
set_option maxRecDepth 65536 in
set_option maxHeartbeats 40000000 in
theorem sat_init2 (l : Launch) (Z : State) (a0 : Array Value) (hw : ∀ d ∈ tables_1, d.before a0 Z = true) (a : Addr) (x1 : Int32) (h0 : Heap) (n0 : Nat) (E1 : Exa Z h0 a "com/example/holder/holder/protocol/PathCompression$Token") (F_place : Fld Z h0 a "com/example/holder/holder/protocol/PathCompression$Token" "place" "I" (.int (0 : Int32))) (F_hint : Fld Z h0 a "com/example/holder/holder/protocol/PathCompression$Token" "hint" "I" (.int (0 : Int32))) (F_hintStamp : Fld Z h0 a "com/example/holder/holder/protocol/PathCompression$Token" "hintStamp" "[J" (.null)) (F_clock : Fld Z h0 a "com/example/holder/holder/protocol/PathCompression$Token" "clock" "[J" (.null)) (ga : n0 ≤ a) :
    Sat l Z (⟨"com/example/holder/holder/protocol/PathCompression$Token", "<init>", "(I)V"⟩ : MethodName) prog_47_method_2_code 2 none ({ frames := 2, cells := 0, slots := 0, locals := 28 } : Room) [.ref a, .int x1] h0 n0 (RN fun h => Keep h0 h [a] ∧ Exa Z h a "com/example/holder/holder/protocol/PathCompression$Token" ∧ Fld Z h a "com/example/holder/holder/protocol/PathCompression$Token" "hintStamp" "[J" .null) := by
  refine sat_of (own := "com/example/holder/holder/protocol/PathCompression$Token") (nm := "<init>") rfl rfl (plainFor_of_name pn_1) #[.val (.ref a), .val (.int x1)] (fun m => by first | rfl | (simp [entryFrame, mkF, argsToLocals, Value.category]; done)) ?_
  intro p e s m below meth c C
  refine go_aloadN C d5_0 (pc' := 1) rfl rfl rfl ?_
  refine go_iloadN C d5_1 (pc' := 2) rfl rfl ?_
  refine go_iconst C (0 : Int32) d5_2 (pc' := 3) rfl (by decide) ?_
  refine go_aconst_null C d5_3 (pc' := 4) rfl ?_
  refine go_aconst_null C d5_4 (pc' := 5) rfl ?_
  refine go_specialN C (as := [.int x1, .int (0 : Int32), .null, .null]) (rest := []) (W := 0) (sat_init3nn l Z a0 hw a x1 (0 : Int32)  _ _ E1 F_place F_hint F_hintStamp F_clock ga) rfl (wd hw 29 rfl) (wd hw 5 rfl) (wd hw 3 rfl) (wd hw 6 rfl) (by decide) pd_1 rfl rfl rfl (by decide) (by decide) (ce' := 0) (sl' := 0) rfl rfl (by decide) (by decide) d5_5 (pc' := 8) rfl rfl ?_
  intro h_1 q_2
  obtain ⟨K_3, E_4, F_5⟩ := q_2
  have E_6 := Exa.keep E1 K_3
  have K_3' := Keep.trans (Keep.refl h0 [a]) K_3 (allS (Or.inl (by simp)) all0)
  refine go_return C rfl d5_8 (by decide) (by decide) ?_
  exact ⟨rfl, K_3', E_4, F_5⟩
set_option maxRecDepth 65536 in
set_option maxHeartbeats 40000000 in
theorem sat_init1 (l : Launch) (Z : State) (a0 : Array Value) (hw : ∀ d ∈ tables_1, d.before a0 Z = true) (a : Addr) (h0 : Heap) (n0 : Nat) (E1 : Exa Z h0 a "com/example/holder/holder/protocol/PathCompression$Token") (F_place : Fld Z h0 a "com/example/holder/holder/protocol/PathCompression$Token" "place" "I" (.int (0 : Int32))) (F_hint : Fld Z h0 a "com/example/holder/holder/protocol/PathCompression$Token" "hint" "I" (.int (0 : Int32))) (F_hintStamp : Fld Z h0 a "com/example/holder/holder/protocol/PathCompression$Token" "hintStamp" "[J" (.null)) (F_clock : Fld Z h0 a "com/example/holder/holder/protocol/PathCompression$Token" "clock" "[J" (.null)) (ga : n0 ≤ a) :
    Sat l Z (⟨"com/example/holder/holder/protocol/PathCompression$Token", "<init>", "()V"⟩ : MethodName) prog_47_method_1_code 1 none ({ frames := 3, cells := 0, slots := 0, locals := 41 } : Room) [.ref a] h0 n0 (RN fun h => Keep h0 h [a] ∧ Exa Z h a "com/example/holder/holder/protocol/PathCompression$Token" ∧ Fld Z h a "com/example/holder/holder/protocol/PathCompression$Token" "hintStamp" "[J" .null) := by
  refine sat_of (own := "com/example/holder/holder/protocol/PathCompression$Token") (nm := "<init>") rfl rfl (plainFor_of_name pn_1) #[.val (.ref a)] (fun m => by first | rfl | (simp [entryFrame, mkF, argsToLocals, Value.category]; done)) ?_
  intro p e s m below meth c C
  refine go_aloadN C d4_0 (pc' := 1) rfl rfl rfl ?_
  refine go_iconst C (0 : Int32) d4_1 (pc' := 2) rfl (by decide) ?_
  refine go_specialN C (as := [.int (0 : Int32)]) (rest := []) (W := 0) (sat_init2 l Z a0 hw a (0 : Int32) _ _ E1 F_place F_hint F_hintStamp F_clock ga) rfl (wd hw 26 rfl) (wd hw 27 rfl) (wd hw 3 rfl) (wd hw 28 rfl) (by decide) pd_4 rfl rfl rfl (by decide) (by decide) (ce' := 0) (sl' := 0) rfl rfl (by decide) (by decide) d4_2 (pc' := 5) rfl rfl ?_
  intro h_1 q_2
  obtain ⟨K_3, E_4, F_5⟩ := q_2
  have E_6 := Exa.keep E1 K_3
  have K_3' := Keep.trans (Keep.refl h0 [a]) K_3 (allS (Or.inl (by simp)) all0)
  refine go_return C rfl d4_5 (by decide) (by decide) ?_
  exact ⟨rfl, K_3', E_4, F_5⟩
set_option maxRecDepth 65536 in
set_option maxHeartbeats 40000000 in
theorem sat_ch1 (l : Launch) (Z : State) (a0 : Array Value) (hw : ∀ d ∈ tables_1, d.before a0 Z = true) (a : Addr) (b : Addr) (h0 : Heap) (n0 : Nat) (F1 : Fld Z h0 a "com/example/holder/holder/protocol/PathCompression$Token" "hintStamp" "[J" (.ref b)) :
    Sat l Z (⟨"com/example/holder/holder/protocol/PathCompression$Token", "carriesHint", "()Z"⟩ : MethodName) prog_47_method_6_code 1 (some .boolean) ({ frames := 0, cells := 0, slots := 0, locals := 0 } : Room) [.ref a] h0 n0 (RV fun r h => r = .int 1 ∧ h = h0) := by
  refine sat_of (own := "com/example/holder/holder/protocol/PathCompression$Token") (nm := "carriesHint") rfl rfl (plainFor_of_name pn_1) #[.val (.ref a)] (fun m => by first | rfl | (simp [entryFrame, mkF, argsToLocals, Value.category]; done)) ?_
  intro p e s m below meth c C
  refine go_aloadN C d3_0 (pc' := 1) rfl rfl rfl ?_
  refine go_getfield C (wd hw 14 rfl) F1 d3_1 (pc' := 4) rfl ?_
  refine go_ifnull_r C d3_4 (pc' := 7) rfl ?_
  refine go_iconst C (1 : Int32) d3_7 (pc' := 8) rfl (by decide) ?_
  refine go_goto C d3_8 (by decide) (pc' := 12) (by decide) ?_
  refine go_ireturnN C (z' := (1 : Int32)) rfl (by simp) rfl d3_12 (by decide) (by decide) ?_
  exact ⟨_, rfl, rfl, rfl⟩
set_option maxRecDepth 65536 in
set_option maxHeartbeats 40000000 in
theorem sat_ch0 (l : Launch) (Z : State) (a0 : Array Value) (hw : ∀ d ∈ tables_1, d.before a0 Z = true) (a : Addr) (h0 : Heap) (n0 : Nat) (F1 : Fld Z h0 a "com/example/holder/holder/protocol/PathCompression$Token" "hintStamp" "[J" (.null)) :
    Sat l Z (⟨"com/example/holder/holder/protocol/PathCompression$Token", "carriesHint", "()Z"⟩ : MethodName) prog_47_method_6_code 1 (some .boolean) ({ frames := 0, cells := 0, slots := 0, locals := 0 } : Room) [.ref a] h0 n0 (RV fun r h => r = .int 0 ∧ h = h0) := by
  refine sat_of (own := "com/example/holder/holder/protocol/PathCompression$Token") (nm := "carriesHint") rfl rfl (plainFor_of_name pn_1) #[.val (.ref a)] (fun m => by first | rfl | (simp [entryFrame, mkF, argsToLocals, Value.category]; done)) ?_
  intro p e s m below meth c C
  refine go_aloadN C d3_0 (pc' := 1) rfl rfl rfl ?_
  refine go_getfield C (wd hw 14 rfl) F1 d3_1 (pc' := 4) rfl ?_
  refine go_ifnull_n C d3_4 (by decide) (pc' := 11) (by decide) ?_
  refine go_iconst C (0 : Int32) d3_11 (pc' := 12) rfl (by decide) ?_
  refine go_ireturnN C (z' := (0 : Int32)) rfl (by simp) rfl d3_12 (by decide) (by decide) ?_
  exact ⟨_, rfl, rfl, rfl⟩
set_option maxRecDepth 65536 in
set_option maxHeartbeats 40000000 in
theorem law_sat (l : Launch) (Z : State) (a0 : Array Value) (hw : ∀ d ∈ tables_1, d.before a0 Z = true) (x0 x1 : Int32) (x2 x3 : Int64) (x4 : Int32)  :
    Sat l Z x code maxLocals ret room_1 [.int x0, .int x1, .long x2, .long x3, .int x4] Z.heap Z.heap.size (RV fun r _ => r = .int 1) := by
  refine sat_of (own := "com/example/holder/holder/protocol/TokenCarriesHintPinLaw") (nm := "law") rfl rfl (plainFor_of_name pn_0) #[.val (.int x0), .val (.int x1), .val (.long x2), .second, .val (.long x3), .second, .val (.int x4), .unset, .unset, .unset, .unset, .unset, .unset, .unset, .unset, .unset, .unset, .unset] (fun m => by first | rfl | (simp [entryFrame, mkF, argsToLocals, Value.category]; done)) ?_
  intro p e s m below meth c C
  refine go_iload C at_0 (pc' := 2) rfl rfl ?_
  refine go_iconst C (1 : Int32) at_2 (pc' := 3) rfl (by decide) ?_
  refine go_iand C at_3 (pc' := 4) rfl ?_
  refine go_if0 C ((x4 &&& (1 : Int32)).toInt) rfl at_4 (by decide) (pc' := 11) (by decide) (pcN := 7) rfl (fun (c_1 : ((x4 &&& (1 : Int32)).toInt) = 0) => ?_) (fun (c_1 : ¬ ((x4 &&& (1 : Int32)).toInt) = 0) => ?_)
  · skip
    refine go_iconst C (0 : Int32) at_11 (pc' := 12) rfl (by decide) ?_
    refine go_istore C (Ls' := #[.val (.int x0), .val (.int x1), .val (.long x2), .second, .val (.long x3), .second, .val (.int x4), .val (.int (0 : Int32)), .unset, .unset, .unset, .unset, .unset, .unset, .unset, .unset, .unset, .unset]) at_12 (pc' := 14) rfl rfl ?_
    refine go_iload C at_14 (pc' := 16) rfl rfl ?_
    refine go_iconst C (2 : Int32) at_16 (pc' := 17) rfl (by decide) ?_
    refine go_iand C at_17 (pc' := 18) rfl ?_
    refine go_if0 C ((x4 &&& (2 : Int32)).toInt) rfl at_18 (by decide) (pc' := 25) (by decide) (pcN := 21) rfl (fun (c_2 : ((x4 &&& (2 : Int32)).toInt) = 0) => ?_) (fun (c_2 : ¬ ((x4 &&& (2 : Int32)).toInt) = 0) => ?_)
    · skip
      refine go_iconst C (0 : Int32) at_25 (pc' := 26) rfl (by decide) ?_
      refine go_istore C (Ls' := #[.val (.int x0), .val (.int x1), .val (.long x2), .second, .val (.long x3), .second, .val (.int x4), .val (.int (0 : Int32)), .val (.int (0 : Int32)), .unset, .unset, .unset, .unset, .unset, .unset, .unset, .unset, .unset]) at_26 (pc' := 28) rfl rfl ?_
      refine go_iload C at_28 (pc' := 30) rfl rfl ?_
      refine go_iconst C (4 : Int32) at_30 (pc' := 31) rfl (by decide) ?_
      refine go_iand C at_31 (pc' := 32) rfl ?_
      refine go_if0 C ((x4 &&& (4 : Int32)).toInt) rfl at_32 (by decide) (pc' := 39) (by decide) (pcN := 35) rfl (fun (c_3 : ((x4 &&& (4 : Int32)).toInt) = 0) => ?_) (fun (c_3 : ¬ ((x4 &&& (4 : Int32)).toInt) = 0) => ?_)
      · skip
        refine go_iconst C (0 : Int32) at_39 (pc' := 40) rfl (by decide) ?_
        refine go_istore C (Ls' := #[.val (.int x0), .val (.int x1), .val (.long x2), .second, .val (.long x3), .second, .val (.int x4), .val (.int (0 : Int32)), .val (.int (0 : Int32)), .val (.int (0 : Int32)), .unset, .unset, .unset, .unset, .unset, .unset, .unset, .unset]) at_40 (pc' := 42) rfl rfl ?_
        refine go_iconst C (2 : Int32) at_42 (pc' := 43) rfl (by decide) ?_
        refine go_newarray C (wd hw 0 rfl) rfl 2 2 (by decide) (by decide) (by decide) (ce' := 1) (sl' := 2) rfl rfl (by decide) (by decide) at_43 (pc' := 45) rfl ?_
        intro h_4 a_5 g_6 E_7 A_8
        have g_9 : Z.heap.size ≤ a_5 := own_ge (Nat.le_refl _) g_6
        have z_10 : Z.heap.size ≤ h_4.size := Nat.le_trans (Nat.le_refl _) E_7.1
        have A_11 : Av Z h_4 a_5 .long [.long (0 : Int64), .long (0 : Int64)] := A_8
        refine go_dup C at_45 (pc' := 46) rfl rfl ?_
        refine go_iconst C (0 : Int32) at_46 (pc' := 47) rfl (by decide) ?_
        refine go_lloadN C at_47 (pc' := 48) rfl rfl ?_
        refine go_lastore C A_11 0 (by decide) (show 0 < 2 from by decide) g_9 at_48 (pc' := 49) rfl ?_
        intro h_12 W_13 A_14
        have z_15 : Z.heap.size ≤ h_12.size := W_13.size.symm ▸ z_10
        have A_16 : Av Z h_12 a_5 .long [.long x2, .long (0 : Int64)] := A_14
        refine go_dup C at_49 (pc' := 50) rfl rfl ?_
        refine go_iconst C (1 : Int32) at_50 (pc' := 51) rfl (by decide) ?_
        refine go_lload C at_51 (pc' := 53) rfl rfl ?_
        refine go_lastore C A_16 1 (by decide) (show 1 < 2 from by decide) g_9 at_53 (pc' := 54) rfl ?_
        intro h_17 W_18 A_19
        have z_20 : Z.heap.size ≤ h_17.size := W_18.size.symm ▸ z_15
        have A_21 : Av Z h_17 a_5 .long [.long x2, .long x3] := A_19
        refine go_astore C (Ls' := #[.val (.int x0), .val (.int x1), .val (.long x2), .second, .val (.long x3), .second, .val (.int x4), .val (.int (0 : Int32)), .val (.int (0 : Int32)), .val (.int (0 : Int32)), .val (.ref a_5), .unset, .unset, .unset, .unset, .unset, .unset, .unset]) at_54 (pc' := 56) rfl rfl rfl ?_
        refine go_iconst C (0 : Int32) at_56 (pc' := 57) rfl (by decide) ?_
        refine go_newarray C (wd hw 0 rfl) rfl 0 0 (by decide) (by decide) (by decide) (ce' := 2) (sl' := 2) rfl rfl (by decide) (by decide) at_57 (pc' := 59) rfl ?_
        intro h_22 a_23 g_24 E_25 A_26
        have n_27 : a_5 ≠ a_23 := own_ne_new A_21.lt g_24
        have g_28 : Z.heap.size ≤ a_23 := own_ge z_20 g_24
        have A_29 := Av.ext A_21 E_25
        have z_30 : Z.heap.size ≤ h_22.size := Nat.le_trans z_20 E_25.1
        have A_31 : Av Z h_22 a_23 .long [] := A_26
        refine go_astore C (Ls' := #[.val (.int x0), .val (.int x1), .val (.long x2), .second, .val (.long x3), .second, .val (.int x4), .val (.int (0 : Int32)), .val (.int (0 : Int32)), .val (.int (0 : Int32)), .val (.ref a_5), .val (.ref a_23), .unset, .unset, .unset, .unset, .unset, .unset]) at_59 (pc' := 61) rfl rfl rfl ?_
        refine go_iload C at_61 (pc' := 63) rfl rfl ?_
        refine go_if0 C (0 : Int) (by decide) at_63 (by decide) (pc' := 81) (by decide) (pcN := 66) rfl (fun (c_32 : (0 : Int) = 0) => ?_) (fun (c_32 : ¬ (0 : Int) = 0) => by omega)
        refine go_aconst_null C at_81 (pc' := 82) rfl ?_
        refine go_astore C (Ls' := #[.val (.int x0), .val (.int x1), .val (.long x2), .second, .val (.long x3), .second, .val (.int x4), .val (.int (0 : Int32)), .val (.int (0 : Int32)), .val (.int (0 : Int32)), .val (.ref a_5), .val (.ref a_23), .val (.null), .unset, .unset, .unset, .unset, .unset]) at_82 (pc' := 84) rfl rfl rfl ?_
        refine go_iload C at_84 (pc' := 86) rfl rfl ?_
        refine go_if0 C (0 : Int) (by decide) at_86 (by decide) (pc' := 100) (by decide) (pcN := 89) rfl (fun (c_33 : (0 : Int) = 0) => ?_) (fun (c_33 : ¬ (0 : Int) = 0) => by omega)
        refine go_aconst_null C at_100 (pc' := 101) rfl ?_
        refine go_astore C (Ls' := #[.val (.int x0), .val (.int x1), .val (.long x2), .second, .val (.long x3), .second, .val (.int x4), .val (.int (0 : Int32)), .val (.int (0 : Int32)), .val (.int (0 : Int32)), .val (.ref a_5), .val (.ref a_23), .val (.null), .val (.null), .unset, .unset, .unset, .unset]) at_101 (pc' := 103) rfl rfl rfl ?_
        refine go_new C (wd hw 1 rfl) (wd hw 2 rfl) (wd hw 3 rfl) at_103 (pc' := 106) rfl (ce' := 3) (sl' := 6) rfl rfl (by decide) (by decide) ?_
        intro h_34 a_35 g_36 E_37 E_38 D_39
        have n_40 : a_5 ≠ a_35 := own_ne_new A_29.lt g_36
        have n_41 : a_23 ≠ a_35 := own_ne_new A_31.lt g_36
        have g_42 : Z.heap.size ≤ a_35 := own_ge z_30 g_36
        have A_43 := Av.ext A_29 E_37
        have A_44 := Av.ext A_31 E_37
        have z_45 : Z.heap.size ≤ h_34.size := Nat.le_trans z_30 E_37.1
        have F_46 : Fld Z h_34 a_35 "com/example/holder/holder/protocol/PathCompression$Token" "place" "I" (.int (0 : Int32)) := D_39 (Or.inr (wd hw 11 rfl)) (ty := .int) (by decide)
        have F_47 : Fld Z h_34 a_35 "com/example/holder/holder/protocol/PathCompression$Token" "hint" "I" (.int (0 : Int32)) := D_39 (Or.inr (wd hw 13 rfl)) (ty := .int) (by decide)
        have F_48 : Fld Z h_34 a_35 "com/example/holder/holder/protocol/PathCompression$Token" "hintStamp" "[J" (.null) := D_39 (Or.inr (wd hw 15 rfl)) (ty := (.array .long)) (by decide)
        have F_49 : Fld Z h_34 a_35 "com/example/holder/holder/protocol/PathCompression$Token" "clock" "[J" (.null) := D_39 (Or.inr (wd hw 17 rfl)) (ty := (.array .long)) (by decide)
        refine go_dup C at_106 (pc' := 107) rfl rfl ?_
        refine go_iloadN C at_107 (pc' := 108) rfl rfl ?_
        refine go_iloadN C at_108 (pc' := 109) rfl rfl ?_
        refine go_aload C at_109 (pc' := 111) rfl rfl rfl ?_
        refine go_aload C at_111 (pc' := 113) rfl rfl rfl ?_
        refine go_specialN C (as := [.int x0, .int x1, .null, .null]) (rest := [.ref a_35]) (W := 1) (sat_init3nn l Z a0 hw a_35 x0 x1  _ _ E_38 F_46 F_47 F_48 F_49 g_42) rfl (wd hw 4 rfl) (wd hw 5 rfl) (wd hw 3 rfl) (wd hw 6 rfl) (by decide) pd_1 rfl rfl rfl (by decide) (by decide) (ce' := 3) (sl' := 6) rfl rfl (by decide) (by decide) at_113 (pc' := 116) rfl rfl ?_
        intro h_50 q_51
        obtain ⟨K_52, E_53, F_54⟩ := q_51
        have z_55 : Z.heap.size ≤ h_50.size := Nat.le_trans z_45 K_52.1
        have E_56 := Exa.keep E_38 K_52
        have A_57 := Av.keep A_43 K_52 (ninS n_40 nin0)
        have A_58 := Av.keep A_44 K_52 (ninS n_41 nin0)
        refine go_astore C (Ls' := #[.val (.int x0), .val (.int x1), .val (.long x2), .second, .val (.long x3), .second, .val (.int x4), .val (.int (0 : Int32)), .val (.int (0 : Int32)), .val (.int (0 : Int32)), .val (.ref a_5), .val (.ref a_23), .val (.null), .val (.null), .val (.ref a_35), .unset, .unset, .unset]) at_116 (pc' := 118) rfl rfl rfl ?_
        refine go_aload C at_118 (pc' := 120) rfl rfl rfl ?_
        refine go_virtualP C (as := []) (rest := []) (W := 0) (.int (0 : Int32)) (sat_ch0 l Z a0 hw a_35 _ _ F_54) E_53 (wd hw 18 rfl) (wd hw 19 rfl) (wd hw 21 rfl) (wd hw 20 rfl) (wd hw 3 rfl) (wd hw 22 rfl) (by decide) pd_3 rfl rfl rfl (by decide) (by decide) rfl rfl (by decide) (by decide) at_120 (pc' := 123) rfl rfl ?_
        refine go_iload C at_123 (pc' := 125) rfl rfl ?_
        refine go_icmp C (0 : Int) (0 : Int) (by decide) (by decide) at_125 (by decide) (pc' := 132) (by decide) (pcN := 128) rfl (fun (c_59 : ¬ (0 : Int) = (0 : Int)) => by omega) (fun (c_59 : (0 : Int) = (0 : Int)) => ?_)
        refine go_iconst C (1 : Int32) at_128 (pc' := 129) rfl (by decide) ?_
        refine go_goto C at_129 (by decide) (pc' := 133) (by decide) ?_
        refine go_istore C (Ls' := #[.val (.int x0), .val (.int x1), .val (.long x2), .second, .val (.long x3), .second, .val (.int x4), .val (.int (0 : Int32)), .val (.int (0 : Int32)), .val (.int (0 : Int32)), .val (.ref a_5), .val (.ref a_23), .val (.null), .val (.null), .val (.ref a_35), .val (.int (1 : Int32)), .unset, .unset]) at_133 (pc' := 135) rfl rfl ?_
        refine go_new C (wd hw 1 rfl) (wd hw 2 rfl) (wd hw 3 rfl) at_135 (pc' := 138) rfl (ce' := 4) (sl' := 10) rfl rfl (by decide) (by decide) ?_
        intro h_60 a_61 g_62 E_63 E_64 D_65
        have n_66 : a_35 ≠ a_61 := own_ne_new E_53.lt g_62
        have n_67 : a_5 ≠ a_61 := own_ne_new A_57.lt g_62
        have n_68 : a_23 ≠ a_61 := own_ne_new A_58.lt g_62
        have g_69 : Z.heap.size ≤ a_61 := own_ge z_55 g_62
        have F_70 := Fld.ext E_63 F_54
        have E_71 := Exa.ext E_63 E_53
        have A_72 := Av.ext A_57 E_63
        have A_73 := Av.ext A_58 E_63
        have z_74 : Z.heap.size ≤ h_60.size := Nat.le_trans z_55 E_63.1
        have F_75 : Fld Z h_60 a_61 "com/example/holder/holder/protocol/PathCompression$Token" "place" "I" (.int (0 : Int32)) := D_65 (Or.inr (wd hw 11 rfl)) (ty := .int) (by decide)
        have F_76 : Fld Z h_60 a_61 "com/example/holder/holder/protocol/PathCompression$Token" "hint" "I" (.int (0 : Int32)) := D_65 (Or.inr (wd hw 13 rfl)) (ty := .int) (by decide)
        have F_77 : Fld Z h_60 a_61 "com/example/holder/holder/protocol/PathCompression$Token" "hintStamp" "[J" (.null) := D_65 (Or.inr (wd hw 15 rfl)) (ty := (.array .long)) (by decide)
        have F_78 : Fld Z h_60 a_61 "com/example/holder/holder/protocol/PathCompression$Token" "clock" "[J" (.null) := D_65 (Or.inr (wd hw 17 rfl)) (ty := (.array .long)) (by decide)
        refine go_dup C at_138 (pc' := 139) rfl rfl ?_
        refine go_specialN C (as := []) (rest := [.ref a_61]) (W := 1) (sat_init1 l Z a0 hw a_61 _ _ E_64 F_75 F_76 F_77 F_78 g_69) rfl (wd hw 23 rfl) (wd hw 24 rfl) (wd hw 3 rfl) (wd hw 25 rfl) (by decide) pd_2 rfl rfl rfl (by decide) (by decide) (ce' := 4) (sl' := 10) rfl rfl (by decide) (by decide) at_139 (pc' := 142) rfl rfl ?_
        intro h_79 q_80
        obtain ⟨K_81, E_82, F_83⟩ := q_80
        have z_84 : Z.heap.size ≤ h_79.size := Nat.le_trans z_74 K_81.1
        have F_85 := Fld.keep F_70 K_81 (ninS n_66 nin0)
        have E_86 := Exa.keep E_71 K_81
        have E_87 := Exa.keep E_64 K_81
        have A_88 := Av.keep A_72 K_81 (ninS n_67 nin0)
        have A_89 := Av.keep A_73 K_81 (ninS n_68 nin0)
        refine go_astore C (Ls' := #[.val (.int x0), .val (.int x1), .val (.long x2), .second, .val (.long x3), .second, .val (.int x4), .val (.int (0 : Int32)), .val (.int (0 : Int32)), .val (.int (0 : Int32)), .val (.ref a_5), .val (.ref a_23), .val (.null), .val (.null), .val (.ref a_35), .val (.int (1 : Int32)), .val (.ref a_61), .unset]) at_142 (pc' := 144) rfl rfl rfl ?_
        refine go_new C (wd hw 1 rfl) (wd hw 2 rfl) (wd hw 3 rfl) at_144 (pc' := 147) rfl (ce' := 5) (sl' := 14) rfl rfl (by decide) (by decide) ?_
        intro h_90 a_91 g_92 E_93 E_94 D_95
        have n_96 : a_35 ≠ a_91 := own_ne_new E_86.lt g_92
        have n_97 : a_61 ≠ a_91 := own_ne_new E_82.lt g_92
        have n_98 : a_5 ≠ a_91 := own_ne_new A_88.lt g_92
        have n_99 : a_23 ≠ a_91 := own_ne_new A_89.lt g_92
        have g_100 : Z.heap.size ≤ a_91 := own_ge z_84 g_92
        have F_101 := Fld.ext E_93 F_85
        have F_102 := Fld.ext E_93 F_83
        have E_103 := Exa.ext E_93 E_86
        have E_104 := Exa.ext E_93 E_82
        have A_105 := Av.ext A_88 E_93
        have A_106 := Av.ext A_89 E_93
        have z_107 : Z.heap.size ≤ h_90.size := Nat.le_trans z_84 E_93.1
        have F_108 : Fld Z h_90 a_91 "com/example/holder/holder/protocol/PathCompression$Token" "place" "I" (.int (0 : Int32)) := D_95 (Or.inr (wd hw 11 rfl)) (ty := .int) (by decide)
        have F_109 : Fld Z h_90 a_91 "com/example/holder/holder/protocol/PathCompression$Token" "hint" "I" (.int (0 : Int32)) := D_95 (Or.inr (wd hw 13 rfl)) (ty := .int) (by decide)
        have F_110 : Fld Z h_90 a_91 "com/example/holder/holder/protocol/PathCompression$Token" "hintStamp" "[J" (.null) := D_95 (Or.inr (wd hw 15 rfl)) (ty := (.array .long)) (by decide)
        have F_111 : Fld Z h_90 a_91 "com/example/holder/holder/protocol/PathCompression$Token" "clock" "[J" (.null) := D_95 (Or.inr (wd hw 17 rfl)) (ty := (.array .long)) (by decide)
        refine go_dup C at_147 (pc' := 148) rfl rfl ?_
        refine go_iloadN C at_148 (pc' := 149) rfl rfl ?_
        refine go_specialN C (as := [.int x0]) (rest := [.ref a_91]) (W := 1) (sat_init2 l Z a0 hw a_91 x0 _ _ E_94 F_108 F_109 F_110 F_111 g_100) rfl (wd hw 30 rfl) (wd hw 27 rfl) (wd hw 3 rfl) (wd hw 28 rfl) (by decide) pd_4 rfl rfl rfl (by decide) (by decide) (ce' := 5) (sl' := 14) rfl rfl (by decide) (by decide) at_149 (pc' := 152) rfl rfl ?_
        intro h_112 q_113
        obtain ⟨K_114, E_115, F_116⟩ := q_113
        have z_117 : Z.heap.size ≤ h_112.size := Nat.le_trans z_107 K_114.1
        have F_118 := Fld.keep F_101 K_114 (ninS n_96 nin0)
        have F_119 := Fld.keep F_102 K_114 (ninS n_97 nin0)
        have E_120 := Exa.keep E_103 K_114
        have E_121 := Exa.keep E_104 K_114
        have E_122 := Exa.keep E_94 K_114
        have A_123 := Av.keep A_105 K_114 (ninS n_98 nin0)
        have A_124 := Av.keep A_106 K_114 (ninS n_99 nin0)
        refine go_astore C (Ls' := #[.val (.int x0), .val (.int x1), .val (.long x2), .second, .val (.long x3), .second, .val (.int x4), .val (.int (0 : Int32)), .val (.int (0 : Int32)), .val (.int (0 : Int32)), .val (.ref a_5), .val (.ref a_23), .val (.null), .val (.null), .val (.ref a_35), .val (.int (1 : Int32)), .val (.ref a_61), .val (.ref a_91)]) at_152 (pc' := 154) rfl rfl rfl ?_
        refine go_iload C at_154 (pc' := 156) rfl rfl ?_
        refine go_if0 C (1 : Int) (by decide) at_156 (by decide) (pc' := 171) (by decide) (pcN := 159) rfl (fun (c_125 : (1 : Int) = 0) => by omega) (fun (c_125 : ¬ (1 : Int) = 0) => ?_)
        refine go_aload C at_159 (pc' := 161) rfl rfl rfl ?_
        refine go_virtualP C (as := []) (rest := []) (W := 0) (.int (0 : Int32)) (sat_ch0 l Z a0 hw a_61 _ _ F_119) E_121 (wd hw 18 rfl) (wd hw 19 rfl) (wd hw 21 rfl) (wd hw 20 rfl) (wd hw 3 rfl) (wd hw 22 rfl) (by decide) pd_3 rfl rfl rfl (by decide) (by decide) rfl rfl (by decide) (by decide) at_161 (pc' := 164) rfl rfl ?_
        refine go_if0 C (0 : Int) (by decide) at_164 (by decide) (pc' := 171) (by decide) (pcN := 167) rfl (fun (c_126 : ¬ (0 : Int) = 0) => by omega) (fun (c_126 : (0 : Int) = 0) => ?_)
        refine go_iconst C (1 : Int32) at_167 (pc' := 168) rfl (by decide) ?_
        refine go_goto C at_168 (by decide) (pc' := 172) (by decide) ?_
        refine go_istore C (Ls' := #[.val (.int x0), .val (.int x1), .val (.long x2), .second, .val (.long x3), .second, .val (.int x4), .val (.int (0 : Int32)), .val (.int (0 : Int32)), .val (.int (0 : Int32)), .val (.ref a_5), .val (.ref a_23), .val (.null), .val (.null), .val (.ref a_35), .val (.int (1 : Int32)), .val (.ref a_61), .val (.ref a_91)]) at_172 (pc' := 174) rfl rfl ?_
        refine go_iload C at_174 (pc' := 176) rfl rfl ?_
        refine go_if0 C (1 : Int) (by decide) at_176 (by decide) (pc' := 191) (by decide) (pcN := 179) rfl (fun (c_127 : (1 : Int) = 0) => by omega) (fun (c_127 : ¬ (1 : Int) = 0) => ?_)
        refine go_aload C at_179 (pc' := 181) rfl rfl rfl ?_
        refine go_virtualP C (as := []) (rest := []) (W := 0) (.int (0 : Int32)) (sat_ch0 l Z a0 hw a_91 _ _ F_116) E_115 (wd hw 18 rfl) (wd hw 19 rfl) (wd hw 21 rfl) (wd hw 20 rfl) (wd hw 3 rfl) (wd hw 22 rfl) (by decide) pd_3 rfl rfl rfl (by decide) (by decide) rfl rfl (by decide) (by decide) at_181 (pc' := 184) rfl rfl ?_
        refine go_if0 C (0 : Int) (by decide) at_184 (by decide) (pc' := 191) (by decide) (pcN := 187) rfl (fun (c_128 : ¬ (0 : Int) = 0) => by omega) (fun (c_128 : (0 : Int) = 0) => ?_)
        refine go_iconst C (1 : Int32) at_187 (pc' := 188) rfl (by decide) ?_
        refine go_goto C at_188 (by decide) (pc' := 192) (by decide) ?_
        refine go_istore C (Ls' := #[.val (.int x0), .val (.int x1), .val (.long x2), .second, .val (.long x3), .second, .val (.int x4), .val (.int (0 : Int32)), .val (.int (0 : Int32)), .val (.int (0 : Int32)), .val (.ref a_5), .val (.ref a_23), .val (.null), .val (.null), .val (.ref a_35), .val (.int (1 : Int32)), .val (.ref a_61), .val (.ref a_91)]) at_192 (pc' := 194) rfl rfl ?_
        refine go_iload C at_194 (pc' := 196) rfl rfl ?_
        refine go_ireturnN C (z' := (1 : Int32)) rfl (by simp) rfl at_196 (by decide) (by decide) ?_
        exact ⟨_, rfl, rfl⟩
      · skip
        refine go_iconst C (1 : Int32) at_35 (pc' := 36) rfl (by decide) ?_
        refine go_goto C at_36 (by decide) (pc' := 40) (by decide) ?_
        refine go_istore C (Ls' := #[.val (.int x0), .val (.int x1), .val (.long x2), .second, .val (.long x3), .second, .val (.int x4), .val (.int (0 : Int32)), .val (.int (0 : Int32)), .val (.int (1 : Int32)), .unset, .unset, .unset, .unset, .unset, .unset, .unset, .unset]) at_40 (pc' := 42) rfl rfl ?_
        refine go_iconst C (2 : Int32) at_42 (pc' := 43) rfl (by decide) ?_
        refine go_newarray C (wd hw 0 rfl) rfl 2 2 (by decide) (by decide) (by decide) (ce' := 1) (sl' := 2) rfl rfl (by decide) (by decide) at_43 (pc' := 45) rfl ?_
        intro h_129 a_130 g_131 E_132 A_133
        have g_134 : Z.heap.size ≤ a_130 := own_ge (Nat.le_refl _) g_131
        have z_135 : Z.heap.size ≤ h_129.size := Nat.le_trans (Nat.le_refl _) E_132.1
        have A_136 : Av Z h_129 a_130 .long [.long (0 : Int64), .long (0 : Int64)] := A_133
        refine go_dup C at_45 (pc' := 46) rfl rfl ?_
        refine go_iconst C (0 : Int32) at_46 (pc' := 47) rfl (by decide) ?_
        refine go_lloadN C at_47 (pc' := 48) rfl rfl ?_
        refine go_lastore C A_136 0 (by decide) (show 0 < 2 from by decide) g_134 at_48 (pc' := 49) rfl ?_
        intro h_137 W_138 A_139
        have z_140 : Z.heap.size ≤ h_137.size := W_138.size.symm ▸ z_135
        have A_141 : Av Z h_137 a_130 .long [.long x2, .long (0 : Int64)] := A_139
        refine go_dup C at_49 (pc' := 50) rfl rfl ?_
        refine go_iconst C (1 : Int32) at_50 (pc' := 51) rfl (by decide) ?_
        refine go_lload C at_51 (pc' := 53) rfl rfl ?_
        refine go_lastore C A_141 1 (by decide) (show 1 < 2 from by decide) g_134 at_53 (pc' := 54) rfl ?_
        intro h_142 W_143 A_144
        have z_145 : Z.heap.size ≤ h_142.size := W_143.size.symm ▸ z_140
        have A_146 : Av Z h_142 a_130 .long [.long x2, .long x3] := A_144
        refine go_astore C (Ls' := #[.val (.int x0), .val (.int x1), .val (.long x2), .second, .val (.long x3), .second, .val (.int x4), .val (.int (0 : Int32)), .val (.int (0 : Int32)), .val (.int (1 : Int32)), .val (.ref a_130), .unset, .unset, .unset, .unset, .unset, .unset, .unset]) at_54 (pc' := 56) rfl rfl rfl ?_
        refine go_iconst C (0 : Int32) at_56 (pc' := 57) rfl (by decide) ?_
        refine go_newarray C (wd hw 0 rfl) rfl 0 0 (by decide) (by decide) (by decide) (ce' := 2) (sl' := 2) rfl rfl (by decide) (by decide) at_57 (pc' := 59) rfl ?_
        intro h_147 a_148 g_149 E_150 A_151
        have n_152 : a_130 ≠ a_148 := own_ne_new A_146.lt g_149
        have g_153 : Z.heap.size ≤ a_148 := own_ge z_145 g_149
        have A_154 := Av.ext A_146 E_150
        have z_155 : Z.heap.size ≤ h_147.size := Nat.le_trans z_145 E_150.1
        have A_156 : Av Z h_147 a_148 .long [] := A_151
        refine go_astore C (Ls' := #[.val (.int x0), .val (.int x1), .val (.long x2), .second, .val (.long x3), .second, .val (.int x4), .val (.int (0 : Int32)), .val (.int (0 : Int32)), .val (.int (1 : Int32)), .val (.ref a_130), .val (.ref a_148), .unset, .unset, .unset, .unset, .unset, .unset]) at_59 (pc' := 61) rfl rfl rfl ?_
        refine go_iload C at_61 (pc' := 63) rfl rfl ?_
        refine go_if0 C (0 : Int) (by decide) at_63 (by decide) (pc' := 81) (by decide) (pcN := 66) rfl (fun (c_157 : (0 : Int) = 0) => ?_) (fun (c_157 : ¬ (0 : Int) = 0) => by omega)
        refine go_aconst_null C at_81 (pc' := 82) rfl ?_
        refine go_astore C (Ls' := #[.val (.int x0), .val (.int x1), .val (.long x2), .second, .val (.long x3), .second, .val (.int x4), .val (.int (0 : Int32)), .val (.int (0 : Int32)), .val (.int (1 : Int32)), .val (.ref a_130), .val (.ref a_148), .val (.null), .unset, .unset, .unset, .unset, .unset]) at_82 (pc' := 84) rfl rfl rfl ?_
        refine go_iload C at_84 (pc' := 86) rfl rfl ?_
        refine go_if0 C (0 : Int) (by decide) at_86 (by decide) (pc' := 100) (by decide) (pcN := 89) rfl (fun (c_158 : (0 : Int) = 0) => ?_) (fun (c_158 : ¬ (0 : Int) = 0) => by omega)
        refine go_aconst_null C at_100 (pc' := 101) rfl ?_
        refine go_astore C (Ls' := #[.val (.int x0), .val (.int x1), .val (.long x2), .second, .val (.long x3), .second, .val (.int x4), .val (.int (0 : Int32)), .val (.int (0 : Int32)), .val (.int (1 : Int32)), .val (.ref a_130), .val (.ref a_148), .val (.null), .val (.null), .unset, .unset, .unset, .unset]) at_101 (pc' := 103) rfl rfl rfl ?_
        refine go_new C (wd hw 1 rfl) (wd hw 2 rfl) (wd hw 3 rfl) at_103 (pc' := 106) rfl (ce' := 3) (sl' := 6) rfl rfl (by decide) (by decide) ?_
        intro h_159 a_160 g_161 E_162 E_163 D_164
        have n_165 : a_130 ≠ a_160 := own_ne_new A_154.lt g_161
        have n_166 : a_148 ≠ a_160 := own_ne_new A_156.lt g_161
        have g_167 : Z.heap.size ≤ a_160 := own_ge z_155 g_161
        have A_168 := Av.ext A_154 E_162
        have A_169 := Av.ext A_156 E_162
        have z_170 : Z.heap.size ≤ h_159.size := Nat.le_trans z_155 E_162.1
        have F_171 : Fld Z h_159 a_160 "com/example/holder/holder/protocol/PathCompression$Token" "place" "I" (.int (0 : Int32)) := D_164 (Or.inr (wd hw 11 rfl)) (ty := .int) (by decide)
        have F_172 : Fld Z h_159 a_160 "com/example/holder/holder/protocol/PathCompression$Token" "hint" "I" (.int (0 : Int32)) := D_164 (Or.inr (wd hw 13 rfl)) (ty := .int) (by decide)
        have F_173 : Fld Z h_159 a_160 "com/example/holder/holder/protocol/PathCompression$Token" "hintStamp" "[J" (.null) := D_164 (Or.inr (wd hw 15 rfl)) (ty := (.array .long)) (by decide)
        have F_174 : Fld Z h_159 a_160 "com/example/holder/holder/protocol/PathCompression$Token" "clock" "[J" (.null) := D_164 (Or.inr (wd hw 17 rfl)) (ty := (.array .long)) (by decide)
        refine go_dup C at_106 (pc' := 107) rfl rfl ?_
        refine go_iloadN C at_107 (pc' := 108) rfl rfl ?_
        refine go_iloadN C at_108 (pc' := 109) rfl rfl ?_
        refine go_aload C at_109 (pc' := 111) rfl rfl rfl ?_
        refine go_aload C at_111 (pc' := 113) rfl rfl rfl ?_
        refine go_specialN C (as := [.int x0, .int x1, .null, .null]) (rest := [.ref a_160]) (W := 1) (sat_init3nn l Z a0 hw a_160 x0 x1  _ _ E_163 F_171 F_172 F_173 F_174 g_167) rfl (wd hw 4 rfl) (wd hw 5 rfl) (wd hw 3 rfl) (wd hw 6 rfl) (by decide) pd_1 rfl rfl rfl (by decide) (by decide) (ce' := 3) (sl' := 6) rfl rfl (by decide) (by decide) at_113 (pc' := 116) rfl rfl ?_
        intro h_175 q_176
        obtain ⟨K_177, E_178, F_179⟩ := q_176
        have z_180 : Z.heap.size ≤ h_175.size := Nat.le_trans z_170 K_177.1
        have E_181 := Exa.keep E_163 K_177
        have A_182 := Av.keep A_168 K_177 (ninS n_165 nin0)
        have A_183 := Av.keep A_169 K_177 (ninS n_166 nin0)
        refine go_astore C (Ls' := #[.val (.int x0), .val (.int x1), .val (.long x2), .second, .val (.long x3), .second, .val (.int x4), .val (.int (0 : Int32)), .val (.int (0 : Int32)), .val (.int (1 : Int32)), .val (.ref a_130), .val (.ref a_148), .val (.null), .val (.null), .val (.ref a_160), .unset, .unset, .unset]) at_116 (pc' := 118) rfl rfl rfl ?_
        refine go_aload C at_118 (pc' := 120) rfl rfl rfl ?_
        refine go_virtualP C (as := []) (rest := []) (W := 0) (.int (0 : Int32)) (sat_ch0 l Z a0 hw a_160 _ _ F_179) E_178 (wd hw 18 rfl) (wd hw 19 rfl) (wd hw 21 rfl) (wd hw 20 rfl) (wd hw 3 rfl) (wd hw 22 rfl) (by decide) pd_3 rfl rfl rfl (by decide) (by decide) rfl rfl (by decide) (by decide) at_120 (pc' := 123) rfl rfl ?_
        refine go_iload C at_123 (pc' := 125) rfl rfl ?_
        refine go_icmp C (0 : Int) (0 : Int) (by decide) (by decide) at_125 (by decide) (pc' := 132) (by decide) (pcN := 128) rfl (fun (c_184 : ¬ (0 : Int) = (0 : Int)) => by omega) (fun (c_184 : (0 : Int) = (0 : Int)) => ?_)
        refine go_iconst C (1 : Int32) at_128 (pc' := 129) rfl (by decide) ?_
        refine go_goto C at_129 (by decide) (pc' := 133) (by decide) ?_
        refine go_istore C (Ls' := #[.val (.int x0), .val (.int x1), .val (.long x2), .second, .val (.long x3), .second, .val (.int x4), .val (.int (0 : Int32)), .val (.int (0 : Int32)), .val (.int (1 : Int32)), .val (.ref a_130), .val (.ref a_148), .val (.null), .val (.null), .val (.ref a_160), .val (.int (1 : Int32)), .unset, .unset]) at_133 (pc' := 135) rfl rfl ?_
        refine go_new C (wd hw 1 rfl) (wd hw 2 rfl) (wd hw 3 rfl) at_135 (pc' := 138) rfl (ce' := 4) (sl' := 10) rfl rfl (by decide) (by decide) ?_
        intro h_185 a_186 g_187 E_188 E_189 D_190
        have n_191 : a_160 ≠ a_186 := own_ne_new E_178.lt g_187
        have n_192 : a_130 ≠ a_186 := own_ne_new A_182.lt g_187
        have n_193 : a_148 ≠ a_186 := own_ne_new A_183.lt g_187
        have g_194 : Z.heap.size ≤ a_186 := own_ge z_180 g_187
        have F_195 := Fld.ext E_188 F_179
        have E_196 := Exa.ext E_188 E_178
        have A_197 := Av.ext A_182 E_188
        have A_198 := Av.ext A_183 E_188
        have z_199 : Z.heap.size ≤ h_185.size := Nat.le_trans z_180 E_188.1
        have F_200 : Fld Z h_185 a_186 "com/example/holder/holder/protocol/PathCompression$Token" "place" "I" (.int (0 : Int32)) := D_190 (Or.inr (wd hw 11 rfl)) (ty := .int) (by decide)
        have F_201 : Fld Z h_185 a_186 "com/example/holder/holder/protocol/PathCompression$Token" "hint" "I" (.int (0 : Int32)) := D_190 (Or.inr (wd hw 13 rfl)) (ty := .int) (by decide)
        have F_202 : Fld Z h_185 a_186 "com/example/holder/holder/protocol/PathCompression$Token" "hintStamp" "[J" (.null) := D_190 (Or.inr (wd hw 15 rfl)) (ty := (.array .long)) (by decide)
        have F_203 : Fld Z h_185 a_186 "com/example/holder/holder/protocol/PathCompression$Token" "clock" "[J" (.null) := D_190 (Or.inr (wd hw 17 rfl)) (ty := (.array .long)) (by decide)
        refine go_dup C at_138 (pc' := 139) rfl rfl ?_
        refine go_specialN C (as := []) (rest := [.ref a_186]) (W := 1) (sat_init1 l Z a0 hw a_186 _ _ E_189 F_200 F_201 F_202 F_203 g_194) rfl (wd hw 23 rfl) (wd hw 24 rfl) (wd hw 3 rfl) (wd hw 25 rfl) (by decide) pd_2 rfl rfl rfl (by decide) (by decide) (ce' := 4) (sl' := 10) rfl rfl (by decide) (by decide) at_139 (pc' := 142) rfl rfl ?_
        intro h_204 q_205
        obtain ⟨K_206, E_207, F_208⟩ := q_205
        have z_209 : Z.heap.size ≤ h_204.size := Nat.le_trans z_199 K_206.1
        have F_210 := Fld.keep F_195 K_206 (ninS n_191 nin0)
        have E_211 := Exa.keep E_196 K_206
        have E_212 := Exa.keep E_189 K_206
        have A_213 := Av.keep A_197 K_206 (ninS n_192 nin0)
        have A_214 := Av.keep A_198 K_206 (ninS n_193 nin0)
        refine go_astore C (Ls' := #[.val (.int x0), .val (.int x1), .val (.long x2), .second, .val (.long x3), .second, .val (.int x4), .val (.int (0 : Int32)), .val (.int (0 : Int32)), .val (.int (1 : Int32)), .val (.ref a_130), .val (.ref a_148), .val (.null), .val (.null), .val (.ref a_160), .val (.int (1 : Int32)), .val (.ref a_186), .unset]) at_142 (pc' := 144) rfl rfl rfl ?_
        refine go_new C (wd hw 1 rfl) (wd hw 2 rfl) (wd hw 3 rfl) at_144 (pc' := 147) rfl (ce' := 5) (sl' := 14) rfl rfl (by decide) (by decide) ?_
        intro h_215 a_216 g_217 E_218 E_219 D_220
        have n_221 : a_160 ≠ a_216 := own_ne_new E_211.lt g_217
        have n_222 : a_186 ≠ a_216 := own_ne_new E_207.lt g_217
        have n_223 : a_130 ≠ a_216 := own_ne_new A_213.lt g_217
        have n_224 : a_148 ≠ a_216 := own_ne_new A_214.lt g_217
        have g_225 : Z.heap.size ≤ a_216 := own_ge z_209 g_217
        have F_226 := Fld.ext E_218 F_210
        have F_227 := Fld.ext E_218 F_208
        have E_228 := Exa.ext E_218 E_211
        have E_229 := Exa.ext E_218 E_207
        have A_230 := Av.ext A_213 E_218
        have A_231 := Av.ext A_214 E_218
        have z_232 : Z.heap.size ≤ h_215.size := Nat.le_trans z_209 E_218.1
        have F_233 : Fld Z h_215 a_216 "com/example/holder/holder/protocol/PathCompression$Token" "place" "I" (.int (0 : Int32)) := D_220 (Or.inr (wd hw 11 rfl)) (ty := .int) (by decide)
        have F_234 : Fld Z h_215 a_216 "com/example/holder/holder/protocol/PathCompression$Token" "hint" "I" (.int (0 : Int32)) := D_220 (Or.inr (wd hw 13 rfl)) (ty := .int) (by decide)
        have F_235 : Fld Z h_215 a_216 "com/example/holder/holder/protocol/PathCompression$Token" "hintStamp" "[J" (.null) := D_220 (Or.inr (wd hw 15 rfl)) (ty := (.array .long)) (by decide)
        have F_236 : Fld Z h_215 a_216 "com/example/holder/holder/protocol/PathCompression$Token" "clock" "[J" (.null) := D_220 (Or.inr (wd hw 17 rfl)) (ty := (.array .long)) (by decide)
        refine go_dup C at_147 (pc' := 148) rfl rfl ?_
        refine go_iloadN C at_148 (pc' := 149) rfl rfl ?_
        refine go_specialN C (as := [.int x0]) (rest := [.ref a_216]) (W := 1) (sat_init2 l Z a0 hw a_216 x0 _ _ E_219 F_233 F_234 F_235 F_236 g_225) rfl (wd hw 30 rfl) (wd hw 27 rfl) (wd hw 3 rfl) (wd hw 28 rfl) (by decide) pd_4 rfl rfl rfl (by decide) (by decide) (ce' := 5) (sl' := 14) rfl rfl (by decide) (by decide) at_149 (pc' := 152) rfl rfl ?_
        intro h_237 q_238
        obtain ⟨K_239, E_240, F_241⟩ := q_238
        have z_242 : Z.heap.size ≤ h_237.size := Nat.le_trans z_232 K_239.1
        have F_243 := Fld.keep F_226 K_239 (ninS n_221 nin0)
        have F_244 := Fld.keep F_227 K_239 (ninS n_222 nin0)
        have E_245 := Exa.keep E_228 K_239
        have E_246 := Exa.keep E_229 K_239
        have E_247 := Exa.keep E_219 K_239
        have A_248 := Av.keep A_230 K_239 (ninS n_223 nin0)
        have A_249 := Av.keep A_231 K_239 (ninS n_224 nin0)
        refine go_astore C (Ls' := #[.val (.int x0), .val (.int x1), .val (.long x2), .second, .val (.long x3), .second, .val (.int x4), .val (.int (0 : Int32)), .val (.int (0 : Int32)), .val (.int (1 : Int32)), .val (.ref a_130), .val (.ref a_148), .val (.null), .val (.null), .val (.ref a_160), .val (.int (1 : Int32)), .val (.ref a_186), .val (.ref a_216)]) at_152 (pc' := 154) rfl rfl rfl ?_
        refine go_iload C at_154 (pc' := 156) rfl rfl ?_
        refine go_if0 C (1 : Int) (by decide) at_156 (by decide) (pc' := 171) (by decide) (pcN := 159) rfl (fun (c_250 : (1 : Int) = 0) => by omega) (fun (c_250 : ¬ (1 : Int) = 0) => ?_)
        refine go_aload C at_159 (pc' := 161) rfl rfl rfl ?_
        refine go_virtualP C (as := []) (rest := []) (W := 0) (.int (0 : Int32)) (sat_ch0 l Z a0 hw a_186 _ _ F_244) E_246 (wd hw 18 rfl) (wd hw 19 rfl) (wd hw 21 rfl) (wd hw 20 rfl) (wd hw 3 rfl) (wd hw 22 rfl) (by decide) pd_3 rfl rfl rfl (by decide) (by decide) rfl rfl (by decide) (by decide) at_161 (pc' := 164) rfl rfl ?_
        refine go_if0 C (0 : Int) (by decide) at_164 (by decide) (pc' := 171) (by decide) (pcN := 167) rfl (fun (c_251 : ¬ (0 : Int) = 0) => by omega) (fun (c_251 : (0 : Int) = 0) => ?_)
        refine go_iconst C (1 : Int32) at_167 (pc' := 168) rfl (by decide) ?_
        refine go_goto C at_168 (by decide) (pc' := 172) (by decide) ?_
        refine go_istore C (Ls' := #[.val (.int x0), .val (.int x1), .val (.long x2), .second, .val (.long x3), .second, .val (.int x4), .val (.int (0 : Int32)), .val (.int (0 : Int32)), .val (.int (1 : Int32)), .val (.ref a_130), .val (.ref a_148), .val (.null), .val (.null), .val (.ref a_160), .val (.int (1 : Int32)), .val (.ref a_186), .val (.ref a_216)]) at_172 (pc' := 174) rfl rfl ?_
        refine go_iload C at_174 (pc' := 176) rfl rfl ?_
        refine go_if0 C (1 : Int) (by decide) at_176 (by decide) (pc' := 191) (by decide) (pcN := 179) rfl (fun (c_252 : (1 : Int) = 0) => by omega) (fun (c_252 : ¬ (1 : Int) = 0) => ?_)
        refine go_aload C at_179 (pc' := 181) rfl rfl rfl ?_
        refine go_virtualP C (as := []) (rest := []) (W := 0) (.int (0 : Int32)) (sat_ch0 l Z a0 hw a_216 _ _ F_241) E_240 (wd hw 18 rfl) (wd hw 19 rfl) (wd hw 21 rfl) (wd hw 20 rfl) (wd hw 3 rfl) (wd hw 22 rfl) (by decide) pd_3 rfl rfl rfl (by decide) (by decide) rfl rfl (by decide) (by decide) at_181 (pc' := 184) rfl rfl ?_
        refine go_if0 C (0 : Int) (by decide) at_184 (by decide) (pc' := 191) (by decide) (pcN := 187) rfl (fun (c_253 : ¬ (0 : Int) = 0) => by omega) (fun (c_253 : (0 : Int) = 0) => ?_)
        refine go_iconst C (1 : Int32) at_187 (pc' := 188) rfl (by decide) ?_
        refine go_goto C at_188 (by decide) (pc' := 192) (by decide) ?_
        refine go_istore C (Ls' := #[.val (.int x0), .val (.int x1), .val (.long x2), .second, .val (.long x3), .second, .val (.int x4), .val (.int (0 : Int32)), .val (.int (0 : Int32)), .val (.int (1 : Int32)), .val (.ref a_130), .val (.ref a_148), .val (.null), .val (.null), .val (.ref a_160), .val (.int (1 : Int32)), .val (.ref a_186), .val (.ref a_216)]) at_192 (pc' := 194) rfl rfl ?_
        refine go_iload C at_194 (pc' := 196) rfl rfl ?_
        refine go_ireturnN C (z' := (1 : Int32)) rfl (by simp) rfl at_196 (by decide) (by decide) ?_
        exact ⟨_, rfl, rfl⟩
    · skip
      refine go_iconst C (1 : Int32) at_21 (pc' := 22) rfl (by decide) ?_
      refine go_goto C at_22 (by decide) (pc' := 26) (by decide) ?_
      refine go_istore C (Ls' := #[.val (.int x0), .val (.int x1), .val (.long x2), .second, .val (.long x3), .second, .val (.int x4), .val (.int (0 : Int32)), .val (.int (1 : Int32)), .unset, .unset, .unset, .unset, .unset, .unset, .unset, .unset, .unset]) at_26 (pc' := 28) rfl rfl ?_
      refine go_iload C at_28 (pc' := 30) rfl rfl ?_
      refine go_iconst C (4 : Int32) at_30 (pc' := 31) rfl (by decide) ?_
      refine go_iand C at_31 (pc' := 32) rfl ?_
      refine go_if0 C ((x4 &&& (4 : Int32)).toInt) rfl at_32 (by decide) (pc' := 39) (by decide) (pcN := 35) rfl (fun (c_254 : ((x4 &&& (4 : Int32)).toInt) = 0) => ?_) (fun (c_254 : ¬ ((x4 &&& (4 : Int32)).toInt) = 0) => ?_)
      · skip
        refine go_iconst C (0 : Int32) at_39 (pc' := 40) rfl (by decide) ?_
        refine go_istore C (Ls' := #[.val (.int x0), .val (.int x1), .val (.long x2), .second, .val (.long x3), .second, .val (.int x4), .val (.int (0 : Int32)), .val (.int (1 : Int32)), .val (.int (0 : Int32)), .unset, .unset, .unset, .unset, .unset, .unset, .unset, .unset]) at_40 (pc' := 42) rfl rfl ?_
        refine go_iconst C (2 : Int32) at_42 (pc' := 43) rfl (by decide) ?_
        refine go_newarray C (wd hw 0 rfl) rfl 2 2 (by decide) (by decide) (by decide) (ce' := 1) (sl' := 2) rfl rfl (by decide) (by decide) at_43 (pc' := 45) rfl ?_
        intro h_255 a_256 g_257 E_258 A_259
        have g_260 : Z.heap.size ≤ a_256 := own_ge (Nat.le_refl _) g_257
        have z_261 : Z.heap.size ≤ h_255.size := Nat.le_trans (Nat.le_refl _) E_258.1
        have A_262 : Av Z h_255 a_256 .long [.long (0 : Int64), .long (0 : Int64)] := A_259
        refine go_dup C at_45 (pc' := 46) rfl rfl ?_
        refine go_iconst C (0 : Int32) at_46 (pc' := 47) rfl (by decide) ?_
        refine go_lloadN C at_47 (pc' := 48) rfl rfl ?_
        refine go_lastore C A_262 0 (by decide) (show 0 < 2 from by decide) g_260 at_48 (pc' := 49) rfl ?_
        intro h_263 W_264 A_265
        have z_266 : Z.heap.size ≤ h_263.size := W_264.size.symm ▸ z_261
        have A_267 : Av Z h_263 a_256 .long [.long x2, .long (0 : Int64)] := A_265
        refine go_dup C at_49 (pc' := 50) rfl rfl ?_
        refine go_iconst C (1 : Int32) at_50 (pc' := 51) rfl (by decide) ?_
        refine go_lload C at_51 (pc' := 53) rfl rfl ?_
        refine go_lastore C A_267 1 (by decide) (show 1 < 2 from by decide) g_260 at_53 (pc' := 54) rfl ?_
        intro h_268 W_269 A_270
        have z_271 : Z.heap.size ≤ h_268.size := W_269.size.symm ▸ z_266
        have A_272 : Av Z h_268 a_256 .long [.long x2, .long x3] := A_270
        refine go_astore C (Ls' := #[.val (.int x0), .val (.int x1), .val (.long x2), .second, .val (.long x3), .second, .val (.int x4), .val (.int (0 : Int32)), .val (.int (1 : Int32)), .val (.int (0 : Int32)), .val (.ref a_256), .unset, .unset, .unset, .unset, .unset, .unset, .unset]) at_54 (pc' := 56) rfl rfl rfl ?_
        refine go_iconst C (0 : Int32) at_56 (pc' := 57) rfl (by decide) ?_
        refine go_newarray C (wd hw 0 rfl) rfl 0 0 (by decide) (by decide) (by decide) (ce' := 2) (sl' := 2) rfl rfl (by decide) (by decide) at_57 (pc' := 59) rfl ?_
        intro h_273 a_274 g_275 E_276 A_277
        have n_278 : a_256 ≠ a_274 := own_ne_new A_272.lt g_275
        have g_279 : Z.heap.size ≤ a_274 := own_ge z_271 g_275
        have A_280 := Av.ext A_272 E_276
        have z_281 : Z.heap.size ≤ h_273.size := Nat.le_trans z_271 E_276.1
        have A_282 : Av Z h_273 a_274 .long [] := A_277
        refine go_astore C (Ls' := #[.val (.int x0), .val (.int x1), .val (.long x2), .second, .val (.long x3), .second, .val (.int x4), .val (.int (0 : Int32)), .val (.int (1 : Int32)), .val (.int (0 : Int32)), .val (.ref a_256), .val (.ref a_274), .unset, .unset, .unset, .unset, .unset, .unset]) at_59 (pc' := 61) rfl rfl rfl ?_
        refine go_iload C at_61 (pc' := 63) rfl rfl ?_
        refine go_if0 C (0 : Int) (by decide) at_63 (by decide) (pc' := 81) (by decide) (pcN := 66) rfl (fun (c_283 : (0 : Int) = 0) => ?_) (fun (c_283 : ¬ (0 : Int) = 0) => by omega)
        refine go_aconst_null C at_81 (pc' := 82) rfl ?_
        refine go_astore C (Ls' := #[.val (.int x0), .val (.int x1), .val (.long x2), .second, .val (.long x3), .second, .val (.int x4), .val (.int (0 : Int32)), .val (.int (1 : Int32)), .val (.int (0 : Int32)), .val (.ref a_256), .val (.ref a_274), .val (.null), .unset, .unset, .unset, .unset, .unset]) at_82 (pc' := 84) rfl rfl rfl ?_
        refine go_iload C at_84 (pc' := 86) rfl rfl ?_
        refine go_if0 C (1 : Int) (by decide) at_86 (by decide) (pc' := 100) (by decide) (pcN := 89) rfl (fun (c_284 : (1 : Int) = 0) => by omega) (fun (c_284 : ¬ (1 : Int) = 0) => ?_)
        refine go_iconst C (1 : Int32) at_89 (pc' := 90) rfl (by decide) ?_
        refine go_newarray C (wd hw 0 rfl) rfl 1 1 (by decide) (by decide) (by decide) (ce' := 3) (sl' := 3) rfl rfl (by decide) (by decide) at_90 (pc' := 92) rfl ?_
        intro h_285 a_286 g_287 E_288 A_289
        have n_290 : a_256 ≠ a_286 := own_ne_new A_280.lt g_287
        have n_291 : a_274 ≠ a_286 := own_ne_new A_282.lt g_287
        have g_292 : Z.heap.size ≤ a_286 := own_ge z_281 g_287
        have A_293 := Av.ext A_280 E_288
        have A_294 := Av.ext A_282 E_288
        have z_295 : Z.heap.size ≤ h_285.size := Nat.le_trans z_281 E_288.1
        have A_296 : Av Z h_285 a_286 .long [.long (0 : Int64)] := A_289
        refine go_dup C at_92 (pc' := 93) rfl rfl ?_
        refine go_iconst C (0 : Int32) at_93 (pc' := 94) rfl (by decide) ?_
        refine go_lload C at_94 (pc' := 96) rfl rfl ?_
        refine go_lastore C A_296 0 (by decide) (show 0 < 1 from by decide) g_292 at_96 (pc' := 97) rfl ?_
        intro h_297 W_298 A_299
        have z_300 : Z.heap.size ≤ h_297.size := W_298.size.symm ▸ z_295
        have A_301 := Av.other A_293 W_298 n_290
        have A_302 := Av.other A_294 W_298 n_291
        have A_303 : Av Z h_297 a_286 .long [.long x3] := A_299
        refine go_goto C at_97 (by decide) (pc' := 101) (by decide) ?_
        refine go_astore C (Ls' := #[.val (.int x0), .val (.int x1), .val (.long x2), .second, .val (.long x3), .second, .val (.int x4), .val (.int (0 : Int32)), .val (.int (1 : Int32)), .val (.int (0 : Int32)), .val (.ref a_256), .val (.ref a_274), .val (.null), .val (.ref a_286), .unset, .unset, .unset, .unset]) at_101 (pc' := 103) rfl rfl rfl ?_
        refine go_new C (wd hw 1 rfl) (wd hw 2 rfl) (wd hw 3 rfl) at_103 (pc' := 106) rfl (ce' := 4) (sl' := 7) rfl rfl (by decide) (by decide) ?_
        intro h_304 a_305 g_306 E_307 E_308 D_309
        have n_310 : a_256 ≠ a_305 := own_ne_new A_301.lt g_306
        have n_311 : a_274 ≠ a_305 := own_ne_new A_302.lt g_306
        have n_312 : a_286 ≠ a_305 := own_ne_new A_303.lt g_306
        have g_313 : Z.heap.size ≤ a_305 := own_ge z_300 g_306
        have A_314 := Av.ext A_301 E_307
        have A_315 := Av.ext A_302 E_307
        have A_316 := Av.ext A_303 E_307
        have z_317 : Z.heap.size ≤ h_304.size := Nat.le_trans z_300 E_307.1
        have F_318 : Fld Z h_304 a_305 "com/example/holder/holder/protocol/PathCompression$Token" "place" "I" (.int (0 : Int32)) := D_309 (Or.inr (wd hw 11 rfl)) (ty := .int) (by decide)
        have F_319 : Fld Z h_304 a_305 "com/example/holder/holder/protocol/PathCompression$Token" "hint" "I" (.int (0 : Int32)) := D_309 (Or.inr (wd hw 13 rfl)) (ty := .int) (by decide)
        have F_320 : Fld Z h_304 a_305 "com/example/holder/holder/protocol/PathCompression$Token" "hintStamp" "[J" (.null) := D_309 (Or.inr (wd hw 15 rfl)) (ty := (.array .long)) (by decide)
        have F_321 : Fld Z h_304 a_305 "com/example/holder/holder/protocol/PathCompression$Token" "clock" "[J" (.null) := D_309 (Or.inr (wd hw 17 rfl)) (ty := (.array .long)) (by decide)
        refine go_dup C at_106 (pc' := 107) rfl rfl ?_
        refine go_iloadN C at_107 (pc' := 108) rfl rfl ?_
        refine go_iloadN C at_108 (pc' := 109) rfl rfl ?_
        refine go_aload C at_109 (pc' := 111) rfl rfl rfl ?_
        refine go_aload C at_111 (pc' := 113) rfl rfl rfl ?_
        refine go_specialN C (as := [.int x0, .int x1, .null, .ref a_286]) (rest := [.ref a_305]) (W := 1) (sat_init3nr l Z a0 hw a_305 x0 x1 a_286 _ _ E_308 F_318 F_319 F_320 F_321 g_313) rfl (wd hw 4 rfl) (wd hw 5 rfl) (wd hw 3 rfl) (wd hw 6 rfl) (by decide) pd_1 rfl rfl rfl (by decide) (by decide) (ce' := 4) (sl' := 7) rfl rfl (by decide) (by decide) at_113 (pc' := 116) rfl rfl ?_
        intro h_322 q_323
        obtain ⟨K_324, E_325, F_326⟩ := q_323
        have z_327 : Z.heap.size ≤ h_322.size := Nat.le_trans z_317 K_324.1
        have E_328 := Exa.keep E_308 K_324
        have A_329 := Av.keep A_314 K_324 (ninS n_310 nin0)
        have A_330 := Av.keep A_315 K_324 (ninS n_311 nin0)
        have A_331 := Av.keep A_316 K_324 (ninS n_312 nin0)
        refine go_astore C (Ls' := #[.val (.int x0), .val (.int x1), .val (.long x2), .second, .val (.long x3), .second, .val (.int x4), .val (.int (0 : Int32)), .val (.int (1 : Int32)), .val (.int (0 : Int32)), .val (.ref a_256), .val (.ref a_274), .val (.null), .val (.ref a_286), .val (.ref a_305), .unset, .unset, .unset]) at_116 (pc' := 118) rfl rfl rfl ?_
        refine go_aload C at_118 (pc' := 120) rfl rfl rfl ?_
        refine go_virtualP C (as := []) (rest := []) (W := 0) (.int (0 : Int32)) (sat_ch0 l Z a0 hw a_305 _ _ F_326) E_325 (wd hw 18 rfl) (wd hw 19 rfl) (wd hw 21 rfl) (wd hw 20 rfl) (wd hw 3 rfl) (wd hw 22 rfl) (by decide) pd_3 rfl rfl rfl (by decide) (by decide) rfl rfl (by decide) (by decide) at_120 (pc' := 123) rfl rfl ?_
        refine go_iload C at_123 (pc' := 125) rfl rfl ?_
        refine go_icmp C (0 : Int) (0 : Int) (by decide) (by decide) at_125 (by decide) (pc' := 132) (by decide) (pcN := 128) rfl (fun (c_332 : ¬ (0 : Int) = (0 : Int)) => by omega) (fun (c_332 : (0 : Int) = (0 : Int)) => ?_)
        refine go_iconst C (1 : Int32) at_128 (pc' := 129) rfl (by decide) ?_
        refine go_goto C at_129 (by decide) (pc' := 133) (by decide) ?_
        refine go_istore C (Ls' := #[.val (.int x0), .val (.int x1), .val (.long x2), .second, .val (.long x3), .second, .val (.int x4), .val (.int (0 : Int32)), .val (.int (1 : Int32)), .val (.int (0 : Int32)), .val (.ref a_256), .val (.ref a_274), .val (.null), .val (.ref a_286), .val (.ref a_305), .val (.int (1 : Int32)), .unset, .unset]) at_133 (pc' := 135) rfl rfl ?_
        refine go_new C (wd hw 1 rfl) (wd hw 2 rfl) (wd hw 3 rfl) at_135 (pc' := 138) rfl (ce' := 5) (sl' := 11) rfl rfl (by decide) (by decide) ?_
        intro h_333 a_334 g_335 E_336 E_337 D_338
        have n_339 : a_305 ≠ a_334 := own_ne_new E_325.lt g_335
        have n_340 : a_256 ≠ a_334 := own_ne_new A_329.lt g_335
        have n_341 : a_274 ≠ a_334 := own_ne_new A_330.lt g_335
        have n_342 : a_286 ≠ a_334 := own_ne_new A_331.lt g_335
        have g_343 : Z.heap.size ≤ a_334 := own_ge z_327 g_335
        have F_344 := Fld.ext E_336 F_326
        have E_345 := Exa.ext E_336 E_325
        have A_346 := Av.ext A_329 E_336
        have A_347 := Av.ext A_330 E_336
        have A_348 := Av.ext A_331 E_336
        have z_349 : Z.heap.size ≤ h_333.size := Nat.le_trans z_327 E_336.1
        have F_350 : Fld Z h_333 a_334 "com/example/holder/holder/protocol/PathCompression$Token" "place" "I" (.int (0 : Int32)) := D_338 (Or.inr (wd hw 11 rfl)) (ty := .int) (by decide)
        have F_351 : Fld Z h_333 a_334 "com/example/holder/holder/protocol/PathCompression$Token" "hint" "I" (.int (0 : Int32)) := D_338 (Or.inr (wd hw 13 rfl)) (ty := .int) (by decide)
        have F_352 : Fld Z h_333 a_334 "com/example/holder/holder/protocol/PathCompression$Token" "hintStamp" "[J" (.null) := D_338 (Or.inr (wd hw 15 rfl)) (ty := (.array .long)) (by decide)
        have F_353 : Fld Z h_333 a_334 "com/example/holder/holder/protocol/PathCompression$Token" "clock" "[J" (.null) := D_338 (Or.inr (wd hw 17 rfl)) (ty := (.array .long)) (by decide)
        refine go_dup C at_138 (pc' := 139) rfl rfl ?_
        refine go_specialN C (as := []) (rest := [.ref a_334]) (W := 1) (sat_init1 l Z a0 hw a_334 _ _ E_337 F_350 F_351 F_352 F_353 g_343) rfl (wd hw 23 rfl) (wd hw 24 rfl) (wd hw 3 rfl) (wd hw 25 rfl) (by decide) pd_2 rfl rfl rfl (by decide) (by decide) (ce' := 5) (sl' := 11) rfl rfl (by decide) (by decide) at_139 (pc' := 142) rfl rfl ?_
        intro h_354 q_355
        obtain ⟨K_356, E_357, F_358⟩ := q_355
        have z_359 : Z.heap.size ≤ h_354.size := Nat.le_trans z_349 K_356.1
        have F_360 := Fld.keep F_344 K_356 (ninS n_339 nin0)
        have E_361 := Exa.keep E_345 K_356
        have E_362 := Exa.keep E_337 K_356
        have A_363 := Av.keep A_346 K_356 (ninS n_340 nin0)
        have A_364 := Av.keep A_347 K_356 (ninS n_341 nin0)
        have A_365 := Av.keep A_348 K_356 (ninS n_342 nin0)
        refine go_astore C (Ls' := #[.val (.int x0), .val (.int x1), .val (.long x2), .second, .val (.long x3), .second, .val (.int x4), .val (.int (0 : Int32)), .val (.int (1 : Int32)), .val (.int (0 : Int32)), .val (.ref a_256), .val (.ref a_274), .val (.null), .val (.ref a_286), .val (.ref a_305), .val (.int (1 : Int32)), .val (.ref a_334), .unset]) at_142 (pc' := 144) rfl rfl rfl ?_
        refine go_new C (wd hw 1 rfl) (wd hw 2 rfl) (wd hw 3 rfl) at_144 (pc' := 147) rfl (ce' := 6) (sl' := 15) rfl rfl (by decide) (by decide) ?_
        intro h_366 a_367 g_368 E_369 E_370 D_371
        have n_372 : a_305 ≠ a_367 := own_ne_new E_361.lt g_368
        have n_373 : a_334 ≠ a_367 := own_ne_new E_357.lt g_368
        have n_374 : a_256 ≠ a_367 := own_ne_new A_363.lt g_368
        have n_375 : a_274 ≠ a_367 := own_ne_new A_364.lt g_368
        have n_376 : a_286 ≠ a_367 := own_ne_new A_365.lt g_368
        have g_377 : Z.heap.size ≤ a_367 := own_ge z_359 g_368
        have F_378 := Fld.ext E_369 F_360
        have F_379 := Fld.ext E_369 F_358
        have E_380 := Exa.ext E_369 E_361
        have E_381 := Exa.ext E_369 E_357
        have A_382 := Av.ext A_363 E_369
        have A_383 := Av.ext A_364 E_369
        have A_384 := Av.ext A_365 E_369
        have z_385 : Z.heap.size ≤ h_366.size := Nat.le_trans z_359 E_369.1
        have F_386 : Fld Z h_366 a_367 "com/example/holder/holder/protocol/PathCompression$Token" "place" "I" (.int (0 : Int32)) := D_371 (Or.inr (wd hw 11 rfl)) (ty := .int) (by decide)
        have F_387 : Fld Z h_366 a_367 "com/example/holder/holder/protocol/PathCompression$Token" "hint" "I" (.int (0 : Int32)) := D_371 (Or.inr (wd hw 13 rfl)) (ty := .int) (by decide)
        have F_388 : Fld Z h_366 a_367 "com/example/holder/holder/protocol/PathCompression$Token" "hintStamp" "[J" (.null) := D_371 (Or.inr (wd hw 15 rfl)) (ty := (.array .long)) (by decide)
        have F_389 : Fld Z h_366 a_367 "com/example/holder/holder/protocol/PathCompression$Token" "clock" "[J" (.null) := D_371 (Or.inr (wd hw 17 rfl)) (ty := (.array .long)) (by decide)
        refine go_dup C at_147 (pc' := 148) rfl rfl ?_
        refine go_iloadN C at_148 (pc' := 149) rfl rfl ?_
        refine go_specialN C (as := [.int x0]) (rest := [.ref a_367]) (W := 1) (sat_init2 l Z a0 hw a_367 x0 _ _ E_370 F_386 F_387 F_388 F_389 g_377) rfl (wd hw 30 rfl) (wd hw 27 rfl) (wd hw 3 rfl) (wd hw 28 rfl) (by decide) pd_4 rfl rfl rfl (by decide) (by decide) (ce' := 6) (sl' := 15) rfl rfl (by decide) (by decide) at_149 (pc' := 152) rfl rfl ?_
        intro h_390 q_391
        obtain ⟨K_392, E_393, F_394⟩ := q_391
        have z_395 : Z.heap.size ≤ h_390.size := Nat.le_trans z_385 K_392.1
        have F_396 := Fld.keep F_378 K_392 (ninS n_372 nin0)
        have F_397 := Fld.keep F_379 K_392 (ninS n_373 nin0)
        have E_398 := Exa.keep E_380 K_392
        have E_399 := Exa.keep E_381 K_392
        have E_400 := Exa.keep E_370 K_392
        have A_401 := Av.keep A_382 K_392 (ninS n_374 nin0)
        have A_402 := Av.keep A_383 K_392 (ninS n_375 nin0)
        have A_403 := Av.keep A_384 K_392 (ninS n_376 nin0)
        refine go_astore C (Ls' := #[.val (.int x0), .val (.int x1), .val (.long x2), .second, .val (.long x3), .second, .val (.int x4), .val (.int (0 : Int32)), .val (.int (1 : Int32)), .val (.int (0 : Int32)), .val (.ref a_256), .val (.ref a_274), .val (.null), .val (.ref a_286), .val (.ref a_305), .val (.int (1 : Int32)), .val (.ref a_334), .val (.ref a_367)]) at_152 (pc' := 154) rfl rfl rfl ?_
        refine go_iload C at_154 (pc' := 156) rfl rfl ?_
        refine go_if0 C (1 : Int) (by decide) at_156 (by decide) (pc' := 171) (by decide) (pcN := 159) rfl (fun (c_404 : (1 : Int) = 0) => by omega) (fun (c_404 : ¬ (1 : Int) = 0) => ?_)
        refine go_aload C at_159 (pc' := 161) rfl rfl rfl ?_
        refine go_virtualP C (as := []) (rest := []) (W := 0) (.int (0 : Int32)) (sat_ch0 l Z a0 hw a_334 _ _ F_397) E_399 (wd hw 18 rfl) (wd hw 19 rfl) (wd hw 21 rfl) (wd hw 20 rfl) (wd hw 3 rfl) (wd hw 22 rfl) (by decide) pd_3 rfl rfl rfl (by decide) (by decide) rfl rfl (by decide) (by decide) at_161 (pc' := 164) rfl rfl ?_
        refine go_if0 C (0 : Int) (by decide) at_164 (by decide) (pc' := 171) (by decide) (pcN := 167) rfl (fun (c_405 : ¬ (0 : Int) = 0) => by omega) (fun (c_405 : (0 : Int) = 0) => ?_)
        refine go_iconst C (1 : Int32) at_167 (pc' := 168) rfl (by decide) ?_
        refine go_goto C at_168 (by decide) (pc' := 172) (by decide) ?_
        refine go_istore C (Ls' := #[.val (.int x0), .val (.int x1), .val (.long x2), .second, .val (.long x3), .second, .val (.int x4), .val (.int (0 : Int32)), .val (.int (1 : Int32)), .val (.int (0 : Int32)), .val (.ref a_256), .val (.ref a_274), .val (.null), .val (.ref a_286), .val (.ref a_305), .val (.int (1 : Int32)), .val (.ref a_334), .val (.ref a_367)]) at_172 (pc' := 174) rfl rfl ?_
        refine go_iload C at_174 (pc' := 176) rfl rfl ?_
        refine go_if0 C (1 : Int) (by decide) at_176 (by decide) (pc' := 191) (by decide) (pcN := 179) rfl (fun (c_406 : (1 : Int) = 0) => by omega) (fun (c_406 : ¬ (1 : Int) = 0) => ?_)
        refine go_aload C at_179 (pc' := 181) rfl rfl rfl ?_
        refine go_virtualP C (as := []) (rest := []) (W := 0) (.int (0 : Int32)) (sat_ch0 l Z a0 hw a_367 _ _ F_394) E_393 (wd hw 18 rfl) (wd hw 19 rfl) (wd hw 21 rfl) (wd hw 20 rfl) (wd hw 3 rfl) (wd hw 22 rfl) (by decide) pd_3 rfl rfl rfl (by decide) (by decide) rfl rfl (by decide) (by decide) at_181 (pc' := 184) rfl rfl ?_
        refine go_if0 C (0 : Int) (by decide) at_184 (by decide) (pc' := 191) (by decide) (pcN := 187) rfl (fun (c_407 : ¬ (0 : Int) = 0) => by omega) (fun (c_407 : (0 : Int) = 0) => ?_)
        refine go_iconst C (1 : Int32) at_187 (pc' := 188) rfl (by decide) ?_
        refine go_goto C at_188 (by decide) (pc' := 192) (by decide) ?_
        refine go_istore C (Ls' := #[.val (.int x0), .val (.int x1), .val (.long x2), .second, .val (.long x3), .second, .val (.int x4), .val (.int (0 : Int32)), .val (.int (1 : Int32)), .val (.int (0 : Int32)), .val (.ref a_256), .val (.ref a_274), .val (.null), .val (.ref a_286), .val (.ref a_305), .val (.int (1 : Int32)), .val (.ref a_334), .val (.ref a_367)]) at_192 (pc' := 194) rfl rfl ?_
        refine go_iload C at_194 (pc' := 196) rfl rfl ?_
        refine go_ireturnN C (z' := (1 : Int32)) rfl (by simp) rfl at_196 (by decide) (by decide) ?_
        exact ⟨_, rfl, rfl⟩
      · skip
        refine go_iconst C (1 : Int32) at_35 (pc' := 36) rfl (by decide) ?_
        refine go_goto C at_36 (by decide) (pc' := 40) (by decide) ?_
        refine go_istore C (Ls' := #[.val (.int x0), .val (.int x1), .val (.long x2), .second, .val (.long x3), .second, .val (.int x4), .val (.int (0 : Int32)), .val (.int (1 : Int32)), .val (.int (1 : Int32)), .unset, .unset, .unset, .unset, .unset, .unset, .unset, .unset]) at_40 (pc' := 42) rfl rfl ?_
        refine go_iconst C (2 : Int32) at_42 (pc' := 43) rfl (by decide) ?_
        refine go_newarray C (wd hw 0 rfl) rfl 2 2 (by decide) (by decide) (by decide) (ce' := 1) (sl' := 2) rfl rfl (by decide) (by decide) at_43 (pc' := 45) rfl ?_
        intro h_408 a_409 g_410 E_411 A_412
        have g_413 : Z.heap.size ≤ a_409 := own_ge (Nat.le_refl _) g_410
        have z_414 : Z.heap.size ≤ h_408.size := Nat.le_trans (Nat.le_refl _) E_411.1
        have A_415 : Av Z h_408 a_409 .long [.long (0 : Int64), .long (0 : Int64)] := A_412
        refine go_dup C at_45 (pc' := 46) rfl rfl ?_
        refine go_iconst C (0 : Int32) at_46 (pc' := 47) rfl (by decide) ?_
        refine go_lloadN C at_47 (pc' := 48) rfl rfl ?_
        refine go_lastore C A_415 0 (by decide) (show 0 < 2 from by decide) g_413 at_48 (pc' := 49) rfl ?_
        intro h_416 W_417 A_418
        have z_419 : Z.heap.size ≤ h_416.size := W_417.size.symm ▸ z_414
        have A_420 : Av Z h_416 a_409 .long [.long x2, .long (0 : Int64)] := A_418
        refine go_dup C at_49 (pc' := 50) rfl rfl ?_
        refine go_iconst C (1 : Int32) at_50 (pc' := 51) rfl (by decide) ?_
        refine go_lload C at_51 (pc' := 53) rfl rfl ?_
        refine go_lastore C A_420 1 (by decide) (show 1 < 2 from by decide) g_413 at_53 (pc' := 54) rfl ?_
        intro h_421 W_422 A_423
        have z_424 : Z.heap.size ≤ h_421.size := W_422.size.symm ▸ z_419
        have A_425 : Av Z h_421 a_409 .long [.long x2, .long x3] := A_423
        refine go_astore C (Ls' := #[.val (.int x0), .val (.int x1), .val (.long x2), .second, .val (.long x3), .second, .val (.int x4), .val (.int (0 : Int32)), .val (.int (1 : Int32)), .val (.int (1 : Int32)), .val (.ref a_409), .unset, .unset, .unset, .unset, .unset, .unset, .unset]) at_54 (pc' := 56) rfl rfl rfl ?_
        refine go_iconst C (0 : Int32) at_56 (pc' := 57) rfl (by decide) ?_
        refine go_newarray C (wd hw 0 rfl) rfl 0 0 (by decide) (by decide) (by decide) (ce' := 2) (sl' := 2) rfl rfl (by decide) (by decide) at_57 (pc' := 59) rfl ?_
        intro h_426 a_427 g_428 E_429 A_430
        have n_431 : a_409 ≠ a_427 := own_ne_new A_425.lt g_428
        have g_432 : Z.heap.size ≤ a_427 := own_ge z_424 g_428
        have A_433 := Av.ext A_425 E_429
        have z_434 : Z.heap.size ≤ h_426.size := Nat.le_trans z_424 E_429.1
        have A_435 : Av Z h_426 a_427 .long [] := A_430
        refine go_astore C (Ls' := #[.val (.int x0), .val (.int x1), .val (.long x2), .second, .val (.long x3), .second, .val (.int x4), .val (.int (0 : Int32)), .val (.int (1 : Int32)), .val (.int (1 : Int32)), .val (.ref a_409), .val (.ref a_427), .unset, .unset, .unset, .unset, .unset, .unset]) at_59 (pc' := 61) rfl rfl rfl ?_
        refine go_iload C at_61 (pc' := 63) rfl rfl ?_
        refine go_if0 C (0 : Int) (by decide) at_63 (by decide) (pc' := 81) (by decide) (pcN := 66) rfl (fun (c_436 : (0 : Int) = 0) => ?_) (fun (c_436 : ¬ (0 : Int) = 0) => by omega)
        refine go_aconst_null C at_81 (pc' := 82) rfl ?_
        refine go_astore C (Ls' := #[.val (.int x0), .val (.int x1), .val (.long x2), .second, .val (.long x3), .second, .val (.int x4), .val (.int (0 : Int32)), .val (.int (1 : Int32)), .val (.int (1 : Int32)), .val (.ref a_409), .val (.ref a_427), .val (.null), .unset, .unset, .unset, .unset, .unset]) at_82 (pc' := 84) rfl rfl rfl ?_
        refine go_iload C at_84 (pc' := 86) rfl rfl ?_
        refine go_if0 C (1 : Int) (by decide) at_86 (by decide) (pc' := 100) (by decide) (pcN := 89) rfl (fun (c_437 : (1 : Int) = 0) => by omega) (fun (c_437 : ¬ (1 : Int) = 0) => ?_)
        refine go_iconst C (1 : Int32) at_89 (pc' := 90) rfl (by decide) ?_
        refine go_newarray C (wd hw 0 rfl) rfl 1 1 (by decide) (by decide) (by decide) (ce' := 3) (sl' := 3) rfl rfl (by decide) (by decide) at_90 (pc' := 92) rfl ?_
        intro h_438 a_439 g_440 E_441 A_442
        have n_443 : a_409 ≠ a_439 := own_ne_new A_433.lt g_440
        have n_444 : a_427 ≠ a_439 := own_ne_new A_435.lt g_440
        have g_445 : Z.heap.size ≤ a_439 := own_ge z_434 g_440
        have A_446 := Av.ext A_433 E_441
        have A_447 := Av.ext A_435 E_441
        have z_448 : Z.heap.size ≤ h_438.size := Nat.le_trans z_434 E_441.1
        have A_449 : Av Z h_438 a_439 .long [.long (0 : Int64)] := A_442
        refine go_dup C at_92 (pc' := 93) rfl rfl ?_
        refine go_iconst C (0 : Int32) at_93 (pc' := 94) rfl (by decide) ?_
        refine go_lload C at_94 (pc' := 96) rfl rfl ?_
        refine go_lastore C A_449 0 (by decide) (show 0 < 1 from by decide) g_445 at_96 (pc' := 97) rfl ?_
        intro h_450 W_451 A_452
        have z_453 : Z.heap.size ≤ h_450.size := W_451.size.symm ▸ z_448
        have A_454 := Av.other A_446 W_451 n_443
        have A_455 := Av.other A_447 W_451 n_444
        have A_456 : Av Z h_450 a_439 .long [.long x3] := A_452
        refine go_goto C at_97 (by decide) (pc' := 101) (by decide) ?_
        refine go_astore C (Ls' := #[.val (.int x0), .val (.int x1), .val (.long x2), .second, .val (.long x3), .second, .val (.int x4), .val (.int (0 : Int32)), .val (.int (1 : Int32)), .val (.int (1 : Int32)), .val (.ref a_409), .val (.ref a_427), .val (.null), .val (.ref a_439), .unset, .unset, .unset, .unset]) at_101 (pc' := 103) rfl rfl rfl ?_
        refine go_new C (wd hw 1 rfl) (wd hw 2 rfl) (wd hw 3 rfl) at_103 (pc' := 106) rfl (ce' := 4) (sl' := 7) rfl rfl (by decide) (by decide) ?_
        intro h_457 a_458 g_459 E_460 E_461 D_462
        have n_463 : a_409 ≠ a_458 := own_ne_new A_454.lt g_459
        have n_464 : a_427 ≠ a_458 := own_ne_new A_455.lt g_459
        have n_465 : a_439 ≠ a_458 := own_ne_new A_456.lt g_459
        have g_466 : Z.heap.size ≤ a_458 := own_ge z_453 g_459
        have A_467 := Av.ext A_454 E_460
        have A_468 := Av.ext A_455 E_460
        have A_469 := Av.ext A_456 E_460
        have z_470 : Z.heap.size ≤ h_457.size := Nat.le_trans z_453 E_460.1
        have F_471 : Fld Z h_457 a_458 "com/example/holder/holder/protocol/PathCompression$Token" "place" "I" (.int (0 : Int32)) := D_462 (Or.inr (wd hw 11 rfl)) (ty := .int) (by decide)
        have F_472 : Fld Z h_457 a_458 "com/example/holder/holder/protocol/PathCompression$Token" "hint" "I" (.int (0 : Int32)) := D_462 (Or.inr (wd hw 13 rfl)) (ty := .int) (by decide)
        have F_473 : Fld Z h_457 a_458 "com/example/holder/holder/protocol/PathCompression$Token" "hintStamp" "[J" (.null) := D_462 (Or.inr (wd hw 15 rfl)) (ty := (.array .long)) (by decide)
        have F_474 : Fld Z h_457 a_458 "com/example/holder/holder/protocol/PathCompression$Token" "clock" "[J" (.null) := D_462 (Or.inr (wd hw 17 rfl)) (ty := (.array .long)) (by decide)
        refine go_dup C at_106 (pc' := 107) rfl rfl ?_
        refine go_iloadN C at_107 (pc' := 108) rfl rfl ?_
        refine go_iloadN C at_108 (pc' := 109) rfl rfl ?_
        refine go_aload C at_109 (pc' := 111) rfl rfl rfl ?_
        refine go_aload C at_111 (pc' := 113) rfl rfl rfl ?_
        refine go_specialN C (as := [.int x0, .int x1, .null, .ref a_439]) (rest := [.ref a_458]) (W := 1) (sat_init3nr l Z a0 hw a_458 x0 x1 a_439 _ _ E_461 F_471 F_472 F_473 F_474 g_466) rfl (wd hw 4 rfl) (wd hw 5 rfl) (wd hw 3 rfl) (wd hw 6 rfl) (by decide) pd_1 rfl rfl rfl (by decide) (by decide) (ce' := 4) (sl' := 7) rfl rfl (by decide) (by decide) at_113 (pc' := 116) rfl rfl ?_
        intro h_475 q_476
        obtain ⟨K_477, E_478, F_479⟩ := q_476
        have z_480 : Z.heap.size ≤ h_475.size := Nat.le_trans z_470 K_477.1
        have E_481 := Exa.keep E_461 K_477
        have A_482 := Av.keep A_467 K_477 (ninS n_463 nin0)
        have A_483 := Av.keep A_468 K_477 (ninS n_464 nin0)
        have A_484 := Av.keep A_469 K_477 (ninS n_465 nin0)
        refine go_astore C (Ls' := #[.val (.int x0), .val (.int x1), .val (.long x2), .second, .val (.long x3), .second, .val (.int x4), .val (.int (0 : Int32)), .val (.int (1 : Int32)), .val (.int (1 : Int32)), .val (.ref a_409), .val (.ref a_427), .val (.null), .val (.ref a_439), .val (.ref a_458), .unset, .unset, .unset]) at_116 (pc' := 118) rfl rfl rfl ?_
        refine go_aload C at_118 (pc' := 120) rfl rfl rfl ?_
        refine go_virtualP C (as := []) (rest := []) (W := 0) (.int (0 : Int32)) (sat_ch0 l Z a0 hw a_458 _ _ F_479) E_478 (wd hw 18 rfl) (wd hw 19 rfl) (wd hw 21 rfl) (wd hw 20 rfl) (wd hw 3 rfl) (wd hw 22 rfl) (by decide) pd_3 rfl rfl rfl (by decide) (by decide) rfl rfl (by decide) (by decide) at_120 (pc' := 123) rfl rfl ?_
        refine go_iload C at_123 (pc' := 125) rfl rfl ?_
        refine go_icmp C (0 : Int) (0 : Int) (by decide) (by decide) at_125 (by decide) (pc' := 132) (by decide) (pcN := 128) rfl (fun (c_485 : ¬ (0 : Int) = (0 : Int)) => by omega) (fun (c_485 : (0 : Int) = (0 : Int)) => ?_)
        refine go_iconst C (1 : Int32) at_128 (pc' := 129) rfl (by decide) ?_
        refine go_goto C at_129 (by decide) (pc' := 133) (by decide) ?_
        refine go_istore C (Ls' := #[.val (.int x0), .val (.int x1), .val (.long x2), .second, .val (.long x3), .second, .val (.int x4), .val (.int (0 : Int32)), .val (.int (1 : Int32)), .val (.int (1 : Int32)), .val (.ref a_409), .val (.ref a_427), .val (.null), .val (.ref a_439), .val (.ref a_458), .val (.int (1 : Int32)), .unset, .unset]) at_133 (pc' := 135) rfl rfl ?_
        refine go_new C (wd hw 1 rfl) (wd hw 2 rfl) (wd hw 3 rfl) at_135 (pc' := 138) rfl (ce' := 5) (sl' := 11) rfl rfl (by decide) (by decide) ?_
        intro h_486 a_487 g_488 E_489 E_490 D_491
        have n_492 : a_458 ≠ a_487 := own_ne_new E_478.lt g_488
        have n_493 : a_409 ≠ a_487 := own_ne_new A_482.lt g_488
        have n_494 : a_427 ≠ a_487 := own_ne_new A_483.lt g_488
        have n_495 : a_439 ≠ a_487 := own_ne_new A_484.lt g_488
        have g_496 : Z.heap.size ≤ a_487 := own_ge z_480 g_488
        have F_497 := Fld.ext E_489 F_479
        have E_498 := Exa.ext E_489 E_478
        have A_499 := Av.ext A_482 E_489
        have A_500 := Av.ext A_483 E_489
        have A_501 := Av.ext A_484 E_489
        have z_502 : Z.heap.size ≤ h_486.size := Nat.le_trans z_480 E_489.1
        have F_503 : Fld Z h_486 a_487 "com/example/holder/holder/protocol/PathCompression$Token" "place" "I" (.int (0 : Int32)) := D_491 (Or.inr (wd hw 11 rfl)) (ty := .int) (by decide)
        have F_504 : Fld Z h_486 a_487 "com/example/holder/holder/protocol/PathCompression$Token" "hint" "I" (.int (0 : Int32)) := D_491 (Or.inr (wd hw 13 rfl)) (ty := .int) (by decide)
        have F_505 : Fld Z h_486 a_487 "com/example/holder/holder/protocol/PathCompression$Token" "hintStamp" "[J" (.null) := D_491 (Or.inr (wd hw 15 rfl)) (ty := (.array .long)) (by decide)
        have F_506 : Fld Z h_486 a_487 "com/example/holder/holder/protocol/PathCompression$Token" "clock" "[J" (.null) := D_491 (Or.inr (wd hw 17 rfl)) (ty := (.array .long)) (by decide)
        refine go_dup C at_138 (pc' := 139) rfl rfl ?_
        refine go_specialN C (as := []) (rest := [.ref a_487]) (W := 1) (sat_init1 l Z a0 hw a_487 _ _ E_490 F_503 F_504 F_505 F_506 g_496) rfl (wd hw 23 rfl) (wd hw 24 rfl) (wd hw 3 rfl) (wd hw 25 rfl) (by decide) pd_2 rfl rfl rfl (by decide) (by decide) (ce' := 5) (sl' := 11) rfl rfl (by decide) (by decide) at_139 (pc' := 142) rfl rfl ?_
        intro h_507 q_508
        obtain ⟨K_509, E_510, F_511⟩ := q_508
        have z_512 : Z.heap.size ≤ h_507.size := Nat.le_trans z_502 K_509.1
        have F_513 := Fld.keep F_497 K_509 (ninS n_492 nin0)
        have E_514 := Exa.keep E_498 K_509
        have E_515 := Exa.keep E_490 K_509
        have A_516 := Av.keep A_499 K_509 (ninS n_493 nin0)
        have A_517 := Av.keep A_500 K_509 (ninS n_494 nin0)
        have A_518 := Av.keep A_501 K_509 (ninS n_495 nin0)
        refine go_astore C (Ls' := #[.val (.int x0), .val (.int x1), .val (.long x2), .second, .val (.long x3), .second, .val (.int x4), .val (.int (0 : Int32)), .val (.int (1 : Int32)), .val (.int (1 : Int32)), .val (.ref a_409), .val (.ref a_427), .val (.null), .val (.ref a_439), .val (.ref a_458), .val (.int (1 : Int32)), .val (.ref a_487), .unset]) at_142 (pc' := 144) rfl rfl rfl ?_
        refine go_new C (wd hw 1 rfl) (wd hw 2 rfl) (wd hw 3 rfl) at_144 (pc' := 147) rfl (ce' := 6) (sl' := 15) rfl rfl (by decide) (by decide) ?_
        intro h_519 a_520 g_521 E_522 E_523 D_524
        have n_525 : a_458 ≠ a_520 := own_ne_new E_514.lt g_521
        have n_526 : a_487 ≠ a_520 := own_ne_new E_510.lt g_521
        have n_527 : a_409 ≠ a_520 := own_ne_new A_516.lt g_521
        have n_528 : a_427 ≠ a_520 := own_ne_new A_517.lt g_521
        have n_529 : a_439 ≠ a_520 := own_ne_new A_518.lt g_521
        have g_530 : Z.heap.size ≤ a_520 := own_ge z_512 g_521
        have F_531 := Fld.ext E_522 F_513
        have F_532 := Fld.ext E_522 F_511
        have E_533 := Exa.ext E_522 E_514
        have E_534 := Exa.ext E_522 E_510
        have A_535 := Av.ext A_516 E_522
        have A_536 := Av.ext A_517 E_522
        have A_537 := Av.ext A_518 E_522
        have z_538 : Z.heap.size ≤ h_519.size := Nat.le_trans z_512 E_522.1
        have F_539 : Fld Z h_519 a_520 "com/example/holder/holder/protocol/PathCompression$Token" "place" "I" (.int (0 : Int32)) := D_524 (Or.inr (wd hw 11 rfl)) (ty := .int) (by decide)
        have F_540 : Fld Z h_519 a_520 "com/example/holder/holder/protocol/PathCompression$Token" "hint" "I" (.int (0 : Int32)) := D_524 (Or.inr (wd hw 13 rfl)) (ty := .int) (by decide)
        have F_541 : Fld Z h_519 a_520 "com/example/holder/holder/protocol/PathCompression$Token" "hintStamp" "[J" (.null) := D_524 (Or.inr (wd hw 15 rfl)) (ty := (.array .long)) (by decide)
        have F_542 : Fld Z h_519 a_520 "com/example/holder/holder/protocol/PathCompression$Token" "clock" "[J" (.null) := D_524 (Or.inr (wd hw 17 rfl)) (ty := (.array .long)) (by decide)
        refine go_dup C at_147 (pc' := 148) rfl rfl ?_
        refine go_iloadN C at_148 (pc' := 149) rfl rfl ?_
        refine go_specialN C (as := [.int x0]) (rest := [.ref a_520]) (W := 1) (sat_init2 l Z a0 hw a_520 x0 _ _ E_523 F_539 F_540 F_541 F_542 g_530) rfl (wd hw 30 rfl) (wd hw 27 rfl) (wd hw 3 rfl) (wd hw 28 rfl) (by decide) pd_4 rfl rfl rfl (by decide) (by decide) (ce' := 6) (sl' := 15) rfl rfl (by decide) (by decide) at_149 (pc' := 152) rfl rfl ?_
        intro h_543 q_544
        obtain ⟨K_545, E_546, F_547⟩ := q_544
        have z_548 : Z.heap.size ≤ h_543.size := Nat.le_trans z_538 K_545.1
        have F_549 := Fld.keep F_531 K_545 (ninS n_525 nin0)
        have F_550 := Fld.keep F_532 K_545 (ninS n_526 nin0)
        have E_551 := Exa.keep E_533 K_545
        have E_552 := Exa.keep E_534 K_545
        have E_553 := Exa.keep E_523 K_545
        have A_554 := Av.keep A_535 K_545 (ninS n_527 nin0)
        have A_555 := Av.keep A_536 K_545 (ninS n_528 nin0)
        have A_556 := Av.keep A_537 K_545 (ninS n_529 nin0)
        refine go_astore C (Ls' := #[.val (.int x0), .val (.int x1), .val (.long x2), .second, .val (.long x3), .second, .val (.int x4), .val (.int (0 : Int32)), .val (.int (1 : Int32)), .val (.int (1 : Int32)), .val (.ref a_409), .val (.ref a_427), .val (.null), .val (.ref a_439), .val (.ref a_458), .val (.int (1 : Int32)), .val (.ref a_487), .val (.ref a_520)]) at_152 (pc' := 154) rfl rfl rfl ?_
        refine go_iload C at_154 (pc' := 156) rfl rfl ?_
        refine go_if0 C (1 : Int) (by decide) at_156 (by decide) (pc' := 171) (by decide) (pcN := 159) rfl (fun (c_557 : (1 : Int) = 0) => by omega) (fun (c_557 : ¬ (1 : Int) = 0) => ?_)
        refine go_aload C at_159 (pc' := 161) rfl rfl rfl ?_
        refine go_virtualP C (as := []) (rest := []) (W := 0) (.int (0 : Int32)) (sat_ch0 l Z a0 hw a_487 _ _ F_550) E_552 (wd hw 18 rfl) (wd hw 19 rfl) (wd hw 21 rfl) (wd hw 20 rfl) (wd hw 3 rfl) (wd hw 22 rfl) (by decide) pd_3 rfl rfl rfl (by decide) (by decide) rfl rfl (by decide) (by decide) at_161 (pc' := 164) rfl rfl ?_
        refine go_if0 C (0 : Int) (by decide) at_164 (by decide) (pc' := 171) (by decide) (pcN := 167) rfl (fun (c_558 : ¬ (0 : Int) = 0) => by omega) (fun (c_558 : (0 : Int) = 0) => ?_)
        refine go_iconst C (1 : Int32) at_167 (pc' := 168) rfl (by decide) ?_
        refine go_goto C at_168 (by decide) (pc' := 172) (by decide) ?_
        refine go_istore C (Ls' := #[.val (.int x0), .val (.int x1), .val (.long x2), .second, .val (.long x3), .second, .val (.int x4), .val (.int (0 : Int32)), .val (.int (1 : Int32)), .val (.int (1 : Int32)), .val (.ref a_409), .val (.ref a_427), .val (.null), .val (.ref a_439), .val (.ref a_458), .val (.int (1 : Int32)), .val (.ref a_487), .val (.ref a_520)]) at_172 (pc' := 174) rfl rfl ?_
        refine go_iload C at_174 (pc' := 176) rfl rfl ?_
        refine go_if0 C (1 : Int) (by decide) at_176 (by decide) (pc' := 191) (by decide) (pcN := 179) rfl (fun (c_559 : (1 : Int) = 0) => by omega) (fun (c_559 : ¬ (1 : Int) = 0) => ?_)
        refine go_aload C at_179 (pc' := 181) rfl rfl rfl ?_
        refine go_virtualP C (as := []) (rest := []) (W := 0) (.int (0 : Int32)) (sat_ch0 l Z a0 hw a_520 _ _ F_547) E_546 (wd hw 18 rfl) (wd hw 19 rfl) (wd hw 21 rfl) (wd hw 20 rfl) (wd hw 3 rfl) (wd hw 22 rfl) (by decide) pd_3 rfl rfl rfl (by decide) (by decide) rfl rfl (by decide) (by decide) at_181 (pc' := 184) rfl rfl ?_
        refine go_if0 C (0 : Int) (by decide) at_184 (by decide) (pc' := 191) (by decide) (pcN := 187) rfl (fun (c_560 : ¬ (0 : Int) = 0) => by omega) (fun (c_560 : (0 : Int) = 0) => ?_)
        refine go_iconst C (1 : Int32) at_187 (pc' := 188) rfl (by decide) ?_
        refine go_goto C at_188 (by decide) (pc' := 192) (by decide) ?_
        refine go_istore C (Ls' := #[.val (.int x0), .val (.int x1), .val (.long x2), .second, .val (.long x3), .second, .val (.int x4), .val (.int (0 : Int32)), .val (.int (1 : Int32)), .val (.int (1 : Int32)), .val (.ref a_409), .val (.ref a_427), .val (.null), .val (.ref a_439), .val (.ref a_458), .val (.int (1 : Int32)), .val (.ref a_487), .val (.ref a_520)]) at_192 (pc' := 194) rfl rfl ?_
        refine go_iload C at_194 (pc' := 196) rfl rfl ?_
        refine go_ireturnN C (z' := (1 : Int32)) rfl (by simp) rfl at_196 (by decide) (by decide) ?_
        exact ⟨_, rfl, rfl⟩
  · skip
    refine go_iconst C (1 : Int32) at_7 (pc' := 8) rfl (by decide) ?_
    refine go_goto C at_8 (by decide) (pc' := 12) (by decide) ?_
    refine go_istore C (Ls' := #[.val (.int x0), .val (.int x1), .val (.long x2), .second, .val (.long x3), .second, .val (.int x4), .val (.int (1 : Int32)), .unset, .unset, .unset, .unset, .unset, .unset, .unset, .unset, .unset, .unset]) at_12 (pc' := 14) rfl rfl ?_
    refine go_iload C at_14 (pc' := 16) rfl rfl ?_
    refine go_iconst C (2 : Int32) at_16 (pc' := 17) rfl (by decide) ?_
    refine go_iand C at_17 (pc' := 18) rfl ?_
    refine go_if0 C ((x4 &&& (2 : Int32)).toInt) rfl at_18 (by decide) (pc' := 25) (by decide) (pcN := 21) rfl (fun (c_561 : ((x4 &&& (2 : Int32)).toInt) = 0) => ?_) (fun (c_561 : ¬ ((x4 &&& (2 : Int32)).toInt) = 0) => ?_)
    · skip
      refine go_iconst C (0 : Int32) at_25 (pc' := 26) rfl (by decide) ?_
      refine go_istore C (Ls' := #[.val (.int x0), .val (.int x1), .val (.long x2), .second, .val (.long x3), .second, .val (.int x4), .val (.int (1 : Int32)), .val (.int (0 : Int32)), .unset, .unset, .unset, .unset, .unset, .unset, .unset, .unset, .unset]) at_26 (pc' := 28) rfl rfl ?_
      refine go_iload C at_28 (pc' := 30) rfl rfl ?_
      refine go_iconst C (4 : Int32) at_30 (pc' := 31) rfl (by decide) ?_
      refine go_iand C at_31 (pc' := 32) rfl ?_
      refine go_if0 C ((x4 &&& (4 : Int32)).toInt) rfl at_32 (by decide) (pc' := 39) (by decide) (pcN := 35) rfl (fun (c_562 : ((x4 &&& (4 : Int32)).toInt) = 0) => ?_) (fun (c_562 : ¬ ((x4 &&& (4 : Int32)).toInt) = 0) => ?_)
      · skip
        refine go_iconst C (0 : Int32) at_39 (pc' := 40) rfl (by decide) ?_
        refine go_istore C (Ls' := #[.val (.int x0), .val (.int x1), .val (.long x2), .second, .val (.long x3), .second, .val (.int x4), .val (.int (1 : Int32)), .val (.int (0 : Int32)), .val (.int (0 : Int32)), .unset, .unset, .unset, .unset, .unset, .unset, .unset, .unset]) at_40 (pc' := 42) rfl rfl ?_
        refine go_iconst C (2 : Int32) at_42 (pc' := 43) rfl (by decide) ?_
        refine go_newarray C (wd hw 0 rfl) rfl 2 2 (by decide) (by decide) (by decide) (ce' := 1) (sl' := 2) rfl rfl (by decide) (by decide) at_43 (pc' := 45) rfl ?_
        intro h_563 a_564 g_565 E_566 A_567
        have g_568 : Z.heap.size ≤ a_564 := own_ge (Nat.le_refl _) g_565
        have z_569 : Z.heap.size ≤ h_563.size := Nat.le_trans (Nat.le_refl _) E_566.1
        have A_570 : Av Z h_563 a_564 .long [.long (0 : Int64), .long (0 : Int64)] := A_567
        refine go_dup C at_45 (pc' := 46) rfl rfl ?_
        refine go_iconst C (0 : Int32) at_46 (pc' := 47) rfl (by decide) ?_
        refine go_lloadN C at_47 (pc' := 48) rfl rfl ?_
        refine go_lastore C A_570 0 (by decide) (show 0 < 2 from by decide) g_568 at_48 (pc' := 49) rfl ?_
        intro h_571 W_572 A_573
        have z_574 : Z.heap.size ≤ h_571.size := W_572.size.symm ▸ z_569
        have A_575 : Av Z h_571 a_564 .long [.long x2, .long (0 : Int64)] := A_573
        refine go_dup C at_49 (pc' := 50) rfl rfl ?_
        refine go_iconst C (1 : Int32) at_50 (pc' := 51) rfl (by decide) ?_
        refine go_lload C at_51 (pc' := 53) rfl rfl ?_
        refine go_lastore C A_575 1 (by decide) (show 1 < 2 from by decide) g_568 at_53 (pc' := 54) rfl ?_
        intro h_576 W_577 A_578
        have z_579 : Z.heap.size ≤ h_576.size := W_577.size.symm ▸ z_574
        have A_580 : Av Z h_576 a_564 .long [.long x2, .long x3] := A_578
        refine go_astore C (Ls' := #[.val (.int x0), .val (.int x1), .val (.long x2), .second, .val (.long x3), .second, .val (.int x4), .val (.int (1 : Int32)), .val (.int (0 : Int32)), .val (.int (0 : Int32)), .val (.ref a_564), .unset, .unset, .unset, .unset, .unset, .unset, .unset]) at_54 (pc' := 56) rfl rfl rfl ?_
        refine go_iconst C (0 : Int32) at_56 (pc' := 57) rfl (by decide) ?_
        refine go_newarray C (wd hw 0 rfl) rfl 0 0 (by decide) (by decide) (by decide) (ce' := 2) (sl' := 2) rfl rfl (by decide) (by decide) at_57 (pc' := 59) rfl ?_
        intro h_581 a_582 g_583 E_584 A_585
        have n_586 : a_564 ≠ a_582 := own_ne_new A_580.lt g_583
        have g_587 : Z.heap.size ≤ a_582 := own_ge z_579 g_583
        have A_588 := Av.ext A_580 E_584
        have z_589 : Z.heap.size ≤ h_581.size := Nat.le_trans z_579 E_584.1
        have A_590 : Av Z h_581 a_582 .long [] := A_585
        refine go_astore C (Ls' := #[.val (.int x0), .val (.int x1), .val (.long x2), .second, .val (.long x3), .second, .val (.int x4), .val (.int (1 : Int32)), .val (.int (0 : Int32)), .val (.int (0 : Int32)), .val (.ref a_564), .val (.ref a_582), .unset, .unset, .unset, .unset, .unset, .unset]) at_59 (pc' := 61) rfl rfl rfl ?_
        refine go_iload C at_61 (pc' := 63) rfl rfl ?_
        refine go_if0 C (1 : Int) (by decide) at_63 (by decide) (pc' := 81) (by decide) (pcN := 66) rfl (fun (c_591 : (1 : Int) = 0) => by omega) (fun (c_591 : ¬ (1 : Int) = 0) => ?_)
        refine go_iload C at_66 (pc' := 68) rfl rfl ?_
        refine go_if0 C (0 : Int) (by decide) at_68 (by decide) (pc' := 76) (by decide) (pcN := 71) rfl (fun (c_592 : (0 : Int) = 0) => ?_) (fun (c_592 : ¬ (0 : Int) = 0) => by omega)
        refine go_aload C at_76 (pc' := 78) rfl rfl rfl ?_
        refine go_goto C at_78 (by decide) (pc' := 82) (by decide) ?_
        refine go_astore C (Ls' := #[.val (.int x0), .val (.int x1), .val (.long x2), .second, .val (.long x3), .second, .val (.int x4), .val (.int (1 : Int32)), .val (.int (0 : Int32)), .val (.int (0 : Int32)), .val (.ref a_564), .val (.ref a_582), .val (.ref a_564), .unset, .unset, .unset, .unset, .unset]) at_82 (pc' := 84) rfl rfl rfl ?_
        refine go_iload C at_84 (pc' := 86) rfl rfl ?_
        refine go_if0 C (0 : Int) (by decide) at_86 (by decide) (pc' := 100) (by decide) (pcN := 89) rfl (fun (c_593 : (0 : Int) = 0) => ?_) (fun (c_593 : ¬ (0 : Int) = 0) => by omega)
        refine go_aconst_null C at_100 (pc' := 101) rfl ?_
        refine go_astore C (Ls' := #[.val (.int x0), .val (.int x1), .val (.long x2), .second, .val (.long x3), .second, .val (.int x4), .val (.int (1 : Int32)), .val (.int (0 : Int32)), .val (.int (0 : Int32)), .val (.ref a_564), .val (.ref a_582), .val (.ref a_564), .val (.null), .unset, .unset, .unset, .unset]) at_101 (pc' := 103) rfl rfl rfl ?_
        refine go_new C (wd hw 1 rfl) (wd hw 2 rfl) (wd hw 3 rfl) at_103 (pc' := 106) rfl (ce' := 3) (sl' := 6) rfl rfl (by decide) (by decide) ?_
        intro h_594 a_595 g_596 E_597 E_598 D_599
        have n_600 : a_564 ≠ a_595 := own_ne_new A_588.lt g_596
        have n_601 : a_582 ≠ a_595 := own_ne_new A_590.lt g_596
        have g_602 : Z.heap.size ≤ a_595 := own_ge z_589 g_596
        have A_603 := Av.ext A_588 E_597
        have A_604 := Av.ext A_590 E_597
        have z_605 : Z.heap.size ≤ h_594.size := Nat.le_trans z_589 E_597.1
        have F_606 : Fld Z h_594 a_595 "com/example/holder/holder/protocol/PathCompression$Token" "place" "I" (.int (0 : Int32)) := D_599 (Or.inr (wd hw 11 rfl)) (ty := .int) (by decide)
        have F_607 : Fld Z h_594 a_595 "com/example/holder/holder/protocol/PathCompression$Token" "hint" "I" (.int (0 : Int32)) := D_599 (Or.inr (wd hw 13 rfl)) (ty := .int) (by decide)
        have F_608 : Fld Z h_594 a_595 "com/example/holder/holder/protocol/PathCompression$Token" "hintStamp" "[J" (.null) := D_599 (Or.inr (wd hw 15 rfl)) (ty := (.array .long)) (by decide)
        have F_609 : Fld Z h_594 a_595 "com/example/holder/holder/protocol/PathCompression$Token" "clock" "[J" (.null) := D_599 (Or.inr (wd hw 17 rfl)) (ty := (.array .long)) (by decide)
        refine go_dup C at_106 (pc' := 107) rfl rfl ?_
        refine go_iloadN C at_107 (pc' := 108) rfl rfl ?_
        refine go_iloadN C at_108 (pc' := 109) rfl rfl ?_
        refine go_aload C at_109 (pc' := 111) rfl rfl rfl ?_
        refine go_aload C at_111 (pc' := 113) rfl rfl rfl ?_
        refine go_specialN C (as := [.int x0, .int x1, .ref a_564, .null]) (rest := [.ref a_595]) (W := 1) (sat_init3rn l Z a0 hw a_595 x0 x1 a_564 _ _ E_598 F_606 F_607 F_608 F_609 g_602) rfl (wd hw 4 rfl) (wd hw 5 rfl) (wd hw 3 rfl) (wd hw 6 rfl) (by decide) pd_1 rfl rfl rfl (by decide) (by decide) (ce' := 3) (sl' := 6) rfl rfl (by decide) (by decide) at_113 (pc' := 116) rfl rfl ?_
        intro h_610 q_611
        obtain ⟨K_612, E_613, F_614⟩ := q_611
        have z_615 : Z.heap.size ≤ h_610.size := Nat.le_trans z_605 K_612.1
        have E_616 := Exa.keep E_598 K_612
        have A_617 := Av.keep A_603 K_612 (ninS n_600 nin0)
        have A_618 := Av.keep A_604 K_612 (ninS n_601 nin0)
        refine go_astore C (Ls' := #[.val (.int x0), .val (.int x1), .val (.long x2), .second, .val (.long x3), .second, .val (.int x4), .val (.int (1 : Int32)), .val (.int (0 : Int32)), .val (.int (0 : Int32)), .val (.ref a_564), .val (.ref a_582), .val (.ref a_564), .val (.null), .val (.ref a_595), .unset, .unset, .unset]) at_116 (pc' := 118) rfl rfl rfl ?_
        refine go_aload C at_118 (pc' := 120) rfl rfl rfl ?_
        refine go_virtualP C (as := []) (rest := []) (W := 0) (.int (1 : Int32)) (sat_ch1 l Z a0 hw a_595 a_564 _ _ F_614) E_613 (wd hw 18 rfl) (wd hw 19 rfl) (wd hw 21 rfl) (wd hw 20 rfl) (wd hw 3 rfl) (wd hw 22 rfl) (by decide) pd_3 rfl rfl rfl (by decide) (by decide) rfl rfl (by decide) (by decide) at_120 (pc' := 123) rfl rfl ?_
        refine go_iload C at_123 (pc' := 125) rfl rfl ?_
        refine go_icmp C (1 : Int) (1 : Int) (by decide) (by decide) at_125 (by decide) (pc' := 132) (by decide) (pcN := 128) rfl (fun (c_619 : ¬ (1 : Int) = (1 : Int)) => by omega) (fun (c_619 : (1 : Int) = (1 : Int)) => ?_)
        refine go_iconst C (1 : Int32) at_128 (pc' := 129) rfl (by decide) ?_
        refine go_goto C at_129 (by decide) (pc' := 133) (by decide) ?_
        refine go_istore C (Ls' := #[.val (.int x0), .val (.int x1), .val (.long x2), .second, .val (.long x3), .second, .val (.int x4), .val (.int (1 : Int32)), .val (.int (0 : Int32)), .val (.int (0 : Int32)), .val (.ref a_564), .val (.ref a_582), .val (.ref a_564), .val (.null), .val (.ref a_595), .val (.int (1 : Int32)), .unset, .unset]) at_133 (pc' := 135) rfl rfl ?_
        refine go_new C (wd hw 1 rfl) (wd hw 2 rfl) (wd hw 3 rfl) at_135 (pc' := 138) rfl (ce' := 4) (sl' := 10) rfl rfl (by decide) (by decide) ?_
        intro h_620 a_621 g_622 E_623 E_624 D_625
        have n_626 : a_595 ≠ a_621 := own_ne_new E_613.lt g_622
        have n_627 : a_564 ≠ a_621 := own_ne_new A_617.lt g_622
        have n_628 : a_582 ≠ a_621 := own_ne_new A_618.lt g_622
        have g_629 : Z.heap.size ≤ a_621 := own_ge z_615 g_622
        have F_630 := Fld.ext E_623 F_614
        have E_631 := Exa.ext E_623 E_613
        have A_632 := Av.ext A_617 E_623
        have A_633 := Av.ext A_618 E_623
        have z_634 : Z.heap.size ≤ h_620.size := Nat.le_trans z_615 E_623.1
        have F_635 : Fld Z h_620 a_621 "com/example/holder/holder/protocol/PathCompression$Token" "place" "I" (.int (0 : Int32)) := D_625 (Or.inr (wd hw 11 rfl)) (ty := .int) (by decide)
        have F_636 : Fld Z h_620 a_621 "com/example/holder/holder/protocol/PathCompression$Token" "hint" "I" (.int (0 : Int32)) := D_625 (Or.inr (wd hw 13 rfl)) (ty := .int) (by decide)
        have F_637 : Fld Z h_620 a_621 "com/example/holder/holder/protocol/PathCompression$Token" "hintStamp" "[J" (.null) := D_625 (Or.inr (wd hw 15 rfl)) (ty := (.array .long)) (by decide)
        have F_638 : Fld Z h_620 a_621 "com/example/holder/holder/protocol/PathCompression$Token" "clock" "[J" (.null) := D_625 (Or.inr (wd hw 17 rfl)) (ty := (.array .long)) (by decide)
        refine go_dup C at_138 (pc' := 139) rfl rfl ?_
        refine go_specialN C (as := []) (rest := [.ref a_621]) (W := 1) (sat_init1 l Z a0 hw a_621 _ _ E_624 F_635 F_636 F_637 F_638 g_629) rfl (wd hw 23 rfl) (wd hw 24 rfl) (wd hw 3 rfl) (wd hw 25 rfl) (by decide) pd_2 rfl rfl rfl (by decide) (by decide) (ce' := 4) (sl' := 10) rfl rfl (by decide) (by decide) at_139 (pc' := 142) rfl rfl ?_
        intro h_639 q_640
        obtain ⟨K_641, E_642, F_643⟩ := q_640
        have z_644 : Z.heap.size ≤ h_639.size := Nat.le_trans z_634 K_641.1
        have F_645 := Fld.keep F_630 K_641 (ninS n_626 nin0)
        have E_646 := Exa.keep E_631 K_641
        have E_647 := Exa.keep E_624 K_641
        have A_648 := Av.keep A_632 K_641 (ninS n_627 nin0)
        have A_649 := Av.keep A_633 K_641 (ninS n_628 nin0)
        refine go_astore C (Ls' := #[.val (.int x0), .val (.int x1), .val (.long x2), .second, .val (.long x3), .second, .val (.int x4), .val (.int (1 : Int32)), .val (.int (0 : Int32)), .val (.int (0 : Int32)), .val (.ref a_564), .val (.ref a_582), .val (.ref a_564), .val (.null), .val (.ref a_595), .val (.int (1 : Int32)), .val (.ref a_621), .unset]) at_142 (pc' := 144) rfl rfl rfl ?_
        refine go_new C (wd hw 1 rfl) (wd hw 2 rfl) (wd hw 3 rfl) at_144 (pc' := 147) rfl (ce' := 5) (sl' := 14) rfl rfl (by decide) (by decide) ?_
        intro h_650 a_651 g_652 E_653 E_654 D_655
        have n_656 : a_595 ≠ a_651 := own_ne_new E_646.lt g_652
        have n_657 : a_621 ≠ a_651 := own_ne_new E_642.lt g_652
        have n_658 : a_564 ≠ a_651 := own_ne_new A_648.lt g_652
        have n_659 : a_582 ≠ a_651 := own_ne_new A_649.lt g_652
        have g_660 : Z.heap.size ≤ a_651 := own_ge z_644 g_652
        have F_661 := Fld.ext E_653 F_645
        have F_662 := Fld.ext E_653 F_643
        have E_663 := Exa.ext E_653 E_646
        have E_664 := Exa.ext E_653 E_642
        have A_665 := Av.ext A_648 E_653
        have A_666 := Av.ext A_649 E_653
        have z_667 : Z.heap.size ≤ h_650.size := Nat.le_trans z_644 E_653.1
        have F_668 : Fld Z h_650 a_651 "com/example/holder/holder/protocol/PathCompression$Token" "place" "I" (.int (0 : Int32)) := D_655 (Or.inr (wd hw 11 rfl)) (ty := .int) (by decide)
        have F_669 : Fld Z h_650 a_651 "com/example/holder/holder/protocol/PathCompression$Token" "hint" "I" (.int (0 : Int32)) := D_655 (Or.inr (wd hw 13 rfl)) (ty := .int) (by decide)
        have F_670 : Fld Z h_650 a_651 "com/example/holder/holder/protocol/PathCompression$Token" "hintStamp" "[J" (.null) := D_655 (Or.inr (wd hw 15 rfl)) (ty := (.array .long)) (by decide)
        have F_671 : Fld Z h_650 a_651 "com/example/holder/holder/protocol/PathCompression$Token" "clock" "[J" (.null) := D_655 (Or.inr (wd hw 17 rfl)) (ty := (.array .long)) (by decide)
        refine go_dup C at_147 (pc' := 148) rfl rfl ?_
        refine go_iloadN C at_148 (pc' := 149) rfl rfl ?_
        refine go_specialN C (as := [.int x0]) (rest := [.ref a_651]) (W := 1) (sat_init2 l Z a0 hw a_651 x0 _ _ E_654 F_668 F_669 F_670 F_671 g_660) rfl (wd hw 30 rfl) (wd hw 27 rfl) (wd hw 3 rfl) (wd hw 28 rfl) (by decide) pd_4 rfl rfl rfl (by decide) (by decide) (ce' := 5) (sl' := 14) rfl rfl (by decide) (by decide) at_149 (pc' := 152) rfl rfl ?_
        intro h_672 q_673
        obtain ⟨K_674, E_675, F_676⟩ := q_673
        have z_677 : Z.heap.size ≤ h_672.size := Nat.le_trans z_667 K_674.1
        have F_678 := Fld.keep F_661 K_674 (ninS n_656 nin0)
        have F_679 := Fld.keep F_662 K_674 (ninS n_657 nin0)
        have E_680 := Exa.keep E_663 K_674
        have E_681 := Exa.keep E_664 K_674
        have E_682 := Exa.keep E_654 K_674
        have A_683 := Av.keep A_665 K_674 (ninS n_658 nin0)
        have A_684 := Av.keep A_666 K_674 (ninS n_659 nin0)
        refine go_astore C (Ls' := #[.val (.int x0), .val (.int x1), .val (.long x2), .second, .val (.long x3), .second, .val (.int x4), .val (.int (1 : Int32)), .val (.int (0 : Int32)), .val (.int (0 : Int32)), .val (.ref a_564), .val (.ref a_582), .val (.ref a_564), .val (.null), .val (.ref a_595), .val (.int (1 : Int32)), .val (.ref a_621), .val (.ref a_651)]) at_152 (pc' := 154) rfl rfl rfl ?_
        refine go_iload C at_154 (pc' := 156) rfl rfl ?_
        refine go_if0 C (1 : Int) (by decide) at_156 (by decide) (pc' := 171) (by decide) (pcN := 159) rfl (fun (c_685 : (1 : Int) = 0) => by omega) (fun (c_685 : ¬ (1 : Int) = 0) => ?_)
        refine go_aload C at_159 (pc' := 161) rfl rfl rfl ?_
        refine go_virtualP C (as := []) (rest := []) (W := 0) (.int (0 : Int32)) (sat_ch0 l Z a0 hw a_621 _ _ F_679) E_681 (wd hw 18 rfl) (wd hw 19 rfl) (wd hw 21 rfl) (wd hw 20 rfl) (wd hw 3 rfl) (wd hw 22 rfl) (by decide) pd_3 rfl rfl rfl (by decide) (by decide) rfl rfl (by decide) (by decide) at_161 (pc' := 164) rfl rfl ?_
        refine go_if0 C (0 : Int) (by decide) at_164 (by decide) (pc' := 171) (by decide) (pcN := 167) rfl (fun (c_686 : ¬ (0 : Int) = 0) => by omega) (fun (c_686 : (0 : Int) = 0) => ?_)
        refine go_iconst C (1 : Int32) at_167 (pc' := 168) rfl (by decide) ?_
        refine go_goto C at_168 (by decide) (pc' := 172) (by decide) ?_
        refine go_istore C (Ls' := #[.val (.int x0), .val (.int x1), .val (.long x2), .second, .val (.long x3), .second, .val (.int x4), .val (.int (1 : Int32)), .val (.int (0 : Int32)), .val (.int (0 : Int32)), .val (.ref a_564), .val (.ref a_582), .val (.ref a_564), .val (.null), .val (.ref a_595), .val (.int (1 : Int32)), .val (.ref a_621), .val (.ref a_651)]) at_172 (pc' := 174) rfl rfl ?_
        refine go_iload C at_174 (pc' := 176) rfl rfl ?_
        refine go_if0 C (1 : Int) (by decide) at_176 (by decide) (pc' := 191) (by decide) (pcN := 179) rfl (fun (c_687 : (1 : Int) = 0) => by omega) (fun (c_687 : ¬ (1 : Int) = 0) => ?_)
        refine go_aload C at_179 (pc' := 181) rfl rfl rfl ?_
        refine go_virtualP C (as := []) (rest := []) (W := 0) (.int (0 : Int32)) (sat_ch0 l Z a0 hw a_651 _ _ F_676) E_675 (wd hw 18 rfl) (wd hw 19 rfl) (wd hw 21 rfl) (wd hw 20 rfl) (wd hw 3 rfl) (wd hw 22 rfl) (by decide) pd_3 rfl rfl rfl (by decide) (by decide) rfl rfl (by decide) (by decide) at_181 (pc' := 184) rfl rfl ?_
        refine go_if0 C (0 : Int) (by decide) at_184 (by decide) (pc' := 191) (by decide) (pcN := 187) rfl (fun (c_688 : ¬ (0 : Int) = 0) => by omega) (fun (c_688 : (0 : Int) = 0) => ?_)
        refine go_iconst C (1 : Int32) at_187 (pc' := 188) rfl (by decide) ?_
        refine go_goto C at_188 (by decide) (pc' := 192) (by decide) ?_
        refine go_istore C (Ls' := #[.val (.int x0), .val (.int x1), .val (.long x2), .second, .val (.long x3), .second, .val (.int x4), .val (.int (1 : Int32)), .val (.int (0 : Int32)), .val (.int (0 : Int32)), .val (.ref a_564), .val (.ref a_582), .val (.ref a_564), .val (.null), .val (.ref a_595), .val (.int (1 : Int32)), .val (.ref a_621), .val (.ref a_651)]) at_192 (pc' := 194) rfl rfl ?_
        refine go_iload C at_194 (pc' := 196) rfl rfl ?_
        refine go_ireturnN C (z' := (1 : Int32)) rfl (by simp) rfl at_196 (by decide) (by decide) ?_
        exact ⟨_, rfl, rfl⟩
      · skip
        refine go_iconst C (1 : Int32) at_35 (pc' := 36) rfl (by decide) ?_
        refine go_goto C at_36 (by decide) (pc' := 40) (by decide) ?_
        refine go_istore C (Ls' := #[.val (.int x0), .val (.int x1), .val (.long x2), .second, .val (.long x3), .second, .val (.int x4), .val (.int (1 : Int32)), .val (.int (0 : Int32)), .val (.int (1 : Int32)), .unset, .unset, .unset, .unset, .unset, .unset, .unset, .unset]) at_40 (pc' := 42) rfl rfl ?_
        refine go_iconst C (2 : Int32) at_42 (pc' := 43) rfl (by decide) ?_
        refine go_newarray C (wd hw 0 rfl) rfl 2 2 (by decide) (by decide) (by decide) (ce' := 1) (sl' := 2) rfl rfl (by decide) (by decide) at_43 (pc' := 45) rfl ?_
        intro h_689 a_690 g_691 E_692 A_693
        have g_694 : Z.heap.size ≤ a_690 := own_ge (Nat.le_refl _) g_691
        have z_695 : Z.heap.size ≤ h_689.size := Nat.le_trans (Nat.le_refl _) E_692.1
        have A_696 : Av Z h_689 a_690 .long [.long (0 : Int64), .long (0 : Int64)] := A_693
        refine go_dup C at_45 (pc' := 46) rfl rfl ?_
        refine go_iconst C (0 : Int32) at_46 (pc' := 47) rfl (by decide) ?_
        refine go_lloadN C at_47 (pc' := 48) rfl rfl ?_
        refine go_lastore C A_696 0 (by decide) (show 0 < 2 from by decide) g_694 at_48 (pc' := 49) rfl ?_
        intro h_697 W_698 A_699
        have z_700 : Z.heap.size ≤ h_697.size := W_698.size.symm ▸ z_695
        have A_701 : Av Z h_697 a_690 .long [.long x2, .long (0 : Int64)] := A_699
        refine go_dup C at_49 (pc' := 50) rfl rfl ?_
        refine go_iconst C (1 : Int32) at_50 (pc' := 51) rfl (by decide) ?_
        refine go_lload C at_51 (pc' := 53) rfl rfl ?_
        refine go_lastore C A_701 1 (by decide) (show 1 < 2 from by decide) g_694 at_53 (pc' := 54) rfl ?_
        intro h_702 W_703 A_704
        have z_705 : Z.heap.size ≤ h_702.size := W_703.size.symm ▸ z_700
        have A_706 : Av Z h_702 a_690 .long [.long x2, .long x3] := A_704
        refine go_astore C (Ls' := #[.val (.int x0), .val (.int x1), .val (.long x2), .second, .val (.long x3), .second, .val (.int x4), .val (.int (1 : Int32)), .val (.int (0 : Int32)), .val (.int (1 : Int32)), .val (.ref a_690), .unset, .unset, .unset, .unset, .unset, .unset, .unset]) at_54 (pc' := 56) rfl rfl rfl ?_
        refine go_iconst C (0 : Int32) at_56 (pc' := 57) rfl (by decide) ?_
        refine go_newarray C (wd hw 0 rfl) rfl 0 0 (by decide) (by decide) (by decide) (ce' := 2) (sl' := 2) rfl rfl (by decide) (by decide) at_57 (pc' := 59) rfl ?_
        intro h_707 a_708 g_709 E_710 A_711
        have n_712 : a_690 ≠ a_708 := own_ne_new A_706.lt g_709
        have g_713 : Z.heap.size ≤ a_708 := own_ge z_705 g_709
        have A_714 := Av.ext A_706 E_710
        have z_715 : Z.heap.size ≤ h_707.size := Nat.le_trans z_705 E_710.1
        have A_716 : Av Z h_707 a_708 .long [] := A_711
        refine go_astore C (Ls' := #[.val (.int x0), .val (.int x1), .val (.long x2), .second, .val (.long x3), .second, .val (.int x4), .val (.int (1 : Int32)), .val (.int (0 : Int32)), .val (.int (1 : Int32)), .val (.ref a_690), .val (.ref a_708), .unset, .unset, .unset, .unset, .unset, .unset]) at_59 (pc' := 61) rfl rfl rfl ?_
        refine go_iload C at_61 (pc' := 63) rfl rfl ?_
        refine go_if0 C (1 : Int) (by decide) at_63 (by decide) (pc' := 81) (by decide) (pcN := 66) rfl (fun (c_717 : (1 : Int) = 0) => by omega) (fun (c_717 : ¬ (1 : Int) = 0) => ?_)
        refine go_iload C at_66 (pc' := 68) rfl rfl ?_
        refine go_if0 C (1 : Int) (by decide) at_68 (by decide) (pc' := 76) (by decide) (pcN := 71) rfl (fun (c_718 : (1 : Int) = 0) => by omega) (fun (c_718 : ¬ (1 : Int) = 0) => ?_)
        refine go_aload C at_71 (pc' := 73) rfl rfl rfl ?_
        refine go_goto C at_73 (by decide) (pc' := 82) (by decide) ?_
        refine go_astore C (Ls' := #[.val (.int x0), .val (.int x1), .val (.long x2), .second, .val (.long x3), .second, .val (.int x4), .val (.int (1 : Int32)), .val (.int (0 : Int32)), .val (.int (1 : Int32)), .val (.ref a_690), .val (.ref a_708), .val (.ref a_708), .unset, .unset, .unset, .unset, .unset]) at_82 (pc' := 84) rfl rfl rfl ?_
        refine go_iload C at_84 (pc' := 86) rfl rfl ?_
        refine go_if0 C (0 : Int) (by decide) at_86 (by decide) (pc' := 100) (by decide) (pcN := 89) rfl (fun (c_719 : (0 : Int) = 0) => ?_) (fun (c_719 : ¬ (0 : Int) = 0) => by omega)
        refine go_aconst_null C at_100 (pc' := 101) rfl ?_
        refine go_astore C (Ls' := #[.val (.int x0), .val (.int x1), .val (.long x2), .second, .val (.long x3), .second, .val (.int x4), .val (.int (1 : Int32)), .val (.int (0 : Int32)), .val (.int (1 : Int32)), .val (.ref a_690), .val (.ref a_708), .val (.ref a_708), .val (.null), .unset, .unset, .unset, .unset]) at_101 (pc' := 103) rfl rfl rfl ?_
        refine go_new C (wd hw 1 rfl) (wd hw 2 rfl) (wd hw 3 rfl) at_103 (pc' := 106) rfl (ce' := 3) (sl' := 6) rfl rfl (by decide) (by decide) ?_
        intro h_720 a_721 g_722 E_723 E_724 D_725
        have n_726 : a_690 ≠ a_721 := own_ne_new A_714.lt g_722
        have n_727 : a_708 ≠ a_721 := own_ne_new A_716.lt g_722
        have g_728 : Z.heap.size ≤ a_721 := own_ge z_715 g_722
        have A_729 := Av.ext A_714 E_723
        have A_730 := Av.ext A_716 E_723
        have z_731 : Z.heap.size ≤ h_720.size := Nat.le_trans z_715 E_723.1
        have F_732 : Fld Z h_720 a_721 "com/example/holder/holder/protocol/PathCompression$Token" "place" "I" (.int (0 : Int32)) := D_725 (Or.inr (wd hw 11 rfl)) (ty := .int) (by decide)
        have F_733 : Fld Z h_720 a_721 "com/example/holder/holder/protocol/PathCompression$Token" "hint" "I" (.int (0 : Int32)) := D_725 (Or.inr (wd hw 13 rfl)) (ty := .int) (by decide)
        have F_734 : Fld Z h_720 a_721 "com/example/holder/holder/protocol/PathCompression$Token" "hintStamp" "[J" (.null) := D_725 (Or.inr (wd hw 15 rfl)) (ty := (.array .long)) (by decide)
        have F_735 : Fld Z h_720 a_721 "com/example/holder/holder/protocol/PathCompression$Token" "clock" "[J" (.null) := D_725 (Or.inr (wd hw 17 rfl)) (ty := (.array .long)) (by decide)
        refine go_dup C at_106 (pc' := 107) rfl rfl ?_
        refine go_iloadN C at_107 (pc' := 108) rfl rfl ?_
        refine go_iloadN C at_108 (pc' := 109) rfl rfl ?_
        refine go_aload C at_109 (pc' := 111) rfl rfl rfl ?_
        refine go_aload C at_111 (pc' := 113) rfl rfl rfl ?_
        refine go_specialN C (as := [.int x0, .int x1, .ref a_708, .null]) (rest := [.ref a_721]) (W := 1) (sat_init3rn l Z a0 hw a_721 x0 x1 a_708 _ _ E_724 F_732 F_733 F_734 F_735 g_728) rfl (wd hw 4 rfl) (wd hw 5 rfl) (wd hw 3 rfl) (wd hw 6 rfl) (by decide) pd_1 rfl rfl rfl (by decide) (by decide) (ce' := 3) (sl' := 6) rfl rfl (by decide) (by decide) at_113 (pc' := 116) rfl rfl ?_
        intro h_736 q_737
        obtain ⟨K_738, E_739, F_740⟩ := q_737
        have z_741 : Z.heap.size ≤ h_736.size := Nat.le_trans z_731 K_738.1
        have E_742 := Exa.keep E_724 K_738
        have A_743 := Av.keep A_729 K_738 (ninS n_726 nin0)
        have A_744 := Av.keep A_730 K_738 (ninS n_727 nin0)
        refine go_astore C (Ls' := #[.val (.int x0), .val (.int x1), .val (.long x2), .second, .val (.long x3), .second, .val (.int x4), .val (.int (1 : Int32)), .val (.int (0 : Int32)), .val (.int (1 : Int32)), .val (.ref a_690), .val (.ref a_708), .val (.ref a_708), .val (.null), .val (.ref a_721), .unset, .unset, .unset]) at_116 (pc' := 118) rfl rfl rfl ?_
        refine go_aload C at_118 (pc' := 120) rfl rfl rfl ?_
        refine go_virtualP C (as := []) (rest := []) (W := 0) (.int (1 : Int32)) (sat_ch1 l Z a0 hw a_721 a_708 _ _ F_740) E_739 (wd hw 18 rfl) (wd hw 19 rfl) (wd hw 21 rfl) (wd hw 20 rfl) (wd hw 3 rfl) (wd hw 22 rfl) (by decide) pd_3 rfl rfl rfl (by decide) (by decide) rfl rfl (by decide) (by decide) at_120 (pc' := 123) rfl rfl ?_
        refine go_iload C at_123 (pc' := 125) rfl rfl ?_
        refine go_icmp C (1 : Int) (1 : Int) (by decide) (by decide) at_125 (by decide) (pc' := 132) (by decide) (pcN := 128) rfl (fun (c_745 : ¬ (1 : Int) = (1 : Int)) => by omega) (fun (c_745 : (1 : Int) = (1 : Int)) => ?_)
        refine go_iconst C (1 : Int32) at_128 (pc' := 129) rfl (by decide) ?_
        refine go_goto C at_129 (by decide) (pc' := 133) (by decide) ?_
        refine go_istore C (Ls' := #[.val (.int x0), .val (.int x1), .val (.long x2), .second, .val (.long x3), .second, .val (.int x4), .val (.int (1 : Int32)), .val (.int (0 : Int32)), .val (.int (1 : Int32)), .val (.ref a_690), .val (.ref a_708), .val (.ref a_708), .val (.null), .val (.ref a_721), .val (.int (1 : Int32)), .unset, .unset]) at_133 (pc' := 135) rfl rfl ?_
        refine go_new C (wd hw 1 rfl) (wd hw 2 rfl) (wd hw 3 rfl) at_135 (pc' := 138) rfl (ce' := 4) (sl' := 10) rfl rfl (by decide) (by decide) ?_
        intro h_746 a_747 g_748 E_749 E_750 D_751
        have n_752 : a_721 ≠ a_747 := own_ne_new E_739.lt g_748
        have n_753 : a_690 ≠ a_747 := own_ne_new A_743.lt g_748
        have n_754 : a_708 ≠ a_747 := own_ne_new A_744.lt g_748
        have g_755 : Z.heap.size ≤ a_747 := own_ge z_741 g_748
        have F_756 := Fld.ext E_749 F_740
        have E_757 := Exa.ext E_749 E_739
        have A_758 := Av.ext A_743 E_749
        have A_759 := Av.ext A_744 E_749
        have z_760 : Z.heap.size ≤ h_746.size := Nat.le_trans z_741 E_749.1
        have F_761 : Fld Z h_746 a_747 "com/example/holder/holder/protocol/PathCompression$Token" "place" "I" (.int (0 : Int32)) := D_751 (Or.inr (wd hw 11 rfl)) (ty := .int) (by decide)
        have F_762 : Fld Z h_746 a_747 "com/example/holder/holder/protocol/PathCompression$Token" "hint" "I" (.int (0 : Int32)) := D_751 (Or.inr (wd hw 13 rfl)) (ty := .int) (by decide)
        have F_763 : Fld Z h_746 a_747 "com/example/holder/holder/protocol/PathCompression$Token" "hintStamp" "[J" (.null) := D_751 (Or.inr (wd hw 15 rfl)) (ty := (.array .long)) (by decide)
        have F_764 : Fld Z h_746 a_747 "com/example/holder/holder/protocol/PathCompression$Token" "clock" "[J" (.null) := D_751 (Or.inr (wd hw 17 rfl)) (ty := (.array .long)) (by decide)
        refine go_dup C at_138 (pc' := 139) rfl rfl ?_
        refine go_specialN C (as := []) (rest := [.ref a_747]) (W := 1) (sat_init1 l Z a0 hw a_747 _ _ E_750 F_761 F_762 F_763 F_764 g_755) rfl (wd hw 23 rfl) (wd hw 24 rfl) (wd hw 3 rfl) (wd hw 25 rfl) (by decide) pd_2 rfl rfl rfl (by decide) (by decide) (ce' := 4) (sl' := 10) rfl rfl (by decide) (by decide) at_139 (pc' := 142) rfl rfl ?_
        intro h_765 q_766
        obtain ⟨K_767, E_768, F_769⟩ := q_766
        have z_770 : Z.heap.size ≤ h_765.size := Nat.le_trans z_760 K_767.1
        have F_771 := Fld.keep F_756 K_767 (ninS n_752 nin0)
        have E_772 := Exa.keep E_757 K_767
        have E_773 := Exa.keep E_750 K_767
        have A_774 := Av.keep A_758 K_767 (ninS n_753 nin0)
        have A_775 := Av.keep A_759 K_767 (ninS n_754 nin0)
        refine go_astore C (Ls' := #[.val (.int x0), .val (.int x1), .val (.long x2), .second, .val (.long x3), .second, .val (.int x4), .val (.int (1 : Int32)), .val (.int (0 : Int32)), .val (.int (1 : Int32)), .val (.ref a_690), .val (.ref a_708), .val (.ref a_708), .val (.null), .val (.ref a_721), .val (.int (1 : Int32)), .val (.ref a_747), .unset]) at_142 (pc' := 144) rfl rfl rfl ?_
        refine go_new C (wd hw 1 rfl) (wd hw 2 rfl) (wd hw 3 rfl) at_144 (pc' := 147) rfl (ce' := 5) (sl' := 14) rfl rfl (by decide) (by decide) ?_
        intro h_776 a_777 g_778 E_779 E_780 D_781
        have n_782 : a_721 ≠ a_777 := own_ne_new E_772.lt g_778
        have n_783 : a_747 ≠ a_777 := own_ne_new E_768.lt g_778
        have n_784 : a_690 ≠ a_777 := own_ne_new A_774.lt g_778
        have n_785 : a_708 ≠ a_777 := own_ne_new A_775.lt g_778
        have g_786 : Z.heap.size ≤ a_777 := own_ge z_770 g_778
        have F_787 := Fld.ext E_779 F_771
        have F_788 := Fld.ext E_779 F_769
        have E_789 := Exa.ext E_779 E_772
        have E_790 := Exa.ext E_779 E_768
        have A_791 := Av.ext A_774 E_779
        have A_792 := Av.ext A_775 E_779
        have z_793 : Z.heap.size ≤ h_776.size := Nat.le_trans z_770 E_779.1
        have F_794 : Fld Z h_776 a_777 "com/example/holder/holder/protocol/PathCompression$Token" "place" "I" (.int (0 : Int32)) := D_781 (Or.inr (wd hw 11 rfl)) (ty := .int) (by decide)
        have F_795 : Fld Z h_776 a_777 "com/example/holder/holder/protocol/PathCompression$Token" "hint" "I" (.int (0 : Int32)) := D_781 (Or.inr (wd hw 13 rfl)) (ty := .int) (by decide)
        have F_796 : Fld Z h_776 a_777 "com/example/holder/holder/protocol/PathCompression$Token" "hintStamp" "[J" (.null) := D_781 (Or.inr (wd hw 15 rfl)) (ty := (.array .long)) (by decide)
        have F_797 : Fld Z h_776 a_777 "com/example/holder/holder/protocol/PathCompression$Token" "clock" "[J" (.null) := D_781 (Or.inr (wd hw 17 rfl)) (ty := (.array .long)) (by decide)
        refine go_dup C at_147 (pc' := 148) rfl rfl ?_
        refine go_iloadN C at_148 (pc' := 149) rfl rfl ?_
        refine go_specialN C (as := [.int x0]) (rest := [.ref a_777]) (W := 1) (sat_init2 l Z a0 hw a_777 x0 _ _ E_780 F_794 F_795 F_796 F_797 g_786) rfl (wd hw 30 rfl) (wd hw 27 rfl) (wd hw 3 rfl) (wd hw 28 rfl) (by decide) pd_4 rfl rfl rfl (by decide) (by decide) (ce' := 5) (sl' := 14) rfl rfl (by decide) (by decide) at_149 (pc' := 152) rfl rfl ?_
        intro h_798 q_799
        obtain ⟨K_800, E_801, F_802⟩ := q_799
        have z_803 : Z.heap.size ≤ h_798.size := Nat.le_trans z_793 K_800.1
        have F_804 := Fld.keep F_787 K_800 (ninS n_782 nin0)
        have F_805 := Fld.keep F_788 K_800 (ninS n_783 nin0)
        have E_806 := Exa.keep E_789 K_800
        have E_807 := Exa.keep E_790 K_800
        have E_808 := Exa.keep E_780 K_800
        have A_809 := Av.keep A_791 K_800 (ninS n_784 nin0)
        have A_810 := Av.keep A_792 K_800 (ninS n_785 nin0)
        refine go_astore C (Ls' := #[.val (.int x0), .val (.int x1), .val (.long x2), .second, .val (.long x3), .second, .val (.int x4), .val (.int (1 : Int32)), .val (.int (0 : Int32)), .val (.int (1 : Int32)), .val (.ref a_690), .val (.ref a_708), .val (.ref a_708), .val (.null), .val (.ref a_721), .val (.int (1 : Int32)), .val (.ref a_747), .val (.ref a_777)]) at_152 (pc' := 154) rfl rfl rfl ?_
        refine go_iload C at_154 (pc' := 156) rfl rfl ?_
        refine go_if0 C (1 : Int) (by decide) at_156 (by decide) (pc' := 171) (by decide) (pcN := 159) rfl (fun (c_811 : (1 : Int) = 0) => by omega) (fun (c_811 : ¬ (1 : Int) = 0) => ?_)
        refine go_aload C at_159 (pc' := 161) rfl rfl rfl ?_
        refine go_virtualP C (as := []) (rest := []) (W := 0) (.int (0 : Int32)) (sat_ch0 l Z a0 hw a_747 _ _ F_805) E_807 (wd hw 18 rfl) (wd hw 19 rfl) (wd hw 21 rfl) (wd hw 20 rfl) (wd hw 3 rfl) (wd hw 22 rfl) (by decide) pd_3 rfl rfl rfl (by decide) (by decide) rfl rfl (by decide) (by decide) at_161 (pc' := 164) rfl rfl ?_
        refine go_if0 C (0 : Int) (by decide) at_164 (by decide) (pc' := 171) (by decide) (pcN := 167) rfl (fun (c_812 : ¬ (0 : Int) = 0) => by omega) (fun (c_812 : (0 : Int) = 0) => ?_)
        refine go_iconst C (1 : Int32) at_167 (pc' := 168) rfl (by decide) ?_
        refine go_goto C at_168 (by decide) (pc' := 172) (by decide) ?_
        refine go_istore C (Ls' := #[.val (.int x0), .val (.int x1), .val (.long x2), .second, .val (.long x3), .second, .val (.int x4), .val (.int (1 : Int32)), .val (.int (0 : Int32)), .val (.int (1 : Int32)), .val (.ref a_690), .val (.ref a_708), .val (.ref a_708), .val (.null), .val (.ref a_721), .val (.int (1 : Int32)), .val (.ref a_747), .val (.ref a_777)]) at_172 (pc' := 174) rfl rfl ?_
        refine go_iload C at_174 (pc' := 176) rfl rfl ?_
        refine go_if0 C (1 : Int) (by decide) at_176 (by decide) (pc' := 191) (by decide) (pcN := 179) rfl (fun (c_813 : (1 : Int) = 0) => by omega) (fun (c_813 : ¬ (1 : Int) = 0) => ?_)
        refine go_aload C at_179 (pc' := 181) rfl rfl rfl ?_
        refine go_virtualP C (as := []) (rest := []) (W := 0) (.int (0 : Int32)) (sat_ch0 l Z a0 hw a_777 _ _ F_802) E_801 (wd hw 18 rfl) (wd hw 19 rfl) (wd hw 21 rfl) (wd hw 20 rfl) (wd hw 3 rfl) (wd hw 22 rfl) (by decide) pd_3 rfl rfl rfl (by decide) (by decide) rfl rfl (by decide) (by decide) at_181 (pc' := 184) rfl rfl ?_
        refine go_if0 C (0 : Int) (by decide) at_184 (by decide) (pc' := 191) (by decide) (pcN := 187) rfl (fun (c_814 : ¬ (0 : Int) = 0) => by omega) (fun (c_814 : (0 : Int) = 0) => ?_)
        refine go_iconst C (1 : Int32) at_187 (pc' := 188) rfl (by decide) ?_
        refine go_goto C at_188 (by decide) (pc' := 192) (by decide) ?_
        refine go_istore C (Ls' := #[.val (.int x0), .val (.int x1), .val (.long x2), .second, .val (.long x3), .second, .val (.int x4), .val (.int (1 : Int32)), .val (.int (0 : Int32)), .val (.int (1 : Int32)), .val (.ref a_690), .val (.ref a_708), .val (.ref a_708), .val (.null), .val (.ref a_721), .val (.int (1 : Int32)), .val (.ref a_747), .val (.ref a_777)]) at_192 (pc' := 194) rfl rfl ?_
        refine go_iload C at_194 (pc' := 196) rfl rfl ?_
        refine go_ireturnN C (z' := (1 : Int32)) rfl (by simp) rfl at_196 (by decide) (by decide) ?_
        exact ⟨_, rfl, rfl⟩
    · skip
      refine go_iconst C (1 : Int32) at_21 (pc' := 22) rfl (by decide) ?_
      refine go_goto C at_22 (by decide) (pc' := 26) (by decide) ?_
      refine go_istore C (Ls' := #[.val (.int x0), .val (.int x1), .val (.long x2), .second, .val (.long x3), .second, .val (.int x4), .val (.int (1 : Int32)), .val (.int (1 : Int32)), .unset, .unset, .unset, .unset, .unset, .unset, .unset, .unset, .unset]) at_26 (pc' := 28) rfl rfl ?_
      refine go_iload C at_28 (pc' := 30) rfl rfl ?_
      refine go_iconst C (4 : Int32) at_30 (pc' := 31) rfl (by decide) ?_
      refine go_iand C at_31 (pc' := 32) rfl ?_
      refine go_if0 C ((x4 &&& (4 : Int32)).toInt) rfl at_32 (by decide) (pc' := 39) (by decide) (pcN := 35) rfl (fun (c_815 : ((x4 &&& (4 : Int32)).toInt) = 0) => ?_) (fun (c_815 : ¬ ((x4 &&& (4 : Int32)).toInt) = 0) => ?_)
      · skip
        refine go_iconst C (0 : Int32) at_39 (pc' := 40) rfl (by decide) ?_
        refine go_istore C (Ls' := #[.val (.int x0), .val (.int x1), .val (.long x2), .second, .val (.long x3), .second, .val (.int x4), .val (.int (1 : Int32)), .val (.int (1 : Int32)), .val (.int (0 : Int32)), .unset, .unset, .unset, .unset, .unset, .unset, .unset, .unset]) at_40 (pc' := 42) rfl rfl ?_
        refine go_iconst C (2 : Int32) at_42 (pc' := 43) rfl (by decide) ?_
        refine go_newarray C (wd hw 0 rfl) rfl 2 2 (by decide) (by decide) (by decide) (ce' := 1) (sl' := 2) rfl rfl (by decide) (by decide) at_43 (pc' := 45) rfl ?_
        intro h_816 a_817 g_818 E_819 A_820
        have g_821 : Z.heap.size ≤ a_817 := own_ge (Nat.le_refl _) g_818
        have z_822 : Z.heap.size ≤ h_816.size := Nat.le_trans (Nat.le_refl _) E_819.1
        have A_823 : Av Z h_816 a_817 .long [.long (0 : Int64), .long (0 : Int64)] := A_820
        refine go_dup C at_45 (pc' := 46) rfl rfl ?_
        refine go_iconst C (0 : Int32) at_46 (pc' := 47) rfl (by decide) ?_
        refine go_lloadN C at_47 (pc' := 48) rfl rfl ?_
        refine go_lastore C A_823 0 (by decide) (show 0 < 2 from by decide) g_821 at_48 (pc' := 49) rfl ?_
        intro h_824 W_825 A_826
        have z_827 : Z.heap.size ≤ h_824.size := W_825.size.symm ▸ z_822
        have A_828 : Av Z h_824 a_817 .long [.long x2, .long (0 : Int64)] := A_826
        refine go_dup C at_49 (pc' := 50) rfl rfl ?_
        refine go_iconst C (1 : Int32) at_50 (pc' := 51) rfl (by decide) ?_
        refine go_lload C at_51 (pc' := 53) rfl rfl ?_
        refine go_lastore C A_828 1 (by decide) (show 1 < 2 from by decide) g_821 at_53 (pc' := 54) rfl ?_
        intro h_829 W_830 A_831
        have z_832 : Z.heap.size ≤ h_829.size := W_830.size.symm ▸ z_827
        have A_833 : Av Z h_829 a_817 .long [.long x2, .long x3] := A_831
        refine go_astore C (Ls' := #[.val (.int x0), .val (.int x1), .val (.long x2), .second, .val (.long x3), .second, .val (.int x4), .val (.int (1 : Int32)), .val (.int (1 : Int32)), .val (.int (0 : Int32)), .val (.ref a_817), .unset, .unset, .unset, .unset, .unset, .unset, .unset]) at_54 (pc' := 56) rfl rfl rfl ?_
        refine go_iconst C (0 : Int32) at_56 (pc' := 57) rfl (by decide) ?_
        refine go_newarray C (wd hw 0 rfl) rfl 0 0 (by decide) (by decide) (by decide) (ce' := 2) (sl' := 2) rfl rfl (by decide) (by decide) at_57 (pc' := 59) rfl ?_
        intro h_834 a_835 g_836 E_837 A_838
        have n_839 : a_817 ≠ a_835 := own_ne_new A_833.lt g_836
        have g_840 : Z.heap.size ≤ a_835 := own_ge z_832 g_836
        have A_841 := Av.ext A_833 E_837
        have z_842 : Z.heap.size ≤ h_834.size := Nat.le_trans z_832 E_837.1
        have A_843 : Av Z h_834 a_835 .long [] := A_838
        refine go_astore C (Ls' := #[.val (.int x0), .val (.int x1), .val (.long x2), .second, .val (.long x3), .second, .val (.int x4), .val (.int (1 : Int32)), .val (.int (1 : Int32)), .val (.int (0 : Int32)), .val (.ref a_817), .val (.ref a_835), .unset, .unset, .unset, .unset, .unset, .unset]) at_59 (pc' := 61) rfl rfl rfl ?_
        refine go_iload C at_61 (pc' := 63) rfl rfl ?_
        refine go_if0 C (1 : Int) (by decide) at_63 (by decide) (pc' := 81) (by decide) (pcN := 66) rfl (fun (c_844 : (1 : Int) = 0) => by omega) (fun (c_844 : ¬ (1 : Int) = 0) => ?_)
        refine go_iload C at_66 (pc' := 68) rfl rfl ?_
        refine go_if0 C (0 : Int) (by decide) at_68 (by decide) (pc' := 76) (by decide) (pcN := 71) rfl (fun (c_845 : (0 : Int) = 0) => ?_) (fun (c_845 : ¬ (0 : Int) = 0) => by omega)
        refine go_aload C at_76 (pc' := 78) rfl rfl rfl ?_
        refine go_goto C at_78 (by decide) (pc' := 82) (by decide) ?_
        refine go_astore C (Ls' := #[.val (.int x0), .val (.int x1), .val (.long x2), .second, .val (.long x3), .second, .val (.int x4), .val (.int (1 : Int32)), .val (.int (1 : Int32)), .val (.int (0 : Int32)), .val (.ref a_817), .val (.ref a_835), .val (.ref a_817), .unset, .unset, .unset, .unset, .unset]) at_82 (pc' := 84) rfl rfl rfl ?_
        refine go_iload C at_84 (pc' := 86) rfl rfl ?_
        refine go_if0 C (1 : Int) (by decide) at_86 (by decide) (pc' := 100) (by decide) (pcN := 89) rfl (fun (c_846 : (1 : Int) = 0) => by omega) (fun (c_846 : ¬ (1 : Int) = 0) => ?_)
        refine go_iconst C (1 : Int32) at_89 (pc' := 90) rfl (by decide) ?_
        refine go_newarray C (wd hw 0 rfl) rfl 1 1 (by decide) (by decide) (by decide) (ce' := 3) (sl' := 3) rfl rfl (by decide) (by decide) at_90 (pc' := 92) rfl ?_
        intro h_847 a_848 g_849 E_850 A_851
        have n_852 : a_817 ≠ a_848 := own_ne_new A_841.lt g_849
        have n_853 : a_835 ≠ a_848 := own_ne_new A_843.lt g_849
        have g_854 : Z.heap.size ≤ a_848 := own_ge z_842 g_849
        have A_855 := Av.ext A_841 E_850
        have A_856 := Av.ext A_843 E_850
        have z_857 : Z.heap.size ≤ h_847.size := Nat.le_trans z_842 E_850.1
        have A_858 : Av Z h_847 a_848 .long [.long (0 : Int64)] := A_851
        refine go_dup C at_92 (pc' := 93) rfl rfl ?_
        refine go_iconst C (0 : Int32) at_93 (pc' := 94) rfl (by decide) ?_
        refine go_lload C at_94 (pc' := 96) rfl rfl ?_
        refine go_lastore C A_858 0 (by decide) (show 0 < 1 from by decide) g_854 at_96 (pc' := 97) rfl ?_
        intro h_859 W_860 A_861
        have z_862 : Z.heap.size ≤ h_859.size := W_860.size.symm ▸ z_857
        have A_863 := Av.other A_855 W_860 n_852
        have A_864 := Av.other A_856 W_860 n_853
        have A_865 : Av Z h_859 a_848 .long [.long x3] := A_861
        refine go_goto C at_97 (by decide) (pc' := 101) (by decide) ?_
        refine go_astore C (Ls' := #[.val (.int x0), .val (.int x1), .val (.long x2), .second, .val (.long x3), .second, .val (.int x4), .val (.int (1 : Int32)), .val (.int (1 : Int32)), .val (.int (0 : Int32)), .val (.ref a_817), .val (.ref a_835), .val (.ref a_817), .val (.ref a_848), .unset, .unset, .unset, .unset]) at_101 (pc' := 103) rfl rfl rfl ?_
        refine go_new C (wd hw 1 rfl) (wd hw 2 rfl) (wd hw 3 rfl) at_103 (pc' := 106) rfl (ce' := 4) (sl' := 7) rfl rfl (by decide) (by decide) ?_
        intro h_866 a_867 g_868 E_869 E_870 D_871
        have n_872 : a_817 ≠ a_867 := own_ne_new A_863.lt g_868
        have n_873 : a_835 ≠ a_867 := own_ne_new A_864.lt g_868
        have n_874 : a_848 ≠ a_867 := own_ne_new A_865.lt g_868
        have g_875 : Z.heap.size ≤ a_867 := own_ge z_862 g_868
        have A_876 := Av.ext A_863 E_869
        have A_877 := Av.ext A_864 E_869
        have A_878 := Av.ext A_865 E_869
        have z_879 : Z.heap.size ≤ h_866.size := Nat.le_trans z_862 E_869.1
        have F_880 : Fld Z h_866 a_867 "com/example/holder/holder/protocol/PathCompression$Token" "place" "I" (.int (0 : Int32)) := D_871 (Or.inr (wd hw 11 rfl)) (ty := .int) (by decide)
        have F_881 : Fld Z h_866 a_867 "com/example/holder/holder/protocol/PathCompression$Token" "hint" "I" (.int (0 : Int32)) := D_871 (Or.inr (wd hw 13 rfl)) (ty := .int) (by decide)
        have F_882 : Fld Z h_866 a_867 "com/example/holder/holder/protocol/PathCompression$Token" "hintStamp" "[J" (.null) := D_871 (Or.inr (wd hw 15 rfl)) (ty := (.array .long)) (by decide)
        have F_883 : Fld Z h_866 a_867 "com/example/holder/holder/protocol/PathCompression$Token" "clock" "[J" (.null) := D_871 (Or.inr (wd hw 17 rfl)) (ty := (.array .long)) (by decide)
        refine go_dup C at_106 (pc' := 107) rfl rfl ?_
        refine go_iloadN C at_107 (pc' := 108) rfl rfl ?_
        refine go_iloadN C at_108 (pc' := 109) rfl rfl ?_
        refine go_aload C at_109 (pc' := 111) rfl rfl rfl ?_
        refine go_aload C at_111 (pc' := 113) rfl rfl rfl ?_
        refine go_specialN C (as := [.int x0, .int x1, .ref a_817, .ref a_848]) (rest := [.ref a_867]) (W := 1) (sat_init3rr l Z a0 hw a_867 x0 x1 a_817 a_848 _ _ E_870 F_880 F_881 F_882 F_883 g_875) rfl (wd hw 4 rfl) (wd hw 5 rfl) (wd hw 3 rfl) (wd hw 6 rfl) (by decide) pd_1 rfl rfl rfl (by decide) (by decide) (ce' := 4) (sl' := 7) rfl rfl (by decide) (by decide) at_113 (pc' := 116) rfl rfl ?_
        intro h_884 q_885
        obtain ⟨K_886, E_887, F_888⟩ := q_885
        have z_889 : Z.heap.size ≤ h_884.size := Nat.le_trans z_879 K_886.1
        have E_890 := Exa.keep E_870 K_886
        have A_891 := Av.keep A_876 K_886 (ninS n_872 nin0)
        have A_892 := Av.keep A_877 K_886 (ninS n_873 nin0)
        have A_893 := Av.keep A_878 K_886 (ninS n_874 nin0)
        refine go_astore C (Ls' := #[.val (.int x0), .val (.int x1), .val (.long x2), .second, .val (.long x3), .second, .val (.int x4), .val (.int (1 : Int32)), .val (.int (1 : Int32)), .val (.int (0 : Int32)), .val (.ref a_817), .val (.ref a_835), .val (.ref a_817), .val (.ref a_848), .val (.ref a_867), .unset, .unset, .unset]) at_116 (pc' := 118) rfl rfl rfl ?_
        refine go_aload C at_118 (pc' := 120) rfl rfl rfl ?_
        refine go_virtualP C (as := []) (rest := []) (W := 0) (.int (1 : Int32)) (sat_ch1 l Z a0 hw a_867 a_817 _ _ F_888) E_887 (wd hw 18 rfl) (wd hw 19 rfl) (wd hw 21 rfl) (wd hw 20 rfl) (wd hw 3 rfl) (wd hw 22 rfl) (by decide) pd_3 rfl rfl rfl (by decide) (by decide) rfl rfl (by decide) (by decide) at_120 (pc' := 123) rfl rfl ?_
        refine go_iload C at_123 (pc' := 125) rfl rfl ?_
        refine go_icmp C (1 : Int) (1 : Int) (by decide) (by decide) at_125 (by decide) (pc' := 132) (by decide) (pcN := 128) rfl (fun (c_894 : ¬ (1 : Int) = (1 : Int)) => by omega) (fun (c_894 : (1 : Int) = (1 : Int)) => ?_)
        refine go_iconst C (1 : Int32) at_128 (pc' := 129) rfl (by decide) ?_
        refine go_goto C at_129 (by decide) (pc' := 133) (by decide) ?_
        refine go_istore C (Ls' := #[.val (.int x0), .val (.int x1), .val (.long x2), .second, .val (.long x3), .second, .val (.int x4), .val (.int (1 : Int32)), .val (.int (1 : Int32)), .val (.int (0 : Int32)), .val (.ref a_817), .val (.ref a_835), .val (.ref a_817), .val (.ref a_848), .val (.ref a_867), .val (.int (1 : Int32)), .unset, .unset]) at_133 (pc' := 135) rfl rfl ?_
        refine go_new C (wd hw 1 rfl) (wd hw 2 rfl) (wd hw 3 rfl) at_135 (pc' := 138) rfl (ce' := 5) (sl' := 11) rfl rfl (by decide) (by decide) ?_
        intro h_895 a_896 g_897 E_898 E_899 D_900
        have n_901 : a_867 ≠ a_896 := own_ne_new E_887.lt g_897
        have n_902 : a_817 ≠ a_896 := own_ne_new A_891.lt g_897
        have n_903 : a_835 ≠ a_896 := own_ne_new A_892.lt g_897
        have n_904 : a_848 ≠ a_896 := own_ne_new A_893.lt g_897
        have g_905 : Z.heap.size ≤ a_896 := own_ge z_889 g_897
        have F_906 := Fld.ext E_898 F_888
        have E_907 := Exa.ext E_898 E_887
        have A_908 := Av.ext A_891 E_898
        have A_909 := Av.ext A_892 E_898
        have A_910 := Av.ext A_893 E_898
        have z_911 : Z.heap.size ≤ h_895.size := Nat.le_trans z_889 E_898.1
        have F_912 : Fld Z h_895 a_896 "com/example/holder/holder/protocol/PathCompression$Token" "place" "I" (.int (0 : Int32)) := D_900 (Or.inr (wd hw 11 rfl)) (ty := .int) (by decide)
        have F_913 : Fld Z h_895 a_896 "com/example/holder/holder/protocol/PathCompression$Token" "hint" "I" (.int (0 : Int32)) := D_900 (Or.inr (wd hw 13 rfl)) (ty := .int) (by decide)
        have F_914 : Fld Z h_895 a_896 "com/example/holder/holder/protocol/PathCompression$Token" "hintStamp" "[J" (.null) := D_900 (Or.inr (wd hw 15 rfl)) (ty := (.array .long)) (by decide)
        have F_915 : Fld Z h_895 a_896 "com/example/holder/holder/protocol/PathCompression$Token" "clock" "[J" (.null) := D_900 (Or.inr (wd hw 17 rfl)) (ty := (.array .long)) (by decide)
        refine go_dup C at_138 (pc' := 139) rfl rfl ?_
        refine go_specialN C (as := []) (rest := [.ref a_896]) (W := 1) (sat_init1 l Z a0 hw a_896 _ _ E_899 F_912 F_913 F_914 F_915 g_905) rfl (wd hw 23 rfl) (wd hw 24 rfl) (wd hw 3 rfl) (wd hw 25 rfl) (by decide) pd_2 rfl rfl rfl (by decide) (by decide) (ce' := 5) (sl' := 11) rfl rfl (by decide) (by decide) at_139 (pc' := 142) rfl rfl ?_
        intro h_916 q_917
        obtain ⟨K_918, E_919, F_920⟩ := q_917
        have z_921 : Z.heap.size ≤ h_916.size := Nat.le_trans z_911 K_918.1
        have F_922 := Fld.keep F_906 K_918 (ninS n_901 nin0)
        have E_923 := Exa.keep E_907 K_918
        have E_924 := Exa.keep E_899 K_918
        have A_925 := Av.keep A_908 K_918 (ninS n_902 nin0)
        have A_926 := Av.keep A_909 K_918 (ninS n_903 nin0)
        have A_927 := Av.keep A_910 K_918 (ninS n_904 nin0)
        refine go_astore C (Ls' := #[.val (.int x0), .val (.int x1), .val (.long x2), .second, .val (.long x3), .second, .val (.int x4), .val (.int (1 : Int32)), .val (.int (1 : Int32)), .val (.int (0 : Int32)), .val (.ref a_817), .val (.ref a_835), .val (.ref a_817), .val (.ref a_848), .val (.ref a_867), .val (.int (1 : Int32)), .val (.ref a_896), .unset]) at_142 (pc' := 144) rfl rfl rfl ?_
        refine go_new C (wd hw 1 rfl) (wd hw 2 rfl) (wd hw 3 rfl) at_144 (pc' := 147) rfl (ce' := 6) (sl' := 15) rfl rfl (by decide) (by decide) ?_
        intro h_928 a_929 g_930 E_931 E_932 D_933
        have n_934 : a_867 ≠ a_929 := own_ne_new E_923.lt g_930
        have n_935 : a_896 ≠ a_929 := own_ne_new E_919.lt g_930
        have n_936 : a_817 ≠ a_929 := own_ne_new A_925.lt g_930
        have n_937 : a_835 ≠ a_929 := own_ne_new A_926.lt g_930
        have n_938 : a_848 ≠ a_929 := own_ne_new A_927.lt g_930
        have g_939 : Z.heap.size ≤ a_929 := own_ge z_921 g_930
        have F_940 := Fld.ext E_931 F_922
        have F_941 := Fld.ext E_931 F_920
        have E_942 := Exa.ext E_931 E_923
        have E_943 := Exa.ext E_931 E_919
        have A_944 := Av.ext A_925 E_931
        have A_945 := Av.ext A_926 E_931
        have A_946 := Av.ext A_927 E_931
        have z_947 : Z.heap.size ≤ h_928.size := Nat.le_trans z_921 E_931.1
        have F_948 : Fld Z h_928 a_929 "com/example/holder/holder/protocol/PathCompression$Token" "place" "I" (.int (0 : Int32)) := D_933 (Or.inr (wd hw 11 rfl)) (ty := .int) (by decide)
        have F_949 : Fld Z h_928 a_929 "com/example/holder/holder/protocol/PathCompression$Token" "hint" "I" (.int (0 : Int32)) := D_933 (Or.inr (wd hw 13 rfl)) (ty := .int) (by decide)
        have F_950 : Fld Z h_928 a_929 "com/example/holder/holder/protocol/PathCompression$Token" "hintStamp" "[J" (.null) := D_933 (Or.inr (wd hw 15 rfl)) (ty := (.array .long)) (by decide)
        have F_951 : Fld Z h_928 a_929 "com/example/holder/holder/protocol/PathCompression$Token" "clock" "[J" (.null) := D_933 (Or.inr (wd hw 17 rfl)) (ty := (.array .long)) (by decide)
        refine go_dup C at_147 (pc' := 148) rfl rfl ?_
        refine go_iloadN C at_148 (pc' := 149) rfl rfl ?_
        refine go_specialN C (as := [.int x0]) (rest := [.ref a_929]) (W := 1) (sat_init2 l Z a0 hw a_929 x0 _ _ E_932 F_948 F_949 F_950 F_951 g_939) rfl (wd hw 30 rfl) (wd hw 27 rfl) (wd hw 3 rfl) (wd hw 28 rfl) (by decide) pd_4 rfl rfl rfl (by decide) (by decide) (ce' := 6) (sl' := 15) rfl rfl (by decide) (by decide) at_149 (pc' := 152) rfl rfl ?_
        intro h_952 q_953
        obtain ⟨K_954, E_955, F_956⟩ := q_953
        have z_957 : Z.heap.size ≤ h_952.size := Nat.le_trans z_947 K_954.1
        have F_958 := Fld.keep F_940 K_954 (ninS n_934 nin0)
        have F_959 := Fld.keep F_941 K_954 (ninS n_935 nin0)
        have E_960 := Exa.keep E_942 K_954
        have E_961 := Exa.keep E_943 K_954
        have E_962 := Exa.keep E_932 K_954
        have A_963 := Av.keep A_944 K_954 (ninS n_936 nin0)
        have A_964 := Av.keep A_945 K_954 (ninS n_937 nin0)
        have A_965 := Av.keep A_946 K_954 (ninS n_938 nin0)
        refine go_astore C (Ls' := #[.val (.int x0), .val (.int x1), .val (.long x2), .second, .val (.long x3), .second, .val (.int x4), .val (.int (1 : Int32)), .val (.int (1 : Int32)), .val (.int (0 : Int32)), .val (.ref a_817), .val (.ref a_835), .val (.ref a_817), .val (.ref a_848), .val (.ref a_867), .val (.int (1 : Int32)), .val (.ref a_896), .val (.ref a_929)]) at_152 (pc' := 154) rfl rfl rfl ?_
        refine go_iload C at_154 (pc' := 156) rfl rfl ?_
        refine go_if0 C (1 : Int) (by decide) at_156 (by decide) (pc' := 171) (by decide) (pcN := 159) rfl (fun (c_966 : (1 : Int) = 0) => by omega) (fun (c_966 : ¬ (1 : Int) = 0) => ?_)
        refine go_aload C at_159 (pc' := 161) rfl rfl rfl ?_
        refine go_virtualP C (as := []) (rest := []) (W := 0) (.int (0 : Int32)) (sat_ch0 l Z a0 hw a_896 _ _ F_959) E_961 (wd hw 18 rfl) (wd hw 19 rfl) (wd hw 21 rfl) (wd hw 20 rfl) (wd hw 3 rfl) (wd hw 22 rfl) (by decide) pd_3 rfl rfl rfl (by decide) (by decide) rfl rfl (by decide) (by decide) at_161 (pc' := 164) rfl rfl ?_
        refine go_if0 C (0 : Int) (by decide) at_164 (by decide) (pc' := 171) (by decide) (pcN := 167) rfl (fun (c_967 : ¬ (0 : Int) = 0) => by omega) (fun (c_967 : (0 : Int) = 0) => ?_)
        refine go_iconst C (1 : Int32) at_167 (pc' := 168) rfl (by decide) ?_
        refine go_goto C at_168 (by decide) (pc' := 172) (by decide) ?_
        refine go_istore C (Ls' := #[.val (.int x0), .val (.int x1), .val (.long x2), .second, .val (.long x3), .second, .val (.int x4), .val (.int (1 : Int32)), .val (.int (1 : Int32)), .val (.int (0 : Int32)), .val (.ref a_817), .val (.ref a_835), .val (.ref a_817), .val (.ref a_848), .val (.ref a_867), .val (.int (1 : Int32)), .val (.ref a_896), .val (.ref a_929)]) at_172 (pc' := 174) rfl rfl ?_
        refine go_iload C at_174 (pc' := 176) rfl rfl ?_
        refine go_if0 C (1 : Int) (by decide) at_176 (by decide) (pc' := 191) (by decide) (pcN := 179) rfl (fun (c_968 : (1 : Int) = 0) => by omega) (fun (c_968 : ¬ (1 : Int) = 0) => ?_)
        refine go_aload C at_179 (pc' := 181) rfl rfl rfl ?_
        refine go_virtualP C (as := []) (rest := []) (W := 0) (.int (0 : Int32)) (sat_ch0 l Z a0 hw a_929 _ _ F_956) E_955 (wd hw 18 rfl) (wd hw 19 rfl) (wd hw 21 rfl) (wd hw 20 rfl) (wd hw 3 rfl) (wd hw 22 rfl) (by decide) pd_3 rfl rfl rfl (by decide) (by decide) rfl rfl (by decide) (by decide) at_181 (pc' := 184) rfl rfl ?_
        refine go_if0 C (0 : Int) (by decide) at_184 (by decide) (pc' := 191) (by decide) (pcN := 187) rfl (fun (c_969 : ¬ (0 : Int) = 0) => by omega) (fun (c_969 : (0 : Int) = 0) => ?_)
        refine go_iconst C (1 : Int32) at_187 (pc' := 188) rfl (by decide) ?_
        refine go_goto C at_188 (by decide) (pc' := 192) (by decide) ?_
        refine go_istore C (Ls' := #[.val (.int x0), .val (.int x1), .val (.long x2), .second, .val (.long x3), .second, .val (.int x4), .val (.int (1 : Int32)), .val (.int (1 : Int32)), .val (.int (0 : Int32)), .val (.ref a_817), .val (.ref a_835), .val (.ref a_817), .val (.ref a_848), .val (.ref a_867), .val (.int (1 : Int32)), .val (.ref a_896), .val (.ref a_929)]) at_192 (pc' := 194) rfl rfl ?_
        refine go_iload C at_194 (pc' := 196) rfl rfl ?_
        refine go_ireturnN C (z' := (1 : Int32)) rfl (by simp) rfl at_196 (by decide) (by decide) ?_
        exact ⟨_, rfl, rfl⟩
      · skip
        refine go_iconst C (1 : Int32) at_35 (pc' := 36) rfl (by decide) ?_
        refine go_goto C at_36 (by decide) (pc' := 40) (by decide) ?_
        refine go_istore C (Ls' := #[.val (.int x0), .val (.int x1), .val (.long x2), .second, .val (.long x3), .second, .val (.int x4), .val (.int (1 : Int32)), .val (.int (1 : Int32)), .val (.int (1 : Int32)), .unset, .unset, .unset, .unset, .unset, .unset, .unset, .unset]) at_40 (pc' := 42) rfl rfl ?_
        refine go_iconst C (2 : Int32) at_42 (pc' := 43) rfl (by decide) ?_
        refine go_newarray C (wd hw 0 rfl) rfl 2 2 (by decide) (by decide) (by decide) (ce' := 1) (sl' := 2) rfl rfl (by decide) (by decide) at_43 (pc' := 45) rfl ?_
        intro h_970 a_971 g_972 E_973 A_974
        have g_975 : Z.heap.size ≤ a_971 := own_ge (Nat.le_refl _) g_972
        have z_976 : Z.heap.size ≤ h_970.size := Nat.le_trans (Nat.le_refl _) E_973.1
        have A_977 : Av Z h_970 a_971 .long [.long (0 : Int64), .long (0 : Int64)] := A_974
        refine go_dup C at_45 (pc' := 46) rfl rfl ?_
        refine go_iconst C (0 : Int32) at_46 (pc' := 47) rfl (by decide) ?_
        refine go_lloadN C at_47 (pc' := 48) rfl rfl ?_
        refine go_lastore C A_977 0 (by decide) (show 0 < 2 from by decide) g_975 at_48 (pc' := 49) rfl ?_
        intro h_978 W_979 A_980
        have z_981 : Z.heap.size ≤ h_978.size := W_979.size.symm ▸ z_976
        have A_982 : Av Z h_978 a_971 .long [.long x2, .long (0 : Int64)] := A_980
        refine go_dup C at_49 (pc' := 50) rfl rfl ?_
        refine go_iconst C (1 : Int32) at_50 (pc' := 51) rfl (by decide) ?_
        refine go_lload C at_51 (pc' := 53) rfl rfl ?_
        refine go_lastore C A_982 1 (by decide) (show 1 < 2 from by decide) g_975 at_53 (pc' := 54) rfl ?_
        intro h_983 W_984 A_985
        have z_986 : Z.heap.size ≤ h_983.size := W_984.size.symm ▸ z_981
        have A_987 : Av Z h_983 a_971 .long [.long x2, .long x3] := A_985
        refine go_astore C (Ls' := #[.val (.int x0), .val (.int x1), .val (.long x2), .second, .val (.long x3), .second, .val (.int x4), .val (.int (1 : Int32)), .val (.int (1 : Int32)), .val (.int (1 : Int32)), .val (.ref a_971), .unset, .unset, .unset, .unset, .unset, .unset, .unset]) at_54 (pc' := 56) rfl rfl rfl ?_
        refine go_iconst C (0 : Int32) at_56 (pc' := 57) rfl (by decide) ?_
        refine go_newarray C (wd hw 0 rfl) rfl 0 0 (by decide) (by decide) (by decide) (ce' := 2) (sl' := 2) rfl rfl (by decide) (by decide) at_57 (pc' := 59) rfl ?_
        intro h_988 a_989 g_990 E_991 A_992
        have n_993 : a_971 ≠ a_989 := own_ne_new A_987.lt g_990
        have g_994 : Z.heap.size ≤ a_989 := own_ge z_986 g_990
        have A_995 := Av.ext A_987 E_991
        have z_996 : Z.heap.size ≤ h_988.size := Nat.le_trans z_986 E_991.1
        have A_997 : Av Z h_988 a_989 .long [] := A_992
        refine go_astore C (Ls' := #[.val (.int x0), .val (.int x1), .val (.long x2), .second, .val (.long x3), .second, .val (.int x4), .val (.int (1 : Int32)), .val (.int (1 : Int32)), .val (.int (1 : Int32)), .val (.ref a_971), .val (.ref a_989), .unset, .unset, .unset, .unset, .unset, .unset]) at_59 (pc' := 61) rfl rfl rfl ?_
        refine go_iload C at_61 (pc' := 63) rfl rfl ?_
        refine go_if0 C (1 : Int) (by decide) at_63 (by decide) (pc' := 81) (by decide) (pcN := 66) rfl (fun (c_998 : (1 : Int) = 0) => by omega) (fun (c_998 : ¬ (1 : Int) = 0) => ?_)
        refine go_iload C at_66 (pc' := 68) rfl rfl ?_
        refine go_if0 C (1 : Int) (by decide) at_68 (by decide) (pc' := 76) (by decide) (pcN := 71) rfl (fun (c_999 : (1 : Int) = 0) => by omega) (fun (c_999 : ¬ (1 : Int) = 0) => ?_)
        refine go_aload C at_71 (pc' := 73) rfl rfl rfl ?_
        refine go_goto C at_73 (by decide) (pc' := 82) (by decide) ?_
        refine go_astore C (Ls' := #[.val (.int x0), .val (.int x1), .val (.long x2), .second, .val (.long x3), .second, .val (.int x4), .val (.int (1 : Int32)), .val (.int (1 : Int32)), .val (.int (1 : Int32)), .val (.ref a_971), .val (.ref a_989), .val (.ref a_989), .unset, .unset, .unset, .unset, .unset]) at_82 (pc' := 84) rfl rfl rfl ?_
        refine go_iload C at_84 (pc' := 86) rfl rfl ?_
        refine go_if0 C (1 : Int) (by decide) at_86 (by decide) (pc' := 100) (by decide) (pcN := 89) rfl (fun (c_1000 : (1 : Int) = 0) => by omega) (fun (c_1000 : ¬ (1 : Int) = 0) => ?_)
        refine go_iconst C (1 : Int32) at_89 (pc' := 90) rfl (by decide) ?_
        refine go_newarray C (wd hw 0 rfl) rfl 1 1 (by decide) (by decide) (by decide) (ce' := 3) (sl' := 3) rfl rfl (by decide) (by decide) at_90 (pc' := 92) rfl ?_
        intro h_1001 a_1002 g_1003 E_1004 A_1005
        have n_1006 : a_971 ≠ a_1002 := own_ne_new A_995.lt g_1003
        have n_1007 : a_989 ≠ a_1002 := own_ne_new A_997.lt g_1003
        have g_1008 : Z.heap.size ≤ a_1002 := own_ge z_996 g_1003
        have A_1009 := Av.ext A_995 E_1004
        have A_1010 := Av.ext A_997 E_1004
        have z_1011 : Z.heap.size ≤ h_1001.size := Nat.le_trans z_996 E_1004.1
        have A_1012 : Av Z h_1001 a_1002 .long [.long (0 : Int64)] := A_1005
        refine go_dup C at_92 (pc' := 93) rfl rfl ?_
        refine go_iconst C (0 : Int32) at_93 (pc' := 94) rfl (by decide) ?_
        refine go_lload C at_94 (pc' := 96) rfl rfl ?_
        refine go_lastore C A_1012 0 (by decide) (show 0 < 1 from by decide) g_1008 at_96 (pc' := 97) rfl ?_
        intro h_1013 W_1014 A_1015
        have z_1016 : Z.heap.size ≤ h_1013.size := W_1014.size.symm ▸ z_1011
        have A_1017 := Av.other A_1009 W_1014 n_1006
        have A_1018 := Av.other A_1010 W_1014 n_1007
        have A_1019 : Av Z h_1013 a_1002 .long [.long x3] := A_1015
        refine go_goto C at_97 (by decide) (pc' := 101) (by decide) ?_
        refine go_astore C (Ls' := #[.val (.int x0), .val (.int x1), .val (.long x2), .second, .val (.long x3), .second, .val (.int x4), .val (.int (1 : Int32)), .val (.int (1 : Int32)), .val (.int (1 : Int32)), .val (.ref a_971), .val (.ref a_989), .val (.ref a_989), .val (.ref a_1002), .unset, .unset, .unset, .unset]) at_101 (pc' := 103) rfl rfl rfl ?_
        refine go_new C (wd hw 1 rfl) (wd hw 2 rfl) (wd hw 3 rfl) at_103 (pc' := 106) rfl (ce' := 4) (sl' := 7) rfl rfl (by decide) (by decide) ?_
        intro h_1020 a_1021 g_1022 E_1023 E_1024 D_1025
        have n_1026 : a_971 ≠ a_1021 := own_ne_new A_1017.lt g_1022
        have n_1027 : a_989 ≠ a_1021 := own_ne_new A_1018.lt g_1022
        have n_1028 : a_1002 ≠ a_1021 := own_ne_new A_1019.lt g_1022
        have g_1029 : Z.heap.size ≤ a_1021 := own_ge z_1016 g_1022
        have A_1030 := Av.ext A_1017 E_1023
        have A_1031 := Av.ext A_1018 E_1023
        have A_1032 := Av.ext A_1019 E_1023
        have z_1033 : Z.heap.size ≤ h_1020.size := Nat.le_trans z_1016 E_1023.1
        have F_1034 : Fld Z h_1020 a_1021 "com/example/holder/holder/protocol/PathCompression$Token" "place" "I" (.int (0 : Int32)) := D_1025 (Or.inr (wd hw 11 rfl)) (ty := .int) (by decide)
        have F_1035 : Fld Z h_1020 a_1021 "com/example/holder/holder/protocol/PathCompression$Token" "hint" "I" (.int (0 : Int32)) := D_1025 (Or.inr (wd hw 13 rfl)) (ty := .int) (by decide)
        have F_1036 : Fld Z h_1020 a_1021 "com/example/holder/holder/protocol/PathCompression$Token" "hintStamp" "[J" (.null) := D_1025 (Or.inr (wd hw 15 rfl)) (ty := (.array .long)) (by decide)
        have F_1037 : Fld Z h_1020 a_1021 "com/example/holder/holder/protocol/PathCompression$Token" "clock" "[J" (.null) := D_1025 (Or.inr (wd hw 17 rfl)) (ty := (.array .long)) (by decide)
        refine go_dup C at_106 (pc' := 107) rfl rfl ?_
        refine go_iloadN C at_107 (pc' := 108) rfl rfl ?_
        refine go_iloadN C at_108 (pc' := 109) rfl rfl ?_
        refine go_aload C at_109 (pc' := 111) rfl rfl rfl ?_
        refine go_aload C at_111 (pc' := 113) rfl rfl rfl ?_
        refine go_specialN C (as := [.int x0, .int x1, .ref a_989, .ref a_1002]) (rest := [.ref a_1021]) (W := 1) (sat_init3rr l Z a0 hw a_1021 x0 x1 a_989 a_1002 _ _ E_1024 F_1034 F_1035 F_1036 F_1037 g_1029) rfl (wd hw 4 rfl) (wd hw 5 rfl) (wd hw 3 rfl) (wd hw 6 rfl) (by decide) pd_1 rfl rfl rfl (by decide) (by decide) (ce' := 4) (sl' := 7) rfl rfl (by decide) (by decide) at_113 (pc' := 116) rfl rfl ?_
        intro h_1038 q_1039
        obtain ⟨K_1040, E_1041, F_1042⟩ := q_1039
        have z_1043 : Z.heap.size ≤ h_1038.size := Nat.le_trans z_1033 K_1040.1
        have E_1044 := Exa.keep E_1024 K_1040
        have A_1045 := Av.keep A_1030 K_1040 (ninS n_1026 nin0)
        have A_1046 := Av.keep A_1031 K_1040 (ninS n_1027 nin0)
        have A_1047 := Av.keep A_1032 K_1040 (ninS n_1028 nin0)
        refine go_astore C (Ls' := #[.val (.int x0), .val (.int x1), .val (.long x2), .second, .val (.long x3), .second, .val (.int x4), .val (.int (1 : Int32)), .val (.int (1 : Int32)), .val (.int (1 : Int32)), .val (.ref a_971), .val (.ref a_989), .val (.ref a_989), .val (.ref a_1002), .val (.ref a_1021), .unset, .unset, .unset]) at_116 (pc' := 118) rfl rfl rfl ?_
        refine go_aload C at_118 (pc' := 120) rfl rfl rfl ?_
        refine go_virtualP C (as := []) (rest := []) (W := 0) (.int (1 : Int32)) (sat_ch1 l Z a0 hw a_1021 a_989 _ _ F_1042) E_1041 (wd hw 18 rfl) (wd hw 19 rfl) (wd hw 21 rfl) (wd hw 20 rfl) (wd hw 3 rfl) (wd hw 22 rfl) (by decide) pd_3 rfl rfl rfl (by decide) (by decide) rfl rfl (by decide) (by decide) at_120 (pc' := 123) rfl rfl ?_
        refine go_iload C at_123 (pc' := 125) rfl rfl ?_
        refine go_icmp C (1 : Int) (1 : Int) (by decide) (by decide) at_125 (by decide) (pc' := 132) (by decide) (pcN := 128) rfl (fun (c_1048 : ¬ (1 : Int) = (1 : Int)) => by omega) (fun (c_1048 : (1 : Int) = (1 : Int)) => ?_)
        refine go_iconst C (1 : Int32) at_128 (pc' := 129) rfl (by decide) ?_
        refine go_goto C at_129 (by decide) (pc' := 133) (by decide) ?_
        refine go_istore C (Ls' := #[.val (.int x0), .val (.int x1), .val (.long x2), .second, .val (.long x3), .second, .val (.int x4), .val (.int (1 : Int32)), .val (.int (1 : Int32)), .val (.int (1 : Int32)), .val (.ref a_971), .val (.ref a_989), .val (.ref a_989), .val (.ref a_1002), .val (.ref a_1021), .val (.int (1 : Int32)), .unset, .unset]) at_133 (pc' := 135) rfl rfl ?_
        refine go_new C (wd hw 1 rfl) (wd hw 2 rfl) (wd hw 3 rfl) at_135 (pc' := 138) rfl (ce' := 5) (sl' := 11) rfl rfl (by decide) (by decide) ?_
        intro h_1049 a_1050 g_1051 E_1052 E_1053 D_1054
        have n_1055 : a_1021 ≠ a_1050 := own_ne_new E_1041.lt g_1051
        have n_1056 : a_971 ≠ a_1050 := own_ne_new A_1045.lt g_1051
        have n_1057 : a_989 ≠ a_1050 := own_ne_new A_1046.lt g_1051
        have n_1058 : a_1002 ≠ a_1050 := own_ne_new A_1047.lt g_1051
        have g_1059 : Z.heap.size ≤ a_1050 := own_ge z_1043 g_1051
        have F_1060 := Fld.ext E_1052 F_1042
        have E_1061 := Exa.ext E_1052 E_1041
        have A_1062 := Av.ext A_1045 E_1052
        have A_1063 := Av.ext A_1046 E_1052
        have A_1064 := Av.ext A_1047 E_1052
        have z_1065 : Z.heap.size ≤ h_1049.size := Nat.le_trans z_1043 E_1052.1
        have F_1066 : Fld Z h_1049 a_1050 "com/example/holder/holder/protocol/PathCompression$Token" "place" "I" (.int (0 : Int32)) := D_1054 (Or.inr (wd hw 11 rfl)) (ty := .int) (by decide)
        have F_1067 : Fld Z h_1049 a_1050 "com/example/holder/holder/protocol/PathCompression$Token" "hint" "I" (.int (0 : Int32)) := D_1054 (Or.inr (wd hw 13 rfl)) (ty := .int) (by decide)
        have F_1068 : Fld Z h_1049 a_1050 "com/example/holder/holder/protocol/PathCompression$Token" "hintStamp" "[J" (.null) := D_1054 (Or.inr (wd hw 15 rfl)) (ty := (.array .long)) (by decide)
        have F_1069 : Fld Z h_1049 a_1050 "com/example/holder/holder/protocol/PathCompression$Token" "clock" "[J" (.null) := D_1054 (Or.inr (wd hw 17 rfl)) (ty := (.array .long)) (by decide)
        refine go_dup C at_138 (pc' := 139) rfl rfl ?_
        refine go_specialN C (as := []) (rest := [.ref a_1050]) (W := 1) (sat_init1 l Z a0 hw a_1050 _ _ E_1053 F_1066 F_1067 F_1068 F_1069 g_1059) rfl (wd hw 23 rfl) (wd hw 24 rfl) (wd hw 3 rfl) (wd hw 25 rfl) (by decide) pd_2 rfl rfl rfl (by decide) (by decide) (ce' := 5) (sl' := 11) rfl rfl (by decide) (by decide) at_139 (pc' := 142) rfl rfl ?_
        intro h_1070 q_1071
        obtain ⟨K_1072, E_1073, F_1074⟩ := q_1071
        have z_1075 : Z.heap.size ≤ h_1070.size := Nat.le_trans z_1065 K_1072.1
        have F_1076 := Fld.keep F_1060 K_1072 (ninS n_1055 nin0)
        have E_1077 := Exa.keep E_1061 K_1072
        have E_1078 := Exa.keep E_1053 K_1072
        have A_1079 := Av.keep A_1062 K_1072 (ninS n_1056 nin0)
        have A_1080 := Av.keep A_1063 K_1072 (ninS n_1057 nin0)
        have A_1081 := Av.keep A_1064 K_1072 (ninS n_1058 nin0)
        refine go_astore C (Ls' := #[.val (.int x0), .val (.int x1), .val (.long x2), .second, .val (.long x3), .second, .val (.int x4), .val (.int (1 : Int32)), .val (.int (1 : Int32)), .val (.int (1 : Int32)), .val (.ref a_971), .val (.ref a_989), .val (.ref a_989), .val (.ref a_1002), .val (.ref a_1021), .val (.int (1 : Int32)), .val (.ref a_1050), .unset]) at_142 (pc' := 144) rfl rfl rfl ?_
        refine go_new C (wd hw 1 rfl) (wd hw 2 rfl) (wd hw 3 rfl) at_144 (pc' := 147) rfl (ce' := 6) (sl' := 15) rfl rfl (by decide) (by decide) ?_
        intro h_1082 a_1083 g_1084 E_1085 E_1086 D_1087
        have n_1088 : a_1021 ≠ a_1083 := own_ne_new E_1077.lt g_1084
        have n_1089 : a_1050 ≠ a_1083 := own_ne_new E_1073.lt g_1084
        have n_1090 : a_971 ≠ a_1083 := own_ne_new A_1079.lt g_1084
        have n_1091 : a_989 ≠ a_1083 := own_ne_new A_1080.lt g_1084
        have n_1092 : a_1002 ≠ a_1083 := own_ne_new A_1081.lt g_1084
        have g_1093 : Z.heap.size ≤ a_1083 := own_ge z_1075 g_1084
        have F_1094 := Fld.ext E_1085 F_1076
        have F_1095 := Fld.ext E_1085 F_1074
        have E_1096 := Exa.ext E_1085 E_1077
        have E_1097 := Exa.ext E_1085 E_1073
        have A_1098 := Av.ext A_1079 E_1085
        have A_1099 := Av.ext A_1080 E_1085
        have A_1100 := Av.ext A_1081 E_1085
        have z_1101 : Z.heap.size ≤ h_1082.size := Nat.le_trans z_1075 E_1085.1
        have F_1102 : Fld Z h_1082 a_1083 "com/example/holder/holder/protocol/PathCompression$Token" "place" "I" (.int (0 : Int32)) := D_1087 (Or.inr (wd hw 11 rfl)) (ty := .int) (by decide)
        have F_1103 : Fld Z h_1082 a_1083 "com/example/holder/holder/protocol/PathCompression$Token" "hint" "I" (.int (0 : Int32)) := D_1087 (Or.inr (wd hw 13 rfl)) (ty := .int) (by decide)
        have F_1104 : Fld Z h_1082 a_1083 "com/example/holder/holder/protocol/PathCompression$Token" "hintStamp" "[J" (.null) := D_1087 (Or.inr (wd hw 15 rfl)) (ty := (.array .long)) (by decide)
        have F_1105 : Fld Z h_1082 a_1083 "com/example/holder/holder/protocol/PathCompression$Token" "clock" "[J" (.null) := D_1087 (Or.inr (wd hw 17 rfl)) (ty := (.array .long)) (by decide)
        refine go_dup C at_147 (pc' := 148) rfl rfl ?_
        refine go_iloadN C at_148 (pc' := 149) rfl rfl ?_
        refine go_specialN C (as := [.int x0]) (rest := [.ref a_1083]) (W := 1) (sat_init2 l Z a0 hw a_1083 x0 _ _ E_1086 F_1102 F_1103 F_1104 F_1105 g_1093) rfl (wd hw 30 rfl) (wd hw 27 rfl) (wd hw 3 rfl) (wd hw 28 rfl) (by decide) pd_4 rfl rfl rfl (by decide) (by decide) (ce' := 6) (sl' := 15) rfl rfl (by decide) (by decide) at_149 (pc' := 152) rfl rfl ?_
        intro h_1106 q_1107
        obtain ⟨K_1108, E_1109, F_1110⟩ := q_1107
        have z_1111 : Z.heap.size ≤ h_1106.size := Nat.le_trans z_1101 K_1108.1
        have F_1112 := Fld.keep F_1094 K_1108 (ninS n_1088 nin0)
        have F_1113 := Fld.keep F_1095 K_1108 (ninS n_1089 nin0)
        have E_1114 := Exa.keep E_1096 K_1108
        have E_1115 := Exa.keep E_1097 K_1108
        have E_1116 := Exa.keep E_1086 K_1108
        have A_1117 := Av.keep A_1098 K_1108 (ninS n_1090 nin0)
        have A_1118 := Av.keep A_1099 K_1108 (ninS n_1091 nin0)
        have A_1119 := Av.keep A_1100 K_1108 (ninS n_1092 nin0)
        refine go_astore C (Ls' := #[.val (.int x0), .val (.int x1), .val (.long x2), .second, .val (.long x3), .second, .val (.int x4), .val (.int (1 : Int32)), .val (.int (1 : Int32)), .val (.int (1 : Int32)), .val (.ref a_971), .val (.ref a_989), .val (.ref a_989), .val (.ref a_1002), .val (.ref a_1021), .val (.int (1 : Int32)), .val (.ref a_1050), .val (.ref a_1083)]) at_152 (pc' := 154) rfl rfl rfl ?_
        refine go_iload C at_154 (pc' := 156) rfl rfl ?_
        refine go_if0 C (1 : Int) (by decide) at_156 (by decide) (pc' := 171) (by decide) (pcN := 159) rfl (fun (c_1120 : (1 : Int) = 0) => by omega) (fun (c_1120 : ¬ (1 : Int) = 0) => ?_)
        refine go_aload C at_159 (pc' := 161) rfl rfl rfl ?_
        refine go_virtualP C (as := []) (rest := []) (W := 0) (.int (0 : Int32)) (sat_ch0 l Z a0 hw a_1050 _ _ F_1113) E_1115 (wd hw 18 rfl) (wd hw 19 rfl) (wd hw 21 rfl) (wd hw 20 rfl) (wd hw 3 rfl) (wd hw 22 rfl) (by decide) pd_3 rfl rfl rfl (by decide) (by decide) rfl rfl (by decide) (by decide) at_161 (pc' := 164) rfl rfl ?_
        refine go_if0 C (0 : Int) (by decide) at_164 (by decide) (pc' := 171) (by decide) (pcN := 167) rfl (fun (c_1121 : ¬ (0 : Int) = 0) => by omega) (fun (c_1121 : (0 : Int) = 0) => ?_)
        refine go_iconst C (1 : Int32) at_167 (pc' := 168) rfl (by decide) ?_
        refine go_goto C at_168 (by decide) (pc' := 172) (by decide) ?_
        refine go_istore C (Ls' := #[.val (.int x0), .val (.int x1), .val (.long x2), .second, .val (.long x3), .second, .val (.int x4), .val (.int (1 : Int32)), .val (.int (1 : Int32)), .val (.int (1 : Int32)), .val (.ref a_971), .val (.ref a_989), .val (.ref a_989), .val (.ref a_1002), .val (.ref a_1021), .val (.int (1 : Int32)), .val (.ref a_1050), .val (.ref a_1083)]) at_172 (pc' := 174) rfl rfl ?_
        refine go_iload C at_174 (pc' := 176) rfl rfl ?_
        refine go_if0 C (1 : Int) (by decide) at_176 (by decide) (pc' := 191) (by decide) (pcN := 179) rfl (fun (c_1122 : (1 : Int) = 0) => by omega) (fun (c_1122 : ¬ (1 : Int) = 0) => ?_)
        refine go_aload C at_179 (pc' := 181) rfl rfl rfl ?_
        refine go_virtualP C (as := []) (rest := []) (W := 0) (.int (0 : Int32)) (sat_ch0 l Z a0 hw a_1083 _ _ F_1110) E_1109 (wd hw 18 rfl) (wd hw 19 rfl) (wd hw 21 rfl) (wd hw 20 rfl) (wd hw 3 rfl) (wd hw 22 rfl) (by decide) pd_3 rfl rfl rfl (by decide) (by decide) rfl rfl (by decide) (by decide) at_181 (pc' := 184) rfl rfl ?_
        refine go_if0 C (0 : Int) (by decide) at_184 (by decide) (pc' := 191) (by decide) (pcN := 187) rfl (fun (c_1123 : ¬ (0 : Int) = 0) => by omega) (fun (c_1123 : (0 : Int) = 0) => ?_)
        refine go_iconst C (1 : Int32) at_187 (pc' := 188) rfl (by decide) ?_
        refine go_goto C at_188 (by decide) (pc' := 192) (by decide) ?_
        refine go_istore C (Ls' := #[.val (.int x0), .val (.int x1), .val (.long x2), .second, .val (.long x3), .second, .val (.int x4), .val (.int (1 : Int32)), .val (.int (1 : Int32)), .val (.int (1 : Int32)), .val (.ref a_971), .val (.ref a_989), .val (.ref a_989), .val (.ref a_1002), .val (.ref a_1021), .val (.int (1 : Int32)), .val (.ref a_1050), .val (.ref a_1083)]) at_192 (pc' := 194) rfl rfl ?_
        refine go_iload C at_194 (pc' := 196) rfl rfl ?_
        refine go_ireturnN C (z' := (1 : Int32)) rfl (by simp) rfl at_196 (by decide) (by decide) ?_
        exact ⟨_, rfl, rfl⟩
set_option maxRecDepth 65536 in
set_option maxHeartbeats 40000000 in
theorem comes_1 {Post : Tables → Env → Array Value → State → Outcome → State → Prop} (hpost : ∀ tb e args s v u, (limb_1_1.after args s (.returned v) u = true ∧ limb_1_2.after args s (.returned v) u = true ∧ True) → FrameEnd s (.returned v) u (Jvm.fieldLocs frame_1_writes args s ++ Jvm.arrayLocs frame_1_arrays args s ++ Jvm.staticLocs frame_1_statics s) 24 128 → Post tb e args s (.returned v) u) :
    ArmFor flags0 classFile x code maxLocals ret World_1 tables_1 room_1 Calls_1 rest_1 Pre_1 Post := by
  intro l hfl _ _ p e ha hc hk s m args below hf hA hF happ hP
  obtain ⟨hcalls, hrest, hpre⟩ := hP
  obtain ⟨-, -, -, hnamed, -, -, -, hat⟩ := (Spec.applies_iff hf).mp happ
  obtain ⟨hg, hn⟩ := and_e (Cond.before_iff.mp (show (Jvm.Cond.and given_1 narrow_1).before args s = true from hpre))
  obtain ⟨k0, g0⟩ := and_e hg
  obtain ⟨k1, g1⟩ := and_e g0
  obtain ⟨k2, g2⟩ := and_e g1
  obtain ⟨k3, g3⟩ := and_e g2
  obtain ⟨k4, g4⟩ := and_e g3
  obtain ⟨w0, w1, w2, w3, w4, rfl⟩ : ∃ w0 w1 w2 w3 w4 : Value, args = #[w0, w1, w2, w3, w4] := by
    have hs : args.size = 5 := by simpa [Cond.value, given_1] using k0
    obtain ⟨L⟩ := args
    match L, hs with
    | [w0, w1, w2, w3, w4], _ => exact ⟨w0, w1, w2, w3, w4, rfl⟩
  have hw := fun d (hd : d ∈ tables_1) => atoms_spec (ws := Jvm.Cond.code x code maxLocals ret :: tables_1) hat d (List.mem_cons_of_mem _ hd)
  obtain ⟨i0, e0⟩ := is_v k1
  obtain ⟨i1, e1⟩ := is_v k2
  obtain ⟨i2, e2⟩ := isL_v k3
  obtain ⟨i3, e3⟩ := isL_v k4
  obtain ⟨i4, e4⟩ := is_v g4
  obtain rfl : w0 = (.int i0) := Option.some.inj e0
  obtain rfl : w1 = (.int i1) := Option.some.inj e1
  obtain rfl : w2 = (.long i2) := Option.some.inj e2
  obtain rfl : w3 = (.long i3) := Option.some.inj e3
  obtain rfl : w4 = (.int i4) := Option.some.inj e4
  obtain ⟨n, o, h1, h2, h3, _, L, rfl, ⟨⟨_, rfl, rfl⟩, N⟩, hq⟩ := law_sat l s _ hw i0 i1 i2 i3 i4 tables_1 p e ha hc hk s m _ below hf ((Spec.applies_iff_loose hf).mp happ).1 ⟨rfl, State.Warmed39.refl s, rfl⟩ trivial
  refine ⟨n, _, h1, h2, h3, hpost _ _ _ _ _ _ ⟨Cond.after_iff.mpr rfl, Cond.after_iff.mpr (eq_i res_at (Term.int_eval (1)) rfl), trivial⟩ ⟨hq.1, hq.2.1, (hq.2.2.sift fun y hy => Or.inr (N y hy)).mono (by decide) (by decide)⟩⟩
theorem main_1_1 : Claimed_1_1 := comes_1 fun _ _ _ _ _ _ h hF => ⟨h.1, hF⟩
theorem main_1_2 : Claimed_1_2 := comes_1 fun _ _ _ _ _ _ h hF => ⟨h.2.1, hF⟩
end Jvm.Pilot.@@N@@
namespace Jvm.Pilot.@@N@@
open Jvm Jvm.ClassFile Sem Op Lib Jvm.Free Jvm.Stand Jvm.Pilot.@@N@@.Jvm.D
/-! MADE BY PROGRAM (witnessworld.py) out of the Statement's table words and the real class files: 12 classes; the members and pool entries that the words name. The judged class is class 1, her method 1. -/
namespace start1
open Jvm.ClassFile
def u (s : String) : CpInfo := .utf8 (stringToUtf16 s)
/-- a pool by its gaps: so many unusable entries, then the entry; so many at the end -/
def gap : Nat → List CpInfo → List CpInfo
  | 0, r => r
  | n + 1, r => .unusable :: gap n r
def poolList (es : List (Nat × CpInfo)) (last : Nat) : List CpInfo := es.foldr (fun e r => gap e.1 (e.2 :: r)) (gap last [])
def pool (es : List (Nat × CpInfo)) (last : Nat) : Array CpInfo := ⟨poolList es last⟩
def fileOf (pool : Array CpInfo) (this : Nat) (attrs : Array Attribute := #[]) (ms : Array MethodInfo := #[]) (fl : Nat := 33) (sup : Nat := 0) (ifs : Array Nat := #[]) (fds : Array FieldInfo := #[]) : ClassFile where
  minorVersion := 0
  majorVersion := 65
  constantPool := pool
  accessFlags := fl
  thisClass := this
  superClass := sup
  interfaces := ifs
  fields := fds
  methods := ms
  attributes := attrs
def plain (name : String) (sup : Option ClassId) : Class where
  name := name
  kind := .ordinary
  loader := none
  accessFlags := 33
  super := sup
  interfaces := #[]
  cf := none
  fields := #[]
  methods := #[]
  instanceTypes := #[]
  staticTypes := #[]
  resolved := #[]
  callSites := []
  init := .initialized
  statics := none
  mirror := none

def pool0 : Array CpInfo := pool [(5, u "<init>"), (0, u "()V"), (1, .class_ 10), (1, u "java/lang/Object")] 113

def k0c0 : Code := { maxStack := 0, maxLocals := 1, code := object_method_1_code, exceptionTable := #[], attributes := #[] }
def k0m0 : Method := { name := "<init>", desc := "()V", sig := { parameters := [], returnType := none }, accessFlags := 1, code := some k0c0 }
/-- java/lang/Object -/
def k0 : Class := { plain "java/lang/Object" none with
  accessFlags := 33
  interfaces := #[]
  cf := some (fileOf pool0 8 #[] #[{ accessFlags := 1, nameIndex := 5, descriptorIndex := 6, attributes := #[] }] 33 0 #[] #[])
  fields := #[]
  methods := #[k0m0]
  instanceTypes := #[]
  staticTypes := #[]
  resolved := Array.replicate 124 none
  statics := none }

def pool1 : Array CpInfo := pool [(2, .class_ 4), (0, .nameAndType 5 6), (0, u "java/lang/Object"), (0, u "<init>"), (0, u "()V"), (0, .class_ 8), (0, u "com/example/holder/holder/protocol/PathCompression$Token"), (0, .methodref 7 10), (0, .nameAndType 5 11), (0, u "(II[J[J)V"), (0, .methodref 7 13), (0, .nameAndType 14 15), (0, u "carriesHint"), (0, u "()Z"), (0, .methodref 7 3), (0, .methodref 7 18), (0, .nameAndType 5 19), (0, u "(I)V"), (0, .class_ 21), (0, u "com/example/holder/holder/protocol/TokenCarriesHintPinLaw"), (2, u "law"), (0, u "(IIJJI)Z")] 9

def k1m0 : Method := { name := "<init>", desc := "()V", sig := { parameters := [], returnType := none }, accessFlags := 2, code := none }
def k1c1 : Code := { maxStack := 6, maxLocals := 18, code := code, exceptionTable := #[], attributes := #[] }
def k1m1 : Method := { name := "law", desc := "(IIJJI)Z", sig := { parameters := [.int, .int, .long, .long, .int], returnType := some .boolean }, accessFlags := 9, code := some k1c1 }
/-- com/example/holder/holder/protocol/TokenCarriesHintPinLaw -/
def k1 : Class := { plain "com/example/holder/holder/protocol/TokenCarriesHintPinLaw" (some 0) with
  accessFlags := 49
  interfaces := #[]
  cf := some (fileOf pool1 20 #[] #[{ accessFlags := 2, nameIndex := 5, descriptorIndex := 6, attributes := #[] }, { accessFlags := 9, nameIndex := 24, descriptorIndex := 25, attributes := #[] }] 49 2 #[] #[])
  fields := #[]
  methods := #[k1m0, k1m1]
  instanceTypes := #[]
  staticTypes := #[]
  resolved := Array.replicate 35 none
  statics := none }

def pool2 : Array CpInfo := pool [(1, .class_ 2), (0, u "com/example/holder/holder/protocol/Message"), (0, .class_ 4), (0, u "java/lang/Object")] 8

/-- com/example/holder/holder/protocol/Message -/
def k2 : Class := { plain "com/example/holder/holder/protocol/Message" (some 0) with
  accessFlags := 1537
  interfaces := #[]
  cf := some (fileOf pool2 1 #[] #[] 1537 3 #[] #[])
  fields := #[]
  methods := #[]
  instanceTypes := #[]
  staticTypes := #[]
  resolved := Array.replicate 13 none
  statics := none }

def pool3 : Array CpInfo := pool [(3, .methodref 4 5), (0, .class_ 6), (0, .nameAndType 7 8), (0, u "com/example/holder/holder/protocol/PathCompression$Token"), (0, u "<init>"), (0, u "(I)V"), (0, .methodref 4 10), (0, .nameAndType 7 11), (0, u "(II[J[J)V"), (0, .methodref 13 14), (0, .class_ 15), (0, .nameAndType 7 16), (0, u "java/lang/Object"), (0, u "()V"), (0, .fieldref 4 18), (0, .nameAndType 19 20), (0, u "place"), (0, u "I"), (0, .fieldref 4 22), (0, .nameAndType 23 20), (0, u "hint"), (0, .fieldref 4 25), (0, .nameAndType 26 27), (0, u "hintStamp"), (0, u "[J"), (0, .fieldref 4 29), (0, .nameAndType 30 27), (0, u "clock"), (30, u "()Z"), (9, .class_ 72), (0, u "com/example/holder/holder/protocol/Message"), (5, u "carriesHint"), (4, .class_ 84), (0, u "com/example/holder/holder/protocol/PathCompression")] 22

def k3c0 : Code := { maxStack := 2, maxLocals := 1, code := prog_47_method_1_code, exceptionTable := #[], attributes := #[] }
def k3m0 : Method := { name := "<init>", desc := "()V", sig := { parameters := [], returnType := none }, accessFlags := 1, code := some k3c0 }
def k3c1 : Code := { maxStack := 5, maxLocals := 2, code := prog_47_method_2_code, exceptionTable := #[], attributes := #[] }
def k3m1 : Method := { name := "<init>", desc := "(I)V", sig := { parameters := [.int], returnType := none }, accessFlags := 1, code := some k3c1 }
def k3c2 : Code := { maxStack := 2, maxLocals := 5, code := prog_47_method_3_code, exceptionTable := #[], attributes := #[] }
def k3m2 : Method := { name := "<init>", desc := "(II[J[J)V", sig := { parameters := [.int, .int, (.array .long), (.array .long)], returnType := none }, accessFlags := 0, code := some k3c2 }
def k3c3 : Code := { maxStack := 1, maxLocals := 1, code := prog_47_method_6_code, exceptionTable := #[], attributes := #[] }
def k3m3 : Method := { name := "carriesHint", desc := "()Z", sig := { parameters := [], returnType := some .boolean }, accessFlags := 1, code := some k3c3 }
/-- com/example/holder/holder/protocol/PathCompression$Token -/
def k3 : Class := { plain "com/example/holder/holder/protocol/PathCompression$Token" (some 0) with
  accessFlags := 33
  interfaces := #[2]
  cf := some (fileOf pool3 4 #[.nestHost 83] #[{ accessFlags := 1, nameIndex := 7, descriptorIndex := 16, attributes := #[] }, { accessFlags := 1, nameIndex := 7, descriptorIndex := 8, attributes := #[] }, { accessFlags := 0, nameIndex := 7, descriptorIndex := 11, attributes := #[] }, { accessFlags := 1, nameIndex := 78, descriptorIndex := 61, attributes := #[] }] 33 13 #[71] #[{ accessFlags := 18, nameIndex := 19, descriptorIndex := 20, attributes := #[] }, { accessFlags := 18, nameIndex := 23, descriptorIndex := 20, attributes := #[] }, { accessFlags := 18, nameIndex := 26, descriptorIndex := 27, attributes := #[] }, { accessFlags := 18, nameIndex := 30, descriptorIndex := 27, attributes := #[] }])
  fields := #[{ name := "place", type := .int, accessFlags := 18, slot := 0, constantValue := 0 }, { name := "hint", type := .int, accessFlags := 18, slot := 1, constantValue := 0 }, { name := "hintStamp", type := (.array .long), accessFlags := 18, slot := 2, constantValue := 0 }, { name := "clock", type := (.array .long), accessFlags := 18, slot := 3, constantValue := 0 }]
  methods := #[k3m0, k3m1, k3m2, k3m3]
  instanceTypes := #[.int, .int, (.array .long), (.array .long)]
  staticTypes := #[]
  resolved := Array.replicate 107 none
  statics := none }

def pool4 : Array CpInfo := pool [(1, u "java/lang/Cloneable"), (0, .class_ 1), (0, u "java/lang/Object"), (0, .class_ 3)] 3

/-- java/lang/Cloneable -/
def k4 : Class := { plain "java/lang/Cloneable" (some 0) with
  accessFlags := 1537
  interfaces := #[]
  cf := some (fileOf pool4 2 #[] #[] 1537 4 #[] #[])
  fields := #[]
  methods := #[]
  instanceTypes := #[]
  staticTypes := #[]
  resolved := Array.replicate 8 none
  statics := none }

def pool5 : Array CpInfo := pool [(1, u "java/io/Serializable"), (0, .class_ 1), (0, u "java/lang/Object"), (0, .class_ 3)] 3

/-- java/io/Serializable -/
def k5 : Class := { plain "java/io/Serializable" (some 0) with
  accessFlags := 1537
  interfaces := #[]
  cf := some (fileOf pool5 2 #[] #[] 1537 4 #[] #[])
  fields := #[]
  methods := #[]
  instanceTypes := #[]
  staticTypes := #[]
  resolved := Array.replicate 8 none
  statics := none }

/-- the primitive byte -/
def k6 : Class := { plain "byte" none with kind := .primitive 'B', accessFlags := 0x411 }
/-- [B -/
def k7 : Class := { plain "[B" (some 0) with kind := .array 6 .byte, interfaces := #[4, 5], accessFlags := 1041 }

/-- the primitive int -/
def k8 : Class := { plain "int" none with kind := .primitive 'I', accessFlags := 0x411 }
/-- [I -/
def k9 : Class := { plain "[I" (some 0) with kind := .array 8 .int, interfaces := #[4, 5], accessFlags := 1041 }

/-- the primitive long -/
def k10 : Class := { plain "long" none with kind := .primitive 'J', accessFlags := 0x411 }
/-- [J -/
def k11 : Class := { plain "[J" (some 0) with kind := .array 10 .long, interfaces := #[4, 5], accessFlags := 1041 }

def heap : Heap := #[]
def classes : Array Class := #[k0, k1, k2, k3, k4, k5, k6, k7, k8, k9, k10, k11]
def interned : List (Array UInt16 × Addr) := []
def slotsUsed : Nat := 0
def theMethod : MethodId := ⟨1, 1⟩
def args0 : Array Value := #[.int 3, .int 4, .long 7, .long 8, .int 7]
def aboutOver (below : List Frame) : State where
  vm := { classes := classes, interned := interned.toArray }
  heap := heap
  slotsUsed := slotsUsed
  threads := #[{ frames := .invoking theMethod args0 :: below }]
def below0 : List Frame := [.native { method := ⟨0, 0⟩, args := #[] }]
def about1 : State := aboutOver below0
def p0 : Program := .bare "" "" ""
def e0 : Env := launch0.env 0 0 0
theorem w_frames : about1.frames = Frame.invoking theMethod args0 :: below0 := rfl
set_option maxRecDepth 65536 in
theorem w_args : argsFit about1.vm theMethod args0 = true := by decide +kernel
set_option maxRecDepth 65536 in
theorem w_heap : heapFits about1 = true := by decide +kernel
set_option maxRecDepth 65536 in
theorem w_runnable : about1.curStatus? = some .runnable := by decide +kernel
set_option maxRecDepth 65536 in
theorem w_alone : about1.alone = true := by decide +kernel
set_option maxRecDepth 65536 in
theorem w_named : about1.methodNamed? x = some theMethod := by decide +kernel
set_option maxRecDepth 65536 in
theorem w_hears : about1.hears theMethod below0 = true := by decide +kernel
set_option maxRecDepth 65536 in
theorem w_ripe : about1.ripe theMethod args0 below0 = true := by decide +kernel
theorem w_running : about1.status = .running := rfl
set_option maxRecDepth 65536 in
theorem w_room : about1.hasRoom e0.platform room_1 = true :=
  launch0.hasRoom_least _ room_1 (by decide +kernel) (by decide +kernel) (by decide +kernel) (by decide +kernel) (by decide +kernel) (by decide +kernel)
theorem allAtoms_all (ts : List Jvm.Cond) (a : Array Jvm.Value) (st : Jvm.State) : (allAtoms ts).before a st = ts.all (fun c => c.before a st) := by
  induction ts with
  | nil => rfl
  | cons c t ih =>
    show (Jvm.Cond.and c (allAtoms t)).before a st = _
    rw [Jvm.Cond.before_and, ih, List.all_cons]
def words1 : List Jvm.Cond := Jvm.Cond.code x code maxLocals ret :: tables_1
/-- a 'code' word, met by the world's own term for the bytes: nothing is compared byte by byte -/
theorem code_word {y : MethodName} {bytes : ByteArray} {mx : Nat} {rt : Option FieldType} {a : Array Value} {s : State} {m : MethodId} {meth : Method} {c : Code} (h1 : s.methodNamed? y = some m) (h2 : s.vm.method? m = some meth) (h3 : meth.code = some c) (h4 : c.code = bytes)
    (h5 : (c.maxLocals == mx && c.exceptionTable.isEmpty && decide (c.maxStack ≤ mostOperands) && decide (meth.sig.returnType = rt) && !meth.locks && decide (parseMethodDescriptor y.desc = some meth.sig)) = true) : (Jvm.Cond.code y bytes mx rt).before a s = true := by
  simp only [Bool.and_eq_true, beq_iff_eq, Bool.not_eq_true', decide_eq_true_eq] at h5
  obtain ⟨⟨⟨⟨⟨g1, g2⟩, g3⟩, g4⟩, g5⟩, g6⟩ := h5
  simp [Cond.before, Cond.holds, Cond.value, h1, h2, h3, h4, g1, g2, g3, g4, g5, g6]
def isCode : Jvm.Cond → Bool
  | .code _ _ _ _ => true
  | _ => false
theorem all_split {L : List Jvm.Cond} {P : Jvm.Cond → Bool} (h1 : L.all (fun c => isCode c || P c) = true) (h2 : ∀ c ∈ L.filter isCode, P c = true) : L.all P = true := by
  refine List.all_eq_true.mpr fun c hc => ?_
  have h := List.all_eq_true.mp h1 c hc
  rcases Bool.eq_false_or_eq_true (isCode c) with hi | hi
  · exact h2 c (List.mem_filter.mpr ⟨hc, hi⟩)
  · simpa [hi] using h
set_option maxRecDepth 65536 in
theorem w_c0 : (Jvm.Cond.code x code maxLocals ret).before args0 about1 = true := code_word (m := ⟨1, 1⟩) (meth := k1m1) (c := k1c1) (by decide +kernel) rfl rfl rfl (by decide +kernel)
set_option maxRecDepth 65536 in
theorem w_c1 : (Jvm.Cond.code ({ cls := "com/example/holder/holder/protocol/PathCompression$Token", name := "<init>", desc := "(II[J[J)V" } : Jvm.MethodName) prog_47_method_3_code (5 : Nat) (Option.none : Option Jvm.ClassFile.FieldType)).before args0 about1 = true := code_word (m := ⟨3, 2⟩) (meth := k3m2) (c := k3c2) (by decide +kernel) rfl rfl rfl (by decide +kernel)
set_option maxRecDepth 65536 in
theorem w_c2 : (Jvm.Cond.code ({ cls := "java/lang/Object", name := "<init>", desc := "()V" } : Jvm.MethodName) object_method_1_code (1 : Nat) (Option.none : Option Jvm.ClassFile.FieldType)).before args0 about1 = true := code_word (m := ⟨0, 0⟩) (meth := k0m0) (c := k0c0) (by decide +kernel) rfl rfl rfl (by decide +kernel)
set_option maxRecDepth 65536 in
theorem w_c3 : (Jvm.Cond.code ({ cls := "com/example/holder/holder/protocol/PathCompression$Token", name := "carriesHint", desc := "()Z" } : Jvm.MethodName) prog_47_method_6_code (1 : Nat) (Option.some Jvm.ClassFile.FieldType.boolean)).before args0 about1 = true := code_word (m := ⟨3, 3⟩) (meth := k3m3) (c := k3c3) (by decide +kernel) rfl rfl rfl (by decide +kernel)
set_option maxRecDepth 65536 in
theorem w_c4 : (Jvm.Cond.code ({ cls := "com/example/holder/holder/protocol/PathCompression$Token", name := "<init>", desc := "()V" } : Jvm.MethodName) prog_47_method_1_code (1 : Nat) (Option.none : Option Jvm.ClassFile.FieldType)).before args0 about1 = true := code_word (m := ⟨3, 0⟩) (meth := k3m0) (c := k3c0) (by decide +kernel) rfl rfl rfl (by decide +kernel)
set_option maxRecDepth 65536 in
theorem w_c5 : (Jvm.Cond.code ({ cls := "com/example/holder/holder/protocol/PathCompression$Token", name := "<init>", desc := "(I)V" } : Jvm.MethodName) prog_47_method_2_code (2 : Nat) (Option.none : Option Jvm.ClassFile.FieldType)).before args0 about1 = true := code_word (m := ⟨3, 1⟩) (meth := k3m1) (c := k3c1) (by decide +kernel) rfl rfl rfl (by decide +kernel)
def codes1 : List Jvm.Cond := [Jvm.Cond.code x code maxLocals ret, Jvm.Cond.code ({ cls := "com/example/holder/holder/protocol/PathCompression$Token", name := "<init>", desc := "(II[J[J)V" } : Jvm.MethodName) prog_47_method_3_code (5 : Nat) (Option.none : Option Jvm.ClassFile.FieldType), Jvm.Cond.code ({ cls := "java/lang/Object", name := "<init>", desc := "()V" } : Jvm.MethodName) object_method_1_code (1 : Nat) (Option.none : Option Jvm.ClassFile.FieldType), Jvm.Cond.code ({ cls := "com/example/holder/holder/protocol/PathCompression$Token", name := "carriesHint", desc := "()Z" } : Jvm.MethodName) prog_47_method_6_code (1 : Nat) (Option.some Jvm.ClassFile.FieldType.boolean), Jvm.Cond.code ({ cls := "com/example/holder/holder/protocol/PathCompression$Token", name := "<init>", desc := "()V" } : Jvm.MethodName) prog_47_method_1_code (1 : Nat) (Option.none : Option Jvm.ClassFile.FieldType), Jvm.Cond.code ({ cls := "com/example/holder/holder/protocol/PathCompression$Token", name := "<init>", desc := "(I)V" } : Jvm.MethodName) prog_47_method_2_code (2 : Nat) (Option.none : Option Jvm.ClassFile.FieldType)]
set_option maxRecDepth 65536 in
theorem codes_eq : words1.filter isCode = codes1 := rfl
theorem w_codes : ∀ c ∈ words1.filter isCode, c.before args0 about1 = true := by
  rw [codes_eq]
  intro c hc
  simp only [codes1, List.mem_cons, List.not_mem_nil, or_false] at hc
  rcases hc with rfl | rfl | rfl | rfl | rfl | rfl
  · exact w_c0
  · exact w_c1
  · exact w_c2
  · exact w_c3
  · exact w_c4
  · exact w_c5
set_option maxRecDepth 65536 in
theorem w_t1 : (words1.take 24).all (fun c => isCode c || c.before args0 about1) = true := by decide +kernel
set_option maxRecDepth 65536 in
theorem w_t2 : (words1.drop 24).all (fun c => isCode c || c.before args0 about1) = true := by decide +kernel
theorem w_tables : (allAtoms (Jvm.Cond.code x code maxLocals ret :: tables_1)).before args0 about1 = true := by
  rw [allAtoms_all]
  show words1.all (fun c => c.before args0 about1) = true
  refine all_split ?_ w_codes
  rw [← List.take_append_drop 24 words1, List.all_append, w_t1, w_t2]
  rfl
set_option maxRecDepth 65536 in
theorem w_case : (Jvm.Cond.and given_1 narrow_1).before args0 about1 = true := by decide +kernel
theorem w_applies : (headSpec (Jvm.Cond.code x code maxLocals ret :: tables_1) room_1).applies x e0.platform about1 = true :=
  (Spec.applies_iff w_frames).mpr ⟨w_running, w_runnable, w_alone, w_named, w_hears, w_ripe, w_room, w_tables⟩
theorem atStart : AtStart classFile x code maxLocals ret World_1 tables_1 room_1 Calls_1 rest_1 Pre_1 launch0 p0 e0 about1 theMethod args0 below0 :=
  ⟨lists_1, trivial, launch0.admits_env _ _ _, launch0.least_env, fairChoices_fair.cas, fairChoices_fair.clock, w_frames, w_args, w_heap, w_applies, trivial, trivial, w_case⟩
end start1
theorem witness_1 : WitnessClaimed_1 := ⟨start1.p0, start1.e0, start1.about1, start1.theMethod, start1.args0, start1.below0, start1.atStart⟩
end Jvm.Pilot.@@N@@
