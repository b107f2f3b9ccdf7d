import JvmDerived
import JvmDerived.Pilot.@@N@@Statement
import JvmDerived.Pilot.@@N@@Code
set_option linter.unusedVariables false
set_option linter.unusedSimpArgs false
@@BLOCK:NumsL.lean.txt@@
namespace Jvm.Pilot.@@N@@
open Jvm Jvm.ClassFile Sem Op Lib Jvm.Free Jvm.Stand Jvm.LawKit Jvm.RoadKit Bundle Jvm.Pilot.@@N@@.Jvm.D
section OwnLayer
/-- the surroundings of a walk: what stays the same from step to step -/
def Cx (p : Program) (s : State) (m : MethodId) (meth : Method) (c : Code) (Z : State) (own : String) (bs : ByteArray) (mx : Nat) (rt : Option FieldType) (nm : String) : Prop :=
  p.tables.exec = Jvm.exec ∧ c.code = bs ∧ c.maxLocals = mx ∧ Z.Warmed39 s.vm ∧ s.vm.findClass own = some m.cls ∧ meth.sig.returnType = rt ∧ meth.locks = false ∧ meth.name = nm
/-- wherever the walk stands with heap h and top frame g, it comes to its end, and Q holds there -/
def Go (p : Program) (l : Launch) (e : Env) (R : Room) (s : State) (m : MethodId) (args : Array Value) (below : List Frame) (meth : Method) (c : Code) (n0 : Nat) (Q : Option Value → Heap → Prop) (K N : Nat) (h : Heap) (ce sl : Nat) (g : JFrame) : Prop :=
  ∀ (T : State) (locs : List Loc), Stand p l e R s m args below meth c T locs ce sl → T.heap = h → Fr n0 locs →
    ∃ s₂ o, Steps p.tables e below (T.setTop g) s₂ ∧ s₂.status = .running ∧ Ended s₂ below o ∧ ∃ v L, o = .returned v ∧ (Q v s₂.heap ∧ Fr n0 L) ∧ FrameEnd s o s₂ L K N
/-- a method's contract, for given arguments and a given heap -/
def Sat (l : Launch) (Z : State) (y : MethodName) (bs : ByteArray) (mx : Nat) (rt : Option FieldType) (rm : Room) (as : List Value) (h0 : Heap) (n0 : Nat) (Q : Option Value → Heap → Prop) : Prop :=
  ∀ ws : List Jvm.Cond, MetFree l y (head1 (Jvm.Cond.code y bs mx rt :: ws) rm) (fun a U => a = as.toArray ∧ Z.Warmed39 U.vm ∧ U.heap = h0) (fun _ _ _ _ _ => True) (fun _ U o U' => ∃ v L, o = .returned v ∧ (Q v U'.heap ∧ Fr n0 L) ∧ FrameEnd U o U' L rm.cells rm.slots)
def RV (P : Value → Heap → Prop) : Option Value → Heap → Prop := fun v h => ∃ r, v = some r ∧ P r h
def RN (P : Heap → Prop) : Option Value → Heap → Prop := fun v h => v = none ∧ P h
def wt (st : List Value) : Nat := (st.map fun v => v.category).sum
def bi (P : Prop) [Decidable P] : Int32 := if P then 1 else 0
theorem bi_t {P : Prop} [Decidable P] (h : P) : bi P = 1 := if_pos h
theorem bi_f {P : Prop} [Decidable P] (h : ¬ P) : bi P = 0 := if_neg h
theorem bi1 {P : Prop} [Decidable P] (h : P) : (1 : Int32) = bi P := (if_pos h).symm
theorem bi0 {P : Prop} [Decidable P] (h : ¬ P) : (0 : Int32) = bi P := (if_neg h).symm
theorem bi_congr {P P' : Prop} [Decidable P] [Decidable P'] (h : P ↔ P') : bi P = bi P' := by
  by_cases q : P
  · rw [bi_t q, bi_t (h.mp q)]
  · rw [bi_f q, bi_f fun z => q (h.mpr z)]
theorem bi_nar (P : Prop) [Decidable P] : nar .boolean (bi P) = bi P := by
  by_cases q : P
  · rw [bi_t q]; rfl
  · rw [bi_f q]; rfl
theorem bi_inj {P P' : Prop} [Decidable P] [Decidable P'] (h : bi P = bi P') : P ↔ P' := by
  by_cases q : P <;> by_cases q' : P' <;> simp_all [bi]
theorem bi_narrow (P : Prop) [Decidable P] : narrow .boolean (.int (bi P)) = .int (bi P) := by
  by_cases q : P
  · rw [bi_t q]; rfl
  · rw [bi_f q]; rfl
theorem bi_fits (P : Prop) [Decidable P] : fits .boolean (.int (bi P)) = true := by
  by_cases q : P
  · rw [bi_t q]; rfl
  · rw [bi_f q]; rfl
theorem bi_toInt (P : Prop) [Decidable P] : (bi P).toInt = if P then 1 else 0 := by
  by_cases q : P
  · rw [bi_t q, if_pos q]; rfl
  · rw [bi_f q, if_neg q]; rfl
theorem own_add_t {P : Prop} [Decidable P] (n : Int32) (h : P) : n + 1 = n + bi P := by rw [bi_t h]
theorem own_add_f {P : Prop} [Decidable P] (n : Int32) (h : ¬ P) : n = n + bi P := by rw [bi_f h, Int32.add_zero]
theorem own_narrow_arr {v : Value} {t : FieldType} (h : v.isRef = true) : narrow (.array t) v = v := by
  cases v <;> first | rfl | simp [Value.isRef] at h
theorem own_fits_arr {v : Value} {t : FieldType} (h : v.isRef = true) : fits (.array t) v = true := by
  cases v <;> first | rfl | simp [Value.isRef] at h
theorem own_bb (x : Int32) : x.toInt8.toInt32.toInt8.toInt32 = x.toInt8.toInt32 := by simp
theorem own_ne_new {h : Heap} {a b : Addr} (q : b < h.size) (g : h.size = a) : b ≠ a := Nat.ne_of_lt (g ▸ q)
theorem own_ge {h : Heap} {a : Addr} {n : Nat} (q : n ≤ h.size) (g : h.size = a) : n ≤ a := g ▸ q
theorem int_eq {x y : Int32} (h : x.toInt = y.toInt) : x = y := Int32.toInt_inj.mp h
theorem long_eq {x y : Int64} (h : x.toInt = y.toInt) : x = y := Int64.toInt_inj.mp h
section Walk
variable {p : Program} {l : Launch} {e : Env} {R : Room} {s : State} {m : MethodId} {args : Array Value} {below : List Frame} {meth : Method} {c : Code} {Z : State} {a0 : Array Value} {own : String} {bs : ByteArray} {mx : Nat} {rt : Option FieldType} {nm : String} {n0 : Nat} {Q : Option Value → Heap → Prop} {K N : Nat} {h : Heap} {ce sl : Nat} {pc pc' : Nat} {Ls Ls' : Array Slot} {st : List Value} {g g' : JFrame}
theorem Go.step (H : ∀ (T : State), At T m c below → ∀ target, Steps p.tables e below (T.setTop g') target → Steps p.tables e below (T.setTop g) target) (hr : Go p l e R s m args below meth c n0 Q K N h ce sl g') : Go p l e R s m args below meth c n0 Q K N h ce sl g := fun T locs X eT Nn => by
  obtain ⟨s₂, o, h1, r⟩ := hr T locs X eT Nn
  exact ⟨s₂, o, H T X.here _ h1, r⟩
theorem Go.stepX (H : ∀ (T : State) (locs : List Loc), Stand p l e R s m args below meth c T locs ce sl → T.heap = h → ∀ target, Steps p.tables e below (T.setTop g') target → Steps p.tables e below (T.setTop g) target) (hr : Go p l e R s m args below meth c n0 Q K N h ce sl g') : Go p l e R s m args below meth c n0 Q K N h ce sl g := fun T locs X eT Nn => by
  obtain ⟨s₂, o, h1, r⟩ := hr T locs X eT Nn
  exact ⟨s₂, o, H T locs X eT _ h1, r⟩
theorem Go.more {ce' sl' : Nat} (hc : ce ≤ ce') (hs : sl ≤ sl') (hr : Go p l e R s m args below meth c n0 Q K N h ce' sl' g) : Go p l e R s m args below meth c n0 Q K N h ce sl g := fun T locs X eT Nn => hr T locs (X.more hc hs) eT Nn
theorem go_iloadN (C : Cx p s m meth c Z own bs mx rt nm) {k : Fin 4} {v : Int32} (hd : decode bs pc = .ok (.iload_n k, 1)) (hp : pc + 1 = pc') (hl : Ls[k.val]? = some (.val (.int v))) (hr : Go p l e R s m args below meth c n0 Q K N h ce sl (mkF m pc' Ls (.int v :: st))) : Go p l e R s m args below meth c n0 Q K N h ce sl (mkF m pc Ls st) := by
  subst hp
  exact Go.step (fun T A _ q => XS.iloadN A C.1 rfl (hb C.2.1 hd) hl q) hr
theorem go_iload (C : Cx p s m meth c Z own bs mx rt nm) {k : Nat} {v : Int32} (hd : decode bs pc = .ok (.iload k, 2)) (hp : pc + 2 = pc') (hl : Ls[k]? = some (.val (.int v))) (hr : Go p l e R s m args below meth c n0 Q K N h ce sl (mkF m pc' Ls (.int v :: st))) : Go p l e R s m args below meth c n0 Q K N h ce sl (mkF m pc Ls st) := by
  subst hp
  exact Go.step (fun T A _ q => XS.iload A C.1 rfl (hb C.2.1 hd) hl q) hr
theorem go_lloadN (C : Cx p s m meth c Z own bs mx rt nm) {k : Fin 4} {v : Int64} (hd : decode bs pc = .ok (.lload_n k, 1)) (hp : pc + 1 = pc') (hl : Ls[k.val]? = some (.val (.long v))) (hr : Go p l e R s m args below meth c n0 Q K N h ce sl (mkF m pc' Ls (.long v :: st))) : Go p l e R s m args below meth c n0 Q K N h ce sl (mkF m pc Ls st) := by
  subst hp
  exact Go.step (fun T A _ q => XT.lloadN A C.1 rfl (hb C.2.1 hd) hl q) hr
theorem go_lload (C : Cx p s m meth c Z own bs mx rt nm) {k : Nat} {v : Int64} (hd : decode bs pc = .ok (.lload k, 2)) (hp : pc + 2 = pc') (hl : Ls[k]? = some (.val (.long v))) (hr : Go p l e R s m args below meth c n0 Q K N h ce sl (mkF m pc' Ls (.long v :: st))) : Go p l e R s m args below meth c n0 Q K N h ce sl (mkF m pc Ls st) := by
  subst hp
  exact Go.step (fun T A _ q => XT.lload A C.1 rfl (hb C.2.1 hd) hl q) hr
theorem go_aloadN (C : Cx p s m meth c Z own bs mx rt nm) {k : Fin 4} {v : Value} (hd : decode bs pc = .ok (.aload_n k, 1)) (hp : pc + 1 = pc') (hl : Ls[k.val]? = some (.val v)) (hv : v.isRef = true) (hr : Go p l e R s m args below meth c n0 Q K N h ce sl (mkF m pc' Ls (v :: st))) : Go p l e R s m args below meth c n0 Q K N h ce sl (mkF m pc Ls st) := by
  subst hp
  exact Go.step (fun T A _ q => XS.aloadN A C.1 rfl (hb C.2.1 hd) hl hv q) hr
theorem go_aload (C : Cx p s m meth c Z own bs mx rt nm) {k : Nat} {v : Value} (hd : decode bs pc = .ok (.aload k, 2)) (hp : pc + 2 = pc') (hl : Ls[k]? = some (.val v)) (hv : v.isRef = true) (hr : Go p l e R s m args below meth c n0 Q K N h ce sl (mkF m pc' Ls (v :: st))) : Go p l e R s m args below meth c n0 Q K N h ce sl (mkF m pc Ls st) := by
  subst hp
  exact Go.step (fun T A _ q => XS.aload A C.1 rfl (hb C.2.1 hd) hl hv q) hr
theorem go_istoreN (C : Cx p s m meth c Z own bs mx rt nm) {k : Fin 4} {v : Int32} (hd : decode bs pc = .ok (.istore_n k, 1)) (hp : pc + 1 = pc') (hl : storeLocals Ls k.val (.int v) = some Ls') (hr : Go p l e R s m args below meth c n0 Q K N h ce sl (mkF m pc' Ls' st)) : Go p l e R s m args below meth c n0 Q K N h ce sl (mkF m pc Ls (.int v :: st)) := by
  subst hp
  exact Go.step (fun T A _ q => XS.istoreN A C.1 rfl (hb C.2.1 hd) rfl hl q) hr
theorem go_istore (C : Cx p s m meth c Z own bs mx rt nm) {k : Nat} {v : Int32} (hd : decode bs pc = .ok (.istore k, 2)) (hp : pc + 2 = pc') (hl : storeLocals Ls k (.int v) = some Ls') (hr : Go p l e R s m args below meth c n0 Q K N h ce sl (mkF m pc' Ls' st)) : Go p l e R s m args below meth c n0 Q K N h ce sl (mkF m pc Ls (.int v :: st)) := by
  subst hp
  exact Go.step (fun T A _ q => XS.istore A C.1 rfl (hb C.2.1 hd) rfl hl q) hr
theorem go_lstoreN (C : Cx p s m meth c Z own bs mx rt nm) {k : Fin 4} {v : Int64} (hd : decode bs pc = .ok (.lstore_n k, 1)) (hp : pc + 1 = pc') (hl : storeLocals Ls k.val (.long v) = some Ls') (hr : Go p l e R s m args below meth c n0 Q K N h ce sl (mkF m pc' Ls' st)) : Go p l e R s m args below meth c n0 Q K N h ce sl (mkF m pc Ls (.long v :: st)) := by
  subst hp
  exact Go.step (fun T A _ q => XT.lstoreN A C.1 rfl (hb C.2.1 hd) rfl hl q) hr
theorem go_lstore (C : Cx p s m meth c Z own bs mx rt nm) {k : Nat} {v : Int64} (hd : decode bs pc = .ok (.lstore k, 2)) (hp : pc + 2 = pc') (hl : storeLocals Ls k (.long v) = some Ls') (hr : Go p l e R s m args below meth c n0 Q K N h ce sl (mkF m pc' Ls' st)) : Go p l e R s m args below meth c n0 Q K N h ce sl (mkF m pc Ls (.long v :: st)) := by
  subst hp
  exact Go.step (fun T A _ q => XT.lstore A C.1 rfl (hb C.2.1 hd) rfl hl q) hr
theorem go_astoreN (C : Cx p s m meth c Z own bs mx rt nm) {k : Fin 4} {v : Value} (hd : decode bs pc = .ok (.astore_n k, 1)) (hp : pc + 1 = pc') (hv : v.isRef = true) (hl : storeLocals Ls k.val v = some Ls') (hr : Go p l e R s m args below meth c n0 Q K N h ce sl (mkF m pc' Ls' st)) : Go p l e R s m args below meth c n0 Q K N h ce sl (mkF m pc Ls (v :: st)) := by
  subst hp
  exact Go.step (fun T A _ q => XS.astoreN A C.1 rfl (hb C.2.1 hd) rfl hv hl q) hr
theorem go_astore (C : Cx p s m meth c Z own bs mx rt nm) {k : Nat} {v : Value} (hd : decode bs pc = .ok (.astore k, 2)) (hp : pc + 2 = pc') (hv : v.isRef = true) (hl : storeLocals Ls k v = some Ls') (hr : Go p l e R s m args below meth c n0 Q K N h ce sl (mkF m pc' Ls' st)) : Go p l e R s m args below meth c n0 Q K N h ce sl (mkF m pc Ls (v :: st)) := by
  subst hp
  exact Go.step (fun T A _ q => XS.astore A C.1 rfl (hb C.2.1 hd) rfl hv hl q) hr
theorem go_istoreS (C : Cx p s m meth c Z own bs mx rt nm) {k : Nat} {v : Int32} {o : Slot} (hd : decode bs pc = .ok (.istore k, 2)) (hp : pc + 2 = pc') (hold : Ls[k]? = some o) (ho : One o) (hL : Ls.setIfInBounds k (.val (.int v)) = Ls') (hr : Go p l e R s m args below meth c n0 Q K N h ce sl (mkF m pc' Ls' st)) : Go p l e R s m args below meth c n0 Q K N h ce sl (mkF m pc Ls (.int v :: st)) := by
  subst hp hL
  exact Go.step (fun T A _ q => XS.istoreS A C.1 rfl (hb C.2.1 hd) rfl hold ho q) hr
theorem go_istoreNS (C : Cx p s m meth c Z own bs mx rt nm) {k : Fin 4} {v : Int32} {o : Slot} (hd : decode bs pc = .ok (.istore_n k, 1)) (hp : pc + 1 = pc') (hold : Ls[k.val]? = some o) (ho : One o) (hL : Ls.setIfInBounds k.val (.val (.int v)) = Ls') (hr : Go p l e R s m args below meth c n0 Q K N h ce sl (mkF m pc' Ls' st)) : Go p l e R s m args below meth c n0 Q K N h ce sl (mkF m pc Ls (.int v :: st)) := by
  subst hp hL
  exact Go.step (fun T A _ q => XS.istoreNS A C.1 rfl (hb C.2.1 hd) rfl hold ho q) hr
theorem go_iconst (C : Cx p s m meth c Z own bs mx rt nm) {i : Int} (v : Int32) (hd : decode bs pc = .ok (.iconst i, 1)) (hp : pc + 1 = pc') (hv : Int32.ofInt i = v) (hr : Go p l e R s m args below meth c n0 Q K N h ce sl (mkF m pc' Ls (.int v :: st))) : Go p l e R s m args below meth c n0 Q K N h ce sl (mkF m pc Ls st) := by
  subst hp
  exact Go.step (fun T A _ q => XT.iconstV A C.1 rfl v (hb C.2.1 hd) hv q) hr
theorem go_bipush (C : Cx p s m meth c Z own bs mx rt nm) {i : Int} (v : Int32) (hd : decode bs pc = .ok (.bipush i, 2)) (hp : pc + 2 = pc') (hv : (Int8.ofInt i).toInt32 = v) (hr : Go p l e R s m args below meth c n0 Q K N h ce sl (mkF m pc' Ls (.int v :: st))) : Go p l e R s m args below meth c n0 Q K N h ce sl (mkF m pc Ls st) := by
  subst hp
  exact Go.step (fun T A _ q => XT.bipushV A C.1 rfl v (hb C.2.1 hd) hv q) hr
theorem go_sipush (C : Cx p s m meth c Z own bs mx rt nm) {i : Int} (v : Int32) (hd : decode bs pc = .ok (.sipush i, 3)) (hp : pc + 3 = pc') (hv : (Int16.ofInt i).toInt32 = v) (hr : Go p l e R s m args below meth c n0 Q K N h ce sl (mkF m pc' Ls (.int v :: st))) : Go p l e R s m args below meth c n0 Q K N h ce sl (mkF m pc Ls st) := by
  subst hp
  exact Go.step (fun T A _ q => XT.sipushV A C.1 rfl v (hb C.2.1 hd) hv q) hr
theorem go_lconst (C : Cx p s m meth c Z own bs mx rt nm) {k : Fin 2} (v : Int64) (hd : decode bs pc = .ok (.lconst k, 1)) (hp : pc + 1 = pc') (hv : Int64.ofNat k = v) (hr : Go p l e R s m args below meth c n0 Q K N h ce sl (mkF m pc' Ls (.long v :: st))) : Go p l e R s m args below meth c n0 Q K N h ce sl (mkF m pc Ls st) := by
  subst hp
  exact Go.step (fun T A _ q => XT.lconstV A C.1 rfl v (hb C.2.1 hd) hv q) hr
theorem go_aconst_null (C : Cx p s m meth c Z own bs mx rt nm)  (hd : decode bs pc = .ok (.aconst_null, 1)) (hp : pc + 1 = pc') (hr : Go p l e R s m args below meth c n0 Q K N h ce sl (mkF m pc' Ls (.null :: st))) : Go p l e R s m args below meth c n0 Q K N h ce sl (mkF m pc Ls st) := by
  subst hp
  exact Go.step (fun T A _ q => XS.aconstNull A C.1 rfl (hb C.2.1 hd)  q) hr
theorem go_iinc (C : Cx p s m meth c Z own bs mx rt nm) {k : Nat} {i : Int} {x : Int32} (v : Int32) (hd : decode bs pc = .ok (.iinc k i, 3)) (hp : pc + 3 = pc') (hv : Int32.ofInt i = v) (hl : Ls[k]? = some (.val (.int x))) (hl' : storeLocals Ls k (.int (x + v)) = some Ls') (hr : Go p l e R s m args below meth c n0 Q K N h ce sl (mkF m pc' Ls' st)) : Go p l e R s m args below meth c n0 Q K N h ce sl (mkF m pc Ls st) := by
  subst hp
  exact Go.step (fun T A _ q => XT.iincV A C.1 rfl v (hb C.2.1 hd) hv hl hl' q) hr
theorem go_iadd (C : Cx p s m meth c Z own bs mx rt nm) {x y : Int32} (hd : decode bs pc = .ok (.iadd, 1)) (hp : pc + 1 = pc') (hr : Go p l e R s m args below meth c n0 Q K N h ce sl (mkF m pc' Ls (.int (x + y) :: st))) : Go p l e R s m args below meth c n0 Q K N h ce sl (mkF m pc Ls (.int y :: .int x :: st)) := by
  subst hp
  exact Go.step (fun T A _ q => XS.iadd A C.1 rfl (hb C.2.1 hd) rfl q) hr
theorem go_isub (C : Cx p s m meth c Z own bs mx rt nm) {x y : Int32} (hd : decode bs pc = .ok (.isub, 1)) (hp : pc + 1 = pc') (hr : Go p l e R s m args below meth c n0 Q K N h ce sl (mkF m pc' Ls (.int (x - y) :: st))) : Go p l e R s m args below meth c n0 Q K N h ce sl (mkF m pc Ls (.int y :: .int x :: st)) := by
  subst hp
  exact Go.step (fun T A _ q => XS.isub A C.1 rfl (hb C.2.1 hd) rfl q) hr
theorem go_iand (C : Cx p s m meth c Z own bs mx rt nm) {x y : Int32} (hd : decode bs pc = .ok (.iand, 1)) (hp : pc + 1 = pc') (hr : Go p l e R s m args below meth c n0 Q K N h ce sl (mkF m pc' Ls (.int (x &&& y) :: st))) : Go p l e R s m args below meth c n0 Q K N h ce sl (mkF m pc Ls (.int y :: .int x :: st)) := by
  subst hp
  exact Go.step (fun T A _ q => XS.iand A C.1 rfl (hb C.2.1 hd) rfl q) hr
theorem go_imul (C : Cx p s m meth c Z own bs mx rt nm) {x y : Int32} (hd : decode bs pc = .ok (.imul, 1)) (hp : pc + 1 = pc') (hr : Go p l e R s m args below meth c n0 Q K N h ce sl (mkF m pc' Ls (.int (x * y) :: st))) : Go p l e R s m args below meth c n0 Q K N h ce sl (mkF m pc Ls (.int y :: .int x :: st)) := by
  subst hp
  exact Go.step (fun T A _ q => XS.imul A C.1 rfl (hb C.2.1 hd) rfl q) hr
theorem go_ior (C : Cx p s m meth c Z own bs mx rt nm) {x y : Int32} (hd : decode bs pc = .ok (.ior, 1)) (hp : pc + 1 = pc') (hr : Go p l e R s m args below meth c n0 Q K N h ce sl (mkF m pc' Ls (.int (x ||| y) :: st))) : Go p l e R s m args below meth c n0 Q K N h ce sl (mkF m pc Ls (.int y :: .int x :: st)) := by
  subst hp
  exact Go.step (fun T A _ q => XT.ior A C.1 rfl (hb C.2.1 hd) rfl q) hr
theorem go_ixor (C : Cx p s m meth c Z own bs mx rt nm) {x y : Int32} (hd : decode bs pc = .ok (.ixor, 1)) (hp : pc + 1 = pc') (hr : Go p l e R s m args below meth c n0 Q K N h ce sl (mkF m pc' Ls (.int (x ^^^ y) :: st))) : Go p l e R s m args below meth c n0 Q K N h ce sl (mkF m pc Ls (.int y :: .int x :: st)) := by
  subst hp
  exact Go.step (fun T A _ q => XT.ixor A C.1 rfl (hb C.2.1 hd) rfl q) hr
theorem go_ishl (C : Cx p s m meth c Z own bs mx rt nm) {x y : Int32} (hd : decode bs pc = .ok (.ishl, 1)) (hp : pc + 1 = pc') (hr : Go p l e R s m args below meth c n0 Q K N h ce sl (mkF m pc' Ls (.int (x <<< (y &&& 31)) :: st))) : Go p l e R s m args below meth c n0 Q K N h ce sl (mkF m pc Ls (.int y :: .int x :: st)) := by
  subst hp
  exact Go.step (fun T A _ q => XT.ishl A C.1 rfl (hb C.2.1 hd) rfl q) hr
theorem go_ishr (C : Cx p s m meth c Z own bs mx rt nm) {x y : Int32} (hd : decode bs pc = .ok (.ishr, 1)) (hp : pc + 1 = pc') (hr : Go p l e R s m args below meth c n0 Q K N h ce sl (mkF m pc' Ls (.int (x >>> (y &&& 31)) :: st))) : Go p l e R s m args below meth c n0 Q K N h ce sl (mkF m pc Ls (.int y :: .int x :: st)) := by
  subst hp
  exact Go.step (fun T A _ q => XT.ishr A C.1 rfl (hb C.2.1 hd) rfl q) hr
theorem go_iushr (C : Cx p s m meth c Z own bs mx rt nm) {x y : Int32} (hd : decode bs pc = .ok (.iushr, 1)) (hp : pc + 1 = pc') (hr : Go p l e R s m args below meth c n0 Q K N h ce sl (mkF m pc' Ls (.int (XT.ushr x y) :: st))) : Go p l e R s m args below meth c n0 Q K N h ce sl (mkF m pc Ls (.int y :: .int x :: st)) := by
  subst hp
  exact Go.step (fun T A _ q => XT.iushr A C.1 rfl (hb C.2.1 hd) rfl q) hr
theorem go_ladd (C : Cx p s m meth c Z own bs mx rt nm) {x y : Int64} (hd : decode bs pc = .ok (.ladd, 1)) (hp : pc + 1 = pc') (hr : Go p l e R s m args below meth c n0 Q K N h ce sl (mkF m pc' Ls (.long (x + y) :: st))) : Go p l e R s m args below meth c n0 Q K N h ce sl (mkF m pc Ls (.long y :: .long x :: st)) := by
  subst hp
  exact Go.step (fun T A _ q => XT.ladd A C.1 rfl (hb C.2.1 hd) rfl q) hr
theorem go_lsub (C : Cx p s m meth c Z own bs mx rt nm) {x y : Int64} (hd : decode bs pc = .ok (.lsub, 1)) (hp : pc + 1 = pc') (hr : Go p l e R s m args below meth c n0 Q K N h ce sl (mkF m pc' Ls (.long (x - y) :: st))) : Go p l e R s m args below meth c n0 Q K N h ce sl (mkF m pc Ls (.long y :: .long x :: st)) := by
  subst hp
  exact Go.step (fun T A _ q => XT.lsub A C.1 rfl (hb C.2.1 hd) rfl q) hr
theorem go_land (C : Cx p s m meth c Z own bs mx rt nm) {x y : Int64} (hd : decode bs pc = .ok (.land, 1)) (hp : pc + 1 = pc') (hr : Go p l e R s m args below meth c n0 Q K N h ce sl (mkF m pc' Ls (.long (x &&& y) :: st))) : Go p l e R s m args below meth c n0 Q K N h ce sl (mkF m pc Ls (.long y :: .long x :: st)) := by
  subst hp
  exact Go.step (fun T A _ q => XT.land A C.1 rfl (hb C.2.1 hd) rfl q) hr
theorem go_lmul (C : Cx p s m meth c Z own bs mx rt nm) {x y : Int64} (hd : decode bs pc = .ok (.lmul, 1)) (hp : pc + 1 = pc') (hr : Go p l e R s m args below meth c n0 Q K N h ce sl (mkF m pc' Ls (.long (x * y) :: st))) : Go p l e R s m args below meth c n0 Q K N h ce sl (mkF m pc Ls (.long y :: .long x :: st)) := by
  subst hp
  exact Go.step (fun T A _ q => XT.lmul A C.1 rfl (hb C.2.1 hd) rfl q) hr
theorem go_lor (C : Cx p s m meth c Z own bs mx rt nm) {x y : Int64} (hd : decode bs pc = .ok (.lor, 1)) (hp : pc + 1 = pc') (hr : Go p l e R s m args below meth c n0 Q K N h ce sl (mkF m pc' Ls (.long (x ||| y) :: st))) : Go p l e R s m args below meth c n0 Q K N h ce sl (mkF m pc Ls (.long y :: .long x :: st)) := by
  subst hp
  exact Go.step (fun T A _ q => XT.lor A C.1 rfl (hb C.2.1 hd) rfl q) hr
theorem go_lxor (C : Cx p s m meth c Z own bs mx rt nm) {x y : Int64} (hd : decode bs pc = .ok (.lxor, 1)) (hp : pc + 1 = pc') (hr : Go p l e R s m args below meth c n0 Q K N h ce sl (mkF m pc' Ls (.long (x ^^^ y) :: st))) : Go p l e R s m args below meth c n0 Q K N h ce sl (mkF m pc Ls (.long y :: .long x :: st)) := by
  subst hp
  exact Go.step (fun T A _ q => XT.lxor A C.1 rfl (hb C.2.1 hd) rfl q) hr
theorem go_idiv (C : Cx p s m meth c Z own bs mx rt nm) {x y : Int32} (hd : decode bs pc = .ok (.idiv, 1)) (hp : pc + 1 = pc') (hy : y ≠ 0) (hr : Go p l e R s m args below meth c n0 Q K N h ce sl (mkF m pc' Ls (.int (x / y) :: st))) : Go p l e R s m args below meth c n0 Q K N h ce sl (mkF m pc Ls (.int y :: .int x :: st)) := by
  subst hp
  exact Go.step (fun T A _ q => XS.idiv A C.1 rfl (hb C.2.1 hd) rfl hy q) hr
theorem go_irem (C : Cx p s m meth c Z own bs mx rt nm) {x y : Int32} (hd : decode bs pc = .ok (.irem, 1)) (hp : pc + 1 = pc') (hy : y ≠ 0) (hr : Go p l e R s m args below meth c n0 Q K N h ce sl (mkF m pc' Ls (.int (x % y) :: st))) : Go p l e R s m args below meth c n0 Q K N h ce sl (mkF m pc Ls (.int y :: .int x :: st)) := by
  subst hp
  exact Go.stepX (fun T locs X _ _ q => iremM X C.1 rfl (hb C.2.1 hd) rfl hy q) hr
theorem go_i2l (C : Cx p s m meth c Z own bs mx rt nm) {x : Int32} (hd : decode bs pc = .ok (.i2l, 1)) (hp : pc + 1 = pc') (hr : Go p l e R s m args below meth c n0 Q K N h ce sl (mkF m pc' Ls (.long x.toInt64 :: st))) : Go p l e R s m args below meth c n0 Q K N h ce sl (mkF m pc Ls (.int x :: st)) := by
  subst hp
  exact Go.step (fun T A _ q => XT.i2l A C.1 rfl (hb C.2.1 hd) rfl q) hr
theorem go_l2i (C : Cx p s m meth c Z own bs mx rt nm) {x : Int64} (hd : decode bs pc = .ok (.l2i, 1)) (hp : pc + 1 = pc') (hr : Go p l e R s m args below meth c n0 Q K N h ce sl (mkF m pc' Ls (.int x.toInt32 :: st))) : Go p l e R s m args below meth c n0 Q K N h ce sl (mkF m pc Ls (.long x :: st)) := by
  subst hp
  exact Go.step (fun T A _ q => XT.l2i A C.1 rfl (hb C.2.1 hd) rfl q) hr
theorem go_i2b (C : Cx p s m meth c Z own bs mx rt nm) {x : Int32} (hd : decode bs pc = .ok (.i2b, 1)) (hp : pc + 1 = pc') (hr : Go p l e R s m args below meth c n0 Q K N h ce sl (mkF m pc' Ls (.int x.toInt8.toInt32 :: st))) : Go p l e R s m args below meth c n0 Q K N h ce sl (mkF m pc Ls (.int x :: st)) := by
  subst hp
  exact Go.step (fun T A _ q => XT.i2b A C.1 rfl (hb C.2.1 hd) rfl q) hr
theorem go_i2c (C : Cx p s m meth c Z own bs mx rt nm) {x : Int32} (hd : decode bs pc = .ok (.i2c, 1)) (hp : pc + 1 = pc') (hr : Go p l e R s m args below meth c n0 Q K N h ce sl (mkF m pc' Ls (.int x.toUInt32.toUInt16.toUInt32.toInt32 :: st))) : Go p l e R s m args below meth c n0 Q K N h ce sl (mkF m pc Ls (.int x :: st)) := by
  subst hp
  exact Go.step (fun T A _ q => XT.i2c A C.1 rfl (hb C.2.1 hd) rfl q) hr
theorem go_ineg (C : Cx p s m meth c Z own bs mx rt nm) {x : Int32} (hd : decode bs pc = .ok (.ineg, 1)) (hp : pc + 1 = pc') (hr : Go p l e R s m args below meth c n0 Q K N h ce sl (mkF m pc' Ls (.int (-x) :: st))) : Go p l e R s m args below meth c n0 Q K N h ce sl (mkF m pc Ls (.int x :: st)) := by
  subst hp
  exact Go.step (fun T A _ q => XS.ineg A C.1 rfl (hb C.2.1 hd) rfl q) hr
theorem go_dup (C : Cx p s m meth c Z own bs mx rt nm) {v : Value} (hd : decode bs pc = .ok (.dup, 1)) (hp : pc + 1 = pc') (hc : v.category = 1) (hr : Go p l e R s m args below meth c n0 Q K N h ce sl (mkF m pc' Ls (v :: v :: st))) : Go p l e R s m args below meth c n0 Q K N h ce sl (mkF m pc Ls (v :: st)) := by
  subst hp
  exact Go.step (fun T A _ q => XS.dup A C.1 rfl (hb C.2.1 hd) rfl hc q) hr
theorem go_pop (C : Cx p s m meth c Z own bs mx rt nm) {v : Value} (hd : decode bs pc = .ok (.pop, 1)) (hp : pc + 1 = pc') (hc : v.category = 1) (hr : Go p l e R s m args below meth c n0 Q K N h ce sl (mkF m pc' Ls st)) : Go p l e R s m args below meth c n0 Q K N h ce sl (mkF m pc Ls (v :: st)) := by
  subst hp
  exact Go.step (fun T A _ q => XT.pop A C.1 rfl (hb C.2.1 hd) rfl hc q) hr
theorem go_dup2 (C : Cx p s m meth c Z own bs mx rt nm) {v w : Value} (hd : decode bs pc = .ok (.dup2, 1)) (hp : pc + 1 = pc') (hc : v.category = 1) (hc' : w.category = 1) (hr : Go p l e R s m args below meth c n0 Q K N h ce sl (mkF m pc' Ls (v :: w :: v :: w :: st))) : Go p l e R s m args below meth c n0 Q K N h ce sl (mkF m pc Ls (v :: w :: st)) := by
  subst hp
  exact Go.step (fun T A _ q => XT.dup2 A C.1 rfl (hb C.2.1 hd) rfl hc hc' q) hr
theorem go_dup_x1 (C : Cx p s m meth c Z own bs mx rt nm) {v w : Value} (hd : decode bs pc = .ok (.dup_x1, 1)) (hp : pc + 1 = pc') (hc : v.category = 1) (hc' : w.category = 1) (hr : Go p l e R s m args below meth c n0 Q K N h ce sl (mkF m pc' Ls (v :: w :: v :: st))) : Go p l e R s m args below meth c n0 Q K N h ce sl (mkF m pc Ls (v :: w :: st)) := by
  subst hp
  exact Go.step (fun T A _ q => XT.dupX1 A C.1 rfl (hb C.2.1 hd) rfl hc hc' q) hr
theorem go_lushr (C : Cx p s m meth c Z own bs mx rt nm) {x : Int64} {y : Int32} (hd : decode bs pc = .ok (.lushr, 1)) (hp : pc + 1 = pc') (hr : Go p l e R s m args below meth c n0 Q K N h ce sl (mkF m pc' Ls (.long (XT.ushrL x y) :: st))) : Go p l e R s m args below meth c n0 Q K N h ce sl (mkF m pc Ls (.int y :: .long x :: st)) := by
  subst hp
  exact Go.step (fun T A _ q => XT.lushr A C.1 rfl (hb C.2.1 hd) rfl q) hr
theorem go_lshl (C : Cx p s m meth c Z own bs mx rt nm) {x : Int64} {y : Int32} (hd : decode bs pc = .ok (.lshl, 1)) (hp : pc + 1 = pc') (hr : Go p l e R s m args below meth c n0 Q K N h ce sl (mkF m pc' Ls (.long (x <<< (y.toInt64 &&& 63)) :: st))) : Go p l e R s m args below meth c n0 Q K N h ce sl (mkF m pc Ls (.int y :: .long x :: st)) := by
  subst hp
  exact Go.step (fun T A _ q => XT.lshl A C.1 rfl (hb C.2.1 hd) rfl q) hr
theorem go_ldiv (C : Cx p s m meth c Z own bs mx rt nm) {x y : Int64} (hd : decode bs pc = .ok (.ldiv, 1)) (hp : pc + 1 = pc') (hy : y ≠ 0) (hr : Go p l e R s m args below meth c n0 Q K N h ce sl (mkF m pc' Ls (.long (x / y) :: st))) : Go p l e R s m args below meth c n0 Q K N h ce sl (mkF m pc Ls (.long y :: .long x :: st)) := by
  subst hp
  exact Go.step (fun T A _ q => XT.ldiv A C.1 rfl (hb C.2.1 hd) rfl hy q) hr
theorem go_lrem (C : Cx p s m meth c Z own bs mx rt nm) {x y : Int64} (hd : decode bs pc = .ok (.lrem, 1)) (hp : pc + 1 = pc') (hy : y ≠ 0) (hr : Go p l e R s m args below meth c n0 Q K N h ce sl (mkF m pc' Ls (.long (x - (x / y) * y) :: st))) : Go p l e R s m args below meth c n0 Q K N h ce sl (mkF m pc Ls (.long y :: .long x :: st)) := by
  subst hp
  exact Go.step (fun T A _ q => XT.lrem A C.1 rfl (hb C.2.1 hd) rfl hy q) hr
theorem go_goto (C : Cx p s m meth c Z own bs mx rt nm) {o : Int} (hd : decode bs pc = .ok (.goto o, 3)) (ho : 0 ≤ (pc : Int) + o) (hp : ((pc : Int) + o).toNat = pc') (hr : Go p l e R s m args below meth c n0 Q K N h ce sl (mkF m pc' Ls st)) : Go p l e R s m args below meth c n0 Q K N h ce sl (mkF m pc Ls st) :=
  Go.step (fun T A _ q => XS.goto A C.1 rfl rfl (hb C.2.1 hd) ho hp q) hr
/-- what a comparison says, of integers -/
def cmpP (cd : ClassFile.Cond) (x y : Int) : Prop := match cd with | .eq => x = y | .ne => ¬ x = y | .lt => x < y | .ge => ¬ x < y | .gt => y < x | .le => ¬ y < x
def cmpN (cd : ClassFile.Cond) (x y : Int) : Prop := match cd with | .eq => ¬ x = y | .ne => x = y | .lt => ¬ x < y | .ge => x < y | .gt => ¬ y < x | .le => y < x
theorem cmpN_of {cd : ClassFile.Cond} {x y : Int} (h : ¬ cmpP cd x y) : cmpN cd x y := by
  cases cd <;> simp only [cmpP] at h <;> simp only [cmpN] <;> omega
theorem cmp_t {cd : ClassFile.Cond} {x y : Int32} (h : cmpP cd x.toInt y.toInt) : if_icmp.holds cd x y = true := by
  cases cd <;> simp only [cmpP] at h
  · exact XT.ii_eq_t (int_eq h)
  · exact XT.ii_ne_t fun q => h (by rw [q])
  · exact XT.ii_lt_t (Int32.lt_iff_toInt_lt.mpr h)
  · exact XT.ii_ge_t fun q => h (Int32.lt_iff_toInt_lt.mp q)
  · exact XT.ii_gt_t (Int32.lt_iff_toInt_lt.mpr h)
  · exact XT.ii_le_t fun q => h (Int32.lt_iff_toInt_lt.mp q)
theorem cmp_f {cd : ClassFile.Cond} {x y : Int32} (h : ¬ cmpP cd x.toInt y.toInt) : if_icmp.holds cd x y = false := by
  cases cd <;> simp only [cmpP] at h
  · exact XT.ii_eq_f fun q => h (by rw [q])
  · exact XT.ii_ne_f (int_eq (Classical.not_not.mp h))
  · exact XT.ii_lt_f fun q => h (Int32.lt_iff_toInt_lt.mp q)
  · exact XT.ii_ge_f (Int32.lt_iff_toInt_lt.mpr (Classical.not_not.mp h))
  · exact XT.ii_gt_f fun q => h (Int32.lt_iff_toInt_lt.mp q)
  · exact XT.ii_le_f (Int32.lt_iff_toInt_lt.mpr (Classical.not_not.mp h))
theorem cmpL_t {cd : ClassFile.Cond} {x y : Int64} (h : cmpP cd x.toInt y.toInt) : ifCond.holds cd (XT.cmpL x y) = true := by
  cases cd <;> simp only [cmpP] at h
  · exact XT.ll_eq_t (long_eq h)
  · exact XT.ll_ne_t fun q => h (by rw [q])
  · exact XT.ll_lt_t (Int64.lt_iff_toInt_lt.mpr h)
  · exact XT.ll_ge_t fun q => h (Int64.lt_iff_toInt_lt.mp q)
  · exact XT.ll_gt_t (Int64.lt_iff_toInt_lt.mpr h)
  · exact XT.ll_le_t fun q => h (Int64.lt_iff_toInt_lt.mp q)
theorem cmpL_f {cd : ClassFile.Cond} {x y : Int64} (h : ¬ cmpP cd x.toInt y.toInt) : ifCond.holds cd (XT.cmpL x y) = false := by
  cases cd <;> simp only [cmpP] at h
  · exact XT.ll_eq_f fun q => h (by rw [q])
  · exact XT.ll_ne_f (long_eq (Classical.not_not.mp h))
  · exact XT.ll_lt_f fun q => h (Int64.lt_iff_toInt_lt.mp q)
  · exact XT.ll_ge_f (Int64.lt_iff_toInt_lt.mpr (Classical.not_not.mp h))
  · exact XT.ll_gt_f fun q => h (Int64.lt_iff_toInt_lt.mp q)
  · exact XT.ll_le_f (Int64.lt_iff_toInt_lt.mpr (Classical.not_not.mp h))
theorem go_icmp (C : Cx p s m meth c Z own bs mx rt nm) {cd : ClassFile.Cond} {x y : Int32} {o : Int} {pcN : Nat} (kx ky : Int) (hx : x.toInt = kx) (hy : y.toInt = ky) (hd : decode bs pc = .ok (.if_icmp cd o, 3)) (ho : 0 ≤ (pc : Int) + o) (hp : ((pc : Int) + o).toNat = pc') (hpn : pc + 3 = pcN) (h1 : cmpP cd kx ky → Go p l e R s m args below meth c n0 Q K N h ce sl (mkF m pc' Ls st)) (h2 : cmpN cd kx ky → Go p l e R s m args below meth c n0 Q K N h ce sl (mkF m pcN Ls st)) : Go p l e R s m args below meth c n0 Q K N h ce sl (mkF m pc Ls (.int y :: .int x :: st)) := by
  subst hpn hx hy
  by_cases q : cmpP cd x.toInt y.toInt
  · exact Go.step (fun T A _ k => XS.icmpYes A C.1 rfl rfl (hb C.2.1 hd) rfl (cmp_t q) ho hp k) (h1 q)
  · exact Go.step (fun T A _ k => XS.icmpNo A C.1 rfl (hb C.2.1 hd) rfl (cmp_f q) k) (h2 (cmpN_of q))
theorem go_if0 (C : Cx p s m meth c Z own bs mx rt nm) {cd : ClassFile.Cond} {x : Int32} {o : Int} {pcN : Nat} (kx : Int) (hx : x.toInt = kx) (hd : decode bs pc = .ok (.ifCond cd o, 3)) (ho : 0 ≤ (pc : Int) + o) (hp : ((pc : Int) + o).toNat = pc') (hpn : pc + 3 = pcN) (h1 : cmpP cd kx 0 → Go p l e R s m args below meth c n0 Q K N h ce sl (mkF m pc' Ls st)) (h2 : cmpN cd kx 0 → Go p l e R s m args below meth c n0 Q K N h ce sl (mkF m pcN Ls st)) : Go p l e R s m args below meth c n0 Q K N h ce sl (mkF m pc Ls (.int x :: st)) := by
  subst hpn hx
  by_cases q : cmpP cd x.toInt 0
  · exact Go.step (fun T A _ k => XS.ifYes A C.1 rfl rfl (hb C.2.1 hd) rfl ((if0 cd x).trans (cmp_t q)) ho hp k) (h1 q)
  · exact Go.step (fun T A _ k => XS.ifNo A C.1 rfl (hb C.2.1 hd) rfl ((if0 cd x).trans (cmp_f q)) k) (h2 (cmpN_of q))
theorem go_lcmp (C : Cx p s m meth c Z own bs mx rt nm) {cd : ClassFile.Cond} {x y : Int64} {o : Int} {pc1 pcN : Nat} (kx ky : Int) (hx : x.toInt = kx) (hy : y.toInt = ky) (hd0 : decode bs pc = .ok (.lcmp, 1)) (hp1 : pc + 1 = pc1) (hd : decode bs pc1 = .ok (.ifCond cd o, 3)) (ho : 0 ≤ (pc1 : Int) + o) (hp : ((pc1 : Int) + o).toNat = pc') (hpn : pc1 + 3 = pcN) (h1 : cmpP cd kx ky → Go p l e R s m args below meth c n0 Q K N h ce sl (mkF m pc' Ls st)) (h2 : cmpN cd kx ky → Go p l e R s m args below meth c n0 Q K N h ce sl (mkF m pcN Ls st)) : Go p l e R s m args below meth c n0 Q K N h ce sl (mkF m pc Ls (.long y :: .long x :: st)) := by
  subst hpn hp1 hx hy
  refine Go.step (g' := mkF m (pc + 1) Ls (.int (XT.cmpL x y) :: st)) (fun T A _ k => XT.lcmp A C.1 rfl (hb C.2.1 hd0) rfl k) ?_
  by_cases q : cmpP cd x.toInt y.toInt
  · exact Go.step (fun T A _ k => XS.ifYes A C.1 rfl rfl (hb C.2.1 hd) rfl (cmpL_t q) ho hp k) (h1 q)
  · exact Go.step (fun T A _ k => XS.ifNo A C.1 rfl (hb C.2.1 hd) rfl (cmpL_f q) k) (h2 (cmpN_of q))
theorem go_ifne_b (C : Cx p s m meth c Z own bs mx rt nm) {B : Prop} [Decidable B] {o : Int} {pcN : Nat} (hd : decode bs pc = .ok (.ifCond .ne o, 3)) (ho : 0 ≤ (pc : Int) + o) (hp : ((pc : Int) + o).toNat = pc') (hpn : pc + 3 = pcN) (h1 : B → Go p l e R s m args below meth c n0 Q K N h ce sl (mkF m pc' Ls st)) (h2 : ¬ B → Go p l e R s m args below meth c n0 Q K N h ce sl (mkF m pcN Ls st)) : Go p l e R s m args below meth c n0 Q K N h ce sl (mkF m pc Ls (.int (bi B) :: st)) := by
  refine go_if0 C _ rfl hd ho hp hpn (fun q => h1 ?_) (fun q => h2 ?_)
  · exact Classical.byContradiction fun z => q (by rw [bi_f z]; rfl)
  · exact fun z => by
      have q' : (bi B).toInt = 0 := q
      rw [bi_t z] at q'
      exact absurd q' (by decide)
theorem go_ifeq_b (C : Cx p s m meth c Z own bs mx rt nm) {B : Prop} [Decidable B] {o : Int} {pcN : Nat} (hd : decode bs pc = .ok (.ifCond .eq o, 3)) (ho : 0 ≤ (pc : Int) + o) (hp : ((pc : Int) + o).toNat = pc') (hpn : pc + 3 = pcN) (h1 : ¬ B → Go p l e R s m args below meth c n0 Q K N h ce sl (mkF m pc' Ls st)) (h2 : B → Go p l e R s m args below meth c n0 Q K N h ce sl (mkF m pcN Ls st)) : Go p l e R s m args below meth c n0 Q K N h ce sl (mkF m pc Ls (.int (bi B) :: st)) := by
  refine go_if0 C _ rfl hd ho hp hpn (fun q => h1 ?_) (fun q => h2 ?_)
  · exact fun z => by
      have q' : (bi B).toInt = 0 := q
      rw [bi_t z] at q'
      exact absurd q' (by decide)
  · exact Classical.byContradiction fun z => q (by rw [bi_f z]; rfl)
theorem go_ifnull_r (C : Cx p s m meth c Z own bs mx rt nm) {a : Addr} {o : Int} (hd : decode bs pc = .ok (.ifnull o, 3)) (hp : pc + 3 = pc') (hr : Go p l e R s m args below meth c n0 Q K N h ce sl (mkF m pc' Ls st)) : Go p l e R s m args below meth c n0 Q K N h ce sl (mkF m pc Ls (.ref a :: st)) := by
  subst hp
  exact Go.step (fun T A _ k => XS.ifnullNo A C.1 rfl (hb C.2.1 hd) rfl k) hr
theorem go_ifnull_n (C : Cx p s m meth c Z own bs mx rt nm) {o : Int} (hd : decode bs pc = .ok (.ifnull o, 3)) (ho : 0 ≤ (pc : Int) + o) (hp : ((pc : Int) + o).toNat = pc') (hr : Go p l e R s m args below meth c n0 Q K N h ce sl (mkF m pc' Ls st)) : Go p l e R s m args below meth c n0 Q K N h ce sl (mkF m pc Ls (.null :: st)) :=
  Go.step (fun T A _ k => XS.ifnullYes A C.1 rfl rfl (hb C.2.1 hd) rfl ho hp k) hr
theorem go_ldc (C : Cx p s m meth c Z own bs mx rt nm) {i : Nat} {v : Int32} (w : (Jvm.Cond.constant own i v).before a0 Z = true) (hd : decode bs pc = .ok (.ldc i, 2)) (hp : pc + 2 = pc') (hr : Go p l e R s m args below meth c n0 Q K N h ce sl (mkF m pc' Ls (.int v :: st))) : Go p l e R s m args below meth c n0 Q K N h ce sl (mkF m pc Ls st) := by
  subst hp
  exact Go.stepX (fun T locs X _ _ q => X.ldcI C.1 C.2.2.2.2.1 (mv C.2.2.2.1 w) rfl (hb C.2.1 hd) q) hr
theorem go_ldc2 (C : Cx p s m meth c Z own bs mx rt nm) {i : Nat} {v : Int64} (w : (Jvm.Cond.constantLong own i v).before a0 Z = true) (hd : decode bs pc = .ok (.ldc2_w i, 3)) (hp : pc + 3 = pc') (hr : Go p l e R s m args below meth c n0 Q K N h ce sl (mkF m pc' Ls (.long v :: st))) : Go p l e R s m args below meth c n0 Q K N h ce sl (mkF m pc Ls st) := by
  subst hp
  exact Go.stepX (fun T locs X _ _ q => X.ldc2J C.1 C.2.2.2.2.1 (mv C.2.2.2.1 w) rfl (hb C.2.1 hd) q) hr
theorem go_getfield (C : Cx p s m meth c Z own bs mx rt nm) {O n d : String} {i : Nat} {a : Addr} {v : Value} (w : (Jvm.Cond.fieldLink own i O n d).before a0 Z = true) (F0 : Fld Z h a O n d v) (hd : decode bs pc = .ok (.getfield i, 3)) (hp : pc + 3 = pc') (hr : Go p l e R s m args below meth c n0 Q K N h ce sl (mkF m pc' Ls (v :: st))) : Go p l e R s m args below meth c n0 Q K N h ce sl (mkF m pc Ls (.ref a :: st)) := by
  subst hp
  intro T locs X eT Nn
  obtain ⟨T', X', e', stp⟩ := getF X C.1 C.2.2.2.1 C.2.2.2.2.1 (host := "") (Or.inl w) Via.refl eT F0 (g := mkF m pc Ls (.ref a :: st)) rfl rfl (hb C.2.1 hd)
  obtain ⟨s₂, o, h1, r⟩ := hr T' locs X' e' Nn
  exact ⟨s₂, o, stp _ h1, r⟩
theorem go_putfield (C : Cx p s m meth c Z own bs mx rt nm) {O n d C0 : String} {i kk : Nat} {ty : FieldType} {a : Addr} {v old : Value} (w : (Jvm.Cond.fieldLink own i O n d).before a0 Z = true) (F0 : Fld Z h a O n d old) (E : Exa Z h a C0) (L : (Jvm.Cond.lays C0 O n d).before a0 Z = true ∨ ((Jvm.Cond.laysFinal C0 O n d).before a0 Z = true ∧ own = O ∧ nm = "<init>")) (wi : (Jvm.Cond.instantiable C0 kk).before a0 Z = true) (hty : parseFieldDescriptor d = some ty) (hn : narrow ty v = v) (hf : fits ty v = true) (ha : n0 ≤ a) (hd : decode bs pc = .ok (.putfield i, 3)) (hp : pc + 3 = pc') (hr : ∀ h', Wr h h' a (Jvm.RoadKit.slotOf Z O n d) v → Go p l e R s m args below meth c n0 Q K N h' ce sl (mkF m pc' Ls st)) : Go p l e R s m args below meth c n0 Q K N h ce sl (mkF m pc Ls (v :: .ref a :: st)) := by
  subst hp
  intro T locs X eT Nn
  obtain ⟨T', h', X', e', W', stp⟩ := putF X C.1 C.2.2.2.1 C.2.2.2.2.1 (host := "") (Or.inl w) Via.refl eT F0 E (L.imp id fun q => ⟨q.1, q.2.1, C.2.2.2.2.2.2.2.trans q.2.2⟩) wi hty hn hf (g := mkF m pc Ls (v :: .ref a :: st)) rfl rfl (hb C.2.1 hd)
  obtain ⟨s₂, o, h1, r⟩ := hr h' W' T' _ X' e' (Fr.snoc X' Nn ha)
  exact ⟨s₂, o, stp _ h1, r⟩
theorem go_new (C : Cx p s m meth c Z own bs mx rt nm) {C0 : String} {i k ce' sl' : Nat} (w : (Jvm.Cond.classLink own i C0).before a0 Z = true) (wi : (Jvm.Cond.instantiable C0 k).before a0 Z = true) (wz : (Jvm.Cond.initialized C0).before a0 Z = true) (hd : decode bs pc = .ok (.new i, 3)) (hp : pc + 3 = pc') (hce : ce + 1 = ce') (hsl : sl + k = sl') (hc : ce' ≤ R.cells) (hl : sl' ≤ R.slots)
    (hr : ∀ (h' : Heap) (a : Addr), h.size = a → Ext h h' → Exa Z h' a C0 → (∀ {O nm d : String} {ty : FieldType}, Laid Z a0 C0 O nm d → parseFieldDescriptor d = some ty → Fld Z h' a O nm d (defaultValue ty)) → Go p l e R s m args below meth c n0 Q K N h' ce' sl' (mkF m pc' Ls (.ref a :: st))) : Go p l e R s m args below meth c n0 Q K N h ce sl (mkF m pc Ls st) := by
  subst hp hce hsl
  intro T locs X eT Nn
  obtain ⟨T', h', X', e', E', A', D', -, stp⟩ := newO X C.1 C.2.2.2.1 C.2.2.2.2.1 w wi wz eT (g := mkF m pc Ls st) rfl (hb C.2.1 hd) hc hl
  obtain ⟨s₂, o, h1, r⟩ := hr h' _ rfl E' A' D' T' _ X' e' Nn
  exact ⟨s₂, o, stp _ h1, r⟩
/-- an array of type ty that holds just vs -/
def Av (Z : State) (h : Heap) (a : Addr) (ty : FieldType) (vs : List Value) : Prop := ∃ cl : Cell, Arr Z h a cl ty ∧ cl.slots.toList = vs ∧ vs.length < 2147483648
theorem Av.lt {ty : FieldType} {vs : List Value} {a : Addr} (A : Av Z h a ty vs) : a < h.size := by obtain ⟨c, A, -⟩ := A; exact A.lt
theorem Av.ext {ty : FieldType} {vs : List Value} {a : Addr} {h' : Heap} (A : Av Z h a ty vs) (E : Ext h h') : Av Z h' a ty vs := by obtain ⟨c, A, r⟩ := A; exact ⟨c, A.ext E, r⟩
theorem Av.other {ty : FieldType} {vs : List Value} {a b : Addr} {h' : Heap} {k : Nat} {v : Value} (A : Av Z h b ty vs) (W : Wr h h' a k v) (q : b ≠ a) : Av Z h' b ty vs := by obtain ⟨c, A, r⟩ := A; exact ⟨c, A.other W q, r⟩
theorem Av.keep {ty : FieldType} {vs : List Value} {a : Addr} {h' : Heap} {ws : List Addr} (A : Av Z h a ty vs) (K0 : Keep h h' ws) (q : a ∉ ws) : Av Z h' a ty vs := by obtain ⟨c, A, r⟩ := A; exact ⟨c, ⟨K0.2.1 a c A.1 q, A.2⟩, r⟩
theorem own_ne_arr {C0 : String} {ty : FieldType} {vs : List Value} {a b : Addr} {k : Nat} (F0 : Exa Z h a C0) (wi : (Jvm.Cond.instantiable C0 k).before a0 Z = true) (G : Av Z h b ty vs) : a ≠ b := by obtain ⟨c, G, -⟩ := G; exact ne_arr F0 wi G
theorem clamp_of {j : Int32} {k : Nat} (hj : j.toInt = k) : j.toNatClampNeg = k := by
  show j.toInt.toNat = k
  rw [hj]; rfl
theorem nonneg_of {j : Int32} {k : Nat} (hj : j.toInt = k) : ¬ j < 0 := fun q => by
  have := Int32.lt_iff_toInt_lt.mp q
  rw [hj] at this
  exact absurd this (by show ¬ (k : Int) < 0; omega)
theorem Av.at {ty : FieldType} {vs : List Value} {a : Addr} (A : Av Z h a ty vs) {j : Int32} {k : Nat} (hj : j.toInt = k) (hk : k < vs.length) : ∃ cl : Cell, Arr Z h a cl ty ∧ cl.slots.toList = vs ∧ ¬ (j < 0 ∨ cl.slots.size ≤ j.toNatClampNeg) ∧ cl.slots[j.toNatClampNeg]? = vs[k]? := by
  obtain ⟨cl, A, e1, e2⟩ := A
  refine ⟨cl, A, e1, ?_, ?_⟩
  · rw [clamp_of hj]
    intro q
    rcases q with q | q
    · exact nonneg_of hj q
    · rw [← e1] at hk; simp at hk; omega
  · rw [clamp_of hj, ← e1]; simp
theorem Av.set {ty : FieldType} {vs : List Value} {a : Addr} {h' : Heap} {k : Nat} {v : Value} (A : Av Z h a ty vs) (W : Wr h h' a k v) : Av Z h' a ty (vs.set k v) := by
  obtain ⟨cl, A, e1, e2⟩ := A
  exact ⟨_, A.same W, by rw [← e1]; simp [Cell.setSlot], by simpa using e2⟩
/-- n ints, whichever -/
def Ints (vs : List Value) (n : Nat) : Prop := vs.length = n ∧ ∀ k, k < n → ∃ x : Int32, vs[k]? = some (.int x)
theorem Ints.rep (n : Nat) (x : Int32) : Ints (List.replicate n (.int x)) n := ⟨by simp, fun k hk => ⟨x, by simp [hk]⟩⟩
theorem Ints.set {vs : List Value} {n k : Nat} (x : Int32) (I : Ints vs n) : Ints (vs.set k (.int x)) n := ⟨by simpa using I.1, fun j hj => by
  by_cases q : k = j
  · subst q
    exact ⟨x, by rw [List.getElem?_set_self (by rw [I.1]; exact hj)]⟩
  · obtain ⟨y, hy⟩ := I.2 j hj
    exact ⟨y, by rw [List.getElem?_set_ne q]; exact hy⟩⟩
theorem go_arraylength (C : Cx p s m meth c Z own bs mx rt nm) {ty : FieldType} {vs : List Value} {a : Addr} (A : Av Z h a ty vs) (n : Int32) (hn : n.toInt = vs.length) (hd : decode bs pc = .ok (.arraylength, 1)) (hp : pc + 1 = pc') (hr : Go p l e R s m args below meth c n0 Q K N h ce sl (mkF m pc' Ls (.int n :: st))) : Go p l e R s m args below meth c n0 Q K N h ce sl (mkF m pc Ls (.ref a :: st)) := by
  subst hp
  obtain ⟨cl, A, e1, e2⟩ := A
  have q : cl.slots.size.toInt32 = n := by
    have hl : cl.slots.size = vs.length := by rw [← e1]; simp
    rw [hl]
    refine int_eq ?_
    rw [hn]
    exact Int32.toInt_ofNat_of_lt (by omega)
  exact Go.stepX (fun T locs X eT _ k => X.arraylength C.1 (cell := cl) (by rw [eT]; exact A.1) (State.isArrayOf_alike C.2.2.2.1.alike A.2.1) (g := mkF m pc Ls (.ref a :: st)) rfl rfl (hb C.2.1 hd) _ (by rw [q]; exact k)) hr
theorem go_iaload (C : Cx p s m meth c Z own bs mx rt nm) {vs : List Value} {a : Addr} {j : Int32} (A : Av Z h a .int vs) (k : Nat) (v : Value) (hj : j.toInt = k) (hv : vs[k]? = some v) (hd : decode bs pc = .ok (.iaload, 1)) (hp : pc + 1 = pc') (hr : Go p l e R s m args below meth c n0 Q K N h ce sl (mkF m pc' Ls (v :: st))) : Go p l e R s m args below meth c n0 Q K N h ce sl (mkF m pc Ls (.int j :: .ref a :: st)) := by
  subst hp
  obtain ⟨cl, A, e1, e2, e3⟩ := A.at hj (List.getElem?_eq_some_iff.mp hv).1
  exact Go.stepX (fun T locs X eT _ q => X.iaload C.1 (j := j) (v := v) (by rw [eT]; exact A.1) (State.isArrayOf_alike C.2.2.2.1.alike A.2.1) A.2.2 e2 (e3.trans hv) (g := mkF m pc Ls (.int j :: .ref a :: st)) rfl rfl (hb C.2.1 hd) _ q) hr
theorem go_laload (C : Cx p s m meth c Z own bs mx rt nm) {vs : List Value} {a : Addr} {j : Int32} (A : Av Z h a .long vs) (k : Nat) (v : Value) (hj : j.toInt = k) (hv : vs[k]? = some v) (hd : decode bs pc = .ok (.laload, 1)) (hp : pc + 1 = pc') (hr : Go p l e R s m args below meth c n0 Q K N h ce sl (mkF m pc' Ls (v :: st))) : Go p l e R s m args below meth c n0 Q K N h ce sl (mkF m pc Ls (.int j :: .ref a :: st)) := by
  subst hp
  obtain ⟨cl, A, e1, e2, e3⟩ := A.at hj (List.getElem?_eq_some_iff.mp hv).1
  exact Go.stepX (fun T locs X eT _ q => X.laload C.1 (j := j) (v := v) (by rw [eT]; exact A.1) (State.isArrayOf_alike C.2.2.2.1.alike A.2.1) A.2.2 e2 (e3.trans hv) (g := mkF m pc Ls (.int j :: .ref a :: st)) rfl rfl (hb C.2.1 hd) _ q) hr
theorem go_baload (C : Cx p s m meth c Z own bs mx rt nm) {vs : List Value} {a : Addr} {j : Int32} (A : Av Z h a .byte vs) (k : Nat) (v : Value) (hj : j.toInt = k) (hv : vs[k]? = some v) (hd : decode bs pc = .ok (.baload, 1)) (hp : pc + 1 = pc') (hr : Go p l e R s m args below meth c n0 Q K N h ce sl (mkF m pc' Ls (v :: st))) : Go p l e R s m args below meth c n0 Q K N h ce sl (mkF m pc Ls (.int j :: .ref a :: st)) := by
  subst hp
  obtain ⟨cl, A, e1, e2, e3⟩ := A.at hj (List.getElem?_eq_some_iff.mp hv).1
  exact Go.stepX (fun T locs X eT _ q => X.baloadBytes C.1 (j := j) (v := v) (by rw [eT]; exact A.1) (State.isArrayOf_alike C.2.2.2.1.alike A.2.1) A.2.2 e2 (e3.trans hv) (g := mkF m pc Ls (.int j :: .ref a :: st)) rfl rfl (hb C.2.1 hd) _ q) hr
theorem go_iastore (C : Cx p s m meth c Z own bs mx rt nm) {vs : List Value} {a : Addr} {j : Int32} {x : Int32} (A : Av Z h a .int vs) (k : Nat) (hj : j.toInt = k) (hk : k < vs.length) (ha : n0 ≤ a) (hd : decode bs pc = .ok (.iastore, 1)) (hp : pc + 1 = pc') (hr : ∀ h', Wr h h' a k (.int x) → Av Z h' a .int (vs.set k (.int x)) → Go p l e R s m args below meth c n0 Q K N h' ce sl (mkF m pc' Ls st)) : Go p l e R s m args below meth c n0 Q K N h ce sl (mkF m pc Ls (.int x :: .int j :: .ref a :: st)) := by
  subst hp
  obtain ⟨cl, A1, e1, e2, e3⟩ := A.at hj hk
  intro T locs X eT Nn
  obtain ⟨T', h', X', e', W', stp⟩ := stI X C.1 C.2.2.2.1 eT A1 e2 (g := mkF m pc Ls (.int x :: .int j :: .ref a :: st)) rfl rfl (hb C.2.1 hd)
  have W2 : Wr h h' a k (.int x) := by rw [clamp_of hj] at W'; exact W'
  obtain ⟨s₂, o, h1, r⟩ := hr h' W2 (A.set W2) T' _ X' e' (Fr.snoc X' Nn ha)
  exact ⟨s₂, o, stp _ h1, r⟩
theorem go_lastore (C : Cx p s m meth c Z own bs mx rt nm) {vs : List Value} {a : Addr} {j : Int32} {x : Int64} (A : Av Z h a .long vs) (k : Nat) (hj : j.toInt = k) (hk : k < vs.length) (ha : n0 ≤ a) (hd : decode bs pc = .ok (.lastore, 1)) (hp : pc + 1 = pc') (hr : ∀ h', Wr h h' a k (.long x) → Av Z h' a .long (vs.set k (.long x)) → Go p l e R s m args below meth c n0 Q K N h' ce sl (mkF m pc' Ls st)) : Go p l e R s m args below meth c n0 Q K N h ce sl (mkF m pc Ls (.long x :: .int j :: .ref a :: st)) := by
  subst hp
  obtain ⟨cl, A1, e1, e2, e3⟩ := A.at hj hk
  intro T locs X eT Nn
  obtain ⟨T', h', X', e', W', stp⟩ := stJ X C.1 C.2.2.2.1 eT A1 e2 (g := mkF m pc Ls (.long x :: .int j :: .ref a :: st)) rfl rfl (hb C.2.1 hd)
  have W2 : Wr h h' a k (.long x) := by rw [clamp_of hj] at W'; exact W'
  obtain ⟨s₂, o, h1, r⟩ := hr h' W2 (A.set W2) T' _ X' e' (Fr.snoc X' Nn ha)
  exact ⟨s₂, o, stp _ h1, r⟩
theorem go_bastore (C : Cx p s m meth c Z own bs mx rt nm) {vs : List Value} {a : Addr} {j : Int32} {x : Int32} (A : Av Z h a .byte vs) (k : Nat) (hj : j.toInt = k) (hk : k < vs.length) (x' : Int32) (hx : x.toInt8.toInt32 = x') (ha : n0 ≤ a) (hd : decode bs pc = .ok (.bastore, 1)) (hp : pc + 1 = pc') (hr : ∀ h', Wr h h' a k (.int x') → Av Z h' a .byte (vs.set k (.int x')) → Go p l e R s m args below meth c n0 Q K N h' ce sl (mkF m pc' Ls st)) : Go p l e R s m args below meth c n0 Q K N h ce sl (mkF m pc Ls (.int x :: .int j :: .ref a :: st)) := by
  subst hp hx
  obtain ⟨cl, A1, e1, e2, e3⟩ := A.at hj hk
  intro T locs X eT Nn
  obtain ⟨T', h', X', e', W', stp⟩ := stB X C.1 C.2.2.2.1 eT A1 e2 (g := mkF m pc Ls (.int x :: .int j :: .ref a :: st)) rfl rfl (hb C.2.1 hd)
  have W2 : Wr h h' a k (.int x.toInt8.toInt32) := by rw [clamp_of hj] at W'; exact W'
  obtain ⟨s₂, o, h1, r⟩ := hr h' W2 (A.set W2) T' _ X' e' (Fr.snoc X' Nn ha)
  exact ⟨s₂, o, stp _ h1, r⟩
theorem go_newarray (C : Cx p s m meth c Z own bs mx rt nm) {aty : ArrayType} {ty : FieldType} {n : Int32} {ce' sl' : Nat} (w : (Jvm.Cond.arrayClass ty).before a0 Z = true) (hty : newarray.typeOf aty = ty) (k cap : Nat) (hn : n.toInt = k) (hcap : k ≤ cap) (hc8 : cap * 8 ≤ 536870912) (hce : ce + 1 = ce') (hsl : sl + cap = sl') (hc : ce' ≤ R.cells) (hl : sl' ≤ R.slots) (hd : decode bs pc = .ok (.newarray aty, 2)) (hp : pc + 2 = pc')
    (hr : ∀ (h' : Heap) (a : Addr), h.size = a → Ext h h' → Av Z h' a ty (List.replicate k (defaultValue ty)) → Go p l e R s m args below meth c n0 Q K N h' ce' sl' (mkF m pc' Ls (.ref a :: st))) : Go p l e R s m args below meth c n0 Q K N h ce sl (mkF m pc Ls (.int n :: st)) := by
  subst hp hty hce hsl
  intro T locs X eT Nn
  obtain ⟨T', h', cA, X', e', E', A', stp⟩ := newP X C.1 C.2.2.2.1 w eT (g := mkF m pc Ls (.int n :: st)) rfl (hb C.2.1 hd) rfl (nonneg_of hn) (cap := cap) (by rw [clamp_of hn]; exact hcap) hc8 hc hl
  have hb31 : k < 2147483648 := by have := n.toInt_lt; omega
  obtain ⟨s₂, o, h1, r⟩ := hr h' _ rfl E' ⟨_, A', by simp [newA, clamp_of hn], by simpa using hb31⟩ T' _ X' e' Nn
  exact ⟨s₂, o, stp _ h1, r⟩
theorem go_newarrayE (C : Cx p s m meth c Z own bs mx rt nm) {aty : ArrayType} {ty : FieldType} {n : Int32} {ce' sl' : Nat} {ad : String} (w : (Jvm.Cond.arrayClass ty).before a0 Z = true) (hty : newarray.typeOf aty = ty) (had : "[" ++ ty.toString = ad) (k cap : Nat) (hn : n.toInt = k) (hcap : k ≤ cap) (hc8 : cap * 8 ≤ 536870912) (hce : ce + 1 = ce') (hsl : sl + cap = sl') (hc : ce' ≤ R.cells) (hl : sl' ≤ R.slots) (hd : decode bs pc = .ok (.newarray aty, 2)) (hp : pc + 2 = pc')
    (hr : ∀ (h' : Heap) (a : Addr), h.size = a → Ext h h' → Exa Z h' a ad → Av Z h' a ty (List.replicate k (defaultValue ty)) → Go p l e R s m args below meth c n0 Q K N h' ce' sl' (mkF m pc' Ls (.ref a :: st))) : Go p l e R s m args below meth c n0 Q K N h ce sl (mkF m pc Ls (.int n :: st)) := by
  subst hp hty hce hsl
  intro T locs X eT Nn
  obtain ⟨T', h', cA, X', e', E', A', Q', stp⟩ := newPE X C.1 C.2.2.2.1 w eT (g := mkF m pc Ls (.int n :: st)) rfl (hb C.2.1 hd) rfl (nonneg_of hn) (cap := cap) (by rw [clamp_of hn]; exact hcap) hc8 hc hl had
  have hb31 : k < 2147483648 := by have := n.toInt_lt; omega
  obtain ⟨s₂, o, h1, r⟩ := hr h' _ rfl E' Q' ⟨_, A', by simp [newA, clamp_of hn], by simpa using hb31⟩ T' _ X' e' Nn
  exact ⟨s₂, o, stp _ h1, r⟩
theorem go_clone (C : Cx p s m meth c Z own bs mx rt nm) {i : Nat} {ad : String} {ty : FieldType} {vs : List Value} {a : Addr} {W cap ce' sl' : Nat} (w1 : (Jvm.Cond.methodLink own i ⟨ad, "clone", "()Ljava/lang/Object;"⟩).before a0 Z = true) (w2 : (Jvm.Cond.sameMethod ad "java/lang/Object" "clone" "()Ljava/lang/Object;").before a0 Z = true) (w3 : (Jvm.Cond.native ⟨"java/lang/Object", "clone", "()Ljava/lang/Object;"⟩).before a0 Z = true) (w4 : (Jvm.Cond.instanceMethod ⟨"java/lang/Object", "clone", "()Ljava/lang/Object;"⟩).before a0 Z = true) (w5 : (Jvm.Cond.selects ad ⟨ad, "clone", "()Ljava/lang/Object;"⟩ ⟨"java/lang/Object", "clone", "()Ljava/lang/Object;"⟩).before a0 Z = true) (w6 : (Jvm.Cond.castable ad "java/lang/Cloneable").before a0 Z = true) (A : Av Z h a ty vs) (E : Exa Z h a ad) (hfit : ∀ v ∈ vs, fits ty v = true) (hls : Ls.size = mx) (hf : 1 ≤ R.frames) (hW : wt st = W) (hlo : W + 14 ≤ R.locals) (hcap : vs.length ≤ cap) (hce : ce + 1 = ce') (hsl : sl + cap = sl') (hc : ce' ≤ R.cells) (hl : sl' ≤ R.slots) (hd : decode bs pc = .ok (.invokevirtual i, 3)) (hp : pc + 3 = pc')
    (hr : ∀ (h' : Heap) (b : Addr), h.size = b → Ext h h' → Exa Z h' b ad → Av Z h' b ty vs → Go p l e R s m args below meth c n0 Q K N h' ce' sl' (mkF m pc' Ls (.ref b :: st))) : Go p l e R s m args below meth c n0 Q K N h ce sl (mkF m pc Ls (.ref a :: st)) := by
  subst hp hce hsl
  intro T locs X eT Nn
  obtain ⟨cl, A1, e1, e2⟩ := A
  have hsz : cl.slots.size = vs.length := by rw [← e1]; simp
  have FC : FitC Z cl := fitC_of A1 fun i hi v hv => hfit v (by rw [← e1]; exact Array.mem_toList_iff.mpr (Array.mem_of_getElem? hv))
  obtain ⟨T', h', X', e', E', A', Q', stp⟩ := cloneA X C.1 C.2.2.2.1 C.2.2.2.2.1 w1 w2 w3 w4 w5 w6 eT A1 E FC (g := mkF m pc Ls (.ref a :: st)) rfl (hls.trans C.2.2.1.symm) rfl (hb C.2.1 hd) hf (W := W) (cap := cap) (by show 2 * 0 + wt st ≤ W; omega) hlo (by rw [hsz]; exact hcap) hc hl
  obtain ⟨s₂, o, h1, r⟩ := hr h' _ rfl E' Q' ⟨_, A', e1, e2⟩ T' _ X' e' Nn
  exact ⟨s₂, o, stp _ h1, r⟩
theorem go_checkcast (C : Cx p s m meth c Z own bs mx rt nm) {i : Nat} {K0 : String} {a : Addr} (w : (Jvm.Cond.classLink own i K0).before a0 Z = true) (E : Exa Z h a K0) (hd : decode bs pc = .ok (.checkcast i, 3)) (hp : pc + 3 = pc') (hr : Go p l e R s m args below meth c n0 Q K N h ce sl (mkF m pc' Ls (.ref a :: st))) : Go p l e R s m args below meth c n0 Q K N h ce sl (mkF m pc Ls (.ref a :: st)) := by
  subst hp
  intro T locs X eT Nn
  obtain ⟨T', X', e', stp⟩ := castY X C.1 C.2.2.2.1 C.2.2.2.2.1 w eT (Ins.self E) (g := mkF m pc Ls (.ref a :: st)) rfl rfl (hb C.2.1 hd)
  obtain ⟨s₂, o, h1, r⟩ := hr T' locs X' e' Nn
  exact ⟨s₂, o, stp _ h1, r⟩
theorem go_objinit (C : Cx p s m meth c Z own bs mx rt nm) {i : Nat} {a : Addr} {W : Nat} (w1 : (Jvm.Cond.methodLink own i Lib.objectInit).before a0 Z = true) (w2 : (Jvm.Cond.instanceMethod Lib.objectInit).before a0 Z = true) (w3 : (Jvm.Cond.code Lib.objectInit ⟨#[0xb1]⟩ 1 none).before a0 Z = true) (hls : Ls.size = mx) (hf : 1 ≤ R.frames) (hW : wt st = W) (hl : W + 12 ≤ R.locals) (hd : decode bs pc = .ok (.invokespecial i, 3)) (hp : pc + 3 = pc') (hr : Go p l e R s m args below meth c n0 Q K N h ce sl (mkF m pc' Ls st)) : Go p l e R s m args below meth c n0 Q K N h ce sl (mkF m pc Ls (.ref a :: st)) := by
  subst hp
  intro T locs X eT Nn
  obtain ⟨T', X', e', stp⟩ := initO X C.1 C.2.2.2.1 C.2.2.2.2.1 w1 w2 w3 eT (g := mkF m pc Ls (.ref a :: st)) rfl (hls.trans C.2.2.1.symm) rfl (hb C.2.1 hd) hf (W := W) (by show 2 * 0 + wt st ≤ W; omega) hl
  obtain ⟨s₂, o, h1, r⟩ := hr T' locs X' e' Nn
  exact ⟨s₂, o, stp _ h1, r⟩
theorem back_of_sat {y : MethodName} {cb : ByteArray} {cm : Nat} {cr : Option FieldType} {rm : Room} {as : List Value} {Qc : Option Value → Heap → Prop} {W len : Nat} (S : Sat l Z y cb cm cr rm as h n0 Qc) (hZ : Z.Warmed39 s.vm) (w3 : (Jvm.Cond.initialized y.cls).before a0 Z = true) (w4 : (Jvm.Cond.code y cb cm cr).before a0 Z = true) (hfr : rm.frames + 1 ≤ R.frames) (hlo : W + (cm + 11) + rm.locals ≤ R.locals) :
    Back l R p e below s args y len W (fun A a => a = as.toArray ∧ A.U.heap = h ∧ A.cells + rm.cells ≤ R.cells ∧ A.slots + rm.slots ≤ R.slots) (fun A _ v B => ∃ L, (Qc v B.U.heap ∧ Fr n0 L) ∧ B.locs = A.locs ++ L ∧ B.cells = A.cells + rm.cells ∧ B.slots = A.slots + rm.slots) :=
  backOf (Q := fun v h L => Qc v h ∧ Fr n0 L) (W := W) (S []) hZ w4 w3 hfr hlo
theorem go_static (C : Cx p s m meth c Z own bs mx rt nm) {y : MethodName} {i : Nat} {cb : ByteArray} {cm : Nat} {cr : Option FieldType} {rm : Room} {as rest : List Value} {W : Nat} {ps : List FieldType} {pr : Option FieldType} {ce' sl' : Nat} {Qc : Option Value → Heap → Prop} (S : Sat l Z y cb cm cr rm as h n0 Qc) (w1 : (Jvm.Cond.methodLink own i y).before a0 Z = true) (w2 : (Jvm.Cond.static y).before a0 Z = true) (w3 : (Jvm.Cond.initialized y.cls).before a0 Z = true) (w4 : (Jvm.Cond.code y cb cm cr).before a0 Z = true) (hy : y.cls ≠ "java/lang/invoke/MethodHandle" ∧ y.cls ≠ "java/lang/invoke/VarHandle") (hpd : parseMethodDescriptor y.desc = some ⟨ps, pr⟩) (hlen : as.length = ps.length) (hls : Ls.size = mx) (hW : wt rest = W) (hfr : rm.frames + 1 ≤ R.frames) (hlo : W + (cm + 11) + rm.locals ≤ R.locals) (hce : ce + rm.cells = ce') (hsl : sl + rm.slots = sl') (hcc : ce' ≤ R.cells) (hss : sl' ≤ R.slots) (hd : decode bs pc = .ok (.invokestatic i, 3)) (hp : pc + 3 = pc') (hst : st = as.reverse ++ rest) (hr : ∀ v h', Qc v h' → Go p l e R s m args below meth c n0 Q K N h' ce' sl' (mkF m pc' Ls (v.toList ++ rest))) : Go p l e R s m args below meth c n0 Q K N h ce sl (mkF m pc Ls st) := by
  subst hp hce hsl
  intro T locs X eT Nn
  have hZ := C.2.2.2.1
  obtain ⟨v, _, ⟨T', L', k', n'⟩, -, X', ⟨Lc, hQ, l', y', z'⟩, stp⟩ := Jvm.LawKit.callS X C.1 (y := y) C.2.2.2.2.1 (mvT hZ w1) (mvT hZ w2) (mvT hZ w3) (mvT hZ w4) hy (back_of_sat S hZ w3 w4 hfr hlo) (g := mkF m pc Ls st) rfl (hls.trans C.2.2.1.symm) (argsL := as) (rest := rest) (lenOf hpd hlen) hst (by show 2 * 0 + wt rest ≤ W; omega) (hb C.2.1 hd) (fun _ _ => ⟨rfl, eT, hcc, hss⟩)
  dsimp only [Pt.U, Pt.locs, Pt.cells, Pt.slots] at X' l' y' z' stp hQ
  subst l' y' z'
  obtain ⟨s₂, o, h1, r⟩ := hr v T'.heap hQ.1 T' _ X' rfl (Fr.app Nn hQ.2)
  exact ⟨s₂, o, stp _ h1, r⟩
theorem go_special (C : Cx p s m meth c Z own bs mx rt nm) {y : MethodName} {i : Nat} {cb : ByteArray} {cm : Nat} {rm : Room} {as rest : List Value} {W : Nat} {ps : List FieldType} {pr : Option FieldType} {ce' sl' : Nat} {a : Addr} {Qc : Option Value → Heap → Prop} (S : Sat l Z y cb cm none rm (.ref a :: as) h n0 Qc) (hyn : y.name = "<init>") (w1 : (Jvm.Cond.methodLink own i y).before a0 Z = true) (w2 : (Jvm.Cond.instanceMethod y).before a0 Z = true) (w3 : (Jvm.Cond.initialized y.cls).before a0 Z = true) (w4 : (Jvm.Cond.code y cb cm none).before a0 Z = true) (hy : y.cls ≠ "java/lang/invoke/MethodHandle" ∧ y.cls ≠ "java/lang/invoke/VarHandle") (hpd : parseMethodDescriptor y.desc = some ⟨ps, pr⟩) (hlen : as.length = ps.length) (hls : Ls.size = mx) (hW : wt rest = W) (hfr : rm.frames + 1 ≤ R.frames) (hlo : W + (cm + 11) + rm.locals ≤ R.locals) (hce : ce + rm.cells = ce') (hsl : sl + rm.slots = sl') (hcc : ce' ≤ R.cells) (hss : sl' ≤ R.slots) (hd : decode bs pc = .ok (.invokespecial i, 3)) (hp : pc + 3 = pc') (hst : st = as.reverse ++ .ref a :: rest) (hr : ∀ v h', Qc v h' → Go p l e R s m args below meth c n0 Q K N h' ce' sl' (mkF m pc' Ls (v.toList ++ rest))) : Go p l e R s m args below meth c n0 Q K N h ce sl (mkF m pc Ls st) := by
  subst hp hce hsl
  intro T locs X eT Nn
  have hZ := C.2.2.2.1
  obtain ⟨v, _, ⟨T', L', k', n'⟩, -, X', ⟨Lc, hQ, l', y', z'⟩, stp⟩ := X.specialBack C.1 (y := y) hyn C.2.2.2.2.1 (mvT hZ w1) (mvT hZ w2) (mvT hZ w4) hy (back_of_sat S hZ w3 w4 hfr hlo) (g := mkF m pc Ls st) rfl (hls.trans C.2.2.1.symm) (Steps.refl _) (a := a) (argsL := as) (rest := rest) (lenOf hpd hlen) hst (by show 2 * 0 + wt rest ≤ W; omega) (hb C.2.1 hd) (fun _ _ => ⟨rfl, eT, hcc, hss⟩)
  dsimp only [Pt.U, Pt.locs, Pt.cells, Pt.slots] at X' l' y' z' stp hQ
  subst l' y' z'
  obtain ⟨s₂, o, h1, r⟩ := hr v T'.heap hQ.1 T' _ X' rfl (Fr.app Nn hQ.2)
  exact ⟨s₂, o, stp.trans h1, r⟩
theorem go_virtual (C : Cx p s m meth c Z own bs mx rt nm) {y : MethodName} {i : Nat} {cb : ByteArray} {cm : Nat} {cr : Option FieldType} {rm : Room} {as rest : List Value} {W : Nat} {ps : List FieldType} {pr : Option FieldType} {ce' sl' : Nat} {a : Addr} {C0 : String} {Qc : Option Value → Heap → Prop} (S : Sat l Z y cb cm cr rm (.ref a :: as) h n0 Qc) (E : Exa Z h a C0) (w1 : (Jvm.Cond.methodLink own i y).before a0 Z = true) (w5 : (Jvm.Cond.declares y).before a0 Z = true) (w6 : (Jvm.Cond.selects C0 y y).before a0 Z = true) (w2 : (Jvm.Cond.instanceMethod y).before a0 Z = true) (w3 : (Jvm.Cond.initialized y.cls).before a0 Z = true) (w4 : (Jvm.Cond.code y cb cm cr).before a0 Z = true) (hy : y.cls ≠ "java/lang/invoke/MethodHandle" ∧ y.cls ≠ "java/lang/invoke/VarHandle") (hpd : parseMethodDescriptor y.desc = some ⟨ps, pr⟩) (hlen : as.length = ps.length) (hls : Ls.size = mx) (hW : wt rest = W) (hfr : rm.frames + 1 ≤ R.frames) (hlo : W + (cm + 11) + rm.locals ≤ R.locals) (hce : ce + rm.cells = ce') (hsl : sl + rm.slots = sl') (hcc : ce' ≤ R.cells) (hss : sl' ≤ R.slots) (hd : decode bs pc = .ok (.invokevirtual i, 3)) (hp : pc + 3 = pc') (hst : st = as.reverse ++ .ref a :: rest) (hr : ∀ v h', Qc v h' → Go p l e R s m args below meth c n0 Q K N h' ce' sl' (mkF m pc' Ls (v.toList ++ rest))) : Go p l e R s m args below meth c n0 Q K N h ce sl (mkF m pc Ls st) := by
  subst hp hce hsl
  intro T locs X eT Nn
  have hZ := C.2.2.2.1
  obtain ⟨cq, kq, qa, qb, qc⟩ := isOf hZ eT E
  obtain ⟨v, _, ⟨T', L', k', n'⟩, -, X', ⟨Lc, hQ, l', y', z'⟩, stp⟩ := X.virtualBack C.1 (y := y) (z := y) C.2.2.2.2.1 (mvT hZ w1) (mvT hZ w5) (notFace_of_selects (args := #[]) (mvT hZ w6)) (mvT hZ w6) (mvT hZ w2) hy (back_of_sat S hZ w3 w4 hfr hlo) qa qc (g := mkF m pc Ls st) rfl (hls.trans C.2.2.1.symm) (Steps.refl _) (argsL := as) (rest := rest) (lenOf hpd hlen) hst (by show 2 * 0 + wt rest ≤ W; omega) (hb C.2.1 hd) (fun _ _ => ⟨rfl, eT, hcc, hss⟩)
  dsimp only [Pt.U, Pt.locs, Pt.cells, Pt.slots] at X' l' y' z' stp hQ
  subst l' y' z'
  obtain ⟨s₂, o, h1, r⟩ := hr v T'.heap hQ.1 T' _ X' rfl (Fr.app Nn hQ.2)
  exact ⟨s₂, o, stp.trans h1, r⟩
theorem go_private (C : Cx p s m meth c Z own bs mx rt nm) {y : MethodName} {i : Nat} {cb : ByteArray} {cm : Nat} {cr : Option FieldType} {rm : Room} {as rest : List Value} {W : Nat} {ps : List FieldType} {pr : Option FieldType} {ce' sl' : Nat} {a : Addr} {C0 : String} {Qc : Option Value → Heap → Prop} (S : Sat l Z y cb cm cr rm (.ref a :: as) h n0 Qc) (E : Exa Z h a C0) (w1 : (Jvm.Cond.methodLink own i y).before a0 Z = true) (w5 : (Jvm.Cond.privateMethod y).before a0 Z = true) (w6 : (Jvm.Cond.selects y.cls y y).before a0 Z = true) (w2 : (Jvm.Cond.instanceMethod y).before a0 Z = true) (w3 : (Jvm.Cond.initialized y.cls).before a0 Z = true) (w4 : (Jvm.Cond.code y cb cm cr).before a0 Z = true) (hy : y.cls ≠ "java/lang/invoke/MethodHandle" ∧ y.cls ≠ "java/lang/invoke/VarHandle") (hpd : parseMethodDescriptor y.desc = some ⟨ps, pr⟩) (hlen : as.length = ps.length) (hls : Ls.size = mx) (hW : wt rest = W) (hfr : rm.frames + 1 ≤ R.frames) (hlo : W + (cm + 11) + rm.locals ≤ R.locals) (hce : ce + rm.cells = ce') (hsl : sl + rm.slots = sl') (hcc : ce' ≤ R.cells) (hss : sl' ≤ R.slots) (hd : decode bs pc = .ok (.invokevirtual i, 3)) (hp : pc + 3 = pc') (hst : st = as.reverse ++ .ref a :: rest) (hr : ∀ v h', Qc v h' → Go p l e R s m args below meth c n0 Q K N h' ce' sl' (mkF m pc' Ls (v.toList ++ rest))) : Go p l e R s m args below meth c n0 Q K N h ce sl (mkF m pc Ls st) := by
  subst hp hce hsl
  intro T locs X eT Nn
  have hZ := C.2.2.2.1
  obtain ⟨cell, hc1, hc2⟩ := E.cell
  obtain ⟨v, _, ⟨T', L', k', n'⟩, -, X', ⟨Lc, hQ, l', y', z'⟩, stp⟩ := X.privateBack C.1 (y := y) C.2.2.2.2.1 (mvT hZ w1) (mvT hZ w2) (mvT hZ w6) (Cond.privateMethod_at (args := #[]) (mvP hZ w5)) (mvT hZ w4) hy (back_of_sat S hZ w3 w4 hfr hlo) (g := mkF m pc Ls st) rfl (hls.trans C.2.2.1.symm) (Steps.refl _) (a := a) (by rw [eT]; exact hc1) hc2 (argsL := as) (rest := rest) (lenOf hpd hlen) hst (by show 2 * 0 + wt rest ≤ W; omega) (hb C.2.1 hd) (fun _ _ => ⟨rfl, eT, hcc, hss⟩)
  dsimp only [Pt.U, Pt.locs, Pt.cells, Pt.slots] at X' l' y' z' stp hQ
  subst l' y' z'
  obtain ⟨s₂, o, h1, r⟩ := hr v T'.heap hQ.1 T' _ X' rfl (Fr.app Nn hQ.2)
  exact ⟨s₂, o, stp.trans h1, r⟩
theorem own_selects_private {y : MethodName} {k : Nat} (wi : (Jvm.Cond.instantiable y.cls k).before a0 Z = true) (wp : (Jvm.Cond.privateMethod y).before a0 Z = true) (wm : (Jvm.Cond.instanceMethod y).before a0 Z = true) (hy : y.cls ≠ "java/lang/invoke/MethodHandle" ∧ y.cls ≠ "java/lang/invoke/VarHandle") : (Jvm.Cond.selects y.cls y y).before a0 Z = true := by
  obtain ⟨mk, methM, hnamed, hmethM, hstM, habM⟩ := Cond.instanceMethod_spec wm
  obtain ⟨c1, k1, q1, q2, q3, q4, -⟩ := Cond.instantiable_spec wi
  have hc := findClass_of_methodNamed hnamed
  cases q1.symm.trans hc
  have hf := State.methodFound?_of_named hnamed hy
  have hs : selectMethod {} Z.vm mk.cls mk = .method mk := selectMethod_private hmethM (Cond.privateMethod_at wp mk methM hnamed hmethM)
  have hi : k1.isInterface = false := by
    cases h : k1.isInterface
    · rfl
    · rw [h] at q4; simp at q4
  simp [Cond.before, Cond.holds, Cond.value, hc, hf, hnamed, hs, q2, hi]
theorem go_specialW (C : Cx p s m meth c Z own bs mx rt nm) {y : MethodName} {i : Nat} {cb : ByteArray} {cm : Nat} {rm : Room} {as rest : List Value} {W : Nat} {ps : List FieldType} {pr : Option FieldType} {ce' sl' : Nat} {a : Addr} {Qc : Option Value → Heap → Prop} (S : Sat l Z y cb cm none rm (.ref a :: as) h n0 Qc) (hyn : y.name = "<init>") (w1 : (Jvm.Cond.methodRef own i y).before a0 Z = true) (w2 : (Jvm.Cond.instanceMethod y).before a0 Z = true) (w3 : (Jvm.Cond.initialized y.cls).before a0 Z = true) (w4 : (Jvm.Cond.code y cb cm none).before a0 Z = true) (hy : y.cls ≠ "java/lang/invoke/MethodHandle" ∧ y.cls ≠ "java/lang/invoke/VarHandle") (hpd : parseMethodDescriptor y.desc = some ⟨ps, pr⟩) (hlen : as.length = ps.length) (hls : Ls.size = mx) (hW : wt rest = W) (hfr : rm.frames + 1 ≤ R.frames) (hlo : W + (cm + 11) + rm.locals ≤ R.locals) (hce : ce + rm.cells = ce') (hsl : sl + rm.slots = sl') (hcc : ce' ≤ R.cells) (hss : sl' ≤ R.slots) (hd : decode bs pc = .ok (.invokespecial i, 3)) (hp : pc + 3 = pc') (hst : st = as.reverse ++ .ref a :: rest) (hr : ∀ v h', Qc v h' → Go p l e R s m args below meth c n0 Q K N h' ce' sl' (mkF m pc' Ls (v.toList ++ rest))) : Go p l e R s m args below meth c n0 Q K N h ce sl (mkF m pc Ls st) := by
  subst hp hce hsl
  intro T locs X eT Nn
  have hZ := C.2.2.2.1
  have hT : Z.Warmed39 T.vm := wtrans hZ X.warmed
  obtain ⟨mZ, _, hnZ, -⟩ := Cond.instanceMethod_spec w2
  have w1T : (Jvm.Cond.methodRef own i y).before a0 T = true := (Cond.methodRef_warmed39 hT hnZ hy w1 :)
  obtain ⟨mO, methO, hnO, hmO, hstO, habO⟩ := Cond.instanceMethod_spec (mv (args := a0) hT w2)
  obtain ⟨methO', cO, hmO', hcO, hbO, hlO, -, hlockO, -, hsigO⟩ := Cond.code_spec hnO (mv (args := a0) hT w4)
  cases hmO.symm.trans hmO'
  obtain ⟨kO, hkO, hnameO⟩ := className_of_methodNamed hnO
  obtain ⟨hnameMO, hdescO⟩ := name_of_methodNamed hnO hmO
  have hownT : T.vm.findClass own = some m.cls := by rw [X.warmed.alike.findClass]; exact C.2.2.2.2.1
  obtain ⟨m', c', hf', hready, hfc, hnr⟩ := Cond.methodRef_named e hownT w1T
  have e1 : m' = mO := Option.some.inj (hf'.symm.trans (State.methodFound?_of_named hnO hy))
  subst e1
  have e2 : c' = m'.cls := Option.some.inj (hfc.symm.trans (findClass_of_methodNamed hnO))
  subst e2
  have hfound : lookupSpecial T.vm m'.cls "<init>" methO.desc = .method m' := by rw [hdescO, ← hyn]; exact lookupSpecial_of_named hnO hmO hstO
  have hstep : ∀ target, (∀ acts, Steps p.tables e below (doInvoke e (T.setTop { mkF m pc Ls st with stack := rest }) acts m' (.ref a :: as).toArray).1 target) → Steps p.tables e below (T.setTop (mkF m pc Ls st)) target := fun target hrest => by
    jvm_step X.here [C.1, (hb C.2.1 hd), invokespecial.wp_init (e := e) (s := T) (k := kO) (meth := methO) (m := m') (a := a) (args := as) (rest := rest) (f := mkF m pc Ls st) X.here.top hnr hready hkO hmO (by rw [hnameMO]; exact hyn) hstO habO hfound (lenOf hpd hlen _ hsigO) hst]
    exact hrest
  have B := back_of_sat (p := p) (e := e) (below := below) (args := args) (R := R) (len := 3) S hZ w3 w4 hfr hlo
  obtain ⟨v, ⟨T', L', k', n'⟩, X', ⟨Lc, hQ, l', y', z'⟩, stp⟩ := B m meth c ⟨T, locs, ce, sl⟩ { mkF m pc Ls st with stack := rest } (.invokespecial i) m' (.ref a :: as).toArray X rfl (hls.trans C.2.2.1.symm) (hb C.2.1 hd) (by show 2 * 0 + wt rest ≤ W; omega) hnO ⟨rfl, eT, hcc, hss⟩
  dsimp only [Pt.U, Pt.locs, Pt.cells, Pt.slots] at X' l' y' z' stp hQ
  subst l' y' z'
  obtain ⟨s₂, o, h1, r⟩ := hr v T'.heap hQ.1 T' _ X' rfl (Fr.app Nn hQ.2)
  exact ⟨s₂, o, (hstep _ (fun acts => by rw [doInvoke_state]; exact Steps.refl _)).trans (stp.trans h1), r⟩
theorem go_staticP (C : Cx p s m meth c Z own bs mx rt nm) {y : MethodName} {i : Nat} {cb : ByteArray} {cm : Nat} {cr : Option FieldType} {rm : Room} {as rest : List Value} {W : Nat} {ps : List FieldType} {pr : Option FieldType}  (v : Value) (S : Sat l Z y cb cm cr rm as h n0 (RV fun r h' => r = v ∧ h' = h)) (w1 : (Jvm.Cond.methodLink own i y).before a0 Z = true) (w2 : (Jvm.Cond.static y).before a0 Z = true) (w3 : (Jvm.Cond.initialized y.cls).before a0 Z = true) (w4 : (Jvm.Cond.code y cb cm cr).before a0 Z = true) (hy : y.cls ≠ "java/lang/invoke/MethodHandle" ∧ y.cls ≠ "java/lang/invoke/VarHandle") (hpd : parseMethodDescriptor y.desc = some ⟨ps, pr⟩) (hlen : as.length = ps.length) (hls : Ls.size = mx) (hW : wt rest = W) (hfr : rm.frames + 1 ≤ R.frames) (hlo : W + (cm + 11) + rm.locals ≤ R.locals) (hce : rm.cells = 0) (hsl : rm.slots = 0) (hcc : ce ≤ R.cells) (hss : sl ≤ R.slots) (hd : decode bs pc = .ok (.invokestatic i, 3)) (hp : pc + 3 = pc') (hst : st = as.reverse ++ rest) (hr : Go p l e R s m args below meth c n0 Q K N h ce sl (mkF m pc' Ls (v :: rest))) : Go p l e R s m args below meth c n0 Q K N h ce sl (mkF m pc Ls st) :=
  go_static C S w1 w2 w3 w4 hy hpd hlen hls hW hfr hlo (by rw [hce]; rfl) (by rw [hsl]; rfl) hcc hss hd hp hst (fun w h' hq => by obtain ⟨r, rfl, q1, q2⟩ := hq; rw [q1, q2]; exact hr)
theorem go_staticV (C : Cx p s m meth c Z own bs mx rt nm) {y : MethodName} {i : Nat} {cb : ByteArray} {cm : Nat} {cr : Option FieldType} {rm : Room} {as rest : List Value} {W : Nat} {ps : List FieldType} {pr : Option FieldType} {ce' sl' : Nat}  {P : Value → Heap → Prop} (S : Sat l Z y cb cm cr rm as h n0 (RV P)) (w1 : (Jvm.Cond.methodLink own i y).before a0 Z = true) (w2 : (Jvm.Cond.static y).before a0 Z = true) (w3 : (Jvm.Cond.initialized y.cls).before a0 Z = true) (w4 : (Jvm.Cond.code y cb cm cr).before a0 Z = true) (hy : y.cls ≠ "java/lang/invoke/MethodHandle" ∧ y.cls ≠ "java/lang/invoke/VarHandle") (hpd : parseMethodDescriptor y.desc = some ⟨ps, pr⟩) (hlen : as.length = ps.length) (hls : Ls.size = mx) (hW : wt rest = W) (hfr : rm.frames + 1 ≤ R.frames) (hlo : W + (cm + 11) + rm.locals ≤ R.locals) (hce : ce + rm.cells = ce') (hsl : sl + rm.slots = sl') (hcc : ce' ≤ R.cells) (hss : sl' ≤ R.slots) (hd : decode bs pc = .ok (.invokestatic i, 3)) (hp : pc + 3 = pc') (hst : st = as.reverse ++ rest) (hr : ∀ r h', P r h' → Go p l e R s m args below meth c n0 Q K N h' ce' sl' (mkF m pc' Ls (r :: rest))) : Go p l e R s m args below meth c n0 Q K N h ce sl (mkF m pc Ls st) :=
  go_static C S w1 w2 w3 w4 hy hpd hlen hls hW hfr hlo hce hsl hcc hss hd hp hst (fun v h' hq => by obtain ⟨r, rfl, q⟩ := hq; exact hr r h' q)
theorem go_staticN (C : Cx p s m meth c Z own bs mx rt nm) {y : MethodName} {i : Nat} {cb : ByteArray} {cm : Nat} {cr : Option FieldType} {rm : Room} {as rest : List Value} {W : Nat} {ps : List FieldType} {pr : Option FieldType} {ce' sl' : Nat}  {P : Heap → Prop} (S : Sat l Z y cb cm cr rm as h n0 (RN P)) (w1 : (Jvm.Cond.methodLink own i y).before a0 Z = true) (w2 : (Jvm.Cond.static y).before a0 Z = true) (w3 : (Jvm.Cond.initialized y.cls).before a0 Z = true) (w4 : (Jvm.Cond.code y cb cm cr).before a0 Z = true) (hy : y.cls ≠ "java/lang/invoke/MethodHandle" ∧ y.cls ≠ "java/lang/invoke/VarHandle") (hpd : parseMethodDescriptor y.desc = some ⟨ps, pr⟩) (hlen : as.length = ps.length) (hls : Ls.size = mx) (hW : wt rest = W) (hfr : rm.frames + 1 ≤ R.frames) (hlo : W + (cm + 11) + rm.locals ≤ R.locals) (hce : ce + rm.cells = ce') (hsl : sl + rm.slots = sl') (hcc : ce' ≤ R.cells) (hss : sl' ≤ R.slots) (hd : decode bs pc = .ok (.invokestatic i, 3)) (hp : pc + 3 = pc') (hst : st = as.reverse ++ rest) (hr : ∀ h', P h' → Go p l e R s m args below meth c n0 Q K N h' ce' sl' (mkF m pc' Ls rest)) : Go p l e R s m args below meth c n0 Q K N h ce sl (mkF m pc Ls st) :=
  go_static C S w1 w2 w3 w4 hy hpd hlen hls hW hfr hlo hce hsl hcc hss hd hp hst (fun v h' hq => by obtain ⟨rfl, q⟩ := hq; exact hr h' q)
theorem go_virtualP (C : Cx p s m meth c Z own bs mx rt nm) {y : MethodName} {i : Nat} {cb : ByteArray} {cm : Nat} {cr : Option FieldType} {rm : Room} {as rest : List Value} {W : Nat} {ps : List FieldType} {pr : Option FieldType} {a : Addr} {C0 : String} (v : Value) (S : Sat l Z y cb cm cr rm (.ref a :: as) h n0 (RV fun r h' => r = v ∧ h' = h)) (E : Exa Z h a C0) (w1 : (Jvm.Cond.methodLink own i y).before a0 Z = true) (w5 : (Jvm.Cond.declares y).before a0 Z = true) (w6 : (Jvm.Cond.selects C0 y y).before a0 Z = true) (w2 : (Jvm.Cond.instanceMethod y).before a0 Z = true) (w3 : (Jvm.Cond.initialized y.cls).before a0 Z = true) (w4 : (Jvm.Cond.code y cb cm cr).before a0 Z = true) (hy : y.cls ≠ "java/lang/invoke/MethodHandle" ∧ y.cls ≠ "java/lang/invoke/VarHandle") (hpd : parseMethodDescriptor y.desc = some ⟨ps, pr⟩) (hlen : as.length = ps.length) (hls : Ls.size = mx) (hW : wt rest = W) (hfr : rm.frames + 1 ≤ R.frames) (hlo : W + (cm + 11) + rm.locals ≤ R.locals) (hce : rm.cells = 0) (hsl : rm.slots = 0) (hcc : ce ≤ R.cells) (hss : sl ≤ R.slots) (hd : decode bs pc = .ok (.invokevirtual i, 3)) (hp : pc + 3 = pc') (hst : st = as.reverse ++ .ref a :: rest) (hr : Go p l e R s m args below meth c n0 Q K N h ce sl (mkF m pc' Ls (v :: rest))) : Go p l e R s m args below meth c n0 Q K N h ce sl (mkF m pc Ls st) :=
  go_virtual C S E w1 w5 w6 w2 w3 w4 hy hpd hlen hls hW hfr hlo (by rw [hce]; rfl) (by rw [hsl]; rfl) hcc hss hd hp hst (fun w h' hq => by obtain ⟨r, rfl, q1, q2⟩ := hq; rw [q1, q2]; exact hr)
theorem go_virtualV (C : Cx p s m meth c Z own bs mx rt nm) {y : MethodName} {i : Nat} {cb : ByteArray} {cm : Nat} {cr : Option FieldType} {rm : Room} {as rest : List Value} {W : Nat} {ps : List FieldType} {pr : Option FieldType} {ce' sl' : Nat} {a : Addr} {C0 : String} {P : Value → Heap → Prop} (S : Sat l Z y cb cm cr rm (.ref a :: as) h n0 (RV P)) (E : Exa Z h a C0) (w1 : (Jvm.Cond.methodLink own i y).before a0 Z = true) (w5 : (Jvm.Cond.declares y).before a0 Z = true) (w6 : (Jvm.Cond.selects C0 y y).before a0 Z = true) (w2 : (Jvm.Cond.instanceMethod y).before a0 Z = true) (w3 : (Jvm.Cond.initialized y.cls).before a0 Z = true) (w4 : (Jvm.Cond.code y cb cm cr).before a0 Z = true) (hy : y.cls ≠ "java/lang/invoke/MethodHandle" ∧ y.cls ≠ "java/lang/invoke/VarHandle") (hpd : parseMethodDescriptor y.desc = some ⟨ps, pr⟩) (hlen : as.length = ps.length) (hls : Ls.size = mx) (hW : wt rest = W) (hfr : rm.frames + 1 ≤ R.frames) (hlo : W + (cm + 11) + rm.locals ≤ R.locals) (hce : ce + rm.cells = ce') (hsl : sl + rm.slots = sl') (hcc : ce' ≤ R.cells) (hss : sl' ≤ R.slots) (hd : decode bs pc = .ok (.invokevirtual i, 3)) (hp : pc + 3 = pc') (hst : st = as.reverse ++ .ref a :: rest) (hr : ∀ r h', P r h' → Go p l e R s m args below meth c n0 Q K N h' ce' sl' (mkF m pc' Ls (r :: rest))) : Go p l e R s m args below meth c n0 Q K N h ce sl (mkF m pc Ls st) :=
  go_virtual C S E w1 w5 w6 w2 w3 w4 hy hpd hlen hls hW hfr hlo hce hsl hcc hss hd hp hst (fun v h' hq => by obtain ⟨r, rfl, q⟩ := hq; exact hr r h' q)
theorem go_virtualN (C : Cx p s m meth c Z own bs mx rt nm) {y : MethodName} {i : Nat} {cb : ByteArray} {cm : Nat} {cr : Option FieldType} {rm : Room} {as rest : List Value} {W : Nat} {ps : List FieldType} {pr : Option FieldType} {ce' sl' : Nat} {a : Addr} {C0 : String} {P : Heap → Prop} (S : Sat l Z y cb cm cr rm (.ref a :: as) h n0 (RN P)) (E : Exa Z h a C0) (w1 : (Jvm.Cond.methodLink own i y).before a0 Z = true) (w5 : (Jvm.Cond.declares y).before a0 Z = true) (w6 : (Jvm.Cond.selects C0 y y).before a0 Z = true) (w2 : (Jvm.Cond.instanceMethod y).before a0 Z = true) (w3 : (Jvm.Cond.initialized y.cls).before a0 Z = true) (w4 : (Jvm.Cond.code y cb cm cr).before a0 Z = true) (hy : y.cls ≠ "java/lang/invoke/MethodHandle" ∧ y.cls ≠ "java/lang/invoke/VarHandle") (hpd : parseMethodDescriptor y.desc = some ⟨ps, pr⟩) (hlen : as.length = ps.length) (hls : Ls.size = mx) (hW : wt rest = W) (hfr : rm.frames + 1 ≤ R.frames) (hlo : W + (cm + 11) + rm.locals ≤ R.locals) (hce : ce + rm.cells = ce') (hsl : sl + rm.slots = sl') (hcc : ce' ≤ R.cells) (hss : sl' ≤ R.slots) (hd : decode bs pc = .ok (.invokevirtual i, 3)) (hp : pc + 3 = pc') (hst : st = as.reverse ++ .ref a :: rest) (hr : ∀ h', P h' → Go p l e R s m args below meth c n0 Q K N h' ce' sl' (mkF m pc' Ls rest)) : Go p l e R s m args below meth c n0 Q K N h ce sl (mkF m pc Ls st) :=
  go_virtual C S E w1 w5 w6 w2 w3 w4 hy hpd hlen hls hW hfr hlo hce hsl hcc hss hd hp hst (fun v h' hq => by obtain ⟨rfl, q⟩ := hq; exact hr h' q)
theorem go_privateP (C : Cx p s m meth c Z own bs mx rt nm) {y : MethodName} {i : Nat} {cb : ByteArray} {cm : Nat} {cr : Option FieldType} {rm : Room} {as rest : List Value} {W : Nat} {ps : List FieldType} {pr : Option FieldType} {a : Addr} {C0 : String} (v : Value) (S : Sat l Z y cb cm cr rm (.ref a :: as) h n0 (RV fun r h' => r = v ∧ h' = h)) (E : Exa Z h a C0) (w1 : (Jvm.Cond.methodLink own i y).before a0 Z = true) (w5 : (Jvm.Cond.privateMethod y).before a0 Z = true) (w6 : (Jvm.Cond.selects y.cls y y).before a0 Z = true) (w2 : (Jvm.Cond.instanceMethod y).before a0 Z = true) (w3 : (Jvm.Cond.initialized y.cls).before a0 Z = true) (w4 : (Jvm.Cond.code y cb cm cr).before a0 Z = true) (hy : y.cls ≠ "java/lang/invoke/MethodHandle" ∧ y.cls ≠ "java/lang/invoke/VarHandle") (hpd : parseMethodDescriptor y.desc = some ⟨ps, pr⟩) (hlen : as.length = ps.length) (hls : Ls.size = mx) (hW : wt rest = W) (hfr : rm.frames + 1 ≤ R.frames) (hlo : W + (cm + 11) + rm.locals ≤ R.locals) (hce : rm.cells = 0) (hsl : rm.slots = 0) (hcc : ce ≤ R.cells) (hss : sl ≤ R.slots) (hd : decode bs pc = .ok (.invokevirtual i, 3)) (hp : pc + 3 = pc') (hst : st = as.reverse ++ .ref a :: rest) (hr : Go p l e R s m args below meth c n0 Q K N h ce sl (mkF m pc' Ls (v :: rest))) : Go p l e R s m args below meth c n0 Q K N h ce sl (mkF m pc Ls st) :=
  go_private C S E w1 w5 w6 w2 w3 w4 hy hpd hlen hls hW hfr hlo (by rw [hce]; rfl) (by rw [hsl]; rfl) hcc hss hd hp hst (fun w h' hq => by obtain ⟨r, rfl, q1, q2⟩ := hq; rw [q1, q2]; exact hr)
theorem go_privateV (C : Cx p s m meth c Z own bs mx rt nm) {y : MethodName} {i : Nat} {cb : ByteArray} {cm : Nat} {cr : Option FieldType} {rm : Room} {as rest : List Value} {W : Nat} {ps : List FieldType} {pr : Option FieldType} {ce' sl' : Nat} {a : Addr} {C0 : String} {P : Value → Heap → Prop} (S : Sat l Z y cb cm cr rm (.ref a :: as) h n0 (RV P)) (E : Exa Z h a C0) (w1 : (Jvm.Cond.methodLink own i y).before a0 Z = true) (w5 : (Jvm.Cond.privateMethod y).before a0 Z = true) (w6 : (Jvm.Cond.selects y.cls y y).before a0 Z = true) (w2 : (Jvm.Cond.instanceMethod y).before a0 Z = true) (w3 : (Jvm.Cond.initialized y.cls).before a0 Z = true) (w4 : (Jvm.Cond.code y cb cm cr).before a0 Z = true) (hy : y.cls ≠ "java/lang/invoke/MethodHandle" ∧ y.cls ≠ "java/lang/invoke/VarHandle") (hpd : parseMethodDescriptor y.desc = some ⟨ps, pr⟩) (hlen : as.length = ps.length) (hls : Ls.size = mx) (hW : wt rest = W) (hfr : rm.frames + 1 ≤ R.frames) (hlo : W + (cm + 11) + rm.locals ≤ R.locals) (hce : ce + rm.cells = ce') (hsl : sl + rm.slots = sl') (hcc : ce' ≤ R.cells) (hss : sl' ≤ R.slots) (hd : decode bs pc = .ok (.invokevirtual i, 3)) (hp : pc + 3 = pc') (hst : st = as.reverse ++ .ref a :: rest) (hr : ∀ r h', P r h' → Go p l e R s m args below meth c n0 Q K N h' ce' sl' (mkF m pc' Ls (r :: rest))) : Go p l e R s m args below meth c n0 Q K N h ce sl (mkF m pc Ls st) :=
  go_private C S E w1 w5 w6 w2 w3 w4 hy hpd hlen hls hW hfr hlo hce hsl hcc hss hd hp hst (fun v h' hq => by obtain ⟨r, rfl, q⟩ := hq; exact hr r h' q)
theorem go_privateN (C : Cx p s m meth c Z own bs mx rt nm) {y : MethodName} {i : Nat} {cb : ByteArray} {cm : Nat} {cr : Option FieldType} {rm : Room} {as rest : List Value} {W : Nat} {ps : List FieldType} {pr : Option FieldType} {ce' sl' : Nat} {a : Addr} {C0 : String} {P : Heap → Prop} (S : Sat l Z y cb cm cr rm (.ref a :: as) h n0 (RN P)) (E : Exa Z h a C0) (w1 : (Jvm.Cond.methodLink own i y).before a0 Z = true) (w5 : (Jvm.Cond.privateMethod y).before a0 Z = true) (w6 : (Jvm.Cond.selects y.cls y y).before a0 Z = true) (w2 : (Jvm.Cond.instanceMethod y).before a0 Z = true) (w3 : (Jvm.Cond.initialized y.cls).before a0 Z = true) (w4 : (Jvm.Cond.code y cb cm cr).before a0 Z = true) (hy : y.cls ≠ "java/lang/invoke/MethodHandle" ∧ y.cls ≠ "java/lang/invoke/VarHandle") (hpd : parseMethodDescriptor y.desc = some ⟨ps, pr⟩) (hlen : as.length = ps.length) (hls : Ls.size = mx) (hW : wt rest = W) (hfr : rm.frames + 1 ≤ R.frames) (hlo : W + (cm + 11) + rm.locals ≤ R.locals) (hce : ce + rm.cells = ce') (hsl : sl + rm.slots = sl') (hcc : ce' ≤ R.cells) (hss : sl' ≤ R.slots) (hd : decode bs pc = .ok (.invokevirtual i, 3)) (hp : pc + 3 = pc') (hst : st = as.reverse ++ .ref a :: rest) (hr : ∀ h', P h' → Go p l e R s m args below meth c n0 Q K N h' ce' sl' (mkF m pc' Ls rest)) : Go p l e R s m args below meth c n0 Q K N h ce sl (mkF m pc Ls st) :=
  go_private C S E w1 w5 w6 w2 w3 w4 hy hpd hlen hls hW hfr hlo hce hsl hcc hss hd hp hst (fun v h' hq => by obtain ⟨rfl, q⟩ := hq; exact hr h' q)
theorem go_specialV (C : Cx p s m meth c Z own bs mx rt nm) {y : MethodName} {i : Nat} {cb : ByteArray} {cm : Nat} {rm : Room} {as rest : List Value} {W : Nat} {ps : List FieldType} {pr : Option FieldType} {ce' sl' : Nat} {a : Addr} {P : Value → Heap → Prop} (S : Sat l Z y cb cm none rm (.ref a :: as) h n0 (RV P)) (hyn : y.name = "<init>") (w1 : (Jvm.Cond.methodLink own i y).before a0 Z = true) (w2 : (Jvm.Cond.instanceMethod y).before a0 Z = true) (w3 : (Jvm.Cond.initialized y.cls).before a0 Z = true) (w4 : (Jvm.Cond.code y cb cm none).before a0 Z = true) (hy : y.cls ≠ "java/lang/invoke/MethodHandle" ∧ y.cls ≠ "java/lang/invoke/VarHandle") (hpd : parseMethodDescriptor y.desc = some ⟨ps, pr⟩) (hlen : as.length = ps.length) (hls : Ls.size = mx) (hW : wt rest = W) (hfr : rm.frames + 1 ≤ R.frames) (hlo : W + (cm + 11) + rm.locals ≤ R.locals) (hce : ce + rm.cells = ce') (hsl : sl + rm.slots = sl') (hcc : ce' ≤ R.cells) (hss : sl' ≤ R.slots) (hd : decode bs pc = .ok (.invokespecial i, 3)) (hp : pc + 3 = pc') (hst : st = as.reverse ++ .ref a :: rest) (hr : ∀ r h', P r h' → Go p l e R s m args below meth c n0 Q K N h' ce' sl' (mkF m pc' Ls (r :: rest))) : Go p l e R s m args below meth c n0 Q K N h ce sl (mkF m pc Ls st) :=
  go_special C S hyn w1 w2 w3 w4 hy hpd hlen hls hW hfr hlo hce hsl hcc hss hd hp hst (fun v h' hq => by obtain ⟨r, rfl, q⟩ := hq; exact hr r h' q)
theorem go_specialN (C : Cx p s m meth c Z own bs mx rt nm) {y : MethodName} {i : Nat} {cb : ByteArray} {cm : Nat} {rm : Room} {as rest : List Value} {W : Nat} {ps : List FieldType} {pr : Option FieldType} {ce' sl' : Nat} {a : Addr} {P : Heap → Prop} (S : Sat l Z y cb cm none rm (.ref a :: as) h n0 (RN P)) (hyn : y.name = "<init>") (w1 : (Jvm.Cond.methodLink own i y).before a0 Z = true) (w2 : (Jvm.Cond.instanceMethod y).before a0 Z = true) (w3 : (Jvm.Cond.initialized y.cls).before a0 Z = true) (w4 : (Jvm.Cond.code y cb cm none).before a0 Z = true) (hy : y.cls ≠ "java/lang/invoke/MethodHandle" ∧ y.cls ≠ "java/lang/invoke/VarHandle") (hpd : parseMethodDescriptor y.desc = some ⟨ps, pr⟩) (hlen : as.length = ps.length) (hls : Ls.size = mx) (hW : wt rest = W) (hfr : rm.frames + 1 ≤ R.frames) (hlo : W + (cm + 11) + rm.locals ≤ R.locals) (hce : ce + rm.cells = ce') (hsl : sl + rm.slots = sl') (hcc : ce' ≤ R.cells) (hss : sl' ≤ R.slots) (hd : decode bs pc = .ok (.invokespecial i, 3)) (hp : pc + 3 = pc') (hst : st = as.reverse ++ .ref a :: rest) (hr : ∀ h', P h' → Go p l e R s m args below meth c n0 Q K N h' ce' sl' (mkF m pc' Ls rest)) : Go p l e R s m args below meth c n0 Q K N h ce sl (mkF m pc Ls st) :=
  go_special C S hyn w1 w2 w3 w4 hy hpd hlen hls hW hfr hlo hce hsl hcc hss hd hp hst (fun v h' hq => by obtain ⟨rfl, q⟩ := hq; exact hr h' q)
theorem go_specialWV (C : Cx p s m meth c Z own bs mx rt nm) {y : MethodName} {i : Nat} {cb : ByteArray} {cm : Nat} {rm : Room} {as rest : List Value} {W : Nat} {ps : List FieldType} {pr : Option FieldType} {ce' sl' : Nat} {a : Addr} {P : Value → Heap → Prop} (S : Sat l Z y cb cm none rm (.ref a :: as) h n0 (RV P)) (hyn : y.name = "<init>") (w1 : (Jvm.Cond.methodRef own i y).before a0 Z = true) (w2 : (Jvm.Cond.instanceMethod y).before a0 Z = true) (w3 : (Jvm.Cond.initialized y.cls).before a0 Z = true) (w4 : (Jvm.Cond.code y cb cm none).before a0 Z = true) (hy : y.cls ≠ "java/lang/invoke/MethodHandle" ∧ y.cls ≠ "java/lang/invoke/VarHandle") (hpd : parseMethodDescriptor y.desc = some ⟨ps, pr⟩) (hlen : as.length = ps.length) (hls : Ls.size = mx) (hW : wt rest = W) (hfr : rm.frames + 1 ≤ R.frames) (hlo : W + (cm + 11) + rm.locals ≤ R.locals) (hce : ce + rm.cells = ce') (hsl : sl + rm.slots = sl') (hcc : ce' ≤ R.cells) (hss : sl' ≤ R.slots) (hd : decode bs pc = .ok (.invokespecial i, 3)) (hp : pc + 3 = pc') (hst : st = as.reverse ++ .ref a :: rest) (hr : ∀ r h', P r h' → Go p l e R s m args below meth c n0 Q K N h' ce' sl' (mkF m pc' Ls (r :: rest))) : Go p l e R s m args below meth c n0 Q K N h ce sl (mkF m pc Ls st) :=
  go_specialW C S hyn w1 w2 w3 w4 hy hpd hlen hls hW hfr hlo hce hsl hcc hss hd hp hst (fun v h' hq => by obtain ⟨r, rfl, q⟩ := hq; exact hr r h' q)
theorem go_specialWN (C : Cx p s m meth c Z own bs mx rt nm) {y : MethodName} {i : Nat} {cb : ByteArray} {cm : Nat} {rm : Room} {as rest : List Value} {W : Nat} {ps : List FieldType} {pr : Option FieldType} {ce' sl' : Nat} {a : Addr} {P : Heap → Prop} (S : Sat l Z y cb cm none rm (.ref a :: as) h n0 (RN P)) (hyn : y.name = "<init>") (w1 : (Jvm.Cond.methodRef own i y).before a0 Z = true) (w2 : (Jvm.Cond.instanceMethod y).before a0 Z = true) (w3 : (Jvm.Cond.initialized y.cls).before a0 Z = true) (w4 : (Jvm.Cond.code y cb cm none).before a0 Z = true) (hy : y.cls ≠ "java/lang/invoke/MethodHandle" ∧ y.cls ≠ "java/lang/invoke/VarHandle") (hpd : parseMethodDescriptor y.desc = some ⟨ps, pr⟩) (hlen : as.length = ps.length) (hls : Ls.size = mx) (hW : wt rest = W) (hfr : rm.frames + 1 ≤ R.frames) (hlo : W + (cm + 11) + rm.locals ≤ R.locals) (hce : ce + rm.cells = ce') (hsl : sl + rm.slots = sl') (hcc : ce' ≤ R.cells) (hss : sl' ≤ R.slots) (hd : decode bs pc = .ok (.invokespecial i, 3)) (hp : pc + 3 = pc') (hst : st = as.reverse ++ .ref a :: rest) (hr : ∀ h', P h' → Go p l e R s m args below meth c n0 Q K N h' ce' sl' (mkF m pc' Ls rest)) : Go p l e R s m args below meth c n0 Q K N h ce sl (mkF m pc Ls st) :=
  go_specialW C S hyn w1 w2 w3 w4 hy hpd hlen hls hW hfr hlo hce hsl hcc hss hd hp hst (fun v h' hq => by obtain ⟨rfl, q⟩ := hq; exact hr h' q)
theorem go_ireturnI (C : Cx p s m meth c Z own bs mx rt nm) {z : Int32} (hrt : rt = some .int) (hd : decode bs pc = .ok (.ireturn, 1)) (hk : ce ≤ K) (hn : sl ≤ N) (hq : Q (some (.int z)) h) : Go p l e R s m args below meth c n0 Q K N h ce sl (mkF m pc Ls [.int z]) := by
  subst hrt
  intro T locs X eT Nn
  obtain ⟨fs, hr, hrun, hended, hW, hsame⟩ := X.leave (v := some (.int z)) (fun q => by first | rfl | (rw [C.2.2.2.2.2.1] at q; cases q)) C.2.2.2.2.2.2.1
  refine ⟨_, _, X.ireturnOut C.1 C.2.2.2.2.2.1 rfl (Or.inl rfl) (hb C.2.1 hd) hr, hrun, hended, _, _, rfl, ⟨?_, Nn⟩, ⟨_, rfl⟩, hW, hsame.mono hk hn⟩
  show Q (some (.int z)) T.heap
  rw [eT]; exact hq
theorem go_lreturn (C : Cx p s m meth c Z own bs mx rt nm) {z : Int64} (hrt : rt = some .long) (hd : decode bs pc = .ok (.lreturn, 1)) (hk : ce ≤ K) (hn : sl ≤ N) (hq : Q (some (.long z)) h) : Go p l e R s m args below meth c n0 Q K N h ce sl (mkF m pc Ls [.long z]) := by
  subst hrt
  intro T locs X eT Nn
  obtain ⟨fs, hr, hrun, hended, hW, hsame⟩ := X.leave (v := some (.long z)) (fun q => by first | rfl | (rw [C.2.2.2.2.2.1] at q; cases q)) C.2.2.2.2.2.2.1
  refine ⟨_, _, Jvm.Stand.lreturnOut X C.1 C.2.2.2.2.2.1 (hb C.2.1 hd) hr, hrun, hended, _, _, rfl, ⟨?_, Nn⟩, ⟨_, rfl⟩, hW, hsame.mono hk hn⟩
  show Q (some (.long z)) T.heap
  rw [eT]; exact hq
theorem go_areturn (C : Cx p s m meth c Z own bs mx rt nm) {w : Value} {t : FieldType} (hrt : rt = some t) (hd : decode bs pc = .ok (.areturn, 1)) (hk : ce ≤ K) (hn : sl ≤ N) (hw : w.isRef = true) (ht : t.isReference = true) (hq : Q (some w) h) : Go p l e R s m args below meth c n0 Q K N h ce sl (mkF m pc Ls [w]) := by
  subst hrt
  intro T locs X eT Nn
  obtain ⟨fs, hr, hrun, hended, hW, hsame⟩ := X.leave (v := some w) (fun q => by first | rfl | (rw [C.2.2.2.2.2.1] at q; cases q)) C.2.2.2.2.2.2.1
  refine ⟨_, _, X.areturnOut C.1 hw C.2.2.2.2.2.1 ht (hb C.2.1 hd) hr, hrun, hended, _, _, rfl, ⟨?_, Nn⟩, ⟨_, rfl⟩, hW, hsame.mono hk hn⟩
  show Q (some w) T.heap
  rw [eT]; exact hq
theorem go_return (C : Cx p s m meth c Z own bs mx rt nm)  (hrt : rt = none) (hd : decode bs pc = .ok (.return_, 1)) (hk : ce ≤ K) (hn : sl ≤ N) (hq : Q (none) h) : Go p l e R s m args below meth c n0 Q K N h ce sl (mkF m pc Ls []) := by
  subst hrt
  intro T locs X eT Nn
  obtain ⟨fs, hr, hrun, hended, hW, hsame⟩ := X.leave (v := none) (fun q => by first | rfl | (rw [C.2.2.2.2.2.1] at q; cases q)) C.2.2.2.2.2.2.1
  refine ⟨_, _, X.returnOut C.1 C.2.2.2.2.2.1 (hb C.2.1 hd) hr, hrun, hended, _, _, rfl, ⟨?_, Nn⟩, ⟨_, rfl⟩, hW, hsame.mono hk hn⟩
  show Q (none) T.heap
  rw [eT]; exact hq
theorem go_ireturnN (C : Cx p s m meth c Z own bs mx rt nm) {z z' : Int32} {t : FieldType} (hrt : rt = some t) (ht : t = .boolean ∨ t = .byte ∨ t = .char ∨ t = .short) (hz : nar t z = z') (hd : decode bs pc = .ok (.ireturn, 1)) (hk : ce ≤ K) (hn : sl ≤ N) (hq : Q (some (.int z')) h) : Go p l e R s m args below meth c n0 Q K N h ce sl (mkF m pc Ls [.int z]) := by
  subst hrt hz
  intro T locs X eT Nn
  obtain ⟨fs, hr, hrun, hended, hW, hsame⟩ := X.leave (v := some (.int (nar t z))) (fun q => by rw [C.2.2.2.2.2.1] at q; cases q) C.2.2.2.2.2.2.1
  refine ⟨_, _, retN X C.1 (t := t) C.2.2.2.2.2.1 ht (hb C.2.1 hd) hr, hrun, hended, _, _, rfl, ⟨?_, Nn⟩, ⟨_, rfl⟩, hW, hsame.mono hk hn⟩
  show Q (some (.int (nar t z))) T.heap
  rw [eT]; exact hq
theorem sat_of {y : MethodName} {cb : ByteArray} {cm : Nat} {cr : Option FieldType} {rm : Room} {as : List Value} {h0 : Heap} (ho : y.cls = own) (hnm : y.name = nm) (hpn : plainFor y = true) (Ls : Array Slot) (hef : ∀ m, entryFrame m as.toArray cm = mkF m 0 Ls [])
    (body : ∀ (p : Program) (e : Env) (s : State) (m : MethodId) (below : List Frame) (meth : Method) (c : Code), Cx p s m meth c Z own cb cm cr nm → Go p l e rm s m as.toArray below meth c n0 Q rm.cells rm.slots h0 0 0 (mkF m 0 Ls [])) : Sat l Z y cb cm cr rm as h0 n0 Q := by
  intro ws
  subst ho hnm
  refine MetFree.of_bodySF hpn hisR ?_
  intro p e s m args below meth c s₁ Bd hml0 hP hK
  obtain ⟨rfl, hZ, hh⟩ := hP
  have X0 : Stand p l e rm s m as.toArray below meth c s₁ [] 0 0 := Stand.of_body Bd
  obtain ⟨s₂, o, h1, h2, h3, v, L, h4, h5, h6⟩ := body p e s m below meth c ⟨Bd.exec, Bd.bytes, hml0, hZ, findClass_of_methodNamed Bd.named, Bd.returns, Bd.notSynchronized, (name_of_methodNamed Bd.named Bd.method).1⟩ s₁ [] X0 (by rw [← hh, Bd.state]; rfl) (Fr.nil n0)
  exact ⟨s₂, o, castTop (hef m) h1, h2, h3, v, L, h4, h5, h6⟩
theorem Sat.weaken {y : MethodName} {cb : ByteArray} {cm : Nat} {cr : Option FieldType} {rm : Room} {as : List Value} {h0 : Heap} {Q' : Option Value → Heap → Prop} (S : Sat l Z y cb cm cr rm as h0 n0 Q) (H : ∀ v h, Q v h → Q' v h) : Sat l Z y cb cm cr rm as h0 n0 Q' := by
  intro ws p e ha hc hk s m args below hf happ hP hK
  obtain ⟨n, o, h1, h2, h3, v, L, h4, h5, h6⟩ := S ws p e ha hc hk s m args below hf happ hP hK
  exact ⟨n, o, h1, h2, h3, v, L, h4, ⟨H _ _ h5.1, h5.2⟩, h6⟩
end Walk
end OwnLayer
theorem wd {Z : State} {a0 : Array Value} (hw : ∀ d ∈ tables_1, d.before a0 Z = true) (k : Nat) {d : Jvm.Cond} (h : tables_1[k]? = some d) : d.before a0 Z = true := hw d (List.mem_of_getElem? h)
theorem d1_0 : decode prog_17_method_1_code 0 = .ok (.aload_n 0, 1) := by decide +kernel
theorem d1_1 : decode prog_17_method_1_code 1 = .ok (.invokespecial 1, 3) := by decide +kernel
theorem d1_4 : decode prog_17_method_1_code 4 = .ok (.aload_n 0, 1) := by decide +kernel
theorem d1_5 : decode prog_17_method_1_code 5 = .ok (.new 7, 3) := by decide +kernel
theorem d1_8 : decode prog_17_method_1_code 8 = .ok (.dup, 1) := by decide +kernel
theorem d1_9 : decode prog_17_method_1_code 9 = .ok (.invokespecial 9, 3) := by decide +kernel
theorem d1_12 : decode prog_17_method_1_code 12 = .ok (.putfield 10, 3) := by decide +kernel
theorem d1_15 : decode prog_17_method_1_code 15 = .ok (.aload_n 0, 1) := by decide +kernel
theorem d1_16 : decode prog_17_method_1_code 16 = .ok (.new 7, 3) := by decide +kernel
theorem d1_19 : decode prog_17_method_1_code 19 = .ok (.dup, 1) := by decide +kernel
theorem d1_20 : decode prog_17_method_1_code 20 = .ok (.invokespecial 9, 3) := by decide +kernel
theorem d1_23 : decode prog_17_method_1_code 23 = .ok (.putfield 16, 3) := by decide +kernel
theorem d1_26 : decode prog_17_method_1_code 26 = .ok (.return_, 1) := by decide +kernel
theorem d2_0 : decode prog_10_method_1_code 0 = .ok (.aload_n 0, 1) := by decide +kernel
theorem d2_1 : decode prog_10_method_1_code 1 = .ok (.invokespecial 1, 3) := by decide +kernel
theorem d2_4 : decode prog_10_method_1_code 4 = .ok (.return_, 1) := by decide +kernel
theorem d4_0 : decode prog_18_method_1_code 0 = .ok (.aload_n 0, 1) := by decide +kernel
theorem d4_1 : decode prog_18_method_1_code 1 = .ok (.invokespecial 1, 3) := by decide +kernel
theorem d4_4 : decode prog_18_method_1_code 4 = .ok (.return_, 1) := by decide +kernel
theorem d5_0 : decode prog_17_method_4_code 0 = .ok (.aload_n 0, 1) := by decide +kernel
theorem d5_1 : decode prog_17_method_4_code 1 = .ok (.dup, 1) := by decide +kernel
theorem d5_2 : decode prog_17_method_4_code 2 = .ok (.getfield 29, 3) := by decide +kernel
theorem d5_5 : decode prog_17_method_4_code 5 = .ok (.lload_n 1, 1) := by decide +kernel
theorem d5_6 : decode prog_17_method_4_code 6 = .ok (.ladd, 1) := by decide +kernel
theorem d5_7 : decode prog_17_method_4_code 7 = .ok (.putfield 29, 3) := by decide +kernel
theorem d5_10 : decode prog_17_method_4_code 10 = .ok (.return_, 1) := by decide +kernel
theorem d6_0 : decode prog_17_method_2_code 0 = .ok (.aload_n 0, 1) := by decide +kernel
theorem d6_1 : decode prog_17_method_2_code 1 = .ok (.aload_n 0, 1) := by decide +kernel
theorem d6_2 : decode prog_17_method_2_code 2 = .ok (.getfield 19, 3) := by decide +kernel
theorem d6_5 : decode prog_17_method_2_code 5 = .ok (.iload_n 1, 1) := by decide +kernel
theorem d6_6 : decode prog_17_method_2_code 6 = .ok (.invokestatic 23, 3) := by decide +kernel
theorem d6_9 : decode prog_17_method_2_code 9 = .ok (.putfield 19, 3) := by decide +kernel
theorem d6_12 : decode prog_17_method_2_code 12 = .ok (.return_, 1) := by decide +kernel
theorem d7_0 : decode jdk_29_method_65_code 0 = .ok (.iload_n 0, 1) := by decide +kernel
theorem d7_1 : decode jdk_29_method_65_code 1 = .ok (.iload_n 1, 1) := by decide +kernel
theorem d7_2 : decode jdk_29_method_65_code 2 = .ok (.if_icmp .lt 7, 3) := by decide +kernel
theorem d7_5 : decode jdk_29_method_65_code 5 = .ok (.iload_n 0, 1) := by decide +kernel
theorem d7_6 : decode jdk_29_method_65_code 6 = .ok (.goto 4, 3) := by decide +kernel
theorem d7_9 : decode jdk_29_method_65_code 9 = .ok (.iload_n 1, 1) := by decide +kernel
theorem d7_10 : decode jdk_29_method_65_code 10 = .ok (.ireturn, 1) := by decide +kernel
theorem d8_0 : decode prog_17_method_7_code 0 = .ok (.aload_n 0, 1) := by decide +kernel
theorem d8_1 : decode prog_17_method_7_code 1 = .ok (.dup, 1) := by decide +kernel
theorem d8_2 : decode prog_17_method_7_code 2 = .ok (.getfield 43, 3) := by decide +kernel
theorem d8_5 : decode prog_17_method_7_code 5 = .ok (.lconst 1, 1) := by decide +kernel
theorem d8_6 : decode prog_17_method_7_code 6 = .ok (.ladd, 1) := by decide +kernel
theorem d8_7 : decode prog_17_method_7_code 7 = .ok (.putfield 43, 3) := by decide +kernel
theorem d8_10 : decode prog_17_method_7_code 10 = .ok (.iload_n 1, 1) := by decide +kernel
theorem d8_11 : decode prog_17_method_7_code 11 = .ok (.ifCond .eq 13, 3) := by decide +kernel
theorem d8_14 : decode prog_17_method_7_code 14 = .ok (.aload_n 0, 1) := by decide +kernel
theorem d8_15 : decode prog_17_method_7_code 15 = .ok (.dup, 1) := by decide +kernel
theorem d8_16 : decode prog_17_method_7_code 16 = .ok (.getfield 46, 3) := by decide +kernel
theorem d8_19 : decode prog_17_method_7_code 19 = .ok (.lconst 1, 1) := by decide +kernel
theorem d8_20 : decode prog_17_method_7_code 20 = .ok (.ladd, 1) := by decide +kernel
theorem d8_21 : decode prog_17_method_7_code 21 = .ok (.putfield 46, 3) := by decide +kernel
theorem d8_24 : decode prog_17_method_7_code 24 = .ok (.return_, 1) := by decide +kernel
theorem d9_0 : decode prog_17_method_13_code 0 = .ok (.aload_n 0, 1) := by decide +kernel
theorem d9_1 : decode prog_17_method_13_code 1 = .ok (.getfield 43, 3) := by decide +kernel
theorem d9_4 : decode prog_17_method_13_code 4 = .ok (.lreturn, 1) := by decide +kernel
theorem d10_0 : decode prog_17_method_14_code 0 = .ok (.aload_n 0, 1) := by decide +kernel
theorem d10_1 : decode prog_17_method_14_code 1 = .ok (.getfield 46, 3) := by decide +kernel
theorem d10_4 : decode prog_17_method_14_code 4 = .ok (.lreturn, 1) := by decide +kernel
theorem d11_0 : decode prog_17_method_10_code 0 = .ok (.aload_n 0, 1) := by decide +kernel
theorem d11_1 : decode prog_17_method_10_code 1 = .ok (.getfield 29, 3) := by decide +kernel
theorem d11_4 : decode prog_17_method_10_code 4 = .ok (.lreturn, 1) := by decide +kernel
theorem d12_0 : decode prog_17_method_9_code 0 = .ok (.aload_n 0, 1) := by decide +kernel
theorem d12_1 : decode prog_17_method_9_code 1 = .ok (.getfield 19, 3) := by decide +kernel
theorem d12_4 : decode prog_17_method_9_code 4 = .ok (.ireturn, 1) := by decide +kernel
theorem d13_0 : decode prog_17_method_11_code 0 = .ok (.aload_n 0, 1) := by decide +kernel
theorem d13_1 : decode prog_17_method_11_code 1 = .ok (.getfield 37, 3) := by decide +kernel
theorem d13_4 : decode prog_17_method_11_code 4 = .ok (.lreturn, 1) := by decide +kernel
theorem d14_0 : decode prog_17_method_12_code 0 = .ok (.aload_n 0, 1) := by decide +kernel
theorem d14_1 : decode prog_17_method_12_code 1 = .ok (.getfield 40, 3) := by decide +kernel
theorem d14_4 : decode prog_17_method_12_code 4 = .ok (.lreturn, 1) := by decide +kernel
theorem pn_0 : plainName "com/example/pufferfish/pufferfish/pool/PoolTallyTaskRefusedPinLaw" = true := by first | (simp [plainName, overriddenIn]; done) | decide +kernel
theorem pd_0 : parseMethodDescriptor "(IJI)Z" = some ⟨[.int, .long, .int], some .boolean⟩ := by decide +kernel
theorem pn_1 : plainName "com/example/pufferfish/pufferfish/pool/PoolTally" = true := by first | (simp [plainName, overriddenIn]; done) | decide +kernel
theorem pd_1 : parseMethodDescriptor "()V" = some ⟨[], none⟩ := by decide +kernel
theorem pn_2 : plainName "com/example/pufferfish/pufferfish/pool/LeadingPadding" = true := by first | (simp [plainName, overriddenIn]; done) | decide +kernel
theorem pn_3 : plainName "com/example/pufferfish/pufferfish/pool/PoolTally$TimeSum" = true := by first | (simp [plainName, overriddenIn]; done) | decide +kernel
theorem pd_2 : parseMethodDescriptor "(J)V" = some ⟨[.long], none⟩ := by decide +kernel
theorem pd_3 : parseMethodDescriptor "(I)V" = some ⟨[.int], none⟩ := by decide +kernel
theorem pd_4 : parseMethodDescriptor "(II)I" = some ⟨[.int, .int], some .int⟩ := by decide +kernel
theorem pd_5 : parseMethodDescriptor "(Z)V" = some ⟨[.boolean], none⟩ := by decide +kernel
theorem pd_6 : parseMethodDescriptor "()J" = some ⟨[], some .long⟩ := by decide +kernel
theorem pd_7 : parseMethodDescriptor "()I" = some ⟨[], some .int⟩ := by decide +kernel
set_option maxRecDepth 65536 in
set_option maxHeartbeats 40000000 in
theorem sat_lp (l : Launch) (Z : State) (a0 : Array Value) (hw : ∀ d ∈ tables_1, d.before a0 Z = true) (a : Addr) (h0 : Heap) (n0 : Nat)  :
    Sat l Z (⟨"com/example/pufferfish/pufferfish/pool/LeadingPadding", "<init>", "()V"⟩ : MethodName) prog_10_method_1_code 1 none ({ frames := 1, cells := 0, slots := 0, locals := 12 } : Room) [.ref a] h0 n0 (RN fun h => h = h0) := by
  refine sat_of (own := "com/example/pufferfish/pufferfish/pool/LeadingPadding") (nm := "<init>") rfl rfl (plainFor_of_name pn_2) #[.val (.ref a)] (fun m => by first | rfl | (simp [entryFrame, mkF, argsToLocals, Value.category]; done)) ?_
  intro p e s m below meth c C
  refine go_aloadN C d2_0 (pc' := 1) rfl rfl rfl ?_
  refine go_objinit C (W := 0) (wd hw 11 rfl) (wd hw 12 rfl) (wd hw 13 rfl) rfl (by decide) rfl (by decide) d2_1 (pc' := 4) rfl ?_
  refine go_return C rfl d2_4 (by decide) (by decide) ?_
  exact ⟨rfl, rfl⟩
set_option maxRecDepth 65536 in
set_option maxHeartbeats 40000000 in
theorem sat_ts (l : Launch) (Z : State) (a0 : Array Value) (hw : ∀ d ∈ tables_1, d.before a0 Z = true) (a : Addr) (h0 : Heap) (n0 : Nat)  :
    Sat l Z (⟨"com/example/pufferfish/pufferfish/pool/PoolTally$TimeSum", "<init>", "()V"⟩ : MethodName) prog_18_method_1_code 1 none ({ frames := 2, cells := 0, slots := 0, locals := 24 } : Room) [.ref a] h0 n0 (RN fun h => h = h0) := by
  refine sat_of (own := "com/example/pufferfish/pufferfish/pool/PoolTally$TimeSum") (nm := "<init>") rfl rfl (plainFor_of_name pn_3) #[.val (.ref a)] (fun m => by first | rfl | (simp [entryFrame, mkF, argsToLocals, Value.category]; done)) ?_
  intro p e s m below meth c C
  refine go_aloadN C d4_0 (pc' := 1) rfl rfl rfl ?_
  refine go_specialN C (as := []) (rest := []) (W := 0) (sat_lp l Z a0 hw a _ _) rfl (wd hw 20 rfl) (wd hw 7 rfl) (wd hw 9 rfl) (wd hw 10 rfl) (by decide) pd_1 rfl rfl rfl (by decide) (by decide) (ce' := 0) (sl' := 0) rfl rfl (by decide) (by decide) d4_1 (pc' := 4) rfl rfl ?_
  intro h_1 eh_1
  rw [eh_1]
  refine go_return C rfl d4_4 (by decide) (by decide) ?_
  exact ⟨rfl, rfl⟩
set_option maxRecDepth 65536 in
set_option maxHeartbeats 40000000 in
theorem sat_pt (l : Launch) (Z : State) (a0 : Array Value) (hw : ∀ d ∈ tables_1, d.before a0 Z = true) (a : Addr) (h0 : Heap) (n0 : Nat) (E1 : Exa Z h0 a "com/example/pufferfish/pufferfish/pool/PoolTally") (F_queueWait : Fld Z h0 a "com/example/pufferfish/pufferfish/pool/PoolTally" "queueWait" "Lcom/example/pufferfish/pufferfish/pool/PoolTally$TimeSum;" (.null)) (F_runTime : Fld Z h0 a "com/example/pufferfish/pufferfish/pool/PoolTally" "runTime" "Lcom/example/pufferfish/pufferfish/pool/PoolTally$TimeSum;" (.null)) (F_submittedCount : Fld Z h0 a "com/example/pufferfish/pufferfish/pool/PoolTally" "submittedCount" "J" (.long (0 : Int64))) (F_largestPoolSize : Fld Z h0 a "com/example/pufferfish/pufferfish/pool/PoolTally" "largestPoolSize" "I" (.int (0 : Int32))) (F_rejectedCount : Fld Z h0 a "com/example/pufferfish/pufferfish/pool/PoolTally" "rejectedCount" "J" (.long (0 : Int64))) (F_rejectedAtShutdownCount : Fld Z h0 a "com/example/pufferfish/pufferfish/pool/PoolTally" "rejectedAtShutdownCount" "J" (.long (0 : Int64))) (F_completedCount : Fld Z h0 a "com/example/pufferfish/pufferfish/pool/PoolTally" "completedCount" "J" (.long (0 : Int64))) (F_failedCount : Fld Z h0 a "com/example/pufferfish/pufferfish/pool/PoolTally" "failedCount" "J" (.long (0 : Int64))) (ga : n0 ≤ a) (gz : n0 ≤ h0.size) :
    Sat l Z (⟨"com/example/pufferfish/pufferfish/pool/PoolTally", "<init>", "()V"⟩ : MethodName) prog_17_method_1_code 1 none ({ frames := 3, cells := 2, slots := 72, locals := 38 } : Room) [.ref a] h0 n0 (RN fun h => Exa Z h a "com/example/pufferfish/pufferfish/pool/PoolTally" ∧ Fld Z h a "com/example/pufferfish/pufferfish/pool/PoolTally" "submittedCount" "J" (.long (0 : Int64)) ∧ Fld Z h a "com/example/pufferfish/pufferfish/pool/PoolTally" "largestPoolSize" "I" (.int (0 : Int32)) ∧ Fld Z h a "com/example/pufferfish/pufferfish/pool/PoolTally" "rejectedCount" "J" (.long (0 : Int64)) ∧ Fld Z h a "com/example/pufferfish/pufferfish/pool/PoolTally" "rejectedAtShutdownCount" "J" (.long (0 : Int64)) ∧ Fld Z h a "com/example/pufferfish/pufferfish/pool/PoolTally" "completedCount" "J" (.long (0 : Int64)) ∧ Fld Z h a "com/example/pufferfish/pufferfish/pool/PoolTally" "failedCount" "J" (.long (0 : Int64))) := by
  refine sat_of (own := "com/example/pufferfish/pufferfish/pool/PoolTally") (nm := "<init>") rfl rfl (plainFor_of_name pn_1) #[.val (.ref a)] (fun m => by first | rfl | (simp [entryFrame, mkF, argsToLocals, Value.category]; done)) ?_
  intro p e s m below meth c C
  refine go_aloadN C d1_0 (pc' := 1) rfl rfl rfl ?_
  refine go_specialN C (as := []) (rest := []) (W := 0) (sat_lp l Z a0 hw a _ _) rfl (wd hw 6 rfl) (wd hw 7 rfl) (wd hw 9 rfl) (wd hw 10 rfl) (by decide) pd_1 rfl rfl rfl (by decide) (by decide) (ce' := 0) (sl' := 0) rfl rfl (by decide) (by decide) d1_1 (pc' := 4) rfl rfl ?_
  intro h_1 eh_1
  rw [eh_1]
  refine go_aloadN C d1_4 (pc' := 5) rfl rfl rfl ?_
  refine go_new C (wd hw 14 rfl) (wd hw 15 rfl) (wd hw 16 rfl) d1_5 (pc' := 8) rfl (ce' := 1) (sl' := 36) rfl rfl (by decide) (by decide) ?_
  intro h_2 a_3 g_4 E_5 E_6 D_7
  have n_8 : a ≠ a_3 := own_ne_new E1.lt g_4
  have g_9 : n0 ≤ a_3 := own_ge gz g_4
  have F_10 := Fld.ext E_5 F_queueWait
  have F_11 := Fld.ext E_5 F_runTime
  have F_12 := Fld.ext E_5 F_submittedCount
  have F_13 := Fld.ext E_5 F_largestPoolSize
  have F_14 := Fld.ext E_5 F_rejectedCount
  have F_15 := Fld.ext E_5 F_rejectedAtShutdownCount
  have F_16 := Fld.ext E_5 F_completedCount
  have F_17 := Fld.ext E_5 F_failedCount
  have E_18 := Exa.ext E_5 E1
  have z_19 : n0 ≤ h_2.size := Nat.le_trans gz E_5.1
  refine go_dup C d1_8 (pc' := 9) rfl rfl ?_
  refine go_specialWN C (as := []) (rest := [.ref a_3, .ref a]) (W := 2) (sat_ts l Z a0 hw a_3 _ _) rfl (wd hw 17 rfl) (wd hw 18 rfl) (wd hw 16 rfl) (wd hw 19 rfl) (by decide) pd_1 rfl rfl rfl (by decide) (by decide) (ce' := 1) (sl' := 36) rfl rfl (by decide) (by decide) d1_9 (pc' := 12) rfl rfl ?_
  intro h_20 eh_20
  rw [eh_20]
  refine go_putfield C (wd hw 21 rfl) F_10 E_18 (Or.inr ⟨wd hw 22 rfl, rfl, rfl⟩) (wd hw 1 rfl) (ty := (.object "com/example/pufferfish/pufferfish/pool/PoolTally$TimeSum")) (by decide) rfl rfl ga d1_12 (pc' := 15) rfl ?_
  intro h_21 W_22
  have z_23 : n0 ≤ h_21.size := W_22.size.symm ▸ z_19
  have F_24 := Fld.same W_22 F_10
  have F_25 := Fld.other W_22 F_11 (Or.inr (slot_ne (a0 := a0) (Or.inr (wd hw 24 rfl)) (Or.inr (wd hw 22 rfl)) (by decide) (t := (.object "com/example/pufferfish/pufferfish/pool/PoolTally$TimeSum")) (t' := (.object "com/example/pufferfish/pufferfish/pool/PoolTally$TimeSum")) (by decide) (by decide)))
  have F_26 := Fld.other W_22 F_12 (Or.inr (slot_ne (a0 := a0) (Or.inl (wd hw 31 rfl)) (Or.inr (wd hw 22 rfl)) (by decide) (t := .long) (t' := (.object "com/example/pufferfish/pufferfish/pool/PoolTally$TimeSum")) (by decide) (by decide)))
  have F_27 := Fld.other W_22 F_13 (Or.inr (slot_ne (a0 := a0) (Or.inl (wd hw 38 rfl)) (Or.inr (wd hw 22 rfl)) (by decide) (t := .int) (t' := (.object "com/example/pufferfish/pufferfish/pool/PoolTally$TimeSum")) (by decide) (by decide)))
  have F_28 := Fld.other W_22 F_14 (Or.inr (slot_ne (a0 := a0) (Or.inl (wd hw 49 rfl)) (Or.inr (wd hw 22 rfl)) (by decide) (t := .long) (t' := (.object "com/example/pufferfish/pufferfish/pool/PoolTally$TimeSum")) (by decide) (by decide)))
  have F_29 := Fld.other W_22 F_15 (Or.inr (slot_ne (a0 := a0) (Or.inl (wd hw 62 rfl)) (Or.inr (wd hw 22 rfl)) (by decide) (t := .long) (t' := (.object "com/example/pufferfish/pufferfish/pool/PoolTally$TimeSum")) (by decide) (by decide)))
  have F_30 := Fld.other W_22 F_16 (Or.inr (slot_ne (a0 := a0) (Or.inl (wd hw 80 rfl)) (Or.inr (wd hw 22 rfl)) (by decide) (t := .long) (t' := (.object "com/example/pufferfish/pufferfish/pool/PoolTally$TimeSum")) (by decide) (by decide)))
  have F_31 := Fld.other W_22 F_17 (Or.inr (slot_ne (a0 := a0) (Or.inl (wd hw 87 rfl)) (Or.inr (wd hw 22 rfl)) (by decide) (t := .long) (t' := (.object "com/example/pufferfish/pufferfish/pool/PoolTally$TimeSum")) (by decide) (by decide)))
  have E_32 := Exa.wr W_22 E_18
  have E_33 := Exa.wr W_22 E_6
  refine go_aloadN C d1_15 (pc' := 16) rfl rfl rfl ?_
  refine go_new C (wd hw 14 rfl) (wd hw 15 rfl) (wd hw 16 rfl) d1_16 (pc' := 19) rfl (ce' := 2) (sl' := 72) rfl rfl (by decide) (by decide) ?_
  intro h_34 a_35 g_36 E_37 E_38 D_39
  have n_40 : a ≠ a_35 := own_ne_new E_32.lt g_36
  have n_41 : a_3 ≠ a_35 := own_ne_new E_33.lt g_36
  have g_42 : n0 ≤ a_35 := own_ge z_23 g_36
  have F_43 := Fld.ext E_37 F_24
  have F_44 := Fld.ext E_37 F_25
  have F_45 := Fld.ext E_37 F_26
  have F_46 := Fld.ext E_37 F_27
  have F_47 := Fld.ext E_37 F_28
  have F_48 := Fld.ext E_37 F_29
  have F_49 := Fld.ext E_37 F_30
  have F_50 := Fld.ext E_37 F_31
  have E_51 := Exa.ext E_37 E_32
  have E_52 := Exa.ext E_37 E_33
  have z_53 : n0 ≤ h_34.size := Nat.le_trans z_23 E_37.1
  refine go_dup C d1_19 (pc' := 20) rfl rfl ?_
  refine go_specialWN C (as := []) (rest := [.ref a_35, .ref a]) (W := 2) (sat_ts l Z a0 hw a_35 _ _) rfl (wd hw 17 rfl) (wd hw 18 rfl) (wd hw 16 rfl) (wd hw 19 rfl) (by decide) pd_1 rfl rfl rfl (by decide) (by decide) (ce' := 2) (sl' := 72) rfl rfl (by decide) (by decide) d1_20 (pc' := 23) rfl rfl ?_
  intro h_54 eh_54
  rw [eh_54]
  refine go_putfield C (wd hw 23 rfl) F_44 E_51 (Or.inr ⟨wd hw 24 rfl, rfl, rfl⟩) (wd hw 1 rfl) (ty := (.object "com/example/pufferfish/pufferfish/pool/PoolTally$TimeSum")) (by decide) rfl rfl ga d1_23 (pc' := 26) rfl ?_
  intro h_55 W_56
  have z_57 : n0 ≤ h_55.size := W_56.size.symm ▸ z_53
  have F_58 := Fld.other W_56 F_43 (Or.inr (slot_ne (a0 := a0) (Or.inr (wd hw 22 rfl)) (Or.inr (wd hw 24 rfl)) (by decide) (t := (.object "com/example/pufferfish/pufferfish/pool/PoolTally$TimeSum")) (t' := (.object "com/example/pufferfish/pufferfish/pool/PoolTally$TimeSum")) (by decide) (by decide)))
  have F_59 := Fld.same W_56 F_44
  have F_60 := Fld.other W_56 F_45 (Or.inr (slot_ne (a0 := a0) (Or.inl (wd hw 31 rfl)) (Or.inr (wd hw 24 rfl)) (by decide) (t := .long) (t' := (.object "com/example/pufferfish/pufferfish/pool/PoolTally$TimeSum")) (by decide) (by decide)))
  have F_61 := Fld.other W_56 F_46 (Or.inr (slot_ne (a0 := a0) (Or.inl (wd hw 38 rfl)) (Or.inr (wd hw 24 rfl)) (by decide) (t := .int) (t' := (.object "com/example/pufferfish/pufferfish/pool/PoolTally$TimeSum")) (by decide) (by decide)))
  have F_62 := Fld.other W_56 F_47 (Or.inr (slot_ne (a0 := a0) (Or.inl (wd hw 49 rfl)) (Or.inr (wd hw 24 rfl)) (by decide) (t := .long) (t' := (.object "com/example/pufferfish/pufferfish/pool/PoolTally$TimeSum")) (by decide) (by decide)))
  have F_63 := Fld.other W_56 F_48 (Or.inr (slot_ne (a0 := a0) (Or.inl (wd hw 62 rfl)) (Or.inr (wd hw 24 rfl)) (by decide) (t := .long) (t' := (.object "com/example/pufferfish/pufferfish/pool/PoolTally$TimeSum")) (by decide) (by decide)))
  have F_64 := Fld.other W_56 F_49 (Or.inr (slot_ne (a0 := a0) (Or.inl (wd hw 80 rfl)) (Or.inr (wd hw 24 rfl)) (by decide) (t := .long) (t' := (.object "com/example/pufferfish/pufferfish/pool/PoolTally$TimeSum")) (by decide) (by decide)))
  have F_65 := Fld.other W_56 F_50 (Or.inr (slot_ne (a0 := a0) (Or.inl (wd hw 87 rfl)) (Or.inr (wd hw 24 rfl)) (by decide) (t := .long) (t' := (.object "com/example/pufferfish/pufferfish/pool/PoolTally$TimeSum")) (by decide) (by decide)))
  have E_66 := Exa.wr W_56 E_51
  have E_67 := Exa.wr W_56 E_52
  have E_68 := Exa.wr W_56 E_38
  refine go_return C rfl d1_26 (by decide) (by decide) ?_
  exact ⟨rfl, ⟨E_66, F_60, F_61, F_62, F_63, F_64, F_65⟩⟩
def o_max (x y : Int32) : Int32 := if x.toInt < y.toInt then y else x
set_option maxRecDepth 65536 in
set_option maxHeartbeats 40000000 in
theorem sat_max (l : Launch) (Z : State) (a0 : Array Value) (hw : ∀ d ∈ tables_1, d.before a0 Z = true) (u v : Int32) (h0 : Heap) (n0 : Nat)  :
    Sat l Z (⟨"java/lang/Math", "max", "(II)I"⟩ : MethodName) jdk_29_method_65_code 2 (some .int) ({ frames := 0, cells := 0, slots := 0, locals := 0 } : Room) [.int u, .int v] h0 n0 (RV fun r h => r = .int (o_max u v) ∧ h = h0) := by
  refine sat_of (own := "java/lang/Math") (nm := "max") rfl rfl (by decide +kernel) #[.val (.int u), .val (.int v)] (fun m => by first | rfl | (simp [entryFrame, mkF, argsToLocals, Value.category]; done)) ?_
  intro p e s m below meth c C
  refine go_iloadN C d7_0 (pc' := 1) rfl rfl ?_
  refine go_iloadN C d7_1 (pc' := 2) rfl rfl ?_
  refine go_icmp C u.toInt v.toInt rfl rfl d7_2 (by decide) (pc' := 9) (by decide) (pcN := 5) rfl (fun (c_1 : u.toInt < v.toInt) => ?_) (fun (c_1 : ¬ u.toInt < v.toInt) => ?_)
  · skip
    refine go_iloadN C d7_9 (pc' := 10) rfl rfl ?_
    refine go_ireturnI C rfl d7_10 (by decide) (by decide) ?_
    exact ⟨_, rfl, congrArg Value.int (by unfold o_max; first | rw [if_pos (by omega)] | rw [if_neg (by omega)]), rfl⟩
  · skip
    refine go_iloadN C d7_5 (pc' := 6) rfl rfl ?_
    refine go_goto C d7_6 (by decide) (pc' := 10) (by decide) ?_
    refine go_ireturnI C rfl d7_10 (by decide) (by decide) ?_
    exact ⟨_, rfl, congrArg Value.int (by unfold o_max; first | rw [if_pos (by omega)] | rw [if_neg (by omega)]), rfl⟩
set_option maxRecDepth 65536 in
set_option maxHeartbeats 40000000 in
theorem sat_largestPoolSize (l : Launch) (Z : State) (a0 : Array Value) (hw : ∀ d ∈ tables_1, d.before a0 Z = true) (a : Addr) (u : Int32) (h0 : Heap) (n0 : Nat) (F1 : Fld Z h0 a "com/example/pufferfish/pufferfish/pool/PoolTally" "largestPoolSize" "I" (.int u)) :
    Sat l Z (⟨"com/example/pufferfish/pufferfish/pool/PoolTally", "largestPoolSize", "()I"⟩ : MethodName) prog_17_method_9_code 1 (some .int) ({ frames := 0, cells := 0, slots := 0, locals := 0 } : Room) [.ref a] h0 n0 (RV fun r h => r = .int u ∧ h = h0) := by
  refine sat_of (own := "com/example/pufferfish/pufferfish/pool/PoolTally") (nm := "largestPoolSize") rfl rfl (plainFor_of_name pn_1) #[.val (.ref a)] (fun m => by first | rfl | (simp [entryFrame, mkF, argsToLocals, Value.category]; done)) ?_
  intro p e s m below meth c C
  refine go_aloadN C d12_0 (pc' := 1) rfl rfl rfl ?_
  refine go_getfield C (wd hw 37 rfl) F1 d12_1 (pc' := 4) rfl ?_
  refine go_ireturnI C rfl d12_4 (by decide) (by decide) ?_
  exact ⟨_, rfl, rfl, rfl⟩
set_option maxRecDepth 65536 in
set_option maxHeartbeats 40000000 in
theorem sat_submittedCount (l : Launch) (Z : State) (a0 : Array Value) (hw : ∀ d ∈ tables_1, d.before a0 Z = true) (a : Addr) (u : Int64) (h0 : Heap) (n0 : Nat) (F1 : Fld Z h0 a "com/example/pufferfish/pufferfish/pool/PoolTally" "submittedCount" "J" (.long u)) :
    Sat l Z (⟨"com/example/pufferfish/pufferfish/pool/PoolTally", "submittedCount", "()J"⟩ : MethodName) prog_17_method_10_code 1 (some .long) ({ frames := 0, cells := 0, slots := 0, locals := 0 } : Room) [.ref a] h0 n0 (RV fun r h => r = .long u ∧ h = h0) := by
  refine sat_of (own := "com/example/pufferfish/pufferfish/pool/PoolTally") (nm := "submittedCount") rfl rfl (plainFor_of_name pn_1) #[.val (.ref a)] (fun m => by first | rfl | (simp [entryFrame, mkF, argsToLocals, Value.category]; done)) ?_
  intro p e s m below meth c C
  refine go_aloadN C d11_0 (pc' := 1) rfl rfl rfl ?_
  refine go_getfield C (wd hw 30 rfl) F1 d11_1 (pc' := 4) rfl ?_
  refine go_lreturn C rfl d11_4 (by decide) (by decide) ?_
  exact ⟨_, rfl, rfl, rfl⟩
set_option maxRecDepth 65536 in
set_option maxHeartbeats 40000000 in
theorem sat_completedCount (l : Launch) (Z : State) (a0 : Array Value) (hw : ∀ d ∈ tables_1, d.before a0 Z = true) (a : Addr) (u : Int64) (h0 : Heap) (n0 : Nat) (F1 : Fld Z h0 a "com/example/pufferfish/pufferfish/pool/PoolTally" "completedCount" "J" (.long u)) :
    Sat l Z (⟨"com/example/pufferfish/pufferfish/pool/PoolTally", "completedCount", "()J"⟩ : MethodName) prog_17_method_11_code 1 (some .long) ({ frames := 0, cells := 0, slots := 0, locals := 0 } : Room) [.ref a] h0 n0 (RV fun r h => r = .long u ∧ h = h0) := by
  refine sat_of (own := "com/example/pufferfish/pufferfish/pool/PoolTally") (nm := "completedCount") rfl rfl (plainFor_of_name pn_1) #[.val (.ref a)] (fun m => by first | rfl | (simp [entryFrame, mkF, argsToLocals, Value.category]; done)) ?_
  intro p e s m below meth c C
  refine go_aloadN C d13_0 (pc' := 1) rfl rfl rfl ?_
  refine go_getfield C (wd hw 79 rfl) F1 d13_1 (pc' := 4) rfl ?_
  refine go_lreturn C rfl d13_4 (by decide) (by decide) ?_
  exact ⟨_, rfl, rfl, rfl⟩
set_option maxRecDepth 65536 in
set_option maxHeartbeats 40000000 in
theorem sat_rejectedCount (l : Launch) (Z : State) (a0 : Array Value) (hw : ∀ d ∈ tables_1, d.before a0 Z = true) (a : Addr) (u : Int64) (h0 : Heap) (n0 : Nat) (F1 : Fld Z h0 a "com/example/pufferfish/pufferfish/pool/PoolTally" "rejectedCount" "J" (.long u)) :
    Sat l Z (⟨"com/example/pufferfish/pufferfish/pool/PoolTally", "rejectedCount", "()J"⟩ : MethodName) prog_17_method_13_code 1 (some .long) ({ frames := 0, cells := 0, slots := 0, locals := 0 } : Room) [.ref a] h0 n0 (RV fun r h => r = .long u ∧ h = h0) := by
  refine sat_of (own := "com/example/pufferfish/pufferfish/pool/PoolTally") (nm := "rejectedCount") rfl rfl (plainFor_of_name pn_1) #[.val (.ref a)] (fun m => by first | rfl | (simp [entryFrame, mkF, argsToLocals, Value.category]; done)) ?_
  intro p e s m below meth c C
  refine go_aloadN C d9_0 (pc' := 1) rfl rfl rfl ?_
  refine go_getfield C (wd hw 48 rfl) F1 d9_1 (pc' := 4) rfl ?_
  refine go_lreturn C rfl d9_4 (by decide) (by decide) ?_
  exact ⟨_, rfl, rfl, rfl⟩
set_option maxRecDepth 65536 in
set_option maxHeartbeats 40000000 in
theorem sat_rejectedAtShutdownCount (l : Launch) (Z : State) (a0 : Array Value) (hw : ∀ d ∈ tables_1, d.before a0 Z = true) (a : Addr) (u : Int64) (h0 : Heap) (n0 : Nat) (F1 : Fld Z h0 a "com/example/pufferfish/pufferfish/pool/PoolTally" "rejectedAtShutdownCount" "J" (.long u)) :
    Sat l Z (⟨"com/example/pufferfish/pufferfish/pool/PoolTally", "rejectedAtShutdownCount", "()J"⟩ : MethodName) prog_17_method_14_code 1 (some .long) ({ frames := 0, cells := 0, slots := 0, locals := 0 } : Room) [.ref a] h0 n0 (RV fun r h => r = .long u ∧ h = h0) := by
  refine sat_of (own := "com/example/pufferfish/pufferfish/pool/PoolTally") (nm := "rejectedAtShutdownCount") rfl rfl (plainFor_of_name pn_1) #[.val (.ref a)] (fun m => by first | rfl | (simp [entryFrame, mkF, argsToLocals, Value.category]; done)) ?_
  intro p e s m below meth c C
  refine go_aloadN C d10_0 (pc' := 1) rfl rfl rfl ?_
  refine go_getfield C (wd hw 61 rfl) F1 d10_1 (pc' := 4) rfl ?_
  refine go_lreturn C rfl d10_4 (by decide) (by decide) ?_
  exact ⟨_, rfl, rfl, rfl⟩
set_option maxRecDepth 65536 in
set_option maxHeartbeats 40000000 in
theorem sat_failedCount (l : Launch) (Z : State) (a0 : Array Value) (hw : ∀ d ∈ tables_1, d.before a0 Z = true) (a : Addr) (u : Int64) (h0 : Heap) (n0 : Nat) (F1 : Fld Z h0 a "com/example/pufferfish/pufferfish/pool/PoolTally" "failedCount" "J" (.long u)) :
    Sat l Z (⟨"com/example/pufferfish/pufferfish/pool/PoolTally", "failedCount", "()J"⟩ : MethodName) prog_17_method_12_code 1 (some .long) ({ frames := 0, cells := 0, slots := 0, locals := 0 } : Room) [.ref a] h0 n0 (RV fun r h => r = .long u ∧ h = h0) := by
  refine sat_of (own := "com/example/pufferfish/pufferfish/pool/PoolTally") (nm := "failedCount") rfl rfl (plainFor_of_name pn_1) #[.val (.ref a)] (fun m => by first | rfl | (simp [entryFrame, mkF, argsToLocals, Value.category]; done)) ?_
  intro p e s m below meth c C
  refine go_aloadN C d14_0 (pc' := 1) rfl rfl rfl ?_
  refine go_getfield C (wd hw 86 rfl) F1 d14_1 (pc' := 4) rfl ?_
  refine go_lreturn C rfl d14_4 (by decide) (by decide) ?_
  exact ⟨_, rfl, rfl, rfl⟩
set_option maxRecDepth 65536 in
set_option maxHeartbeats 40000000 in
theorem sat_thr (l : Launch) (Z : State) (a0 : Array Value) (hw : ∀ d ∈ tables_1, d.before a0 Z = true) (a : Addr) (v0 : Int64) (v1 : Int32) (v2 : Int64) (v3 : Int64) (v4 : Int64) (v5 : Int64) (y0 : Int32) (h0 : Heap) (n0 : Nat) (hO : Exa Z h0 a "com/example/pufferfish/pufferfish/pool/PoolTally" ∧ Fld Z h0 a "com/example/pufferfish/pufferfish/pool/PoolTally" "submittedCount" "J" (.long v0) ∧ Fld Z h0 a "com/example/pufferfish/pufferfish/pool/PoolTally" "largestPoolSize" "I" (.int v1) ∧ Fld Z h0 a "com/example/pufferfish/pufferfish/pool/PoolTally" "rejectedCount" "J" (.long v2) ∧ Fld Z h0 a "com/example/pufferfish/pufferfish/pool/PoolTally" "rejectedAtShutdownCount" "J" (.long v3) ∧ Fld Z h0 a "com/example/pufferfish/pufferfish/pool/PoolTally" "completedCount" "J" (.long v4) ∧ Fld Z h0 a "com/example/pufferfish/pufferfish/pool/PoolTally" "failedCount" "J" (.long v5)) (ga : n0 ≤ a) :
    Sat l Z (⟨"com/example/pufferfish/pufferfish/pool/PoolTally", "threadStarted", "(I)V"⟩ : MethodName) prog_17_method_2_code 2 none ({ frames := 1, cells := 0, slots := 0, locals := 14 } : Room) [.ref a, .int y0] h0 n0 (RN fun h => Exa Z h a "com/example/pufferfish/pufferfish/pool/PoolTally" ∧ Fld Z h a "com/example/pufferfish/pufferfish/pool/PoolTally" "submittedCount" "J" (.long v0) ∧ Fld Z h a "com/example/pufferfish/pufferfish/pool/PoolTally" "largestPoolSize" "I" (.int (o_max v1 y0)) ∧ Fld Z h a "com/example/pufferfish/pufferfish/pool/PoolTally" "rejectedCount" "J" (.long v2) ∧ Fld Z h a "com/example/pufferfish/pufferfish/pool/PoolTally" "rejectedAtShutdownCount" "J" (.long v3) ∧ Fld Z h a "com/example/pufferfish/pufferfish/pool/PoolTally" "completedCount" "J" (.long v4) ∧ Fld Z h a "com/example/pufferfish/pufferfish/pool/PoolTally" "failedCount" "J" (.long v5)) := by
  refine sat_of (own := "com/example/pufferfish/pufferfish/pool/PoolTally") (nm := "threadStarted") rfl rfl (plainFor_of_name pn_1) #[.val (.ref a), .val (.int y0)] (fun m => by first | rfl | (simp [entryFrame, mkF, argsToLocals, Value.category]; done)) ?_
  intro p e s m below meth c C
  obtain ⟨E_1, F_2, F_3, F_4, F_5, F_6, F_7⟩ := hO
  refine go_aloadN C d6_0 (pc' := 1) rfl rfl rfl ?_
  refine go_aloadN C d6_1 (pc' := 2) rfl rfl rfl ?_
  refine go_getfield C (wd hw 37 rfl) F_3 d6_2 (pc' := 5) rfl ?_
  refine go_iloadN C d6_5 (pc' := 6) rfl rfl ?_
  refine go_staticP C (as := [.int v1, .int y0]) (rest := [.ref a]) (W := 1) (.int (o_max v1 y0)) (sat_max l Z a0 hw v1 y0 _ _) (wd hw 39 rfl) (wd hw 40 rfl) (wd hw 41 rfl) (wd hw 42 rfl) (by decide) pd_4 rfl rfl rfl (by decide) (by decide) rfl rfl (by decide) (by decide) d6_6 (pc' := 9) rfl rfl ?_
  refine go_putfield C (wd hw 37 rfl) F_3 E_1 (Or.inl (wd hw 38 rfl)) (wd hw 1 rfl) (ty := .int) (by decide) rfl rfl ga d6_9 (pc' := 12) rfl ?_
  intro h_8 W_9
  have F_10 := Fld.other W_9 F_2 (Or.inr (slot_ne (a0 := a0) (Or.inl (wd hw 31 rfl)) (Or.inl (wd hw 38 rfl)) (by decide) (t := .long) (t' := .int) (by decide) (by decide)))
  have F_11 := Fld.same W_9 F_3
  have F_12 := Fld.other W_9 F_4 (Or.inr (slot_ne (a0 := a0) (Or.inl (wd hw 49 rfl)) (Or.inl (wd hw 38 rfl)) (by decide) (t := .long) (t' := .int) (by decide) (by decide)))
  have F_13 := Fld.other W_9 F_5 (Or.inr (slot_ne (a0 := a0) (Or.inl (wd hw 62 rfl)) (Or.inl (wd hw 38 rfl)) (by decide) (t := .long) (t' := .int) (by decide) (by decide)))
  have F_14 := Fld.other W_9 F_6 (Or.inr (slot_ne (a0 := a0) (Or.inl (wd hw 80 rfl)) (Or.inl (wd hw 38 rfl)) (by decide) (t := .long) (t' := .int) (by decide) (by decide)))
  have F_15 := Fld.other W_9 F_7 (Or.inr (slot_ne (a0 := a0) (Or.inl (wd hw 87 rfl)) (Or.inl (wd hw 38 rfl)) (by decide) (t := .long) (t' := .int) (by decide) (by decide)))
  have E_16 := Exa.wr W_9 E_1
  refine go_return C rfl d6_12 (by decide) (by decide) ?_
  exact ⟨rfl, ⟨E_16, F_10, F_11, F_12, F_13, F_14, F_15⟩⟩
set_option maxRecDepth 65536 in
set_option maxHeartbeats 40000000 in
theorem sat_acc (l : Launch) (Z : State) (a0 : Array Value) (hw : ∀ d ∈ tables_1, d.before a0 Z = true) (a : Addr) (v0 : Int64) (v1 : Int32) (v2 : Int64) (v3 : Int64) (v4 : Int64) (v5 : Int64) (y0 : Int64) (h0 : Heap) (n0 : Nat) (hO : Exa Z h0 a "com/example/pufferfish/pufferfish/pool/PoolTally" ∧ Fld Z h0 a "com/example/pufferfish/pufferfish/pool/PoolTally" "submittedCount" "J" (.long v0) ∧ Fld Z h0 a "com/example/pufferfish/pufferfish/pool/PoolTally" "largestPoolSize" "I" (.int v1) ∧ Fld Z h0 a "com/example/pufferfish/pufferfish/pool/PoolTally" "rejectedCount" "J" (.long v2) ∧ Fld Z h0 a "com/example/pufferfish/pufferfish/pool/PoolTally" "rejectedAtShutdownCount" "J" (.long v3) ∧ Fld Z h0 a "com/example/pufferfish/pufferfish/pool/PoolTally" "completedCount" "J" (.long v4) ∧ Fld Z h0 a "com/example/pufferfish/pufferfish/pool/PoolTally" "failedCount" "J" (.long v5)) (ga : n0 ≤ a) :
    Sat l Z (⟨"com/example/pufferfish/pufferfish/pool/PoolTally", "tasksAccepted", "(J)V"⟩ : MethodName) prog_17_method_4_code 3 none ({ frames := 0, cells := 0, slots := 0, locals := 0 } : Room) [.ref a, .long y0] h0 n0 (RN fun h => Exa Z h a "com/example/pufferfish/pufferfish/pool/PoolTally" ∧ Fld Z h a "com/example/pufferfish/pufferfish/pool/PoolTally" "submittedCount" "J" (.long (v0 + y0)) ∧ Fld Z h a "com/example/pufferfish/pufferfish/pool/PoolTally" "largestPoolSize" "I" (.int v1) ∧ Fld Z h a "com/example/pufferfish/pufferfish/pool/PoolTally" "rejectedCount" "J" (.long v2) ∧ Fld Z h a "com/example/pufferfish/pufferfish/pool/PoolTally" "rejectedAtShutdownCount" "J" (.long v3) ∧ Fld Z h a "com/example/pufferfish/pufferfish/pool/PoolTally" "completedCount" "J" (.long v4) ∧ Fld Z h a "com/example/pufferfish/pufferfish/pool/PoolTally" "failedCount" "J" (.long v5)) := by
  refine sat_of (own := "com/example/pufferfish/pufferfish/pool/PoolTally") (nm := "tasksAccepted") rfl rfl (plainFor_of_name pn_1) #[.val (.ref a), .val (.long y0), .second] (fun m => by first | rfl | (simp [entryFrame, mkF, argsToLocals, Value.category]; done)) ?_
  intro p e s m below meth c C
  obtain ⟨E_1, F_2, F_3, F_4, F_5, F_6, F_7⟩ := hO
  refine go_aloadN C d5_0 (pc' := 1) rfl rfl rfl ?_
  refine go_dup C d5_1 (pc' := 2) rfl rfl ?_
  refine go_getfield C (wd hw 30 rfl) F_2 d5_2 (pc' := 5) rfl ?_
  refine go_lloadN C d5_5 (pc' := 6) rfl rfl ?_
  refine go_ladd C d5_6 (pc' := 7) rfl ?_
  refine go_putfield C (wd hw 30 rfl) F_2 E_1 (Or.inl (wd hw 31 rfl)) (wd hw 1 rfl) (ty := .long) (by decide) rfl rfl ga d5_7 (pc' := 10) rfl ?_
  intro h_8 W_9
  have F_10 := Fld.same W_9 F_2
  have F_11 := Fld.other W_9 F_3 (Or.inr (slot_ne (a0 := a0) (Or.inl (wd hw 38 rfl)) (Or.inl (wd hw 31 rfl)) (by decide) (t := .int) (t' := .long) (by decide) (by decide)))
  have F_12 := Fld.other W_9 F_4 (Or.inr (slot_ne (a0 := a0) (Or.inl (wd hw 49 rfl)) (Or.inl (wd hw 31 rfl)) (by decide) (t := .long) (t' := .long) (by decide) (by decide)))
  have F_13 := Fld.other W_9 F_5 (Or.inr (slot_ne (a0 := a0) (Or.inl (wd hw 62 rfl)) (Or.inl (wd hw 31 rfl)) (by decide) (t := .long) (t' := .long) (by decide) (by decide)))
  have F_14 := Fld.other W_9 F_6 (Or.inr (slot_ne (a0 := a0) (Or.inl (wd hw 80 rfl)) (Or.inl (wd hw 31 rfl)) (by decide) (t := .long) (t' := .long) (by decide) (by decide)))
  have F_15 := Fld.other W_9 F_7 (Or.inr (slot_ne (a0 := a0) (Or.inl (wd hw 87 rfl)) (Or.inl (wd hw 31 rfl)) (by decide) (t := .long) (t' := .long) (by decide) (by decide)))
  have E_16 := Exa.wr W_9 E_1
  refine go_return C rfl d5_10 (by decide) (by decide) ?_
  exact ⟨rfl, ⟨E_16, F_10, F_11, F_12, F_13, F_14, F_15⟩⟩
set_option maxRecDepth 65536 in
set_option maxHeartbeats 40000000 in
theorem sat_ref0 (l : Launch) (Z : State) (a0 : Array Value) (hw : ∀ d ∈ tables_1, d.before a0 Z = true) (a : Addr) (v0 : Int64) (v1 : Int32) (v2 : Int64) (v3 : Int64) (v4 : Int64) (v5 : Int64)  (h0 : Heap) (n0 : Nat) (hO : Exa Z h0 a "com/example/pufferfish/pufferfish/pool/PoolTally" ∧ Fld Z h0 a "com/example/pufferfish/pufferfish/pool/PoolTally" "submittedCount" "J" (.long v0) ∧ Fld Z h0 a "com/example/pufferfish/pufferfish/pool/PoolTally" "largestPoolSize" "I" (.int v1) ∧ Fld Z h0 a "com/example/pufferfish/pufferfish/pool/PoolTally" "rejectedCount" "J" (.long v2) ∧ Fld Z h0 a "com/example/pufferfish/pufferfish/pool/PoolTally" "rejectedAtShutdownCount" "J" (.long v3) ∧ Fld Z h0 a "com/example/pufferfish/pufferfish/pool/PoolTally" "completedCount" "J" (.long v4) ∧ Fld Z h0 a "com/example/pufferfish/pufferfish/pool/PoolTally" "failedCount" "J" (.long v5)) (ga : n0 ≤ a) :
    Sat l Z (⟨"com/example/pufferfish/pufferfish/pool/PoolTally", "taskRefused", "(Z)V"⟩ : MethodName) prog_17_method_7_code 2 none ({ frames := 0, cells := 0, slots := 0, locals := 0 } : Room) [.ref a, .int (0 : Int32)] h0 n0 (RN fun h => Exa Z h a "com/example/pufferfish/pufferfish/pool/PoolTally" ∧ Fld Z h a "com/example/pufferfish/pufferfish/pool/PoolTally" "submittedCount" "J" (.long v0) ∧ Fld Z h a "com/example/pufferfish/pufferfish/pool/PoolTally" "largestPoolSize" "I" (.int v1) ∧ Fld Z h a "com/example/pufferfish/pufferfish/pool/PoolTally" "rejectedCount" "J" (.long (v2 + (1 : Int64))) ∧ Fld Z h a "com/example/pufferfish/pufferfish/pool/PoolTally" "rejectedAtShutdownCount" "J" (.long v3) ∧ Fld Z h a "com/example/pufferfish/pufferfish/pool/PoolTally" "completedCount" "J" (.long v4) ∧ Fld Z h a "com/example/pufferfish/pufferfish/pool/PoolTally" "failedCount" "J" (.long v5)) := by
  refine sat_of (own := "com/example/pufferfish/pufferfish/pool/PoolTally") (nm := "taskRefused") rfl rfl (plainFor_of_name pn_1) #[.val (.ref a), .val (.int (0 : Int32))] (fun m => by first | rfl | (simp [entryFrame, mkF, argsToLocals, Value.category]; done)) ?_
  intro p e s m below meth c C
  obtain ⟨E_1, F_2, F_3, F_4, F_5, F_6, F_7⟩ := hO
  refine go_aloadN C d8_0 (pc' := 1) rfl rfl rfl ?_
  refine go_dup C d8_1 (pc' := 2) rfl rfl ?_
  refine go_getfield C (wd hw 48 rfl) F_4 d8_2 (pc' := 5) rfl ?_
  refine go_lconst C (1 : Int64) d8_5 (pc' := 6) rfl (by decide) ?_
  refine go_ladd C d8_6 (pc' := 7) rfl ?_
  refine go_putfield C (wd hw 48 rfl) F_4 E_1 (Or.inl (wd hw 49 rfl)) (wd hw 1 rfl) (ty := .long) (by decide) rfl rfl ga d8_7 (pc' := 10) rfl ?_
  intro h_8 W_9
  have F_10 := Fld.other W_9 F_2 (Or.inr (slot_ne (a0 := a0) (Or.inl (wd hw 31 rfl)) (Or.inl (wd hw 49 rfl)) (by decide) (t := .long) (t' := .long) (by decide) (by decide)))
  have F_11 := Fld.other W_9 F_3 (Or.inr (slot_ne (a0 := a0) (Or.inl (wd hw 38 rfl)) (Or.inl (wd hw 49 rfl)) (by decide) (t := .int) (t' := .long) (by decide) (by decide)))
  have F_12 := Fld.same W_9 F_4
  have F_13 := Fld.other W_9 F_5 (Or.inr (slot_ne (a0 := a0) (Or.inl (wd hw 62 rfl)) (Or.inl (wd hw 49 rfl)) (by decide) (t := .long) (t' := .long) (by decide) (by decide)))
  have F_14 := Fld.other W_9 F_6 (Or.inr (slot_ne (a0 := a0) (Or.inl (wd hw 80 rfl)) (Or.inl (wd hw 49 rfl)) (by decide) (t := .long) (t' := .long) (by decide) (by decide)))
  have F_15 := Fld.other W_9 F_7 (Or.inr (slot_ne (a0 := a0) (Or.inl (wd hw 87 rfl)) (Or.inl (wd hw 49 rfl)) (by decide) (t := .long) (t' := .long) (by decide) (by decide)))
  have E_16 := Exa.wr W_9 E_1
  refine go_iloadN C d8_10 (pc' := 11) rfl rfl ?_
  refine go_if0 C (0 : Int) (by decide) d8_11 (by decide) (pc' := 24) (by decide) (pcN := 14) rfl (fun (c_17 : (0 : Int) = 0) => ?_) (fun (c_17 : ¬ (0 : Int) = 0) => by omega)
  refine go_return C rfl d8_24 (by decide) (by decide) ?_
  exact ⟨rfl, ⟨E_16, F_10, F_11, F_12, F_13, F_14, F_15⟩⟩
set_option maxRecDepth 65536 in
set_option maxHeartbeats 40000000 in
theorem sat_ref1 (l : Launch) (Z : State) (a0 : Array Value) (hw : ∀ d ∈ tables_1, d.before a0 Z = true) (a : Addr) (v0 : Int64) (v1 : Int32) (v2 : Int64) (v3 : Int64) (v4 : Int64) (v5 : Int64)  (h0 : Heap) (n0 : Nat) (hO : Exa Z h0 a "com/example/pufferfish/pufferfish/pool/PoolTally" ∧ Fld Z h0 a "com/example/pufferfish/pufferfish/pool/PoolTally" "submittedCount" "J" (.long v0) ∧ Fld Z h0 a "com/example/pufferfish/pufferfish/pool/PoolTally" "largestPoolSize" "I" (.int v1) ∧ Fld Z h0 a "com/example/pufferfish/pufferfish/pool/PoolTally" "rejectedCount" "J" (.long v2) ∧ Fld Z h0 a "com/example/pufferfish/pufferfish/pool/PoolTally" "rejectedAtShutdownCount" "J" (.long v3) ∧ Fld Z h0 a "com/example/pufferfish/pufferfish/pool/PoolTally" "completedCount" "J" (.long v4) ∧ Fld Z h0 a "com/example/pufferfish/pufferfish/pool/PoolTally" "failedCount" "J" (.long v5)) (ga : n0 ≤ a) :
    Sat l Z (⟨"com/example/pufferfish/pufferfish/pool/PoolTally", "taskRefused", "(Z)V"⟩ : MethodName) prog_17_method_7_code 2 none ({ frames := 0, cells := 0, slots := 0, locals := 0 } : Room) [.ref a, .int (1 : Int32)] h0 n0 (RN fun h => Exa Z h a "com/example/pufferfish/pufferfish/pool/PoolTally" ∧ Fld Z h a "com/example/pufferfish/pufferfish/pool/PoolTally" "submittedCount" "J" (.long v0) ∧ Fld Z h a "com/example/pufferfish/pufferfish/pool/PoolTally" "largestPoolSize" "I" (.int v1) ∧ Fld Z h a "com/example/pufferfish/pufferfish/pool/PoolTally" "rejectedCount" "J" (.long (v2 + (1 : Int64))) ∧ Fld Z h a "com/example/pufferfish/pufferfish/pool/PoolTally" "rejectedAtShutdownCount" "J" (.long (v3 + (1 : Int64))) ∧ Fld Z h a "com/example/pufferfish/pufferfish/pool/PoolTally" "completedCount" "J" (.long v4) ∧ Fld Z h a "com/example/pufferfish/pufferfish/pool/PoolTally" "failedCount" "J" (.long v5)) := by
  refine sat_of (own := "com/example/pufferfish/pufferfish/pool/PoolTally") (nm := "taskRefused") rfl rfl (plainFor_of_name pn_1) #[.val (.ref a), .val (.int (1 : Int32))] (fun m => by first | rfl | (simp [entryFrame, mkF, argsToLocals, Value.category]; done)) ?_
  intro p e s m below meth c C
  obtain ⟨E_1, F_2, F_3, F_4, F_5, F_6, F_7⟩ := hO
  refine go_aloadN C d8_0 (pc' := 1) rfl rfl rfl ?_
  refine go_dup C d8_1 (pc' := 2) rfl rfl ?_
  refine go_getfield C (wd hw 48 rfl) F_4 d8_2 (pc' := 5) rfl ?_
  refine go_lconst C (1 : Int64) d8_5 (pc' := 6) rfl (by decide) ?_
  refine go_ladd C d8_6 (pc' := 7) rfl ?_
  refine go_putfield C (wd hw 48 rfl) F_4 E_1 (Or.inl (wd hw 49 rfl)) (wd hw 1 rfl) (ty := .long) (by decide) rfl rfl ga d8_7 (pc' := 10) rfl ?_
  intro h_8 W_9
  have F_10 := Fld.other W_9 F_2 (Or.inr (slot_ne (a0 := a0) (Or.inl (wd hw 31 rfl)) (Or.inl (wd hw 49 rfl)) (by decide) (t := .long) (t' := .long) (by decide) (by decide)))
  have F_11 := Fld.other W_9 F_3 (Or.inr (slot_ne (a0 := a0) (Or.inl (wd hw 38 rfl)) (Or.inl (wd hw 49 rfl)) (by decide) (t := .int) (t' := .long) (by decide) (by decide)))
  have F_12 := Fld.same W_9 F_4
  have F_13 := Fld.other W_9 F_5 (Or.inr (slot_ne (a0 := a0) (Or.inl (wd hw 62 rfl)) (Or.inl (wd hw 49 rfl)) (by decide) (t := .long) (t' := .long) (by decide) (by decide)))
  have F_14 := Fld.other W_9 F_6 (Or.inr (slot_ne (a0 := a0) (Or.inl (wd hw 80 rfl)) (Or.inl (wd hw 49 rfl)) (by decide) (t := .long) (t' := .long) (by decide) (by decide)))
  have F_15 := Fld.other W_9 F_7 (Or.inr (slot_ne (a0 := a0) (Or.inl (wd hw 87 rfl)) (Or.inl (wd hw 49 rfl)) (by decide) (t := .long) (t' := .long) (by decide) (by decide)))
  have E_16 := Exa.wr W_9 E_1
  refine go_iloadN C d8_10 (pc' := 11) rfl rfl ?_
  refine go_if0 C (1 : Int) (by decide) d8_11 (by decide) (pc' := 24) (by decide) (pcN := 14) rfl (fun (c_17 : (1 : Int) = 0) => by omega) (fun (c_17 : ¬ (1 : Int) = 0) => ?_)
  refine go_aloadN C d8_14 (pc' := 15) rfl rfl rfl ?_
  refine go_dup C d8_15 (pc' := 16) rfl rfl ?_
  refine go_getfield C (wd hw 61 rfl) F_13 d8_16 (pc' := 19) rfl ?_
  refine go_lconst C (1 : Int64) d8_19 (pc' := 20) rfl (by decide) ?_
  refine go_ladd C d8_20 (pc' := 21) rfl ?_
  refine go_putfield C (wd hw 61 rfl) F_13 E_16 (Or.inl (wd hw 62 rfl)) (wd hw 1 rfl) (ty := .long) (by decide) rfl rfl ga d8_21 (pc' := 24) rfl ?_
  intro h_18 W_19
  have F_20 := Fld.other W_19 F_10 (Or.inr (slot_ne (a0 := a0) (Or.inl (wd hw 31 rfl)) (Or.inl (wd hw 62 rfl)) (by decide) (t := .long) (t' := .long) (by decide) (by decide)))
  have F_21 := Fld.other W_19 F_11 (Or.inr (slot_ne (a0 := a0) (Or.inl (wd hw 38 rfl)) (Or.inl (wd hw 62 rfl)) (by decide) (t := .int) (t' := .long) (by decide) (by decide)))
  have F_22 := Fld.other W_19 F_12 (Or.inr (slot_ne (a0 := a0) (Or.inl (wd hw 49 rfl)) (Or.inl (wd hw 62 rfl)) (by decide) (t := .long) (t' := .long) (by decide) (by decide)))
  have F_23 := Fld.same W_19 F_13
  have F_24 := Fld.other W_19 F_14 (Or.inr (slot_ne (a0 := a0) (Or.inl (wd hw 80 rfl)) (Or.inl (wd hw 62 rfl)) (by decide) (t := .long) (t' := .long) (by decide) (by decide)))
  have F_25 := Fld.other W_19 F_15 (Or.inr (slot_ne (a0 := a0) (Or.inl (wd hw 87 rfl)) (Or.inl (wd hw 62 rfl)) (by decide) (t := .long) (t' := .long) (by decide) (by decide)))
  have E_26 := Exa.wr W_19 E_16
  refine go_return C rfl d8_24 (by decide) (by decide) ?_
  exact ⟨rfl, ⟨E_26, F_20, F_21, F_22, F_23, F_24, F_25⟩⟩
set_option maxRecDepth 65536 in
set_option maxHeartbeats 40000000 in
theorem law_sat (l : Launch) (Z : State) (a0 : Array Value) (hw : ∀ d ∈ tables_1, d.before a0 Z = true) (x0 : Int32) (x1 : Int64) (x2 : Int32)  :
    Sat l Z x code maxLocals ret room_1 [.int x0, .long x1, .int x2] Z.heap Z.heap.size (RV fun r _ => r = .int 1) := by
  refine sat_of (own := "com/example/pufferfish/pufferfish/pool/PoolTallyTaskRefusedPinLaw") (nm := "law") rfl rfl (plainFor_of_name pn_0) #[.val (.int x0), .val (.long x1), .second, .val (.int x2), .unset, .unset, .unset, .unset, .unset, .unset] (fun m => by first | rfl | (simp [entryFrame, mkF, argsToLocals, Value.category]; done)) ?_
  intro p e s m below meth c C
  refine go_iloadN C at_0 (pc' := 1) rfl rfl ?_
  refine go_iconst C (1 : Int32) at_1 (pc' := 2) rfl (by decide) ?_
  refine go_iand C at_2 (pc' := 3) rfl ?_
  refine go_if0 C ((x0 &&& (1 : Int32)).toInt) rfl at_3 (by decide) (pc' := 10) (by decide) (pcN := 6) rfl (fun (c_1 : ((x0 &&& (1 : Int32)).toInt) = 0) => ?_) (fun (c_1 : ¬ ((x0 &&& (1 : Int32)).toInt) = 0) => ?_)
  · skip
    refine go_iconst C (0 : Int32) at_10 (pc' := 11) rfl (by decide) ?_
    refine go_istore C (Ls' := #[.val (.int x0), .val (.long x1), .second, .val (.int x2), .val (.int (0 : Int32)), .unset, .unset, .unset, .unset, .unset]) at_11 (pc' := 13) rfl rfl ?_
    refine go_iloadN C at_13 (pc' := 14) rfl rfl ?_
    refine go_iconst C (2 : Int32) at_14 (pc' := 15) rfl (by decide) ?_
    refine go_iand C at_15 (pc' := 16) rfl ?_
    refine go_if0 C ((x0 &&& (2 : Int32)).toInt) rfl at_16 (by decide) (pc' := 23) (by decide) (pcN := 19) rfl (fun (c_2 : ((x0 &&& (2 : Int32)).toInt) = 0) => ?_) (fun (c_2 : ¬ ((x0 &&& (2 : Int32)).toInt) = 0) => ?_)
    · skip
      refine go_iconst C (0 : Int32) at_23 (pc' := 24) rfl (by decide) ?_
      refine go_istore C (Ls' := #[.val (.int x0), .val (.long x1), .second, .val (.int x2), .val (.int (0 : Int32)), .val (.int (0 : Int32)), .unset, .unset, .unset, .unset]) at_24 (pc' := 26) rfl rfl ?_
      refine go_iloadN C at_26 (pc' := 27) rfl rfl ?_
      refine go_iconst C (4 : Int32) at_27 (pc' := 28) rfl (by decide) ?_
      refine go_iand C at_28 (pc' := 29) rfl ?_
      refine go_if0 C ((x0 &&& (4 : Int32)).toInt) rfl at_29 (by decide) (pc' := 36) (by decide) (pcN := 32) rfl (fun (c_3 : ((x0 &&& (4 : Int32)).toInt) = 0) => ?_) (fun (c_3 : ¬ ((x0 &&& (4 : Int32)).toInt) = 0) => ?_)
      · skip
        refine go_iconst C (0 : Int32) at_36 (pc' := 37) rfl (by decide) ?_
        refine go_istore C (Ls' := #[.val (.int x0), .val (.long x1), .second, .val (.int x2), .val (.int (0 : Int32)), .val (.int (0 : Int32)), .val (.int (0 : Int32)), .unset, .unset, .unset]) at_37 (pc' := 39) rfl rfl ?_
        refine go_new C (wd hw 0 rfl) (wd hw 1 rfl) (wd hw 2 rfl) at_39 (pc' := 42) rfl (ce' := 1) (sl' := 41) rfl rfl (by decide) (by decide) ?_
        intro h_4 a_5 g_6 E_7 E_8 D_9
        have g_10 : Z.heap.size ≤ a_5 := own_ge (Nat.le_refl _) g_6
        have z_11 : Z.heap.size ≤ h_4.size := Nat.le_trans (Nat.le_refl _) E_7.1
        have F_12 : Fld Z h_4 a_5 "com/example/pufferfish/pufferfish/pool/PoolTally" "queueWait" "Lcom/example/pufferfish/pufferfish/pool/PoolTally$TimeSum;" (.null) := D_9 (Or.inr (wd hw 22 rfl)) (ty := (.object "com/example/pufferfish/pufferfish/pool/PoolTally$TimeSum")) (by decide)
        have F_13 : Fld Z h_4 a_5 "com/example/pufferfish/pufferfish/pool/PoolTally" "runTime" "Lcom/example/pufferfish/pufferfish/pool/PoolTally$TimeSum;" (.null) := D_9 (Or.inr (wd hw 24 rfl)) (ty := (.object "com/example/pufferfish/pufferfish/pool/PoolTally$TimeSum")) (by decide)
        have F_14 : Fld Z h_4 a_5 "com/example/pufferfish/pufferfish/pool/PoolTally" "submittedCount" "J" (.long (0 : Int64)) := D_9 (Or.inl (wd hw 31 rfl)) (ty := .long) (by decide)
        have F_15 : Fld Z h_4 a_5 "com/example/pufferfish/pufferfish/pool/PoolTally" "largestPoolSize" "I" (.int (0 : Int32)) := D_9 (Or.inl (wd hw 38 rfl)) (ty := .int) (by decide)
        have F_16 : Fld Z h_4 a_5 "com/example/pufferfish/pufferfish/pool/PoolTally" "rejectedCount" "J" (.long (0 : Int64)) := D_9 (Or.inl (wd hw 49 rfl)) (ty := .long) (by decide)
        have F_17 : Fld Z h_4 a_5 "com/example/pufferfish/pufferfish/pool/PoolTally" "rejectedAtShutdownCount" "J" (.long (0 : Int64)) := D_9 (Or.inl (wd hw 62 rfl)) (ty := .long) (by decide)
        have F_18 : Fld Z h_4 a_5 "com/example/pufferfish/pufferfish/pool/PoolTally" "completedCount" "J" (.long (0 : Int64)) := D_9 (Or.inl (wd hw 80 rfl)) (ty := .long) (by decide)
        have F_19 : Fld Z h_4 a_5 "com/example/pufferfish/pufferfish/pool/PoolTally" "failedCount" "J" (.long (0 : Int64)) := D_9 (Or.inl (wd hw 87 rfl)) (ty := .long) (by decide)
        refine go_dup C at_42 (pc' := 43) rfl rfl ?_
        refine go_specialN C (as := []) (rest := [.ref a_5]) (W := 1) (sat_pt l Z a0 hw a_5 _ _ E_8 F_12 F_13 F_14 F_15 F_16 F_17 F_18 F_19 g_10 z_11) rfl (wd hw 3 rfl) (wd hw 4 rfl) (wd hw 2 rfl) (wd hw 5 rfl) (by decide) pd_1 rfl rfl rfl (by decide) (by decide) (ce' := 3) (sl' := 113) rfl rfl (by decide) (by decide) at_43 (pc' := 46) rfl rfl ?_
        intro h_20 q_21
        obtain ⟨E_22, F_23, F_24, F_25, F_26, F_27, F_28⟩ := q_21
        refine go_astore C (Ls' := #[.val (.int x0), .val (.long x1), .second, .val (.int x2), .val (.int (0 : Int32)), .val (.int (0 : Int32)), .val (.int (0 : Int32)), .val (.ref a_5), .unset, .unset]) at_46 (pc' := 48) rfl rfl rfl ?_
        refine go_aload C at_48 (pc' := 50) rfl rfl rfl ?_
        refine go_lloadN C at_50 (pc' := 51) rfl rfl ?_
        refine go_virtualN C (as := [.long x1]) (rest := []) (W := 0) (sat_acc l Z a0 hw a_5 (0 : Int64) (0 : Int32) (0 : Int64) (0 : Int64) (0 : Int64) (0 : Int64) x1 _ _ ⟨E_22, F_23, F_24, F_25, F_26, F_27, F_28⟩ g_10) E_22 (wd hw 25 rfl) (wd hw 26 rfl) (wd hw 28 rfl) (wd hw 27 rfl) (wd hw 2 rfl) (wd hw 29 rfl) (by decide) pd_2 rfl rfl rfl (by decide) (by decide) (ce' := 3) (sl' := 113) rfl rfl (by decide) (by decide) at_51 (pc' := 54) rfl rfl ?_
        intro h_29 q_30
        rw [Int64.zero_add] at q_30
        obtain ⟨E_31, F_32, F_33, F_34, F_35, F_36, F_37⟩ := q_30
        refine go_aload C at_54 (pc' := 56) rfl rfl rfl ?_
        refine go_iloadN C at_56 (pc' := 57) rfl rfl ?_
        refine go_virtualN C (as := [.int x2]) (rest := []) (W := 0) (sat_thr l Z a0 hw a_5 x1 (0 : Int32) (0 : Int64) (0 : Int64) (0 : Int64) (0 : Int64) x2 _ _ ⟨E_31, F_32, F_33, F_34, F_35, F_36, F_37⟩ g_10) E_31 (wd hw 32 rfl) (wd hw 33 rfl) (wd hw 35 rfl) (wd hw 34 rfl) (wd hw 2 rfl) (wd hw 36 rfl) (by decide) pd_3 rfl rfl rfl (by decide) (by decide) (ce' := 3) (sl' := 113) rfl rfl (by decide) (by decide) at_57 (pc' := 60) rfl rfl ?_
        intro h_38 q_39
        obtain ⟨E_40, F_41, F_42, F_43, F_44, F_45, F_46⟩ := q_39
        refine go_aload C at_60 (pc' := 62) rfl rfl rfl ?_
        refine go_iload C at_62 (pc' := 64) rfl rfl ?_
        refine go_virtualN C (as := [.int (0 : Int32)]) (rest := []) (W := 0) (sat_ref0 l Z a0 hw a_5 x1 (o_max (0 : Int32) x2) (0 : Int64) (0 : Int64) (0 : Int64) (0 : Int64)  _ _ ⟨E_40, F_41, F_42, F_43, F_44, F_45, F_46⟩ g_10) E_40 (wd hw 43 rfl) (wd hw 44 rfl) (wd hw 46 rfl) (wd hw 45 rfl) (wd hw 2 rfl) (wd hw 47 rfl) (by decide) pd_5 rfl rfl rfl (by decide) (by decide) (ce' := 3) (sl' := 113) rfl rfl (by decide) (by decide) at_64 (pc' := 67) rfl rfl ?_
        intro h_47 q_48
        rw [(by decide : (0 : Int64) + (1 : Int64) = (1 : Int64))] at q_48
        obtain ⟨E_49, F_50, F_51, F_52, F_53, F_54, F_55⟩ := q_48
        refine go_aload C at_67 (pc' := 69) rfl rfl rfl ?_
        refine go_iload C at_69 (pc' := 71) rfl rfl ?_
        refine go_virtualN C (as := [.int (0 : Int32)]) (rest := []) (W := 0) (sat_ref0 l Z a0 hw a_5 x1 (o_max (0 : Int32) x2) (1 : Int64) (0 : Int64) (0 : Int64) (0 : Int64)  _ _ ⟨E_49, F_50, F_51, F_52, F_53, F_54, F_55⟩ g_10) E_49 (wd hw 43 rfl) (wd hw 44 rfl) (wd hw 46 rfl) (wd hw 45 rfl) (wd hw 2 rfl) (wd hw 47 rfl) (by decide) pd_5 rfl rfl rfl (by decide) (by decide) (ce' := 3) (sl' := 113) rfl rfl (by decide) (by decide) at_71 (pc' := 74) rfl rfl ?_
        intro h_56 q_57
        rw [(by decide : (1 : Int64) + (1 : Int64) = (2 : Int64))] at q_57
        obtain ⟨E_58, F_59, F_60, F_61, F_62, F_63, F_64⟩ := q_57
        refine go_aload C at_74 (pc' := 76) rfl rfl rfl ?_
        refine go_iload C at_76 (pc' := 78) rfl rfl ?_
        refine go_virtualN C (as := [.int (0 : Int32)]) (rest := []) (W := 0) (sat_ref0 l Z a0 hw a_5 x1 (o_max (0 : Int32) x2) (2 : Int64) (0 : Int64) (0 : Int64) (0 : Int64)  _ _ ⟨E_58, F_59, F_60, F_61, F_62, F_63, F_64⟩ g_10) E_58 (wd hw 43 rfl) (wd hw 44 rfl) (wd hw 46 rfl) (wd hw 45 rfl) (wd hw 2 rfl) (wd hw 47 rfl) (by decide) pd_5 rfl rfl rfl (by decide) (by decide) (ce' := 3) (sl' := 113) rfl rfl (by decide) (by decide) at_78 (pc' := 81) rfl rfl ?_
        intro h_65 q_66
        rw [(by decide : (2 : Int64) + (1 : Int64) = (3 : Int64))] at q_66
        obtain ⟨E_67, F_68, F_69, F_70, F_71, F_72, F_73⟩ := q_66
        refine go_iload C at_81 (pc' := 83) rfl rfl ?_
        refine go_if0 C (0 : Int) (by decide) at_83 (by decide) (pc' := 90) (by decide) (pcN := 86) rfl (fun (c_74 : (0 : Int) = 0) => ?_) (fun (c_74 : ¬ (0 : Int) = 0) => by omega)
        refine go_lconst C (0 : Int64) at_90 (pc' := 91) rfl (by decide) ?_
        refine go_iload C at_91 (pc' := 93) rfl rfl ?_
        refine go_if0 C (0 : Int) (by decide) at_93 (by decide) (pc' := 100) (by decide) (pcN := 96) rfl (fun (c_75 : (0 : Int) = 0) => ?_) (fun (c_75 : ¬ (0 : Int) = 0) => by omega)
        refine go_lconst C (0 : Int64) at_100 (pc' := 101) rfl (by decide) ?_
        refine go_ladd C at_101 (pc' := 102) rfl ?_
        rw [(by decide : (0 : Int64) + (0 : Int64) = (0 : Int64))]
        refine go_iload C at_102 (pc' := 104) rfl rfl ?_
        refine go_if0 C (0 : Int) (by decide) at_104 (by decide) (pc' := 111) (by decide) (pcN := 107) rfl (fun (c_76 : (0 : Int) = 0) => ?_) (fun (c_76 : ¬ (0 : Int) = 0) => by omega)
        refine go_lconst C (0 : Int64) at_111 (pc' := 112) rfl (by decide) ?_
        refine go_ladd C at_112 (pc' := 113) rfl ?_
        rw [(by decide : (0 : Int64) + (0 : Int64) = (0 : Int64))]
        refine go_lstore C (Ls' := #[.val (.int x0), .val (.long x1), .second, .val (.int x2), .val (.int (0 : Int32)), .val (.int (0 : Int32)), .val (.int (0 : Int32)), .val (.ref a_5), .val (.long (0 : Int64)), .second]) at_113 (pc' := 115) rfl rfl ?_
        refine go_aload C at_115 (pc' := 117) rfl rfl rfl ?_
        refine go_virtualP C (as := []) (rest := []) (W := 0) (.long (3 : Int64)) (sat_rejectedCount l Z a0 hw a_5 _ _ _ F_70) E_67 (wd hw 50 rfl) (wd hw 51 rfl) (wd hw 53 rfl) (wd hw 52 rfl) (wd hw 2 rfl) (wd hw 54 rfl) (by decide) pd_6 rfl rfl rfl (by decide) (by decide) rfl rfl (by decide) (by decide) at_117 (pc' := 120) rfl rfl ?_
        refine go_ldc2 C (v := (3 : Int64)) (wd hw 55 rfl) at_120 (pc' := 123) rfl ?_
        refine go_lcmp C (3 : Int) (3 : Int) (by decide) (by decide) at_123 (pc1 := 124) rfl at_124 (by decide) (pc' := 129) (by decide) (pcN := 127) rfl (fun (c_77 : (3 : Int) = (3 : Int)) => ?_) (fun (c_77 : ¬ (3 : Int) = (3 : Int)) => by omega)
        refine go_aload C at_129 (pc' := 131) rfl rfl rfl ?_
        refine go_virtualP C (as := []) (rest := []) (W := 0) (.long (0 : Int64)) (sat_rejectedAtShutdownCount l Z a0 hw a_5 _ _ _ F_71) E_67 (wd hw 56 rfl) (wd hw 57 rfl) (wd hw 59 rfl) (wd hw 58 rfl) (wd hw 2 rfl) (wd hw 60 rfl) (by decide) pd_6 rfl rfl rfl (by decide) (by decide) rfl rfl (by decide) (by decide) at_131 (pc' := 134) rfl rfl ?_
        refine go_lload C at_134 (pc' := 136) rfl rfl ?_
        refine go_lcmp C (0 : Int) (0 : Int) (by decide) (by decide) at_136 (pc1 := 137) rfl at_137 (by decide) (pc' := 142) (by decide) (pcN := 140) rfl (fun (c_78 : (0 : Int) = (0 : Int)) => ?_) (fun (c_78 : ¬ (0 : Int) = (0 : Int)) => by omega)
        refine go_aload C at_142 (pc' := 144) rfl rfl rfl ?_
        refine go_virtualP C (as := []) (rest := []) (W := 0) (.long x1) (sat_submittedCount l Z a0 hw a_5 _ _ _ F_68) E_67 (wd hw 63 rfl) (wd hw 64 rfl) (wd hw 66 rfl) (wd hw 65 rfl) (wd hw 2 rfl) (wd hw 67 rfl) (by decide) pd_6 rfl rfl rfl (by decide) (by decide) rfl rfl (by decide) (by decide) at_144 (pc' := 147) rfl rfl ?_
        refine go_lloadN C at_147 (pc' := 148) rfl rfl ?_
        refine go_lcmp C x1.toInt x1.toInt rfl rfl at_148 (pc1 := 149) rfl at_149 (by decide) (pc' := 154) (by decide) (pcN := 152) rfl (fun (c_79 : x1.toInt = x1.toInt) => ?_) (fun (c_79 : ¬ x1.toInt = x1.toInt) => by omega)
        refine go_aload C at_154 (pc' := 156) rfl rfl rfl ?_
        refine go_virtualP C (as := []) (rest := []) (W := 0) (.int (o_max (0 : Int32) x2)) (sat_largestPoolSize l Z a0 hw a_5 _ _ _ F_69) E_67 (wd hw 68 rfl) (wd hw 69 rfl) (wd hw 71 rfl) (wd hw 70 rfl) (wd hw 2 rfl) (wd hw 72 rfl) (by decide) pd_7 rfl rfl rfl (by decide) (by decide) rfl rfl (by decide) (by decide) at_156 (pc' := 159) rfl rfl ?_
        refine go_iconst C (0 : Int32) at_159 (pc' := 160) rfl (by decide) ?_
        refine go_iloadN C at_160 (pc' := 161) rfl rfl ?_
        refine go_staticP C (as := [.int (0 : Int32), .int x2]) (rest := [.int (o_max (0 : Int32) x2)]) (W := 1) (.int (o_max (0 : Int32) x2)) (sat_max l Z a0 hw (0 : Int32) x2 _ _) (wd hw 73 rfl) (wd hw 40 rfl) (wd hw 41 rfl) (wd hw 42 rfl) (by decide) pd_4 rfl rfl rfl (by decide) (by decide) rfl rfl (by decide) (by decide) at_161 (pc' := 164) rfl rfl ?_
        refine go_icmp C ((o_max (0 : Int32) x2).toInt) ((o_max (0 : Int32) x2).toInt) rfl rfl at_164 (by decide) (pc' := 169) (by decide) (pcN := 167) rfl (fun (c_80 : ((o_max (0 : Int32) x2).toInt) = ((o_max (0 : Int32) x2).toInt)) => ?_) (fun (c_80 : ¬ ((o_max (0 : Int32) x2).toInt) = ((o_max (0 : Int32) x2).toInt)) => by omega)
        refine go_aload C at_169 (pc' := 171) rfl rfl rfl ?_
        refine go_virtualP C (as := []) (rest := []) (W := 0) (.long (0 : Int64)) (sat_completedCount l Z a0 hw a_5 _ _ _ F_72) E_67 (wd hw 74 rfl) (wd hw 75 rfl) (wd hw 77 rfl) (wd hw 76 rfl) (wd hw 2 rfl) (wd hw 78 rfl) (by decide) pd_6 rfl rfl rfl (by decide) (by decide) rfl rfl (by decide) (by decide) at_171 (pc' := 174) rfl rfl ?_
        refine go_lconst C (0 : Int64) at_174 (pc' := 175) rfl (by decide) ?_
        refine go_lcmp C (0 : Int) (0 : Int) (by decide) (by decide) at_175 (pc1 := 176) rfl at_176 (by decide) (pc' := 181) (by decide) (pcN := 179) rfl (fun (c_81 : (0 : Int) = (0 : Int)) => ?_) (fun (c_81 : ¬ (0 : Int) = (0 : Int)) => by omega)
        refine go_aload C at_181 (pc' := 183) rfl rfl rfl ?_
        refine go_virtualP C (as := []) (rest := []) (W := 0) (.long (0 : Int64)) (sat_failedCount l Z a0 hw a_5 _ _ _ F_73) E_67 (wd hw 81 rfl) (wd hw 82 rfl) (wd hw 84 rfl) (wd hw 83 rfl) (wd hw 2 rfl) (wd hw 85 rfl) (by decide) pd_6 rfl rfl rfl (by decide) (by decide) rfl rfl (by decide) (by decide) at_183 (pc' := 186) rfl rfl ?_
        refine go_lconst C (0 : Int64) at_186 (pc' := 187) rfl (by decide) ?_
        refine go_lcmp C (0 : Int) (0 : Int) (by decide) (by decide) at_187 (pc1 := 188) rfl at_188 (by decide) (pc' := 195) (by decide) (pcN := 191) rfl (fun (c_82 : ¬ (0 : Int) = (0 : Int)) => by omega) (fun (c_82 : (0 : Int) = (0 : Int)) => ?_)
        refine go_iconst C (1 : Int32) at_191 (pc' := 192) rfl (by decide) ?_
        refine go_goto C at_192 (by decide) (pc' := 196) (by decide) ?_
        refine go_ireturnN C (z' := (1 : Int32)) rfl (by simp) rfl at_196 (by decide) (by decide) ?_
        exact ⟨_, rfl, rfl⟩
      · skip
        refine go_iconst C (1 : Int32) at_32 (pc' := 33) rfl (by decide) ?_
        refine go_goto C at_33 (by decide) (pc' := 37) (by decide) ?_
        refine go_istore C (Ls' := #[.val (.int x0), .val (.long x1), .second, .val (.int x2), .val (.int (0 : Int32)), .val (.int (0 : Int32)), .val (.int (1 : Int32)), .unset, .unset, .unset]) at_37 (pc' := 39) rfl rfl ?_
        refine go_new C (wd hw 0 rfl) (wd hw 1 rfl) (wd hw 2 rfl) at_39 (pc' := 42) rfl (ce' := 1) (sl' := 41) rfl rfl (by decide) (by decide) ?_
        intro h_83 a_84 g_85 E_86 E_87 D_88
        have g_89 : Z.heap.size ≤ a_84 := own_ge (Nat.le_refl _) g_85
        have z_90 : Z.heap.size ≤ h_83.size := Nat.le_trans (Nat.le_refl _) E_86.1
        have F_91 : Fld Z h_83 a_84 "com/example/pufferfish/pufferfish/pool/PoolTally" "queueWait" "Lcom/example/pufferfish/pufferfish/pool/PoolTally$TimeSum;" (.null) := D_88 (Or.inr (wd hw 22 rfl)) (ty := (.object "com/example/pufferfish/pufferfish/pool/PoolTally$TimeSum")) (by decide)
        have F_92 : Fld Z h_83 a_84 "com/example/pufferfish/pufferfish/pool/PoolTally" "runTime" "Lcom/example/pufferfish/pufferfish/pool/PoolTally$TimeSum;" (.null) := D_88 (Or.inr (wd hw 24 rfl)) (ty := (.object "com/example/pufferfish/pufferfish/pool/PoolTally$TimeSum")) (by decide)
        have F_93 : Fld Z h_83 a_84 "com/example/pufferfish/pufferfish/pool/PoolTally" "submittedCount" "J" (.long (0 : Int64)) := D_88 (Or.inl (wd hw 31 rfl)) (ty := .long) (by decide)
        have F_94 : Fld Z h_83 a_84 "com/example/pufferfish/pufferfish/pool/PoolTally" "largestPoolSize" "I" (.int (0 : Int32)) := D_88 (Or.inl (wd hw 38 rfl)) (ty := .int) (by decide)
        have F_95 : Fld Z h_83 a_84 "com/example/pufferfish/pufferfish/pool/PoolTally" "rejectedCount" "J" (.long (0 : Int64)) := D_88 (Or.inl (wd hw 49 rfl)) (ty := .long) (by decide)
        have F_96 : Fld Z h_83 a_84 "com/example/pufferfish/pufferfish/pool/PoolTally" "rejectedAtShutdownCount" "J" (.long (0 : Int64)) := D_88 (Or.inl (wd hw 62 rfl)) (ty := .long) (by decide)
        have F_97 : Fld Z h_83 a_84 "com/example/pufferfish/pufferfish/pool/PoolTally" "completedCount" "J" (.long (0 : Int64)) := D_88 (Or.inl (wd hw 80 rfl)) (ty := .long) (by decide)
        have F_98 : Fld Z h_83 a_84 "com/example/pufferfish/pufferfish/pool/PoolTally" "failedCount" "J" (.long (0 : Int64)) := D_88 (Or.inl (wd hw 87 rfl)) (ty := .long) (by decide)
        refine go_dup C at_42 (pc' := 43) rfl rfl ?_
        refine go_specialN C (as := []) (rest := [.ref a_84]) (W := 1) (sat_pt l Z a0 hw a_84 _ _ E_87 F_91 F_92 F_93 F_94 F_95 F_96 F_97 F_98 g_89 z_90) rfl (wd hw 3 rfl) (wd hw 4 rfl) (wd hw 2 rfl) (wd hw 5 rfl) (by decide) pd_1 rfl rfl rfl (by decide) (by decide) (ce' := 3) (sl' := 113) rfl rfl (by decide) (by decide) at_43 (pc' := 46) rfl rfl ?_
        intro h_99 q_100
        obtain ⟨E_101, F_102, F_103, F_104, F_105, F_106, F_107⟩ := q_100
        refine go_astore C (Ls' := #[.val (.int x0), .val (.long x1), .second, .val (.int x2), .val (.int (0 : Int32)), .val (.int (0 : Int32)), .val (.int (1 : Int32)), .val (.ref a_84), .unset, .unset]) at_46 (pc' := 48) rfl rfl rfl ?_
        refine go_aload C at_48 (pc' := 50) rfl rfl rfl ?_
        refine go_lloadN C at_50 (pc' := 51) rfl rfl ?_
        refine go_virtualN C (as := [.long x1]) (rest := []) (W := 0) (sat_acc l Z a0 hw a_84 (0 : Int64) (0 : Int32) (0 : Int64) (0 : Int64) (0 : Int64) (0 : Int64) x1 _ _ ⟨E_101, F_102, F_103, F_104, F_105, F_106, F_107⟩ g_89) E_101 (wd hw 25 rfl) (wd hw 26 rfl) (wd hw 28 rfl) (wd hw 27 rfl) (wd hw 2 rfl) (wd hw 29 rfl) (by decide) pd_2 rfl rfl rfl (by decide) (by decide) (ce' := 3) (sl' := 113) rfl rfl (by decide) (by decide) at_51 (pc' := 54) rfl rfl ?_
        intro h_108 q_109
        rw [Int64.zero_add] at q_109
        obtain ⟨E_110, F_111, F_112, F_113, F_114, F_115, F_116⟩ := q_109
        refine go_aload C at_54 (pc' := 56) rfl rfl rfl ?_
        refine go_iloadN C at_56 (pc' := 57) rfl rfl ?_
        refine go_virtualN C (as := [.int x2]) (rest := []) (W := 0) (sat_thr l Z a0 hw a_84 x1 (0 : Int32) (0 : Int64) (0 : Int64) (0 : Int64) (0 : Int64) x2 _ _ ⟨E_110, F_111, F_112, F_113, F_114, F_115, F_116⟩ g_89) E_110 (wd hw 32 rfl) (wd hw 33 rfl) (wd hw 35 rfl) (wd hw 34 rfl) (wd hw 2 rfl) (wd hw 36 rfl) (by decide) pd_3 rfl rfl rfl (by decide) (by decide) (ce' := 3) (sl' := 113) rfl rfl (by decide) (by decide) at_57 (pc' := 60) rfl rfl ?_
        intro h_117 q_118
        obtain ⟨E_119, F_120, F_121, F_122, F_123, F_124, F_125⟩ := q_118
        refine go_aload C at_60 (pc' := 62) rfl rfl rfl ?_
        refine go_iload C at_62 (pc' := 64) rfl rfl ?_
        refine go_virtualN C (as := [.int (0 : Int32)]) (rest := []) (W := 0) (sat_ref0 l Z a0 hw a_84 x1 (o_max (0 : Int32) x2) (0 : Int64) (0 : Int64) (0 : Int64) (0 : Int64)  _ _ ⟨E_119, F_120, F_121, F_122, F_123, F_124, F_125⟩ g_89) E_119 (wd hw 43 rfl) (wd hw 44 rfl) (wd hw 46 rfl) (wd hw 45 rfl) (wd hw 2 rfl) (wd hw 47 rfl) (by decide) pd_5 rfl rfl rfl (by decide) (by decide) (ce' := 3) (sl' := 113) rfl rfl (by decide) (by decide) at_64 (pc' := 67) rfl rfl ?_
        intro h_126 q_127
        rw [(by decide : (0 : Int64) + (1 : Int64) = (1 : Int64))] at q_127
        obtain ⟨E_128, F_129, F_130, F_131, F_132, F_133, F_134⟩ := q_127
        refine go_aload C at_67 (pc' := 69) rfl rfl rfl ?_
        refine go_iload C at_69 (pc' := 71) rfl rfl ?_
        refine go_virtualN C (as := [.int (0 : Int32)]) (rest := []) (W := 0) (sat_ref0 l Z a0 hw a_84 x1 (o_max (0 : Int32) x2) (1 : Int64) (0 : Int64) (0 : Int64) (0 : Int64)  _ _ ⟨E_128, F_129, F_130, F_131, F_132, F_133, F_134⟩ g_89) E_128 (wd hw 43 rfl) (wd hw 44 rfl) (wd hw 46 rfl) (wd hw 45 rfl) (wd hw 2 rfl) (wd hw 47 rfl) (by decide) pd_5 rfl rfl rfl (by decide) (by decide) (ce' := 3) (sl' := 113) rfl rfl (by decide) (by decide) at_71 (pc' := 74) rfl rfl ?_
        intro h_135 q_136
        rw [(by decide : (1 : Int64) + (1 : Int64) = (2 : Int64))] at q_136
        obtain ⟨E_137, F_138, F_139, F_140, F_141, F_142, F_143⟩ := q_136
        refine go_aload C at_74 (pc' := 76) rfl rfl rfl ?_
        refine go_iload C at_76 (pc' := 78) rfl rfl ?_
        refine go_virtualN C (as := [.int (1 : Int32)]) (rest := []) (W := 0) (sat_ref1 l Z a0 hw a_84 x1 (o_max (0 : Int32) x2) (2 : Int64) (0 : Int64) (0 : Int64) (0 : Int64)  _ _ ⟨E_137, F_138, F_139, F_140, F_141, F_142, F_143⟩ g_89) E_137 (wd hw 43 rfl) (wd hw 44 rfl) (wd hw 46 rfl) (wd hw 45 rfl) (wd hw 2 rfl) (wd hw 47 rfl) (by decide) pd_5 rfl rfl rfl (by decide) (by decide) (ce' := 3) (sl' := 113) rfl rfl (by decide) (by decide) at_78 (pc' := 81) rfl rfl ?_
        intro h_144 q_145
        rw [(by decide : (2 : Int64) + (1 : Int64) = (3 : Int64))] at q_145
        rw [(by decide : (0 : Int64) + (1 : Int64) = (1 : Int64))] at q_145
        obtain ⟨E_146, F_147, F_148, F_149, F_150, F_151, F_152⟩ := q_145
        refine go_iload C at_81 (pc' := 83) rfl rfl ?_
        refine go_if0 C (0 : Int) (by decide) at_83 (by decide) (pc' := 90) (by decide) (pcN := 86) rfl (fun (c_153 : (0 : Int) = 0) => ?_) (fun (c_153 : ¬ (0 : Int) = 0) => by omega)
        refine go_lconst C (0 : Int64) at_90 (pc' := 91) rfl (by decide) ?_
        refine go_iload C at_91 (pc' := 93) rfl rfl ?_
        refine go_if0 C (0 : Int) (by decide) at_93 (by decide) (pc' := 100) (by decide) (pcN := 96) rfl (fun (c_154 : (0 : Int) = 0) => ?_) (fun (c_154 : ¬ (0 : Int) = 0) => by omega)
        refine go_lconst C (0 : Int64) at_100 (pc' := 101) rfl (by decide) ?_
        refine go_ladd C at_101 (pc' := 102) rfl ?_
        rw [(by decide : (0 : Int64) + (0 : Int64) = (0 : Int64))]
        refine go_iload C at_102 (pc' := 104) rfl rfl ?_
        refine go_if0 C (1 : Int) (by decide) at_104 (by decide) (pc' := 111) (by decide) (pcN := 107) rfl (fun (c_155 : (1 : Int) = 0) => by omega) (fun (c_155 : ¬ (1 : Int) = 0) => ?_)
        refine go_lconst C (1 : Int64) at_107 (pc' := 108) rfl (by decide) ?_
        refine go_goto C at_108 (by decide) (pc' := 112) (by decide) ?_
        refine go_ladd C at_112 (pc' := 113) rfl ?_
        rw [(by decide : (0 : Int64) + (1 : Int64) = (1 : Int64))]
        refine go_lstore C (Ls' := #[.val (.int x0), .val (.long x1), .second, .val (.int x2), .val (.int (0 : Int32)), .val (.int (0 : Int32)), .val (.int (1 : Int32)), .val (.ref a_84), .val (.long (1 : Int64)), .second]) at_113 (pc' := 115) rfl rfl ?_
        refine go_aload C at_115 (pc' := 117) rfl rfl rfl ?_
        refine go_virtualP C (as := []) (rest := []) (W := 0) (.long (3 : Int64)) (sat_rejectedCount l Z a0 hw a_84 _ _ _ F_149) E_146 (wd hw 50 rfl) (wd hw 51 rfl) (wd hw 53 rfl) (wd hw 52 rfl) (wd hw 2 rfl) (wd hw 54 rfl) (by decide) pd_6 rfl rfl rfl (by decide) (by decide) rfl rfl (by decide) (by decide) at_117 (pc' := 120) rfl rfl ?_
        refine go_ldc2 C (v := (3 : Int64)) (wd hw 55 rfl) at_120 (pc' := 123) rfl ?_
        refine go_lcmp C (3 : Int) (3 : Int) (by decide) (by decide) at_123 (pc1 := 124) rfl at_124 (by decide) (pc' := 129) (by decide) (pcN := 127) rfl (fun (c_156 : (3 : Int) = (3 : Int)) => ?_) (fun (c_156 : ¬ (3 : Int) = (3 : Int)) => by omega)
        refine go_aload C at_129 (pc' := 131) rfl rfl rfl ?_
        refine go_virtualP C (as := []) (rest := []) (W := 0) (.long (1 : Int64)) (sat_rejectedAtShutdownCount l Z a0 hw a_84 _ _ _ F_150) E_146 (wd hw 56 rfl) (wd hw 57 rfl) (wd hw 59 rfl) (wd hw 58 rfl) (wd hw 2 rfl) (wd hw 60 rfl) (by decide) pd_6 rfl rfl rfl (by decide) (by decide) rfl rfl (by decide) (by decide) at_131 (pc' := 134) rfl rfl ?_
        refine go_lload C at_134 (pc' := 136) rfl rfl ?_
        refine go_lcmp C (1 : Int) (1 : Int) (by decide) (by decide) at_136 (pc1 := 137) rfl at_137 (by decide) (pc' := 142) (by decide) (pcN := 140) rfl (fun (c_157 : (1 : Int) = (1 : Int)) => ?_) (fun (c_157 : ¬ (1 : Int) = (1 : Int)) => by omega)
        refine go_aload C at_142 (pc' := 144) rfl rfl rfl ?_
        refine go_virtualP C (as := []) (rest := []) (W := 0) (.long x1) (sat_submittedCount l Z a0 hw a_84 _ _ _ F_147) E_146 (wd hw 63 rfl) (wd hw 64 rfl) (wd hw 66 rfl) (wd hw 65 rfl) (wd hw 2 rfl) (wd hw 67 rfl) (by decide) pd_6 rfl rfl rfl (by decide) (by decide) rfl rfl (by decide) (by decide) at_144 (pc' := 147) rfl rfl ?_
        refine go_lloadN C at_147 (pc' := 148) rfl rfl ?_
        refine go_lcmp C x1.toInt x1.toInt rfl rfl at_148 (pc1 := 149) rfl at_149 (by decide) (pc' := 154) (by decide) (pcN := 152) rfl (fun (c_158 : x1.toInt = x1.toInt) => ?_) (fun (c_158 : ¬ x1.toInt = x1.toInt) => by omega)
        refine go_aload C at_154 (pc' := 156) rfl rfl rfl ?_
        refine go_virtualP C (as := []) (rest := []) (W := 0) (.int (o_max (0 : Int32) x2)) (sat_largestPoolSize l Z a0 hw a_84 _ _ _ F_148) E_146 (wd hw 68 rfl) (wd hw 69 rfl) (wd hw 71 rfl) (wd hw 70 rfl) (wd hw 2 rfl) (wd hw 72 rfl) (by decide) pd_7 rfl rfl rfl (by decide) (by decide) rfl rfl (by decide) (by decide) at_156 (pc' := 159) rfl rfl ?_
        refine go_iconst C (0 : Int32) at_159 (pc' := 160) rfl (by decide) ?_
        refine go_iloadN C at_160 (pc' := 161) rfl rfl ?_
        refine go_staticP C (as := [.int (0 : Int32), .int x2]) (rest := [.int (o_max (0 : Int32) x2)]) (W := 1) (.int (o_max (0 : Int32) x2)) (sat_max l Z a0 hw (0 : Int32) x2 _ _) (wd hw 73 rfl) (wd hw 40 rfl) (wd hw 41 rfl) (wd hw 42 rfl) (by decide) pd_4 rfl rfl rfl (by decide) (by decide) rfl rfl (by decide) (by decide) at_161 (pc' := 164) rfl rfl ?_
        refine go_icmp C ((o_max (0 : Int32) x2).toInt) ((o_max (0 : Int32) x2).toInt) rfl rfl at_164 (by decide) (pc' := 169) (by decide) (pcN := 167) rfl (fun (c_159 : ((o_max (0 : Int32) x2).toInt) = ((o_max (0 : Int32) x2).toInt)) => ?_) (fun (c_159 : ¬ ((o_max (0 : Int32) x2).toInt) = ((o_max (0 : Int32) x2).toInt)) => by omega)
        refine go_aload C at_169 (pc' := 171) rfl rfl rfl ?_
        refine go_virtualP C (as := []) (rest := []) (W := 0) (.long (0 : Int64)) (sat_completedCount l Z a0 hw a_84 _ _ _ F_151) E_146 (wd hw 74 rfl) (wd hw 75 rfl) (wd hw 77 rfl) (wd hw 76 rfl) (wd hw 2 rfl) (wd hw 78 rfl) (by decide) pd_6 rfl rfl rfl (by decide) (by decide) rfl rfl (by decide) (by decide) at_171 (pc' := 174) rfl rfl ?_
        refine go_lconst C (0 : Int64) at_174 (pc' := 175) rfl (by decide) ?_
        refine go_lcmp C (0 : Int) (0 : Int) (by decide) (by decide) at_175 (pc1 := 176) rfl at_176 (by decide) (pc' := 181) (by decide) (pcN := 179) rfl (fun (c_160 : (0 : Int) = (0 : Int)) => ?_) (fun (c_160 : ¬ (0 : Int) = (0 : Int)) => by omega)
        refine go_aload C at_181 (pc' := 183) rfl rfl rfl ?_
        refine go_virtualP C (as := []) (rest := []) (W := 0) (.long (0 : Int64)) (sat_failedCount l Z a0 hw a_84 _ _ _ F_152) E_146 (wd hw 81 rfl) (wd hw 82 rfl) (wd hw 84 rfl) (wd hw 83 rfl) (wd hw 2 rfl) (wd hw 85 rfl) (by decide) pd_6 rfl rfl rfl (by decide) (by decide) rfl rfl (by decide) (by decide) at_183 (pc' := 186) rfl rfl ?_
        refine go_lconst C (0 : Int64) at_186 (pc' := 187) rfl (by decide) ?_
        refine go_lcmp C (0 : Int) (0 : Int) (by decide) (by decide) at_187 (pc1 := 188) rfl at_188 (by decide) (pc' := 195) (by decide) (pcN := 191) rfl (fun (c_161 : ¬ (0 : Int) = (0 : Int)) => by omega) (fun (c_161 : (0 : Int) = (0 : Int)) => ?_)
        refine go_iconst C (1 : Int32) at_191 (pc' := 192) rfl (by decide) ?_
        refine go_goto C at_192 (by decide) (pc' := 196) (by decide) ?_
        refine go_ireturnN C (z' := (1 : Int32)) rfl (by simp) rfl at_196 (by decide) (by decide) ?_
        exact ⟨_, rfl, rfl⟩
    · skip
      refine go_iconst C (1 : Int32) at_19 (pc' := 20) rfl (by decide) ?_
      refine go_goto C at_20 (by decide) (pc' := 24) (by decide) ?_
      refine go_istore C (Ls' := #[.val (.int x0), .val (.long x1), .second, .val (.int x2), .val (.int (0 : Int32)), .val (.int (1 : Int32)), .unset, .unset, .unset, .unset]) at_24 (pc' := 26) rfl rfl ?_
      refine go_iloadN C at_26 (pc' := 27) rfl rfl ?_
      refine go_iconst C (4 : Int32) at_27 (pc' := 28) rfl (by decide) ?_
      refine go_iand C at_28 (pc' := 29) rfl ?_
      refine go_if0 C ((x0 &&& (4 : Int32)).toInt) rfl at_29 (by decide) (pc' := 36) (by decide) (pcN := 32) rfl (fun (c_162 : ((x0 &&& (4 : Int32)).toInt) = 0) => ?_) (fun (c_162 : ¬ ((x0 &&& (4 : Int32)).toInt) = 0) => ?_)
      · skip
        refine go_iconst C (0 : Int32) at_36 (pc' := 37) rfl (by decide) ?_
        refine go_istore C (Ls' := #[.val (.int x0), .val (.long x1), .second, .val (.int x2), .val (.int (0 : Int32)), .val (.int (1 : Int32)), .val (.int (0 : Int32)), .unset, .unset, .unset]) at_37 (pc' := 39) rfl rfl ?_
        refine go_new C (wd hw 0 rfl) (wd hw 1 rfl) (wd hw 2 rfl) at_39 (pc' := 42) rfl (ce' := 1) (sl' := 41) rfl rfl (by decide) (by decide) ?_
        intro h_163 a_164 g_165 E_166 E_167 D_168
        have g_169 : Z.heap.size ≤ a_164 := own_ge (Nat.le_refl _) g_165
        have z_170 : Z.heap.size ≤ h_163.size := Nat.le_trans (Nat.le_refl _) E_166.1
        have F_171 : Fld Z h_163 a_164 "com/example/pufferfish/pufferfish/pool/PoolTally" "queueWait" "Lcom/example/pufferfish/pufferfish/pool/PoolTally$TimeSum;" (.null) := D_168 (Or.inr (wd hw 22 rfl)) (ty := (.object "com/example/pufferfish/pufferfish/pool/PoolTally$TimeSum")) (by decide)
        have F_172 : Fld Z h_163 a_164 "com/example/pufferfish/pufferfish/pool/PoolTally" "runTime" "Lcom/example/pufferfish/pufferfish/pool/PoolTally$TimeSum;" (.null) := D_168 (Or.inr (wd hw 24 rfl)) (ty := (.object "com/example/pufferfish/pufferfish/pool/PoolTally$TimeSum")) (by decide)
        have F_173 : Fld Z h_163 a_164 "com/example/pufferfish/pufferfish/pool/PoolTally" "submittedCount" "J" (.long (0 : Int64)) := D_168 (Or.inl (wd hw 31 rfl)) (ty := .long) (by decide)
        have F_174 : Fld Z h_163 a_164 "com/example/pufferfish/pufferfish/pool/PoolTally" "largestPoolSize" "I" (.int (0 : Int32)) := D_168 (Or.inl (wd hw 38 rfl)) (ty := .int) (by decide)
        have F_175 : Fld Z h_163 a_164 "com/example/pufferfish/pufferfish/pool/PoolTally" "rejectedCount" "J" (.long (0 : Int64)) := D_168 (Or.inl (wd hw 49 rfl)) (ty := .long) (by decide)
        have F_176 : Fld Z h_163 a_164 "com/example/pufferfish/pufferfish/pool/PoolTally" "rejectedAtShutdownCount" "J" (.long (0 : Int64)) := D_168 (Or.inl (wd hw 62 rfl)) (ty := .long) (by decide)
        have F_177 : Fld Z h_163 a_164 "com/example/pufferfish/pufferfish/pool/PoolTally" "completedCount" "J" (.long (0 : Int64)) := D_168 (Or.inl (wd hw 80 rfl)) (ty := .long) (by decide)
        have F_178 : Fld Z h_163 a_164 "com/example/pufferfish/pufferfish/pool/PoolTally" "failedCount" "J" (.long (0 : Int64)) := D_168 (Or.inl (wd hw 87 rfl)) (ty := .long) (by decide)
        refine go_dup C at_42 (pc' := 43) rfl rfl ?_
        refine go_specialN C (as := []) (rest := [.ref a_164]) (W := 1) (sat_pt l Z a0 hw a_164 _ _ E_167 F_171 F_172 F_173 F_174 F_175 F_176 F_177 F_178 g_169 z_170) rfl (wd hw 3 rfl) (wd hw 4 rfl) (wd hw 2 rfl) (wd hw 5 rfl) (by decide) pd_1 rfl rfl rfl (by decide) (by decide) (ce' := 3) (sl' := 113) rfl rfl (by decide) (by decide) at_43 (pc' := 46) rfl rfl ?_
        intro h_179 q_180
        obtain ⟨E_181, F_182, F_183, F_184, F_185, F_186, F_187⟩ := q_180
        refine go_astore C (Ls' := #[.val (.int x0), .val (.long x1), .second, .val (.int x2), .val (.int (0 : Int32)), .val (.int (1 : Int32)), .val (.int (0 : Int32)), .val (.ref a_164), .unset, .unset]) at_46 (pc' := 48) rfl rfl rfl ?_
        refine go_aload C at_48 (pc' := 50) rfl rfl rfl ?_
        refine go_lloadN C at_50 (pc' := 51) rfl rfl ?_
        refine go_virtualN C (as := [.long x1]) (rest := []) (W := 0) (sat_acc l Z a0 hw a_164 (0 : Int64) (0 : Int32) (0 : Int64) (0 : Int64) (0 : Int64) (0 : Int64) x1 _ _ ⟨E_181, F_182, F_183, F_184, F_185, F_186, F_187⟩ g_169) E_181 (wd hw 25 rfl) (wd hw 26 rfl) (wd hw 28 rfl) (wd hw 27 rfl) (wd hw 2 rfl) (wd hw 29 rfl) (by decide) pd_2 rfl rfl rfl (by decide) (by decide) (ce' := 3) (sl' := 113) rfl rfl (by decide) (by decide) at_51 (pc' := 54) rfl rfl ?_
        intro h_188 q_189
        rw [Int64.zero_add] at q_189
        obtain ⟨E_190, F_191, F_192, F_193, F_194, F_195, F_196⟩ := q_189
        refine go_aload C at_54 (pc' := 56) rfl rfl rfl ?_
        refine go_iloadN C at_56 (pc' := 57) rfl rfl ?_
        refine go_virtualN C (as := [.int x2]) (rest := []) (W := 0) (sat_thr l Z a0 hw a_164 x1 (0 : Int32) (0 : Int64) (0 : Int64) (0 : Int64) (0 : Int64) x2 _ _ ⟨E_190, F_191, F_192, F_193, F_194, F_195, F_196⟩ g_169) E_190 (wd hw 32 rfl) (wd hw 33 rfl) (wd hw 35 rfl) (wd hw 34 rfl) (wd hw 2 rfl) (wd hw 36 rfl) (by decide) pd_3 rfl rfl rfl (by decide) (by decide) (ce' := 3) (sl' := 113) rfl rfl (by decide) (by decide) at_57 (pc' := 60) rfl rfl ?_
        intro h_197 q_198
        obtain ⟨E_199, F_200, F_201, F_202, F_203, F_204, F_205⟩ := q_198
        refine go_aload C at_60 (pc' := 62) rfl rfl rfl ?_
        refine go_iload C at_62 (pc' := 64) rfl rfl ?_
        refine go_virtualN C (as := [.int (0 : Int32)]) (rest := []) (W := 0) (sat_ref0 l Z a0 hw a_164 x1 (o_max (0 : Int32) x2) (0 : Int64) (0 : Int64) (0 : Int64) (0 : Int64)  _ _ ⟨E_199, F_200, F_201, F_202, F_203, F_204, F_205⟩ g_169) E_199 (wd hw 43 rfl) (wd hw 44 rfl) (wd hw 46 rfl) (wd hw 45 rfl) (wd hw 2 rfl) (wd hw 47 rfl) (by decide) pd_5 rfl rfl rfl (by decide) (by decide) (ce' := 3) (sl' := 113) rfl rfl (by decide) (by decide) at_64 (pc' := 67) rfl rfl ?_
        intro h_206 q_207
        rw [(by decide : (0 : Int64) + (1 : Int64) = (1 : Int64))] at q_207
        obtain ⟨E_208, F_209, F_210, F_211, F_212, F_213, F_214⟩ := q_207
        refine go_aload C at_67 (pc' := 69) rfl rfl rfl ?_
        refine go_iload C at_69 (pc' := 71) rfl rfl ?_
        refine go_virtualN C (as := [.int (1 : Int32)]) (rest := []) (W := 0) (sat_ref1 l Z a0 hw a_164 x1 (o_max (0 : Int32) x2) (1 : Int64) (0 : Int64) (0 : Int64) (0 : Int64)  _ _ ⟨E_208, F_209, F_210, F_211, F_212, F_213, F_214⟩ g_169) E_208 (wd hw 43 rfl) (wd hw 44 rfl) (wd hw 46 rfl) (wd hw 45 rfl) (wd hw 2 rfl) (wd hw 47 rfl) (by decide) pd_5 rfl rfl rfl (by decide) (by decide) (ce' := 3) (sl' := 113) rfl rfl (by decide) (by decide) at_71 (pc' := 74) rfl rfl ?_
        intro h_215 q_216
        rw [(by decide : (1 : Int64) + (1 : Int64) = (2 : Int64))] at q_216
        rw [(by decide : (0 : Int64) + (1 : Int64) = (1 : Int64))] at q_216
        obtain ⟨E_217, F_218, F_219, F_220, F_221, F_222, F_223⟩ := q_216
        refine go_aload C at_74 (pc' := 76) rfl rfl rfl ?_
        refine go_iload C at_76 (pc' := 78) rfl rfl ?_
        refine go_virtualN C (as := [.int (0 : Int32)]) (rest := []) (W := 0) (sat_ref0 l Z a0 hw a_164 x1 (o_max (0 : Int32) x2) (2 : Int64) (1 : Int64) (0 : Int64) (0 : Int64)  _ _ ⟨E_217, F_218, F_219, F_220, F_221, F_222, F_223⟩ g_169) E_217 (wd hw 43 rfl) (wd hw 44 rfl) (wd hw 46 rfl) (wd hw 45 rfl) (wd hw 2 rfl) (wd hw 47 rfl) (by decide) pd_5 rfl rfl rfl (by decide) (by decide) (ce' := 3) (sl' := 113) rfl rfl (by decide) (by decide) at_78 (pc' := 81) rfl rfl ?_
        intro h_224 q_225
        rw [(by decide : (2 : Int64) + (1 : Int64) = (3 : Int64))] at q_225
        obtain ⟨E_226, F_227, F_228, F_229, F_230, F_231, F_232⟩ := q_225
        refine go_iload C at_81 (pc' := 83) rfl rfl ?_
        refine go_if0 C (0 : Int) (by decide) at_83 (by decide) (pc' := 90) (by decide) (pcN := 86) rfl (fun (c_233 : (0 : Int) = 0) => ?_) (fun (c_233 : ¬ (0 : Int) = 0) => by omega)
        refine go_lconst C (0 : Int64) at_90 (pc' := 91) rfl (by decide) ?_
        refine go_iload C at_91 (pc' := 93) rfl rfl ?_
        refine go_if0 C (1 : Int) (by decide) at_93 (by decide) (pc' := 100) (by decide) (pcN := 96) rfl (fun (c_234 : (1 : Int) = 0) => by omega) (fun (c_234 : ¬ (1 : Int) = 0) => ?_)
        refine go_lconst C (1 : Int64) at_96 (pc' := 97) rfl (by decide) ?_
        refine go_goto C at_97 (by decide) (pc' := 101) (by decide) ?_
        refine go_ladd C at_101 (pc' := 102) rfl ?_
        rw [(by decide : (0 : Int64) + (1 : Int64) = (1 : Int64))]
        refine go_iload C at_102 (pc' := 104) rfl rfl ?_
        refine go_if0 C (0 : Int) (by decide) at_104 (by decide) (pc' := 111) (by decide) (pcN := 107) rfl (fun (c_235 : (0 : Int) = 0) => ?_) (fun (c_235 : ¬ (0 : Int) = 0) => by omega)
        refine go_lconst C (0 : Int64) at_111 (pc' := 112) rfl (by decide) ?_
        refine go_ladd C at_112 (pc' := 113) rfl ?_
        rw [(by decide : (1 : Int64) + (0 : Int64) = (1 : Int64))]
        refine go_lstore C (Ls' := #[.val (.int x0), .val (.long x1), .second, .val (.int x2), .val (.int (0 : Int32)), .val (.int (1 : Int32)), .val (.int (0 : Int32)), .val (.ref a_164), .val (.long (1 : Int64)), .second]) at_113 (pc' := 115) rfl rfl ?_
        refine go_aload C at_115 (pc' := 117) rfl rfl rfl ?_
        refine go_virtualP C (as := []) (rest := []) (W := 0) (.long (3 : Int64)) (sat_rejectedCount l Z a0 hw a_164 _ _ _ F_229) E_226 (wd hw 50 rfl) (wd hw 51 rfl) (wd hw 53 rfl) (wd hw 52 rfl) (wd hw 2 rfl) (wd hw 54 rfl) (by decide) pd_6 rfl rfl rfl (by decide) (by decide) rfl rfl (by decide) (by decide) at_117 (pc' := 120) rfl rfl ?_
        refine go_ldc2 C (v := (3 : Int64)) (wd hw 55 rfl) at_120 (pc' := 123) rfl ?_
        refine go_lcmp C (3 : Int) (3 : Int) (by decide) (by decide) at_123 (pc1 := 124) rfl at_124 (by decide) (pc' := 129) (by decide) (pcN := 127) rfl (fun (c_236 : (3 : Int) = (3 : Int)) => ?_) (fun (c_236 : ¬ (3 : Int) = (3 : Int)) => by omega)
        refine go_aload C at_129 (pc' := 131) rfl rfl rfl ?_
        refine go_virtualP C (as := []) (rest := []) (W := 0) (.long (1 : Int64)) (sat_rejectedAtShutdownCount l Z a0 hw a_164 _ _ _ F_230) E_226 (wd hw 56 rfl) (wd hw 57 rfl) (wd hw 59 rfl) (wd hw 58 rfl) (wd hw 2 rfl) (wd hw 60 rfl) (by decide) pd_6 rfl rfl rfl (by decide) (by decide) rfl rfl (by decide) (by decide) at_131 (pc' := 134) rfl rfl ?_
        refine go_lload C at_134 (pc' := 136) rfl rfl ?_
        refine go_lcmp C (1 : Int) (1 : Int) (by decide) (by decide) at_136 (pc1 := 137) rfl at_137 (by decide) (pc' := 142) (by decide) (pcN := 140) rfl (fun (c_237 : (1 : Int) = (1 : Int)) => ?_) (fun (c_237 : ¬ (1 : Int) = (1 : Int)) => by omega)
        refine go_aload C at_142 (pc' := 144) rfl rfl rfl ?_
        refine go_virtualP C (as := []) (rest := []) (W := 0) (.long x1) (sat_submittedCount l Z a0 hw a_164 _ _ _ F_227) E_226 (wd hw 63 rfl) (wd hw 64 rfl) (wd hw 66 rfl) (wd hw 65 rfl) (wd hw 2 rfl) (wd hw 67 rfl) (by decide) pd_6 rfl rfl rfl (by decide) (by decide) rfl rfl (by decide) (by decide) at_144 (pc' := 147) rfl rfl ?_
        refine go_lloadN C at_147 (pc' := 148) rfl rfl ?_
        refine go_lcmp C x1.toInt x1.toInt rfl rfl at_148 (pc1 := 149) rfl at_149 (by decide) (pc' := 154) (by decide) (pcN := 152) rfl (fun (c_238 : x1.toInt = x1.toInt) => ?_) (fun (c_238 : ¬ x1.toInt = x1.toInt) => by omega)
        refine go_aload C at_154 (pc' := 156) rfl rfl rfl ?_
        refine go_virtualP C (as := []) (rest := []) (W := 0) (.int (o_max (0 : Int32) x2)) (sat_largestPoolSize l Z a0 hw a_164 _ _ _ F_228) E_226 (wd hw 68 rfl) (wd hw 69 rfl) (wd hw 71 rfl) (wd hw 70 rfl) (wd hw 2 rfl) (wd hw 72 rfl) (by decide) pd_7 rfl rfl rfl (by decide) (by decide) rfl rfl (by decide) (by decide) at_156 (pc' := 159) rfl rfl ?_
        refine go_iconst C (0 : Int32) at_159 (pc' := 160) rfl (by decide) ?_
        refine go_iloadN C at_160 (pc' := 161) rfl rfl ?_
        refine go_staticP C (as := [.int (0 : Int32), .int x2]) (rest := [.int (o_max (0 : Int32) x2)]) (W := 1) (.int (o_max (0 : Int32) x2)) (sat_max l Z a0 hw (0 : Int32) x2 _ _) (wd hw 73 rfl) (wd hw 40 rfl) (wd hw 41 rfl) (wd hw 42 rfl) (by decide) pd_4 rfl rfl rfl (by decide) (by decide) rfl rfl (by decide) (by decide) at_161 (pc' := 164) rfl rfl ?_
        refine go_icmp C ((o_max (0 : Int32) x2).toInt) ((o_max (0 : Int32) x2).toInt) rfl rfl at_164 (by decide) (pc' := 169) (by decide) (pcN := 167) rfl (fun (c_239 : ((o_max (0 : Int32) x2).toInt) = ((o_max (0 : Int32) x2).toInt)) => ?_) (fun (c_239 : ¬ ((o_max (0 : Int32) x2).toInt) = ((o_max (0 : Int32) x2).toInt)) => by omega)
        refine go_aload C at_169 (pc' := 171) rfl rfl rfl ?_
        refine go_virtualP C (as := []) (rest := []) (W := 0) (.long (0 : Int64)) (sat_completedCount l Z a0 hw a_164 _ _ _ F_231) E_226 (wd hw 74 rfl) (wd hw 75 rfl) (wd hw 77 rfl) (wd hw 76 rfl) (wd hw 2 rfl) (wd hw 78 rfl) (by decide) pd_6 rfl rfl rfl (by decide) (by decide) rfl rfl (by decide) (by decide) at_171 (pc' := 174) rfl rfl ?_
        refine go_lconst C (0 : Int64) at_174 (pc' := 175) rfl (by decide) ?_
        refine go_lcmp C (0 : Int) (0 : Int) (by decide) (by decide) at_175 (pc1 := 176) rfl at_176 (by decide) (pc' := 181) (by decide) (pcN := 179) rfl (fun (c_240 : (0 : Int) = (0 : Int)) => ?_) (fun (c_240 : ¬ (0 : Int) = (0 : Int)) => by omega)
        refine go_aload C at_181 (pc' := 183) rfl rfl rfl ?_
        refine go_virtualP C (as := []) (rest := []) (W := 0) (.long (0 : Int64)) (sat_failedCount l Z a0 hw a_164 _ _ _ F_232) E_226 (wd hw 81 rfl) (wd hw 82 rfl) (wd hw 84 rfl) (wd hw 83 rfl) (wd hw 2 rfl) (wd hw 85 rfl) (by decide) pd_6 rfl rfl rfl (by decide) (by decide) rfl rfl (by decide) (by decide) at_183 (pc' := 186) rfl rfl ?_
        refine go_lconst C (0 : Int64) at_186 (pc' := 187) rfl (by decide) ?_
        refine go_lcmp C (0 : Int) (0 : Int) (by decide) (by decide) at_187 (pc1 := 188) rfl at_188 (by decide) (pc' := 195) (by decide) (pcN := 191) rfl (fun (c_241 : ¬ (0 : Int) = (0 : Int)) => by omega) (fun (c_241 : (0 : Int) = (0 : Int)) => ?_)
        refine go_iconst C (1 : Int32) at_191 (pc' := 192) rfl (by decide) ?_
        refine go_goto C at_192 (by decide) (pc' := 196) (by decide) ?_
        refine go_ireturnN C (z' := (1 : Int32)) rfl (by simp) rfl at_196 (by decide) (by decide) ?_
        exact ⟨_, rfl, rfl⟩
      · skip
        refine go_iconst C (1 : Int32) at_32 (pc' := 33) rfl (by decide) ?_
        refine go_goto C at_33 (by decide) (pc' := 37) (by decide) ?_
        refine go_istore C (Ls' := #[.val (.int x0), .val (.long x1), .second, .val (.int x2), .val (.int (0 : Int32)), .val (.int (1 : Int32)), .val (.int (1 : Int32)), .unset, .unset, .unset]) at_37 (pc' := 39) rfl rfl ?_
        refine go_new C (wd hw 0 rfl) (wd hw 1 rfl) (wd hw 2 rfl) at_39 (pc' := 42) rfl (ce' := 1) (sl' := 41) rfl rfl (by decide) (by decide) ?_
        intro h_242 a_243 g_244 E_245 E_246 D_247
        have g_248 : Z.heap.size ≤ a_243 := own_ge (Nat.le_refl _) g_244
        have z_249 : Z.heap.size ≤ h_242.size := Nat.le_trans (Nat.le_refl _) E_245.1
        have F_250 : Fld Z h_242 a_243 "com/example/pufferfish/pufferfish/pool/PoolTally" "queueWait" "Lcom/example/pufferfish/pufferfish/pool/PoolTally$TimeSum;" (.null) := D_247 (Or.inr (wd hw 22 rfl)) (ty := (.object "com/example/pufferfish/pufferfish/pool/PoolTally$TimeSum")) (by decide)
        have F_251 : Fld Z h_242 a_243 "com/example/pufferfish/pufferfish/pool/PoolTally" "runTime" "Lcom/example/pufferfish/pufferfish/pool/PoolTally$TimeSum;" (.null) := D_247 (Or.inr (wd hw 24 rfl)) (ty := (.object "com/example/pufferfish/pufferfish/pool/PoolTally$TimeSum")) (by decide)
        have F_252 : Fld Z h_242 a_243 "com/example/pufferfish/pufferfish/pool/PoolTally" "submittedCount" "J" (.long (0 : Int64)) := D_247 (Or.inl (wd hw 31 rfl)) (ty := .long) (by decide)
        have F_253 : Fld Z h_242 a_243 "com/example/pufferfish/pufferfish/pool/PoolTally" "largestPoolSize" "I" (.int (0 : Int32)) := D_247 (Or.inl (wd hw 38 rfl)) (ty := .int) (by decide)
        have F_254 : Fld Z h_242 a_243 "com/example/pufferfish/pufferfish/pool/PoolTally" "rejectedCount" "J" (.long (0 : Int64)) := D_247 (Or.inl (wd hw 49 rfl)) (ty := .long) (by decide)
        have F_255 : Fld Z h_242 a_243 "com/example/pufferfish/pufferfish/pool/PoolTally" "rejectedAtShutdownCount" "J" (.long (0 : Int64)) := D_247 (Or.inl (wd hw 62 rfl)) (ty := .long) (by decide)
        have F_256 : Fld Z h_242 a_243 "com/example/pufferfish/pufferfish/pool/PoolTally" "completedCount" "J" (.long (0 : Int64)) := D_247 (Or.inl (wd hw 80 rfl)) (ty := .long) (by decide)
        have F_257 : Fld Z h_242 a_243 "com/example/pufferfish/pufferfish/pool/PoolTally" "failedCount" "J" (.long (0 : Int64)) := D_247 (Or.inl (wd hw 87 rfl)) (ty := .long) (by decide)
        refine go_dup C at_42 (pc' := 43) rfl rfl ?_
        refine go_specialN C (as := []) (rest := [.ref a_243]) (W := 1) (sat_pt l Z a0 hw a_243 _ _ E_246 F_250 F_251 F_252 F_253 F_254 F_255 F_256 F_257 g_248 z_249) rfl (wd hw 3 rfl) (wd hw 4 rfl) (wd hw 2 rfl) (wd hw 5 rfl) (by decide) pd_1 rfl rfl rfl (by decide) (by decide) (ce' := 3) (sl' := 113) rfl rfl (by decide) (by decide) at_43 (pc' := 46) rfl rfl ?_
        intro h_258 q_259
        obtain ⟨E_260, F_261, F_262, F_263, F_264, F_265, F_266⟩ := q_259
        refine go_astore C (Ls' := #[.val (.int x0), .val (.long x1), .second, .val (.int x2), .val (.int (0 : Int32)), .val (.int (1 : Int32)), .val (.int (1 : Int32)), .val (.ref a_243), .unset, .unset]) at_46 (pc' := 48) rfl rfl rfl ?_
        refine go_aload C at_48 (pc' := 50) rfl rfl rfl ?_
        refine go_lloadN C at_50 (pc' := 51) rfl rfl ?_
        refine go_virtualN C (as := [.long x1]) (rest := []) (W := 0) (sat_acc l Z a0 hw a_243 (0 : Int64) (0 : Int32) (0 : Int64) (0 : Int64) (0 : Int64) (0 : Int64) x1 _ _ ⟨E_260, F_261, F_262, F_263, F_264, F_265, F_266⟩ g_248) E_260 (wd hw 25 rfl) (wd hw 26 rfl) (wd hw 28 rfl) (wd hw 27 rfl) (wd hw 2 rfl) (wd hw 29 rfl) (by decide) pd_2 rfl rfl rfl (by decide) (by decide) (ce' := 3) (sl' := 113) rfl rfl (by decide) (by decide) at_51 (pc' := 54) rfl rfl ?_
        intro h_267 q_268
        rw [Int64.zero_add] at q_268
        obtain ⟨E_269, F_270, F_271, F_272, F_273, F_274, F_275⟩ := q_268
        refine go_aload C at_54 (pc' := 56) rfl rfl rfl ?_
        refine go_iloadN C at_56 (pc' := 57) rfl rfl ?_
        refine go_virtualN C (as := [.int x2]) (rest := []) (W := 0) (sat_thr l Z a0 hw a_243 x1 (0 : Int32) (0 : Int64) (0 : Int64) (0 : Int64) (0 : Int64) x2 _ _ ⟨E_269, F_270, F_271, F_272, F_273, F_274, F_275⟩ g_248) E_269 (wd hw 32 rfl) (wd hw 33 rfl) (wd hw 35 rfl) (wd hw 34 rfl) (wd hw 2 rfl) (wd hw 36 rfl) (by decide) pd_3 rfl rfl rfl (by decide) (by decide) (ce' := 3) (sl' := 113) rfl rfl (by decide) (by decide) at_57 (pc' := 60) rfl rfl ?_
        intro h_276 q_277
        obtain ⟨E_278, F_279, F_280, F_281, F_282, F_283, F_284⟩ := q_277
        refine go_aload C at_60 (pc' := 62) rfl rfl rfl ?_
        refine go_iload C at_62 (pc' := 64) rfl rfl ?_
        refine go_virtualN C (as := [.int (0 : Int32)]) (rest := []) (W := 0) (sat_ref0 l Z a0 hw a_243 x1 (o_max (0 : Int32) x2) (0 : Int64) (0 : Int64) (0 : Int64) (0 : Int64)  _ _ ⟨E_278, F_279, F_280, F_281, F_282, F_283, F_284⟩ g_248) E_278 (wd hw 43 rfl) (wd hw 44 rfl) (wd hw 46 rfl) (wd hw 45 rfl) (wd hw 2 rfl) (wd hw 47 rfl) (by decide) pd_5 rfl rfl rfl (by decide) (by decide) (ce' := 3) (sl' := 113) rfl rfl (by decide) (by decide) at_64 (pc' := 67) rfl rfl ?_
        intro h_285 q_286
        rw [(by decide : (0 : Int64) + (1 : Int64) = (1 : Int64))] at q_286
        obtain ⟨E_287, F_288, F_289, F_290, F_291, F_292, F_293⟩ := q_286
        refine go_aload C at_67 (pc' := 69) rfl rfl rfl ?_
        refine go_iload C at_69 (pc' := 71) rfl rfl ?_
        refine go_virtualN C (as := [.int (1 : Int32)]) (rest := []) (W := 0) (sat_ref1 l Z a0 hw a_243 x1 (o_max (0 : Int32) x2) (1 : Int64) (0 : Int64) (0 : Int64) (0 : Int64)  _ _ ⟨E_287, F_288, F_289, F_290, F_291, F_292, F_293⟩ g_248) E_287 (wd hw 43 rfl) (wd hw 44 rfl) (wd hw 46 rfl) (wd hw 45 rfl) (wd hw 2 rfl) (wd hw 47 rfl) (by decide) pd_5 rfl rfl rfl (by decide) (by decide) (ce' := 3) (sl' := 113) rfl rfl (by decide) (by decide) at_71 (pc' := 74) rfl rfl ?_
        intro h_294 q_295
        rw [(by decide : (1 : Int64) + (1 : Int64) = (2 : Int64))] at q_295
        rw [(by decide : (0 : Int64) + (1 : Int64) = (1 : Int64))] at q_295
        obtain ⟨E_296, F_297, F_298, F_299, F_300, F_301, F_302⟩ := q_295
        refine go_aload C at_74 (pc' := 76) rfl rfl rfl ?_
        refine go_iload C at_76 (pc' := 78) rfl rfl ?_
        refine go_virtualN C (as := [.int (1 : Int32)]) (rest := []) (W := 0) (sat_ref1 l Z a0 hw a_243 x1 (o_max (0 : Int32) x2) (2 : Int64) (1 : Int64) (0 : Int64) (0 : Int64)  _ _ ⟨E_296, F_297, F_298, F_299, F_300, F_301, F_302⟩ g_248) E_296 (wd hw 43 rfl) (wd hw 44 rfl) (wd hw 46 rfl) (wd hw 45 rfl) (wd hw 2 rfl) (wd hw 47 rfl) (by decide) pd_5 rfl rfl rfl (by decide) (by decide) (ce' := 3) (sl' := 113) rfl rfl (by decide) (by decide) at_78 (pc' := 81) rfl rfl ?_
        intro h_303 q_304
        rw [(by decide : (2 : Int64) + (1 : Int64) = (3 : Int64))] at q_304
        rw [(by decide : (1 : Int64) + (1 : Int64) = (2 : Int64))] at q_304
        obtain ⟨E_305, F_306, F_307, F_308, F_309, F_310, F_311⟩ := q_304
        refine go_iload C at_81 (pc' := 83) rfl rfl ?_
        refine go_if0 C (0 : Int) (by decide) at_83 (by decide) (pc' := 90) (by decide) (pcN := 86) rfl (fun (c_312 : (0 : Int) = 0) => ?_) (fun (c_312 : ¬ (0 : Int) = 0) => by omega)
        refine go_lconst C (0 : Int64) at_90 (pc' := 91) rfl (by decide) ?_
        refine go_iload C at_91 (pc' := 93) rfl rfl ?_
        refine go_if0 C (1 : Int) (by decide) at_93 (by decide) (pc' := 100) (by decide) (pcN := 96) rfl (fun (c_313 : (1 : Int) = 0) => by omega) (fun (c_313 : ¬ (1 : Int) = 0) => ?_)
        refine go_lconst C (1 : Int64) at_96 (pc' := 97) rfl (by decide) ?_
        refine go_goto C at_97 (by decide) (pc' := 101) (by decide) ?_
        refine go_ladd C at_101 (pc' := 102) rfl ?_
        rw [(by decide : (0 : Int64) + (1 : Int64) = (1 : Int64))]
        refine go_iload C at_102 (pc' := 104) rfl rfl ?_
        refine go_if0 C (1 : Int) (by decide) at_104 (by decide) (pc' := 111) (by decide) (pcN := 107) rfl (fun (c_314 : (1 : Int) = 0) => by omega) (fun (c_314 : ¬ (1 : Int) = 0) => ?_)
        refine go_lconst C (1 : Int64) at_107 (pc' := 108) rfl (by decide) ?_
        refine go_goto C at_108 (by decide) (pc' := 112) (by decide) ?_
        refine go_ladd C at_112 (pc' := 113) rfl ?_
        rw [(by decide : (1 : Int64) + (1 : Int64) = (2 : Int64))]
        refine go_lstore C (Ls' := #[.val (.int x0), .val (.long x1), .second, .val (.int x2), .val (.int (0 : Int32)), .val (.int (1 : Int32)), .val (.int (1 : Int32)), .val (.ref a_243), .val (.long (2 : Int64)), .second]) at_113 (pc' := 115) rfl rfl ?_
        refine go_aload C at_115 (pc' := 117) rfl rfl rfl ?_
        refine go_virtualP C (as := []) (rest := []) (W := 0) (.long (3 : Int64)) (sat_rejectedCount l Z a0 hw a_243 _ _ _ F_308) E_305 (wd hw 50 rfl) (wd hw 51 rfl) (wd hw 53 rfl) (wd hw 52 rfl) (wd hw 2 rfl) (wd hw 54 rfl) (by decide) pd_6 rfl rfl rfl (by decide) (by decide) rfl rfl (by decide) (by decide) at_117 (pc' := 120) rfl rfl ?_
        refine go_ldc2 C (v := (3 : Int64)) (wd hw 55 rfl) at_120 (pc' := 123) rfl ?_
        refine go_lcmp C (3 : Int) (3 : Int) (by decide) (by decide) at_123 (pc1 := 124) rfl at_124 (by decide) (pc' := 129) (by decide) (pcN := 127) rfl (fun (c_315 : (3 : Int) = (3 : Int)) => ?_) (fun (c_315 : ¬ (3 : Int) = (3 : Int)) => by omega)
        refine go_aload C at_129 (pc' := 131) rfl rfl rfl ?_
        refine go_virtualP C (as := []) (rest := []) (W := 0) (.long (2 : Int64)) (sat_rejectedAtShutdownCount l Z a0 hw a_243 _ _ _ F_309) E_305 (wd hw 56 rfl) (wd hw 57 rfl) (wd hw 59 rfl) (wd hw 58 rfl) (wd hw 2 rfl) (wd hw 60 rfl) (by decide) pd_6 rfl rfl rfl (by decide) (by decide) rfl rfl (by decide) (by decide) at_131 (pc' := 134) rfl rfl ?_
        refine go_lload C at_134 (pc' := 136) rfl rfl ?_
        refine go_lcmp C (2 : Int) (2 : Int) (by decide) (by decide) at_136 (pc1 := 137) rfl at_137 (by decide) (pc' := 142) (by decide) (pcN := 140) rfl (fun (c_316 : (2 : Int) = (2 : Int)) => ?_) (fun (c_316 : ¬ (2 : Int) = (2 : Int)) => by omega)
        refine go_aload C at_142 (pc' := 144) rfl rfl rfl ?_
        refine go_virtualP C (as := []) (rest := []) (W := 0) (.long x1) (sat_submittedCount l Z a0 hw a_243 _ _ _ F_306) E_305 (wd hw 63 rfl) (wd hw 64 rfl) (wd hw 66 rfl) (wd hw 65 rfl) (wd hw 2 rfl) (wd hw 67 rfl) (by decide) pd_6 rfl rfl rfl (by decide) (by decide) rfl rfl (by decide) (by decide) at_144 (pc' := 147) rfl rfl ?_
        refine go_lloadN C at_147 (pc' := 148) rfl rfl ?_
        refine go_lcmp C x1.toInt x1.toInt rfl rfl at_148 (pc1 := 149) rfl at_149 (by decide) (pc' := 154) (by decide) (pcN := 152) rfl (fun (c_317 : x1.toInt = x1.toInt) => ?_) (fun (c_317 : ¬ x1.toInt = x1.toInt) => by omega)
        refine go_aload C at_154 (pc' := 156) rfl rfl rfl ?_
        refine go_virtualP C (as := []) (rest := []) (W := 0) (.int (o_max (0 : Int32) x2)) (sat_largestPoolSize l Z a0 hw a_243 _ _ _ F_307) E_305 (wd hw 68 rfl) (wd hw 69 rfl) (wd hw 71 rfl) (wd hw 70 rfl) (wd hw 2 rfl) (wd hw 72 rfl) (by decide) pd_7 rfl rfl rfl (by decide) (by decide) rfl rfl (by decide) (by decide) at_156 (pc' := 159) rfl rfl ?_
        refine go_iconst C (0 : Int32) at_159 (pc' := 160) rfl (by decide) ?_
        refine go_iloadN C at_160 (pc' := 161) rfl rfl ?_
        refine go_staticP C (as := [.int (0 : Int32), .int x2]) (rest := [.int (o_max (0 : Int32) x2)]) (W := 1) (.int (o_max (0 : Int32) x2)) (sat_max l Z a0 hw (0 : Int32) x2 _ _) (wd hw 73 rfl) (wd hw 40 rfl) (wd hw 41 rfl) (wd hw 42 rfl) (by decide) pd_4 rfl rfl rfl (by decide) (by decide) rfl rfl (by decide) (by decide) at_161 (pc' := 164) rfl rfl ?_
        refine go_icmp C ((o_max (0 : Int32) x2).toInt) ((o_max (0 : Int32) x2).toInt) rfl rfl at_164 (by decide) (pc' := 169) (by decide) (pcN := 167) rfl (fun (c_318 : ((o_max (0 : Int32) x2).toInt) = ((o_max (0 : Int32) x2).toInt)) => ?_) (fun (c_318 : ¬ ((o_max (0 : Int32) x2).toInt) = ((o_max (0 : Int32) x2).toInt)) => by omega)
        refine go_aload C at_169 (pc' := 171) rfl rfl rfl ?_
        refine go_virtualP C (as := []) (rest := []) (W := 0) (.long (0 : Int64)) (sat_completedCount l Z a0 hw a_243 _ _ _ F_310) E_305 (wd hw 74 rfl) (wd hw 75 rfl) (wd hw 77 rfl) (wd hw 76 rfl) (wd hw 2 rfl) (wd hw 78 rfl) (by decide) pd_6 rfl rfl rfl (by decide) (by decide) rfl rfl (by decide) (by decide) at_171 (pc' := 174) rfl rfl ?_
        refine go_lconst C (0 : Int64) at_174 (pc' := 175) rfl (by decide) ?_
        refine go_lcmp C (0 : Int) (0 : Int) (by decide) (by decide) at_175 (pc1 := 176) rfl at_176 (by decide) (pc' := 181) (by decide) (pcN := 179) rfl (fun (c_319 : (0 : Int) = (0 : Int)) => ?_) (fun (c_319 : ¬ (0 : Int) = (0 : Int)) => by omega)
        refine go_aload C at_181 (pc' := 183) rfl rfl rfl ?_
        refine go_virtualP C (as := []) (rest := []) (W := 0) (.long (0 : Int64)) (sat_failedCount l Z a0 hw a_243 _ _ _ F_311) E_305 (wd hw 81 rfl) (wd hw 82 rfl) (wd hw 84 rfl) (wd hw 83 rfl) (wd hw 2 rfl) (wd hw 85 rfl) (by decide) pd_6 rfl rfl rfl (by decide) (by decide) rfl rfl (by decide) (by decide) at_183 (pc' := 186) rfl rfl ?_
        refine go_lconst C (0 : Int64) at_186 (pc' := 187) rfl (by decide) ?_
        refine go_lcmp C (0 : Int) (0 : Int) (by decide) (by decide) at_187 (pc1 := 188) rfl at_188 (by decide) (pc' := 195) (by decide) (pcN := 191) rfl (fun (c_320 : ¬ (0 : Int) = (0 : Int)) => by omega) (fun (c_320 : (0 : Int) = (0 : Int)) => ?_)
        refine go_iconst C (1 : Int32) at_191 (pc' := 192) rfl (by decide) ?_
        refine go_goto C at_192 (by decide) (pc' := 196) (by decide) ?_
        refine go_ireturnN C (z' := (1 : Int32)) rfl (by simp) rfl at_196 (by decide) (by decide) ?_
        exact ⟨_, rfl, rfl⟩
  · skip
    refine go_iconst C (1 : Int32) at_6 (pc' := 7) rfl (by decide) ?_
    refine go_goto C at_7 (by decide) (pc' := 11) (by decide) ?_
    refine go_istore C (Ls' := #[.val (.int x0), .val (.long x1), .second, .val (.int x2), .val (.int (1 : Int32)), .unset, .unset, .unset, .unset, .unset]) at_11 (pc' := 13) rfl rfl ?_
    refine go_iloadN C at_13 (pc' := 14) rfl rfl ?_
    refine go_iconst C (2 : Int32) at_14 (pc' := 15) rfl (by decide) ?_
    refine go_iand C at_15 (pc' := 16) rfl ?_
    refine go_if0 C ((x0 &&& (2 : Int32)).toInt) rfl at_16 (by decide) (pc' := 23) (by decide) (pcN := 19) rfl (fun (c_321 : ((x0 &&& (2 : Int32)).toInt) = 0) => ?_) (fun (c_321 : ¬ ((x0 &&& (2 : Int32)).toInt) = 0) => ?_)
    · skip
      refine go_iconst C (0 : Int32) at_23 (pc' := 24) rfl (by decide) ?_
      refine go_istore C (Ls' := #[.val (.int x0), .val (.long x1), .second, .val (.int x2), .val (.int (1 : Int32)), .val (.int (0 : Int32)), .unset, .unset, .unset, .unset]) at_24 (pc' := 26) rfl rfl ?_
      refine go_iloadN C at_26 (pc' := 27) rfl rfl ?_
      refine go_iconst C (4 : Int32) at_27 (pc' := 28) rfl (by decide) ?_
      refine go_iand C at_28 (pc' := 29) rfl ?_
      refine go_if0 C ((x0 &&& (4 : Int32)).toInt) rfl at_29 (by decide) (pc' := 36) (by decide) (pcN := 32) rfl (fun (c_322 : ((x0 &&& (4 : Int32)).toInt) = 0) => ?_) (fun (c_322 : ¬ ((x0 &&& (4 : Int32)).toInt) = 0) => ?_)
      · skip
        refine go_iconst C (0 : Int32) at_36 (pc' := 37) rfl (by decide) ?_
        refine go_istore C (Ls' := #[.val (.int x0), .val (.long x1), .second, .val (.int x2), .val (.int (1 : Int32)), .val (.int (0 : Int32)), .val (.int (0 : Int32)), .unset, .unset, .unset]) at_37 (pc' := 39) rfl rfl ?_
        refine go_new C (wd hw 0 rfl) (wd hw 1 rfl) (wd hw 2 rfl) at_39 (pc' := 42) rfl (ce' := 1) (sl' := 41) rfl rfl (by decide) (by decide) ?_
        intro h_323 a_324 g_325 E_326 E_327 D_328
        have g_329 : Z.heap.size ≤ a_324 := own_ge (Nat.le_refl _) g_325
        have z_330 : Z.heap.size ≤ h_323.size := Nat.le_trans (Nat.le_refl _) E_326.1
        have F_331 : Fld Z h_323 a_324 "com/example/pufferfish/pufferfish/pool/PoolTally" "queueWait" "Lcom/example/pufferfish/pufferfish/pool/PoolTally$TimeSum;" (.null) := D_328 (Or.inr (wd hw 22 rfl)) (ty := (.object "com/example/pufferfish/pufferfish/pool/PoolTally$TimeSum")) (by decide)
        have F_332 : Fld Z h_323 a_324 "com/example/pufferfish/pufferfish/pool/PoolTally" "runTime" "Lcom/example/pufferfish/pufferfish/pool/PoolTally$TimeSum;" (.null) := D_328 (Or.inr (wd hw 24 rfl)) (ty := (.object "com/example/pufferfish/pufferfish/pool/PoolTally$TimeSum")) (by decide)
        have F_333 : Fld Z h_323 a_324 "com/example/pufferfish/pufferfish/pool/PoolTally" "submittedCount" "J" (.long (0 : Int64)) := D_328 (Or.inl (wd hw 31 rfl)) (ty := .long) (by decide)
        have F_334 : Fld Z h_323 a_324 "com/example/pufferfish/pufferfish/pool/PoolTally" "largestPoolSize" "I" (.int (0 : Int32)) := D_328 (Or.inl (wd hw 38 rfl)) (ty := .int) (by decide)
        have F_335 : Fld Z h_323 a_324 "com/example/pufferfish/pufferfish/pool/PoolTally" "rejectedCount" "J" (.long (0 : Int64)) := D_328 (Or.inl (wd hw 49 rfl)) (ty := .long) (by decide)
        have F_336 : Fld Z h_323 a_324 "com/example/pufferfish/pufferfish/pool/PoolTally" "rejectedAtShutdownCount" "J" (.long (0 : Int64)) := D_328 (Or.inl (wd hw 62 rfl)) (ty := .long) (by decide)
        have F_337 : Fld Z h_323 a_324 "com/example/pufferfish/pufferfish/pool/PoolTally" "completedCount" "J" (.long (0 : Int64)) := D_328 (Or.inl (wd hw 80 rfl)) (ty := .long) (by decide)
        have F_338 : Fld Z h_323 a_324 "com/example/pufferfish/pufferfish/pool/PoolTally" "failedCount" "J" (.long (0 : Int64)) := D_328 (Or.inl (wd hw 87 rfl)) (ty := .long) (by decide)
        refine go_dup C at_42 (pc' := 43) rfl rfl ?_
        refine go_specialN C (as := []) (rest := [.ref a_324]) (W := 1) (sat_pt l Z a0 hw a_324 _ _ E_327 F_331 F_332 F_333 F_334 F_335 F_336 F_337 F_338 g_329 z_330) rfl (wd hw 3 rfl) (wd hw 4 rfl) (wd hw 2 rfl) (wd hw 5 rfl) (by decide) pd_1 rfl rfl rfl (by decide) (by decide) (ce' := 3) (sl' := 113) rfl rfl (by decide) (by decide) at_43 (pc' := 46) rfl rfl ?_
        intro h_339 q_340
        obtain ⟨E_341, F_342, F_343, F_344, F_345, F_346, F_347⟩ := q_340
        refine go_astore C (Ls' := #[.val (.int x0), .val (.long x1), .second, .val (.int x2), .val (.int (1 : Int32)), .val (.int (0 : Int32)), .val (.int (0 : Int32)), .val (.ref a_324), .unset, .unset]) at_46 (pc' := 48) rfl rfl rfl ?_
        refine go_aload C at_48 (pc' := 50) rfl rfl rfl ?_
        refine go_lloadN C at_50 (pc' := 51) rfl rfl ?_
        refine go_virtualN C (as := [.long x1]) (rest := []) (W := 0) (sat_acc l Z a0 hw a_324 (0 : Int64) (0 : Int32) (0 : Int64) (0 : Int64) (0 : Int64) (0 : Int64) x1 _ _ ⟨E_341, F_342, F_343, F_344, F_345, F_346, F_347⟩ g_329) E_341 (wd hw 25 rfl) (wd hw 26 rfl) (wd hw 28 rfl) (wd hw 27 rfl) (wd hw 2 rfl) (wd hw 29 rfl) (by decide) pd_2 rfl rfl rfl (by decide) (by decide) (ce' := 3) (sl' := 113) rfl rfl (by decide) (by decide) at_51 (pc' := 54) rfl rfl ?_
        intro h_348 q_349
        rw [Int64.zero_add] at q_349
        obtain ⟨E_350, F_351, F_352, F_353, F_354, F_355, F_356⟩ := q_349
        refine go_aload C at_54 (pc' := 56) rfl rfl rfl ?_
        refine go_iloadN C at_56 (pc' := 57) rfl rfl ?_
        refine go_virtualN C (as := [.int x2]) (rest := []) (W := 0) (sat_thr l Z a0 hw a_324 x1 (0 : Int32) (0 : Int64) (0 : Int64) (0 : Int64) (0 : Int64) x2 _ _ ⟨E_350, F_351, F_352, F_353, F_354, F_355, F_356⟩ g_329) E_350 (wd hw 32 rfl) (wd hw 33 rfl) (wd hw 35 rfl) (wd hw 34 rfl) (wd hw 2 rfl) (wd hw 36 rfl) (by decide) pd_3 rfl rfl rfl (by decide) (by decide) (ce' := 3) (sl' := 113) rfl rfl (by decide) (by decide) at_57 (pc' := 60) rfl rfl ?_
        intro h_357 q_358
        obtain ⟨E_359, F_360, F_361, F_362, F_363, F_364, F_365⟩ := q_358
        refine go_aload C at_60 (pc' := 62) rfl rfl rfl ?_
        refine go_iload C at_62 (pc' := 64) rfl rfl ?_
        refine go_virtualN C (as := [.int (1 : Int32)]) (rest := []) (W := 0) (sat_ref1 l Z a0 hw a_324 x1 (o_max (0 : Int32) x2) (0 : Int64) (0 : Int64) (0 : Int64) (0 : Int64)  _ _ ⟨E_359, F_360, F_361, F_362, F_363, F_364, F_365⟩ g_329) E_359 (wd hw 43 rfl) (wd hw 44 rfl) (wd hw 46 rfl) (wd hw 45 rfl) (wd hw 2 rfl) (wd hw 47 rfl) (by decide) pd_5 rfl rfl rfl (by decide) (by decide) (ce' := 3) (sl' := 113) rfl rfl (by decide) (by decide) at_64 (pc' := 67) rfl rfl ?_
        intro h_366 q_367
        rw [(by decide : (0 : Int64) + (1 : Int64) = (1 : Int64))] at q_367
        obtain ⟨E_368, F_369, F_370, F_371, F_372, F_373, F_374⟩ := q_367
        refine go_aload C at_67 (pc' := 69) rfl rfl rfl ?_
        refine go_iload C at_69 (pc' := 71) rfl rfl ?_
        refine go_virtualN C (as := [.int (0 : Int32)]) (rest := []) (W := 0) (sat_ref0 l Z a0 hw a_324 x1 (o_max (0 : Int32) x2) (1 : Int64) (1 : Int64) (0 : Int64) (0 : Int64)  _ _ ⟨E_368, F_369, F_370, F_371, F_372, F_373, F_374⟩ g_329) E_368 (wd hw 43 rfl) (wd hw 44 rfl) (wd hw 46 rfl) (wd hw 45 rfl) (wd hw 2 rfl) (wd hw 47 rfl) (by decide) pd_5 rfl rfl rfl (by decide) (by decide) (ce' := 3) (sl' := 113) rfl rfl (by decide) (by decide) at_71 (pc' := 74) rfl rfl ?_
        intro h_375 q_376
        rw [(by decide : (1 : Int64) + (1 : Int64) = (2 : Int64))] at q_376
        obtain ⟨E_377, F_378, F_379, F_380, F_381, F_382, F_383⟩ := q_376
        refine go_aload C at_74 (pc' := 76) rfl rfl rfl ?_
        refine go_iload C at_76 (pc' := 78) rfl rfl ?_
        refine go_virtualN C (as := [.int (0 : Int32)]) (rest := []) (W := 0) (sat_ref0 l Z a0 hw a_324 x1 (o_max (0 : Int32) x2) (2 : Int64) (1 : Int64) (0 : Int64) (0 : Int64)  _ _ ⟨E_377, F_378, F_379, F_380, F_381, F_382, F_383⟩ g_329) E_377 (wd hw 43 rfl) (wd hw 44 rfl) (wd hw 46 rfl) (wd hw 45 rfl) (wd hw 2 rfl) (wd hw 47 rfl) (by decide) pd_5 rfl rfl rfl (by decide) (by decide) (ce' := 3) (sl' := 113) rfl rfl (by decide) (by decide) at_78 (pc' := 81) rfl rfl ?_
        intro h_384 q_385
        rw [(by decide : (2 : Int64) + (1 : Int64) = (3 : Int64))] at q_385
        obtain ⟨E_386, F_387, F_388, F_389, F_390, F_391, F_392⟩ := q_385
        refine go_iload C at_81 (pc' := 83) rfl rfl ?_
        refine go_if0 C (1 : Int) (by decide) at_83 (by decide) (pc' := 90) (by decide) (pcN := 86) rfl (fun (c_393 : (1 : Int) = 0) => by omega) (fun (c_393 : ¬ (1 : Int) = 0) => ?_)
        refine go_lconst C (1 : Int64) at_86 (pc' := 87) rfl (by decide) ?_
        refine go_goto C at_87 (by decide) (pc' := 91) (by decide) ?_
        refine go_iload C at_91 (pc' := 93) rfl rfl ?_
        refine go_if0 C (0 : Int) (by decide) at_93 (by decide) (pc' := 100) (by decide) (pcN := 96) rfl (fun (c_394 : (0 : Int) = 0) => ?_) (fun (c_394 : ¬ (0 : Int) = 0) => by omega)
        refine go_lconst C (0 : Int64) at_100 (pc' := 101) rfl (by decide) ?_
        refine go_ladd C at_101 (pc' := 102) rfl ?_
        rw [(by decide : (1 : Int64) + (0 : Int64) = (1 : Int64))]
        refine go_iload C at_102 (pc' := 104) rfl rfl ?_
        refine go_if0 C (0 : Int) (by decide) at_104 (by decide) (pc' := 111) (by decide) (pcN := 107) rfl (fun (c_395 : (0 : Int) = 0) => ?_) (fun (c_395 : ¬ (0 : Int) = 0) => by omega)
        refine go_lconst C (0 : Int64) at_111 (pc' := 112) rfl (by decide) ?_
        refine go_ladd C at_112 (pc' := 113) rfl ?_
        rw [(by decide : (1 : Int64) + (0 : Int64) = (1 : Int64))]
        refine go_lstore C (Ls' := #[.val (.int x0), .val (.long x1), .second, .val (.int x2), .val (.int (1 : Int32)), .val (.int (0 : Int32)), .val (.int (0 : Int32)), .val (.ref a_324), .val (.long (1 : Int64)), .second]) at_113 (pc' := 115) rfl rfl ?_
        refine go_aload C at_115 (pc' := 117) rfl rfl rfl ?_
        refine go_virtualP C (as := []) (rest := []) (W := 0) (.long (3 : Int64)) (sat_rejectedCount l Z a0 hw a_324 _ _ _ F_389) E_386 (wd hw 50 rfl) (wd hw 51 rfl) (wd hw 53 rfl) (wd hw 52 rfl) (wd hw 2 rfl) (wd hw 54 rfl) (by decide) pd_6 rfl rfl rfl (by decide) (by decide) rfl rfl (by decide) (by decide) at_117 (pc' := 120) rfl rfl ?_
        refine go_ldc2 C (v := (3 : Int64)) (wd hw 55 rfl) at_120 (pc' := 123) rfl ?_
        refine go_lcmp C (3 : Int) (3 : Int) (by decide) (by decide) at_123 (pc1 := 124) rfl at_124 (by decide) (pc' := 129) (by decide) (pcN := 127) rfl (fun (c_396 : (3 : Int) = (3 : Int)) => ?_) (fun (c_396 : ¬ (3 : Int) = (3 : Int)) => by omega)
        refine go_aload C at_129 (pc' := 131) rfl rfl rfl ?_
        refine go_virtualP C (as := []) (rest := []) (W := 0) (.long (1 : Int64)) (sat_rejectedAtShutdownCount l Z a0 hw a_324 _ _ _ F_390) E_386 (wd hw 56 rfl) (wd hw 57 rfl) (wd hw 59 rfl) (wd hw 58 rfl) (wd hw 2 rfl) (wd hw 60 rfl) (by decide) pd_6 rfl rfl rfl (by decide) (by decide) rfl rfl (by decide) (by decide) at_131 (pc' := 134) rfl rfl ?_
        refine go_lload C at_134 (pc' := 136) rfl rfl ?_
        refine go_lcmp C (1 : Int) (1 : Int) (by decide) (by decide) at_136 (pc1 := 137) rfl at_137 (by decide) (pc' := 142) (by decide) (pcN := 140) rfl (fun (c_397 : (1 : Int) = (1 : Int)) => ?_) (fun (c_397 : ¬ (1 : Int) = (1 : Int)) => by omega)
        refine go_aload C at_142 (pc' := 144) rfl rfl rfl ?_
        refine go_virtualP C (as := []) (rest := []) (W := 0) (.long x1) (sat_submittedCount l Z a0 hw a_324 _ _ _ F_387) E_386 (wd hw 63 rfl) (wd hw 64 rfl) (wd hw 66 rfl) (wd hw 65 rfl) (wd hw 2 rfl) (wd hw 67 rfl) (by decide) pd_6 rfl rfl rfl (by decide) (by decide) rfl rfl (by decide) (by decide) at_144 (pc' := 147) rfl rfl ?_
        refine go_lloadN C at_147 (pc' := 148) rfl rfl ?_
        refine go_lcmp C x1.toInt x1.toInt rfl rfl at_148 (pc1 := 149) rfl at_149 (by decide) (pc' := 154) (by decide) (pcN := 152) rfl (fun (c_398 : x1.toInt = x1.toInt) => ?_) (fun (c_398 : ¬ x1.toInt = x1.toInt) => by omega)
        refine go_aload C at_154 (pc' := 156) rfl rfl rfl ?_
        refine go_virtualP C (as := []) (rest := []) (W := 0) (.int (o_max (0 : Int32) x2)) (sat_largestPoolSize l Z a0 hw a_324 _ _ _ F_388) E_386 (wd hw 68 rfl) (wd hw 69 rfl) (wd hw 71 rfl) (wd hw 70 rfl) (wd hw 2 rfl) (wd hw 72 rfl) (by decide) pd_7 rfl rfl rfl (by decide) (by decide) rfl rfl (by decide) (by decide) at_156 (pc' := 159) rfl rfl ?_
        refine go_iconst C (0 : Int32) at_159 (pc' := 160) rfl (by decide) ?_
        refine go_iloadN C at_160 (pc' := 161) rfl rfl ?_
        refine go_staticP C (as := [.int (0 : Int32), .int x2]) (rest := [.int (o_max (0 : Int32) x2)]) (W := 1) (.int (o_max (0 : Int32) x2)) (sat_max l Z a0 hw (0 : Int32) x2 _ _) (wd hw 73 rfl) (wd hw 40 rfl) (wd hw 41 rfl) (wd hw 42 rfl) (by decide) pd_4 rfl rfl rfl (by decide) (by decide) rfl rfl (by decide) (by decide) at_161 (pc' := 164) rfl rfl ?_
        refine go_icmp C ((o_max (0 : Int32) x2).toInt) ((o_max (0 : Int32) x2).toInt) rfl rfl at_164 (by decide) (pc' := 169) (by decide) (pcN := 167) rfl (fun (c_399 : ((o_max (0 : Int32) x2).toInt) = ((o_max (0 : Int32) x2).toInt)) => ?_) (fun (c_399 : ¬ ((o_max (0 : Int32) x2).toInt) = ((o_max (0 : Int32) x2).toInt)) => by omega)
        refine go_aload C at_169 (pc' := 171) rfl rfl rfl ?_
        refine go_virtualP C (as := []) (rest := []) (W := 0) (.long (0 : Int64)) (sat_completedCount l Z a0 hw a_324 _ _ _ F_391) E_386 (wd hw 74 rfl) (wd hw 75 rfl) (wd hw 77 rfl) (wd hw 76 rfl) (wd hw 2 rfl) (wd hw 78 rfl) (by decide) pd_6 rfl rfl rfl (by decide) (by decide) rfl rfl (by decide) (by decide) at_171 (pc' := 174) rfl rfl ?_
        refine go_lconst C (0 : Int64) at_174 (pc' := 175) rfl (by decide) ?_
        refine go_lcmp C (0 : Int) (0 : Int) (by decide) (by decide) at_175 (pc1 := 176) rfl at_176 (by decide) (pc' := 181) (by decide) (pcN := 179) rfl (fun (c_400 : (0 : Int) = (0 : Int)) => ?_) (fun (c_400 : ¬ (0 : Int) = (0 : Int)) => by omega)
        refine go_aload C at_181 (pc' := 183) rfl rfl rfl ?_
        refine go_virtualP C (as := []) (rest := []) (W := 0) (.long (0 : Int64)) (sat_failedCount l Z a0 hw a_324 _ _ _ F_392) E_386 (wd hw 81 rfl) (wd hw 82 rfl) (wd hw 84 rfl) (wd hw 83 rfl) (wd hw 2 rfl) (wd hw 85 rfl) (by decide) pd_6 rfl rfl rfl (by decide) (by decide) rfl rfl (by decide) (by decide) at_183 (pc' := 186) rfl rfl ?_
        refine go_lconst C (0 : Int64) at_186 (pc' := 187) rfl (by decide) ?_
        refine go_lcmp C (0 : Int) (0 : Int) (by decide) (by decide) at_187 (pc1 := 188) rfl at_188 (by decide) (pc' := 195) (by decide) (pcN := 191) rfl (fun (c_401 : ¬ (0 : Int) = (0 : Int)) => by omega) (fun (c_401 : (0 : Int) = (0 : Int)) => ?_)
        refine go_iconst C (1 : Int32) at_191 (pc' := 192) rfl (by decide) ?_
        refine go_goto C at_192 (by decide) (pc' := 196) (by decide) ?_
        refine go_ireturnN C (z' := (1 : Int32)) rfl (by simp) rfl at_196 (by decide) (by decide) ?_
        exact ⟨_, rfl, rfl⟩
      · skip
        refine go_iconst C (1 : Int32) at_32 (pc' := 33) rfl (by decide) ?_
        refine go_goto C at_33 (by decide) (pc' := 37) (by decide) ?_
        refine go_istore C (Ls' := #[.val (.int x0), .val (.long x1), .second, .val (.int x2), .val (.int (1 : Int32)), .val (.int (0 : Int32)), .val (.int (1 : Int32)), .unset, .unset, .unset]) at_37 (pc' := 39) rfl rfl ?_
        refine go_new C (wd hw 0 rfl) (wd hw 1 rfl) (wd hw 2 rfl) at_39 (pc' := 42) rfl (ce' := 1) (sl' := 41) rfl rfl (by decide) (by decide) ?_
        intro h_402 a_403 g_404 E_405 E_406 D_407
        have g_408 : Z.heap.size ≤ a_403 := own_ge (Nat.le_refl _) g_404
        have z_409 : Z.heap.size ≤ h_402.size := Nat.le_trans (Nat.le_refl _) E_405.1
        have F_410 : Fld Z h_402 a_403 "com/example/pufferfish/pufferfish/pool/PoolTally" "queueWait" "Lcom/example/pufferfish/pufferfish/pool/PoolTally$TimeSum;" (.null) := D_407 (Or.inr (wd hw 22 rfl)) (ty := (.object "com/example/pufferfish/pufferfish/pool/PoolTally$TimeSum")) (by decide)
        have F_411 : Fld Z h_402 a_403 "com/example/pufferfish/pufferfish/pool/PoolTally" "runTime" "Lcom/example/pufferfish/pufferfish/pool/PoolTally$TimeSum;" (.null) := D_407 (Or.inr (wd hw 24 rfl)) (ty := (.object "com/example/pufferfish/pufferfish/pool/PoolTally$TimeSum")) (by decide)
        have F_412 : Fld Z h_402 a_403 "com/example/pufferfish/pufferfish/pool/PoolTally" "submittedCount" "J" (.long (0 : Int64)) := D_407 (Or.inl (wd hw 31 rfl)) (ty := .long) (by decide)
        have F_413 : Fld Z h_402 a_403 "com/example/pufferfish/pufferfish/pool/PoolTally" "largestPoolSize" "I" (.int (0 : Int32)) := D_407 (Or.inl (wd hw 38 rfl)) (ty := .int) (by decide)
        have F_414 : Fld Z h_402 a_403 "com/example/pufferfish/pufferfish/pool/PoolTally" "rejectedCount" "J" (.long (0 : Int64)) := D_407 (Or.inl (wd hw 49 rfl)) (ty := .long) (by decide)
        have F_415 : Fld Z h_402 a_403 "com/example/pufferfish/pufferfish/pool/PoolTally" "rejectedAtShutdownCount" "J" (.long (0 : Int64)) := D_407 (Or.inl (wd hw 62 rfl)) (ty := .long) (by decide)
        have F_416 : Fld Z h_402 a_403 "com/example/pufferfish/pufferfish/pool/PoolTally" "completedCount" "J" (.long (0 : Int64)) := D_407 (Or.inl (wd hw 80 rfl)) (ty := .long) (by decide)
        have F_417 : Fld Z h_402 a_403 "com/example/pufferfish/pufferfish/pool/PoolTally" "failedCount" "J" (.long (0 : Int64)) := D_407 (Or.inl (wd hw 87 rfl)) (ty := .long) (by decide)
        refine go_dup C at_42 (pc' := 43) rfl rfl ?_
        refine go_specialN C (as := []) (rest := [.ref a_403]) (W := 1) (sat_pt l Z a0 hw a_403 _ _ E_406 F_410 F_411 F_412 F_413 F_414 F_415 F_416 F_417 g_408 z_409) rfl (wd hw 3 rfl) (wd hw 4 rfl) (wd hw 2 rfl) (wd hw 5 rfl) (by decide) pd_1 rfl rfl rfl (by decide) (by decide) (ce' := 3) (sl' := 113) rfl rfl (by decide) (by decide) at_43 (pc' := 46) rfl rfl ?_
        intro h_418 q_419
        obtain ⟨E_420, F_421, F_422, F_423, F_424, F_425, F_426⟩ := q_419
        refine go_astore C (Ls' := #[.val (.int x0), .val (.long x1), .second, .val (.int x2), .val (.int (1 : Int32)), .val (.int (0 : Int32)), .val (.int (1 : Int32)), .val (.ref a_403), .unset, .unset]) at_46 (pc' := 48) rfl rfl rfl ?_
        refine go_aload C at_48 (pc' := 50) rfl rfl rfl ?_
        refine go_lloadN C at_50 (pc' := 51) rfl rfl ?_
        refine go_virtualN C (as := [.long x1]) (rest := []) (W := 0) (sat_acc l Z a0 hw a_403 (0 : Int64) (0 : Int32) (0 : Int64) (0 : Int64) (0 : Int64) (0 : Int64) x1 _ _ ⟨E_420, F_421, F_422, F_423, F_424, F_425, F_426⟩ g_408) E_420 (wd hw 25 rfl) (wd hw 26 rfl) (wd hw 28 rfl) (wd hw 27 rfl) (wd hw 2 rfl) (wd hw 29 rfl) (by decide) pd_2 rfl rfl rfl (by decide) (by decide) (ce' := 3) (sl' := 113) rfl rfl (by decide) (by decide) at_51 (pc' := 54) rfl rfl ?_
        intro h_427 q_428
        rw [Int64.zero_add] at q_428
        obtain ⟨E_429, F_430, F_431, F_432, F_433, F_434, F_435⟩ := q_428
        refine go_aload C at_54 (pc' := 56) rfl rfl rfl ?_
        refine go_iloadN C at_56 (pc' := 57) rfl rfl ?_
        refine go_virtualN C (as := [.int x2]) (rest := []) (W := 0) (sat_thr l Z a0 hw a_403 x1 (0 : Int32) (0 : Int64) (0 : Int64) (0 : Int64) (0 : Int64) x2 _ _ ⟨E_429, F_430, F_431, F_432, F_433, F_434, F_435⟩ g_408) E_429 (wd hw 32 rfl) (wd hw 33 rfl) (wd hw 35 rfl) (wd hw 34 rfl) (wd hw 2 rfl) (wd hw 36 rfl) (by decide) pd_3 rfl rfl rfl (by decide) (by decide) (ce' := 3) (sl' := 113) rfl rfl (by decide) (by decide) at_57 (pc' := 60) rfl rfl ?_
        intro h_436 q_437
        obtain ⟨E_438, F_439, F_440, F_441, F_442, F_443, F_444⟩ := q_437
        refine go_aload C at_60 (pc' := 62) rfl rfl rfl ?_
        refine go_iload C at_62 (pc' := 64) rfl rfl ?_
        refine go_virtualN C (as := [.int (1 : Int32)]) (rest := []) (W := 0) (sat_ref1 l Z a0 hw a_403 x1 (o_max (0 : Int32) x2) (0 : Int64) (0 : Int64) (0 : Int64) (0 : Int64)  _ _ ⟨E_438, F_439, F_440, F_441, F_442, F_443, F_444⟩ g_408) E_438 (wd hw 43 rfl) (wd hw 44 rfl) (wd hw 46 rfl) (wd hw 45 rfl) (wd hw 2 rfl) (wd hw 47 rfl) (by decide) pd_5 rfl rfl rfl (by decide) (by decide) (ce' := 3) (sl' := 113) rfl rfl (by decide) (by decide) at_64 (pc' := 67) rfl rfl ?_
        intro h_445 q_446
        rw [(by decide : (0 : Int64) + (1 : Int64) = (1 : Int64))] at q_446
        obtain ⟨E_447, F_448, F_449, F_450, F_451, F_452, F_453⟩ := q_446
        refine go_aload C at_67 (pc' := 69) rfl rfl rfl ?_
        refine go_iload C at_69 (pc' := 71) rfl rfl ?_
        refine go_virtualN C (as := [.int (0 : Int32)]) (rest := []) (W := 0) (sat_ref0 l Z a0 hw a_403 x1 (o_max (0 : Int32) x2) (1 : Int64) (1 : Int64) (0 : Int64) (0 : Int64)  _ _ ⟨E_447, F_448, F_449, F_450, F_451, F_452, F_453⟩ g_408) E_447 (wd hw 43 rfl) (wd hw 44 rfl) (wd hw 46 rfl) (wd hw 45 rfl) (wd hw 2 rfl) (wd hw 47 rfl) (by decide) pd_5 rfl rfl rfl (by decide) (by decide) (ce' := 3) (sl' := 113) rfl rfl (by decide) (by decide) at_71 (pc' := 74) rfl rfl ?_
        intro h_454 q_455
        rw [(by decide : (1 : Int64) + (1 : Int64) = (2 : Int64))] at q_455
        obtain ⟨E_456, F_457, F_458, F_459, F_460, F_461, F_462⟩ := q_455
        refine go_aload C at_74 (pc' := 76) rfl rfl rfl ?_
        refine go_iload C at_76 (pc' := 78) rfl rfl ?_
        refine go_virtualN C (as := [.int (1 : Int32)]) (rest := []) (W := 0) (sat_ref1 l Z a0 hw a_403 x1 (o_max (0 : Int32) x2) (2 : Int64) (1 : Int64) (0 : Int64) (0 : Int64)  _ _ ⟨E_456, F_457, F_458, F_459, F_460, F_461, F_462⟩ g_408) E_456 (wd hw 43 rfl) (wd hw 44 rfl) (wd hw 46 rfl) (wd hw 45 rfl) (wd hw 2 rfl) (wd hw 47 rfl) (by decide) pd_5 rfl rfl rfl (by decide) (by decide) (ce' := 3) (sl' := 113) rfl rfl (by decide) (by decide) at_78 (pc' := 81) rfl rfl ?_
        intro h_463 q_464
        rw [(by decide : (2 : Int64) + (1 : Int64) = (3 : Int64))] at q_464
        rw [(by decide : (1 : Int64) + (1 : Int64) = (2 : Int64))] at q_464
        obtain ⟨E_465, F_466, F_467, F_468, F_469, F_470, F_471⟩ := q_464
        refine go_iload C at_81 (pc' := 83) rfl rfl ?_
        refine go_if0 C (1 : Int) (by decide) at_83 (by decide) (pc' := 90) (by decide) (pcN := 86) rfl (fun (c_472 : (1 : Int) = 0) => by omega) (fun (c_472 : ¬ (1 : Int) = 0) => ?_)
        refine go_lconst C (1 : Int64) at_86 (pc' := 87) rfl (by decide) ?_
        refine go_goto C at_87 (by decide) (pc' := 91) (by decide) ?_
        refine go_iload C at_91 (pc' := 93) rfl rfl ?_
        refine go_if0 C (0 : Int) (by decide) at_93 (by decide) (pc' := 100) (by decide) (pcN := 96) rfl (fun (c_473 : (0 : Int) = 0) => ?_) (fun (c_473 : ¬ (0 : Int) = 0) => by omega)
        refine go_lconst C (0 : Int64) at_100 (pc' := 101) rfl (by decide) ?_
        refine go_ladd C at_101 (pc' := 102) rfl ?_
        rw [(by decide : (1 : Int64) + (0 : Int64) = (1 : Int64))]
        refine go_iload C at_102 (pc' := 104) rfl rfl ?_
        refine go_if0 C (1 : Int) (by decide) at_104 (by decide) (pc' := 111) (by decide) (pcN := 107) rfl (fun (c_474 : (1 : Int) = 0) => by omega) (fun (c_474 : ¬ (1 : Int) = 0) => ?_)
        refine go_lconst C (1 : Int64) at_107 (pc' := 108) rfl (by decide) ?_
        refine go_goto C at_108 (by decide) (pc' := 112) (by decide) ?_
        refine go_ladd C at_112 (pc' := 113) rfl ?_
        rw [(by decide : (1 : Int64) + (1 : Int64) = (2 : Int64))]
        refine go_lstore C (Ls' := #[.val (.int x0), .val (.long x1), .second, .val (.int x2), .val (.int (1 : Int32)), .val (.int (0 : Int32)), .val (.int (1 : Int32)), .val (.ref a_403), .val (.long (2 : Int64)), .second]) at_113 (pc' := 115) rfl rfl ?_
        refine go_aload C at_115 (pc' := 117) rfl rfl rfl ?_
        refine go_virtualP C (as := []) (rest := []) (W := 0) (.long (3 : Int64)) (sat_rejectedCount l Z a0 hw a_403 _ _ _ F_468) E_465 (wd hw 50 rfl) (wd hw 51 rfl) (wd hw 53 rfl) (wd hw 52 rfl) (wd hw 2 rfl) (wd hw 54 rfl) (by decide) pd_6 rfl rfl rfl (by decide) (by decide) rfl rfl (by decide) (by decide) at_117 (pc' := 120) rfl rfl ?_
        refine go_ldc2 C (v := (3 : Int64)) (wd hw 55 rfl) at_120 (pc' := 123) rfl ?_
        refine go_lcmp C (3 : Int) (3 : Int) (by decide) (by decide) at_123 (pc1 := 124) rfl at_124 (by decide) (pc' := 129) (by decide) (pcN := 127) rfl (fun (c_475 : (3 : Int) = (3 : Int)) => ?_) (fun (c_475 : ¬ (3 : Int) = (3 : Int)) => by omega)
        refine go_aload C at_129 (pc' := 131) rfl rfl rfl ?_
        refine go_virtualP C (as := []) (rest := []) (W := 0) (.long (2 : Int64)) (sat_rejectedAtShutdownCount l Z a0 hw a_403 _ _ _ F_469) E_465 (wd hw 56 rfl) (wd hw 57 rfl) (wd hw 59 rfl) (wd hw 58 rfl) (wd hw 2 rfl) (wd hw 60 rfl) (by decide) pd_6 rfl rfl rfl (by decide) (by decide) rfl rfl (by decide) (by decide) at_131 (pc' := 134) rfl rfl ?_
        refine go_lload C at_134 (pc' := 136) rfl rfl ?_
        refine go_lcmp C (2 : Int) (2 : Int) (by decide) (by decide) at_136 (pc1 := 137) rfl at_137 (by decide) (pc' := 142) (by decide) (pcN := 140) rfl (fun (c_476 : (2 : Int) = (2 : Int)) => ?_) (fun (c_476 : ¬ (2 : Int) = (2 : Int)) => by omega)
        refine go_aload C at_142 (pc' := 144) rfl rfl rfl ?_
        refine go_virtualP C (as := []) (rest := []) (W := 0) (.long x1) (sat_submittedCount l Z a0 hw a_403 _ _ _ F_466) E_465 (wd hw 63 rfl) (wd hw 64 rfl) (wd hw 66 rfl) (wd hw 65 rfl) (wd hw 2 rfl) (wd hw 67 rfl) (by decide) pd_6 rfl rfl rfl (by decide) (by decide) rfl rfl (by decide) (by decide) at_144 (pc' := 147) rfl rfl ?_
        refine go_lloadN C at_147 (pc' := 148) rfl rfl ?_
        refine go_lcmp C x1.toInt x1.toInt rfl rfl at_148 (pc1 := 149) rfl at_149 (by decide) (pc' := 154) (by decide) (pcN := 152) rfl (fun (c_477 : x1.toInt = x1.toInt) => ?_) (fun (c_477 : ¬ x1.toInt = x1.toInt) => by omega)
        refine go_aload C at_154 (pc' := 156) rfl rfl rfl ?_
        refine go_virtualP C (as := []) (rest := []) (W := 0) (.int (o_max (0 : Int32) x2)) (sat_largestPoolSize l Z a0 hw a_403 _ _ _ F_467) E_465 (wd hw 68 rfl) (wd hw 69 rfl) (wd hw 71 rfl) (wd hw 70 rfl) (wd hw 2 rfl) (wd hw 72 rfl) (by decide) pd_7 rfl rfl rfl (by decide) (by decide) rfl rfl (by decide) (by decide) at_156 (pc' := 159) rfl rfl ?_
        refine go_iconst C (0 : Int32) at_159 (pc' := 160) rfl (by decide) ?_
        refine go_iloadN C at_160 (pc' := 161) rfl rfl ?_
        refine go_staticP C (as := [.int (0 : Int32), .int x2]) (rest := [.int (o_max (0 : Int32) x2)]) (W := 1) (.int (o_max (0 : Int32) x2)) (sat_max l Z a0 hw (0 : Int32) x2 _ _) (wd hw 73 rfl) (wd hw 40 rfl) (wd hw 41 rfl) (wd hw 42 rfl) (by decide) pd_4 rfl rfl rfl (by decide) (by decide) rfl rfl (by decide) (by decide) at_161 (pc' := 164) rfl rfl ?_
        refine go_icmp C ((o_max (0 : Int32) x2).toInt) ((o_max (0 : Int32) x2).toInt) rfl rfl at_164 (by decide) (pc' := 169) (by decide) (pcN := 167) rfl (fun (c_478 : ((o_max (0 : Int32) x2).toInt) = ((o_max (0 : Int32) x2).toInt)) => ?_) (fun (c_478 : ¬ ((o_max (0 : Int32) x2).toInt) = ((o_max (0 : Int32) x2).toInt)) => by omega)
        refine go_aload C at_169 (pc' := 171) rfl rfl rfl ?_
        refine go_virtualP C (as := []) (rest := []) (W := 0) (.long (0 : Int64)) (sat_completedCount l Z a0 hw a_403 _ _ _ F_470) E_465 (wd hw 74 rfl) (wd hw 75 rfl) (wd hw 77 rfl) (wd hw 76 rfl) (wd hw 2 rfl) (wd hw 78 rfl) (by decide) pd_6 rfl rfl rfl (by decide) (by decide) rfl rfl (by decide) (by decide) at_171 (pc' := 174) rfl rfl ?_
        refine go_lconst C (0 : Int64) at_174 (pc' := 175) rfl (by decide) ?_
        refine go_lcmp C (0 : Int) (0 : Int) (by decide) (by decide) at_175 (pc1 := 176) rfl at_176 (by decide) (pc' := 181) (by decide) (pcN := 179) rfl (fun (c_479 : (0 : Int) = (0 : Int)) => ?_) (fun (c_479 : ¬ (0 : Int) = (0 : Int)) => by omega)
        refine go_aload C at_181 (pc' := 183) rfl rfl rfl ?_
        refine go_virtualP C (as := []) (rest := []) (W := 0) (.long (0 : Int64)) (sat_failedCount l Z a0 hw a_403 _ _ _ F_471) E_465 (wd hw 81 rfl) (wd hw 82 rfl) (wd hw 84 rfl) (wd hw 83 rfl) (wd hw 2 rfl) (wd hw 85 rfl) (by decide) pd_6 rfl rfl rfl (by decide) (by decide) rfl rfl (by decide) (by decide) at_183 (pc' := 186) rfl rfl ?_
        refine go_lconst C (0 : Int64) at_186 (pc' := 187) rfl (by decide) ?_
        refine go_lcmp C (0 : Int) (0 : Int) (by decide) (by decide) at_187 (pc1 := 188) rfl at_188 (by decide) (pc' := 195) (by decide) (pcN := 191) rfl (fun (c_480 : ¬ (0 : Int) = (0 : Int)) => by omega) (fun (c_480 : (0 : Int) = (0 : Int)) => ?_)
        refine go_iconst C (1 : Int32) at_191 (pc' := 192) rfl (by decide) ?_
        refine go_goto C at_192 (by decide) (pc' := 196) (by decide) ?_
        refine go_ireturnN C (z' := (1 : Int32)) rfl (by simp) rfl at_196 (by decide) (by decide) ?_
        exact ⟨_, rfl, rfl⟩
    · skip
      refine go_iconst C (1 : Int32) at_19 (pc' := 20) rfl (by decide) ?_
      refine go_goto C at_20 (by decide) (pc' := 24) (by decide) ?_
      refine go_istore C (Ls' := #[.val (.int x0), .val (.long x1), .second, .val (.int x2), .val (.int (1 : Int32)), .val (.int (1 : Int32)), .unset, .unset, .unset, .unset]) at_24 (pc' := 26) rfl rfl ?_
      refine go_iloadN C at_26 (pc' := 27) rfl rfl ?_
      refine go_iconst C (4 : Int32) at_27 (pc' := 28) rfl (by decide) ?_
      refine go_iand C at_28 (pc' := 29) rfl ?_
      refine go_if0 C ((x0 &&& (4 : Int32)).toInt) rfl at_29 (by decide) (pc' := 36) (by decide) (pcN := 32) rfl (fun (c_481 : ((x0 &&& (4 : Int32)).toInt) = 0) => ?_) (fun (c_481 : ¬ ((x0 &&& (4 : Int32)).toInt) = 0) => ?_)
      · skip
        refine go_iconst C (0 : Int32) at_36 (pc' := 37) rfl (by decide) ?_
        refine go_istore C (Ls' := #[.val (.int x0), .val (.long x1), .second, .val (.int x2), .val (.int (1 : Int32)), .val (.int (1 : Int32)), .val (.int (0 : Int32)), .unset, .unset, .unset]) at_37 (pc' := 39) rfl rfl ?_
        refine go_new C (wd hw 0 rfl) (wd hw 1 rfl) (wd hw 2 rfl) at_39 (pc' := 42) rfl (ce' := 1) (sl' := 41) rfl rfl (by decide) (by decide) ?_
        intro h_482 a_483 g_484 E_485 E_486 D_487
        have g_488 : Z.heap.size ≤ a_483 := own_ge (Nat.le_refl _) g_484
        have z_489 : Z.heap.size ≤ h_482.size := Nat.le_trans (Nat.le_refl _) E_485.1
        have F_490 : Fld Z h_482 a_483 "com/example/pufferfish/pufferfish/pool/PoolTally" "queueWait" "Lcom/example/pufferfish/pufferfish/pool/PoolTally$TimeSum;" (.null) := D_487 (Or.inr (wd hw 22 rfl)) (ty := (.object "com/example/pufferfish/pufferfish/pool/PoolTally$TimeSum")) (by decide)
        have F_491 : Fld Z h_482 a_483 "com/example/pufferfish/pufferfish/pool/PoolTally" "runTime" "Lcom/example/pufferfish/pufferfish/pool/PoolTally$TimeSum;" (.null) := D_487 (Or.inr (wd hw 24 rfl)) (ty := (.object "com/example/pufferfish/pufferfish/pool/PoolTally$TimeSum")) (by decide)
        have F_492 : Fld Z h_482 a_483 "com/example/pufferfish/pufferfish/pool/PoolTally" "submittedCount" "J" (.long (0 : Int64)) := D_487 (Or.inl (wd hw 31 rfl)) (ty := .long) (by decide)
        have F_493 : Fld Z h_482 a_483 "com/example/pufferfish/pufferfish/pool/PoolTally" "largestPoolSize" "I" (.int (0 : Int32)) := D_487 (Or.inl (wd hw 38 rfl)) (ty := .int) (by decide)
        have F_494 : Fld Z h_482 a_483 "com/example/pufferfish/pufferfish/pool/PoolTally" "rejectedCount" "J" (.long (0 : Int64)) := D_487 (Or.inl (wd hw 49 rfl)) (ty := .long) (by decide)
        have F_495 : Fld Z h_482 a_483 "com/example/pufferfish/pufferfish/pool/PoolTally" "rejectedAtShutdownCount" "J" (.long (0 : Int64)) := D_487 (Or.inl (wd hw 62 rfl)) (ty := .long) (by decide)
        have F_496 : Fld Z h_482 a_483 "com/example/pufferfish/pufferfish/pool/PoolTally" "completedCount" "J" (.long (0 : Int64)) := D_487 (Or.inl (wd hw 80 rfl)) (ty := .long) (by decide)
        have F_497 : Fld Z h_482 a_483 "com/example/pufferfish/pufferfish/pool/PoolTally" "failedCount" "J" (.long (0 : Int64)) := D_487 (Or.inl (wd hw 87 rfl)) (ty := .long) (by decide)
        refine go_dup C at_42 (pc' := 43) rfl rfl ?_
        refine go_specialN C (as := []) (rest := [.ref a_483]) (W := 1) (sat_pt l Z a0 hw a_483 _ _ E_486 F_490 F_491 F_492 F_493 F_494 F_495 F_496 F_497 g_488 z_489) rfl (wd hw 3 rfl) (wd hw 4 rfl) (wd hw 2 rfl) (wd hw 5 rfl) (by decide) pd_1 rfl rfl rfl (by decide) (by decide) (ce' := 3) (sl' := 113) rfl rfl (by decide) (by decide) at_43 (pc' := 46) rfl rfl ?_
        intro h_498 q_499
        obtain ⟨E_500, F_501, F_502, F_503, F_504, F_505, F_506⟩ := q_499
        refine go_astore C (Ls' := #[.val (.int x0), .val (.long x1), .second, .val (.int x2), .val (.int (1 : Int32)), .val (.int (1 : Int32)), .val (.int (0 : Int32)), .val (.ref a_483), .unset, .unset]) at_46 (pc' := 48) rfl rfl rfl ?_
        refine go_aload C at_48 (pc' := 50) rfl rfl rfl ?_
        refine go_lloadN C at_50 (pc' := 51) rfl rfl ?_
        refine go_virtualN C (as := [.long x1]) (rest := []) (W := 0) (sat_acc l Z a0 hw a_483 (0 : Int64) (0 : Int32) (0 : Int64) (0 : Int64) (0 : Int64) (0 : Int64) x1 _ _ ⟨E_500, F_501, F_502, F_503, F_504, F_505, F_506⟩ g_488) E_500 (wd hw 25 rfl) (wd hw 26 rfl) (wd hw 28 rfl) (wd hw 27 rfl) (wd hw 2 rfl) (wd hw 29 rfl) (by decide) pd_2 rfl rfl rfl (by decide) (by decide) (ce' := 3) (sl' := 113) rfl rfl (by decide) (by decide) at_51 (pc' := 54) rfl rfl ?_
        intro h_507 q_508
        rw [Int64.zero_add] at q_508
        obtain ⟨E_509, F_510, F_511, F_512, F_513, F_514, F_515⟩ := q_508
        refine go_aload C at_54 (pc' := 56) rfl rfl rfl ?_
        refine go_iloadN C at_56 (pc' := 57) rfl rfl ?_
        refine go_virtualN C (as := [.int x2]) (rest := []) (W := 0) (sat_thr l Z a0 hw a_483 x1 (0 : Int32) (0 : Int64) (0 : Int64) (0 : Int64) (0 : Int64) x2 _ _ ⟨E_509, F_510, F_511, F_512, F_513, F_514, F_515⟩ g_488) E_509 (wd hw 32 rfl) (wd hw 33 rfl) (wd hw 35 rfl) (wd hw 34 rfl) (wd hw 2 rfl) (wd hw 36 rfl) (by decide) pd_3 rfl rfl rfl (by decide) (by decide) (ce' := 3) (sl' := 113) rfl rfl (by decide) (by decide) at_57 (pc' := 60) rfl rfl ?_
        intro h_516 q_517
        obtain ⟨E_518, F_519, F_520, F_521, F_522, F_523, F_524⟩ := q_517
        refine go_aload C at_60 (pc' := 62) rfl rfl rfl ?_
        refine go_iload C at_62 (pc' := 64) rfl rfl ?_
        refine go_virtualN C (as := [.int (1 : Int32)]) (rest := []) (W := 0) (sat_ref1 l Z a0 hw a_483 x1 (o_max (0 : Int32) x2) (0 : Int64) (0 : Int64) (0 : Int64) (0 : Int64)  _ _ ⟨E_518, F_519, F_520, F_521, F_522, F_523, F_524⟩ g_488) E_518 (wd hw 43 rfl) (wd hw 44 rfl) (wd hw 46 rfl) (wd hw 45 rfl) (wd hw 2 rfl) (wd hw 47 rfl) (by decide) pd_5 rfl rfl rfl (by decide) (by decide) (ce' := 3) (sl' := 113) rfl rfl (by decide) (by decide) at_64 (pc' := 67) rfl rfl ?_
        intro h_525 q_526
        rw [(by decide : (0 : Int64) + (1 : Int64) = (1 : Int64))] at q_526
        obtain ⟨E_527, F_528, F_529, F_530, F_531, F_532, F_533⟩ := q_526
        refine go_aload C at_67 (pc' := 69) rfl rfl rfl ?_
        refine go_iload C at_69 (pc' := 71) rfl rfl ?_
        refine go_virtualN C (as := [.int (1 : Int32)]) (rest := []) (W := 0) (sat_ref1 l Z a0 hw a_483 x1 (o_max (0 : Int32) x2) (1 : Int64) (1 : Int64) (0 : Int64) (0 : Int64)  _ _ ⟨E_527, F_528, F_529, F_530, F_531, F_532, F_533⟩ g_488) E_527 (wd hw 43 rfl) (wd hw 44 rfl) (wd hw 46 rfl) (wd hw 45 rfl) (wd hw 2 rfl) (wd hw 47 rfl) (by decide) pd_5 rfl rfl rfl (by decide) (by decide) (ce' := 3) (sl' := 113) rfl rfl (by decide) (by decide) at_71 (pc' := 74) rfl rfl ?_
        intro h_534 q_535
        rw [(by decide : (1 : Int64) + (1 : Int64) = (2 : Int64))] at q_535
        obtain ⟨E_536, F_537, F_538, F_539, F_540, F_541, F_542⟩ := q_535
        refine go_aload C at_74 (pc' := 76) rfl rfl rfl ?_
        refine go_iload C at_76 (pc' := 78) rfl rfl ?_
        refine go_virtualN C (as := [.int (0 : Int32)]) (rest := []) (W := 0) (sat_ref0 l Z a0 hw a_483 x1 (o_max (0 : Int32) x2) (2 : Int64) (2 : Int64) (0 : Int64) (0 : Int64)  _ _ ⟨E_536, F_537, F_538, F_539, F_540, F_541, F_542⟩ g_488) E_536 (wd hw 43 rfl) (wd hw 44 rfl) (wd hw 46 rfl) (wd hw 45 rfl) (wd hw 2 rfl) (wd hw 47 rfl) (by decide) pd_5 rfl rfl rfl (by decide) (by decide) (ce' := 3) (sl' := 113) rfl rfl (by decide) (by decide) at_78 (pc' := 81) rfl rfl ?_
        intro h_543 q_544
        rw [(by decide : (2 : Int64) + (1 : Int64) = (3 : Int64))] at q_544
        obtain ⟨E_545, F_546, F_547, F_548, F_549, F_550, F_551⟩ := q_544
        refine go_iload C at_81 (pc' := 83) rfl rfl ?_
        refine go_if0 C (1 : Int) (by decide) at_83 (by decide) (pc' := 90) (by decide) (pcN := 86) rfl (fun (c_552 : (1 : Int) = 0) => by omega) (fun (c_552 : ¬ (1 : Int) = 0) => ?_)
        refine go_lconst C (1 : Int64) at_86 (pc' := 87) rfl (by decide) ?_
        refine go_goto C at_87 (by decide) (pc' := 91) (by decide) ?_
        refine go_iload C at_91 (pc' := 93) rfl rfl ?_
        refine go_if0 C (1 : Int) (by decide) at_93 (by decide) (pc' := 100) (by decide) (pcN := 96) rfl (fun (c_553 : (1 : Int) = 0) => by omega) (fun (c_553 : ¬ (1 : Int) = 0) => ?_)
        refine go_lconst C (1 : Int64) at_96 (pc' := 97) rfl (by decide) ?_
        refine go_goto C at_97 (by decide) (pc' := 101) (by decide) ?_
        refine go_ladd C at_101 (pc' := 102) rfl ?_
        rw [(by decide : (1 : Int64) + (1 : Int64) = (2 : Int64))]
        refine go_iload C at_102 (pc' := 104) rfl rfl ?_
        refine go_if0 C (0 : Int) (by decide) at_104 (by decide) (pc' := 111) (by decide) (pcN := 107) rfl (fun (c_554 : (0 : Int) = 0) => ?_) (fun (c_554 : ¬ (0 : Int) = 0) => by omega)
        refine go_lconst C (0 : Int64) at_111 (pc' := 112) rfl (by decide) ?_
        refine go_ladd C at_112 (pc' := 113) rfl ?_
        rw [(by decide : (2 : Int64) + (0 : Int64) = (2 : Int64))]
        refine go_lstore C (Ls' := #[.val (.int x0), .val (.long x1), .second, .val (.int x2), .val (.int (1 : Int32)), .val (.int (1 : Int32)), .val (.int (0 : Int32)), .val (.ref a_483), .val (.long (2 : Int64)), .second]) at_113 (pc' := 115) rfl rfl ?_
        refine go_aload C at_115 (pc' := 117) rfl rfl rfl ?_
        refine go_virtualP C (as := []) (rest := []) (W := 0) (.long (3 : Int64)) (sat_rejectedCount l Z a0 hw a_483 _ _ _ F_548) E_545 (wd hw 50 rfl) (wd hw 51 rfl) (wd hw 53 rfl) (wd hw 52 rfl) (wd hw 2 rfl) (wd hw 54 rfl) (by decide) pd_6 rfl rfl rfl (by decide) (by decide) rfl rfl (by decide) (by decide) at_117 (pc' := 120) rfl rfl ?_
        refine go_ldc2 C (v := (3 : Int64)) (wd hw 55 rfl) at_120 (pc' := 123) rfl ?_
        refine go_lcmp C (3 : Int) (3 : Int) (by decide) (by decide) at_123 (pc1 := 124) rfl at_124 (by decide) (pc' := 129) (by decide) (pcN := 127) rfl (fun (c_555 : (3 : Int) = (3 : Int)) => ?_) (fun (c_555 : ¬ (3 : Int) = (3 : Int)) => by omega)
        refine go_aload C at_129 (pc' := 131) rfl rfl rfl ?_
        refine go_virtualP C (as := []) (rest := []) (W := 0) (.long (2 : Int64)) (sat_rejectedAtShutdownCount l Z a0 hw a_483 _ _ _ F_549) E_545 (wd hw 56 rfl) (wd hw 57 rfl) (wd hw 59 rfl) (wd hw 58 rfl) (wd hw 2 rfl) (wd hw 60 rfl) (by decide) pd_6 rfl rfl rfl (by decide) (by decide) rfl rfl (by decide) (by decide) at_131 (pc' := 134) rfl rfl ?_
        refine go_lload C at_134 (pc' := 136) rfl rfl ?_
        refine go_lcmp C (2 : Int) (2 : Int) (by decide) (by decide) at_136 (pc1 := 137) rfl at_137 (by decide) (pc' := 142) (by decide) (pcN := 140) rfl (fun (c_556 : (2 : Int) = (2 : Int)) => ?_) (fun (c_556 : ¬ (2 : Int) = (2 : Int)) => by omega)
        refine go_aload C at_142 (pc' := 144) rfl rfl rfl ?_
        refine go_virtualP C (as := []) (rest := []) (W := 0) (.long x1) (sat_submittedCount l Z a0 hw a_483 _ _ _ F_546) E_545 (wd hw 63 rfl) (wd hw 64 rfl) (wd hw 66 rfl) (wd hw 65 rfl) (wd hw 2 rfl) (wd hw 67 rfl) (by decide) pd_6 rfl rfl rfl (by decide) (by decide) rfl rfl (by decide) (by decide) at_144 (pc' := 147) rfl rfl ?_
        refine go_lloadN C at_147 (pc' := 148) rfl rfl ?_
        refine go_lcmp C x1.toInt x1.toInt rfl rfl at_148 (pc1 := 149) rfl at_149 (by decide) (pc' := 154) (by decide) (pcN := 152) rfl (fun (c_557 : x1.toInt = x1.toInt) => ?_) (fun (c_557 : ¬ x1.toInt = x1.toInt) => by omega)
        refine go_aload C at_154 (pc' := 156) rfl rfl rfl ?_
        refine go_virtualP C (as := []) (rest := []) (W := 0) (.int (o_max (0 : Int32) x2)) (sat_largestPoolSize l Z a0 hw a_483 _ _ _ F_547) E_545 (wd hw 68 rfl) (wd hw 69 rfl) (wd hw 71 rfl) (wd hw 70 rfl) (wd hw 2 rfl) (wd hw 72 rfl) (by decide) pd_7 rfl rfl rfl (by decide) (by decide) rfl rfl (by decide) (by decide) at_156 (pc' := 159) rfl rfl ?_
        refine go_iconst C (0 : Int32) at_159 (pc' := 160) rfl (by decide) ?_
        refine go_iloadN C at_160 (pc' := 161) rfl rfl ?_
        refine go_staticP C (as := [.int (0 : Int32), .int x2]) (rest := [.int (o_max (0 : Int32) x2)]) (W := 1) (.int (o_max (0 : Int32) x2)) (sat_max l Z a0 hw (0 : Int32) x2 _ _) (wd hw 73 rfl) (wd hw 40 rfl) (wd hw 41 rfl) (wd hw 42 rfl) (by decide) pd_4 rfl rfl rfl (by decide) (by decide) rfl rfl (by decide) (by decide) at_161 (pc' := 164) rfl rfl ?_
        refine go_icmp C ((o_max (0 : Int32) x2).toInt) ((o_max (0 : Int32) x2).toInt) rfl rfl at_164 (by decide) (pc' := 169) (by decide) (pcN := 167) rfl (fun (c_558 : ((o_max (0 : Int32) x2).toInt) = ((o_max (0 : Int32) x2).toInt)) => ?_) (fun (c_558 : ¬ ((o_max (0 : Int32) x2).toInt) = ((o_max (0 : Int32) x2).toInt)) => by omega)
        refine go_aload C at_169 (pc' := 171) rfl rfl rfl ?_
        refine go_virtualP C (as := []) (rest := []) (W := 0) (.long (0 : Int64)) (sat_completedCount l Z a0 hw a_483 _ _ _ F_550) E_545 (wd hw 74 rfl) (wd hw 75 rfl) (wd hw 77 rfl) (wd hw 76 rfl) (wd hw 2 rfl) (wd hw 78 rfl) (by decide) pd_6 rfl rfl rfl (by decide) (by decide) rfl rfl (by decide) (by decide) at_171 (pc' := 174) rfl rfl ?_
        refine go_lconst C (0 : Int64) at_174 (pc' := 175) rfl (by decide) ?_
        refine go_lcmp C (0 : Int) (0 : Int) (by decide) (by decide) at_175 (pc1 := 176) rfl at_176 (by decide) (pc' := 181) (by decide) (pcN := 179) rfl (fun (c_559 : (0 : Int) = (0 : Int)) => ?_) (fun (c_559 : ¬ (0 : Int) = (0 : Int)) => by omega)
        refine go_aload C at_181 (pc' := 183) rfl rfl rfl ?_
        refine go_virtualP C (as := []) (rest := []) (W := 0) (.long (0 : Int64)) (sat_failedCount l Z a0 hw a_483 _ _ _ F_551) E_545 (wd hw 81 rfl) (wd hw 82 rfl) (wd hw 84 rfl) (wd hw 83 rfl) (wd hw 2 rfl) (wd hw 85 rfl) (by decide) pd_6 rfl rfl rfl (by decide) (by decide) rfl rfl (by decide) (by decide) at_183 (pc' := 186) rfl rfl ?_
        refine go_lconst C (0 : Int64) at_186 (pc' := 187) rfl (by decide) ?_
        refine go_lcmp C (0 : Int) (0 : Int) (by decide) (by decide) at_187 (pc1 := 188) rfl at_188 (by decide) (pc' := 195) (by decide) (pcN := 191) rfl (fun (c_560 : ¬ (0 : Int) = (0 : Int)) => by omega) (fun (c_560 : (0 : Int) = (0 : Int)) => ?_)
        refine go_iconst C (1 : Int32) at_191 (pc' := 192) rfl (by decide) ?_
        refine go_goto C at_192 (by decide) (pc' := 196) (by decide) ?_
        refine go_ireturnN C (z' := (1 : Int32)) rfl (by simp) rfl at_196 (by decide) (by decide) ?_
        exact ⟨_, rfl, rfl⟩
      · skip
        refine go_iconst C (1 : Int32) at_32 (pc' := 33) rfl (by decide) ?_
        refine go_goto C at_33 (by decide) (pc' := 37) (by decide) ?_
        refine go_istore C (Ls' := #[.val (.int x0), .val (.long x1), .second, .val (.int x2), .val (.int (1 : Int32)), .val (.int (1 : Int32)), .val (.int (1 : Int32)), .unset, .unset, .unset]) at_37 (pc' := 39) rfl rfl ?_
        refine go_new C (wd hw 0 rfl) (wd hw 1 rfl) (wd hw 2 rfl) at_39 (pc' := 42) rfl (ce' := 1) (sl' := 41) rfl rfl (by decide) (by decide) ?_
        intro h_561 a_562 g_563 E_564 E_565 D_566
        have g_567 : Z.heap.size ≤ a_562 := own_ge (Nat.le_refl _) g_563
        have z_568 : Z.heap.size ≤ h_561.size := Nat.le_trans (Nat.le_refl _) E_564.1
        have F_569 : Fld Z h_561 a_562 "com/example/pufferfish/pufferfish/pool/PoolTally" "queueWait" "Lcom/example/pufferfish/pufferfish/pool/PoolTally$TimeSum;" (.null) := D_566 (Or.inr (wd hw 22 rfl)) (ty := (.object "com/example/pufferfish/pufferfish/pool/PoolTally$TimeSum")) (by decide)
        have F_570 : Fld Z h_561 a_562 "com/example/pufferfish/pufferfish/pool/PoolTally" "runTime" "Lcom/example/pufferfish/pufferfish/pool/PoolTally$TimeSum;" (.null) := D_566 (Or.inr (wd hw 24 rfl)) (ty := (.object "com/example/pufferfish/pufferfish/pool/PoolTally$TimeSum")) (by decide)
        have F_571 : Fld Z h_561 a_562 "com/example/pufferfish/pufferfish/pool/PoolTally" "submittedCount" "J" (.long (0 : Int64)) := D_566 (Or.inl (wd hw 31 rfl)) (ty := .long) (by decide)
        have F_572 : Fld Z h_561 a_562 "com/example/pufferfish/pufferfish/pool/PoolTally" "largestPoolSize" "I" (.int (0 : Int32)) := D_566 (Or.inl (wd hw 38 rfl)) (ty := .int) (by decide)
        have F_573 : Fld Z h_561 a_562 "com/example/pufferfish/pufferfish/pool/PoolTally" "rejectedCount" "J" (.long (0 : Int64)) := D_566 (Or.inl (wd hw 49 rfl)) (ty := .long) (by decide)
        have F_574 : Fld Z h_561 a_562 "com/example/pufferfish/pufferfish/pool/PoolTally" "rejectedAtShutdownCount" "J" (.long (0 : Int64)) := D_566 (Or.inl (wd hw 62 rfl)) (ty := .long) (by decide)
        have F_575 : Fld Z h_561 a_562 "com/example/pufferfish/pufferfish/pool/PoolTally" "completedCount" "J" (.long (0 : Int64)) := D_566 (Or.inl (wd hw 80 rfl)) (ty := .long) (by decide)
        have F_576 : Fld Z h_561 a_562 "com/example/pufferfish/pufferfish/pool/PoolTally" "failedCount" "J" (.long (0 : Int64)) := D_566 (Or.inl (wd hw 87 rfl)) (ty := .long) (by decide)
        refine go_dup C at_42 (pc' := 43) rfl rfl ?_
        refine go_specialN C (as := []) (rest := [.ref a_562]) (W := 1) (sat_pt l Z a0 hw a_562 _ _ E_565 F_569 F_570 F_571 F_572 F_573 F_574 F_575 F_576 g_567 z_568) rfl (wd hw 3 rfl) (wd hw 4 rfl) (wd hw 2 rfl) (wd hw 5 rfl) (by decide) pd_1 rfl rfl rfl (by decide) (by decide) (ce' := 3) (sl' := 113) rfl rfl (by decide) (by decide) at_43 (pc' := 46) rfl rfl ?_
        intro h_577 q_578
        obtain ⟨E_579, F_580, F_581, F_582, F_583, F_584, F_585⟩ := q_578
        refine go_astore C (Ls' := #[.val (.int x0), .val (.long x1), .second, .val (.int x2), .val (.int (1 : Int32)), .val (.int (1 : Int32)), .val (.int (1 : Int32)), .val (.ref a_562), .unset, .unset]) at_46 (pc' := 48) rfl rfl rfl ?_
        refine go_aload C at_48 (pc' := 50) rfl rfl rfl ?_
        refine go_lloadN C at_50 (pc' := 51) rfl rfl ?_
        refine go_virtualN C (as := [.long x1]) (rest := []) (W := 0) (sat_acc l Z a0 hw a_562 (0 : Int64) (0 : Int32) (0 : Int64) (0 : Int64) (0 : Int64) (0 : Int64) x1 _ _ ⟨E_579, F_580, F_581, F_582, F_583, F_584, F_585⟩ g_567) E_579 (wd hw 25 rfl) (wd hw 26 rfl) (wd hw 28 rfl) (wd hw 27 rfl) (wd hw 2 rfl) (wd hw 29 rfl) (by decide) pd_2 rfl rfl rfl (by decide) (by decide) (ce' := 3) (sl' := 113) rfl rfl (by decide) (by decide) at_51 (pc' := 54) rfl rfl ?_
        intro h_586 q_587
        rw [Int64.zero_add] at q_587
        obtain ⟨E_588, F_589, F_590, F_591, F_592, F_593, F_594⟩ := q_587
        refine go_aload C at_54 (pc' := 56) rfl rfl rfl ?_
        refine go_iloadN C at_56 (pc' := 57) rfl rfl ?_
        refine go_virtualN C (as := [.int x2]) (rest := []) (W := 0) (sat_thr l Z a0 hw a_562 x1 (0 : Int32) (0 : Int64) (0 : Int64) (0 : Int64) (0 : Int64) x2 _ _ ⟨E_588, F_589, F_590, F_591, F_592, F_593, F_594⟩ g_567) E_588 (wd hw 32 rfl) (wd hw 33 rfl) (wd hw 35 rfl) (wd hw 34 rfl) (wd hw 2 rfl) (wd hw 36 rfl) (by decide) pd_3 rfl rfl rfl (by decide) (by decide) (ce' := 3) (sl' := 113) rfl rfl (by decide) (by decide) at_57 (pc' := 60) rfl rfl ?_
        intro h_595 q_596
        obtain ⟨E_597, F_598, F_599, F_600, F_601, F_602, F_603⟩ := q_596
        refine go_aload C at_60 (pc' := 62) rfl rfl rfl ?_
        refine go_iload C at_62 (pc' := 64) rfl rfl ?_
        refine go_virtualN C (as := [.int (1 : Int32)]) (rest := []) (W := 0) (sat_ref1 l Z a0 hw a_562 x1 (o_max (0 : Int32) x2) (0 : Int64) (0 : Int64) (0 : Int64) (0 : Int64)  _ _ ⟨E_597, F_598, F_599, F_600, F_601, F_602, F_603⟩ g_567) E_597 (wd hw 43 rfl) (wd hw 44 rfl) (wd hw 46 rfl) (wd hw 45 rfl) (wd hw 2 rfl) (wd hw 47 rfl) (by decide) pd_5 rfl rfl rfl (by decide) (by decide) (ce' := 3) (sl' := 113) rfl rfl (by decide) (by decide) at_64 (pc' := 67) rfl rfl ?_
        intro h_604 q_605
        rw [(by decide : (0 : Int64) + (1 : Int64) = (1 : Int64))] at q_605
        obtain ⟨E_606, F_607, F_608, F_609, F_610, F_611, F_612⟩ := q_605
        refine go_aload C at_67 (pc' := 69) rfl rfl rfl ?_
        refine go_iload C at_69 (pc' := 71) rfl rfl ?_
        refine go_virtualN C (as := [.int (1 : Int32)]) (rest := []) (W := 0) (sat_ref1 l Z a0 hw a_562 x1 (o_max (0 : Int32) x2) (1 : Int64) (1 : Int64) (0 : Int64) (0 : Int64)  _ _ ⟨E_606, F_607, F_608, F_609, F_610, F_611, F_612⟩ g_567) E_606 (wd hw 43 rfl) (wd hw 44 rfl) (wd hw 46 rfl) (wd hw 45 rfl) (wd hw 2 rfl) (wd hw 47 rfl) (by decide) pd_5 rfl rfl rfl (by decide) (by decide) (ce' := 3) (sl' := 113) rfl rfl (by decide) (by decide) at_71 (pc' := 74) rfl rfl ?_
        intro h_613 q_614
        rw [(by decide : (1 : Int64) + (1 : Int64) = (2 : Int64))] at q_614
        obtain ⟨E_615, F_616, F_617, F_618, F_619, F_620, F_621⟩ := q_614
        refine go_aload C at_74 (pc' := 76) rfl rfl rfl ?_
        refine go_iload C at_76 (pc' := 78) rfl rfl ?_
        refine go_virtualN C (as := [.int (1 : Int32)]) (rest := []) (W := 0) (sat_ref1 l Z a0 hw a_562 x1 (o_max (0 : Int32) x2) (2 : Int64) (2 : Int64) (0 : Int64) (0 : Int64)  _ _ ⟨E_615, F_616, F_617, F_618, F_619, F_620, F_621⟩ g_567) E_615 (wd hw 43 rfl) (wd hw 44 rfl) (wd hw 46 rfl) (wd hw 45 rfl) (wd hw 2 rfl) (wd hw 47 rfl) (by decide) pd_5 rfl rfl rfl (by decide) (by decide) (ce' := 3) (sl' := 113) rfl rfl (by decide) (by decide) at_78 (pc' := 81) rfl rfl ?_
        intro h_622 q_623
        rw [(by decide : (2 : Int64) + (1 : Int64) = (3 : Int64))] at q_623
        obtain ⟨E_624, F_625, F_626, F_627, F_628, F_629, F_630⟩ := q_623
        refine go_iload C at_81 (pc' := 83) rfl rfl ?_
        refine go_if0 C (1 : Int) (by decide) at_83 (by decide) (pc' := 90) (by decide) (pcN := 86) rfl (fun (c_631 : (1 : Int) = 0) => by omega) (fun (c_631 : ¬ (1 : Int) = 0) => ?_)
        refine go_lconst C (1 : Int64) at_86 (pc' := 87) rfl (by decide) ?_
        refine go_goto C at_87 (by decide) (pc' := 91) (by decide) ?_
        refine go_iload C at_91 (pc' := 93) rfl rfl ?_
        refine go_if0 C (1 : Int) (by decide) at_93 (by decide) (pc' := 100) (by decide) (pcN := 96) rfl (fun (c_632 : (1 : Int) = 0) => by omega) (fun (c_632 : ¬ (1 : Int) = 0) => ?_)
        refine go_lconst C (1 : Int64) at_96 (pc' := 97) rfl (by decide) ?_
        refine go_goto C at_97 (by decide) (pc' := 101) (by decide) ?_
        refine go_ladd C at_101 (pc' := 102) rfl ?_
        rw [(by decide : (1 : Int64) + (1 : Int64) = (2 : Int64))]
        refine go_iload C at_102 (pc' := 104) rfl rfl ?_
        refine go_if0 C (1 : Int) (by decide) at_104 (by decide) (pc' := 111) (by decide) (pcN := 107) rfl (fun (c_633 : (1 : Int) = 0) => by omega) (fun (c_633 : ¬ (1 : Int) = 0) => ?_)
        refine go_lconst C (1 : Int64) at_107 (pc' := 108) rfl (by decide) ?_
        refine go_goto C at_108 (by decide) (pc' := 112) (by decide) ?_
        refine go_ladd C at_112 (pc' := 113) rfl ?_
        rw [(by decide : (2 : Int64) + (1 : Int64) = (3 : Int64))]
        refine go_lstore C (Ls' := #[.val (.int x0), .val (.long x1), .second, .val (.int x2), .val (.int (1 : Int32)), .val (.int (1 : Int32)), .val (.int (1 : Int32)), .val (.ref a_562), .val (.long (3 : Int64)), .second]) at_113 (pc' := 115) rfl rfl ?_
        refine go_aload C at_115 (pc' := 117) rfl rfl rfl ?_
        refine go_virtualP C (as := []) (rest := []) (W := 0) (.long (3 : Int64)) (sat_rejectedCount l Z a0 hw a_562 _ _ _ F_627) E_624 (wd hw 50 rfl) (wd hw 51 rfl) (wd hw 53 rfl) (wd hw 52 rfl) (wd hw 2 rfl) (wd hw 54 rfl) (by decide) pd_6 rfl rfl rfl (by decide) (by decide) rfl rfl (by decide) (by decide) at_117 (pc' := 120) rfl rfl ?_
        refine go_ldc2 C (v := (3 : Int64)) (wd hw 55 rfl) at_120 (pc' := 123) rfl ?_
        refine go_lcmp C (3 : Int) (3 : Int) (by decide) (by decide) at_123 (pc1 := 124) rfl at_124 (by decide) (pc' := 129) (by decide) (pcN := 127) rfl (fun (c_634 : (3 : Int) = (3 : Int)) => ?_) (fun (c_634 : ¬ (3 : Int) = (3 : Int)) => by omega)
        refine go_aload C at_129 (pc' := 131) rfl rfl rfl ?_
        refine go_virtualP C (as := []) (rest := []) (W := 0) (.long (3 : Int64)) (sat_rejectedAtShutdownCount l Z a0 hw a_562 _ _ _ F_628) E_624 (wd hw 56 rfl) (wd hw 57 rfl) (wd hw 59 rfl) (wd hw 58 rfl) (wd hw 2 rfl) (wd hw 60 rfl) (by decide) pd_6 rfl rfl rfl (by decide) (by decide) rfl rfl (by decide) (by decide) at_131 (pc' := 134) rfl rfl ?_
        refine go_lload C at_134 (pc' := 136) rfl rfl ?_
        refine go_lcmp C (3 : Int) (3 : Int) (by decide) (by decide) at_136 (pc1 := 137) rfl at_137 (by decide) (pc' := 142) (by decide) (pcN := 140) rfl (fun (c_635 : (3 : Int) = (3 : Int)) => ?_) (fun (c_635 : ¬ (3 : Int) = (3 : Int)) => by omega)
        refine go_aload C at_142 (pc' := 144) rfl rfl rfl ?_
        refine go_virtualP C (as := []) (rest := []) (W := 0) (.long x1) (sat_submittedCount l Z a0 hw a_562 _ _ _ F_625) E_624 (wd hw 63 rfl) (wd hw 64 rfl) (wd hw 66 rfl) (wd hw 65 rfl) (wd hw 2 rfl) (wd hw 67 rfl) (by decide) pd_6 rfl rfl rfl (by decide) (by decide) rfl rfl (by decide) (by decide) at_144 (pc' := 147) rfl rfl ?_
        refine go_lloadN C at_147 (pc' := 148) rfl rfl ?_
        refine go_lcmp C x1.toInt x1.toInt rfl rfl at_148 (pc1 := 149) rfl at_149 (by decide) (pc' := 154) (by decide) (pcN := 152) rfl (fun (c_636 : x1.toInt = x1.toInt) => ?_) (fun (c_636 : ¬ x1.toInt = x1.toInt) => by omega)
        refine go_aload C at_154 (pc' := 156) rfl rfl rfl ?_
        refine go_virtualP C (as := []) (rest := []) (W := 0) (.int (o_max (0 : Int32) x2)) (sat_largestPoolSize l Z a0 hw a_562 _ _ _ F_626) E_624 (wd hw 68 rfl) (wd hw 69 rfl) (wd hw 71 rfl) (wd hw 70 rfl) (wd hw 2 rfl) (wd hw 72 rfl) (by decide) pd_7 rfl rfl rfl (by decide) (by decide) rfl rfl (by decide) (by decide) at_156 (pc' := 159) rfl rfl ?_
        refine go_iconst C (0 : Int32) at_159 (pc' := 160) rfl (by decide) ?_
        refine go_iloadN C at_160 (pc' := 161) rfl rfl ?_
        refine go_staticP C (as := [.int (0 : Int32), .int x2]) (rest := [.int (o_max (0 : Int32) x2)]) (W := 1) (.int (o_max (0 : Int32) x2)) (sat_max l Z a0 hw (0 : Int32) x2 _ _) (wd hw 73 rfl) (wd hw 40 rfl) (wd hw 41 rfl) (wd hw 42 rfl) (by decide) pd_4 rfl rfl rfl (by decide) (by decide) rfl rfl (by decide) (by decide) at_161 (pc' := 164) rfl rfl ?_
        refine go_icmp C ((o_max (0 : Int32) x2).toInt) ((o_max (0 : Int32) x2).toInt) rfl rfl at_164 (by decide) (pc' := 169) (by decide) (pcN := 167) rfl (fun (c_637 : ((o_max (0 : Int32) x2).toInt) = ((o_max (0 : Int32) x2).toInt)) => ?_) (fun (c_637 : ¬ ((o_max (0 : Int32) x2).toInt) = ((o_max (0 : Int32) x2).toInt)) => by omega)
        refine go_aload C at_169 (pc' := 171) rfl rfl rfl ?_
        refine go_virtualP C (as := []) (rest := []) (W := 0) (.long (0 : Int64)) (sat_completedCount l Z a0 hw a_562 _ _ _ F_629) E_624 (wd hw 74 rfl) (wd hw 75 rfl) (wd hw 77 rfl) (wd hw 76 rfl) (wd hw 2 rfl) (wd hw 78 rfl) (by decide) pd_6 rfl rfl rfl (by decide) (by decide) rfl rfl (by decide) (by decide) at_171 (pc' := 174) rfl rfl ?_
        refine go_lconst C (0 : Int64) at_174 (pc' := 175) rfl (by decide) ?_
        refine go_lcmp C (0 : Int) (0 : Int) (by decide) (by decide) at_175 (pc1 := 176) rfl at_176 (by decide) (pc' := 181) (by decide) (pcN := 179) rfl (fun (c_638 : (0 : Int) = (0 : Int)) => ?_) (fun (c_638 : ¬ (0 : Int) = (0 : Int)) => by omega)
        refine go_aload C at_181 (pc' := 183) rfl rfl rfl ?_
        refine go_virtualP C (as := []) (rest := []) (W := 0) (.long (0 : Int64)) (sat_failedCount l Z a0 hw a_562 _ _ _ F_630) E_624 (wd hw 81 rfl) (wd hw 82 rfl) (wd hw 84 rfl) (wd hw 83 rfl) (wd hw 2 rfl) (wd hw 85 rfl) (by decide) pd_6 rfl rfl rfl (by decide) (by decide) rfl rfl (by decide) (by decide) at_183 (pc' := 186) rfl rfl ?_
        refine go_lconst C (0 : Int64) at_186 (pc' := 187) rfl (by decide) ?_
        refine go_lcmp C (0 : Int) (0 : Int) (by decide) (by decide) at_187 (pc1 := 188) rfl at_188 (by decide) (pc' := 195) (by decide) (pcN := 191) rfl (fun (c_639 : ¬ (0 : Int) = (0 : Int)) => by omega) (fun (c_639 : (0 : Int) = (0 : Int)) => ?_)
        refine go_iconst C (1 : Int32) at_191 (pc' := 192) rfl (by decide) ?_
        refine go_goto C at_192 (by decide) (pc' := 196) (by decide) ?_
        refine go_ireturnN C (z' := (1 : Int32)) rfl (by simp) rfl at_196 (by decide) (by decide) ?_
        exact ⟨_, rfl, rfl⟩
set_option maxRecDepth 65536 in
set_option maxHeartbeats 40000000 in
theorem comes_1 {Post : Tables → Env → Array Value → State → Outcome → State → Prop} (hpost : ∀ tb e args s v u, (limb_1_1.after args s (.returned v) u = true ∧ limb_1_2.after args s (.returned v) u = true ∧ True) → FrameEnd s (.returned v) u (Jvm.fieldLocs frame_1_writes args s ++ Jvm.arrayLocs frame_1_arrays args s ++ Jvm.staticLocs frame_1_statics s) 16 320 → Post tb e args s (.returned v) u) :
    ArmFor flags0 classFile x code maxLocals ret World_1 tables_1 room_1 Calls_1 rest_1 Pre_1 Post := by
  intro l hfl _ _ p e ha hc hk s m args below hf hA hF happ hP
  obtain ⟨hcalls, hrest, hpre⟩ := hP
  obtain ⟨-, -, -, hnamed, -, -, -, hat⟩ := (Spec.applies_iff hf).mp happ
  obtain ⟨hg, hn⟩ := and_e (Cond.before_iff.mp (show (Jvm.Cond.and given_1 narrow_1).before args s = true from hpre))
  obtain ⟨k0, g0⟩ := and_e hg
  obtain ⟨k1, g1⟩ := and_e g0
  obtain ⟨k2, g2⟩ := and_e g1
  obtain ⟨w0, w1, w2, rfl⟩ : ∃ w0 w1 w2 : Value, args = #[w0, w1, w2] := by
    have hs : args.size = 3 := by simpa [Cond.value, given_1] using k0
    obtain ⟨L⟩ := args
    match L, hs with
    | [w0, w1, w2], _ => exact ⟨w0, w1, w2, rfl⟩
  have hw := fun d (hd : d ∈ tables_1) => atoms_spec (ws := Jvm.Cond.code x code maxLocals ret :: tables_1) hat d (List.mem_cons_of_mem _ hd)
  obtain ⟨i0, e0⟩ := is_v k1
  obtain ⟨i1, e1⟩ := isL_v k2
  obtain ⟨i2, e2⟩ := is_v g2
  obtain rfl : w0 = (.int i0) := Option.some.inj e0
  obtain rfl : w1 = (.long i1) := Option.some.inj e1
  obtain rfl : w2 = (.int i2) := Option.some.inj e2
  obtain ⟨n, o, h1, h2, h3, _, L, rfl, ⟨⟨_, rfl, rfl⟩, N⟩, hq⟩ := law_sat l s _ hw i0 i1 i2 tables_1 p e ha hc hk s m _ below hf ((Spec.applies_iff_loose hf).mp happ).1 ⟨rfl, State.Warmed39.refl s, rfl⟩ trivial
  refine ⟨n, _, h1, h2, h3, hpost _ _ _ _ _ _ ⟨Cond.after_iff.mpr rfl, Cond.after_iff.mpr (eq_i res_at (Term.int_eval (1)) rfl), trivial⟩ ⟨hq.1, hq.2.1, (hq.2.2.sift fun y hy => Or.inr (N y hy)).mono (by decide) (by decide)⟩⟩
theorem main_1_1 : Claimed_1_1 := comes_1 fun _ _ _ _ _ _ h hF => ⟨h.1, hF⟩
theorem main_1_2 : Claimed_1_2 := comes_1 fun _ _ _ _ _ _ h hF => ⟨h.2.1, hF⟩
end Jvm.Pilot.@@N@@
namespace Jvm.Pilot.@@N@@
open Jvm Jvm.ClassFile Sem Op Lib Jvm.Free Jvm.Stand Jvm.Pilot.@@N@@.Jvm.D
/-! MADE BY PROGRAM (witnessworld.py) out of the Statement's table words and the real class files: 12 classes; the members and pool entries that the words name. The judged class is class 1, her method 1. -/
namespace start1
open Jvm.ClassFile
def u (s : String) : CpInfo := .utf8 (stringToUtf16 s)
/-- a pool by its gaps: so many unusable entries, then the entry; so many at the end -/
def gap : Nat → List CpInfo → List CpInfo
  | 0, r => r
  | n + 1, r => .unusable :: gap n r
def poolList (es : List (Nat × CpInfo)) (last : Nat) : List CpInfo := es.foldr (fun e r => gap e.1 (e.2 :: r)) (gap last [])
def pool (es : List (Nat × CpInfo)) (last : Nat) : Array CpInfo := ⟨poolList es last⟩
def fileOf (pool : Array CpInfo) (this : Nat) (attrs : Array Attribute := #[]) (ms : Array MethodInfo := #[]) (fl : Nat := 33) (sup : Nat := 0) (ifs : Array Nat := #[]) (fds : Array FieldInfo := #[]) : ClassFile where
  minorVersion := 0
  majorVersion := 65
  constantPool := pool
  accessFlags := fl
  thisClass := this
  superClass := sup
  interfaces := ifs
  fields := fds
  methods := ms
  attributes := attrs
def plain (name : String) (sup : Option ClassId) : Class where
  name := name
  kind := .ordinary
  loader := none
  accessFlags := 33
  super := sup
  interfaces := #[]
  cf := none
  fields := #[]
  methods := #[]
  instanceTypes := #[]
  staticTypes := #[]
  resolved := #[]
  callSites := []
  init := .initialized
  statics := none
  mirror := none

def pool0 : Array CpInfo := pool [(5, u "<init>"), (0, u "()V"), (1, .class_ 10), (1, u "java/lang/Object")] 113

def k0c0 : Code := { maxStack := 0, maxLocals := 1, code := object_method_1_code, exceptionTable := #[], attributes := #[] }
def k0m0 : Method := { name := "<init>", desc := "()V", sig := { parameters := [], returnType := none }, accessFlags := 1, code := some k0c0 }
/-- java/lang/Object -/
def k0 : Class := { plain "java/lang/Object" none with
  accessFlags := 33
  interfaces := #[]
  cf := some (fileOf pool0 8 #[] #[{ accessFlags := 1, nameIndex := 5, descriptorIndex := 6, attributes := #[] }] 33 0 #[] #[])
  fields := #[]
  methods := #[k0m0]
  instanceTypes := #[]
  staticTypes := #[]
  resolved := Array.replicate 124 none
  statics := none }

def pool1 : Array CpInfo := pool [(2, .class_ 4), (0, .nameAndType 5 6), (0, u "java/lang/Object"), (0, u "<init>"), (0, u "()V"), (0, .class_ 8), (0, u "com/example/pufferfish/pufferfish/pool/PoolTally"), (0, .methodref 7 3), (0, .methodref 7 11), (0, .nameAndType 12 13), (0, u "tasksAccepted"), (0, u "(J)V"), (0, .methodref 7 15), (0, .nameAndType 16 17), (0, u "threadStarted"), (0, u "(I)V"), (0, .methodref 7 19), (0, .nameAndType 20 21), (0, u "taskRefused"), (0, u "(Z)V"), (0, .methodref 7 23), (0, .nameAndType 24 25), (0, u "rejectedCount"), (0, u "()J"), (0, .long 3), (1, .methodref 7 29), (0, .nameAndType 30 25), (0, u "rejectedAtShutdownCount"), (0, .methodref 7 32), (0, .nameAndType 33 25), (0, u "submittedCount"), (0, .methodref 7 35), (0, .nameAndType 36 37), (0, u "largestPoolSize"), (0, u "()I"), (0, .methodref 39 40), (0, .class_ 41), (0, .nameAndType 42 43), (0, u "java/lang/Math"), (0, u "max"), (0, u "(II)I"), (0, .methodref 7 45), (0, .nameAndType 46 25), (0, u "completedCount"), (0, .methodref 7 48), (0, .nameAndType 49 25), (0, u "failedCount"), (0, .class_ 51), (0, u "com/example/pufferfish/pufferfish/pool/PoolTallyTaskRefusedPinLaw"), (2, u "law"), (0, u "(IJI)Z")] 3

def k1m0 : Method := { name := "<init>", desc := "()V", sig := { parameters := [], returnType := none }, accessFlags := 1, code := none }
def k1c1 : Code := { maxStack := 4, maxLocals := 10, code := code, exceptionTable := #[], attributes := #[] }
def k1m1 : Method := { name := "law", desc := "(IJI)Z", sig := { parameters := [.int, .long, .int], returnType := some .boolean }, accessFlags := 9, code := some k1c1 }
/-- com/example/pufferfish/pufferfish/pool/PoolTallyTaskRefusedPinLaw -/
def k1 : Class := { plain "com/example/pufferfish/pufferfish/pool/PoolTallyTaskRefusedPinLaw" (some 0) with
  accessFlags := 49
  interfaces := #[]
  cf := some (fileOf pool1 50 #[] #[{ accessFlags := 1, nameIndex := 5, descriptorIndex := 6, attributes := #[] }, { accessFlags := 9, nameIndex := 54, descriptorIndex := 55, attributes := #[] }] 49 2 #[] #[])
  fields := #[]
  methods := #[k1m0, k1m1]
  instanceTypes := #[]
  staticTypes := #[]
  resolved := Array.replicate 59 none
  statics := none }

def pool2 : Array CpInfo := pool [(1, .methodref 2 3), (0, .class_ 4), (0, .nameAndType 5 6), (0, u "java/lang/Object"), (0, u "<init>"), (0, u "()V"), (0, .class_ 8), (0, u "com/example/pufferfish/pufferfish/pool/LeadingPadding"), (0, u "gap"), (0, u "I"), (0, u "pad00"), (0, u "J"), (0, u "pad01"), (0, u "pad02"), (0, u "pad03"), (0, u "pad04"), (0, u "pad05"), (0, u "pad06"), (0, u "pad07"), (0, u "pad08"), (0, u "pad09"), (0, u "pad10"), (0, u "pad11"), (0, u "pad12"), (0, u "pad13"), (0, u "pad14"), (0, u "pad15")] 4

def k2c0 : Code := { maxStack := 1, maxLocals := 1, code := prog_10_method_1_code, exceptionTable := #[], attributes := #[] }
def k2m0 : Method := { name := "<init>", desc := "()V", sig := { parameters := [], returnType := none }, accessFlags := 0, code := some k2c0 }
/-- com/example/pufferfish/pufferfish/pool/LeadingPadding -/
def k2 : Class := { plain "com/example/pufferfish/pufferfish/pool/LeadingPadding" (some 0) with
  accessFlags := 1056
  interfaces := #[]
  cf := some (fileOf pool2 7 #[] #[{ accessFlags := 0, nameIndex := 5, descriptorIndex := 6, attributes := #[] }] 1056 2 #[] #[{ accessFlags := 2, nameIndex := 9, descriptorIndex := 10, attributes := #[] }, { accessFlags := 2, nameIndex := 11, descriptorIndex := 12, attributes := #[] }, { accessFlags := 2, nameIndex := 13, descriptorIndex := 12, attributes := #[] }, { accessFlags := 2, nameIndex := 14, descriptorIndex := 12, attributes := #[] }, { accessFlags := 2, nameIndex := 15, descriptorIndex := 12, attributes := #[] }, { accessFlags := 2, nameIndex := 16, descriptorIndex := 12, attributes := #[] }, { accessFlags := 2, nameIndex := 17, descriptorIndex := 12, attributes := #[] }, { accessFlags := 2, nameIndex := 18, descriptorIndex := 12, attributes := #[] }, { accessFlags := 2, nameIndex := 19, descriptorIndex := 12, attributes := #[] }, { accessFlags := 2, nameIndex := 20, descriptorIndex := 12, attributes := #[] }, { accessFlags := 2, nameIndex := 21, descriptorIndex := 12, attributes := #[] }, { accessFlags := 2, nameIndex := 22, descriptorIndex := 12, attributes := #[] }, { accessFlags := 2, nameIndex := 23, descriptorIndex := 12, attributes := #[] }, { accessFlags := 2, nameIndex := 24, descriptorIndex := 12, attributes := #[] }, { accessFlags := 2, nameIndex := 25, descriptorIndex := 12, attributes := #[] }, { accessFlags := 2, nameIndex := 26, descriptorIndex := 12, attributes := #[] }, { accessFlags := 2, nameIndex := 27, descriptorIndex := 12, attributes := #[] }])
  fields := #[{ name := "gap", type := .int, accessFlags := 2, slot := 0, constantValue := 0 }, { name := "pad00", type := .long, accessFlags := 2, slot := 1, constantValue := 0 }, { name := "pad01", type := .long, accessFlags := 2, slot := 2, constantValue := 0 }, { name := "pad02", type := .long, accessFlags := 2, slot := 3, constantValue := 0 }, { name := "pad03", type := .long, accessFlags := 2, slot := 4, constantValue := 0 }, { name := "pad04", type := .long, accessFlags := 2, slot := 5, constantValue := 0 }, { name := "pad05", type := .long, accessFlags := 2, slot := 6, constantValue := 0 }, { name := "pad06", type := .long, accessFlags := 2, slot := 7, constantValue := 0 }, { name := "pad07", type := .long, accessFlags := 2, slot := 8, constantValue := 0 }, { name := "pad08", type := .long, accessFlags := 2, slot := 9, constantValue := 0 }, { name := "pad09", type := .long, accessFlags := 2, slot := 10, constantValue := 0 }, { name := "pad10", type := .long, accessFlags := 2, slot := 11, constantValue := 0 }, { name := "pad11", type := .long, accessFlags := 2, slot := 12, constantValue := 0 }, { name := "pad12", type := .long, accessFlags := 2, slot := 13, constantValue := 0 }, { name := "pad13", type := .long, accessFlags := 2, slot := 14, constantValue := 0 }, { name := "pad14", type := .long, accessFlags := 2, slot := 15, constantValue := 0 }, { name := "pad15", type := .long, accessFlags := 2, slot := 16, constantValue := 0 }]
  methods := #[k2m0]
  instanceTypes := #[.int, .long, .long, .long, .long, .long, .long, .long, .long, .long, .long, .long, .long, .long, .long, .long, .long]
  staticTypes := #[]
  resolved := Array.replicate 32 none
  statics := none }

def pool3 : Array CpInfo := pool [(1, .methodref 2 3), (0, .class_ 4), (0, .nameAndType 5 6), (0, u "com/example/pufferfish/pufferfish/pool/LeadingPadding"), (0, u "<init>"), (0, u "()V"), (0, .class_ 8), (0, u "com/example/pufferfish/pufferfish/pool/PoolTally$TimeSum"), (0, .methodref 7 3), (0, .fieldref 11 12), (0, .class_ 13), (0, .nameAndType 14 15), (0, u "com/example/pufferfish/pufferfish/pool/PoolTally"), (0, u "queueWait"), (0, u "Lcom/example/pufferfish/pufferfish/pool/PoolTally$TimeSum;"), (0, .fieldref 11 17), (0, .nameAndType 18 15), (0, u "runTime"), (0, .fieldref 11 20), (0, .nameAndType 21 22), (0, u "largestPoolSize"), (0, u "I"), (0, .methodref 24 25), (0, .class_ 26), (0, .nameAndType 27 28), (0, u "java/lang/Math"), (0, u "max"), (0, u "(II)I"), (0, .fieldref 11 30), (0, .nameAndType 31 32), (0, u "submittedCount"), (0, u "J"), (3, u "(J)V"), (0, .fieldref 11 38), (0, .nameAndType 39 32), (0, u "completedCount"), (0, .fieldref 11 41), (0, .nameAndType 42 32), (0, u "failedCount"), (0, .fieldref 11 44), (0, .nameAndType 45 32), (0, u "rejectedCount"), (0, .fieldref 11 47), (0, .nameAndType 48 32), (0, u "rejectedAtShutdownCount"), (9, u "trailingPad00"), (0, u "trailingPad01"), (0, u "trailingPad02"), (0, u "trailingPad03"), (0, u "trailingPad04"), (0, u "trailingPad05"), (0, u "trailingPad06"), (0, u "trailingPad07"), (0, u "trailingPad08"), (0, u "trailingPad09"), (0, u "trailingPad10"), (0, u "trailingPad11"), (0, u "trailingPad12"), (0, u "trailingPad13"), (0, u "trailingPad14"), (0, u "trailingPad15"), (2, u "threadStarted"), (0, u "(I)V"), (1, u "tasksAccepted"), (4, u "taskRefused"), (0, u "(Z)V"), (1, u "()I"), (0, u "()J")] 9

def k3c0 : Code := { maxStack := 3, maxLocals := 1, code := prog_17_method_1_code, exceptionTable := #[], attributes := #[] }
def k3m0 : Method := { name := "<init>", desc := "()V", sig := { parameters := [], returnType := none }, accessFlags := 1, code := some k3c0 }
def k3c1 : Code := { maxStack := 3, maxLocals := 2, code := prog_17_method_2_code, exceptionTable := #[], attributes := #[] }
def k3m1 : Method := { name := "threadStarted", desc := "(I)V", sig := { parameters := [.int], returnType := none }, accessFlags := 1, code := some k3c1 }
def k3c2 : Code := { maxStack := 5, maxLocals := 3, code := prog_17_method_4_code, exceptionTable := #[], attributes := #[] }
def k3m2 : Method := { name := "tasksAccepted", desc := "(J)V", sig := { parameters := [.long], returnType := none }, accessFlags := 0, code := some k3c2 }
def k3c3 : Code := { maxStack := 5, maxLocals := 2, code := prog_17_method_7_code, exceptionTable := #[], attributes := #[] }
def k3m3 : Method := { name := "taskRefused", desc := "(Z)V", sig := { parameters := [.boolean], returnType := none }, accessFlags := 1, code := some k3c3 }
def k3c4 : Code := { maxStack := 1, maxLocals := 1, code := prog_17_method_9_code, exceptionTable := #[], attributes := #[] }
def k3m4 : Method := { name := "largestPoolSize", desc := "()I", sig := { parameters := [], returnType := some .int }, accessFlags := 0, code := some k3c4 }
def k3c5 : Code := { maxStack := 2, maxLocals := 1, code := prog_17_method_10_code, exceptionTable := #[], attributes := #[] }
def k3m5 : Method := { name := "submittedCount", desc := "()J", sig := { parameters := [], returnType := some .long }, accessFlags := 0, code := some k3c5 }
def k3c6 : Code := { maxStack := 2, maxLocals := 1, code := prog_17_method_11_code, exceptionTable := #[], attributes := #[] }
def k3m6 : Method := { name := "completedCount", desc := "()J", sig := { parameters := [], returnType := some .long }, accessFlags := 0, code := some k3c6 }
def k3c7 : Code := { maxStack := 2, maxLocals := 1, code := prog_17_method_12_code, exceptionTable := #[], attributes := #[] }
def k3m7 : Method := { name := "failedCount", desc := "()J", sig := { parameters := [], returnType := some .long }, accessFlags := 0, code := some k3c7 }
def k3c8 : Code := { maxStack := 2, maxLocals := 1, code := prog_17_method_13_code, exceptionTable := #[], attributes := #[] }
def k3m8 : Method := { name := "rejectedCount", desc := "()J", sig := { parameters := [], returnType := some .long }, accessFlags := 0, code := some k3c8 }
def k3c9 : Code := { maxStack := 2, maxLocals := 1, code := prog_17_method_14_code, exceptionTable := #[], attributes := #[] }
def k3m9 : Method := { name := "rejectedAtShutdownCount", desc := "()J", sig := { parameters := [], returnType := some .long }, accessFlags := 0, code := some k3c9 }
/-- com/example/pufferfish/pufferfish/pool/PoolTally -/
def k3 : Class := { plain "com/example/pufferfish/pufferfish/pool/PoolTally" (some 2) with
  accessFlags := 33
  interfaces := #[]
  cf := some (fileOf pool3 11 #[.nestMembers #[7]] #[{ accessFlags := 1, nameIndex := 5, descriptorIndex := 6, attributes := #[] }, { accessFlags := 1, nameIndex := 76, descriptorIndex := 77, attributes := #[] }, { accessFlags := 0, nameIndex := 79, descriptorIndex := 36, attributes := #[] }, { accessFlags := 1, nameIndex := 84, descriptorIndex := 85, attributes := #[] }, { accessFlags := 0, nameIndex := 21, descriptorIndex := 87, attributes := #[] }, { accessFlags := 0, nameIndex := 31, descriptorIndex := 88, attributes := #[] }, { accessFlags := 0, nameIndex := 39, descriptorIndex := 88, attributes := #[] }, { accessFlags := 0, nameIndex := 42, descriptorIndex := 88, attributes := #[] }, { accessFlags := 0, nameIndex := 45, descriptorIndex := 88, attributes := #[] }, { accessFlags := 0, nameIndex := 48, descriptorIndex := 88, attributes := #[] }] 33 2 #[] #[{ accessFlags := 2, nameIndex := 21, descriptorIndex := 22, attributes := #[] }, { accessFlags := 2, nameIndex := 31, descriptorIndex := 32, attributes := #[] }, { accessFlags := 2, nameIndex := 39, descriptorIndex := 32, attributes := #[] }, { accessFlags := 2, nameIndex := 42, descriptorIndex := 32, attributes := #[] }, { accessFlags := 2, nameIndex := 45, descriptorIndex := 32, attributes := #[] }, { accessFlags := 2, nameIndex := 48, descriptorIndex := 32, attributes := #[] }, { accessFlags := 2, nameIndex := 58, descriptorIndex := 32, attributes := #[] }, { accessFlags := 2, nameIndex := 59, descriptorIndex := 32, attributes := #[] }, { accessFlags := 2, nameIndex := 60, descriptorIndex := 32, attributes := #[] }, { accessFlags := 2, nameIndex := 61, descriptorIndex := 32, attributes := #[] }, { accessFlags := 2, nameIndex := 62, descriptorIndex := 32, attributes := #[] }, { accessFlags := 2, nameIndex := 63, descriptorIndex := 32, attributes := #[] }, { accessFlags := 2, nameIndex := 64, descriptorIndex := 32, attributes := #[] }, { accessFlags := 2, nameIndex := 65, descriptorIndex := 32, attributes := #[] }, { accessFlags := 2, nameIndex := 66, descriptorIndex := 32, attributes := #[] }, { accessFlags := 2, nameIndex := 67, descriptorIndex := 32, attributes := #[] }, { accessFlags := 2, nameIndex := 68, descriptorIndex := 32, attributes := #[] }, { accessFlags := 2, nameIndex := 69, descriptorIndex := 32, attributes := #[] }, { accessFlags := 2, nameIndex := 70, descriptorIndex := 32, attributes := #[] }, { accessFlags := 2, nameIndex := 71, descriptorIndex := 32, attributes := #[] }, { accessFlags := 2, nameIndex := 72, descriptorIndex := 32, attributes := #[] }, { accessFlags := 2, nameIndex := 73, descriptorIndex := 32, attributes := #[] }, { accessFlags := 18, nameIndex := 14, descriptorIndex := 15, attributes := #[] }, { accessFlags := 18, nameIndex := 18, descriptorIndex := 15, attributes := #[] }])
  fields := #[{ name := "largestPoolSize", type := .int, accessFlags := 2, slot := 17, constantValue := 0 }, { name := "submittedCount", type := .long, accessFlags := 2, slot := 18, constantValue := 0 }, { name := "completedCount", type := .long, accessFlags := 2, slot := 19, constantValue := 0 }, { name := "failedCount", type := .long, accessFlags := 2, slot := 20, constantValue := 0 }, { name := "rejectedCount", type := .long, accessFlags := 2, slot := 21, constantValue := 0 }, { name := "rejectedAtShutdownCount", type := .long, accessFlags := 2, slot := 22, constantValue := 0 }, { name := "trailingPad00", type := .long, accessFlags := 2, slot := 23, constantValue := 0 }, { name := "trailingPad01", type := .long, accessFlags := 2, slot := 24, constantValue := 0 }, { name := "trailingPad02", type := .long, accessFlags := 2, slot := 25, constantValue := 0 }, { name := "trailingPad03", type := .long, accessFlags := 2, slot := 26, constantValue := 0 }, { name := "trailingPad04", type := .long, accessFlags := 2, slot := 27, constantValue := 0 }, { name := "trailingPad05", type := .long, accessFlags := 2, slot := 28, constantValue := 0 }, { name := "trailingPad06", type := .long, accessFlags := 2, slot := 29, constantValue := 0 }, { name := "trailingPad07", type := .long, accessFlags := 2, slot := 30, constantValue := 0 }, { name := "trailingPad08", type := .long, accessFlags := 2, slot := 31, constantValue := 0 }, { name := "trailingPad09", type := .long, accessFlags := 2, slot := 32, constantValue := 0 }, { name := "trailingPad10", type := .long, accessFlags := 2, slot := 33, constantValue := 0 }, { name := "trailingPad11", type := .long, accessFlags := 2, slot := 34, constantValue := 0 }, { name := "trailingPad12", type := .long, accessFlags := 2, slot := 35, constantValue := 0 }, { name := "trailingPad13", type := .long, accessFlags := 2, slot := 36, constantValue := 0 }, { name := "trailingPad14", type := .long, accessFlags := 2, slot := 37, constantValue := 0 }, { name := "trailingPad15", type := .long, accessFlags := 2, slot := 38, constantValue := 0 }, { name := "queueWait", type := (.object "com/example/pufferfish/pufferfish/pool/PoolTally$TimeSum"), accessFlags := 18, slot := 39, constantValue := 0 }, { name := "runTime", type := (.object "com/example/pufferfish/pufferfish/pool/PoolTally$TimeSum"), accessFlags := 18, slot := 40, constantValue := 0 }]
  methods := #[k3m0, k3m1, k3m2, k3m3, k3m4, k3m5, k3m6, k3m7, k3m8, k3m9]
  instanceTypes := #[.int, .long, .long, .long, .long, .long, .long, .long, .long, .long, .long, .long, .long, .long, .long, .long, .long, .int, .long, .long, .long, .long, .long, .long, .long, .long, .long, .long, .long, .long, .long, .long, .long, .long, .long, .long, .long, .long, .long, (.object "com/example/pufferfish/pufferfish/pool/PoolTally$TimeSum"), (.object "com/example/pufferfish/pufferfish/pool/PoolTally$TimeSum")]
  staticTypes := #[]
  resolved := ((Array.replicate 98 none).setIfInBounds 7 (some (.cls 4))).setIfInBounds 9 (some (.method ⟨4, 0⟩))
  statics := none }

def pool4 : Array CpInfo := pool [(1, .methodref 2 3), (0, .class_ 4), (0, .nameAndType 5 6), (0, u "com/example/pufferfish/pufferfish/pool/LeadingPadding"), (0, u "<init>"), (0, u "()V"), (7, .class_ 16), (1, u "com/example/pufferfish/pufferfish/pool/PoolTally$TimeSum"), (4, u "maxNanos"), (0, u "J"), (2, u "seconds"), (2, u "nanos"), (14, u "NANOS_PER_SECOND"), (1, u "CARRY_NANOS"), (0, u "trailingPad00"), (0, u "trailingPad01"), (0, u "trailingPad02"), (0, u "trailingPad03"), (0, u "trailingPad04"), (0, u "trailingPad05"), (0, u "trailingPad06"), (0, u "trailingPad07"), (0, u "trailingPad08"), (0, u "trailingPad09"), (0, u "trailingPad10"), (0, u "trailingPad11"), (0, u "trailingPad12"), (0, u "trailingPad13"), (0, u "trailingPad14"), (0, u "trailingPad15"), (10, .class_ 73), (0, u "com/example/pufferfish/pufferfish/pool/PoolTally")] 2

def k4c0 : Code := { maxStack := 1, maxLocals := 1, code := prog_18_method_1_code, exceptionTable := #[], attributes := #[] }
def k4m0 : Method := { name := "<init>", desc := "()V", sig := { parameters := [], returnType := none }, accessFlags := 2, code := some k4c0 }
/-- com/example/pufferfish/pufferfish/pool/PoolTally$TimeSum -/
def k4 : Class := { plain "com/example/pufferfish/pufferfish/pool/PoolTally$TimeSum" (some 2) with
  accessFlags := 32
  interfaces := #[]
  cf := some (fileOf pool4 14 #[.nestHost 72] #[{ accessFlags := 2, nameIndex := 5, descriptorIndex := 6, attributes := #[] }] 32 2 #[] #[{ accessFlags := 26, nameIndex := 43, descriptorIndex := 22, attributes := #[] }, { accessFlags := 26, nameIndex := 45, descriptorIndex := 22, attributes := #[] }, { accessFlags := 2, nameIndex := 25, descriptorIndex := 22, attributes := #[] }, { accessFlags := 2, nameIndex := 28, descriptorIndex := 22, attributes := #[] }, { accessFlags := 2, nameIndex := 21, descriptorIndex := 22, attributes := #[] }, { accessFlags := 2, nameIndex := 46, descriptorIndex := 22, attributes := #[] }, { accessFlags := 2, nameIndex := 47, descriptorIndex := 22, attributes := #[] }, { accessFlags := 2, nameIndex := 48, descriptorIndex := 22, attributes := #[] }, { accessFlags := 2, nameIndex := 49, descriptorIndex := 22, attributes := #[] }, { accessFlags := 2, nameIndex := 50, descriptorIndex := 22, attributes := #[] }, { accessFlags := 2, nameIndex := 51, descriptorIndex := 22, attributes := #[] }, { accessFlags := 2, nameIndex := 52, descriptorIndex := 22, attributes := #[] }, { accessFlags := 2, nameIndex := 53, descriptorIndex := 22, attributes := #[] }, { accessFlags := 2, nameIndex := 54, descriptorIndex := 22, attributes := #[] }, { accessFlags := 2, nameIndex := 55, descriptorIndex := 22, attributes := #[] }, { accessFlags := 2, nameIndex := 56, descriptorIndex := 22, attributes := #[] }, { accessFlags := 2, nameIndex := 57, descriptorIndex := 22, attributes := #[] }, { accessFlags := 2, nameIndex := 58, descriptorIndex := 22, attributes := #[] }, { accessFlags := 2, nameIndex := 59, descriptorIndex := 22, attributes := #[] }, { accessFlags := 2, nameIndex := 60, descriptorIndex := 22, attributes := #[] }, { accessFlags := 2, nameIndex := 61, descriptorIndex := 22, attributes := #[] }])
  fields := #[{ name := "NANOS_PER_SECOND", type := .long, accessFlags := 26, slot := 0, constantValue := 0 }, { name := "CARRY_NANOS", type := .long, accessFlags := 26, slot := 1, constantValue := 0 }, { name := "seconds", type := .long, accessFlags := 2, slot := 17, constantValue := 0 }, { name := "nanos", type := .long, accessFlags := 2, slot := 18, constantValue := 0 }, { name := "maxNanos", type := .long, accessFlags := 2, slot := 19, constantValue := 0 }, { name := "trailingPad00", type := .long, accessFlags := 2, slot := 20, constantValue := 0 }, { name := "trailingPad01", type := .long, accessFlags := 2, slot := 21, constantValue := 0 }, { name := "trailingPad02", type := .long, accessFlags := 2, slot := 22, constantValue := 0 }, { name := "trailingPad03", type := .long, accessFlags := 2, slot := 23, constantValue := 0 }, { name := "trailingPad04", type := .long, accessFlags := 2, slot := 24, constantValue := 0 }, { name := "trailingPad05", type := .long, accessFlags := 2, slot := 25, constantValue := 0 }, { name := "trailingPad06", type := .long, accessFlags := 2, slot := 26, constantValue := 0 }, { name := "trailingPad07", type := .long, accessFlags := 2, slot := 27, constantValue := 0 }, { name := "trailingPad08", type := .long, accessFlags := 2, slot := 28, constantValue := 0 }, { name := "trailingPad09", type := .long, accessFlags := 2, slot := 29, constantValue := 0 }, { name := "trailingPad10", type := .long, accessFlags := 2, slot := 30, constantValue := 0 }, { name := "trailingPad11", type := .long, accessFlags := 2, slot := 31, constantValue := 0 }, { name := "trailingPad12", type := .long, accessFlags := 2, slot := 32, constantValue := 0 }, { name := "trailingPad13", type := .long, accessFlags := 2, slot := 33, constantValue := 0 }, { name := "trailingPad14", type := .long, accessFlags := 2, slot := 34, constantValue := 0 }, { name := "trailingPad15", type := .long, accessFlags := 2, slot := 35, constantValue := 0 }]
  methods := #[k4m0]
  instanceTypes := #[.int, .long, .long, .long, .long, .long, .long, .long, .long, .long, .long, .long, .long, .long, .long, .long, .long, .long, .long, .long, .long, .long, .long, .long, .long, .long, .long, .long, .long, .long, .long, .long, .long, .long, .long, .long]
  staticTypes := #[.long, .long]
  resolved := Array.replicate 76 none
  statics := none }

def pool5 : Array CpInfo := pool [(1, .class_ 2), (0, u "java/lang/Math"), (1, .class_ 6), (1, u "java/lang/Object"), (0, u "<init>"), (0, u "()V"), (89, .class_ 100), (1, u "java/lang/Math$RandomNumberGeneratorHolder"), (71, u "negativeZeroFloatBits"), (0, u "J"), (2, u "negativeZeroDoubleBits"), (21, u "max"), (46, u "$assertionsDisabled"), (0, u "Z"), (88, u "(II)I"), (2, u "twoToTheDoubleScaleDown"), (0, u "D"), (4, u "twoToTheDoubleScaleUp"), (9, u "E"), (3, u "PI"), (2, u "TAU"), (2, u "DEGREES_TO_RADIANS"), (0, u "RADIANS_TO_DEGREES")] 94

def k5m0 : Method := { name := "<init>", desc := "()V", sig := { parameters := [], returnType := none }, accessFlags := 2, code := none }
def k5c1 : Code := { maxStack := 2, maxLocals := 2, code := jdk_29_method_65_code, exceptionTable := #[], attributes := #[] }
def k5m1 : Method := { name := "max", desc := "(II)I", sig := { parameters := [.int, .int], returnType := some .int }, accessFlags := 9, code := some k5c1 }
/-- java/lang/Math -/
def k5 : Class := { plain "java/lang/Math" (some 0) with
  accessFlags := 49
  interfaces := #[]
  cf := some (fileOf pool5 1 #[.nestMembers #[98]] #[{ accessFlags := 2, nameIndex := 7, descriptorIndex := 8, attributes := #[] }, { accessFlags := 9, nameIndex := 198, descriptorIndex := 335, attributes := #[] }] 49 4 #[] #[{ accessFlags := 25, nameIndex := 354, descriptorIndex := 339, attributes := #[] }, { accessFlags := 25, nameIndex := 358, descriptorIndex := 339, attributes := #[] }, { accessFlags := 25, nameIndex := 361, descriptorIndex := 339, attributes := #[] }, { accessFlags := 26, nameIndex := 364, descriptorIndex := 339, attributes := #[] }, { accessFlags := 26, nameIndex := 365, descriptorIndex := 339, attributes := #[] }, { accessFlags := 26, nameIndex := 172, descriptorIndex := 173, attributes := #[] }, { accessFlags := 26, nameIndex := 176, descriptorIndex := 173, attributes := #[] }, { accessFlags := 8, nameIndex := 344, descriptorIndex := 339, attributes := #[] }, { accessFlags := 8, nameIndex := 338, descriptorIndex := 339, attributes := #[] }, { accessFlags := 4120, nameIndex := 245, descriptorIndex := 246, attributes := #[] }])
  fields := #[{ name := "E", type := .double, accessFlags := 25, slot := 0, constantValue := 0 }, { name := "PI", type := .double, accessFlags := 25, slot := 1, constantValue := 0 }, { name := "TAU", type := .double, accessFlags := 25, slot := 2, constantValue := 0 }, { name := "DEGREES_TO_RADIANS", type := .double, accessFlags := 26, slot := 3, constantValue := 0 }, { name := "RADIANS_TO_DEGREES", type := .double, accessFlags := 26, slot := 4, constantValue := 0 }, { name := "negativeZeroFloatBits", type := .long, accessFlags := 26, slot := 5, constantValue := 0 }, { name := "negativeZeroDoubleBits", type := .long, accessFlags := 26, slot := 6, constantValue := 0 }, { name := "twoToTheDoubleScaleUp", type := .double, accessFlags := 8, slot := 7, constantValue := 0 }, { name := "twoToTheDoubleScaleDown", type := .double, accessFlags := 8, slot := 8, constantValue := 0 }, { name := "$assertionsDisabled", type := .boolean, accessFlags := 4120, slot := 9, constantValue := 0 }]
  methods := #[k5m0, k5m1]
  instanceTypes := #[]
  staticTypes := #[.double, .double, .double, .double, .double, .long, .long, .double, .double, .boolean]
  resolved := Array.replicate 460 none
  statics := none }

def pool6 : Array CpInfo := pool [(1, u "java/lang/Cloneable"), (0, .class_ 1), (0, u "java/lang/Object"), (0, .class_ 3)] 3

/-- java/lang/Cloneable -/
def k6 : Class := { plain "java/lang/Cloneable" (some 0) with
  accessFlags := 1537
  interfaces := #[]
  cf := some (fileOf pool6 2 #[] #[] 1537 4 #[] #[])
  fields := #[]
  methods := #[]
  instanceTypes := #[]
  staticTypes := #[]
  resolved := Array.replicate 8 none
  statics := none }

def pool7 : Array CpInfo := pool [(1, u "java/io/Serializable"), (0, .class_ 1), (0, u "java/lang/Object"), (0, .class_ 3)] 3

/-- java/io/Serializable -/
def k7 : Class := { plain "java/io/Serializable" (some 0) with
  accessFlags := 1537
  interfaces := #[]
  cf := some (fileOf pool7 2 #[] #[] 1537 4 #[] #[])
  fields := #[]
  methods := #[]
  instanceTypes := #[]
  staticTypes := #[]
  resolved := Array.replicate 8 none
  statics := none }

/-- the primitive byte -/
def k8 : Class := { plain "byte" none with kind := .primitive 'B', accessFlags := 0x411 }
/-- [B -/
def k9 : Class := { plain "[B" (some 0) with kind := .array 8 .byte, interfaces := #[6, 7], accessFlags := 1041 }

/-- the primitive int -/
def k10 : Class := { plain "int" none with kind := .primitive 'I', accessFlags := 0x411 }
/-- [I -/
def k11 : Class := { plain "[I" (some 0) with kind := .array 10 .int, interfaces := #[6, 7], accessFlags := 1041 }

def heap : Heap := #[]
def classes : Array Class := #[k0, k1, k2, k3, k4, k5, k6, k7, k8, k9, k10, k11]
def interned : List (Array UInt16 × Addr) := []
def slotsUsed : Nat := 0
def theMethod : MethodId := ⟨1, 1⟩
def args0 : Array Value := #[.int 3, .long 6, .int 5]
def aboutOver (below : List Frame) : State where
  vm := { classes := classes, interned := interned.toArray }
  heap := heap
  slotsUsed := slotsUsed
  threads := #[{ frames := .invoking theMethod args0 :: below }]
def below0 : List Frame := [.native { method := ⟨0, 0⟩, args := #[] }]
def about1 : State := aboutOver below0
def p0 : Program := .bare "" "" ""
def e0 : Env := launch0.env 0 0 0
theorem w_frames : about1.frames = Frame.invoking theMethod args0 :: below0 := rfl
set_option maxRecDepth 65536 in
theorem w_args : argsFit about1.vm theMethod args0 = true := by decide +kernel
set_option maxRecDepth 65536 in
theorem w_heap : heapFits about1 = true := by decide +kernel
set_option maxRecDepth 65536 in
theorem w_runnable : about1.curStatus? = some .runnable := by decide +kernel
set_option maxRecDepth 65536 in
theorem w_alone : about1.alone = true := by decide +kernel
set_option maxRecDepth 65536 in
theorem w_named : about1.methodNamed? x = some theMethod := by decide +kernel
set_option maxRecDepth 65536 in
theorem w_hears : about1.hears theMethod below0 = true := by decide +kernel
set_option maxRecDepth 65536 in
theorem w_ripe : about1.ripe theMethod args0 below0 = true := by decide +kernel
theorem w_running : about1.status = .running := rfl
set_option maxRecDepth 65536 in
theorem w_room : about1.hasRoom e0.platform room_1 = true :=
  launch0.hasRoom_least _ room_1 (by decide +kernel) (by decide +kernel) (by decide +kernel) (by decide +kernel) (by decide +kernel) (by decide +kernel)
theorem allAtoms_all (ts : List Jvm.Cond) (a : Array Jvm.Value) (st : Jvm.State) : (allAtoms ts).before a st = ts.all (fun c => c.before a st) := by
  induction ts with
  | nil => rfl
  | cons c t ih =>
    show (Jvm.Cond.and c (allAtoms t)).before a st = _
    rw [Jvm.Cond.before_and, ih, List.all_cons]
def words1 : List Jvm.Cond := Jvm.Cond.code x code maxLocals ret :: tables_1
/-- a 'code' word, met by the world's own term for the bytes: nothing is compared byte by byte -/
theorem code_word {y : MethodName} {bytes : ByteArray} {mx : Nat} {rt : Option FieldType} {a : Array Value} {s : State} {m : MethodId} {meth : Method} {c : Code} (h1 : s.methodNamed? y = some m) (h2 : s.vm.method? m = some meth) (h3 : meth.code = some c) (h4 : c.code = bytes)
    (h5 : (c.maxLocals == mx && c.exceptionTable.isEmpty && decide (c.maxStack ≤ mostOperands) && decide (meth.sig.returnType = rt) && !meth.locks && decide (parseMethodDescriptor y.desc = some meth.sig)) = true) : (Jvm.Cond.code y bytes mx rt).before a s = true := by
  simp only [Bool.and_eq_true, beq_iff_eq, Bool.not_eq_true', decide_eq_true_eq] at h5
  obtain ⟨⟨⟨⟨⟨g1, g2⟩, g3⟩, g4⟩, g5⟩, g6⟩ := h5
  simp [Cond.before, Cond.holds, Cond.value, h1, h2, h3, h4, g1, g2, g3, g4, g5, g6]
def isCode : Jvm.Cond → Bool
  | .code _ _ _ _ => true
  | _ => false
theorem all_split {L : List Jvm.Cond} {P : Jvm.Cond → Bool} (h1 : L.all (fun c => isCode c || P c) = true) (h2 : ∀ c ∈ L.filter isCode, P c = true) : L.all P = true := by
  refine List.all_eq_true.mpr fun c hc => ?_
  have h := List.all_eq_true.mp h1 c hc
  rcases Bool.eq_false_or_eq_true (isCode c) with hi | hi
  · exact h2 c (List.mem_filter.mpr ⟨hc, hi⟩)
  · simpa [hi] using h
set_option maxRecDepth 65536 in
theorem w_c0 : (Jvm.Cond.code x code maxLocals ret).before args0 about1 = true := code_word (m := ⟨1, 1⟩) (meth := k1m1) (c := k1c1) (by decide +kernel) rfl rfl rfl (by decide +kernel)
set_option maxRecDepth 65536 in
theorem w_c1 : (Jvm.Cond.code ({ cls := "com/example/pufferfish/pufferfish/pool/PoolTally", name := "<init>", desc := "()V" } : Jvm.MethodName) prog_17_method_1_code (1 : Nat) (Option.none : Option Jvm.ClassFile.FieldType)).before args0 about1 = true := code_word (m := ⟨3, 0⟩) (meth := k3m0) (c := k3c0) (by decide +kernel) rfl rfl rfl (by decide +kernel)
set_option maxRecDepth 65536 in
theorem w_c2 : (Jvm.Cond.code ({ cls := "com/example/pufferfish/pufferfish/pool/LeadingPadding", name := "<init>", desc := "()V" } : Jvm.MethodName) prog_10_method_1_code (1 : Nat) (Option.none : Option Jvm.ClassFile.FieldType)).before args0 about1 = true := code_word (m := ⟨2, 0⟩) (meth := k2m0) (c := k2c0) (by decide +kernel) rfl rfl rfl (by decide +kernel)
set_option maxRecDepth 65536 in
theorem w_c3 : (Jvm.Cond.code ({ cls := "java/lang/Object", name := "<init>", desc := "()V" } : Jvm.MethodName) object_method_1_code (1 : Nat) (Option.none : Option Jvm.ClassFile.FieldType)).before args0 about1 = true := code_word (m := ⟨0, 0⟩) (meth := k0m0) (c := k0c0) (by decide +kernel) rfl rfl rfl (by decide +kernel)
set_option maxRecDepth 65536 in
theorem w_c4 : (Jvm.Cond.code ({ cls := "com/example/pufferfish/pufferfish/pool/PoolTally$TimeSum", name := "<init>", desc := "()V" } : Jvm.MethodName) prog_18_method_1_code (1 : Nat) (Option.none : Option Jvm.ClassFile.FieldType)).before args0 about1 = true := code_word (m := ⟨4, 0⟩) (meth := k4m0) (c := k4c0) (by decide +kernel) rfl rfl rfl (by decide +kernel)
set_option maxRecDepth 65536 in
theorem w_c5 : (Jvm.Cond.code ({ cls := "com/example/pufferfish/pufferfish/pool/PoolTally", name := "tasksAccepted", desc := "(J)V" } : Jvm.MethodName) prog_17_method_4_code (3 : Nat) (Option.none : Option Jvm.ClassFile.FieldType)).before args0 about1 = true := code_word (m := ⟨3, 2⟩) (meth := k3m2) (c := k3c2) (by decide +kernel) rfl rfl rfl (by decide +kernel)
set_option maxRecDepth 65536 in
theorem w_c6 : (Jvm.Cond.code ({ cls := "com/example/pufferfish/pufferfish/pool/PoolTally", name := "threadStarted", desc := "(I)V" } : Jvm.MethodName) prog_17_method_2_code (2 : Nat) (Option.none : Option Jvm.ClassFile.FieldType)).before args0 about1 = true := code_word (m := ⟨3, 1⟩) (meth := k3m1) (c := k3c1) (by decide +kernel) rfl rfl rfl (by decide +kernel)
set_option maxRecDepth 65536 in
theorem w_c7 : (Jvm.Cond.code ({ cls := "java/lang/Math", name := "max", desc := "(II)I" } : Jvm.MethodName) jdk_29_method_65_code (2 : Nat) (Option.some Jvm.ClassFile.FieldType.int)).before args0 about1 = true := code_word (m := ⟨5, 1⟩) (meth := k5m1) (c := k5c1) (by decide +kernel) rfl rfl rfl (by decide +kernel)
set_option maxRecDepth 65536 in
theorem w_c8 : (Jvm.Cond.code ({ cls := "com/example/pufferfish/pufferfish/pool/PoolTally", name := "taskRefused", desc := "(Z)V" } : Jvm.MethodName) prog_17_method_7_code (2 : Nat) (Option.none : Option Jvm.ClassFile.FieldType)).before args0 about1 = true := code_word (m := ⟨3, 3⟩) (meth := k3m3) (c := k3c3) (by decide +kernel) rfl rfl rfl (by decide +kernel)
set_option maxRecDepth 65536 in
theorem w_c9 : (Jvm.Cond.code ({ cls := "com/example/pufferfish/pufferfish/pool/PoolTally", name := "rejectedCount", desc := "()J" } : Jvm.MethodName) prog_17_method_13_code (1 : Nat) (Option.some Jvm.ClassFile.FieldType.long)).before args0 about1 = true := code_word (m := ⟨3, 8⟩) (meth := k3m8) (c := k3c8) (by decide +kernel) rfl rfl rfl (by decide +kernel)
set_option maxRecDepth 65536 in
theorem w_c10 : (Jvm.Cond.code ({ cls := "com/example/pufferfish/pufferfish/pool/PoolTally", name := "rejectedAtShutdownCount", desc := "()J" } : Jvm.MethodName) prog_17_method_14_code (1 : Nat) (Option.some Jvm.ClassFile.FieldType.long)).before args0 about1 = true := code_word (m := ⟨3, 9⟩) (meth := k3m9) (c := k3c9) (by decide +kernel) rfl rfl rfl (by decide +kernel)
set_option maxRecDepth 65536 in
theorem w_c11 : (Jvm.Cond.code ({ cls := "com/example/pufferfish/pufferfish/pool/PoolTally", name := "submittedCount", desc := "()J" } : Jvm.MethodName) prog_17_method_10_code (1 : Nat) (Option.some Jvm.ClassFile.FieldType.long)).before args0 about1 = true := code_word (m := ⟨3, 5⟩) (meth := k3m5) (c := k3c5) (by decide +kernel) rfl rfl rfl (by decide +kernel)
set_option maxRecDepth 65536 in
theorem w_c12 : (Jvm.Cond.code ({ cls := "com/example/pufferfish/pufferfish/pool/PoolTally", name := "largestPoolSize", desc := "()I" } : Jvm.MethodName) prog_17_method_9_code (1 : Nat) (Option.some Jvm.ClassFile.FieldType.int)).before args0 about1 = true := code_word (m := ⟨3, 4⟩) (meth := k3m4) (c := k3c4) (by decide +kernel) rfl rfl rfl (by decide +kernel)
set_option maxRecDepth 65536 in
theorem w_c13 : (Jvm.Cond.code ({ cls := "com/example/pufferfish/pufferfish/pool/PoolTally", name := "completedCount", desc := "()J" } : Jvm.MethodName) prog_17_method_11_code (1 : Nat) (Option.some Jvm.ClassFile.FieldType.long)).before args0 about1 = true := code_word (m := ⟨3, 6⟩) (meth := k3m6) (c := k3c6) (by decide +kernel) rfl rfl rfl (by decide +kernel)
set_option maxRecDepth 65536 in
theorem w_c14 : (Jvm.Cond.code ({ cls := "com/example/pufferfish/pufferfish/pool/PoolTally", name := "failedCount", desc := "()J" } : Jvm.MethodName) prog_17_method_12_code (1 : Nat) (Option.some Jvm.ClassFile.FieldType.long)).before args0 about1 = true := code_word (m := ⟨3, 7⟩) (meth := k3m7) (c := k3c7) (by decide +kernel) rfl rfl rfl (by decide +kernel)
def codes1 : List Jvm.Cond := [Jvm.Cond.code x code maxLocals ret, Jvm.Cond.code ({ cls := "com/example/pufferfish/pufferfish/pool/PoolTally", name := "<init>", desc := "()V" } : Jvm.MethodName) prog_17_method_1_code (1 : Nat) (Option.none : Option Jvm.ClassFile.FieldType), Jvm.Cond.code ({ cls := "com/example/pufferfish/pufferfish/pool/LeadingPadding", name := "<init>", desc := "()V" } : Jvm.MethodName) prog_10_method_1_code (1 : Nat) (Option.none : Option Jvm.ClassFile.FieldType), Jvm.Cond.code ({ cls := "java/lang/Object", name := "<init>", desc := "()V" } : Jvm.MethodName) object_method_1_code (1 : Nat) (Option.none : Option Jvm.ClassFile.FieldType), Jvm.Cond.code ({ cls := "com/example/pufferfish/pufferfish/pool/PoolTally$TimeSum", name := "<init>", desc := "()V" } : Jvm.MethodName) prog_18_method_1_code (1 : Nat) (Option.none : Option Jvm.ClassFile.FieldType), Jvm.Cond.code ({ cls := "com/example/pufferfish/pufferfish/pool/PoolTally", name := "tasksAccepted", desc := "(J)V" } : Jvm.MethodName) prog_17_method_4_code (3 : Nat) (Option.none : Option Jvm.ClassFile.FieldType), Jvm.Cond.code ({ cls := "com/example/pufferfish/pufferfish/pool/PoolTally", name := "threadStarted", desc := "(I)V" } : Jvm.MethodName) prog_17_method_2_code (2 : Nat) (Option.none : Option Jvm.ClassFile.FieldType), Jvm.Cond.code ({ cls := "java/lang/Math", name := "max", desc := "(II)I" } : Jvm.MethodName) jdk_29_method_65_code (2 : Nat) (Option.some Jvm.ClassFile.FieldType.int), Jvm.Cond.code ({ cls := "com/example/pufferfish/pufferfish/pool/PoolTally", name := "taskRefused", desc := "(Z)V" } : Jvm.MethodName) prog_17_method_7_code (2 : Nat) (Option.none : Option Jvm.ClassFile.FieldType), Jvm.Cond.code ({ cls := "com/example/pufferfish/pufferfish/pool/PoolTally", name := "rejectedCount", desc := "()J" } : Jvm.MethodName) prog_17_method_13_code (1 : Nat) (Option.some Jvm.ClassFile.FieldType.long), Jvm.Cond.code ({ cls := "com/example/pufferfish/pufferfish/pool/PoolTally", name := "rejectedAtShutdownCount", desc := "()J" } : Jvm.MethodName) prog_17_method_14_code (1 : Nat) (Option.some Jvm.ClassFile.FieldType.long), Jvm.Cond.code ({ cls := "com/example/pufferfish/pufferfish/pool/PoolTally", name := "submittedCount", desc := "()J" } : Jvm.MethodName) prog_17_method_10_code (1 : Nat) (Option.some Jvm.ClassFile.FieldType.long), Jvm.Cond.code ({ cls := "com/example/pufferfish/pufferfish/pool/PoolTally", name := "largestPoolSize", desc := "()I" } : Jvm.MethodName) prog_17_method_9_code (1 : Nat) (Option.some Jvm.ClassFile.FieldType.int), Jvm.Cond.code ({ cls := "com/example/pufferfish/pufferfish/pool/PoolTally", name := "completedCount", desc := "()J" } : Jvm.MethodName) prog_17_method_11_code (1 : Nat) (Option.some Jvm.ClassFile.FieldType.long), Jvm.Cond.code ({ cls := "com/example/pufferfish/pufferfish/pool/PoolTally", name := "failedCount", desc := "()J" } : Jvm.MethodName) prog_17_method_12_code (1 : Nat) (Option.some Jvm.ClassFile.FieldType.long)]
set_option maxRecDepth 65536 in
theorem codes_eq : words1.filter isCode = codes1 := rfl
theorem w_codes : ∀ c ∈ words1.filter isCode, c.before args0 about1 = true := by
  rw [codes_eq]
  intro c hc
  simp only [codes1, List.mem_cons, List.not_mem_nil, or_false] at hc
  rcases hc with rfl | rfl | rfl | rfl | rfl | rfl | rfl | rfl | rfl | rfl | rfl | rfl | rfl | rfl | rfl
  · exact w_c0
  · exact w_c1
  · exact w_c2
  · exact w_c3
  · exact w_c4
  · exact w_c5
  · exact w_c6
  · exact w_c7
  · exact w_c8
  · exact w_c9
  · exact w_c10
  · exact w_c11
  · exact w_c12
  · exact w_c13
  · exact w_c14
set_option maxRecDepth 65536 in
theorem w_t1 : (words1.take 24).all (fun c => isCode c || c.before args0 about1) = true := by decide +kernel
set_option maxRecDepth 65536 in
theorem w_t2 : ((words1.drop 24).take 24).all (fun c => isCode c || c.before args0 about1) = true := by decide +kernel
set_option maxRecDepth 65536 in
theorem w_t3 : (((words1.drop 24).drop 24).take 24).all (fun c => isCode c || c.before args0 about1) = true := by decide +kernel
set_option maxRecDepth 65536 in
theorem w_t4 : (((words1.drop 24).drop 24).drop 24).all (fun c => isCode c || c.before args0 about1) = true := by decide +kernel
theorem w_tables : (allAtoms (Jvm.Cond.code x code maxLocals ret :: tables_1)).before args0 about1 = true := by
  rw [allAtoms_all]
  show words1.all (fun c => c.before args0 about1) = true
  refine all_split ?_ w_codes
  rw [← List.take_append_drop 24 words1, List.all_append, w_t1, ← List.take_append_drop 24 (words1.drop 24), List.all_append, w_t2, ← List.take_append_drop 24 ((words1.drop 24).drop 24), List.all_append, w_t3, w_t4]
  rfl
set_option maxRecDepth 65536 in
theorem w_case : (Jvm.Cond.and given_1 narrow_1).before args0 about1 = true := by decide +kernel
theorem w_applies : (headSpec (Jvm.Cond.code x code maxLocals ret :: tables_1) room_1).applies x e0.platform about1 = true :=
  (Spec.applies_iff w_frames).mpr ⟨w_running, w_runnable, w_alone, w_named, w_hears, w_ripe, w_room, w_tables⟩
theorem atStart : AtStart classFile x code maxLocals ret World_1 tables_1 room_1 Calls_1 rest_1 Pre_1 launch0 p0 e0 about1 theMethod args0 below0 :=
  ⟨lists_1, trivial, launch0.admits_env _ _ _, launch0.least_env, fairChoices_fair.cas, fairChoices_fair.clock, w_frames, w_args, w_heap, w_applies, trivial, trivial, w_case⟩
end start1
theorem witness_1 : WitnessClaimed_1 := ⟨start1.p0, start1.e0, start1.about1, start1.theMethod, start1.args0, start1.below0, start1.atStart⟩
end Jvm.Pilot.@@N@@
