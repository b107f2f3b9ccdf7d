import JvmDerived
import JvmDerived.Pilot.@@N@@Statement
import JvmDerived.Pilot.@@N@@Code
set_option linter.unusedVariables false
set_option linter.unusedSimpArgs false
@@BLOCK:NumsL.lean.txt@@
namespace Jvm.Pilot.@@N@@
open Jvm Jvm.ClassFile Sem Op Lib Jvm.Free Jvm.Stand Jvm.LawKit Jvm.RoadKit Bundle Jvm.Pilot.@@N@@.Jvm.D
section OwnLayer
/-- the surroundings of a walk: what stays the same from step to step -/
def Cx (p : Program) (s : State) (m : MethodId) (meth : Method) (c : Code) (Z : State) (own : String) (bs : ByteArray) (mx : Nat) (rt : Option FieldType) (nm : String) : Prop :=
  p.tables.exec = Jvm.exec ∧ c.code = bs ∧ c.maxLocals = mx ∧ Z.Warmed39 s.vm ∧ s.vm.findClass own = some m.cls ∧ meth.sig.returnType = rt ∧ meth.locks = false ∧ meth.name = nm
/-- wherever the walk stands with heap h and top frame g, it comes to its end, and Q holds there -/
def Go (p : Program) (l : Launch) (e : Env) (R : Room) (s : State) (m : MethodId) (args : Array Value) (below : List Frame) (meth : Method) (c : Code) (n0 : Nat) (Q : Option Value → Heap → Prop) (K N : Nat) (h : Heap) (ce sl : Nat) (g : JFrame) : Prop :=
  ∀ (T : State) (locs : List Loc), Stand p l e R s m args below meth c T locs ce sl → T.heap = h → Fr n0 locs →
    ∃ s₂ o, Steps p.tables e below (T.setTop g) s₂ ∧ s₂.status = .running ∧ Ended s₂ below o ∧ ∃ v L, o = .returned v ∧ (Q v s₂.heap ∧ Fr n0 L) ∧ FrameEnd s o s₂ L K N
/-- a method's contract, for given arguments and a given heap -/
def Sat (l : Launch) (Z : State) (y : MethodName) (bs : ByteArray) (mx : Nat) (rt : Option FieldType) (rm : Room) (as : List Value) (h0 : Heap) (n0 : Nat) (Q : Option Value → Heap → Prop) : Prop :=
  ∀ ws : List Jvm.Cond, MetFree l y (head1 (Jvm.Cond.code y bs mx rt :: ws) rm) (fun a U => a = as.toArray ∧ Z.Warmed39 U.vm ∧ U.heap = h0) (fun _ _ _ _ _ => True) (fun _ U o U' => ∃ v L, o = .returned v ∧ (Q v U'.heap ∧ Fr n0 L) ∧ FrameEnd U o U' L rm.cells rm.slots)
def RV (P : Value → Heap → Prop) : Option Value → Heap → Prop := fun v h => ∃ r, v = some r ∧ P r h
def RN (P : Heap → Prop) : Option Value → Heap → Prop := fun v h => v = none ∧ P h
def wt (st : List Value) : Nat := (st.map fun v => v.category).sum
def bi (P : Prop) [Decidable P] : Int32 := if P then 1 else 0
theorem bi_t {P : Prop} [Decidable P] (h : P) : bi P = 1 := if_pos h
theorem bi_f {P : Prop} [Decidable P] (h : ¬ P) : bi P = 0 := if_neg h
theorem bi1 {P : Prop} [Decidable P] (h : P) : (1 : Int32) = bi P := (if_pos h).symm
theorem bi0 {P : Prop} [Decidable P] (h : ¬ P) : (0 : Int32) = bi P := (if_neg h).symm
theorem bi_congr {P P' : Prop} [Decidable P] [Decidable P'] (h : P ↔ P') : bi P = bi P' := by
  by_cases q : P
  · rw [bi_t q, bi_t (h.mp q)]
  · rw [bi_f q, bi_f fun z => q (h.mpr z)]
theorem bi_nar (P : Prop) [Decidable P] : nar .boolean (bi P) = bi P := by
  by_cases q : P
  · rw [bi_t q]; rfl
  · rw [bi_f q]; rfl
theorem bi_inj {P P' : Prop} [Decidable P] [Decidable P'] (h : bi P = bi P') : P ↔ P' := by
  by_cases q : P <;> by_cases q' : P' <;> simp_all [bi]
theorem bi_narrow (P : Prop) [Decidable P] : narrow .boolean (.int (bi P)) = .int (bi P) := by
  by_cases q : P
  · rw [bi_t q]; rfl
  · rw [bi_f q]; rfl
theorem bi_fits (P : Prop) [Decidable P] : fits .boolean (.int (bi P)) = true := by
  by_cases q : P
  · rw [bi_t q]; rfl
  · rw [bi_f q]; rfl
theorem bi_toInt (P : Prop) [Decidable P] : (bi P).toInt = if P then 1 else 0 := by
  by_cases q : P
  · rw [bi_t q, if_pos q]; rfl
  · rw [bi_f q, if_neg q]; rfl
theorem own_add_t {P : Prop} [Decidable P] (n : Int32) (h : P) : n + 1 = n + bi P := by rw [bi_t h]
theorem own_add_f {P : Prop} [Decidable P] (n : Int32) (h : ¬ P) : n = n + bi P := by rw [bi_f h, Int32.add_zero]
theorem own_narrow_arr {v : Value} {t : FieldType} (h : v.isRef = true) : narrow (.array t) v = v := by
  cases v <;> first | rfl | simp [Value.isRef] at h
theorem own_fits_arr {v : Value} {t : FieldType} (h : v.isRef = true) : fits (.array t) v = true := by
  cases v <;> first | rfl | simp [Value.isRef] at h
theorem own_bb (x : Int32) : x.toInt8.toInt32.toInt8.toInt32 = x.toInt8.toInt32 := by simp
theorem own_ne_new {h : Heap} {a b : Addr} (q : b < h.size) (g : h.size = a) : b ≠ a := Nat.ne_of_lt (g ▸ q)
theorem own_ge {h : Heap} {a : Addr} {n : Nat} (q : n ≤ h.size) (g : h.size = a) : n ≤ a := g ▸ q
theorem int_eq {x y : Int32} (h : x.toInt = y.toInt) : x = y := Int32.toInt_inj.mp h
theorem long_eq {x y : Int64} (h : x.toInt = y.toInt) : x = y := Int64.toInt_inj.mp h
section Walk
variable {p : Program} {l : Launch} {e : Env} {R : Room} {s : State} {m : MethodId} {args : Array Value} {below : List Frame} {meth : Method} {c : Code} {Z : State} {a0 : Array Value} {own : String} {bs : ByteArray} {mx : Nat} {rt : Option FieldType} {nm : String} {n0 : Nat} {Q : Option Value → Heap → Prop} {K N : Nat} {h : Heap} {ce sl : Nat} {pc pc' : Nat} {Ls Ls' : Array Slot} {st : List Value} {g g' : JFrame}
theorem Go.step (H : ∀ (T : State), At T m c below → ∀ target, Steps p.tables e below (T.setTop g') target → Steps p.tables e below (T.setTop g) target) (hr : Go p l e R s m args below meth c n0 Q K N h ce sl g') : Go p l e R s m args below meth c n0 Q K N h ce sl g := fun T locs X eT Nn => by
  obtain ⟨s₂, o, h1, r⟩ := hr T locs X eT Nn
  exact ⟨s₂, o, H T X.here _ h1, r⟩
theorem Go.stepX (H : ∀ (T : State) (locs : List Loc), Stand p l e R s m args below meth c T locs ce sl → T.heap = h → ∀ target, Steps p.tables e below (T.setTop g') target → Steps p.tables e below (T.setTop g) target) (hr : Go p l e R s m args below meth c n0 Q K N h ce sl g') : Go p l e R s m args below meth c n0 Q K N h ce sl g := fun T locs X eT Nn => by
  obtain ⟨s₂, o, h1, r⟩ := hr T locs X eT Nn
  exact ⟨s₂, o, H T locs X eT _ h1, r⟩
theorem Go.more {ce' sl' : Nat} (hc : ce ≤ ce') (hs : sl ≤ sl') (hr : Go p l e R s m args below meth c n0 Q K N h ce' sl' g) : Go p l e R s m args below meth c n0 Q K N h ce sl g := fun T locs X eT Nn => hr T locs (X.more hc hs) eT Nn
theorem go_iloadN (C : Cx p s m meth c Z own bs mx rt nm) {k : Fin 4} {v : Int32} (hd : decode bs pc = .ok (.iload_n k, 1)) (hp : pc + 1 = pc') (hl : Ls[k.val]? = some (.val (.int v))) (hr : Go p l e R s m args below meth c n0 Q K N h ce sl (mkF m pc' Ls (.int v :: st))) : Go p l e R s m args below meth c n0 Q K N h ce sl (mkF m pc Ls st) := by
  subst hp
  exact Go.step (fun T A _ q => XS.iloadN A C.1 rfl (hb C.2.1 hd) hl q) hr
theorem go_iload (C : Cx p s m meth c Z own bs mx rt nm) {k : Nat} {v : Int32} (hd : decode bs pc = .ok (.iload k, 2)) (hp : pc + 2 = pc') (hl : Ls[k]? = some (.val (.int v))) (hr : Go p l e R s m args below meth c n0 Q K N h ce sl (mkF m pc' Ls (.int v :: st))) : Go p l e R s m args below meth c n0 Q K N h ce sl (mkF m pc Ls st) := by
  subst hp
  exact Go.step (fun T A _ q => XS.iload A C.1 rfl (hb C.2.1 hd) hl q) hr
theorem go_lloadN (C : Cx p s m meth c Z own bs mx rt nm) {k : Fin 4} {v : Int64} (hd : decode bs pc = .ok (.lload_n k, 1)) (hp : pc + 1 = pc') (hl : Ls[k.val]? = some (.val (.long v))) (hr : Go p l e R s m args below meth c n0 Q K N h ce sl (mkF m pc' Ls (.long v :: st))) : Go p l e R s m args below meth c n0 Q K N h ce sl (mkF m pc Ls st) := by
  subst hp
  exact Go.step (fun T A _ q => XT.lloadN A C.1 rfl (hb C.2.1 hd) hl q) hr
theorem go_lload (C : Cx p s m meth c Z own bs mx rt nm) {k : Nat} {v : Int64} (hd : decode bs pc = .ok (.lload k, 2)) (hp : pc + 2 = pc') (hl : Ls[k]? = some (.val (.long v))) (hr : Go p l e R s m args below meth c n0 Q K N h ce sl (mkF m pc' Ls (.long v :: st))) : Go p l e R s m args below meth c n0 Q K N h ce sl (mkF m pc Ls st) := by
  subst hp
  exact Go.step (fun T A _ q => XT.lload A C.1 rfl (hb C.2.1 hd) hl q) hr
theorem go_aloadN (C : Cx p s m meth c Z own bs mx rt nm) {k : Fin 4} {v : Value} (hd : decode bs pc = .ok (.aload_n k, 1)) (hp : pc + 1 = pc') (hl : Ls[k.val]? = some (.val v)) (hv : v.isRef = true) (hr : Go p l e R s m args below meth c n0 Q K N h ce sl (mkF m pc' Ls (v :: st))) : Go p l e R s m args below meth c n0 Q K N h ce sl (mkF m pc Ls st) := by
  subst hp
  exact Go.step (fun T A _ q => XS.aloadN A C.1 rfl (hb C.2.1 hd) hl hv q) hr
theorem go_aload (C : Cx p s m meth c Z own bs mx rt nm) {k : Nat} {v : Value} (hd : decode bs pc = .ok (.aload k, 2)) (hp : pc + 2 = pc') (hl : Ls[k]? = some (.val v)) (hv : v.isRef = true) (hr : Go p l e R s m args below meth c n0 Q K N h ce sl (mkF m pc' Ls (v :: st))) : Go p l e R s m args below meth c n0 Q K N h ce sl (mkF m pc Ls st) := by
  subst hp
  exact Go.step (fun T A _ q => XS.aload A C.1 rfl (hb C.2.1 hd) hl hv q) hr
theorem go_istoreN (C : Cx p s m meth c Z own bs mx rt nm) {k : Fin 4} {v : Int32} (hd : decode bs pc = .ok (.istore_n k, 1)) (hp : pc + 1 = pc') (hl : storeLocals Ls k.val (.int v) = some Ls') (hr : Go p l e R s m args below meth c n0 Q K N h ce sl (mkF m pc' Ls' st)) : Go p l e R s m args below meth c n0 Q K N h ce sl (mkF m pc Ls (.int v :: st)) := by
  subst hp
  exact Go.step (fun T A _ q => XS.istoreN A C.1 rfl (hb C.2.1 hd) rfl hl q) hr
theorem go_istore (C : Cx p s m meth c Z own bs mx rt nm) {k : Nat} {v : Int32} (hd : decode bs pc = .ok (.istore k, 2)) (hp : pc + 2 = pc') (hl : storeLocals Ls k (.int v) = some Ls') (hr : Go p l e R s m args below meth c n0 Q K N h ce sl (mkF m pc' Ls' st)) : Go p l e R s m args below meth c n0 Q K N h ce sl (mkF m pc Ls (.int v :: st)) := by
  subst hp
  exact Go.step (fun T A _ q => XS.istore A C.1 rfl (hb C.2.1 hd) rfl hl q) hr
theorem go_lstoreN (C : Cx p s m meth c Z own bs mx rt nm) {k : Fin 4} {v : Int64} (hd : decode bs pc = .ok (.lstore_n k, 1)) (hp : pc + 1 = pc') (hl : storeLocals Ls k.val (.long v) = some Ls') (hr : Go p l e R s m args below meth c n0 Q K N h ce sl (mkF m pc' Ls' st)) : Go p l e R s m args below meth c n0 Q K N h ce sl (mkF m pc Ls (.long v :: st)) := by
  subst hp
  exact Go.step (fun T A _ q => XT.lstoreN A C.1 rfl (hb C.2.1 hd) rfl hl q) hr
theorem go_lstore (C : Cx p s m meth c Z own bs mx rt nm) {k : Nat} {v : Int64} (hd : decode bs pc = .ok (.lstore k, 2)) (hp : pc + 2 = pc') (hl : storeLocals Ls k (.long v) = some Ls') (hr : Go p l e R s m args below meth c n0 Q K N h ce sl (mkF m pc' Ls' st)) : Go p l e R s m args below meth c n0 Q K N h ce sl (mkF m pc Ls (.long v :: st)) := by
  subst hp
  exact Go.step (fun T A _ q => XT.lstore A C.1 rfl (hb C.2.1 hd) rfl hl q) hr
theorem go_astoreN (C : Cx p s m meth c Z own bs mx rt nm) {k : Fin 4} {v : Value} (hd : decode bs pc = .ok (.astore_n k, 1)) (hp : pc + 1 = pc') (hv : v.isRef = true) (hl : storeLocals Ls k.val v = some Ls') (hr : Go p l e R s m args below meth c n0 Q K N h ce sl (mkF m pc' Ls' st)) : Go p l e R s m args below meth c n0 Q K N h ce sl (mkF m pc Ls (v :: st)) := by
  subst hp
  exact Go.step (fun T A _ q => XS.astoreN A C.1 rfl (hb C.2.1 hd) rfl hv hl q) hr
theorem go_astore (C : Cx p s m meth c Z own bs mx rt nm) {k : Nat} {v : Value} (hd : decode bs pc = .ok (.astore k, 2)) (hp : pc + 2 = pc') (hv : v.isRef = true) (hl : storeLocals Ls k v = some Ls') (hr : Go p l e R s m args below meth c n0 Q K N h ce sl (mkF m pc' Ls' st)) : Go p l e R s m args below meth c n0 Q K N h ce sl (mkF m pc Ls (v :: st)) := by
  subst hp
  exact Go.step (fun T A _ q => XS.astore A C.1 rfl (hb C.2.1 hd) rfl hv hl q) hr
theorem go_istoreS (C : Cx p s m meth c Z own bs mx rt nm) {k : Nat} {v : Int32} {o : Slot} (hd : decode bs pc = .ok (.istore k, 2)) (hp : pc + 2 = pc') (hold : Ls[k]? = some o) (ho : One o) (hL : Ls.setIfInBounds k (.val (.int v)) = Ls') (hr : Go p l e R s m args below meth c n0 Q K N h ce sl (mkF m pc' Ls' st)) : Go p l e R s m args below meth c n0 Q K N h ce sl (mkF m pc Ls (.int v :: st)) := by
  subst hp hL
  exact Go.step (fun T A _ q => XS.istoreS A C.1 rfl (hb C.2.1 hd) rfl hold ho q) hr
theorem go_istoreNS (C : Cx p s m meth c Z own bs mx rt nm) {k : Fin 4} {v : Int32} {o : Slot} (hd : decode bs pc = .ok (.istore_n k, 1)) (hp : pc + 1 = pc') (hold : Ls[k.val]? = some o) (ho : One o) (hL : Ls.setIfInBounds k.val (.val (.int v)) = Ls') (hr : Go p l e R s m args below meth c n0 Q K N h ce sl (mkF m pc' Ls' st)) : Go p l e R s m args below meth c n0 Q K N h ce sl (mkF m pc Ls (.int v :: st)) := by
  subst hp hL
  exact Go.step (fun T A _ q => XS.istoreNS A C.1 rfl (hb C.2.1 hd) rfl hold ho q) hr
theorem go_iconst (C : Cx p s m meth c Z own bs mx rt nm) {i : Int} (v : Int32) (hd : decode bs pc = .ok (.iconst i, 1)) (hp : pc + 1 = pc') (hv : Int32.ofInt i = v) (hr : Go p l e R s m args below meth c n0 Q K N h ce sl (mkF m pc' Ls (.int v :: st))) : Go p l e R s m args below meth c n0 Q K N h ce sl (mkF m pc Ls st) := by
  subst hp
  exact Go.step (fun T A _ q => XT.iconstV A C.1 rfl v (hb C.2.1 hd) hv q) hr
theorem go_bipush (C : Cx p s m meth c Z own bs mx rt nm) {i : Int} (v : Int32) (hd : decode bs pc = .ok (.bipush i, 2)) (hp : pc + 2 = pc') (hv : (Int8.ofInt i).toInt32 = v) (hr : Go p l e R s m args below meth c n0 Q K N h ce sl (mkF m pc' Ls (.int v :: st))) : Go p l e R s m args below meth c n0 Q K N h ce sl (mkF m pc Ls st) := by
  subst hp
  exact Go.step (fun T A _ q => XT.bipushV A C.1 rfl v (hb C.2.1 hd) hv q) hr
theorem go_sipush (C : Cx p s m meth c Z own bs mx rt nm) {i : Int} (v : Int32) (hd : decode bs pc = .ok (.sipush i, 3)) (hp : pc + 3 = pc') (hv : (Int16.ofInt i).toInt32 = v) (hr : Go p l e R s m args below meth c n0 Q K N h ce sl (mkF m pc' Ls (.int v :: st))) : Go p l e R s m args below meth c n0 Q K N h ce sl (mkF m pc Ls st) := by
  subst hp
  exact Go.step (fun T A _ q => XT.sipushV A C.1 rfl v (hb C.2.1 hd) hv q) hr
theorem go_lconst (C : Cx p s m meth c Z own bs mx rt nm) {k : Fin 2} (v : Int64) (hd : decode bs pc = .ok (.lconst k, 1)) (hp : pc + 1 = pc') (hv : Int64.ofNat k = v) (hr : Go p l e R s m args below meth c n0 Q K N h ce sl (mkF m pc' Ls (.long v :: st))) : Go p l e R s m args below meth c n0 Q K N h ce sl (mkF m pc Ls st) := by
  subst hp
  exact Go.step (fun T A _ q => XT.lconstV A C.1 rfl v (hb C.2.1 hd) hv q) hr
theorem go_aconst_null (C : Cx p s m meth c Z own bs mx rt nm)  (hd : decode bs pc = .ok (.aconst_null, 1)) (hp : pc + 1 = pc') (hr : Go p l e R s m args below meth c n0 Q K N h ce sl (mkF m pc' Ls (.null :: st))) : Go p l e R s m args below meth c n0 Q K N h ce sl (mkF m pc Ls st) := by
  subst hp
  exact Go.step (fun T A _ q => XS.aconstNull A C.1 rfl (hb C.2.1 hd)  q) hr
theorem go_iinc (C : Cx p s m meth c Z own bs mx rt nm) {k : Nat} {i : Int} {x : Int32} (v : Int32) (hd : decode bs pc = .ok (.iinc k i, 3)) (hp : pc + 3 = pc') (hv : Int32.ofInt i = v) (hl : Ls[k]? = some (.val (.int x))) (hl' : storeLocals Ls k (.int (x + v)) = some Ls') (hr : Go p l e R s m args below meth c n0 Q K N h ce sl (mkF m pc' Ls' st)) : Go p l e R s m args below meth c n0 Q K N h ce sl (mkF m pc Ls st) := by
  subst hp
  exact Go.step (fun T A _ q => XT.iincV A C.1 rfl v (hb C.2.1 hd) hv hl hl' q) hr
theorem go_iadd (C : Cx p s m meth c Z own bs mx rt nm) {x y : Int32} (hd : decode bs pc = .ok (.iadd, 1)) (hp : pc + 1 = pc') (hr : Go p l e R s m args below meth c n0 Q K N h ce sl (mkF m pc' Ls (.int (x + y) :: st))) : Go p l e R s m args below meth c n0 Q K N h ce sl (mkF m pc Ls (.int y :: .int x :: st)) := by
  subst hp
  exact Go.step (fun T A _ q => XS.iadd A C.1 rfl (hb C.2.1 hd) rfl q) hr
theorem go_isub (C : Cx p s m meth c Z own bs mx rt nm) {x y : Int32} (hd : decode bs pc = .ok (.isub, 1)) (hp : pc + 1 = pc') (hr : Go p l e R s m args below meth c n0 Q K N h ce sl (mkF m pc' Ls (.int (x - y) :: st))) : Go p l e R s m args below meth c n0 Q K N h ce sl (mkF m pc Ls (.int y :: .int x :: st)) := by
  subst hp
  exact Go.step (fun T A _ q => XS.isub A C.1 rfl (hb C.2.1 hd) rfl q) hr
theorem go_iand (C : Cx p s m meth c Z own bs mx rt nm) {x y : Int32} (hd : decode bs pc = .ok (.iand, 1)) (hp : pc + 1 = pc') (hr : Go p l e R s m args below meth c n0 Q K N h ce sl (mkF m pc' Ls (.int (x &&& y) :: st))) : Go p l e R s m args below meth c n0 Q K N h ce sl (mkF m pc Ls (.int y :: .int x :: st)) := by
  subst hp
  exact Go.step (fun T A _ q => XS.iand A C.1 rfl (hb C.2.1 hd) rfl q) hr
theorem go_imul (C : Cx p s m meth c Z own bs mx rt nm) {x y : Int32} (hd : decode bs pc = .ok (.imul, 1)) (hp : pc + 1 = pc') (hr : Go p l e R s m args below meth c n0 Q K N h ce sl (mkF m pc' Ls (.int (x * y) :: st))) : Go p l e R s m args below meth c n0 Q K N h ce sl (mkF m pc Ls (.int y :: .int x :: st)) := by
  subst hp
  exact Go.step (fun T A _ q => XS.imul A C.1 rfl (hb C.2.1 hd) rfl q) hr
theorem go_ior (C : Cx p s m meth c Z own bs mx rt nm) {x y : Int32} (hd : decode bs pc = .ok (.ior, 1)) (hp : pc + 1 = pc') (hr : Go p l e R s m args below meth c n0 Q K N h ce sl (mkF m pc' Ls (.int (x ||| y) :: st))) : Go p l e R s m args below meth c n0 Q K N h ce sl (mkF m pc Ls (.int y :: .int x :: st)) := by
  subst hp
  exact Go.step (fun T A _ q => XT.ior A C.1 rfl (hb C.2.1 hd) rfl q) hr
theorem go_ixor (C : Cx p s m meth c Z own bs mx rt nm) {x y : Int32} (hd : decode bs pc = .ok (.ixor, 1)) (hp : pc + 1 = pc') (hr : Go p l e R s m args below meth c n0 Q K N h ce sl (mkF m pc' Ls (.int (x ^^^ y) :: st))) : Go p l e R s m args below meth c n0 Q K N h ce sl (mkF m pc Ls (.int y :: .int x :: st)) := by
  subst hp
  exact Go.step (fun T A _ q => XT.ixor A C.1 rfl (hb C.2.1 hd) rfl q) hr
theorem go_ishl (C : Cx p s m meth c Z own bs mx rt nm) {x y : Int32} (hd : decode bs pc = .ok (.ishl, 1)) (hp : pc + 1 = pc') (hr : Go p l e R s m args below meth c n0 Q K N h ce sl (mkF m pc' Ls (.int (x <<< (y &&& 31)) :: st))) : Go p l e R s m args below meth c n0 Q K N h ce sl (mkF m pc Ls (.int y :: .int x :: st)) := by
  subst hp
  exact Go.step (fun T A _ q => XT.ishl A C.1 rfl (hb C.2.1 hd) rfl q) hr
theorem go_ishr (C : Cx p s m meth c Z own bs mx rt nm) {x y : Int32} (hd : decode bs pc = .ok (.ishr, 1)) (hp : pc + 1 = pc') (hr : Go p l e R s m args below meth c n0 Q K N h ce sl (mkF m pc' Ls (.int (x >>> (y &&& 31)) :: st))) : Go p l e R s m args below meth c n0 Q K N h ce sl (mkF m pc Ls (.int y :: .int x :: st)) := by
  subst hp
  exact Go.step (fun T A _ q => XT.ishr A C.1 rfl (hb C.2.1 hd) rfl q) hr
theorem go_iushr (C : Cx p s m meth c Z own bs mx rt nm) {x y : Int32} (hd : decode bs pc = .ok (.iushr, 1)) (hp : pc + 1 = pc') (hr : Go p l e R s m args below meth c n0 Q K N h ce sl (mkF m pc' Ls (.int (XT.ushr x y) :: st))) : Go p l e R s m args below meth c n0 Q K N h ce sl (mkF m pc Ls (.int y :: .int x :: st)) := by
  subst hp
  exact Go.step (fun T A _ q => XT.iushr A C.1 rfl (hb C.2.1 hd) rfl q) hr
theorem go_ladd (C : Cx p s m meth c Z own bs mx rt nm) {x y : Int64} (hd : decode bs pc = .ok (.ladd, 1)) (hp : pc + 1 = pc') (hr : Go p l e R s m args below meth c n0 Q K N h ce sl (mkF m pc' Ls (.long (x + y) :: st))) : Go p l e R s m args below meth c n0 Q K N h ce sl (mkF m pc Ls (.long y :: .long x :: st)) := by
  subst hp
  exact Go.step (fun T A _ q => XT.ladd A C.1 rfl (hb C.2.1 hd) rfl q) hr
theorem go_lsub (C : Cx p s m meth c Z own bs mx rt nm) {x y : Int64} (hd : decode bs pc = .ok (.lsub, 1)) (hp : pc + 1 = pc') (hr : Go p l e R s m args below meth c n0 Q K N h ce sl (mkF m pc' Ls (.long (x - y) :: st))) : Go p l e R s m args below meth c n0 Q K N h ce sl (mkF m pc Ls (.long y :: .long x :: st)) := by
  subst hp
  exact Go.step (fun T A _ q => XT.lsub A C.1 rfl (hb C.2.1 hd) rfl q) hr
theorem go_land (C : Cx p s m meth c Z own bs mx rt nm) {x y : Int64} (hd : decode bs pc = .ok (.land, 1)) (hp : pc + 1 = pc') (hr : Go p l e R s m args below meth c n0 Q K N h ce sl (mkF m pc' Ls (.long (x &&& y) :: st))) : Go p l e R s m args below meth c n0 Q K N h ce sl (mkF m pc Ls (.long y :: .long x :: st)) := by
  subst hp
  exact Go.step (fun T A _ q => XT.land A C.1 rfl (hb C.2.1 hd) rfl q) hr
theorem go_lmul (C : Cx p s m meth c Z own bs mx rt nm) {x y : Int64} (hd : decode bs pc = .ok (.lmul, 1)) (hp : pc + 1 = pc') (hr : Go p l e R s m args below meth c n0 Q K N h ce sl (mkF m pc' Ls (.long (x * y) :: st))) : Go p l e R s m args below meth c n0 Q K N h ce sl (mkF m pc Ls (.long y :: .long x :: st)) := by
  subst hp
  exact Go.step (fun T A _ q => XT.lmul A C.1 rfl (hb C.2.1 hd) rfl q) hr
theorem go_lor (C : Cx p s m meth c Z own bs mx rt nm) {x y : Int64} (hd : decode bs pc = .ok (.lor, 1)) (hp : pc + 1 = pc') (hr : Go p l e R s m args below meth c n0 Q K N h ce sl (mkF m pc' Ls (.long (x ||| y) :: st))) : Go p l e R s m args below meth c n0 Q K N h ce sl (mkF m pc Ls (.long y :: .long x :: st)) := by
  subst hp
  exact Go.step (fun T A _ q => XT.lor A C.1 rfl (hb C.2.1 hd) rfl q) hr
theorem go_lxor (C : Cx p s m meth c Z own bs mx rt nm) {x y : Int64} (hd : decode bs pc = .ok (.lxor, 1)) (hp : pc + 1 = pc') (hr : Go p l e R s m args below meth c n0 Q K N h ce sl (mkF m pc' Ls (.long (x ^^^ y) :: st))) : Go p l e R s m args below meth c n0 Q K N h ce sl (mkF m pc Ls (.long y :: .long x :: st)) := by
  subst hp
  exact Go.step (fun T A _ q => XT.lxor A C.1 rfl (hb C.2.1 hd) rfl q) hr
theorem go_idiv (C : Cx p s m meth c Z own bs mx rt nm) {x y : Int32} (hd : decode bs pc = .ok (.idiv, 1)) (hp : pc + 1 = pc') (hy : y ≠ 0) (hr : Go p l e R s m args below meth c n0 Q K N h ce sl (mkF m pc' Ls (.int (x / y) :: st))) : Go p l e R s m args below meth c n0 Q K N h ce sl (mkF m pc Ls (.int y :: .int x :: st)) := by
  subst hp
  exact Go.step (fun T A _ q => XS.idiv A C.1 rfl (hb C.2.1 hd) rfl hy q) hr
theorem go_irem (C : Cx p s m meth c Z own bs mx rt nm) {x y : Int32} (hd : decode bs pc = .ok (.irem, 1)) (hp : pc + 1 = pc') (hy : y ≠ 0) (hr : Go p l e R s m args below meth c n0 Q K N h ce sl (mkF m pc' Ls (.int (x % y) :: st))) : Go p l e R s m args below meth c n0 Q K N h ce sl (mkF m pc Ls (.int y :: .int x :: st)) := by
  subst hp
  exact Go.stepX (fun T locs X _ _ q => iremM X C.1 rfl (hb C.2.1 hd) rfl hy q) hr
theorem go_i2l (C : Cx p s m meth c Z own bs mx rt nm) {x : Int32} (hd : decode bs pc = .ok (.i2l, 1)) (hp : pc + 1 = pc') (hr : Go p l e R s m args below meth c n0 Q K N h ce sl (mkF m pc' Ls (.long x.toInt64 :: st))) : Go p l e R s m args below meth c n0 Q K N h ce sl (mkF m pc Ls (.int x :: st)) := by
  subst hp
  exact Go.step (fun T A _ q => XT.i2l A C.1 rfl (hb C.2.1 hd) rfl q) hr
theorem go_l2i (C : Cx p s m meth c Z own bs mx rt nm) {x : Int64} (hd : decode bs pc = .ok (.l2i, 1)) (hp : pc + 1 = pc') (hr : Go p l e R s m args below meth c n0 Q K N h ce sl (mkF m pc' Ls (.int x.toInt32 :: st))) : Go p l e R s m args below meth c n0 Q K N h ce sl (mkF m pc Ls (.long x :: st)) := by
  subst hp
  exact Go.step (fun T A _ q => XT.l2i A C.1 rfl (hb C.2.1 hd) rfl q) hr
theorem go_i2b (C : Cx p s m meth c Z own bs mx rt nm) {x : Int32} (hd : decode bs pc = .ok (.i2b, 1)) (hp : pc + 1 = pc') (hr : Go p l e R s m args below meth c n0 Q K N h ce sl (mkF m pc' Ls (.int x.toInt8.toInt32 :: st))) : Go p l e R s m args below meth c n0 Q K N h ce sl (mkF m pc Ls (.int x :: st)) := by
  subst hp
  exact Go.step (fun T A _ q => XT.i2b A C.1 rfl (hb C.2.1 hd) rfl q) hr
theorem go_i2c (C : Cx p s m meth c Z own bs mx rt nm) {x : Int32} (hd : decode bs pc = .ok (.i2c, 1)) (hp : pc + 1 = pc') (hr : Go p l e R s m args below meth c n0 Q K N h ce sl (mkF m pc' Ls (.int x.toUInt32.toUInt16.toUInt32.toInt32 :: st))) : Go p l e R s m args below meth c n0 Q K N h ce sl (mkF m pc Ls (.int x :: st)) := by
  subst hp
  exact Go.step (fun T A _ q => XT.i2c A C.1 rfl (hb C.2.1 hd) rfl q) hr
theorem go_ineg (C : Cx p s m meth c Z own bs mx rt nm) {x : Int32} (hd : decode bs pc = .ok (.ineg, 1)) (hp : pc + 1 = pc') (hr : Go p l e R s m args below meth c n0 Q K N h ce sl (mkF m pc' Ls (.int (-x) :: st))) : Go p l e R s m args below meth c n0 Q K N h ce sl (mkF m pc Ls (.int x :: st)) := by
  subst hp
  exact Go.step (fun T A _ q => XS.ineg A C.1 rfl (hb C.2.1 hd) rfl q) hr
theorem go_dup (C : Cx p s m meth c Z own bs mx rt nm) {v : Value} (hd : decode bs pc = .ok (.dup, 1)) (hp : pc + 1 = pc') (hc : v.category = 1) (hr : Go p l e R s m args below meth c n0 Q K N h ce sl (mkF m pc' Ls (v :: v :: st))) : Go p l e R s m args below meth c n0 Q K N h ce sl (mkF m pc Ls (v :: st)) := by
  subst hp
  exact Go.step (fun T A _ q => XS.dup A C.1 rfl (hb C.2.1 hd) rfl hc q) hr
theorem go_pop (C : Cx p s m meth c Z own bs mx rt nm) {v : Value} (hd : decode bs pc = .ok (.pop, 1)) (hp : pc + 1 = pc') (hc : v.category = 1) (hr : Go p l e R s m args below meth c n0 Q K N h ce sl (mkF m pc' Ls st)) : Go p l e R s m args below meth c n0 Q K N h ce sl (mkF m pc Ls (v :: st)) := by
  subst hp
  exact Go.step (fun T A _ q => XT.pop A C.1 rfl (hb C.2.1 hd) rfl hc q) hr
theorem go_dup2 (C : Cx p s m meth c Z own bs mx rt nm) {v w : Value} (hd : decode bs pc = .ok (.dup2, 1)) (hp : pc + 1 = pc') (hc : v.category = 1) (hc' : w.category = 1) (hr : Go p l e R s m args below meth c n0 Q K N h ce sl (mkF m pc' Ls (v :: w :: v :: w :: st))) : Go p l e R s m args below meth c n0 Q K N h ce sl (mkF m pc Ls (v :: w :: st)) := by
  subst hp
  exact Go.step (fun T A _ q => XT.dup2 A C.1 rfl (hb C.2.1 hd) rfl hc hc' q) hr
theorem go_dup_x1 (C : Cx p s m meth c Z own bs mx rt nm) {v w : Value} (hd : decode bs pc = .ok (.dup_x1, 1)) (hp : pc + 1 = pc') (hc : v.category = 1) (hc' : w.category = 1) (hr : Go p l e R s m args below meth c n0 Q K N h ce sl (mkF m pc' Ls (v :: w :: v :: st))) : Go p l e R s m args below meth c n0 Q K N h ce sl (mkF m pc Ls (v :: w :: st)) := by
  subst hp
  exact Go.step (fun T A _ q => XT.dupX1 A C.1 rfl (hb C.2.1 hd) rfl hc hc' q) hr
theorem go_lushr (C : Cx p s m meth c Z own bs mx rt nm) {x : Int64} {y : Int32} (hd : decode bs pc = .ok (.lushr, 1)) (hp : pc + 1 = pc') (hr : Go p l e R s m args below meth c n0 Q K N h ce sl (mkF m pc' Ls (.long (XT.ushrL x y) :: st))) : Go p l e R s m args below meth c n0 Q K N h ce sl (mkF m pc Ls (.int y :: .long x :: st)) := by
  subst hp
  exact Go.step (fun T A _ q => XT.lushr A C.1 rfl (hb C.2.1 hd) rfl q) hr
theorem go_lshl (C : Cx p s m meth c Z own bs mx rt nm) {x : Int64} {y : Int32} (hd : decode bs pc = .ok (.lshl, 1)) (hp : pc + 1 = pc') (hr : Go p l e R s m args below meth c n0 Q K N h ce sl (mkF m pc' Ls (.long (x <<< (y.toInt64 &&& 63)) :: st))) : Go p l e R s m args below meth c n0 Q K N h ce sl (mkF m pc Ls (.int y :: .long x :: st)) := by
  subst hp
  exact Go.step (fun T A _ q => XT.lshl A C.1 rfl (hb C.2.1 hd) rfl q) hr
theorem go_ldiv (C : Cx p s m meth c Z own bs mx rt nm) {x y : Int64} (hd : decode bs pc = .ok (.ldiv, 1)) (hp : pc + 1 = pc') (hy : y ≠ 0) (hr : Go p l e R s m args below meth c n0 Q K N h ce sl (mkF m pc' Ls (.long (x / y) :: st))) : Go p l e R s m args below meth c n0 Q K N h ce sl (mkF m pc Ls (.long y :: .long x :: st)) := by
  subst hp
  exact Go.step (fun T A _ q => XT.ldiv A C.1 rfl (hb C.2.1 hd) rfl hy q) hr
theorem go_lrem (C : Cx p s m meth c Z own bs mx rt nm) {x y : Int64} (hd : decode bs pc = .ok (.lrem, 1)) (hp : pc + 1 = pc') (hy : y ≠ 0) (hr : Go p l e R s m args below meth c n0 Q K N h ce sl (mkF m pc' Ls (.long (x - (x / y) * y) :: st))) : Go p l e R s m args below meth c n0 Q K N h ce sl (mkF m pc Ls (.long y :: .long x :: st)) := by
  subst hp
  exact Go.step (fun T A _ q => XT.lrem A C.1 rfl (hb C.2.1 hd) rfl hy q) hr
theorem go_goto (C : Cx p s m meth c Z own bs mx rt nm) {o : Int} (hd : decode bs pc = .ok (.goto o, 3)) (ho : 0 ≤ (pc : Int) + o) (hp : ((pc : Int) + o).toNat = pc') (hr : Go p l e R s m args below meth c n0 Q K N h ce sl (mkF m pc' Ls st)) : Go p l e R s m args below meth c n0 Q K N h ce sl (mkF m pc Ls st) :=
  Go.step (fun T A _ q => XS.goto A C.1 rfl rfl (hb C.2.1 hd) ho hp q) hr
/-- what a comparison says, of integers -/
def cmpP (cd : ClassFile.Cond) (x y : Int) : Prop := match cd with | .eq => x = y | .ne => ¬ x = y | .lt => x < y | .ge => ¬ x < y | .gt => y < x | .le => ¬ y < x
def cmpN (cd : ClassFile.Cond) (x y : Int) : Prop := match cd with | .eq => ¬ x = y | .ne => x = y | .lt => ¬ x < y | .ge => x < y | .gt => ¬ y < x | .le => y < x
theorem cmpN_of {cd : ClassFile.Cond} {x y : Int} (h : ¬ cmpP cd x y) : cmpN cd x y := by
  cases cd <;> simp only [cmpP] at h <;> simp only [cmpN] <;> omega
theorem cmp_t {cd : ClassFile.Cond} {x y : Int32} (h : cmpP cd x.toInt y.toInt) : if_icmp.holds cd x y = true := by
  cases cd <;> simp only [cmpP] at h
  · exact XT.ii_eq_t (int_eq h)
  · exact XT.ii_ne_t fun q => h (by rw [q])
  · exact XT.ii_lt_t (Int32.lt_iff_toInt_lt.mpr h)
  · exact XT.ii_ge_t fun q => h (Int32.lt_iff_toInt_lt.mp q)
  · exact XT.ii_gt_t (Int32.lt_iff_toInt_lt.mpr h)
  · exact XT.ii_le_t fun q => h (Int32.lt_iff_toInt_lt.mp q)
theorem cmp_f {cd : ClassFile.Cond} {x y : Int32} (h : ¬ cmpP cd x.toInt y.toInt) : if_icmp.holds cd x y = false := by
  cases cd <;> simp only [cmpP] at h
  · exact XT.ii_eq_f fun q => h (by rw [q])
  · exact XT.ii_ne_f (int_eq (Classical.not_not.mp h))
  · exact XT.ii_lt_f fun q => h (Int32.lt_iff_toInt_lt.mp q)
  · exact XT.ii_ge_f (Int32.lt_iff_toInt_lt.mpr (Classical.not_not.mp h))
  · exact XT.ii_gt_f fun q => h (Int32.lt_iff_toInt_lt.mp q)
  · exact XT.ii_le_f (Int32.lt_iff_toInt_lt.mpr (Classical.not_not.mp h))
theorem cmpL_t {cd : ClassFile.Cond} {x y : Int64} (h : cmpP cd x.toInt y.toInt) : ifCond.holds cd (XT.cmpL x y) = true := by
  cases cd <;> simp only [cmpP] at h
  · exact XT.ll_eq_t (long_eq h)
  · exact XT.ll_ne_t fun q => h (by rw [q])
  · exact XT.ll_lt_t (Int64.lt_iff_toInt_lt.mpr h)
  · exact XT.ll_ge_t fun q => h (Int64.lt_iff_toInt_lt.mp q)
  · exact XT.ll_gt_t (Int64.lt_iff_toInt_lt.mpr h)
  · exact XT.ll_le_t fun q => h (Int64.lt_iff_toInt_lt.mp q)
theorem cmpL_f {cd : ClassFile.Cond} {x y : Int64} (h : ¬ cmpP cd x.toInt y.toInt) : ifCond.holds cd (XT.cmpL x y) = false := by
  cases cd <;> simp only [cmpP] at h
  · exact XT.ll_eq_f fun q => h (by rw [q])
  · exact XT.ll_ne_f (long_eq (Classical.not_not.mp h))
  · exact XT.ll_lt_f fun q => h (Int64.lt_iff_toInt_lt.mp q)
  · exact XT.ll_ge_f (Int64.lt_iff_toInt_lt.mpr (Classical.not_not.mp h))
  · exact XT.ll_gt_f fun q => h (Int64.lt_iff_toInt_lt.mp q)
  · exact XT.ll_le_f (Int64.lt_iff_toInt_lt.mpr (Classical.not_not.mp h))
theorem go_icmp (C : Cx p s m meth c Z own bs mx rt nm) {cd : ClassFile.Cond} {x y : Int32} {o : Int} {pcN : Nat} (kx ky : Int) (hx : x.toInt = kx) (hy : y.toInt = ky) (hd : decode bs pc = .ok (.if_icmp cd o, 3)) (ho : 0 ≤ (pc : Int) + o) (hp : ((pc : Int) + o).toNat = pc') (hpn : pc + 3 = pcN) (h1 : cmpP cd kx ky → Go p l e R s m args below meth c n0 Q K N h ce sl (mkF m pc' Ls st)) (h2 : cmpN cd kx ky → Go p l e R s m args below meth c n0 Q K N h ce sl (mkF m pcN Ls st)) : Go p l e R s m args below meth c n0 Q K N h ce sl (mkF m pc Ls (.int y :: .int x :: st)) := by
  subst hpn hx hy
  by_cases q : cmpP cd x.toInt y.toInt
  · exact Go.step (fun T A _ k => XS.icmpYes A C.1 rfl rfl (hb C.2.1 hd) rfl (cmp_t q) ho hp k) (h1 q)
  · exact Go.step (fun T A _ k => XS.icmpNo A C.1 rfl (hb C.2.1 hd) rfl (cmp_f q) k) (h2 (cmpN_of q))
theorem go_if0 (C : Cx p s m meth c Z own bs mx rt nm) {cd : ClassFile.Cond} {x : Int32} {o : Int} {pcN : Nat} (kx : Int) (hx : x.toInt = kx) (hd : decode bs pc = .ok (.ifCond cd o, 3)) (ho : 0 ≤ (pc : Int) + o) (hp : ((pc : Int) + o).toNat = pc') (hpn : pc + 3 = pcN) (h1 : cmpP cd kx 0 → Go p l e R s m args below meth c n0 Q K N h ce sl (mkF m pc' Ls st)) (h2 : cmpN cd kx 0 → Go p l e R s m args below meth c n0 Q K N h ce sl (mkF m pcN Ls st)) : Go p l e R s m args below meth c n0 Q K N h ce sl (mkF m pc Ls (.int x :: st)) := by
  subst hpn hx
  by_cases q : cmpP cd x.toInt 0
  · exact Go.step (fun T A _ k => XS.ifYes A C.1 rfl rfl (hb C.2.1 hd) rfl ((if0 cd x).trans (cmp_t q)) ho hp k) (h1 q)
  · exact Go.step (fun T A _ k => XS.ifNo A C.1 rfl (hb C.2.1 hd) rfl ((if0 cd x).trans (cmp_f q)) k) (h2 (cmpN_of q))
theorem go_lcmp (C : Cx p s m meth c Z own bs mx rt nm) {cd : ClassFile.Cond} {x y : Int64} {o : Int} {pc1 pcN : Nat} (kx ky : Int) (hx : x.toInt = kx) (hy : y.toInt = ky) (hd0 : decode bs pc = .ok (.lcmp, 1)) (hp1 : pc + 1 = pc1) (hd : decode bs pc1 = .ok (.ifCond cd o, 3)) (ho : 0 ≤ (pc1 : Int) + o) (hp : ((pc1 : Int) + o).toNat = pc') (hpn : pc1 + 3 = pcN) (h1 : cmpP cd kx ky → Go p l e R s m args below meth c n0 Q K N h ce sl (mkF m pc' Ls st)) (h2 : cmpN cd kx ky → Go p l e R s m args below meth c n0 Q K N h ce sl (mkF m pcN Ls st)) : Go p l e R s m args below meth c n0 Q K N h ce sl (mkF m pc Ls (.long y :: .long x :: st)) := by
  subst hpn hp1 hx hy
  refine Go.step (g' := mkF m (pc + 1) Ls (.int (XT.cmpL x y) :: st)) (fun T A _ k => XT.lcmp A C.1 rfl (hb C.2.1 hd0) rfl k) ?_
  by_cases q : cmpP cd x.toInt y.toInt
  · exact Go.step (fun T A _ k => XS.ifYes A C.1 rfl rfl (hb C.2.1 hd) rfl (cmpL_t q) ho hp k) (h1 q)
  · exact Go.step (fun T A _ k => XS.ifNo A C.1 rfl (hb C.2.1 hd) rfl (cmpL_f q) k) (h2 (cmpN_of q))
theorem go_ifne_b (C : Cx p s m meth c Z own bs mx rt nm) {B : Prop} [Decidable B] {o : Int} {pcN : Nat} (hd : decode bs pc = .ok (.ifCond .ne o, 3)) (ho : 0 ≤ (pc : Int) + o) (hp : ((pc : Int) + o).toNat = pc') (hpn : pc + 3 = pcN) (h1 : B → Go p l e R s m args below meth c n0 Q K N h ce sl (mkF m pc' Ls st)) (h2 : ¬ B → Go p l e R s m args below meth c n0 Q K N h ce sl (mkF m pcN Ls st)) : Go p l e R s m args below meth c n0 Q K N h ce sl (mkF m pc Ls (.int (bi B) :: st)) := by
  refine go_if0 C _ rfl hd ho hp hpn (fun q => h1 ?_) (fun q => h2 ?_)
  · exact Classical.byContradiction fun z => q (by rw [bi_f z]; rfl)
  · exact fun z => by
      have q' : (bi B).toInt = 0 := q
      rw [bi_t z] at q'
      exact absurd q' (by decide)
theorem go_ifeq_b (C : Cx p s m meth c Z own bs mx rt nm) {B : Prop} [Decidable B] {o : Int} {pcN : Nat} (hd : decode bs pc = .ok (.ifCond .eq o, 3)) (ho : 0 ≤ (pc : Int) + o) (hp : ((pc : Int) + o).toNat = pc') (hpn : pc + 3 = pcN) (h1 : ¬ B → Go p l e R s m args below meth c n0 Q K N h ce sl (mkF m pc' Ls st)) (h2 : B → Go p l e R s m args below meth c n0 Q K N h ce sl (mkF m pcN Ls st)) : Go p l e R s m args below meth c n0 Q K N h ce sl (mkF m pc Ls (.int (bi B) :: st)) := by
  refine go_if0 C _ rfl hd ho hp hpn (fun q => h1 ?_) (fun q => h2 ?_)
  · exact fun z => by
      have q' : (bi B).toInt = 0 := q
      rw [bi_t z] at q'
      exact absurd q' (by decide)
  · exact Classical.byContradiction fun z => q (by rw [bi_f z]; rfl)
theorem go_ifnull_r (C : Cx p s m meth c Z own bs mx rt nm) {a : Addr} {o : Int} (hd : decode bs pc = .ok (.ifnull o, 3)) (hp : pc + 3 = pc') (hr : Go p l e R s m args below meth c n0 Q K N h ce sl (mkF m pc' Ls st)) : Go p l e R s m args below meth c n0 Q K N h ce sl (mkF m pc Ls (.ref a :: st)) := by
  subst hp
  exact Go.step (fun T A _ k => XS.ifnullNo A C.1 rfl (hb C.2.1 hd) rfl k) hr
theorem go_ifnull_n (C : Cx p s m meth c Z own bs mx rt nm) {o : Int} (hd : decode bs pc = .ok (.ifnull o, 3)) (ho : 0 ≤ (pc : Int) + o) (hp : ((pc : Int) + o).toNat = pc') (hr : Go p l e R s m args below meth c n0 Q K N h ce sl (mkF m pc' Ls st)) : Go p l e R s m args below meth c n0 Q K N h ce sl (mkF m pc Ls (.null :: st)) :=
  Go.step (fun T A _ k => XS.ifnullYes A C.1 rfl rfl (hb C.2.1 hd) rfl ho hp k) hr
theorem go_ldc (C : Cx p s m meth c Z own bs mx rt nm) {i : Nat} {v : Int32} (w : (Jvm.Cond.constant own i v).before a0 Z = true) (hd : decode bs pc = .ok (.ldc i, 2)) (hp : pc + 2 = pc') (hr : Go p l e R s m args below meth c n0 Q K N h ce sl (mkF m pc' Ls (.int v :: st))) : Go p l e R s m args below meth c n0 Q K N h ce sl (mkF m pc Ls st) := by
  subst hp
  exact Go.stepX (fun T locs X _ _ q => X.ldcI C.1 C.2.2.2.2.1 (mv C.2.2.2.1 w) rfl (hb C.2.1 hd) q) hr
theorem go_ldc2 (C : Cx p s m meth c Z own bs mx rt nm) {i : Nat} {v : Int64} (w : (Jvm.Cond.constantLong own i v).before a0 Z = true) (hd : decode bs pc = .ok (.ldc2_w i, 3)) (hp : pc + 3 = pc') (hr : Go p l e R s m args below meth c n0 Q K N h ce sl (mkF m pc' Ls (.long v :: st))) : Go p l e R s m args below meth c n0 Q K N h ce sl (mkF m pc Ls st) := by
  subst hp
  exact Go.stepX (fun T locs X _ _ q => X.ldc2J C.1 C.2.2.2.2.1 (mv C.2.2.2.1 w) rfl (hb C.2.1 hd) q) hr
theorem go_getfield (C : Cx p s m meth c Z own bs mx rt nm) {O n d : String} {i : Nat} {a : Addr} {v : Value} (w : (Jvm.Cond.fieldLink own i O n d).before a0 Z = true) (F0 : Fld Z h a O n d v) (hd : decode bs pc = .ok (.getfield i, 3)) (hp : pc + 3 = pc') (hr : Go p l e R s m args below meth c n0 Q K N h ce sl (mkF m pc' Ls (v :: st))) : Go p l e R s m args below meth c n0 Q K N h ce sl (mkF m pc Ls (.ref a :: st)) := by
  subst hp
  intro T locs X eT Nn
  obtain ⟨T', X', e', stp⟩ := getF X C.1 C.2.2.2.1 C.2.2.2.2.1 (host := "") (Or.inl w) Via.refl eT F0 (g := mkF m pc Ls (.ref a :: st)) rfl rfl (hb C.2.1 hd)
  obtain ⟨s₂, o, h1, r⟩ := hr T' locs X' e' Nn
  exact ⟨s₂, o, stp _ h1, r⟩
theorem go_putfield (C : Cx p s m meth c Z own bs mx rt nm) {O n d C0 : String} {i kk : Nat} {ty : FieldType} {a : Addr} {v old : Value} (w : (Jvm.Cond.fieldLink own i O n d).before a0 Z = true) (F0 : Fld Z h a O n d old) (E : Exa Z h a C0) (L : (Jvm.Cond.lays C0 O n d).before a0 Z = true ∨ ((Jvm.Cond.laysFinal C0 O n d).before a0 Z = true ∧ own = O ∧ nm = "<init>")) (wi : (Jvm.Cond.instantiable C0 kk).before a0 Z = true) (hty : parseFieldDescriptor d = some ty) (hn : narrow ty v = v) (hf : fits ty v = true) (ha : n0 ≤ a) (hd : decode bs pc = .ok (.putfield i, 3)) (hp : pc + 3 = pc') (hr : ∀ h', Wr h h' a (Jvm.RoadKit.slotOf Z O n d) v → Go p l e R s m args below meth c n0 Q K N h' ce sl (mkF m pc' Ls st)) : Go p l e R s m args below meth c n0 Q K N h ce sl (mkF m pc Ls (v :: .ref a :: st)) := by
  subst hp
  intro T locs X eT Nn
  obtain ⟨T', h', X', e', W', stp⟩ := putF X C.1 C.2.2.2.1 C.2.2.2.2.1 (host := "") (Or.inl w) Via.refl eT F0 E (L.imp id fun q => ⟨q.1, q.2.1, C.2.2.2.2.2.2.2.trans q.2.2⟩) wi hty hn hf (g := mkF m pc Ls (v :: .ref a :: st)) rfl rfl (hb C.2.1 hd)
  obtain ⟨s₂, o, h1, r⟩ := hr h' W' T' _ X' e' (Fr.snoc X' Nn ha)
  exact ⟨s₂, o, stp _ h1, r⟩
theorem go_new (C : Cx p s m meth c Z own bs mx rt nm) {C0 : String} {i k ce' sl' : Nat} (w : (Jvm.Cond.classLink own i C0).before a0 Z = true) (wi : (Jvm.Cond.instantiable C0 k).before a0 Z = true) (wz : (Jvm.Cond.initialized C0).before a0 Z = true) (hd : decode bs pc = .ok (.new i, 3)) (hp : pc + 3 = pc') (hce : ce + 1 = ce') (hsl : sl + k = sl') (hc : ce' ≤ R.cells) (hl : sl' ≤ R.slots)
    (hr : ∀ (h' : Heap) (a : Addr), h.size = a → Ext h h' → Exa Z h' a C0 → (∀ {O nm d : String} {ty : FieldType}, Laid Z a0 C0 O nm d → parseFieldDescriptor d = some ty → Fld Z h' a O nm d (defaultValue ty)) → Go p l e R s m args below meth c n0 Q K N h' ce' sl' (mkF m pc' Ls (.ref a :: st))) : Go p l e R s m args below meth c n0 Q K N h ce sl (mkF m pc Ls st) := by
  subst hp hce hsl
  intro T locs X eT Nn
  obtain ⟨T', h', X', e', E', A', D', -, stp⟩ := newO X C.1 C.2.2.2.1 C.2.2.2.2.1 w wi wz eT (g := mkF m pc Ls st) rfl (hb C.2.1 hd) hc hl
  obtain ⟨s₂, o, h1, r⟩ := hr h' _ rfl E' A' D' T' _ X' e' Nn
  exact ⟨s₂, o, stp _ h1, r⟩
/-- an array of type ty that holds just vs -/
def Av (Z : State) (h : Heap) (a : Addr) (ty : FieldType) (vs : List Value) : Prop := ∃ cl : Cell, Arr Z h a cl ty ∧ cl.slots.toList = vs ∧ vs.length < 2147483648
theorem Av.lt {ty : FieldType} {vs : List Value} {a : Addr} (A : Av Z h a ty vs) : a < h.size := by obtain ⟨c, A, -⟩ := A; exact A.lt
theorem Av.ext {ty : FieldType} {vs : List Value} {a : Addr} {h' : Heap} (A : Av Z h a ty vs) (E : Ext h h') : Av Z h' a ty vs := by obtain ⟨c, A, r⟩ := A; exact ⟨c, A.ext E, r⟩
theorem Av.other {ty : FieldType} {vs : List Value} {a b : Addr} {h' : Heap} {k : Nat} {v : Value} (A : Av Z h b ty vs) (W : Wr h h' a k v) (q : b ≠ a) : Av Z h' b ty vs := by obtain ⟨c, A, r⟩ := A; exact ⟨c, A.other W q, r⟩
theorem Av.keep {ty : FieldType} {vs : List Value} {a : Addr} {h' : Heap} {ws : List Addr} (A : Av Z h a ty vs) (K0 : Keep h h' ws) (q : a ∉ ws) : Av Z h' a ty vs := by obtain ⟨c, A, r⟩ := A; exact ⟨c, ⟨K0.2.1 a c A.1 q, A.2⟩, r⟩
theorem own_ne_arr {C0 : String} {ty : FieldType} {vs : List Value} {a b : Addr} {k : Nat} (F0 : Exa Z h a C0) (wi : (Jvm.Cond.instantiable C0 k).before a0 Z = true) (G : Av Z h b ty vs) : a ≠ b := by obtain ⟨c, G, -⟩ := G; exact ne_arr F0 wi G
theorem clamp_of {j : Int32} {k : Nat} (hj : j.toInt = k) : j.toNatClampNeg = k := by
  show j.toInt.toNat = k
  rw [hj]; rfl
theorem nonneg_of {j : Int32} {k : Nat} (hj : j.toInt = k) : ¬ j < 0 := fun q => by
  have := Int32.lt_iff_toInt_lt.mp q
  rw [hj] at this
  exact absurd this (by show ¬ (k : Int) < 0; omega)
theorem Av.at {ty : FieldType} {vs : List Value} {a : Addr} (A : Av Z h a ty vs) {j : Int32} {k : Nat} (hj : j.toInt = k) (hk : k < vs.length) : ∃ cl : Cell, Arr Z h a cl ty ∧ cl.slots.toList = vs ∧ ¬ (j < 0 ∨ cl.slots.size ≤ j.toNatClampNeg) ∧ cl.slots[j.toNatClampNeg]? = vs[k]? := by
  obtain ⟨cl, A, e1, e2⟩ := A
  refine ⟨cl, A, e1, ?_, ?_⟩
  · rw [clamp_of hj]
    intro q
    rcases q with q | q
    · exact nonneg_of hj q
    · rw [← e1] at hk; simp at hk; omega
  · rw [clamp_of hj, ← e1]; simp
theorem Av.set {ty : FieldType} {vs : List Value} {a : Addr} {h' : Heap} {k : Nat} {v : Value} (A : Av Z h a ty vs) (W : Wr h h' a k v) : Av Z h' a ty (vs.set k v) := by
  obtain ⟨cl, A, e1, e2⟩ := A
  exact ⟨_, A.same W, by rw [← e1]; simp [Cell.setSlot], by simpa using e2⟩
/-- n ints, whichever -/
def Ints (vs : List Value) (n : Nat) : Prop := vs.length = n ∧ ∀ k, k < n → ∃ x : Int32, vs[k]? = some (.int x)
theorem Ints.rep (n : Nat) (x : Int32) : Ints (List.replicate n (.int x)) n := ⟨by simp, fun k hk => ⟨x, by simp [hk]⟩⟩
theorem Ints.set {vs : List Value} {n k : Nat} (x : Int32) (I : Ints vs n) : Ints (vs.set k (.int x)) n := ⟨by simpa using I.1, fun j hj => by
  by_cases q : k = j
  · subst q
    exact ⟨x, by rw [List.getElem?_set_self (by rw [I.1]; exact hj)]⟩
  · obtain ⟨y, hy⟩ := I.2 j hj
    exact ⟨y, by rw [List.getElem?_set_ne q]; exact hy⟩⟩
theorem go_arraylength (C : Cx p s m meth c Z own bs mx rt nm) {ty : FieldType} {vs : List Value} {a : Addr} (A : Av Z h a ty vs) (n : Int32) (hn : n.toInt = vs.length) (hd : decode bs pc = .ok (.arraylength, 1)) (hp : pc + 1 = pc') (hr : Go p l e R s m args below meth c n0 Q K N h ce sl (mkF m pc' Ls (.int n :: st))) : Go p l e R s m args below meth c n0 Q K N h ce sl (mkF m pc Ls (.ref a :: st)) := by
  subst hp
  obtain ⟨cl, A, e1, e2⟩ := A
  have q : cl.slots.size.toInt32 = n := by
    have hl : cl.slots.size = vs.length := by rw [← e1]; simp
    rw [hl]
    refine int_eq ?_
    rw [hn]
    exact Int32.toInt_ofNat_of_lt (by omega)
  exact Go.stepX (fun T locs X eT _ k => X.arraylength C.1 (cell := cl) (by rw [eT]; exact A.1) (State.isArrayOf_alike C.2.2.2.1.alike A.2.1) (g := mkF m pc Ls (.ref a :: st)) rfl rfl (hb C.2.1 hd) _ (by rw [q]; exact k)) hr
theorem go_iaload (C : Cx p s m meth c Z own bs mx rt nm) {vs : List Value} {a : Addr} {j : Int32} (A : Av Z h a .int vs) (k : Nat) (v : Value) (hj : j.toInt = k) (hv : vs[k]? = some v) (hd : decode bs pc = .ok (.iaload, 1)) (hp : pc + 1 = pc') (hr : Go p l e R s m args below meth c n0 Q K N h ce sl (mkF m pc' Ls (v :: st))) : Go p l e R s m args below meth c n0 Q K N h ce sl (mkF m pc Ls (.int j :: .ref a :: st)) := by
  subst hp
  obtain ⟨cl, A, e1, e2, e3⟩ := A.at hj (List.getElem?_eq_some_iff.mp hv).1
  exact Go.stepX (fun T locs X eT _ q => X.iaload C.1 (j := j) (v := v) (by rw [eT]; exact A.1) (State.isArrayOf_alike C.2.2.2.1.alike A.2.1) A.2.2 e2 (e3.trans hv) (g := mkF m pc Ls (.int j :: .ref a :: st)) rfl rfl (hb C.2.1 hd) _ q) hr
theorem go_laload (C : Cx p s m meth c Z own bs mx rt nm) {vs : List Value} {a : Addr} {j : Int32} (A : Av Z h a .long vs) (k : Nat) (v : Value) (hj : j.toInt = k) (hv : vs[k]? = some v) (hd : decode bs pc = .ok (.laload, 1)) (hp : pc + 1 = pc') (hr : Go p l e R s m args below meth c n0 Q K N h ce sl (mkF m pc' Ls (v :: st))) : Go p l e R s m args below meth c n0 Q K N h ce sl (mkF m pc Ls (.int j :: .ref a :: st)) := by
  subst hp
  obtain ⟨cl, A, e1, e2, e3⟩ := A.at hj (List.getElem?_eq_some_iff.mp hv).1
  exact Go.stepX (fun T locs X eT _ q => X.laload C.1 (j := j) (v := v) (by rw [eT]; exact A.1) (State.isArrayOf_alike C.2.2.2.1.alike A.2.1) A.2.2 e2 (e3.trans hv) (g := mkF m pc Ls (.int j :: .ref a :: st)) rfl rfl (hb C.2.1 hd) _ q) hr
theorem go_baload (C : Cx p s m meth c Z own bs mx rt nm) {vs : List Value} {a : Addr} {j : Int32} (A : Av Z h a .byte vs) (k : Nat) (v : Value) (hj : j.toInt = k) (hv : vs[k]? = some v) (hd : decode bs pc = .ok (.baload, 1)) (hp : pc + 1 = pc') (hr : Go p l e R s m args below meth c n0 Q K N h ce sl (mkF m pc' Ls (v :: st))) : Go p l e R s m args below meth c n0 Q K N h ce sl (mkF m pc Ls (.int j :: .ref a :: st)) := by
  subst hp
  obtain ⟨cl, A, e1, e2, e3⟩ := A.at hj (List.getElem?_eq_some_iff.mp hv).1
  exact Go.stepX (fun T locs X eT _ q => X.baloadBytes C.1 (j := j) (v := v) (by rw [eT]; exact A.1) (State.isArrayOf_alike C.2.2.2.1.alike A.2.1) A.2.2 e2 (e3.trans hv) (g := mkF m pc Ls (.int j :: .ref a :: st)) rfl rfl (hb C.2.1 hd) _ q) hr
theorem go_iastore (C : Cx p s m meth c Z own bs mx rt nm) {vs : List Value} {a : Addr} {j : Int32} {x : Int32} (A : Av Z h a .int vs) (k : Nat) (hj : j.toInt = k) (hk : k < vs.length) (ha : n0 ≤ a) (hd : decode bs pc = .ok (.iastore, 1)) (hp : pc + 1 = pc') (hr : ∀ h', Wr h h' a k (.int x) → Av Z h' a .int (vs.set k (.int x)) → Go p l e R s m args below meth c n0 Q K N h' ce sl (mkF m pc' Ls st)) : Go p l e R s m args below meth c n0 Q K N h ce sl (mkF m pc Ls (.int x :: .int j :: .ref a :: st)) := by
  subst hp
  obtain ⟨cl, A1, e1, e2, e3⟩ := A.at hj hk
  intro T locs X eT Nn
  obtain ⟨T', h', X', e', W', stp⟩ := stI X C.1 C.2.2.2.1 eT A1 e2 (g := mkF m pc Ls (.int x :: .int j :: .ref a :: st)) rfl rfl (hb C.2.1 hd)
  have W2 : Wr h h' a k (.int x) := by rw [clamp_of hj] at W'; exact W'
  obtain ⟨s₂, o, h1, r⟩ := hr h' W2 (A.set W2) T' _ X' e' (Fr.snoc X' Nn ha)
  exact ⟨s₂, o, stp _ h1, r⟩
theorem go_lastore (C : Cx p s m meth c Z own bs mx rt nm) {vs : List Value} {a : Addr} {j : Int32} {x : Int64} (A : Av Z h a .long vs) (k : Nat) (hj : j.toInt = k) (hk : k < vs.length) (ha : n0 ≤ a) (hd : decode bs pc = .ok (.lastore, 1)) (hp : pc + 1 = pc') (hr : ∀ h', Wr h h' a k (.long x) → Av Z h' a .long (vs.set k (.long x)) → Go p l e R s m args below meth c n0 Q K N h' ce sl (mkF m pc' Ls st)) : Go p l e R s m args below meth c n0 Q K N h ce sl (mkF m pc Ls (.long x :: .int j :: .ref a :: st)) := by
  subst hp
  obtain ⟨cl, A1, e1, e2, e3⟩ := A.at hj hk
  intro T locs X eT Nn
  obtain ⟨T', h', X', e', W', stp⟩ := stJ X C.1 C.2.2.2.1 eT A1 e2 (g := mkF m pc Ls (.long x :: .int j :: .ref a :: st)) rfl rfl (hb C.2.1 hd)
  have W2 : Wr h h' a k (.long x) := by rw [clamp_of hj] at W'; exact W'
  obtain ⟨s₂, o, h1, r⟩ := hr h' W2 (A.set W2) T' _ X' e' (Fr.snoc X' Nn ha)
  exact ⟨s₂, o, stp _ h1, r⟩
theorem go_bastore (C : Cx p s m meth c Z own bs mx rt nm) {vs : List Value} {a : Addr} {j : Int32} {x : Int32} (A : Av Z h a .byte vs) (k : Nat) (hj : j.toInt = k) (hk : k < vs.length) (x' : Int32) (hx : x.toInt8.toInt32 = x') (ha : n0 ≤ a) (hd : decode bs pc = .ok (.bastore, 1)) (hp : pc + 1 = pc') (hr : ∀ h', Wr h h' a k (.int x') → Av Z h' a .byte (vs.set k (.int x')) → Go p l e R s m args below meth c n0 Q K N h' ce sl (mkF m pc' Ls st)) : Go p l e R s m args below meth c n0 Q K N h ce sl (mkF m pc Ls (.int x :: .int j :: .ref a :: st)) := by
  subst hp hx
  obtain ⟨cl, A1, e1, e2, e3⟩ := A.at hj hk
  intro T locs X eT Nn
  obtain ⟨T', h', X', e', W', stp⟩ := stB X C.1 C.2.2.2.1 eT A1 e2 (g := mkF m pc Ls (.int x :: .int j :: .ref a :: st)) rfl rfl (hb C.2.1 hd)
  have W2 : Wr h h' a k (.int x.toInt8.toInt32) := by rw [clamp_of hj] at W'; exact W'
  obtain ⟨s₂, o, h1, r⟩ := hr h' W2 (A.set W2) T' _ X' e' (Fr.snoc X' Nn ha)
  exact ⟨s₂, o, stp _ h1, r⟩
theorem go_newarray (C : Cx p s m meth c Z own bs mx rt nm) {aty : ArrayType} {ty : FieldType} {n : Int32} {ce' sl' : Nat} (w : (Jvm.Cond.arrayClass ty).before a0 Z = true) (hty : newarray.typeOf aty = ty) (k cap : Nat) (hn : n.toInt = k) (hcap : k ≤ cap) (hc8 : cap * 8 ≤ 536870912) (hce : ce + 1 = ce') (hsl : sl + cap = sl') (hc : ce' ≤ R.cells) (hl : sl' ≤ R.slots) (hd : decode bs pc = .ok (.newarray aty, 2)) (hp : pc + 2 = pc')
    (hr : ∀ (h' : Heap) (a : Addr), h.size = a → Ext h h' → Av Z h' a ty (List.replicate k (defaultValue ty)) → Go p l e R s m args below meth c n0 Q K N h' ce' sl' (mkF m pc' Ls (.ref a :: st))) : Go p l e R s m args below meth c n0 Q K N h ce sl (mkF m pc Ls (.int n :: st)) := by
  subst hp hty hce hsl
  intro T locs X eT Nn
  obtain ⟨T', h', cA, X', e', E', A', stp⟩ := newP X C.1 C.2.2.2.1 w eT (g := mkF m pc Ls (.int n :: st)) rfl (hb C.2.1 hd) rfl (nonneg_of hn) (cap := cap) (by rw [clamp_of hn]; exact hcap) hc8 hc hl
  have hb31 : k < 2147483648 := by have := n.toInt_lt; omega
  obtain ⟨s₂, o, h1, r⟩ := hr h' _ rfl E' ⟨_, A', by simp [newA, clamp_of hn], by simpa using hb31⟩ T' _ X' e' Nn
  exact ⟨s₂, o, stp _ h1, r⟩
theorem go_newarrayE (C : Cx p s m meth c Z own bs mx rt nm) {aty : ArrayType} {ty : FieldType} {n : Int32} {ce' sl' : Nat} {ad : String} (w : (Jvm.Cond.arrayClass ty).before a0 Z = true) (hty : newarray.typeOf aty = ty) (had : "[" ++ ty.toString = ad) (k cap : Nat) (hn : n.toInt = k) (hcap : k ≤ cap) (hc8 : cap * 8 ≤ 536870912) (hce : ce + 1 = ce') (hsl : sl + cap = sl') (hc : ce' ≤ R.cells) (hl : sl' ≤ R.slots) (hd : decode bs pc = .ok (.newarray aty, 2)) (hp : pc + 2 = pc')
    (hr : ∀ (h' : Heap) (a : Addr), h.size = a → Ext h h' → Exa Z h' a ad → Av Z h' a ty (List.replicate k (defaultValue ty)) → Go p l e R s m args below meth c n0 Q K N h' ce' sl' (mkF m pc' Ls (.ref a :: st))) : Go p l e R s m args below meth c n0 Q K N h ce sl (mkF m pc Ls (.int n :: st)) := by
  subst hp hty hce hsl
  intro T locs X eT Nn
  obtain ⟨T', h', cA, X', e', E', A', Q', stp⟩ := newPE X C.1 C.2.2.2.1 w eT (g := mkF m pc Ls (.int n :: st)) rfl (hb C.2.1 hd) rfl (nonneg_of hn) (cap := cap) (by rw [clamp_of hn]; exact hcap) hc8 hc hl had
  have hb31 : k < 2147483648 := by have := n.toInt_lt; omega
  obtain ⟨s₂, o, h1, r⟩ := hr h' _ rfl E' Q' ⟨_, A', by simp [newA, clamp_of hn], by simpa using hb31⟩ T' _ X' e' Nn
  exact ⟨s₂, o, stp _ h1, r⟩
theorem go_clone (C : Cx p s m meth c Z own bs mx rt nm) {i : Nat} {ad : String} {ty : FieldType} {vs : List Value} {a : Addr} {W cap ce' sl' : Nat} (w1 : (Jvm.Cond.methodLink own i ⟨ad, "clone", "()Ljava/lang/Object;"⟩).before a0 Z = true) (w2 : (Jvm.Cond.sameMethod ad "java/lang/Object" "clone" "()Ljava/lang/Object;").before a0 Z = true) (w3 : (Jvm.Cond.native ⟨"java/lang/Object", "clone", "()Ljava/lang/Object;"⟩).before a0 Z = true) (w4 : (Jvm.Cond.instanceMethod ⟨"java/lang/Object", "clone", "()Ljava/lang/Object;"⟩).before a0 Z = true) (w5 : (Jvm.Cond.selects ad ⟨ad, "clone", "()Ljava/lang/Object;"⟩ ⟨"java/lang/Object", "clone", "()Ljava/lang/Object;"⟩).before a0 Z = true) (w6 : (Jvm.Cond.castable ad "java/lang/Cloneable").before a0 Z = true) (A : Av Z h a ty vs) (E : Exa Z h a ad) (hfit : ∀ v ∈ vs, fits ty v = true) (hls : Ls.size = mx) (hf : 1 ≤ R.frames) (hW : wt st = W) (hlo : W + 14 ≤ R.locals) (hcap : vs.length ≤ cap) (hce : ce + 1 = ce') (hsl : sl + cap = sl') (hc : ce' ≤ R.cells) (hl : sl' ≤ R.slots) (hd : decode bs pc = .ok (.invokevirtual i, 3)) (hp : pc + 3 = pc')
    (hr : ∀ (h' : Heap) (b : Addr), h.size = b → Ext h h' → Exa Z h' b ad → Av Z h' b ty vs → Go p l e R s m args below meth c n0 Q K N h' ce' sl' (mkF m pc' Ls (.ref b :: st))) : Go p l e R s m args below meth c n0 Q K N h ce sl (mkF m pc Ls (.ref a :: st)) := by
  subst hp hce hsl
  intro T locs X eT Nn
  obtain ⟨cl, A1, e1, e2⟩ := A
  have hsz : cl.slots.size = vs.length := by rw [← e1]; simp
  have FC : FitC Z cl := fitC_of A1 fun i hi v hv => hfit v (by rw [← e1]; exact Array.mem_toList_iff.mpr (Array.mem_of_getElem? hv))
  obtain ⟨T', h', X', e', E', A', Q', stp⟩ := cloneA X C.1 C.2.2.2.1 C.2.2.2.2.1 w1 w2 w3 w4 w5 w6 eT A1 E FC (g := mkF m pc Ls (.ref a :: st)) rfl (hls.trans C.2.2.1.symm) rfl (hb C.2.1 hd) hf (W := W) (cap := cap) (by show 2 * 0 + wt st ≤ W; omega) hlo (by rw [hsz]; exact hcap) hc hl
  obtain ⟨s₂, o, h1, r⟩ := hr h' _ rfl E' Q' ⟨_, A', e1, e2⟩ T' _ X' e' Nn
  exact ⟨s₂, o, stp _ h1, r⟩
theorem go_checkcast (C : Cx p s m meth c Z own bs mx rt nm) {i : Nat} {K0 : String} {a : Addr} (w : (Jvm.Cond.classLink own i K0).before a0 Z = true) (E : Exa Z h a K0) (hd : decode bs pc = .ok (.checkcast i, 3)) (hp : pc + 3 = pc') (hr : Go p l e R s m args below meth c n0 Q K N h ce sl (mkF m pc' Ls (.ref a :: st))) : Go p l e R s m args below meth c n0 Q K N h ce sl (mkF m pc Ls (.ref a :: st)) := by
  subst hp
  intro T locs X eT Nn
  obtain ⟨T', X', e', stp⟩ := castY X C.1 C.2.2.2.1 C.2.2.2.2.1 w eT (Ins.self E) (g := mkF m pc Ls (.ref a :: st)) rfl rfl (hb C.2.1 hd)
  obtain ⟨s₂, o, h1, r⟩ := hr T' locs X' e' Nn
  exact ⟨s₂, o, stp _ h1, r⟩
theorem go_objinit (C : Cx p s m meth c Z own bs mx rt nm) {i : Nat} {a : Addr} {W : Nat} (w1 : (Jvm.Cond.methodLink own i Lib.objectInit).before a0 Z = true) (w2 : (Jvm.Cond.instanceMethod Lib.objectInit).before a0 Z = true) (w3 : (Jvm.Cond.code Lib.objectInit ⟨#[0xb1]⟩ 1 none).before a0 Z = true) (hls : Ls.size = mx) (hf : 1 ≤ R.frames) (hW : wt st = W) (hl : W + 12 ≤ R.locals) (hd : decode bs pc = .ok (.invokespecial i, 3)) (hp : pc + 3 = pc') (hr : Go p l e R s m args below meth c n0 Q K N h ce sl (mkF m pc' Ls st)) : Go p l e R s m args below meth c n0 Q K N h ce sl (mkF m pc Ls (.ref a :: st)) := by
  subst hp
  intro T locs X eT Nn
  obtain ⟨T', X', e', stp⟩ := initO X C.1 C.2.2.2.1 C.2.2.2.2.1 w1 w2 w3 eT (g := mkF m pc Ls (.ref a :: st)) rfl (hls.trans C.2.2.1.symm) rfl (hb C.2.1 hd) hf (W := W) (by show 2 * 0 + wt st ≤ W; omega) hl
  obtain ⟨s₂, o, h1, r⟩ := hr T' locs X' e' Nn
  exact ⟨s₂, o, stp _ h1, r⟩
theorem back_of_sat {y : MethodName} {cb : ByteArray} {cm : Nat} {cr : Option FieldType} {rm : Room} {as : List Value} {Qc : Option Value → Heap → Prop} {W len : Nat} (S : Sat l Z y cb cm cr rm as h n0 Qc) (hZ : Z.Warmed39 s.vm) (w3 : (Jvm.Cond.initialized y.cls).before a0 Z = true) (w4 : (Jvm.Cond.code y cb cm cr).before a0 Z = true) (hfr : rm.frames + 1 ≤ R.frames) (hlo : W + (cm + 11) + rm.locals ≤ R.locals) :
    Back l R p e below s args y len W (fun A a => a = as.toArray ∧ A.U.heap = h ∧ A.cells + rm.cells ≤ R.cells ∧ A.slots + rm.slots ≤ R.slots) (fun A _ v B => ∃ L, (Qc v B.U.heap ∧ Fr n0 L) ∧ B.locs = A.locs ++ L ∧ B.cells = A.cells + rm.cells ∧ B.slots = A.slots + rm.slots) :=
  backOf (Q := fun v h L => Qc v h ∧ Fr n0 L) (W := W) (S []) hZ w4 w3 hfr hlo
theorem go_static (C : Cx p s m meth c Z own bs mx rt nm) {y : MethodName} {i : Nat} {cb : ByteArray} {cm : Nat} {cr : Option FieldType} {rm : Room} {as rest : List Value} {W : Nat} {ps : List FieldType} {pr : Option FieldType} {ce' sl' : Nat} {Qc : Option Value → Heap → Prop} (S : Sat l Z y cb cm cr rm as h n0 Qc) (w1 : (Jvm.Cond.methodLink own i y).before a0 Z = true) (w2 : (Jvm.Cond.static y).before a0 Z = true) (w3 : (Jvm.Cond.initialized y.cls).before a0 Z = true) (w4 : (Jvm.Cond.code y cb cm cr).before a0 Z = true) (hy : y.cls ≠ "java/lang/invoke/MethodHandle" ∧ y.cls ≠ "java/lang/invoke/VarHandle") (hpd : parseMethodDescriptor y.desc = some ⟨ps, pr⟩) (hlen : as.length = ps.length) (hls : Ls.size = mx) (hW : wt rest = W) (hfr : rm.frames + 1 ≤ R.frames) (hlo : W + (cm + 11) + rm.locals ≤ R.locals) (hce : ce + rm.cells = ce') (hsl : sl + rm.slots = sl') (hcc : ce' ≤ R.cells) (hss : sl' ≤ R.slots) (hd : decode bs pc = .ok (.invokestatic i, 3)) (hp : pc + 3 = pc') (hst : st = as.reverse ++ rest) (hr : ∀ v h', Qc v h' → Go p l e R s m args below meth c n0 Q K N h' ce' sl' (mkF m pc' Ls (v.toList ++ rest))) : Go p l e R s m args below meth c n0 Q K N h ce sl (mkF m pc Ls st) := by
  subst hp hce hsl
  intro T locs X eT Nn
  have hZ := C.2.2.2.1
  obtain ⟨v, _, ⟨T', L', k', n'⟩, -, X', ⟨Lc, hQ, l', y', z'⟩, stp⟩ := Jvm.LawKit.callS X C.1 (y := y) C.2.2.2.2.1 (mvT hZ w1) (mvT hZ w2) (mvT hZ w3) (mvT hZ w4) hy (back_of_sat S hZ w3 w4 hfr hlo) (g := mkF m pc Ls st) rfl (hls.trans C.2.2.1.symm) (argsL := as) (rest := rest) (lenOf hpd hlen) hst (by show 2 * 0 + wt rest ≤ W; omega) (hb C.2.1 hd) (fun _ _ => ⟨rfl, eT, hcc, hss⟩)
  dsimp only [Pt.U, Pt.locs, Pt.cells, Pt.slots] at X' l' y' z' stp hQ
  subst l' y' z'
  obtain ⟨s₂, o, h1, r⟩ := hr v T'.heap hQ.1 T' _ X' rfl (Fr.app Nn hQ.2)
  exact ⟨s₂, o, stp _ h1, r⟩
theorem go_special (C : Cx p s m meth c Z own bs mx rt nm) {y : MethodName} {i : Nat} {cb : ByteArray} {cm : Nat} {rm : Room} {as rest : List Value} {W : Nat} {ps : List FieldType} {pr : Option FieldType} {ce' sl' : Nat} {a : Addr} {Qc : Option Value → Heap → Prop} (S : Sat l Z y cb cm none rm (.ref a :: as) h n0 Qc) (hyn : y.name = "<init>") (w1 : (Jvm.Cond.methodLink own i y).before a0 Z = true) (w2 : (Jvm.Cond.instanceMethod y).before a0 Z = true) (w3 : (Jvm.Cond.initialized y.cls).before a0 Z = true) (w4 : (Jvm.Cond.code y cb cm none).before a0 Z = true) (hy : y.cls ≠ "java/lang/invoke/MethodHandle" ∧ y.cls ≠ "java/lang/invoke/VarHandle") (hpd : parseMethodDescriptor y.desc = some ⟨ps, pr⟩) (hlen : as.length = ps.length) (hls : Ls.size = mx) (hW : wt rest = W) (hfr : rm.frames + 1 ≤ R.frames) (hlo : W + (cm + 11) + rm.locals ≤ R.locals) (hce : ce + rm.cells = ce') (hsl : sl + rm.slots = sl') (hcc : ce' ≤ R.cells) (hss : sl' ≤ R.slots) (hd : decode bs pc = .ok (.invokespecial i, 3)) (hp : pc + 3 = pc') (hst : st = as.reverse ++ .ref a :: rest) (hr : ∀ v h', Qc v h' → Go p l e R s m args below meth c n0 Q K N h' ce' sl' (mkF m pc' Ls (v.toList ++ rest))) : Go p l e R s m args below meth c n0 Q K N h ce sl (mkF m pc Ls st) := by
  subst hp hce hsl
  intro T locs X eT Nn
  have hZ := C.2.2.2.1
  obtain ⟨v, _, ⟨T', L', k', n'⟩, -, X', ⟨Lc, hQ, l', y', z'⟩, stp⟩ := X.specialBack C.1 (y := y) hyn C.2.2.2.2.1 (mvT hZ w1) (mvT hZ w2) (mvT hZ w4) hy (back_of_sat S hZ w3 w4 hfr hlo) (g := mkF m pc Ls st) rfl (hls.trans C.2.2.1.symm) (Steps.refl _) (a := a) (argsL := as) (rest := rest) (lenOf hpd hlen) hst (by show 2 * 0 + wt rest ≤ W; omega) (hb C.2.1 hd) (fun _ _ => ⟨rfl, eT, hcc, hss⟩)
  dsimp only [Pt.U, Pt.locs, Pt.cells, Pt.slots] at X' l' y' z' stp hQ
  subst l' y' z'
  obtain ⟨s₂, o, h1, r⟩ := hr v T'.heap hQ.1 T' _ X' rfl (Fr.app Nn hQ.2)
  exact ⟨s₂, o, stp.trans h1, r⟩
theorem go_virtual (C : Cx p s m meth c Z own bs mx rt nm) {y : MethodName} {i : Nat} {cb : ByteArray} {cm : Nat} {cr : Option FieldType} {rm : Room} {as rest : List Value} {W : Nat} {ps : List FieldType} {pr : Option FieldType} {ce' sl' : Nat} {a : Addr} {C0 : String} {Qc : Option Value → Heap → Prop} (S : Sat l Z y cb cm cr rm (.ref a :: as) h n0 Qc) (E : Exa Z h a C0) (w1 : (Jvm.Cond.methodLink own i y).before a0 Z = true) (w5 : (Jvm.Cond.declares y).before a0 Z = true) (w6 : (Jvm.Cond.selects C0 y y).before a0 Z = true) (w2 : (Jvm.Cond.instanceMethod y).before a0 Z = true) (w3 : (Jvm.Cond.initialized y.cls).before a0 Z = true) (w4 : (Jvm.Cond.code y cb cm cr).before a0 Z = true) (hy : y.cls ≠ "java/lang/invoke/MethodHandle" ∧ y.cls ≠ "java/lang/invoke/VarHandle") (hpd : parseMethodDescriptor y.desc = some ⟨ps, pr⟩) (hlen : as.length = ps.length) (hls : Ls.size = mx) (hW : wt rest = W) (hfr : rm.frames + 1 ≤ R.frames) (hlo : W + (cm + 11) + rm.locals ≤ R.locals) (hce : ce + rm.cells = ce') (hsl : sl + rm.slots = sl') (hcc : ce' ≤ R.cells) (hss : sl' ≤ R.slots) (hd : decode bs pc = .ok (.invokevirtual i, 3)) (hp : pc + 3 = pc') (hst : st = as.reverse ++ .ref a :: rest) (hr : ∀ v h', Qc v h' → Go p l e R s m args below meth c n0 Q K N h' ce' sl' (mkF m pc' Ls (v.toList ++ rest))) : Go p l e R s m args below meth c n0 Q K N h ce sl (mkF m pc Ls st) := by
  subst hp hce hsl
  intro T locs X eT Nn
  have hZ := C.2.2.2.1
  obtain ⟨cq, kq, qa, qb, qc⟩ := isOf hZ eT E
  obtain ⟨v, _, ⟨T', L', k', n'⟩, -, X', ⟨Lc, hQ, l', y', z'⟩, stp⟩ := X.virtualBack C.1 (y := y) (z := y) C.2.2.2.2.1 (mvT hZ w1) (mvT hZ w5) (notFace_of_selects (args := #[]) (mvT hZ w6)) (mvT hZ w6) (mvT hZ w2) hy (back_of_sat S hZ w3 w4 hfr hlo) qa qc (g := mkF m pc Ls st) rfl (hls.trans C.2.2.1.symm) (Steps.refl _) (argsL := as) (rest := rest) (lenOf hpd hlen) hst (by show 2 * 0 + wt rest ≤ W; omega) (hb C.2.1 hd) (fun _ _ => ⟨rfl, eT, hcc, hss⟩)
  dsimp only [Pt.U, Pt.locs, Pt.cells, Pt.slots] at X' l' y' z' stp hQ
  subst l' y' z'
  obtain ⟨s₂, o, h1, r⟩ := hr v T'.heap hQ.1 T' _ X' rfl (Fr.app Nn hQ.2)
  exact ⟨s₂, o, stp.trans h1, r⟩
theorem go_private (C : Cx p s m meth c Z own bs mx rt nm) {y : MethodName} {i : Nat} {cb : ByteArray} {cm : Nat} {cr : Option FieldType} {rm : Room} {as rest : List Value} {W : Nat} {ps : List FieldType} {pr : Option FieldType} {ce' sl' : Nat} {a : Addr} {C0 : String} {Qc : Option Value → Heap → Prop} (S : Sat l Z y cb cm cr rm (.ref a :: as) h n0 Qc) (E : Exa Z h a C0) (w1 : (Jvm.Cond.methodLink own i y).before a0 Z = true) (w5 : (Jvm.Cond.privateMethod y).before a0 Z = true) (w6 : (Jvm.Cond.selects y.cls y y).before a0 Z = true) (w2 : (Jvm.Cond.instanceMethod y).before a0 Z = true) (w3 : (Jvm.Cond.initialized y.cls).before a0 Z = true) (w4 : (Jvm.Cond.code y cb cm cr).before a0 Z = true) (hy : y.cls ≠ "java/lang/invoke/MethodHandle" ∧ y.cls ≠ "java/lang/invoke/VarHandle") (hpd : parseMethodDescriptor y.desc = some ⟨ps, pr⟩) (hlen : as.length = ps.length) (hls : Ls.size = mx) (hW : wt rest = W) (hfr : rm.frames + 1 ≤ R.frames) (hlo : W + (cm + 11) + rm.locals ≤ R.locals) (hce : ce + rm.cells = ce') (hsl : sl + rm.slots = sl') (hcc : ce' ≤ R.cells) (hss : sl' ≤ R.slots) (hd : decode bs pc = .ok (.invokevirtual i, 3)) (hp : pc + 3 = pc') (hst : st = as.reverse ++ .ref a :: rest) (hr : ∀ v h', Qc v h' → Go p l e R s m args below meth c n0 Q K N h' ce' sl' (mkF m pc' Ls (v.toList ++ rest))) : Go p l e R s m args below meth c n0 Q K N h ce sl (mkF m pc Ls st) := by
  subst hp hce hsl
  intro T locs X eT Nn
  have hZ := C.2.2.2.1
  obtain ⟨cell, hc1, hc2⟩ := E.cell
  obtain ⟨v, _, ⟨T', L', k', n'⟩, -, X', ⟨Lc, hQ, l', y', z'⟩, stp⟩ := X.privateBack C.1 (y := y) C.2.2.2.2.1 (mvT hZ w1) (mvT hZ w2) (mvT hZ w6) (Cond.privateMethod_at (args := #[]) (mvP hZ w5)) (mvT hZ w4) hy (back_of_sat S hZ w3 w4 hfr hlo) (g := mkF m pc Ls st) rfl (hls.trans C.2.2.1.symm) (Steps.refl _) (a := a) (by rw [eT]; exact hc1) hc2 (argsL := as) (rest := rest) (lenOf hpd hlen) hst (by show 2 * 0 + wt rest ≤ W; omega) (hb C.2.1 hd) (fun _ _ => ⟨rfl, eT, hcc, hss⟩)
  dsimp only [Pt.U, Pt.locs, Pt.cells, Pt.slots] at X' l' y' z' stp hQ
  subst l' y' z'
  obtain ⟨s₂, o, h1, r⟩ := hr v T'.heap hQ.1 T' _ X' rfl (Fr.app Nn hQ.2)
  exact ⟨s₂, o, stp.trans h1, r⟩
theorem own_selects_private {y : MethodName} {k : Nat} (wi : (Jvm.Cond.instantiable y.cls k).before a0 Z = true) (wp : (Jvm.Cond.privateMethod y).before a0 Z = true) (wm : (Jvm.Cond.instanceMethod y).before a0 Z = true) (hy : y.cls ≠ "java/lang/invoke/MethodHandle" ∧ y.cls ≠ "java/lang/invoke/VarHandle") : (Jvm.Cond.selects y.cls y y).before a0 Z = true := by
  obtain ⟨mk, methM, hnamed, hmethM, hstM, habM⟩ := Cond.instanceMethod_spec wm
  obtain ⟨c1, k1, q1, q2, q3, q4, -⟩ := Cond.instantiable_spec wi
  have hc := findClass_of_methodNamed hnamed
  cases q1.symm.trans hc
  have hf := State.methodFound?_of_named hnamed hy
  have hs : selectMethod {} Z.vm mk.cls mk = .method mk := selectMethod_private hmethM (Cond.privateMethod_at wp mk methM hnamed hmethM)
  have hi : k1.isInterface = false := by
    cases h : k1.isInterface
    · rfl
    · rw [h] at q4; simp at q4
  simp [Cond.before, Cond.holds, Cond.value, hc, hf, hnamed, hs, q2, hi]
theorem go_specialW (C : Cx p s m meth c Z own bs mx rt nm) {y : MethodName} {i : Nat} {cb : ByteArray} {cm : Nat} {rm : Room} {as rest : List Value} {W : Nat} {ps : List FieldType} {pr : Option FieldType} {ce' sl' : Nat} {a : Addr} {Qc : Option Value → Heap → Prop} (S : Sat l Z y cb cm none rm (.ref a :: as) h n0 Qc) (hyn : y.name = "<init>") (w1 : (Jvm.Cond.methodRef own i y).before a0 Z = true) (w2 : (Jvm.Cond.instanceMethod y).before a0 Z = true) (w3 : (Jvm.Cond.initialized y.cls).before a0 Z = true) (w4 : (Jvm.Cond.code y cb cm none).before a0 Z = true) (hy : y.cls ≠ "java/lang/invoke/MethodHandle" ∧ y.cls ≠ "java/lang/invoke/VarHandle") (hpd : parseMethodDescriptor y.desc = some ⟨ps, pr⟩) (hlen : as.length = ps.length) (hls : Ls.size = mx) (hW : wt rest = W) (hfr : rm.frames + 1 ≤ R.frames) (hlo : W + (cm + 11) + rm.locals ≤ R.locals) (hce : ce + rm.cells = ce') (hsl : sl + rm.slots = sl') (hcc : ce' ≤ R.cells) (hss : sl' ≤ R.slots) (hd : decode bs pc = .ok (.invokespecial i, 3)) (hp : pc + 3 = pc') (hst : st = as.reverse ++ .ref a :: rest) (hr : ∀ v h', Qc v h' → Go p l e R s m args below meth c n0 Q K N h' ce' sl' (mkF m pc' Ls (v.toList ++ rest))) : Go p l e R s m args below meth c n0 Q K N h ce sl (mkF m pc Ls st) := by
  subst hp hce hsl
  intro T locs X eT Nn
  have hZ := C.2.2.2.1
  have hT : Z.Warmed39 T.vm := wtrans hZ X.warmed
  obtain ⟨mZ, _, hnZ, -⟩ := Cond.instanceMethod_spec w2
  have w1T : (Jvm.Cond.methodRef own i y).before a0 T = true := (Cond.methodRef_warmed39 hT hnZ hy w1 :)
  obtain ⟨mO, methO, hnO, hmO, hstO, habO⟩ := Cond.instanceMethod_spec (mv (args := a0) hT w2)
  obtain ⟨methO', cO, hmO', hcO, hbO, hlO, -, hlockO, -, hsigO⟩ := Cond.code_spec hnO (mv (args := a0) hT w4)
  cases hmO.symm.trans hmO'
  obtain ⟨kO, hkO, hnameO⟩ := className_of_methodNamed hnO
  obtain ⟨hnameMO, hdescO⟩ := name_of_methodNamed hnO hmO
  have hownT : T.vm.findClass own = some m.cls := by rw [X.warmed.alike.findClass]; exact C.2.2.2.2.1
  obtain ⟨m', c', hf', hready, hfc, hnr⟩ := Cond.methodRef_named e hownT w1T
  have e1 : m' = mO := Option.some.inj (hf'.symm.trans (State.methodFound?_of_named hnO hy))
  subst e1
  have e2 : c' = m'.cls := Option.some.inj (hfc.symm.trans (findClass_of_methodNamed hnO))
  subst e2
  have hfound : lookupSpecial T.vm m'.cls "<init>" methO.desc = .method m' := by rw [hdescO, ← hyn]; exact lookupSpecial_of_named hnO hmO hstO
  have hstep : ∀ target, (∀ acts, Steps p.tables e below (doInvoke e (T.setTop { mkF m pc Ls st with stack := rest }) acts m' (.ref a :: as).toArray).1 target) → Steps p.tables e below (T.setTop (mkF m pc Ls st)) target := fun target hrest => by
    jvm_step X.here [C.1, (hb C.2.1 hd), invokespecial.wp_init (e := e) (s := T) (k := kO) (meth := methO) (m := m') (a := a) (args := as) (rest := rest) (f := mkF m pc Ls st) X.here.top hnr hready hkO hmO (by rw [hnameMO]; exact hyn) hstO habO hfound (lenOf hpd hlen _ hsigO) hst]
    exact hrest
  have B := back_of_sat (p := p) (e := e) (below := below) (args := args) (R := R) (len := 3) S hZ w3 w4 hfr hlo
  obtain ⟨v, ⟨T', L', k', n'⟩, X', ⟨Lc, hQ, l', y', z'⟩, stp⟩ := B m meth c ⟨T, locs, ce, sl⟩ { mkF m pc Ls st with stack := rest } (.invokespecial i) m' (.ref a :: as).toArray X rfl (hls.trans C.2.2.1.symm) (hb C.2.1 hd) (by show 2 * 0 + wt rest ≤ W; omega) hnO ⟨rfl, eT, hcc, hss⟩
  dsimp only [Pt.U, Pt.locs, Pt.cells, Pt.slots] at X' l' y' z' stp hQ
  subst l' y' z'
  obtain ⟨s₂, o, h1, r⟩ := hr v T'.heap hQ.1 T' _ X' rfl (Fr.app Nn hQ.2)
  exact ⟨s₂, o, (hstep _ (fun acts => by rw [doInvoke_state]; exact Steps.refl _)).trans (stp.trans h1), r⟩
theorem go_staticP (C : Cx p s m meth c Z own bs mx rt nm) {y : MethodName} {i : Nat} {cb : ByteArray} {cm : Nat} {cr : Option FieldType} {rm : Room} {as rest : List Value} {W : Nat} {ps : List FieldType} {pr : Option FieldType}  (v : Value) (S : Sat l Z y cb cm cr rm as h n0 (RV fun r h' => r = v ∧ h' = h)) (w1 : (Jvm.Cond.methodLink own i y).before a0 Z = true) (w2 : (Jvm.Cond.static y).before a0 Z = true) (w3 : (Jvm.Cond.initialized y.cls).before a0 Z = true) (w4 : (Jvm.Cond.code y cb cm cr).before a0 Z = true) (hy : y.cls ≠ "java/lang/invoke/MethodHandle" ∧ y.cls ≠ "java/lang/invoke/VarHandle") (hpd : parseMethodDescriptor y.desc = some ⟨ps, pr⟩) (hlen : as.length = ps.length) (hls : Ls.size = mx) (hW : wt rest = W) (hfr : rm.frames + 1 ≤ R.frames) (hlo : W + (cm + 11) + rm.locals ≤ R.locals) (hce : rm.cells = 0) (hsl : rm.slots = 0) (hcc : ce ≤ R.cells) (hss : sl ≤ R.slots) (hd : decode bs pc = .ok (.invokestatic i, 3)) (hp : pc + 3 = pc') (hst : st = as.reverse ++ rest) (hr : Go p l e R s m args below meth c n0 Q K N h ce sl (mkF m pc' Ls (v :: rest))) : Go p l e R s m args below meth c n0 Q K N h ce sl (mkF m pc Ls st) :=
  go_static C S w1 w2 w3 w4 hy hpd hlen hls hW hfr hlo (by rw [hce]; rfl) (by rw [hsl]; rfl) hcc hss hd hp hst (fun w h' hq => by obtain ⟨r, rfl, q1, q2⟩ := hq; rw [q1, q2]; exact hr)
theorem go_staticV (C : Cx p s m meth c Z own bs mx rt nm) {y : MethodName} {i : Nat} {cb : ByteArray} {cm : Nat} {cr : Option FieldType} {rm : Room} {as rest : List Value} {W : Nat} {ps : List FieldType} {pr : Option FieldType} {ce' sl' : Nat}  {P : Value → Heap → Prop} (S : Sat l Z y cb cm cr rm as h n0 (RV P)) (w1 : (Jvm.Cond.methodLink own i y).before a0 Z = true) (w2 : (Jvm.Cond.static y).before a0 Z = true) (w3 : (Jvm.Cond.initialized y.cls).before a0 Z = true) (w4 : (Jvm.Cond.code y cb cm cr).before a0 Z = true) (hy : y.cls ≠ "java/lang/invoke/MethodHandle" ∧ y.cls ≠ "java/lang/invoke/VarHandle") (hpd : parseMethodDescriptor y.desc = some ⟨ps, pr⟩) (hlen : as.length = ps.length) (hls : Ls.size = mx) (hW : wt rest = W) (hfr : rm.frames + 1 ≤ R.frames) (hlo : W + (cm + 11) + rm.locals ≤ R.locals) (hce : ce + rm.cells = ce') (hsl : sl + rm.slots = sl') (hcc : ce' ≤ R.cells) (hss : sl' ≤ R.slots) (hd : decode bs pc = .ok (.invokestatic i, 3)) (hp : pc + 3 = pc') (hst : st = as.reverse ++ rest) (hr : ∀ r h', P r h' → Go p l e R s m args below meth c n0 Q K N h' ce' sl' (mkF m pc' Ls (r :: rest))) : Go p l e R s m args below meth c n0 Q K N h ce sl (mkF m pc Ls st) :=
  go_static C S w1 w2 w3 w4 hy hpd hlen hls hW hfr hlo hce hsl hcc hss hd hp hst (fun v h' hq => by obtain ⟨r, rfl, q⟩ := hq; exact hr r h' q)
theorem go_staticN (C : Cx p s m meth c Z own bs mx rt nm) {y : MethodName} {i : Nat} {cb : ByteArray} {cm : Nat} {cr : Option FieldType} {rm : Room} {as rest : List Value} {W : Nat} {ps : List FieldType} {pr : Option FieldType} {ce' sl' : Nat}  {P : Heap → Prop} (S : Sat l Z y cb cm cr rm as h n0 (RN P)) (w1 : (Jvm.Cond.methodLink own i y).before a0 Z = true) (w2 : (Jvm.Cond.static y).before a0 Z = true) (w3 : (Jvm.Cond.initialized y.cls).before a0 Z = true) (w4 : (Jvm.Cond.code y cb cm cr).before a0 Z = true) (hy : y.cls ≠ "java/lang/invoke/MethodHandle" ∧ y.cls ≠ "java/lang/invoke/VarHandle") (hpd : parseMethodDescriptor y.desc = some ⟨ps, pr⟩) (hlen : as.length = ps.length) (hls : Ls.size = mx) (hW : wt rest = W) (hfr : rm.frames + 1 ≤ R.frames) (hlo : W + (cm + 11) + rm.locals ≤ R.locals) (hce : ce + rm.cells = ce') (hsl : sl + rm.slots = sl') (hcc : ce' ≤ R.cells) (hss : sl' ≤ R.slots) (hd : decode bs pc = .ok (.invokestatic i, 3)) (hp : pc + 3 = pc') (hst : st = as.reverse ++ rest) (hr : ∀ h', P h' → Go p l e R s m args below meth c n0 Q K N h' ce' sl' (mkF m pc' Ls rest)) : Go p l e R s m args below meth c n0 Q K N h ce sl (mkF m pc Ls st) :=
  go_static C S w1 w2 w3 w4 hy hpd hlen hls hW hfr hlo hce hsl hcc hss hd hp hst (fun v h' hq => by obtain ⟨rfl, q⟩ := hq; exact hr h' q)
theorem go_virtualP (C : Cx p s m meth c Z own bs mx rt nm) {y : MethodName} {i : Nat} {cb : ByteArray} {cm : Nat} {cr : Option FieldType} {rm : Room} {as rest : List Value} {W : Nat} {ps : List FieldType} {pr : Option FieldType} {a : Addr} {C0 : String} (v : Value) (S : Sat l Z y cb cm cr rm (.ref a :: as) h n0 (RV fun r h' => r = v ∧ h' = h)) (E : Exa Z h a C0) (w1 : (Jvm.Cond.methodLink own i y).before a0 Z = true) (w5 : (Jvm.Cond.declares y).before a0 Z = true) (w6 : (Jvm.Cond.selects C0 y y).before a0 Z = true) (w2 : (Jvm.Cond.instanceMethod y).before a0 Z = true) (w3 : (Jvm.Cond.initialized y.cls).before a0 Z = true) (w4 : (Jvm.Cond.code y cb cm cr).before a0 Z = true) (hy : y.cls ≠ "java/lang/invoke/MethodHandle" ∧ y.cls ≠ "java/lang/invoke/VarHandle") (hpd : parseMethodDescriptor y.desc = some ⟨ps, pr⟩) (hlen : as.length = ps.length) (hls : Ls.size = mx) (hW : wt rest = W) (hfr : rm.frames + 1 ≤ R.frames) (hlo : W + (cm + 11) + rm.locals ≤ R.locals) (hce : rm.cells = 0) (hsl : rm.slots = 0) (hcc : ce ≤ R.cells) (hss : sl ≤ R.slots) (hd : decode bs pc = .ok (.invokevirtual i, 3)) (hp : pc + 3 = pc') (hst : st = as.reverse ++ .ref a :: rest) (hr : Go p l e R s m args below meth c n0 Q K N h ce sl (mkF m pc' Ls (v :: rest))) : Go p l e R s m args below meth c n0 Q K N h ce sl (mkF m pc Ls st) :=
  go_virtual C S E w1 w5 w6 w2 w3 w4 hy hpd hlen hls hW hfr hlo (by rw [hce]; rfl) (by rw [hsl]; rfl) hcc hss hd hp hst (fun w h' hq => by obtain ⟨r, rfl, q1, q2⟩ := hq; rw [q1, q2]; exact hr)
theorem go_virtualV (C : Cx p s m meth c Z own bs mx rt nm) {y : MethodName} {i : Nat} {cb : ByteArray} {cm : Nat} {cr : Option FieldType} {rm : Room} {as rest : List Value} {W : Nat} {ps : List FieldType} {pr : Option FieldType} {ce' sl' : Nat} {a : Addr} {C0 : String} {P : Value → Heap → Prop} (S : Sat l Z y cb cm cr rm (.ref a :: as) h n0 (RV P)) (E : Exa Z h a C0) (w1 : (Jvm.Cond.methodLink own i y).before a0 Z = true) (w5 : (Jvm.Cond.declares y).before a0 Z = true) (w6 : (Jvm.Cond.selects C0 y y).before a0 Z = true) (w2 : (Jvm.Cond.instanceMethod y).before a0 Z = true) (w3 : (Jvm.Cond.initialized y.cls).before a0 Z = true) (w4 : (Jvm.Cond.code y cb cm cr).before a0 Z = true) (hy : y.cls ≠ "java/lang/invoke/MethodHandle" ∧ y.cls ≠ "java/lang/invoke/VarHandle") (hpd : parseMethodDescriptor y.desc = some ⟨ps, pr⟩) (hlen : as.length = ps.length) (hls : Ls.size = mx) (hW : wt rest = W) (hfr : rm.frames + 1 ≤ R.frames) (hlo : W + (cm + 11) + rm.locals ≤ R.locals) (hce : ce + rm.cells = ce') (hsl : sl + rm.slots = sl') (hcc : ce' ≤ R.cells) (hss : sl' ≤ R.slots) (hd : decode bs pc = .ok (.invokevirtual i, 3)) (hp : pc + 3 = pc') (hst : st = as.reverse ++ .ref a :: rest) (hr : ∀ r h', P r h' → Go p l e R s m args below meth c n0 Q K N h' ce' sl' (mkF m pc' Ls (r :: rest))) : Go p l e R s m args below meth c n0 Q K N h ce sl (mkF m pc Ls st) :=
  go_virtual C S E w1 w5 w6 w2 w3 w4 hy hpd hlen hls hW hfr hlo hce hsl hcc hss hd hp hst (fun v h' hq => by obtain ⟨r, rfl, q⟩ := hq; exact hr r h' q)
theorem go_virtualN (C : Cx p s m meth c Z own bs mx rt nm) {y : MethodName} {i : Nat} {cb : ByteArray} {cm : Nat} {cr : Option FieldType} {rm : Room} {as rest : List Value} {W : Nat} {ps : List FieldType} {pr : Option FieldType} {ce' sl' : Nat} {a : Addr} {C0 : String} {P : Heap → Prop} (S : Sat l Z y cb cm cr rm (.ref a :: as) h n0 (RN P)) (E : Exa Z h a C0) (w1 : (Jvm.Cond.methodLink own i y).before a0 Z = true) (w5 : (Jvm.Cond.declares y).before a0 Z = true) (w6 : (Jvm.Cond.selects C0 y y).before a0 Z = true) (w2 : (Jvm.Cond.instanceMethod y).before a0 Z = true) (w3 : (Jvm.Cond.initialized y.cls).before a0 Z = true) (w4 : (Jvm.Cond.code y cb cm cr).before a0 Z = true) (hy : y.cls ≠ "java/lang/invoke/MethodHandle" ∧ y.cls ≠ "java/lang/invoke/VarHandle") (hpd : parseMethodDescriptor y.desc = some ⟨ps, pr⟩) (hlen : as.length = ps.length) (hls : Ls.size = mx) (hW : wt rest = W) (hfr : rm.frames + 1 ≤ R.frames) (hlo : W + (cm + 11) + rm.locals ≤ R.locals) (hce : ce + rm.cells = ce') (hsl : sl + rm.slots = sl') (hcc : ce' ≤ R.cells) (hss : sl' ≤ R.slots) (hd : decode bs pc = .ok (.invokevirtual i, 3)) (hp : pc + 3 = pc') (hst : st = as.reverse ++ .ref a :: rest) (hr : ∀ h', P h' → Go p l e R s m args below meth c n0 Q K N h' ce' sl' (mkF m pc' Ls rest)) : Go p l e R s m args below meth c n0 Q K N h ce sl (mkF m pc Ls st) :=
  go_virtual C S E w1 w5 w6 w2 w3 w4 hy hpd hlen hls hW hfr hlo hce hsl hcc hss hd hp hst (fun v h' hq => by obtain ⟨rfl, q⟩ := hq; exact hr h' q)
theorem go_privateP (C : Cx p s m meth c Z own bs mx rt nm) {y : MethodName} {i : Nat} {cb : ByteArray} {cm : Nat} {cr : Option FieldType} {rm : Room} {as rest : List Value} {W : Nat} {ps : List FieldType} {pr : Option FieldType} {a : Addr} {C0 : String} (v : Value) (S : Sat l Z y cb cm cr rm (.ref a :: as) h n0 (RV fun r h' => r = v ∧ h' = h)) (E : Exa Z h a C0) (w1 : (Jvm.Cond.methodLink own i y).before a0 Z = true) (w5 : (Jvm.Cond.privateMethod y).before a0 Z = true) (w6 : (Jvm.Cond.selects y.cls y y).before a0 Z = true) (w2 : (Jvm.Cond.instanceMethod y).before a0 Z = true) (w3 : (Jvm.Cond.initialized y.cls).before a0 Z = true) (w4 : (Jvm.Cond.code y cb cm cr).before a0 Z = true) (hy : y.cls ≠ "java/lang/invoke/MethodHandle" ∧ y.cls ≠ "java/lang/invoke/VarHandle") (hpd : parseMethodDescriptor y.desc = some ⟨ps, pr⟩) (hlen : as.length = ps.length) (hls : Ls.size = mx) (hW : wt rest = W) (hfr : rm.frames + 1 ≤ R.frames) (hlo : W + (cm + 11) + rm.locals ≤ R.locals) (hce : rm.cells = 0) (hsl : rm.slots = 0) (hcc : ce ≤ R.cells) (hss : sl ≤ R.slots) (hd : decode bs pc = .ok (.invokevirtual i, 3)) (hp : pc + 3 = pc') (hst : st = as.reverse ++ .ref a :: rest) (hr : Go p l e R s m args below meth c n0 Q K N h ce sl (mkF m pc' Ls (v :: rest))) : Go p l e R s m args below meth c n0 Q K N h ce sl (mkF m pc Ls st) :=
  go_private C S E w1 w5 w6 w2 w3 w4 hy hpd hlen hls hW hfr hlo (by rw [hce]; rfl) (by rw [hsl]; rfl) hcc hss hd hp hst (fun w h' hq => by obtain ⟨r, rfl, q1, q2⟩ := hq; rw [q1, q2]; exact hr)
theorem go_privateV (C : Cx p s m meth c Z own bs mx rt nm) {y : MethodName} {i : Nat} {cb : ByteArray} {cm : Nat} {cr : Option FieldType} {rm : Room} {as rest : List Value} {W : Nat} {ps : List FieldType} {pr : Option FieldType} {ce' sl' : Nat} {a : Addr} {C0 : String} {P : Value → Heap → Prop} (S : Sat l Z y cb cm cr rm (.ref a :: as) h n0 (RV P)) (E : Exa Z h a C0) (w1 : (Jvm.Cond.methodLink own i y).before a0 Z = true) (w5 : (Jvm.Cond.privateMethod y).before a0 Z = true) (w6 : (Jvm.Cond.selects y.cls y y).before a0 Z = true) (w2 : (Jvm.Cond.instanceMethod y).before a0 Z = true) (w3 : (Jvm.Cond.initialized y.cls).before a0 Z = true) (w4 : (Jvm.Cond.code y cb cm cr).before a0 Z = true) (hy : y.cls ≠ "java/lang/invoke/MethodHandle" ∧ y.cls ≠ "java/lang/invoke/VarHandle") (hpd : parseMethodDescriptor y.desc = some ⟨ps, pr⟩) (hlen : as.length = ps.length) (hls : Ls.size = mx) (hW : wt rest = W) (hfr : rm.frames + 1 ≤ R.frames) (hlo : W + (cm + 11) + rm.locals ≤ R.locals) (hce : ce + rm.cells = ce') (hsl : sl + rm.slots = sl') (hcc : ce' ≤ R.cells) (hss : sl' ≤ R.slots) (hd : decode bs pc = .ok (.invokevirtual i, 3)) (hp : pc + 3 = pc') (hst : st = as.reverse ++ .ref a :: rest) (hr : ∀ r h', P r h' → Go p l e R s m args below meth c n0 Q K N h' ce' sl' (mkF m pc' Ls (r :: rest))) : Go p l e R s m args below meth c n0 Q K N h ce sl (mkF m pc Ls st) :=
  go_private C S E w1 w5 w6 w2 w3 w4 hy hpd hlen hls hW hfr hlo hce hsl hcc hss hd hp hst (fun v h' hq => by obtain ⟨r, rfl, q⟩ := hq; exact hr r h' q)
theorem go_privateN (C : Cx p s m meth c Z own bs mx rt nm) {y : MethodName} {i : Nat} {cb : ByteArray} {cm : Nat} {cr : Option FieldType} {rm : Room} {as rest : List Value} {W : Nat} {ps : List FieldType} {pr : Option FieldType} {ce' sl' : Nat} {a : Addr} {C0 : String} {P : Heap → Prop} (S : Sat l Z y cb cm cr rm (.ref a :: as) h n0 (RN P)) (E : Exa Z h a C0) (w1 : (Jvm.Cond.methodLink own i y).before a0 Z = true) (w5 : (Jvm.Cond.privateMethod y).before a0 Z = true) (w6 : (Jvm.Cond.selects y.cls y y).before a0 Z = true) (w2 : (Jvm.Cond.instanceMethod y).before a0 Z = true) (w3 : (Jvm.Cond.initialized y.cls).before a0 Z = true) (w4 : (Jvm.Cond.code y cb cm cr).before a0 Z = true) (hy : y.cls ≠ "java/lang/invoke/MethodHandle" ∧ y.cls ≠ "java/lang/invoke/VarHandle") (hpd : parseMethodDescriptor y.desc = some ⟨ps, pr⟩) (hlen : as.length = ps.length) (hls : Ls.size = mx) (hW : wt rest = W) (hfr : rm.frames + 1 ≤ R.frames) (hlo : W + (cm + 11) + rm.locals ≤ R.locals) (hce : ce + rm.cells = ce') (hsl : sl + rm.slots = sl') (hcc : ce' ≤ R.cells) (hss : sl' ≤ R.slots) (hd : decode bs pc = .ok (.invokevirtual i, 3)) (hp : pc + 3 = pc') (hst : st = as.reverse ++ .ref a :: rest) (hr : ∀ h', P h' → Go p l e R s m args below meth c n0 Q K N h' ce' sl' (mkF m pc' Ls rest)) : Go p l e R s m args below meth c n0 Q K N h ce sl (mkF m pc Ls st) :=
  go_private C S E w1 w5 w6 w2 w3 w4 hy hpd hlen hls hW hfr hlo hce hsl hcc hss hd hp hst (fun v h' hq => by obtain ⟨rfl, q⟩ := hq; exact hr h' q)
theorem go_specialV (C : Cx p s m meth c Z own bs mx rt nm) {y : MethodName} {i : Nat} {cb : ByteArray} {cm : Nat} {rm : Room} {as rest : List Value} {W : Nat} {ps : List FieldType} {pr : Option FieldType} {ce' sl' : Nat} {a : Addr} {P : Value → Heap → Prop} (S : Sat l Z y cb cm none rm (.ref a :: as) h n0 (RV P)) (hyn : y.name = "<init>") (w1 : (Jvm.Cond.methodLink own i y).before a0 Z = true) (w2 : (Jvm.Cond.instanceMethod y).before a0 Z = true) (w3 : (Jvm.Cond.initialized y.cls).before a0 Z = true) (w4 : (Jvm.Cond.code y cb cm none).before a0 Z = true) (hy : y.cls ≠ "java/lang/invoke/MethodHandle" ∧ y.cls ≠ "java/lang/invoke/VarHandle") (hpd : parseMethodDescriptor y.desc = some ⟨ps, pr⟩) (hlen : as.length = ps.length) (hls : Ls.size = mx) (hW : wt rest = W) (hfr : rm.frames + 1 ≤ R.frames) (hlo : W + (cm + 11) + rm.locals ≤ R.locals) (hce : ce + rm.cells = ce') (hsl : sl + rm.slots = sl') (hcc : ce' ≤ R.cells) (hss : sl' ≤ R.slots) (hd : decode bs pc = .ok (.invokespecial i, 3)) (hp : pc + 3 = pc') (hst : st = as.reverse ++ .ref a :: rest) (hr : ∀ r h', P r h' → Go p l e R s m args below meth c n0 Q K N h' ce' sl' (mkF m pc' Ls (r :: rest))) : Go p l e R s m args below meth c n0 Q K N h ce sl (mkF m pc Ls st) :=
  go_special C S hyn w1 w2 w3 w4 hy hpd hlen hls hW hfr hlo hce hsl hcc hss hd hp hst (fun v h' hq => by obtain ⟨r, rfl, q⟩ := hq; exact hr r h' q)
theorem go_specialN (C : Cx p s m meth c Z own bs mx rt nm) {y : MethodName} {i : Nat} {cb : ByteArray} {cm : Nat} {rm : Room} {as rest : List Value} {W : Nat} {ps : List FieldType} {pr : Option FieldType} {ce' sl' : Nat} {a : Addr} {P : Heap → Prop} (S : Sat l Z y cb cm none rm (.ref a :: as) h n0 (RN P)) (hyn : y.name = "<init>") (w1 : (Jvm.Cond.methodLink own i y).before a0 Z = true) (w2 : (Jvm.Cond.instanceMethod y).before a0 Z = true) (w3 : (Jvm.Cond.initialized y.cls).before a0 Z = true) (w4 : (Jvm.Cond.code y cb cm none).before a0 Z = true) (hy : y.cls ≠ "java/lang/invoke/MethodHandle" ∧ y.cls ≠ "java/lang/invoke/VarHandle") (hpd : parseMethodDescriptor y.desc = some ⟨ps, pr⟩) (hlen : as.length = ps.length) (hls : Ls.size = mx) (hW : wt rest = W) (hfr : rm.frames + 1 ≤ R.frames) (hlo : W + (cm + 11) + rm.locals ≤ R.locals) (hce : ce + rm.cells = ce') (hsl : sl + rm.slots = sl') (hcc : ce' ≤ R.cells) (hss : sl' ≤ R.slots) (hd : decode bs pc = .ok (.invokespecial i, 3)) (hp : pc + 3 = pc') (hst : st = as.reverse ++ .ref a :: rest) (hr : ∀ h', P h' → Go p l e R s m args below meth c n0 Q K N h' ce' sl' (mkF m pc' Ls rest)) : Go p l e R s m args below meth c n0 Q K N h ce sl (mkF m pc Ls st) :=
  go_special C S hyn w1 w2 w3 w4 hy hpd hlen hls hW hfr hlo hce hsl hcc hss hd hp hst (fun v h' hq => by obtain ⟨rfl, q⟩ := hq; exact hr h' q)
theorem go_specialWV (C : Cx p s m meth c Z own bs mx rt nm) {y : MethodName} {i : Nat} {cb : ByteArray} {cm : Nat} {rm : Room} {as rest : List Value} {W : Nat} {ps : List FieldType} {pr : Option FieldType} {ce' sl' : Nat} {a : Addr} {P : Value → Heap → Prop} (S : Sat l Z y cb cm none rm (.ref a :: as) h n0 (RV P)) (hyn : y.name = "<init>") (w1 : (Jvm.Cond.methodRef own i y).before a0 Z = true) (w2 : (Jvm.Cond.instanceMethod y).before a0 Z = true) (w3 : (Jvm.Cond.initialized y.cls).before a0 Z = true) (w4 : (Jvm.Cond.code y cb cm none).before a0 Z = true) (hy : y.cls ≠ "java/lang/invoke/MethodHandle" ∧ y.cls ≠ "java/lang/invoke/VarHandle") (hpd : parseMethodDescriptor y.desc = some ⟨ps, pr⟩) (hlen : as.length = ps.length) (hls : Ls.size = mx) (hW : wt rest = W) (hfr : rm.frames + 1 ≤ R.frames) (hlo : W + (cm + 11) + rm.locals ≤ R.locals) (hce : ce + rm.cells = ce') (hsl : sl + rm.slots = sl') (hcc : ce' ≤ R.cells) (hss : sl' ≤ R.slots) (hd : decode bs pc = .ok (.invokespecial i, 3)) (hp : pc + 3 = pc') (hst : st = as.reverse ++ .ref a :: rest) (hr : ∀ r h', P r h' → Go p l e R s m args below meth c n0 Q K N h' ce' sl' (mkF m pc' Ls (r :: rest))) : Go p l e R s m args below meth c n0 Q K N h ce sl (mkF m pc Ls st) :=
  go_specialW C S hyn w1 w2 w3 w4 hy hpd hlen hls hW hfr hlo hce hsl hcc hss hd hp hst (fun v h' hq => by obtain ⟨r, rfl, q⟩ := hq; exact hr r h' q)
theorem go_specialWN (C : Cx p s m meth c Z own bs mx rt nm) {y : MethodName} {i : Nat} {cb : ByteArray} {cm : Nat} {rm : Room} {as rest : List Value} {W : Nat} {ps : List FieldType} {pr : Option FieldType} {ce' sl' : Nat} {a : Addr} {P : Heap → Prop} (S : Sat l Z y cb cm none rm (.ref a :: as) h n0 (RN P)) (hyn : y.name = "<init>") (w1 : (Jvm.Cond.methodRef own i y).before a0 Z = true) (w2 : (Jvm.Cond.instanceMethod y).before a0 Z = true) (w3 : (Jvm.Cond.initialized y.cls).before a0 Z = true) (w4 : (Jvm.Cond.code y cb cm none).before a0 Z = true) (hy : y.cls ≠ "java/lang/invoke/MethodHandle" ∧ y.cls ≠ "java/lang/invoke/VarHandle") (hpd : parseMethodDescriptor y.desc = some ⟨ps, pr⟩) (hlen : as.length = ps.length) (hls : Ls.size = mx) (hW : wt rest = W) (hfr : rm.frames + 1 ≤ R.frames) (hlo : W + (cm + 11) + rm.locals ≤ R.locals) (hce : ce + rm.cells = ce') (hsl : sl + rm.slots = sl') (hcc : ce' ≤ R.cells) (hss : sl' ≤ R.slots) (hd : decode bs pc = .ok (.invokespecial i, 3)) (hp : pc + 3 = pc') (hst : st = as.reverse ++ .ref a :: rest) (hr : ∀ h', P h' → Go p l e R s m args below meth c n0 Q K N h' ce' sl' (mkF m pc' Ls rest)) : Go p l e R s m args below meth c n0 Q K N h ce sl (mkF m pc Ls st) :=
  go_specialW C S hyn w1 w2 w3 w4 hy hpd hlen hls hW hfr hlo hce hsl hcc hss hd hp hst (fun v h' hq => by obtain ⟨rfl, q⟩ := hq; exact hr h' q)
theorem go_ireturnI (C : Cx p s m meth c Z own bs mx rt nm) {z : Int32} (hrt : rt = some .int) (hd : decode bs pc = .ok (.ireturn, 1)) (hk : ce ≤ K) (hn : sl ≤ N) (hq : Q (some (.int z)) h) : Go p l e R s m args below meth c n0 Q K N h ce sl (mkF m pc Ls [.int z]) := by
  subst hrt
  intro T locs X eT Nn
  obtain ⟨fs, hr, hrun, hended, hW, hsame⟩ := X.leave (v := some (.int z)) (fun q => by first | rfl | (rw [C.2.2.2.2.2.1] at q; cases q)) C.2.2.2.2.2.2.1
  refine ⟨_, _, X.ireturnOut C.1 C.2.2.2.2.2.1 rfl (Or.inl rfl) (hb C.2.1 hd) hr, hrun, hended, _, _, rfl, ⟨?_, Nn⟩, ⟨_, rfl⟩, hW, hsame.mono hk hn⟩
  show Q (some (.int z)) T.heap
  rw [eT]; exact hq
theorem go_lreturn (C : Cx p s m meth c Z own bs mx rt nm) {z : Int64} (hrt : rt = some .long) (hd : decode bs pc = .ok (.lreturn, 1)) (hk : ce ≤ K) (hn : sl ≤ N) (hq : Q (some (.long z)) h) : Go p l e R s m args below meth c n0 Q K N h ce sl (mkF m pc Ls [.long z]) := by
  subst hrt
  intro T locs X eT Nn
  obtain ⟨fs, hr, hrun, hended, hW, hsame⟩ := X.leave (v := some (.long z)) (fun q => by first | rfl | (rw [C.2.2.2.2.2.1] at q; cases q)) C.2.2.2.2.2.2.1
  refine ⟨_, _, Jvm.Stand.lreturnOut X C.1 C.2.2.2.2.2.1 (hb C.2.1 hd) hr, hrun, hended, _, _, rfl, ⟨?_, Nn⟩, ⟨_, rfl⟩, hW, hsame.mono hk hn⟩
  show Q (some (.long z)) T.heap
  rw [eT]; exact hq
theorem go_areturn (C : Cx p s m meth c Z own bs mx rt nm) {w : Value} {t : FieldType} (hrt : rt = some t) (hd : decode bs pc = .ok (.areturn, 1)) (hk : ce ≤ K) (hn : sl ≤ N) (hw : w.isRef = true) (ht : t.isReference = true) (hq : Q (some w) h) : Go p l e R s m args below meth c n0 Q K N h ce sl (mkF m pc Ls [w]) := by
  subst hrt
  intro T locs X eT Nn
  obtain ⟨fs, hr, hrun, hended, hW, hsame⟩ := X.leave (v := some w) (fun q => by first | rfl | (rw [C.2.2.2.2.2.1] at q; cases q)) C.2.2.2.2.2.2.1
  refine ⟨_, _, X.areturnOut C.1 hw C.2.2.2.2.2.1 ht (hb C.2.1 hd) hr, hrun, hended, _, _, rfl, ⟨?_, Nn⟩, ⟨_, rfl⟩, hW, hsame.mono hk hn⟩
  show Q (some w) T.heap
  rw [eT]; exact hq
theorem go_return (C : Cx p s m meth c Z own bs mx rt nm)  (hrt : rt = none) (hd : decode bs pc = .ok (.return_, 1)) (hk : ce ≤ K) (hn : sl ≤ N) (hq : Q (none) h) : Go p l e R s m args below meth c n0 Q K N h ce sl (mkF m pc Ls []) := by
  subst hrt
  intro T locs X eT Nn
  obtain ⟨fs, hr, hrun, hended, hW, hsame⟩ := X.leave (v := none) (fun q => by first | rfl | (rw [C.2.2.2.2.2.1] at q; cases q)) C.2.2.2.2.2.2.1
  refine ⟨_, _, X.returnOut C.1 C.2.2.2.2.2.1 (hb C.2.1 hd) hr, hrun, hended, _, _, rfl, ⟨?_, Nn⟩, ⟨_, rfl⟩, hW, hsame.mono hk hn⟩
  show Q (none) T.heap
  rw [eT]; exact hq
theorem go_ireturnN (C : Cx p s m meth c Z own bs mx rt nm) {z z' : Int32} {t : FieldType} (hrt : rt = some t) (ht : t = .boolean ∨ t = .byte ∨ t = .char ∨ t = .short) (hz : nar t z = z') (hd : decode bs pc = .ok (.ireturn, 1)) (hk : ce ≤ K) (hn : sl ≤ N) (hq : Q (some (.int z')) h) : Go p l e R s m args below meth c n0 Q K N h ce sl (mkF m pc Ls [.int z]) := by
  subst hrt hz
  intro T locs X eT Nn
  obtain ⟨fs, hr, hrun, hended, hW, hsame⟩ := X.leave (v := some (.int (nar t z))) (fun q => by rw [C.2.2.2.2.2.1] at q; cases q) C.2.2.2.2.2.2.1
  refine ⟨_, _, retN X C.1 (t := t) C.2.2.2.2.2.1 ht (hb C.2.1 hd) hr, hrun, hended, _, _, rfl, ⟨?_, Nn⟩, ⟨_, rfl⟩, hW, hsame.mono hk hn⟩
  show Q (some (.int (nar t z))) T.heap
  rw [eT]; exact hq
theorem sat_of {y : MethodName} {cb : ByteArray} {cm : Nat} {cr : Option FieldType} {rm : Room} {as : List Value} {h0 : Heap} (ho : y.cls = own) (hnm : y.name = nm) (hpn : plainFor y = true) (Ls : Array Slot) (hef : ∀ m, entryFrame m as.toArray cm = mkF m 0 Ls [])
    (body : ∀ (p : Program) (e : Env) (s : State) (m : MethodId) (below : List Frame) (meth : Method) (c : Code), Cx p s m meth c Z own cb cm cr nm → Go p l e rm s m as.toArray below meth c n0 Q rm.cells rm.slots h0 0 0 (mkF m 0 Ls [])) : Sat l Z y cb cm cr rm as h0 n0 Q := by
  intro ws
  subst ho hnm
  refine MetFree.of_bodySF hpn hisR ?_
  intro p e s m args below meth c s₁ Bd hml0 hP hK
  obtain ⟨rfl, hZ, hh⟩ := hP
  have X0 : Stand p l e rm s m as.toArray below meth c s₁ [] 0 0 := Stand.of_body Bd
  obtain ⟨s₂, o, h1, h2, h3, v, L, h4, h5, h6⟩ := body p e s m below meth c ⟨Bd.exec, Bd.bytes, hml0, hZ, findClass_of_methodNamed Bd.named, Bd.returns, Bd.notSynchronized, (name_of_methodNamed Bd.named Bd.method).1⟩ s₁ [] X0 (by rw [← hh, Bd.state]; rfl) (Fr.nil n0)
  exact ⟨s₂, o, castTop (hef m) h1, h2, h3, v, L, h4, h5, h6⟩
theorem Sat.weaken {y : MethodName} {cb : ByteArray} {cm : Nat} {cr : Option FieldType} {rm : Room} {as : List Value} {h0 : Heap} {Q' : Option Value → Heap → Prop} (S : Sat l Z y cb cm cr rm as h0 n0 Q) (H : ∀ v h, Q v h → Q' v h) : Sat l Z y cb cm cr rm as h0 n0 Q' := by
  intro ws p e ha hc hk s m args below hf happ hP hK
  obtain ⟨n, o, h1, h2, h3, v, L, h4, h5, h6⟩ := S ws p e ha hc hk s m args below hf happ hP hK
  exact ⟨n, o, h1, h2, h3, v, L, h4, ⟨H _ _ h5.1, h5.2⟩, h6⟩
end Walk
end OwnLayer
theorem wd {Z : State} {a0 : Array Value} (hw : ∀ d ∈ tables_1, d.before a0 Z = true) (k : Nat) {d : Jvm.Cond} (h : tables_1[k]? = some d) : d.before a0 Z = true := hw d (List.mem_of_getElem? h)
theorem d1_0 : decode prog_17_method_1_code 0 = .ok (.aload_n 0, 1) := by decide +kernel
theorem d1_1 : decode prog_17_method_1_code 1 = .ok (.invokespecial 1, 3) := by decide +kernel
theorem d1_4 : decode prog_17_method_1_code 4 = .ok (.aload_n 0, 1) := by decide +kernel
theorem d1_5 : decode prog_17_method_1_code 5 = .ok (.new 7, 3) := by decide +kernel
theorem d1_8 : decode prog_17_method_1_code 8 = .ok (.dup, 1) := by decide +kernel
theorem d1_9 : decode prog_17_method_1_code 9 = .ok (.invokespecial 9, 3) := by decide +kernel
theorem d1_12 : decode prog_17_method_1_code 12 = .ok (.putfield 10, 3) := by decide +kernel
theorem d1_15 : decode prog_17_method_1_code 15 = .ok (.aload_n 0, 1) := by decide +kernel
theorem d1_16 : decode prog_17_method_1_code 16 = .ok (.new 7, 3) := by decide +kernel
theorem d1_19 : decode prog_17_method_1_code 19 = .ok (.dup, 1) := by decide +kernel
theorem d1_20 : decode prog_17_method_1_code 20 = .ok (.invokespecial 9, 3) := by decide +kernel
theorem d1_23 : decode prog_17_method_1_code 23 = .ok (.putfield 16, 3) := by decide +kernel
theorem d1_26 : decode prog_17_method_1_code 26 = .ok (.return_, 1) := by decide +kernel
theorem d2_0 : decode prog_10_method_1_code 0 = .ok (.aload_n 0, 1) := by decide +kernel
theorem d2_1 : decode prog_10_method_1_code 1 = .ok (.invokespecial 1, 3) := by decide +kernel
theorem d2_4 : decode prog_10_method_1_code 4 = .ok (.return_, 1) := by decide +kernel
theorem d4_0 : decode prog_18_method_1_code 0 = .ok (.aload_n 0, 1) := by decide +kernel
theorem d4_1 : decode prog_18_method_1_code 1 = .ok (.invokespecial 1, 3) := by decide +kernel
theorem d4_4 : decode prog_18_method_1_code 4 = .ok (.return_, 1) := by decide +kernel
theorem d5_0 : decode prog_17_method_6_code 0 = .ok (.iload_n 1, 1) := by decide +kernel
theorem d5_1 : decode prog_17_method_6_code 1 = .ok (.ifCond .eq 21, 3) := by decide +kernel
theorem d5_4 : decode prog_17_method_6_code 4 = .ok (.aload_n 0, 1) := by decide +kernel
theorem d5_5 : decode prog_17_method_6_code 5 = .ok (.dup, 1) := by decide +kernel
theorem d5_6 : decode prog_17_method_6_code 6 = .ok (.getfield 37, 3) := by decide +kernel
theorem d5_9 : decode prog_17_method_6_code 9 = .ok (.lconst 1, 1) := by decide +kernel
theorem d5_10 : decode prog_17_method_6_code 10 = .ok (.ladd, 1) := by decide +kernel
theorem d5_11 : decode prog_17_method_6_code 11 = .ok (.putfield 37, 3) := by decide +kernel
theorem d5_14 : decode prog_17_method_6_code 14 = .ok (.aload_n 0, 1) := by decide +kernel
theorem d5_15 : decode prog_17_method_6_code 15 = .ok (.getfield 16, 3) := by decide +kernel
theorem d5_18 : decode prog_17_method_6_code 18 = .ok (.lload_n 3, 1) := by decide +kernel
theorem d5_19 : decode prog_17_method_6_code 19 = .ok (.invokevirtual 33, 3) := by decide +kernel
theorem d5_22 : decode prog_17_method_6_code 22 = .ok (.iload_n 2, 1) := by decide +kernel
theorem d5_23 : decode prog_17_method_6_code 23 = .ok (.ifCond .eq 13, 3) := by decide +kernel
theorem d5_26 : decode prog_17_method_6_code 26 = .ok (.aload_n 0, 1) := by decide +kernel
theorem d5_27 : decode prog_17_method_6_code 27 = .ok (.dup, 1) := by decide +kernel
theorem d5_28 : decode prog_17_method_6_code 28 = .ok (.getfield 40, 3) := by decide +kernel
theorem d5_31 : decode prog_17_method_6_code 31 = .ok (.lconst 1, 1) := by decide +kernel
theorem d5_32 : decode prog_17_method_6_code 32 = .ok (.ladd, 1) := by decide +kernel
theorem d5_33 : decode prog_17_method_6_code 33 = .ok (.putfield 40, 3) := by decide +kernel
theorem d5_36 : decode prog_17_method_6_code 36 = .ok (.return_, 1) := by decide +kernel
theorem d6_0 : decode prog_18_method_2_code 0 = .ok (.lconst 0, 1) := by decide +kernel
theorem d6_1 : decode prog_18_method_2_code 1 = .ok (.lload_n 1, 1) := by decide +kernel
theorem d6_2 : decode prog_18_method_2_code 2 = .ok (.invokestatic 7, 3) := by decide +kernel
theorem d6_5 : decode prog_18_method_2_code 5 = .ok (.lstore_n 3, 1) := by decide +kernel
theorem d6_6 : decode prog_18_method_2_code 6 = .ok (.aload_n 0, 1) := by decide +kernel
theorem d6_7 : decode prog_18_method_2_code 7 = .ok (.lload_n 3, 1) := by decide +kernel
theorem d6_8 : decode prog_18_method_2_code 8 = .ok (.invokevirtual 13, 3) := by decide +kernel
theorem d6_11 : decode prog_18_method_2_code 11 = .ok (.aload_n 0, 1) := by decide +kernel
theorem d6_12 : decode prog_18_method_2_code 12 = .ok (.aload_n 0, 1) := by decide +kernel
theorem d6_13 : decode prog_18_method_2_code 13 = .ok (.getfield 19, 3) := by decide +kernel
theorem d6_16 : decode prog_18_method_2_code 16 = .ok (.lload_n 3, 1) := by decide +kernel
theorem d6_17 : decode prog_18_method_2_code 17 = .ok (.invokestatic 7, 3) := by decide +kernel
theorem d6_20 : decode prog_18_method_2_code 20 = .ok (.putfield 19, 3) := by decide +kernel
theorem d6_23 : decode prog_18_method_2_code 23 = .ok (.return_, 1) := by decide +kernel
theorem d7_0 : decode jdk_29_method_66_code 0 = .ok (.lload_n 0, 1) := by decide +kernel
theorem d7_1 : decode jdk_29_method_66_code 1 = .ok (.lload_n 2, 1) := by decide +kernel
theorem d7_2 : decode jdk_29_method_66_code 2 = .ok (.lcmp, 1) := by decide +kernel
theorem d7_3 : decode jdk_29_method_66_code 3 = .ok (.ifCond .lt 7, 3) := by decide +kernel
theorem d7_6 : decode jdk_29_method_66_code 6 = .ok (.lload_n 0, 1) := by decide +kernel
theorem d7_7 : decode jdk_29_method_66_code 7 = .ok (.goto 4, 3) := by decide +kernel
theorem d7_10 : decode jdk_29_method_66_code 10 = .ok (.lload_n 2, 1) := by decide +kernel
theorem d7_11 : decode jdk_29_method_66_code 11 = .ok (.lreturn, 1) := by decide +kernel
theorem d8_0 : decode prog_18_method_4_code 0 = .ok (.aload_n 0, 1) := by decide +kernel
theorem d8_1 : decode prog_18_method_4_code 1 = .ok (.dup, 1) := by decide +kernel
theorem d8_2 : decode prog_18_method_4_code 2 = .ok (.getfield 26, 3) := by decide +kernel
theorem d8_5 : decode prog_18_method_4_code 5 = .ok (.lload_n 1, 1) := by decide +kernel
theorem d8_6 : decode prog_18_method_4_code 6 = .ok (.ladd, 1) := by decide +kernel
theorem d8_7 : decode prog_18_method_4_code 7 = .ok (.putfield 26, 3) := by decide +kernel
theorem d8_10 : decode prog_18_method_4_code 10 = .ok (.aload_n 0, 1) := by decide +kernel
theorem d8_11 : decode prog_18_method_4_code 11 = .ok (.getfield 26, 3) := by decide +kernel
theorem d8_14 : decode prog_18_method_4_code 14 = .ok (.ldc2_w 29, 3) := by decide +kernel
theorem d8_17 : decode prog_18_method_4_code 17 = .ok (.lcmp, 1) := by decide +kernel
theorem d8_18 : decode prog_18_method_4_code 18 = .ok (.ifCond .lt 32, 3) := by decide +kernel
theorem d8_21 : decode prog_18_method_4_code 21 = .ok (.aload_n 0, 1) := by decide +kernel
theorem d8_22 : decode prog_18_method_4_code 22 = .ok (.dup, 1) := by decide +kernel
theorem d8_23 : decode prog_18_method_4_code 23 = .ok (.getfield 23, 3) := by decide +kernel
theorem d8_26 : decode prog_18_method_4_code 26 = .ok (.aload_n 0, 1) := by decide +kernel
theorem d8_27 : decode prog_18_method_4_code 27 = .ok (.getfield 26, 3) := by decide +kernel
theorem d8_30 : decode prog_18_method_4_code 30 = .ok (.ldc2_w 31, 3) := by decide +kernel
theorem d8_33 : decode prog_18_method_4_code 33 = .ok (.ldiv, 1) := by decide +kernel
theorem d8_34 : decode prog_18_method_4_code 34 = .ok (.ladd, 1) := by decide +kernel
theorem d8_35 : decode prog_18_method_4_code 35 = .ok (.putfield 23, 3) := by decide +kernel
theorem d8_38 : decode prog_18_method_4_code 38 = .ok (.aload_n 0, 1) := by decide +kernel
theorem d8_39 : decode prog_18_method_4_code 39 = .ok (.dup, 1) := by decide +kernel
theorem d8_40 : decode prog_18_method_4_code 40 = .ok (.getfield 26, 3) := by decide +kernel
theorem d8_43 : decode prog_18_method_4_code 43 = .ok (.ldc2_w 31, 3) := by decide +kernel
theorem d8_46 : decode prog_18_method_4_code 46 = .ok (.lrem, 1) := by decide +kernel
theorem d8_47 : decode prog_18_method_4_code 47 = .ok (.putfield 26, 3) := by decide +kernel
theorem d8_50 : decode prog_18_method_4_code 50 = .ok (.return_, 1) := by decide +kernel
theorem d9_0 : decode method_2_code 0 = .ok (.iload_n 0, 1) := by decide +kernel
theorem d9_1 : decode method_2_code 1 = .ok (.ifCond .eq 7, 3) := by decide +kernel
theorem d9_4 : decode method_2_code 4 = .ok (.lconst 1, 1) := by decide +kernel
theorem d9_5 : decode method_2_code 5 = .ok (.goto 4, 3) := by decide +kernel
theorem d9_8 : decode method_2_code 8 = .ok (.lconst 0, 1) := by decide +kernel
theorem d9_9 : decode method_2_code 9 = .ok (.lreturn, 1) := by decide +kernel
theorem d10_0 : decode prog_17_method_11_code 0 = .ok (.aload_n 0, 1) := by decide +kernel
theorem d10_1 : decode prog_17_method_11_code 1 = .ok (.getfield 37, 3) := by decide +kernel
theorem d10_4 : decode prog_17_method_11_code 4 = .ok (.lreturn, 1) := by decide +kernel
theorem d11_0 : decode prog_17_method_12_code 0 = .ok (.aload_n 0, 1) := by decide +kernel
theorem d11_1 : decode prog_17_method_12_code 1 = .ok (.getfield 40, 3) := by decide +kernel
theorem d11_4 : decode prog_17_method_12_code 4 = .ok (.lreturn, 1) := by decide +kernel
theorem d12_0 : decode prog_17_method_10_code 0 = .ok (.aload_n 0, 1) := by decide +kernel
theorem d12_1 : decode prog_17_method_10_code 1 = .ok (.getfield 29, 3) := by decide +kernel
theorem d12_4 : decode prog_17_method_10_code 4 = .ok (.lreturn, 1) := by decide +kernel
theorem d13_0 : decode prog_17_method_13_code 0 = .ok (.aload_n 0, 1) := by decide +kernel
theorem d13_1 : decode prog_17_method_13_code 1 = .ok (.getfield 43, 3) := by decide +kernel
theorem d13_4 : decode prog_17_method_13_code 4 = .ok (.lreturn, 1) := by decide +kernel
theorem d14_0 : decode prog_17_method_14_code 0 = .ok (.aload_n 0, 1) := by decide +kernel
theorem d14_1 : decode prog_17_method_14_code 1 = .ok (.getfield 46, 3) := by decide +kernel
theorem d14_4 : decode prog_17_method_14_code 4 = .ok (.lreturn, 1) := by decide +kernel
theorem d15_0 : decode prog_17_method_9_code 0 = .ok (.aload_n 0, 1) := by decide +kernel
theorem d15_1 : decode prog_17_method_9_code 1 = .ok (.getfield 19, 3) := by decide +kernel
theorem d15_4 : decode prog_17_method_9_code 4 = .ok (.ireturn, 1) := by decide +kernel
theorem pn_0 : plainName "com/example/pufferfish/pufferfish/pool/PoolTallyTaskEndedPinLaw" = true := by first | (simp [plainName, overriddenIn]; done) | decide +kernel
theorem pd_0 : parseMethodDescriptor "(IJIJ)Z" = some ⟨[.int, .long, .int, .long], some .boolean⟩ := by decide +kernel
theorem pn_1 : plainName "com/example/pufferfish/pufferfish/pool/PoolTally" = true := by first | (simp [plainName, overriddenIn]; done) | decide +kernel
theorem pd_1 : parseMethodDescriptor "()V" = some ⟨[], none⟩ := by decide +kernel
theorem pn_2 : plainName "com/example/pufferfish/pufferfish/pool/LeadingPadding" = true := by first | (simp [plainName, overriddenIn]; done) | decide +kernel
theorem pn_3 : plainName "com/example/pufferfish/pufferfish/pool/PoolTally$TimeSum" = true := by first | (simp [plainName, overriddenIn]; done) | decide +kernel
theorem pd_2 : parseMethodDescriptor "(ZZJ)V" = some ⟨[.boolean, .boolean, .long], none⟩ := by decide +kernel
theorem pd_3 : parseMethodDescriptor "(J)V" = some ⟨[.long], none⟩ := by decide +kernel
theorem pd_4 : parseMethodDescriptor "(JJ)J" = some ⟨[.long, .long], some .long⟩ := by decide +kernel
theorem pd_5 : parseMethodDescriptor "(Z)J" = some ⟨[.boolean], some .long⟩ := by decide +kernel
theorem pd_6 : parseMethodDescriptor "()J" = some ⟨[], some .long⟩ := by decide +kernel
theorem pd_7 : parseMethodDescriptor "()I" = some ⟨[], some .int⟩ := by decide +kernel
set_option maxRecDepth 65536 in
set_option maxHeartbeats 40000000 in
theorem sat_lp (l : Launch) (Z : State) (a0 : Array Value) (hw : ∀ d ∈ tables_1, d.before a0 Z = true) (a : Addr) (h0 : Heap) (n0 : Nat)  :
    Sat l Z (⟨"com/example/pufferfish/pufferfish/pool/LeadingPadding", "<init>", "()V"⟩ : MethodName) prog_10_method_1_code 1 none ({ frames := 1, cells := 0, slots := 0, locals := 12 } : Room) [.ref a] h0 n0 (RN fun h => h = h0) := by
  refine sat_of (own := "com/example/pufferfish/pufferfish/pool/LeadingPadding") (nm := "<init>") rfl rfl (plainFor_of_name pn_2) #[.val (.ref a)] (fun m => by first | rfl | (simp [entryFrame, mkF, argsToLocals, Value.category]; done)) ?_
  intro p e s m below meth c C
  refine go_aloadN C d2_0 (pc' := 1) rfl rfl rfl ?_
  refine go_objinit C (W := 0) (wd hw 11 rfl) (wd hw 12 rfl) (wd hw 13 rfl) rfl (by decide) rfl (by decide) d2_1 (pc' := 4) rfl ?_
  refine go_return C rfl d2_4 (by decide) (by decide) ?_
  exact ⟨rfl, rfl⟩
set_option maxRecDepth 65536 in
set_option maxHeartbeats 40000000 in
theorem sat_ts (l : Launch) (Z : State) (a0 : Array Value) (hw : ∀ d ∈ tables_1, d.before a0 Z = true) (a : Addr) (h0 : Heap) (n0 : Nat)  :
    Sat l Z (⟨"com/example/pufferfish/pufferfish/pool/PoolTally$TimeSum", "<init>", "()V"⟩ : MethodName) prog_18_method_1_code 1 none ({ frames := 2, cells := 0, slots := 0, locals := 24 } : Room) [.ref a] h0 n0 (RN fun h => h = h0) := by
  refine sat_of (own := "com/example/pufferfish/pufferfish/pool/PoolTally$TimeSum") (nm := "<init>") rfl rfl (plainFor_of_name pn_3) #[.val (.ref a)] (fun m => by first | rfl | (simp [entryFrame, mkF, argsToLocals, Value.category]; done)) ?_
  intro p e s m below meth c C
  refine go_aloadN C d4_0 (pc' := 1) rfl rfl rfl ?_
  refine go_specialN C (as := []) (rest := []) (W := 0) (sat_lp l Z a0 hw a _ _) rfl (wd hw 20 rfl) (wd hw 7 rfl) (wd hw 9 rfl) (wd hw 10 rfl) (by decide) pd_1 rfl rfl rfl (by decide) (by decide) (ce' := 0) (sl' := 0) rfl rfl (by decide) (by decide) d4_1 (pc' := 4) rfl rfl ?_
  intro h_1 eh_1
  rw [eh_1]
  refine go_return C rfl d4_4 (by decide) (by decide) ?_
  exact ⟨rfl, rfl⟩
set_option maxRecDepth 65536 in
set_option maxHeartbeats 40000000 in
theorem sat_pt (l : Launch) (Z : State) (a0 : Array Value) (hw : ∀ d ∈ tables_1, d.before a0 Z = true) (a : Addr) (h0 : Heap) (n0 : Nat) (E1 : Exa Z h0 a "com/example/pufferfish/pufferfish/pool/PoolTally") (F_queueWait : Fld Z h0 a "com/example/pufferfish/pufferfish/pool/PoolTally" "queueWait" "Lcom/example/pufferfish/pufferfish/pool/PoolTally$TimeSum;" (.null)) (F_runTime : Fld Z h0 a "com/example/pufferfish/pufferfish/pool/PoolTally" "runTime" "Lcom/example/pufferfish/pufferfish/pool/PoolTally$TimeSum;" (.null)) (F_completedCount : Fld Z h0 a "com/example/pufferfish/pufferfish/pool/PoolTally" "completedCount" "J" (.long (0 : Int64))) (F_failedCount : Fld Z h0 a "com/example/pufferfish/pufferfish/pool/PoolTally" "failedCount" "J" (.long (0 : Int64))) (F_submittedCount : Fld Z h0 a "com/example/pufferfish/pufferfish/pool/PoolTally" "submittedCount" "J" (.long (0 : Int64))) (F_rejectedCount : Fld Z h0 a "com/example/pufferfish/pufferfish/pool/PoolTally" "rejectedCount" "J" (.long (0 : Int64))) (F_rejectedAtShutdownCount : Fld Z h0 a "com/example/pufferfish/pufferfish/pool/PoolTally" "rejectedAtShutdownCount" "J" (.long (0 : Int64))) (F_largestPoolSize : Fld Z h0 a "com/example/pufferfish/pufferfish/pool/PoolTally" "largestPoolSize" "I" (.int (0 : Int32))) (ga : n0 ≤ a) (gz : n0 ≤ h0.size) :
    Sat l Z (⟨"com/example/pufferfish/pufferfish/pool/PoolTally", "<init>", "()V"⟩ : MethodName) prog_17_method_1_code 1 none ({ frames := 3, cells := 2, slots := 72, locals := 38 } : Room) [.ref a] h0 n0 (RN fun h => Exa Z h a "com/example/pufferfish/pufferfish/pool/PoolTally" ∧ Fld Z h a "com/example/pufferfish/pufferfish/pool/PoolTally" "completedCount" "J" (.long (0 : Int64)) ∧ Fld Z h a "com/example/pufferfish/pufferfish/pool/PoolTally" "failedCount" "J" (.long (0 : Int64)) ∧ Fld Z h a "com/example/pufferfish/pufferfish/pool/PoolTally" "submittedCount" "J" (.long (0 : Int64)) ∧ Fld Z h a "com/example/pufferfish/pufferfish/pool/PoolTally" "rejectedCount" "J" (.long (0 : Int64)) ∧ Fld Z h a "com/example/pufferfish/pufferfish/pool/PoolTally" "rejectedAtShutdownCount" "J" (.long (0 : Int64)) ∧ Fld Z h a "com/example/pufferfish/pufferfish/pool/PoolTally" "largestPoolSize" "I" (.int (0 : Int32)) ∧ ∃ t : Addr, n0 ≤ t ∧ Fld Z h a "com/example/pufferfish/pufferfish/pool/PoolTally" "runTime" "Lcom/example/pufferfish/pufferfish/pool/PoolTally$TimeSum;" (.ref t) ∧ Exa Z h t "com/example/pufferfish/pufferfish/pool/PoolTally$TimeSum" ∧ ∃ u_nanos u_maxNanos u_seconds : Int64, Fld Z h t "com/example/pufferfish/pufferfish/pool/PoolTally$TimeSum" "nanos" "J" (.long u_nanos) ∧ Fld Z h t "com/example/pufferfish/pufferfish/pool/PoolTally$TimeSum" "maxNanos" "J" (.long u_maxNanos) ∧ Fld Z h t "com/example/pufferfish/pufferfish/pool/PoolTally$TimeSum" "seconds" "J" (.long u_seconds)) := by
  refine sat_of (own := "com/example/pufferfish/pufferfish/pool/PoolTally") (nm := "<init>") rfl rfl (plainFor_of_name pn_1) #[.val (.ref a)] (fun m => by first | rfl | (simp [entryFrame, mkF, argsToLocals, Value.category]; done)) ?_
  intro p e s m below meth c C
  refine go_aloadN C d1_0 (pc' := 1) rfl rfl rfl ?_
  refine go_specialN C (as := []) (rest := []) (W := 0) (sat_lp l Z a0 hw a _ _) rfl (wd hw 6 rfl) (wd hw 7 rfl) (wd hw 9 rfl) (wd hw 10 rfl) (by decide) pd_1 rfl rfl rfl (by decide) (by decide) (ce' := 0) (sl' := 0) rfl rfl (by decide) (by decide) d1_1 (pc' := 4) rfl rfl ?_
  intro h_1 eh_1
  rw [eh_1]
  refine go_aloadN C d1_4 (pc' := 5) rfl rfl rfl ?_
  refine go_new C (wd hw 14 rfl) (wd hw 15 rfl) (wd hw 16 rfl) d1_5 (pc' := 8) rfl (ce' := 1) (sl' := 36) rfl rfl (by decide) (by decide) ?_
  intro h_2 a_3 g_4 E_5 E_6 D_7
  have n_8 : a ≠ a_3 := own_ne_new E1.lt g_4
  have g_9 : n0 ≤ a_3 := own_ge gz g_4
  have F_10 := Fld.ext E_5 F_queueWait
  have F_11 := Fld.ext E_5 F_runTime
  have F_12 := Fld.ext E_5 F_completedCount
  have F_13 := Fld.ext E_5 F_failedCount
  have F_14 := Fld.ext E_5 F_submittedCount
  have F_15 := Fld.ext E_5 F_rejectedCount
  have F_16 := Fld.ext E_5 F_rejectedAtShutdownCount
  have F_17 := Fld.ext E_5 F_largestPoolSize
  have E_18 := Exa.ext E_5 E1
  have z_19 : n0 ≤ h_2.size := Nat.le_trans gz E_5.1
  have F_20 : Fld Z h_2 a_3 "com/example/pufferfish/pufferfish/pool/PoolTally$TimeSum" "nanos" "J" (.long (0 : Int64)) := D_7 (Or.inl (wd hw 46 rfl)) (ty := .long) (by decide)
  have F_21 : Fld Z h_2 a_3 "com/example/pufferfish/pufferfish/pool/PoolTally$TimeSum" "maxNanos" "J" (.long (0 : Int64)) := D_7 (Or.inl (wd hw 49 rfl)) (ty := .long) (by decide)
  have F_22 : Fld Z h_2 a_3 "com/example/pufferfish/pufferfish/pool/PoolTally$TimeSum" "seconds" "J" (.long (0 : Int64)) := D_7 (Or.inl (wd hw 95 rfl)) (ty := .long) (by decide)
  refine go_dup C d1_8 (pc' := 9) rfl rfl ?_
  refine go_specialWN C (as := []) (rest := [.ref a_3, .ref a]) (W := 2) (sat_ts l Z a0 hw a_3 _ _) rfl (wd hw 17 rfl) (wd hw 18 rfl) (wd hw 16 rfl) (wd hw 19 rfl) (by decide) pd_1 rfl rfl rfl (by decide) (by decide) (ce' := 1) (sl' := 36) rfl rfl (by decide) (by decide) d1_9 (pc' := 12) rfl rfl ?_
  intro h_23 eh_23
  rw [eh_23]
  refine go_putfield C (wd hw 21 rfl) F_10 E_18 (Or.inr ⟨wd hw 22 rfl, rfl, rfl⟩) (wd hw 1 rfl) (ty := (.object "com/example/pufferfish/pufferfish/pool/PoolTally$TimeSum")) (by decide) rfl rfl ga d1_12 (pc' := 15) rfl ?_
  intro h_24 W_25
  have z_26 : n0 ≤ h_24.size := W_25.size.symm ▸ z_19
  have F_27 := Fld.same W_25 F_10
  have F_28 := Fld.other W_25 F_11 (Or.inr (slot_ne (a0 := a0) (Or.inr (wd hw 24 rfl)) (Or.inr (wd hw 22 rfl)) (by decide) (t := (.object "com/example/pufferfish/pufferfish/pool/PoolTally$TimeSum")) (t' := (.object "com/example/pufferfish/pufferfish/pool/PoolTally$TimeSum")) (by decide) (by decide)))
  have F_29 := Fld.other W_25 F_12 (Or.inr (slot_ne (a0 := a0) (Or.inl (wd hw 31 rfl)) (Or.inr (wd hw 22 rfl)) (by decide) (t := .long) (t' := (.object "com/example/pufferfish/pufferfish/pool/PoolTally$TimeSum")) (by decide) (by decide)))
  have F_30 := Fld.other W_25 F_13 (Or.inr (slot_ne (a0 := a0) (Or.inl (wd hw 65 rfl)) (Or.inr (wd hw 22 rfl)) (by decide) (t := .long) (t' := (.object "com/example/pufferfish/pufferfish/pool/PoolTally$TimeSum")) (by decide) (by decide)))
  have F_31 := Fld.other W_25 F_14 (Or.inr (slot_ne (a0 := a0) (Or.inl (wd hw 72 rfl)) (Or.inr (wd hw 22 rfl)) (by decide) (t := .long) (t' := (.object "com/example/pufferfish/pufferfish/pool/PoolTally$TimeSum")) (by decide) (by decide)))
  have F_32 := Fld.other W_25 F_15 (Or.inr (slot_ne (a0 := a0) (Or.inl (wd hw 79 rfl)) (Or.inr (wd hw 22 rfl)) (by decide) (t := .long) (t' := (.object "com/example/pufferfish/pufferfish/pool/PoolTally$TimeSum")) (by decide) (by decide)))
  have F_33 := Fld.other W_25 F_16 (Or.inr (slot_ne (a0 := a0) (Or.inl (wd hw 86 rfl)) (Or.inr (wd hw 22 rfl)) (by decide) (t := .long) (t' := (.object "com/example/pufferfish/pufferfish/pool/PoolTally$TimeSum")) (by decide) (by decide)))
  have F_34 := Fld.other W_25 F_17 (Or.inr (slot_ne (a0 := a0) (Or.inl (wd hw 93 rfl)) (Or.inr (wd hw 22 rfl)) (by decide) (t := .int) (t' := (.object "com/example/pufferfish/pufferfish/pool/PoolTally$TimeSum")) (by decide) (by decide)))
  have F_35 := Fld.other W_25 F_20 (Or.inl (Ne.symm n_8))
  have F_36 := Fld.other W_25 F_21 (Or.inl (Ne.symm n_8))
  have F_37 := Fld.other W_25 F_22 (Or.inl (Ne.symm n_8))
  have E_38 := Exa.wr W_25 E_18
  have E_39 := Exa.wr W_25 E_6
  refine go_aloadN C d1_15 (pc' := 16) rfl rfl rfl ?_
  refine go_new C (wd hw 14 rfl) (wd hw 15 rfl) (wd hw 16 rfl) d1_16 (pc' := 19) rfl (ce' := 2) (sl' := 72) rfl rfl (by decide) (by decide) ?_
  intro h_40 a_41 g_42 E_43 E_44 D_45
  have n_46 : a ≠ a_41 := own_ne_new E_38.lt g_42
  have n_47 : a_3 ≠ a_41 := own_ne_new E_39.lt g_42
  have g_48 : n0 ≤ a_41 := own_ge z_26 g_42
  have F_49 := Fld.ext E_43 F_27
  have F_50 := Fld.ext E_43 F_28
  have F_51 := Fld.ext E_43 F_29
  have F_52 := Fld.ext E_43 F_30
  have F_53 := Fld.ext E_43 F_31
  have F_54 := Fld.ext E_43 F_32
  have F_55 := Fld.ext E_43 F_33
  have F_56 := Fld.ext E_43 F_34
  have F_57 := Fld.ext E_43 F_35
  have F_58 := Fld.ext E_43 F_36
  have F_59 := Fld.ext E_43 F_37
  have E_60 := Exa.ext E_43 E_38
  have E_61 := Exa.ext E_43 E_39
  have z_62 : n0 ≤ h_40.size := Nat.le_trans z_26 E_43.1
  have F_63 : Fld Z h_40 a_41 "com/example/pufferfish/pufferfish/pool/PoolTally$TimeSum" "nanos" "J" (.long (0 : Int64)) := D_45 (Or.inl (wd hw 46 rfl)) (ty := .long) (by decide)
  have F_64 : Fld Z h_40 a_41 "com/example/pufferfish/pufferfish/pool/PoolTally$TimeSum" "maxNanos" "J" (.long (0 : Int64)) := D_45 (Or.inl (wd hw 49 rfl)) (ty := .long) (by decide)
  have F_65 : Fld Z h_40 a_41 "com/example/pufferfish/pufferfish/pool/PoolTally$TimeSum" "seconds" "J" (.long (0 : Int64)) := D_45 (Or.inl (wd hw 95 rfl)) (ty := .long) (by decide)
  refine go_dup C d1_19 (pc' := 20) rfl rfl ?_
  refine go_specialWN C (as := []) (rest := [.ref a_41, .ref a]) (W := 2) (sat_ts l Z a0 hw a_41 _ _) rfl (wd hw 17 rfl) (wd hw 18 rfl) (wd hw 16 rfl) (wd hw 19 rfl) (by decide) pd_1 rfl rfl rfl (by decide) (by decide) (ce' := 2) (sl' := 72) rfl rfl (by decide) (by decide) d1_20 (pc' := 23) rfl rfl ?_
  intro h_66 eh_66
  rw [eh_66]
  refine go_putfield C (wd hw 23 rfl) F_50 E_60 (Or.inr ⟨wd hw 24 rfl, rfl, rfl⟩) (wd hw 1 rfl) (ty := (.object "com/example/pufferfish/pufferfish/pool/PoolTally$TimeSum")) (by decide) rfl rfl ga d1_23 (pc' := 26) rfl ?_
  intro h_67 W_68
  have z_69 : n0 ≤ h_67.size := W_68.size.symm ▸ z_62
  have F_70 := Fld.other W_68 F_49 (Or.inr (slot_ne (a0 := a0) (Or.inr (wd hw 22 rfl)) (Or.inr (wd hw 24 rfl)) (by decide) (t := (.object "com/example/pufferfish/pufferfish/pool/PoolTally$TimeSum")) (t' := (.object "com/example/pufferfish/pufferfish/pool/PoolTally$TimeSum")) (by decide) (by decide)))
  have F_71 := Fld.same W_68 F_50
  have F_72 := Fld.other W_68 F_51 (Or.inr (slot_ne (a0 := a0) (Or.inl (wd hw 31 rfl)) (Or.inr (wd hw 24 rfl)) (by decide) (t := .long) (t' := (.object "com/example/pufferfish/pufferfish/pool/PoolTally$TimeSum")) (by decide) (by decide)))
  have F_73 := Fld.other W_68 F_52 (Or.inr (slot_ne (a0 := a0) (Or.inl (wd hw 65 rfl)) (Or.inr (wd hw 24 rfl)) (by decide) (t := .long) (t' := (.object "com/example/pufferfish/pufferfish/pool/PoolTally$TimeSum")) (by decide) (by decide)))
  have F_74 := Fld.other W_68 F_53 (Or.inr (slot_ne (a0 := a0) (Or.inl (wd hw 72 rfl)) (Or.inr (wd hw 24 rfl)) (by decide) (t := .long) (t' := (.object "com/example/pufferfish/pufferfish/pool/PoolTally$TimeSum")) (by decide) (by decide)))
  have F_75 := Fld.other W_68 F_54 (Or.inr (slot_ne (a0 := a0) (Or.inl (wd hw 79 rfl)) (Or.inr (wd hw 24 rfl)) (by decide) (t := .long) (t' := (.object "com/example/pufferfish/pufferfish/pool/PoolTally$TimeSum")) (by decide) (by decide)))
  have F_76 := Fld.other W_68 F_55 (Or.inr (slot_ne (a0 := a0) (Or.inl (wd hw 86 rfl)) (Or.inr (wd hw 24 rfl)) (by decide) (t := .long) (t' := (.object "com/example/pufferfish/pufferfish/pool/PoolTally$TimeSum")) (by decide) (by decide)))
  have F_77 := Fld.other W_68 F_56 (Or.inr (slot_ne (a0 := a0) (Or.inl (wd hw 93 rfl)) (Or.inr (wd hw 24 rfl)) (by decide) (t := .int) (t' := (.object "com/example/pufferfish/pufferfish/pool/PoolTally$TimeSum")) (by decide) (by decide)))
  have F_78 := Fld.other W_68 F_57 (Or.inl (Ne.symm n_8))
  have F_79 := Fld.other W_68 F_58 (Or.inl (Ne.symm n_8))
  have F_80 := Fld.other W_68 F_59 (Or.inl (Ne.symm n_8))
  have F_81 := Fld.other W_68 F_63 (Or.inl (Ne.symm n_46))
  have F_82 := Fld.other W_68 F_64 (Or.inl (Ne.symm n_46))
  have F_83 := Fld.other W_68 F_65 (Or.inl (Ne.symm n_46))
  have E_84 := Exa.wr W_68 E_60
  have E_85 := Exa.wr W_68 E_61
  have E_86 := Exa.wr W_68 E_44
  refine go_return C rfl d1_26 (by decide) (by decide) ?_
  exact ⟨rfl, ⟨E_84, F_72, F_73, F_74, F_75, F_76, F_77, a_41, g_48, F_71, E_86, _, _, _, F_81, F_82, F_83⟩⟩
def o_maxL (x y : Int64) : Int64 := if x.toInt < y.toInt then y else x
set_option maxRecDepth 65536 in
set_option maxHeartbeats 40000000 in
theorem sat_maxL (l : Launch) (Z : State) (a0 : Array Value) (hw : ∀ d ∈ tables_1, d.before a0 Z = true) (u v : Int64) (h0 : Heap) (n0 : Nat)  :
    Sat l Z (⟨"java/lang/Math", "max", "(JJ)J"⟩ : MethodName) jdk_29_method_66_code 4 (some .long) ({ frames := 0, cells := 0, slots := 0, locals := 0 } : Room) [.long u, .long v] h0 n0 (RV fun r h => r = .long (o_maxL u v) ∧ h = h0) := by
  refine sat_of (own := "java/lang/Math") (nm := "max") rfl rfl (by decide +kernel) #[.val (.long u), .second, .val (.long v), .second] (fun m => by first | rfl | (simp [entryFrame, mkF, argsToLocals, Value.category]; done)) ?_
  intro p e s m below meth c C
  refine go_lloadN C d7_0 (pc' := 1) rfl rfl ?_
  refine go_lloadN C d7_1 (pc' := 2) rfl rfl ?_
  refine go_lcmp C u.toInt v.toInt rfl rfl d7_2 (pc1 := 3) rfl d7_3 (by decide) (pc' := 10) (by decide) (pcN := 6) rfl (fun (c_1 : u.toInt < v.toInt) => ?_) (fun (c_1 : ¬ u.toInt < v.toInt) => ?_)
  · skip
    refine go_lloadN C d7_10 (pc' := 11) rfl rfl ?_
    refine go_lreturn C rfl d7_11 (by decide) (by decide) ?_
    exact ⟨_, rfl, congrArg Value.long (by unfold o_maxL; first | rw [if_pos (by omega)] | rw [if_neg (by omega)]), rfl⟩
  · skip
    refine go_lloadN C d7_6 (pc' := 7) rfl rfl ?_
    refine go_goto C d7_7 (by decide) (pc' := 11) (by decide) ?_
    refine go_lreturn C rfl d7_11 (by decide) (by decide) ?_
    exact ⟨_, rfl, congrArg Value.long (by unfold o_maxL; first | rw [if_pos (by omega)] | rw [if_neg (by omega)]), rfl⟩
set_option maxRecDepth 65536 in
set_option maxHeartbeats 40000000 in
theorem sat_largestPoolSize (l : Launch) (Z : State) (a0 : Array Value) (hw : ∀ d ∈ tables_1, d.before a0 Z = true) (a : Addr) (u : Int32) (h0 : Heap) (n0 : Nat) (F1 : Fld Z h0 a "com/example/pufferfish/pufferfish/pool/PoolTally" "largestPoolSize" "I" (.int u)) :
    Sat l Z (⟨"com/example/pufferfish/pufferfish/pool/PoolTally", "largestPoolSize", "()I"⟩ : MethodName) prog_17_method_9_code 1 (some .int) ({ frames := 0, cells := 0, slots := 0, locals := 0 } : Room) [.ref a] h0 n0 (RV fun r h => r = .int u ∧ h = h0) := by
  refine sat_of (own := "com/example/pufferfish/pufferfish/pool/PoolTally") (nm := "largestPoolSize") rfl rfl (plainFor_of_name pn_1) #[.val (.ref a)] (fun m => by first | rfl | (simp [entryFrame, mkF, argsToLocals, Value.category]; done)) ?_
  intro p e s m below meth c C
  refine go_aloadN C d15_0 (pc' := 1) rfl rfl rfl ?_
  refine go_getfield C (wd hw 92 rfl) F1 d15_1 (pc' := 4) rfl ?_
  refine go_ireturnI C rfl d15_4 (by decide) (by decide) ?_
  exact ⟨_, rfl, rfl, rfl⟩
set_option maxRecDepth 65536 in
set_option maxHeartbeats 40000000 in
theorem sat_submittedCount (l : Launch) (Z : State) (a0 : Array Value) (hw : ∀ d ∈ tables_1, d.before a0 Z = true) (a : Addr) (u : Int64) (h0 : Heap) (n0 : Nat) (F1 : Fld Z h0 a "com/example/pufferfish/pufferfish/pool/PoolTally" "submittedCount" "J" (.long u)) :
    Sat l Z (⟨"com/example/pufferfish/pufferfish/pool/PoolTally", "submittedCount", "()J"⟩ : MethodName) prog_17_method_10_code 1 (some .long) ({ frames := 0, cells := 0, slots := 0, locals := 0 } : Room) [.ref a] h0 n0 (RV fun r h => r = .long u ∧ h = h0) := by
  refine sat_of (own := "com/example/pufferfish/pufferfish/pool/PoolTally") (nm := "submittedCount") rfl rfl (plainFor_of_name pn_1) #[.val (.ref a)] (fun m => by first | rfl | (simp [entryFrame, mkF, argsToLocals, Value.category]; done)) ?_
  intro p e s m below meth c C
  refine go_aloadN C d12_0 (pc' := 1) rfl rfl rfl ?_
  refine go_getfield C (wd hw 71 rfl) F1 d12_1 (pc' := 4) rfl ?_
  refine go_lreturn C rfl d12_4 (by decide) (by decide) ?_
  exact ⟨_, rfl, rfl, rfl⟩
set_option maxRecDepth 65536 in
set_option maxHeartbeats 40000000 in
theorem sat_completedCount (l : Launch) (Z : State) (a0 : Array Value) (hw : ∀ d ∈ tables_1, d.before a0 Z = true) (a : Addr) (u : Int64) (h0 : Heap) (n0 : Nat) (F1 : Fld Z h0 a "com/example/pufferfish/pufferfish/pool/PoolTally" "completedCount" "J" (.long u)) :
    Sat l Z (⟨"com/example/pufferfish/pufferfish/pool/PoolTally", "completedCount", "()J"⟩ : MethodName) prog_17_method_11_code 1 (some .long) ({ frames := 0, cells := 0, slots := 0, locals := 0 } : Room) [.ref a] h0 n0 (RV fun r h => r = .long u ∧ h = h0) := by
  refine sat_of (own := "com/example/pufferfish/pufferfish/pool/PoolTally") (nm := "completedCount") rfl rfl (plainFor_of_name pn_1) #[.val (.ref a)] (fun m => by first | rfl | (simp [entryFrame, mkF, argsToLocals, Value.category]; done)) ?_
  intro p e s m below meth c C
  refine go_aloadN C d10_0 (pc' := 1) rfl rfl rfl ?_
  refine go_getfield C (wd hw 30 rfl) F1 d10_1 (pc' := 4) rfl ?_
  refine go_lreturn C rfl d10_4 (by decide) (by decide) ?_
  exact ⟨_, rfl, rfl, rfl⟩
set_option maxRecDepth 65536 in
set_option maxHeartbeats 40000000 in
theorem sat_rejectedCount (l : Launch) (Z : State) (a0 : Array Value) (hw : ∀ d ∈ tables_1, d.before a0 Z = true) (a : Addr) (u : Int64) (h0 : Heap) (n0 : Nat) (F1 : Fld Z h0 a "com/example/pufferfish/pufferfish/pool/PoolTally" "rejectedCount" "J" (.long u)) :
    Sat l Z (⟨"com/example/pufferfish/pufferfish/pool/PoolTally", "rejectedCount", "()J"⟩ : MethodName) prog_17_method_13_code 1 (some .long) ({ frames := 0, cells := 0, slots := 0, locals := 0 } : Room) [.ref a] h0 n0 (RV fun r h => r = .long u ∧ h = h0) := by
  refine sat_of (own := "com/example/pufferfish/pufferfish/pool/PoolTally") (nm := "rejectedCount") rfl rfl (plainFor_of_name pn_1) #[.val (.ref a)] (fun m => by first | rfl | (simp [entryFrame, mkF, argsToLocals, Value.category]; done)) ?_
  intro p e s m below meth c C
  refine go_aloadN C d13_0 (pc' := 1) rfl rfl rfl ?_
  refine go_getfield C (wd hw 78 rfl) F1 d13_1 (pc' := 4) rfl ?_
  refine go_lreturn C rfl d13_4 (by decide) (by decide) ?_
  exact ⟨_, rfl, rfl, rfl⟩
set_option maxRecDepth 65536 in
set_option maxHeartbeats 40000000 in
theorem sat_rejectedAtShutdownCount (l : Launch) (Z : State) (a0 : Array Value) (hw : ∀ d ∈ tables_1, d.before a0 Z = true) (a : Addr) (u : Int64) (h0 : Heap) (n0 : Nat) (F1 : Fld Z h0 a "com/example/pufferfish/pufferfish/pool/PoolTally" "rejectedAtShutdownCount" "J" (.long u)) :
    Sat l Z (⟨"com/example/pufferfish/pufferfish/pool/PoolTally", "rejectedAtShutdownCount", "()J"⟩ : MethodName) prog_17_method_14_code 1 (some .long) ({ frames := 0, cells := 0, slots := 0, locals := 0 } : Room) [.ref a] h0 n0 (RV fun r h => r = .long u ∧ h = h0) := by
  refine sat_of (own := "com/example/pufferfish/pufferfish/pool/PoolTally") (nm := "rejectedAtShutdownCount") rfl rfl (plainFor_of_name pn_1) #[.val (.ref a)] (fun m => by first | rfl | (simp [entryFrame, mkF, argsToLocals, Value.category]; done)) ?_
  intro p e s m below meth c C
  refine go_aloadN C d14_0 (pc' := 1) rfl rfl rfl ?_
  refine go_getfield C (wd hw 85 rfl) F1 d14_1 (pc' := 4) rfl ?_
  refine go_lreturn C rfl d14_4 (by decide) (by decide) ?_
  exact ⟨_, rfl, rfl, rfl⟩
set_option maxRecDepth 65536 in
set_option maxHeartbeats 40000000 in
theorem sat_failedCount (l : Launch) (Z : State) (a0 : Array Value) (hw : ∀ d ∈ tables_1, d.before a0 Z = true) (a : Addr) (u : Int64) (h0 : Heap) (n0 : Nat) (F1 : Fld Z h0 a "com/example/pufferfish/pufferfish/pool/PoolTally" "failedCount" "J" (.long u)) :
    Sat l Z (⟨"com/example/pufferfish/pufferfish/pool/PoolTally", "failedCount", "()J"⟩ : MethodName) prog_17_method_12_code 1 (some .long) ({ frames := 0, cells := 0, slots := 0, locals := 0 } : Room) [.ref a] h0 n0 (RV fun r h => r = .long u ∧ h = h0) := by
  refine sat_of (own := "com/example/pufferfish/pufferfish/pool/PoolTally") (nm := "failedCount") rfl rfl (plainFor_of_name pn_1) #[.val (.ref a)] (fun m => by first | rfl | (simp [entryFrame, mkF, argsToLocals, Value.category]; done)) ?_
  intro p e s m below meth c C
  refine go_aloadN C d11_0 (pc' := 1) rfl rfl rfl ?_
  refine go_getfield C (wd hw 64 rfl) F1 d11_1 (pc' := 4) rfl ?_
  refine go_lreturn C rfl d11_4 (by decide) (by decide) ?_
  exact ⟨_, rfl, rfl, rfl⟩
set_option maxRecDepth 65536 in
set_option maxHeartbeats 40000000 in
theorem sat_an (l : Launch) (Z : State) (a0 : Array Value) (hw : ∀ d ∈ tables_1, d.before a0 Z = true) (t : Addr) (z : Int64) (w_nanos w_maxNanos w_seconds : Int64) (h0 : Heap) (n0 : Nat) (E1 : Exa Z h0 t "com/example/pufferfish/pufferfish/pool/PoolTally$TimeSum") (F_nanos : Fld Z h0 t "com/example/pufferfish/pufferfish/pool/PoolTally$TimeSum" "nanos" "J" (.long w_nanos)) (F_maxNanos : Fld Z h0 t "com/example/pufferfish/pufferfish/pool/PoolTally$TimeSum" "maxNanos" "J" (.long w_maxNanos)) (F_seconds : Fld Z h0 t "com/example/pufferfish/pufferfish/pool/PoolTally$TimeSum" "seconds" "J" (.long w_seconds)) (gt : n0 ≤ t) :
    Sat l Z (⟨"com/example/pufferfish/pufferfish/pool/PoolTally$TimeSum", "addNanos", "(J)V"⟩ : MethodName) prog_18_method_4_code 3 none ({ frames := 0, cells := 0, slots := 0, locals := 0 } : Room) [.ref t, .long z] h0 n0 (RN fun h => Keep h0 h [t] ∧ Exa Z h t "com/example/pufferfish/pufferfish/pool/PoolTally$TimeSum" ∧ ∃ u_nanos u_maxNanos u_seconds : Int64, Fld Z h t "com/example/pufferfish/pufferfish/pool/PoolTally$TimeSum" "nanos" "J" (.long u_nanos) ∧ Fld Z h t "com/example/pufferfish/pufferfish/pool/PoolTally$TimeSum" "maxNanos" "J" (.long u_maxNanos) ∧ Fld Z h t "com/example/pufferfish/pufferfish/pool/PoolTally$TimeSum" "seconds" "J" (.long u_seconds)) := by
  refine sat_of (own := "com/example/pufferfish/pufferfish/pool/PoolTally$TimeSum") (nm := "addNanos") rfl rfl (plainFor_of_name pn_3) #[.val (.ref t), .val (.long z), .second] (fun m => by first | rfl | (simp [entryFrame, mkF, argsToLocals, Value.category]; done)) ?_
  intro p e s m below meth c C
  refine go_aloadN C d8_0 (pc' := 1) rfl rfl rfl ?_
  refine go_dup C d8_1 (pc' := 2) rfl rfl ?_
  refine go_getfield C (wd hw 45 rfl) F_nanos d8_2 (pc' := 5) rfl ?_
  refine go_lloadN C d8_5 (pc' := 6) rfl rfl ?_
  refine go_ladd C d8_6 (pc' := 7) rfl ?_
  refine go_putfield C (wd hw 45 rfl) F_nanos E1 (Or.inl (wd hw 46 rfl)) (wd hw 15 rfl) (ty := .long) (by decide) rfl rfl gt d8_7 (pc' := 10) rfl ?_
  intro h_1 W_2
  have F_3 := Fld.same W_2 F_nanos
  have F_4 := Fld.other W_2 F_maxNanos (Or.inr (slot_ne (a0 := a0) (Or.inl (wd hw 49 rfl)) (Or.inl (wd hw 46 rfl)) (by decide) (t := .long) (t' := .long) (by decide) (by decide)))
  have F_5 := Fld.other W_2 F_seconds (Or.inr (slot_ne (a0 := a0) (Or.inl (wd hw 95 rfl)) (Or.inl (wd hw 46 rfl)) (by decide) (t := .long) (t' := .long) (by decide) (by decide)))
  have E_6 := Exa.wr W_2 E1
  have K_7 := Keep.wr (Keep.refl h0 [t]) W_2 (Or.inl (by simp))
  refine go_aloadN C d8_10 (pc' := 11) rfl rfl rfl ?_
  refine go_getfield C (wd hw 45 rfl) F_3 d8_11 (pc' := 14) rfl ?_
  refine go_ldc2 C (v := (4611686018427387904 : Int64)) (wd hw 47 rfl) d8_14 (pc' := 17) rfl ?_
  refine go_lcmp C ((w_nanos + z).toInt) (4611686018427387904 : Int) rfl (by decide) d8_17 (pc1 := 18) rfl d8_18 (by decide) (pc' := 50) (by decide) (pcN := 21) rfl (fun (c_8 : ((w_nanos + z).toInt) < (4611686018427387904 : Int)) => ?_) (fun (c_8 : ¬ ((w_nanos + z).toInt) < (4611686018427387904 : Int)) => ?_)
  · skip
    refine go_return C rfl d8_50 (by decide) (by decide) ?_
    exact ⟨rfl, K_7, E_6, _, _, _, F_3, F_4, F_5⟩
  · skip
    refine go_aloadN C d8_21 (pc' := 22) rfl rfl rfl ?_
    refine go_dup C d8_22 (pc' := 23) rfl rfl ?_
    refine go_getfield C (wd hw 94 rfl) F_5 d8_23 (pc' := 26) rfl ?_
    refine go_aloadN C d8_26 (pc' := 27) rfl rfl rfl ?_
    refine go_getfield C (wd hw 45 rfl) F_3 d8_27 (pc' := 30) rfl ?_
    refine go_ldc2 C (v := (1000000000 : Int64)) (wd hw 96 rfl) d8_30 (pc' := 33) rfl ?_
    refine go_ldiv C d8_33 (pc' := 34) rfl (by decide) ?_
    refine go_ladd C d8_34 (pc' := 35) rfl ?_
    refine go_putfield C (wd hw 94 rfl) F_5 E_6 (Or.inl (wd hw 95 rfl)) (wd hw 15 rfl) (ty := .long) (by decide) rfl rfl gt d8_35 (pc' := 38) rfl ?_
    intro h_9 W_10
    have F_11 := Fld.other W_10 F_3 (Or.inr (slot_ne (a0 := a0) (Or.inl (wd hw 46 rfl)) (Or.inl (wd hw 95 rfl)) (by decide) (t := .long) (t' := .long) (by decide) (by decide)))
    have F_12 := Fld.other W_10 F_4 (Or.inr (slot_ne (a0 := a0) (Or.inl (wd hw 49 rfl)) (Or.inl (wd hw 95 rfl)) (by decide) (t := .long) (t' := .long) (by decide) (by decide)))
    have F_13 := Fld.same W_10 F_5
    have E_14 := Exa.wr W_10 E_6
    have K_15 := Keep.wr K_7 W_10 (Or.inl (by simp))
    refine go_aloadN C d8_38 (pc' := 39) rfl rfl rfl ?_
    refine go_dup C d8_39 (pc' := 40) rfl rfl ?_
    refine go_getfield C (wd hw 45 rfl) F_11 d8_40 (pc' := 43) rfl ?_
    refine go_ldc2 C (v := (1000000000 : Int64)) (wd hw 96 rfl) d8_43 (pc' := 46) rfl ?_
    refine go_lrem C d8_46 (pc' := 47) rfl (by decide) ?_
    refine go_putfield C (wd hw 45 rfl) F_11 E_14 (Or.inl (wd hw 46 rfl)) (wd hw 15 rfl) (ty := .long) (by decide) rfl rfl gt d8_47 (pc' := 50) rfl ?_
    intro h_16 W_17
    have F_18 := Fld.same W_17 F_11
    have F_19 := Fld.other W_17 F_12 (Or.inr (slot_ne (a0 := a0) (Or.inl (wd hw 49 rfl)) (Or.inl (wd hw 46 rfl)) (by decide) (t := .long) (t' := .long) (by decide) (by decide)))
    have F_20 := Fld.other W_17 F_13 (Or.inr (slot_ne (a0 := a0) (Or.inl (wd hw 95 rfl)) (Or.inl (wd hw 46 rfl)) (by decide) (t := .long) (t' := .long) (by decide) (by decide)))
    have E_21 := Exa.wr W_17 E_14
    have K_22 := Keep.wr K_15 W_17 (Or.inl (by simp))
    refine go_return C rfl d8_50 (by decide) (by decide) ?_
    exact ⟨rfl, K_22, E_21, _, _, _, F_18, F_19, F_20⟩
set_option maxRecDepth 65536 in
set_option maxHeartbeats 40000000 in
theorem sat_ta (l : Launch) (Z : State) (a0 : Array Value) (hw : ∀ d ∈ tables_1, d.before a0 Z = true) (t : Addr) (z : Int64) (w_nanos w_maxNanos w_seconds : Int64) (h0 : Heap) (n0 : Nat) (E1 : Exa Z h0 t "com/example/pufferfish/pufferfish/pool/PoolTally$TimeSum") (F_nanos : Fld Z h0 t "com/example/pufferfish/pufferfish/pool/PoolTally$TimeSum" "nanos" "J" (.long w_nanos)) (F_maxNanos : Fld Z h0 t "com/example/pufferfish/pufferfish/pool/PoolTally$TimeSum" "maxNanos" "J" (.long w_maxNanos)) (F_seconds : Fld Z h0 t "com/example/pufferfish/pufferfish/pool/PoolTally$TimeSum" "seconds" "J" (.long w_seconds)) (gt : n0 ≤ t) :
    Sat l Z (⟨"com/example/pufferfish/pufferfish/pool/PoolTally$TimeSum", "add", "(J)V"⟩ : MethodName) prog_18_method_2_code 5 none ({ frames := 1, cells := 0, slots := 0, locals := 20 } : Room) [.ref t, .long z] h0 n0 (RN fun h => Keep h0 h [t] ∧ Exa Z h t "com/example/pufferfish/pufferfish/pool/PoolTally$TimeSum" ∧ ∃ u_nanos u_maxNanos u_seconds : Int64, Fld Z h t "com/example/pufferfish/pufferfish/pool/PoolTally$TimeSum" "nanos" "J" (.long u_nanos) ∧ Fld Z h t "com/example/pufferfish/pufferfish/pool/PoolTally$TimeSum" "maxNanos" "J" (.long u_maxNanos) ∧ Fld Z h t "com/example/pufferfish/pufferfish/pool/PoolTally$TimeSum" "seconds" "J" (.long u_seconds)) := by
  refine sat_of (own := "com/example/pufferfish/pufferfish/pool/PoolTally$TimeSum") (nm := "add") rfl rfl (plainFor_of_name pn_3) #[.val (.ref t), .val (.long z), .second, .unset, .unset] (fun m => by first | rfl | (simp [entryFrame, mkF, argsToLocals, Value.category]; done)) ?_
  intro p e s m below meth c C
  refine go_lconst C (0 : Int64) d6_0 (pc' := 1) rfl (by decide) ?_
  refine go_lloadN C d6_1 (pc' := 2) rfl rfl ?_
  refine go_staticP C (as := [.long (0 : Int64), .long z]) (rest := []) (W := 0) (.long (o_maxL (0 : Int64) z)) (sat_maxL l Z a0 hw (0 : Int64) z _ _) (wd hw 37 rfl) (wd hw 38 rfl) (wd hw 39 rfl) (wd hw 40 rfl) (by decide) pd_4 rfl rfl rfl (by decide) (by decide) rfl rfl (by decide) (by decide) d6_2 (pc' := 5) rfl rfl ?_
  refine go_lstoreN C (Ls' := #[.val (.ref t), .val (.long z), .second, .val (.long (o_maxL (0 : Int64) z)), .second]) d6_5 (pc' := 6) rfl rfl ?_
  refine go_aloadN C d6_6 (pc' := 7) rfl rfl rfl ?_
  refine go_lloadN C d6_7 (pc' := 8) rfl rfl ?_
  refine go_privateN C (as := [.long (o_maxL (0 : Int64) z)]) (rest := []) (W := 0) (sat_an l Z a0 hw t (o_maxL (0 : Int64) z) w_nanos w_maxNanos w_seconds _ _ E1 F_nanos F_maxNanos F_seconds gt) E1 (wd hw 41 rfl) (wd hw 43 rfl) (own_selects_private (wd hw 15 rfl) (wd hw 43 rfl) (wd hw 42 rfl) (by decide)) (wd hw 42 rfl) (wd hw 16 rfl) (wd hw 44 rfl) (by decide) pd_3 rfl rfl rfl (by decide) (by decide) (ce' := 0) (sl' := 0) rfl rfl (by decide) (by decide) d6_8 (pc' := 11) rfl rfl ?_
  intro h_1 q_2
  obtain ⟨K_3, E_4, u_5, u_6, u_7, F_8, F_9, F_10⟩ := q_2
  have E_11 := Exa.keep E1 K_3
  have K_3' := Keep.trans (Keep.refl h0 [t]) K_3 (allS (Or.inl (by simp)) all0)
  refine go_aloadN C d6_11 (pc' := 12) rfl rfl rfl ?_
  refine go_aloadN C d6_12 (pc' := 13) rfl rfl rfl ?_
  refine go_getfield C (wd hw 48 rfl) F_9 d6_13 (pc' := 16) rfl ?_
  refine go_lloadN C d6_16 (pc' := 17) rfl rfl ?_
  refine go_staticP C (as := [.long u_6, .long (o_maxL (0 : Int64) z)]) (rest := [.ref t]) (W := 1) (.long (o_maxL u_6 (o_maxL (0 : Int64) z))) (sat_maxL l Z a0 hw u_6 (o_maxL (0 : Int64) z) _ _) (wd hw 37 rfl) (wd hw 38 rfl) (wd hw 39 rfl) (wd hw 40 rfl) (by decide) pd_4 rfl rfl rfl (by decide) (by decide) rfl rfl (by decide) (by decide) d6_17 (pc' := 20) rfl rfl ?_
  refine go_putfield C (wd hw 48 rfl) F_9 E_4 (Or.inl (wd hw 49 rfl)) (wd hw 15 rfl) (ty := .long) (by decide) rfl rfl gt d6_20 (pc' := 23) rfl ?_
  intro h_12 W_13
  have F_14 := Fld.other W_13 F_8 (Or.inr (slot_ne (a0 := a0) (Or.inl (wd hw 46 rfl)) (Or.inl (wd hw 49 rfl)) (by decide) (t := .long) (t' := .long) (by decide) (by decide)))
  have F_15 := Fld.same W_13 F_9
  have F_16 := Fld.other W_13 F_10 (Or.inr (slot_ne (a0 := a0) (Or.inl (wd hw 95 rfl)) (Or.inl (wd hw 49 rfl)) (by decide) (t := .long) (t' := .long) (by decide) (by decide)))
  have E_17 := Exa.wr W_13 E_4
  have K_18 := Keep.wr K_3' W_13 (Or.inl (by simp))
  refine go_return C rfl d6_23 (by decide) (by decide) ?_
  exact ⟨rfl, K_18, E_17, _, _, _, F_14, F_15, F_16⟩
set_option maxRecDepth 65536 in
set_option maxHeartbeats 40000000 in
theorem sat_te00 (l : Launch) (Z : State) (a0 : Array Value) (hw : ∀ d ∈ tables_1, d.before a0 Z = true) (a : Addr) (v0 : Int64) (v1 : Int64) (v2 : Int64) (v3 : Int64) (v4 : Int64) (v5 : Int32) (y0 : Int64) (h0 : Heap) (n0 : Nat) (hO : Exa Z h0 a "com/example/pufferfish/pufferfish/pool/PoolTally" ∧ Fld Z h0 a "com/example/pufferfish/pufferfish/pool/PoolTally" "completedCount" "J" (.long v0) ∧ Fld Z h0 a "com/example/pufferfish/pufferfish/pool/PoolTally" "failedCount" "J" (.long v1) ∧ Fld Z h0 a "com/example/pufferfish/pufferfish/pool/PoolTally" "submittedCount" "J" (.long v2) ∧ Fld Z h0 a "com/example/pufferfish/pufferfish/pool/PoolTally" "rejectedCount" "J" (.long v3) ∧ Fld Z h0 a "com/example/pufferfish/pufferfish/pool/PoolTally" "rejectedAtShutdownCount" "J" (.long v4) ∧ Fld Z h0 a "com/example/pufferfish/pufferfish/pool/PoolTally" "largestPoolSize" "I" (.int v5) ∧ ∃ t : Addr, n0 ≤ t ∧ Fld Z h0 a "com/example/pufferfish/pufferfish/pool/PoolTally" "runTime" "Lcom/example/pufferfish/pufferfish/pool/PoolTally$TimeSum;" (.ref t) ∧ Exa Z h0 t "com/example/pufferfish/pufferfish/pool/PoolTally$TimeSum" ∧ ∃ u_nanos u_maxNanos u_seconds : Int64, Fld Z h0 t "com/example/pufferfish/pufferfish/pool/PoolTally$TimeSum" "nanos" "J" (.long u_nanos) ∧ Fld Z h0 t "com/example/pufferfish/pufferfish/pool/PoolTally$TimeSum" "maxNanos" "J" (.long u_maxNanos) ∧ Fld Z h0 t "com/example/pufferfish/pufferfish/pool/PoolTally$TimeSum" "seconds" "J" (.long u_seconds)) (ga : n0 ≤ a) :
    Sat l Z (⟨"com/example/pufferfish/pufferfish/pool/PoolTally", "taskEnded", "(ZZJ)V"⟩ : MethodName) prog_17_method_6_code 5 none ({ frames := 2, cells := 0, slots := 0, locals := 36 } : Room) [.ref a, .int (0 : Int32), .int (0 : Int32), .long y0] h0 n0 (RN fun h => Exa Z h a "com/example/pufferfish/pufferfish/pool/PoolTally" ∧ Fld Z h a "com/example/pufferfish/pufferfish/pool/PoolTally" "completedCount" "J" (.long v0) ∧ Fld Z h a "com/example/pufferfish/pufferfish/pool/PoolTally" "failedCount" "J" (.long v1) ∧ Fld Z h a "com/example/pufferfish/pufferfish/pool/PoolTally" "submittedCount" "J" (.long v2) ∧ Fld Z h a "com/example/pufferfish/pufferfish/pool/PoolTally" "rejectedCount" "J" (.long v3) ∧ Fld Z h a "com/example/pufferfish/pufferfish/pool/PoolTally" "rejectedAtShutdownCount" "J" (.long v4) ∧ Fld Z h a "com/example/pufferfish/pufferfish/pool/PoolTally" "largestPoolSize" "I" (.int v5) ∧ ∃ t : Addr, n0 ≤ t ∧ Fld Z h a "com/example/pufferfish/pufferfish/pool/PoolTally" "runTime" "Lcom/example/pufferfish/pufferfish/pool/PoolTally$TimeSum;" (.ref t) ∧ Exa Z h t "com/example/pufferfish/pufferfish/pool/PoolTally$TimeSum" ∧ ∃ u_nanos u_maxNanos u_seconds : Int64, Fld Z h t "com/example/pufferfish/pufferfish/pool/PoolTally$TimeSum" "nanos" "J" (.long u_nanos) ∧ Fld Z h t "com/example/pufferfish/pufferfish/pool/PoolTally$TimeSum" "maxNanos" "J" (.long u_maxNanos) ∧ Fld Z h t "com/example/pufferfish/pufferfish/pool/PoolTally$TimeSum" "seconds" "J" (.long u_seconds)) := by
  refine sat_of (own := "com/example/pufferfish/pufferfish/pool/PoolTally") (nm := "taskEnded") rfl rfl (plainFor_of_name pn_1) #[.val (.ref a), .val (.int (0 : Int32)), .val (.int (0 : Int32)), .val (.long y0), .second] (fun m => by first | rfl | (simp [entryFrame, mkF, argsToLocals, Value.category]; done)) ?_
  intro p e s m below meth c C
  obtain ⟨E_1, F_2, F_3, F_4, F_5, F_6, F_7, t_8, g_9, F_10, E_11, u_12, u_13, u_14, F_15, F_16, F_17⟩ := hO
  have n_18 : a ≠ t_8 := ne_exa E_1 E_11 (by decide)
  refine go_iloadN C d5_0 (pc' := 1) rfl rfl ?_
  refine go_if0 C (0 : Int) (by decide) d5_1 (by decide) (pc' := 22) (by decide) (pcN := 4) rfl (fun (c_19 : (0 : Int) = 0) => ?_) (fun (c_19 : ¬ (0 : Int) = 0) => by omega)
  refine go_iloadN C d5_22 (pc' := 23) rfl rfl ?_
  refine go_if0 C (0 : Int) (by decide) d5_23 (by decide) (pc' := 36) (by decide) (pcN := 26) rfl (fun (c_20 : (0 : Int) = 0) => ?_) (fun (c_20 : ¬ (0 : Int) = 0) => by omega)
  refine go_return C rfl d5_36 (by decide) (by decide) ?_
  exact ⟨rfl, ⟨E_1, F_2, F_3, F_4, F_5, F_6, F_7, t_8, g_9, F_10, E_11, _, _, _, F_15, F_16, F_17⟩⟩
set_option maxRecDepth 65536 in
set_option maxHeartbeats 40000000 in
theorem sat_te01 (l : Launch) (Z : State) (a0 : Array Value) (hw : ∀ d ∈ tables_1, d.before a0 Z = true) (a : Addr) (v0 : Int64) (v1 : Int64) (v2 : Int64) (v3 : Int64) (v4 : Int64) (v5 : Int32) (y0 : Int64) (h0 : Heap) (n0 : Nat) (hO : Exa Z h0 a "com/example/pufferfish/pufferfish/pool/PoolTally" ∧ Fld Z h0 a "com/example/pufferfish/pufferfish/pool/PoolTally" "completedCount" "J" (.long v0) ∧ Fld Z h0 a "com/example/pufferfish/pufferfish/pool/PoolTally" "failedCount" "J" (.long v1) ∧ Fld Z h0 a "com/example/pufferfish/pufferfish/pool/PoolTally" "submittedCount" "J" (.long v2) ∧ Fld Z h0 a "com/example/pufferfish/pufferfish/pool/PoolTally" "rejectedCount" "J" (.long v3) ∧ Fld Z h0 a "com/example/pufferfish/pufferfish/pool/PoolTally" "rejectedAtShutdownCount" "J" (.long v4) ∧ Fld Z h0 a "com/example/pufferfish/pufferfish/pool/PoolTally" "largestPoolSize" "I" (.int v5) ∧ ∃ t : Addr, n0 ≤ t ∧ Fld Z h0 a "com/example/pufferfish/pufferfish/pool/PoolTally" "runTime" "Lcom/example/pufferfish/pufferfish/pool/PoolTally$TimeSum;" (.ref t) ∧ Exa Z h0 t "com/example/pufferfish/pufferfish/pool/PoolTally$TimeSum" ∧ ∃ u_nanos u_maxNanos u_seconds : Int64, Fld Z h0 t "com/example/pufferfish/pufferfish/pool/PoolTally$TimeSum" "nanos" "J" (.long u_nanos) ∧ Fld Z h0 t "com/example/pufferfish/pufferfish/pool/PoolTally$TimeSum" "maxNanos" "J" (.long u_maxNanos) ∧ Fld Z h0 t "com/example/pufferfish/pufferfish/pool/PoolTally$TimeSum" "seconds" "J" (.long u_seconds)) (ga : n0 ≤ a) :
    Sat l Z (⟨"com/example/pufferfish/pufferfish/pool/PoolTally", "taskEnded", "(ZZJ)V"⟩ : MethodName) prog_17_method_6_code 5 none ({ frames := 2, cells := 0, slots := 0, locals := 36 } : Room) [.ref a, .int (0 : Int32), .int (1 : Int32), .long y0] h0 n0 (RN fun h => Exa Z h a "com/example/pufferfish/pufferfish/pool/PoolTally" ∧ Fld Z h a "com/example/pufferfish/pufferfish/pool/PoolTally" "completedCount" "J" (.long v0) ∧ Fld Z h a "com/example/pufferfish/pufferfish/pool/PoolTally" "failedCount" "J" (.long (v1 + (1 : Int64))) ∧ Fld Z h a "com/example/pufferfish/pufferfish/pool/PoolTally" "submittedCount" "J" (.long v2) ∧ Fld Z h a "com/example/pufferfish/pufferfish/pool/PoolTally" "rejectedCount" "J" (.long v3) ∧ Fld Z h a "com/example/pufferfish/pufferfish/pool/PoolTally" "rejectedAtShutdownCount" "J" (.long v4) ∧ Fld Z h a "com/example/pufferfish/pufferfish/pool/PoolTally" "largestPoolSize" "I" (.int v5) ∧ ∃ t : Addr, n0 ≤ t ∧ Fld Z h a "com/example/pufferfish/pufferfish/pool/PoolTally" "runTime" "Lcom/example/pufferfish/pufferfish/pool/PoolTally$TimeSum;" (.ref t) ∧ Exa Z h t "com/example/pufferfish/pufferfish/pool/PoolTally$TimeSum" ∧ ∃ u_nanos u_maxNanos u_seconds : Int64, Fld Z h t "com/example/pufferfish/pufferfish/pool/PoolTally$TimeSum" "nanos" "J" (.long u_nanos) ∧ Fld Z h t "com/example/pufferfish/pufferfish/pool/PoolTally$TimeSum" "maxNanos" "J" (.long u_maxNanos) ∧ Fld Z h t "com/example/pufferfish/pufferfish/pool/PoolTally$TimeSum" "seconds" "J" (.long u_seconds)) := by
  refine sat_of (own := "com/example/pufferfish/pufferfish/pool/PoolTally") (nm := "taskEnded") rfl rfl (plainFor_of_name pn_1) #[.val (.ref a), .val (.int (0 : Int32)), .val (.int (1 : Int32)), .val (.long y0), .second] (fun m => by first | rfl | (simp [entryFrame, mkF, argsToLocals, Value.category]; done)) ?_
  intro p e s m below meth c C
  obtain ⟨E_1, F_2, F_3, F_4, F_5, F_6, F_7, t_8, g_9, F_10, E_11, u_12, u_13, u_14, F_15, F_16, F_17⟩ := hO
  have n_18 : a ≠ t_8 := ne_exa E_1 E_11 (by decide)
  refine go_iloadN C d5_0 (pc' := 1) rfl rfl ?_
  refine go_if0 C (0 : Int) (by decide) d5_1 (by decide) (pc' := 22) (by decide) (pcN := 4) rfl (fun (c_19 : (0 : Int) = 0) => ?_) (fun (c_19 : ¬ (0 : Int) = 0) => by omega)
  refine go_iloadN C d5_22 (pc' := 23) rfl rfl ?_
  refine go_if0 C (1 : Int) (by decide) d5_23 (by decide) (pc' := 36) (by decide) (pcN := 26) rfl (fun (c_20 : (1 : Int) = 0) => by omega) (fun (c_20 : ¬ (1 : Int) = 0) => ?_)
  refine go_aloadN C d5_26 (pc' := 27) rfl rfl rfl ?_
  refine go_dup C d5_27 (pc' := 28) rfl rfl ?_
  refine go_getfield C (wd hw 64 rfl) F_3 d5_28 (pc' := 31) rfl ?_
  refine go_lconst C (1 : Int64) d5_31 (pc' := 32) rfl (by decide) ?_
  refine go_ladd C d5_32 (pc' := 33) rfl ?_
  refine go_putfield C (wd hw 64 rfl) F_3 E_1 (Or.inl (wd hw 65 rfl)) (wd hw 1 rfl) (ty := .long) (by decide) rfl rfl ga d5_33 (pc' := 36) rfl ?_
  intro h_21 W_22
  have F_23 := Fld.other W_22 F_10 (Or.inr (slot_ne (a0 := a0) (Or.inr (wd hw 24 rfl)) (Or.inl (wd hw 65 rfl)) (by decide) (t := (.object "com/example/pufferfish/pufferfish/pool/PoolTally$TimeSum")) (t' := .long) (by decide) (by decide)))
  have F_24 := Fld.other W_22 F_15 (Or.inl (Ne.symm n_18))
  have F_25 := Fld.other W_22 F_16 (Or.inl (Ne.symm n_18))
  have F_26 := Fld.other W_22 F_17 (Or.inl (Ne.symm n_18))
  have F_27 := Fld.other W_22 F_2 (Or.inr (slot_ne (a0 := a0) (Or.inl (wd hw 31 rfl)) (Or.inl (wd hw 65 rfl)) (by decide) (t := .long) (t' := .long) (by decide) (by decide)))
  have F_28 := Fld.same W_22 F_3
  have F_29 := Fld.other W_22 F_4 (Or.inr (slot_ne (a0 := a0) (Or.inl (wd hw 72 rfl)) (Or.inl (wd hw 65 rfl)) (by decide) (t := .long) (t' := .long) (by decide) (by decide)))
  have F_30 := Fld.other W_22 F_5 (Or.inr (slot_ne (a0 := a0) (Or.inl (wd hw 79 rfl)) (Or.inl (wd hw 65 rfl)) (by decide) (t := .long) (t' := .long) (by decide) (by decide)))
  have F_31 := Fld.other W_22 F_6 (Or.inr (slot_ne (a0 := a0) (Or.inl (wd hw 86 rfl)) (Or.inl (wd hw 65 rfl)) (by decide) (t := .long) (t' := .long) (by decide) (by decide)))
  have F_32 := Fld.other W_22 F_7 (Or.inr (slot_ne (a0 := a0) (Or.inl (wd hw 93 rfl)) (Or.inl (wd hw 65 rfl)) (by decide) (t := .int) (t' := .long) (by decide) (by decide)))
  have E_33 := Exa.wr W_22 E_11
  have E_34 := Exa.wr W_22 E_1
  refine go_return C rfl d5_36 (by decide) (by decide) ?_
  exact ⟨rfl, ⟨E_34, F_27, F_28, F_29, F_30, F_31, F_32, t_8, g_9, F_23, E_33, _, _, _, F_24, F_25, F_26⟩⟩
set_option maxRecDepth 65536 in
set_option maxHeartbeats 40000000 in
theorem sat_te10 (l : Launch) (Z : State) (a0 : Array Value) (hw : ∀ d ∈ tables_1, d.before a0 Z = true) (a : Addr) (v0 : Int64) (v1 : Int64) (v2 : Int64) (v3 : Int64) (v4 : Int64) (v5 : Int32) (y0 : Int64) (h0 : Heap) (n0 : Nat) (hO : Exa Z h0 a "com/example/pufferfish/pufferfish/pool/PoolTally" ∧ Fld Z h0 a "com/example/pufferfish/pufferfish/pool/PoolTally" "completedCount" "J" (.long v0) ∧ Fld Z h0 a "com/example/pufferfish/pufferfish/pool/PoolTally" "failedCount" "J" (.long v1) ∧ Fld Z h0 a "com/example/pufferfish/pufferfish/pool/PoolTally" "submittedCount" "J" (.long v2) ∧ Fld Z h0 a "com/example/pufferfish/pufferfish/pool/PoolTally" "rejectedCount" "J" (.long v3) ∧ Fld Z h0 a "com/example/pufferfish/pufferfish/pool/PoolTally" "rejectedAtShutdownCount" "J" (.long v4) ∧ Fld Z h0 a "com/example/pufferfish/pufferfish/pool/PoolTally" "largestPoolSize" "I" (.int v5) ∧ ∃ t : Addr, n0 ≤ t ∧ Fld Z h0 a "com/example/pufferfish/pufferfish/pool/PoolTally" "runTime" "Lcom/example/pufferfish/pufferfish/pool/PoolTally$TimeSum;" (.ref t) ∧ Exa Z h0 t "com/example/pufferfish/pufferfish/pool/PoolTally$TimeSum" ∧ ∃ u_nanos u_maxNanos u_seconds : Int64, Fld Z h0 t "com/example/pufferfish/pufferfish/pool/PoolTally$TimeSum" "nanos" "J" (.long u_nanos) ∧ Fld Z h0 t "com/example/pufferfish/pufferfish/pool/PoolTally$TimeSum" "maxNanos" "J" (.long u_maxNanos) ∧ Fld Z h0 t "com/example/pufferfish/pufferfish/pool/PoolTally$TimeSum" "seconds" "J" (.long u_seconds)) (ga : n0 ≤ a) :
    Sat l Z (⟨"com/example/pufferfish/pufferfish/pool/PoolTally", "taskEnded", "(ZZJ)V"⟩ : MethodName) prog_17_method_6_code 5 none ({ frames := 2, cells := 0, slots := 0, locals := 36 } : Room) [.ref a, .int (1 : Int32), .int (0 : Int32), .long y0] h0 n0 (RN fun h => Exa Z h a "com/example/pufferfish/pufferfish/pool/PoolTally" ∧ Fld Z h a "com/example/pufferfish/pufferfish/pool/PoolTally" "completedCount" "J" (.long (v0 + (1 : Int64))) ∧ Fld Z h a "com/example/pufferfish/pufferfish/pool/PoolTally" "failedCount" "J" (.long v1) ∧ Fld Z h a "com/example/pufferfish/pufferfish/pool/PoolTally" "submittedCount" "J" (.long v2) ∧ Fld Z h a "com/example/pufferfish/pufferfish/pool/PoolTally" "rejectedCount" "J" (.long v3) ∧ Fld Z h a "com/example/pufferfish/pufferfish/pool/PoolTally" "rejectedAtShutdownCount" "J" (.long v4) ∧ Fld Z h a "com/example/pufferfish/pufferfish/pool/PoolTally" "largestPoolSize" "I" (.int v5) ∧ ∃ t : Addr, n0 ≤ t ∧ Fld Z h a "com/example/pufferfish/pufferfish/pool/PoolTally" "runTime" "Lcom/example/pufferfish/pufferfish/pool/PoolTally$TimeSum;" (.ref t) ∧ Exa Z h t "com/example/pufferfish/pufferfish/pool/PoolTally$TimeSum" ∧ ∃ u_nanos u_maxNanos u_seconds : Int64, Fld Z h t "com/example/pufferfish/pufferfish/pool/PoolTally$TimeSum" "nanos" "J" (.long u_nanos) ∧ Fld Z h t "com/example/pufferfish/pufferfish/pool/PoolTally$TimeSum" "maxNanos" "J" (.long u_maxNanos) ∧ Fld Z h t "com/example/pufferfish/pufferfish/pool/PoolTally$TimeSum" "seconds" "J" (.long u_seconds)) := by
  refine sat_of (own := "com/example/pufferfish/pufferfish/pool/PoolTally") (nm := "taskEnded") rfl rfl (plainFor_of_name pn_1) #[.val (.ref a), .val (.int (1 : Int32)), .val (.int (0 : Int32)), .val (.long y0), .second] (fun m => by first | rfl | (simp [entryFrame, mkF, argsToLocals, Value.category]; done)) ?_
  intro p e s m below meth c C
  obtain ⟨E_1, F_2, F_3, F_4, F_5, F_6, F_7, t_8, g_9, F_10, E_11, u_12, u_13, u_14, F_15, F_16, F_17⟩ := hO
  have n_18 : a ≠ t_8 := ne_exa E_1 E_11 (by decide)
  refine go_iloadN C d5_0 (pc' := 1) rfl rfl ?_
  refine go_if0 C (1 : Int) (by decide) d5_1 (by decide) (pc' := 22) (by decide) (pcN := 4) rfl (fun (c_19 : (1 : Int) = 0) => by omega) (fun (c_19 : ¬ (1 : Int) = 0) => ?_)
  refine go_aloadN C d5_4 (pc' := 5) rfl rfl rfl ?_
  refine go_dup C d5_5 (pc' := 6) rfl rfl ?_
  refine go_getfield C (wd hw 30 rfl) F_2 d5_6 (pc' := 9) rfl ?_
  refine go_lconst C (1 : Int64) d5_9 (pc' := 10) rfl (by decide) ?_
  refine go_ladd C d5_10 (pc' := 11) rfl ?_
  refine go_putfield C (wd hw 30 rfl) F_2 E_1 (Or.inl (wd hw 31 rfl)) (wd hw 1 rfl) (ty := .long) (by decide) rfl rfl ga d5_11 (pc' := 14) rfl ?_
  intro h_20 W_21
  have F_22 := Fld.other W_21 F_10 (Or.inr (slot_ne (a0 := a0) (Or.inr (wd hw 24 rfl)) (Or.inl (wd hw 31 rfl)) (by decide) (t := (.object "com/example/pufferfish/pufferfish/pool/PoolTally$TimeSum")) (t' := .long) (by decide) (by decide)))
  have F_23 := Fld.other W_21 F_15 (Or.inl (Ne.symm n_18))
  have F_24 := Fld.other W_21 F_16 (Or.inl (Ne.symm n_18))
  have F_25 := Fld.other W_21 F_17 (Or.inl (Ne.symm n_18))
  have F_26 := Fld.same W_21 F_2
  have F_27 := Fld.other W_21 F_3 (Or.inr (slot_ne (a0 := a0) (Or.inl (wd hw 65 rfl)) (Or.inl (wd hw 31 rfl)) (by decide) (t := .long) (t' := .long) (by decide) (by decide)))
  have F_28 := Fld.other W_21 F_4 (Or.inr (slot_ne (a0 := a0) (Or.inl (wd hw 72 rfl)) (Or.inl (wd hw 31 rfl)) (by decide) (t := .long) (t' := .long) (by decide) (by decide)))
  have F_29 := Fld.other W_21 F_5 (Or.inr (slot_ne (a0 := a0) (Or.inl (wd hw 79 rfl)) (Or.inl (wd hw 31 rfl)) (by decide) (t := .long) (t' := .long) (by decide) (by decide)))
  have F_30 := Fld.other W_21 F_6 (Or.inr (slot_ne (a0 := a0) (Or.inl (wd hw 86 rfl)) (Or.inl (wd hw 31 rfl)) (by decide) (t := .long) (t' := .long) (by decide) (by decide)))
  have F_31 := Fld.other W_21 F_7 (Or.inr (slot_ne (a0 := a0) (Or.inl (wd hw 93 rfl)) (Or.inl (wd hw 31 rfl)) (by decide) (t := .int) (t' := .long) (by decide) (by decide)))
  have E_32 := Exa.wr W_21 E_11
  have E_33 := Exa.wr W_21 E_1
  refine go_aloadN C d5_14 (pc' := 15) rfl rfl rfl ?_
  refine go_getfield C (wd hw 23 rfl) F_22 d5_15 (pc' := 18) rfl ?_
  refine go_lloadN C d5_18 (pc' := 19) rfl rfl ?_
  refine go_virtualN C (as := [.long y0]) (rest := []) (W := 0) (sat_ta l Z a0 hw t_8 y0 u_12 u_13 u_14 _ _ E_32 F_23 F_24 F_25 g_9) E_32 (wd hw 32 rfl) (wd hw 33 rfl) (wd hw 35 rfl) (wd hw 34 rfl) (wd hw 16 rfl) (wd hw 36 rfl) (by decide) pd_3 rfl rfl rfl (by decide) (by decide) (ce' := 0) (sl' := 0) rfl rfl (by decide) (by decide) d5_19 (pc' := 22) rfl rfl ?_
  intro h_34 q_35
  obtain ⟨K_36, E_37, u_38, u_39, u_40, F_41, F_42, F_43⟩ := q_35
  have F_44 := Fld.keep F_22 K_36 (ninS n_18 nin0)
  have F_45 := Fld.keep F_26 K_36 (ninS n_18 nin0)
  have F_46 := Fld.keep F_27 K_36 (ninS n_18 nin0)
  have F_47 := Fld.keep F_28 K_36 (ninS n_18 nin0)
  have F_48 := Fld.keep F_29 K_36 (ninS n_18 nin0)
  have F_49 := Fld.keep F_30 K_36 (ninS n_18 nin0)
  have F_50 := Fld.keep F_31 K_36 (ninS n_18 nin0)
  have E_51 := Exa.keep E_32 K_36
  have E_52 := Exa.keep E_33 K_36
  refine go_iloadN C d5_22 (pc' := 23) rfl rfl ?_
  refine go_if0 C (0 : Int) (by decide) d5_23 (by decide) (pc' := 36) (by decide) (pcN := 26) rfl (fun (c_53 : (0 : Int) = 0) => ?_) (fun (c_53 : ¬ (0 : Int) = 0) => by omega)
  refine go_return C rfl d5_36 (by decide) (by decide) ?_
  exact ⟨rfl, ⟨E_52, F_45, F_46, F_47, F_48, F_49, F_50, t_8, g_9, F_44, E_37, _, _, _, F_41, F_42, F_43⟩⟩
set_option maxRecDepth 65536 in
set_option maxHeartbeats 40000000 in
theorem sat_te11 (l : Launch) (Z : State) (a0 : Array Value) (hw : ∀ d ∈ tables_1, d.before a0 Z = true) (a : Addr) (v0 : Int64) (v1 : Int64) (v2 : Int64) (v3 : Int64) (v4 : Int64) (v5 : Int32) (y0 : Int64) (h0 : Heap) (n0 : Nat) (hO : Exa Z h0 a "com/example/pufferfish/pufferfish/pool/PoolTally" ∧ Fld Z h0 a "com/example/pufferfish/pufferfish/pool/PoolTally" "completedCount" "J" (.long v0) ∧ Fld Z h0 a "com/example/pufferfish/pufferfish/pool/PoolTally" "failedCount" "J" (.long v1) ∧ Fld Z h0 a "com/example/pufferfish/pufferfish/pool/PoolTally" "submittedCount" "J" (.long v2) ∧ Fld Z h0 a "com/example/pufferfish/pufferfish/pool/PoolTally" "rejectedCount" "J" (.long v3) ∧ Fld Z h0 a "com/example/pufferfish/pufferfish/pool/PoolTally" "rejectedAtShutdownCount" "J" (.long v4) ∧ Fld Z h0 a "com/example/pufferfish/pufferfish/pool/PoolTally" "largestPoolSize" "I" (.int v5) ∧ ∃ t : Addr, n0 ≤ t ∧ Fld Z h0 a "com/example/pufferfish/pufferfish/pool/PoolTally" "runTime" "Lcom/example/pufferfish/pufferfish/pool/PoolTally$TimeSum;" (.ref t) ∧ Exa Z h0 t "com/example/pufferfish/pufferfish/pool/PoolTally$TimeSum" ∧ ∃ u_nanos u_maxNanos u_seconds : Int64, Fld Z h0 t "com/example/pufferfish/pufferfish/pool/PoolTally$TimeSum" "nanos" "J" (.long u_nanos) ∧ Fld Z h0 t "com/example/pufferfish/pufferfish/pool/PoolTally$TimeSum" "maxNanos" "J" (.long u_maxNanos) ∧ Fld Z h0 t "com/example/pufferfish/pufferfish/pool/PoolTally$TimeSum" "seconds" "J" (.long u_seconds)) (ga : n0 ≤ a) :
    Sat l Z (⟨"com/example/pufferfish/pufferfish/pool/PoolTally", "taskEnded", "(ZZJ)V"⟩ : MethodName) prog_17_method_6_code 5 none ({ frames := 2, cells := 0, slots := 0, locals := 36 } : Room) [.ref a, .int (1 : Int32), .int (1 : Int32), .long y0] h0 n0 (RN fun h => Exa Z h a "com/example/pufferfish/pufferfish/pool/PoolTally" ∧ Fld Z h a "com/example/pufferfish/pufferfish/pool/PoolTally" "completedCount" "J" (.long (v0 + (1 : Int64))) ∧ Fld Z h a "com/example/pufferfish/pufferfish/pool/PoolTally" "failedCount" "J" (.long (v1 + (1 : Int64))) ∧ Fld Z h a "com/example/pufferfish/pufferfish/pool/PoolTally" "submittedCount" "J" (.long v2) ∧ Fld Z h a "com/example/pufferfish/pufferfish/pool/PoolTally" "rejectedCount" "J" (.long v3) ∧ Fld Z h a "com/example/pufferfish/pufferfish/pool/PoolTally" "rejectedAtShutdownCount" "J" (.long v4) ∧ Fld Z h a "com/example/pufferfish/pufferfish/pool/PoolTally" "largestPoolSize" "I" (.int v5) ∧ ∃ t : Addr, n0 ≤ t ∧ Fld Z h a "com/example/pufferfish/pufferfish/pool/PoolTally" "runTime" "Lcom/example/pufferfish/pufferfish/pool/PoolTally$TimeSum;" (.ref t) ∧ Exa Z h t "com/example/pufferfish/pufferfish/pool/PoolTally$TimeSum" ∧ ∃ u_nanos u_maxNanos u_seconds : Int64, Fld Z h t "com/example/pufferfish/pufferfish/pool/PoolTally$TimeSum" "nanos" "J" (.long u_nanos) ∧ Fld Z h t "com/example/pufferfish/pufferfish/pool/PoolTally$TimeSum" "maxNanos" "J" (.long u_maxNanos) ∧ Fld Z h t "com/example/pufferfish/pufferfish/pool/PoolTally$TimeSum" "seconds" "J" (.long u_seconds)) := by
  refine sat_of (own := "com/example/pufferfish/pufferfish/pool/PoolTally") (nm := "taskEnded") rfl rfl (plainFor_of_name pn_1) #[.val (.ref a), .val (.int (1 : Int32)), .val (.int (1 : Int32)), .val (.long y0), .second] (fun m => by first | rfl | (simp [entryFrame, mkF, argsToLocals, Value.category]; done)) ?_
  intro p e s m below meth c C
  obtain ⟨E_1, F_2, F_3, F_4, F_5, F_6, F_7, t_8, g_9, F_10, E_11, u_12, u_13, u_14, F_15, F_16, F_17⟩ := hO
  have n_18 : a ≠ t_8 := ne_exa E_1 E_11 (by decide)
  refine go_iloadN C d5_0 (pc' := 1) rfl rfl ?_
  refine go_if0 C (1 : Int) (by decide) d5_1 (by decide) (pc' := 22) (by decide) (pcN := 4) rfl (fun (c_19 : (1 : Int) = 0) => by omega) (fun (c_19 : ¬ (1 : Int) = 0) => ?_)
  refine go_aloadN C d5_4 (pc' := 5) rfl rfl rfl ?_
  refine go_dup C d5_5 (pc' := 6) rfl rfl ?_
  refine go_getfield C (wd hw 30 rfl) F_2 d5_6 (pc' := 9) rfl ?_
  refine go_lconst C (1 : Int64) d5_9 (pc' := 10) rfl (by decide) ?_
  refine go_ladd C d5_10 (pc' := 11) rfl ?_
  refine go_putfield C (wd hw 30 rfl) F_2 E_1 (Or.inl (wd hw 31 rfl)) (wd hw 1 rfl) (ty := .long) (by decide) rfl rfl ga d5_11 (pc' := 14) rfl ?_
  intro h_20 W_21
  have F_22 := Fld.other W_21 F_10 (Or.inr (slot_ne (a0 := a0) (Or.inr (wd hw 24 rfl)) (Or.inl (wd hw 31 rfl)) (by decide) (t := (.object "com/example/pufferfish/pufferfish/pool/PoolTally$TimeSum")) (t' := .long) (by decide) (by decide)))
  have F_23 := Fld.other W_21 F_15 (Or.inl (Ne.symm n_18))
  have F_24 := Fld.other W_21 F_16 (Or.inl (Ne.symm n_18))
  have F_25 := Fld.other W_21 F_17 (Or.inl (Ne.symm n_18))
  have F_26 := Fld.same W_21 F_2
  have F_27 := Fld.other W_21 F_3 (Or.inr (slot_ne (a0 := a0) (Or.inl (wd hw 65 rfl)) (Or.inl (wd hw 31 rfl)) (by decide) (t := .long) (t' := .long) (by decide) (by decide)))
  have F_28 := Fld.other W_21 F_4 (Or.inr (slot_ne (a0 := a0) (Or.inl (wd hw 72 rfl)) (Or.inl (wd hw 31 rfl)) (by decide) (t := .long) (t' := .long) (by decide) (by decide)))
  have F_29 := Fld.other W_21 F_5 (Or.inr (slot_ne (a0 := a0) (Or.inl (wd hw 79 rfl)) (Or.inl (wd hw 31 rfl)) (by decide) (t := .long) (t' := .long) (by decide) (by decide)))
  have F_30 := Fld.other W_21 F_6 (Or.inr (slot_ne (a0 := a0) (Or.inl (wd hw 86 rfl)) (Or.inl (wd hw 31 rfl)) (by decide) (t := .long) (t' := .long) (by decide) (by decide)))
  have F_31 := Fld.other W_21 F_7 (Or.inr (slot_ne (a0 := a0) (Or.inl (wd hw 93 rfl)) (Or.inl (wd hw 31 rfl)) (by decide) (t := .int) (t' := .long) (by decide) (by decide)))
  have E_32 := Exa.wr W_21 E_11
  have E_33 := Exa.wr W_21 E_1
  refine go_aloadN C d5_14 (pc' := 15) rfl rfl rfl ?_
  refine go_getfield C (wd hw 23 rfl) F_22 d5_15 (pc' := 18) rfl ?_
  refine go_lloadN C d5_18 (pc' := 19) rfl rfl ?_
  refine go_virtualN C (as := [.long y0]) (rest := []) (W := 0) (sat_ta l Z a0 hw t_8 y0 u_12 u_13 u_14 _ _ E_32 F_23 F_24 F_25 g_9) E_32 (wd hw 32 rfl) (wd hw 33 rfl) (wd hw 35 rfl) (wd hw 34 rfl) (wd hw 16 rfl) (wd hw 36 rfl) (by decide) pd_3 rfl rfl rfl (by decide) (by decide) (ce' := 0) (sl' := 0) rfl rfl (by decide) (by decide) d5_19 (pc' := 22) rfl rfl ?_
  intro h_34 q_35
  obtain ⟨K_36, E_37, u_38, u_39, u_40, F_41, F_42, F_43⟩ := q_35
  have F_44 := Fld.keep F_22 K_36 (ninS n_18 nin0)
  have F_45 := Fld.keep F_26 K_36 (ninS n_18 nin0)
  have F_46 := Fld.keep F_27 K_36 (ninS n_18 nin0)
  have F_47 := Fld.keep F_28 K_36 (ninS n_18 nin0)
  have F_48 := Fld.keep F_29 K_36 (ninS n_18 nin0)
  have F_49 := Fld.keep F_30 K_36 (ninS n_18 nin0)
  have F_50 := Fld.keep F_31 K_36 (ninS n_18 nin0)
  have E_51 := Exa.keep E_32 K_36
  have E_52 := Exa.keep E_33 K_36
  refine go_iloadN C d5_22 (pc' := 23) rfl rfl ?_
  refine go_if0 C (1 : Int) (by decide) d5_23 (by decide) (pc' := 36) (by decide) (pcN := 26) rfl (fun (c_53 : (1 : Int) = 0) => by omega) (fun (c_53 : ¬ (1 : Int) = 0) => ?_)
  refine go_aloadN C d5_26 (pc' := 27) rfl rfl rfl ?_
  refine go_dup C d5_27 (pc' := 28) rfl rfl ?_
  refine go_getfield C (wd hw 64 rfl) F_46 d5_28 (pc' := 31) rfl ?_
  refine go_lconst C (1 : Int64) d5_31 (pc' := 32) rfl (by decide) ?_
  refine go_ladd C d5_32 (pc' := 33) rfl ?_
  refine go_putfield C (wd hw 64 rfl) F_46 E_52 (Or.inl (wd hw 65 rfl)) (wd hw 1 rfl) (ty := .long) (by decide) rfl rfl ga d5_33 (pc' := 36) rfl ?_
  intro h_54 W_55
  have F_56 := Fld.other W_55 F_44 (Or.inr (slot_ne (a0 := a0) (Or.inr (wd hw 24 rfl)) (Or.inl (wd hw 65 rfl)) (by decide) (t := (.object "com/example/pufferfish/pufferfish/pool/PoolTally$TimeSum")) (t' := .long) (by decide) (by decide)))
  have F_57 := Fld.other W_55 F_45 (Or.inr (slot_ne (a0 := a0) (Or.inl (wd hw 31 rfl)) (Or.inl (wd hw 65 rfl)) (by decide) (t := .long) (t' := .long) (by decide) (by decide)))
  have F_58 := Fld.same W_55 F_46
  have F_59 := Fld.other W_55 F_47 (Or.inr (slot_ne (a0 := a0) (Or.inl (wd hw 72 rfl)) (Or.inl (wd hw 65 rfl)) (by decide) (t := .long) (t' := .long) (by decide) (by decide)))
  have F_60 := Fld.other W_55 F_48 (Or.inr (slot_ne (a0 := a0) (Or.inl (wd hw 79 rfl)) (Or.inl (wd hw 65 rfl)) (by decide) (t := .long) (t' := .long) (by decide) (by decide)))
  have F_61 := Fld.other W_55 F_49 (Or.inr (slot_ne (a0 := a0) (Or.inl (wd hw 86 rfl)) (Or.inl (wd hw 65 rfl)) (by decide) (t := .long) (t' := .long) (by decide) (by decide)))
  have F_62 := Fld.other W_55 F_50 (Or.inr (slot_ne (a0 := a0) (Or.inl (wd hw 93 rfl)) (Or.inl (wd hw 65 rfl)) (by decide) (t := .int) (t' := .long) (by decide) (by decide)))
  have F_63 := Fld.other W_55 F_41 (Or.inl (Ne.symm n_18))
  have F_64 := Fld.other W_55 F_42 (Or.inl (Ne.symm n_18))
  have F_65 := Fld.other W_55 F_43 (Or.inl (Ne.symm n_18))
  have E_66 := Exa.wr W_55 E_37
  have E_67 := Exa.wr W_55 E_52
  refine go_return C rfl d5_36 (by decide) (by decide) ?_
  exact ⟨rfl, ⟨E_67, F_57, F_58, F_59, F_60, F_61, F_62, t_8, g_9, F_56, E_66, _, _, _, F_63, F_64, F_65⟩⟩
set_option maxRecDepth 65536 in
set_option maxHeartbeats 40000000 in
theorem sat_one0 (l : Launch) (Z : State) (a0 : Array Value) (hw : ∀ d ∈ tables_1, d.before a0 Z = true)  (h0 : Heap) (n0 : Nat)  :
    Sat l Z (⟨"com/example/pufferfish/pufferfish/pool/PoolTallyTaskEndedPinLaw", "one", "(Z)J"⟩ : MethodName) method_2_code 1 (some .long) ({ frames := 0, cells := 0, slots := 0, locals := 0 } : Room) [.int (0 : Int32)] h0 n0 (RV fun r h => r = .long (0 : Int64) ∧ h = h0) := by
  refine sat_of (own := "com/example/pufferfish/pufferfish/pool/PoolTallyTaskEndedPinLaw") (nm := "one") rfl rfl (plainFor_of_name pn_0) #[.val (.int (0 : Int32))] (fun m => by first | rfl | (simp [entryFrame, mkF, argsToLocals, Value.category]; done)) ?_
  intro p e s m below meth c C
  refine go_iloadN C d9_0 (pc' := 1) rfl rfl ?_
  refine go_if0 C (0 : Int) (by decide) d9_1 (by decide) (pc' := 8) (by decide) (pcN := 4) rfl (fun (c_1 : (0 : Int) = 0) => ?_) (fun (c_1 : ¬ (0 : Int) = 0) => by omega)
  refine go_lconst C (0 : Int64) d9_8 (pc' := 9) rfl (by decide) ?_
  refine go_lreturn C rfl d9_9 (by decide) (by decide) ?_
  exact ⟨_, rfl, rfl, rfl⟩
set_option maxRecDepth 65536 in
set_option maxHeartbeats 40000000 in
theorem sat_one1 (l : Launch) (Z : State) (a0 : Array Value) (hw : ∀ d ∈ tables_1, d.before a0 Z = true)  (h0 : Heap) (n0 : Nat)  :
    Sat l Z (⟨"com/example/pufferfish/pufferfish/pool/PoolTallyTaskEndedPinLaw", "one", "(Z)J"⟩ : MethodName) method_2_code 1 (some .long) ({ frames := 0, cells := 0, slots := 0, locals := 0 } : Room) [.int (1 : Int32)] h0 n0 (RV fun r h => r = .long (1 : Int64) ∧ h = h0) := by
  refine sat_of (own := "com/example/pufferfish/pufferfish/pool/PoolTallyTaskEndedPinLaw") (nm := "one") rfl rfl (plainFor_of_name pn_0) #[.val (.int (1 : Int32))] (fun m => by first | rfl | (simp [entryFrame, mkF, argsToLocals, Value.category]; done)) ?_
  intro p e s m below meth c C
  refine go_iloadN C d9_0 (pc' := 1) rfl rfl ?_
  refine go_if0 C (1 : Int) (by decide) d9_1 (by decide) (pc' := 8) (by decide) (pcN := 4) rfl (fun (c_1 : (1 : Int) = 0) => by omega) (fun (c_1 : ¬ (1 : Int) = 0) => ?_)
  refine go_lconst C (1 : Int64) d9_4 (pc' := 5) rfl (by decide) ?_
  refine go_goto C d9_5 (by decide) (pc' := 9) (by decide) ?_
  refine go_lreturn C rfl d9_9 (by decide) (by decide) ?_
  exact ⟨_, rfl, rfl, rfl⟩
set_option maxRecDepth 65536 in
set_option maxHeartbeats 40000000 in
theorem law_sat (l : Launch) (Z : State) (a0 : Array Value) (hw : ∀ d ∈ tables_1, d.before a0 Z = true) (x0 : Int32) (x1 : Int64) (x2 : Int32) (x3 : Int64)  :
    Sat l Z x code maxLocals ret room_1 [.int x0, .long x1, .int x2, .long x3] Z.heap Z.heap.size (RV fun r _ => r = .int 1) := by
  refine sat_of (own := "com/example/pufferfish/pufferfish/pool/PoolTallyTaskEndedPinLaw") (nm := "law") rfl rfl (plainFor_of_name pn_0) #[.val (.int x0), .val (.long x1), .second, .val (.int x2), .val (.long x3), .second, .unset, .unset, .unset, .unset, .unset, .unset, .unset, .unset, .unset] (fun m => by first | rfl | (simp [entryFrame, mkF, argsToLocals, Value.category]; done)) ?_
  intro p e s m below meth c C
  refine go_iloadN C at_0 (pc' := 1) rfl rfl ?_
  refine go_iconst C (1 : Int32) at_1 (pc' := 2) rfl (by decide) ?_
  refine go_iand C at_2 (pc' := 3) rfl ?_
  refine go_if0 C ((x0 &&& (1 : Int32)).toInt) rfl at_3 (by decide) (pc' := 10) (by decide) (pcN := 6) rfl (fun (c_1 : ((x0 &&& (1 : Int32)).toInt) = 0) => ?_) (fun (c_1 : ¬ ((x0 &&& (1 : Int32)).toInt) = 0) => ?_)
  · skip
    refine go_iconst C (0 : Int32) at_10 (pc' := 11) rfl (by decide) ?_
    refine go_istore C (Ls' := #[.val (.int x0), .val (.long x1), .second, .val (.int x2), .val (.long x3), .second, .val (.int (0 : Int32)), .unset, .unset, .unset, .unset, .unset, .unset, .unset, .unset]) at_11 (pc' := 13) rfl rfl ?_
    refine go_iloadN C at_13 (pc' := 14) rfl rfl ?_
    refine go_iconst C (2 : Int32) at_14 (pc' := 15) rfl (by decide) ?_
    refine go_iand C at_15 (pc' := 16) rfl ?_
    refine go_if0 C ((x0 &&& (2 : Int32)).toInt) rfl at_16 (by decide) (pc' := 23) (by decide) (pcN := 19) rfl (fun (c_2 : ((x0 &&& (2 : Int32)).toInt) = 0) => ?_) (fun (c_2 : ¬ ((x0 &&& (2 : Int32)).toInt) = 0) => ?_)
    · skip
      refine go_iconst C (0 : Int32) at_23 (pc' := 24) rfl (by decide) ?_
      refine go_istore C (Ls' := #[.val (.int x0), .val (.long x1), .second, .val (.int x2), .val (.long x3), .second, .val (.int (0 : Int32)), .val (.int (0 : Int32)), .unset, .unset, .unset, .unset, .unset, .unset, .unset]) at_24 (pc' := 26) rfl rfl ?_
      refine go_iloadN C at_26 (pc' := 27) rfl rfl ?_
      refine go_iconst C (1 : Int32) at_27 (pc' := 28) rfl (by decide) ?_
      refine go_iand C at_28 (pc' := 29) rfl ?_
      refine go_if0 C ((x2 &&& (1 : Int32)).toInt) rfl at_29 (by decide) (pc' := 36) (by decide) (pcN := 32) rfl (fun (c_3 : ((x2 &&& (1 : Int32)).toInt) = 0) => ?_) (fun (c_3 : ¬ ((x2 &&& (1 : Int32)).toInt) = 0) => ?_)
      · skip
        refine go_iconst C (0 : Int32) at_36 (pc' := 37) rfl (by decide) ?_
        refine go_istore C (Ls' := #[.val (.int x0), .val (.long x1), .second, .val (.int x2), .val (.long x3), .second, .val (.int (0 : Int32)), .val (.int (0 : Int32)), .val (.int (0 : Int32)), .unset, .unset, .unset, .unset, .unset, .unset]) at_37 (pc' := 39) rfl rfl ?_
        refine go_iloadN C at_39 (pc' := 40) rfl rfl ?_
        refine go_iconst C (2 : Int32) at_40 (pc' := 41) rfl (by decide) ?_
        refine go_iand C at_41 (pc' := 42) rfl ?_
        refine go_if0 C ((x2 &&& (2 : Int32)).toInt) rfl at_42 (by decide) (pc' := 49) (by decide) (pcN := 45) rfl (fun (c_4 : ((x2 &&& (2 : Int32)).toInt) = 0) => ?_) (fun (c_4 : ¬ ((x2 &&& (2 : Int32)).toInt) = 0) => ?_)
        · skip
          refine go_iconst C (0 : Int32) at_49 (pc' := 50) rfl (by decide) ?_
          refine go_istore C (Ls' := #[.val (.int x0), .val (.long x1), .second, .val (.int x2), .val (.long x3), .second, .val (.int (0 : Int32)), .val (.int (0 : Int32)), .val (.int (0 : Int32)), .val (.int (0 : Int32)), .unset, .unset, .unset, .unset, .unset]) at_50 (pc' := 52) rfl rfl ?_
          refine go_new C (wd hw 0 rfl) (wd hw 1 rfl) (wd hw 2 rfl) at_52 (pc' := 55) rfl (ce' := 1) (sl' := 41) rfl rfl (by decide) (by decide) ?_
          intro h_5 a_6 g_7 E_8 E_9 D_10
          have g_11 : Z.heap.size ≤ a_6 := own_ge (Nat.le_refl _) g_7
          have z_12 : Z.heap.size ≤ h_5.size := Nat.le_trans (Nat.le_refl _) E_8.1
          have F_13 : Fld Z h_5 a_6 "com/example/pufferfish/pufferfish/pool/PoolTally" "queueWait" "Lcom/example/pufferfish/pufferfish/pool/PoolTally$TimeSum;" (.null) := D_10 (Or.inr (wd hw 22 rfl)) (ty := (.object "com/example/pufferfish/pufferfish/pool/PoolTally$TimeSum")) (by decide)
          have F_14 : Fld Z h_5 a_6 "com/example/pufferfish/pufferfish/pool/PoolTally" "runTime" "Lcom/example/pufferfish/pufferfish/pool/PoolTally$TimeSum;" (.null) := D_10 (Or.inr (wd hw 24 rfl)) (ty := (.object "com/example/pufferfish/pufferfish/pool/PoolTally$TimeSum")) (by decide)
          have F_15 : Fld Z h_5 a_6 "com/example/pufferfish/pufferfish/pool/PoolTally" "completedCount" "J" (.long (0 : Int64)) := D_10 (Or.inl (wd hw 31 rfl)) (ty := .long) (by decide)
          have F_16 : Fld Z h_5 a_6 "com/example/pufferfish/pufferfish/pool/PoolTally" "failedCount" "J" (.long (0 : Int64)) := D_10 (Or.inl (wd hw 65 rfl)) (ty := .long) (by decide)
          have F_17 : Fld Z h_5 a_6 "com/example/pufferfish/pufferfish/pool/PoolTally" "submittedCount" "J" (.long (0 : Int64)) := D_10 (Or.inl (wd hw 72 rfl)) (ty := .long) (by decide)
          have F_18 : Fld Z h_5 a_6 "com/example/pufferfish/pufferfish/pool/PoolTally" "rejectedCount" "J" (.long (0 : Int64)) := D_10 (Or.inl (wd hw 79 rfl)) (ty := .long) (by decide)
          have F_19 : Fld Z h_5 a_6 "com/example/pufferfish/pufferfish/pool/PoolTally" "rejectedAtShutdownCount" "J" (.long (0 : Int64)) := D_10 (Or.inl (wd hw 86 rfl)) (ty := .long) (by decide)
          have F_20 : Fld Z h_5 a_6 "com/example/pufferfish/pufferfish/pool/PoolTally" "largestPoolSize" "I" (.int (0 : Int32)) := D_10 (Or.inl (wd hw 93 rfl)) (ty := .int) (by decide)
          refine go_dup C at_55 (pc' := 56) rfl rfl ?_
          refine go_specialN C (as := []) (rest := [.ref a_6]) (W := 1) (sat_pt l Z a0 hw a_6 _ _ E_9 F_13 F_14 F_15 F_16 F_17 F_18 F_19 F_20 g_11 z_12) rfl (wd hw 3 rfl) (wd hw 4 rfl) (wd hw 2 rfl) (wd hw 5 rfl) (by decide) pd_1 rfl rfl rfl (by decide) (by decide) (ce' := 3) (sl' := 113) rfl rfl (by decide) (by decide) at_56 (pc' := 59) rfl rfl ?_
          intro h_21 q_22
          obtain ⟨E_23, F_24, F_25, F_26, F_27, F_28, F_29, t_30, g_31, F_32, E_33, u_34, u_35, u_36, F_37, F_38, F_39⟩ := q_22
          have n_40 : a_6 ≠ t_30 := ne_exa E_23 E_33 (by decide)
          refine go_astore C (Ls' := #[.val (.int x0), .val (.long x1), .second, .val (.int x2), .val (.long x3), .second, .val (.int (0 : Int32)), .val (.int (0 : Int32)), .val (.int (0 : Int32)), .val (.int (0 : Int32)), .val (.ref a_6), .unset, .unset, .unset, .unset]) at_59 (pc' := 61) rfl rfl rfl ?_
          refine go_aload C at_61 (pc' := 63) rfl rfl rfl ?_
          refine go_iload C at_63 (pc' := 65) rfl rfl ?_
          refine go_iload C at_65 (pc' := 67) rfl rfl ?_
          refine go_lloadN C at_67 (pc' := 68) rfl rfl ?_
          refine go_virtualN C (as := [.int (0 : Int32), .int (0 : Int32), .long x1]) (rest := []) (W := 0) (sat_te00 l Z a0 hw a_6 (0 : Int64) (0 : Int64) (0 : Int64) (0 : Int64) (0 : Int64) (0 : Int32) x1 _ _ ⟨E_23, F_24, F_25, F_26, F_27, F_28, F_29, t_30, g_31, F_32, E_33, _, _, _, F_37, F_38, F_39⟩ g_11) E_23 (wd hw 25 rfl) (wd hw 26 rfl) (wd hw 28 rfl) (wd hw 27 rfl) (wd hw 2 rfl) (wd hw 29 rfl) (by decide) pd_2 rfl rfl rfl (by decide) (by decide) (ce' := 3) (sl' := 113) rfl rfl (by decide) (by decide) at_68 (pc' := 71) rfl rfl ?_
          intro h_41 q_42
          obtain ⟨E_43, F_44, F_45, F_46, F_47, F_48, F_49, t_50, g_51, F_52, E_53, u_54, u_55, u_56, F_57, F_58, F_59⟩ := q_42
          have n_60 : a_6 ≠ t_50 := ne_exa E_43 E_53 (by decide)
          refine go_aload C at_71 (pc' := 73) rfl rfl rfl ?_
          refine go_iload C at_73 (pc' := 75) rfl rfl ?_
          refine go_iload C at_75 (pc' := 77) rfl rfl ?_
          refine go_lload C at_77 (pc' := 79) rfl rfl ?_
          refine go_virtualN C (as := [.int (0 : Int32), .int (0 : Int32), .long x3]) (rest := []) (W := 0) (sat_te00 l Z a0 hw a_6 (0 : Int64) (0 : Int64) (0 : Int64) (0 : Int64) (0 : Int64) (0 : Int32) x3 _ _ ⟨E_43, F_44, F_45, F_46, F_47, F_48, F_49, t_50, g_51, F_52, E_53, _, _, _, F_57, F_58, F_59⟩ g_11) E_43 (wd hw 25 rfl) (wd hw 26 rfl) (wd hw 28 rfl) (wd hw 27 rfl) (wd hw 2 rfl) (wd hw 29 rfl) (by decide) pd_2 rfl rfl rfl (by decide) (by decide) (ce' := 3) (sl' := 113) rfl rfl (by decide) (by decide) at_79 (pc' := 82) rfl rfl ?_
          intro h_61 q_62
          obtain ⟨E_63, F_64, F_65, F_66, F_67, F_68, F_69, t_70, g_71, F_72, E_73, u_74, u_75, u_76, F_77, F_78, F_79⟩ := q_62
          have n_80 : a_6 ≠ t_70 := ne_exa E_63 E_73 (by decide)
          refine go_iload C at_82 (pc' := 84) rfl rfl ?_
          refine go_staticP C (as := [.int (0 : Int32)]) (rest := []) (W := 0) (.long (0 : Int64)) (sat_one0 l Z a0 hw _ _) (wd hw 50 rfl) (wd hw 51 rfl) (wd hw 52 rfl) (wd hw 53 rfl) (by decide) pd_5 rfl rfl rfl (by decide) (by decide) rfl rfl (by decide) (by decide) at_84 (pc' := 87) rfl rfl ?_
          refine go_iload C at_87 (pc' := 89) rfl rfl ?_
          refine go_staticP C (as := [.int (0 : Int32)]) (rest := [.long (0 : Int64)]) (W := 2) (.long (0 : Int64)) (sat_one0 l Z a0 hw _ _) (wd hw 50 rfl) (wd hw 51 rfl) (wd hw 52 rfl) (wd hw 53 rfl) (by decide) pd_5 rfl rfl rfl (by decide) (by decide) rfl rfl (by decide) (by decide) at_89 (pc' := 92) rfl rfl ?_
          refine go_ladd C at_92 (pc' := 93) rfl ?_
          rw [(by decide : (0 : Int64) + (0 : Int64) = (0 : Int64))]
          refine go_lstore C (Ls' := #[.val (.int x0), .val (.long x1), .second, .val (.int x2), .val (.long x3), .second, .val (.int (0 : Int32)), .val (.int (0 : Int32)), .val (.int (0 : Int32)), .val (.int (0 : Int32)), .val (.ref a_6), .val (.long (0 : Int64)), .second, .unset, .unset]) at_93 (pc' := 95) rfl rfl ?_
          refine go_iload C at_95 (pc' := 97) rfl rfl ?_
          refine go_staticP C (as := [.int (0 : Int32)]) (rest := []) (W := 0) (.long (0 : Int64)) (sat_one0 l Z a0 hw _ _) (wd hw 50 rfl) (wd hw 51 rfl) (wd hw 52 rfl) (wd hw 53 rfl) (by decide) pd_5 rfl rfl rfl (by decide) (by decide) rfl rfl (by decide) (by decide) at_97 (pc' := 100) rfl rfl ?_
          refine go_iload C at_100 (pc' := 102) rfl rfl ?_
          refine go_staticP C (as := [.int (0 : Int32)]) (rest := [.long (0 : Int64)]) (W := 2) (.long (0 : Int64)) (sat_one0 l Z a0 hw _ _) (wd hw 50 rfl) (wd hw 51 rfl) (wd hw 52 rfl) (wd hw 53 rfl) (by decide) pd_5 rfl rfl rfl (by decide) (by decide) rfl rfl (by decide) (by decide) at_102 (pc' := 105) rfl rfl ?_
          refine go_ladd C at_105 (pc' := 106) rfl ?_
          rw [(by decide : (0 : Int64) + (0 : Int64) = (0 : Int64))]
          refine go_lstore C (Ls' := #[.val (.int x0), .val (.long x1), .second, .val (.int x2), .val (.long x3), .second, .val (.int (0 : Int32)), .val (.int (0 : Int32)), .val (.int (0 : Int32)), .val (.int (0 : Int32)), .val (.ref a_6), .val (.long (0 : Int64)), .second, .val (.long (0 : Int64)), .second]) at_106 (pc' := 108) rfl rfl ?_
          refine go_aload C at_108 (pc' := 110) rfl rfl rfl ?_
          refine go_virtualP C (as := []) (rest := []) (W := 0) (.long (0 : Int64)) (sat_completedCount l Z a0 hw a_6 _ _ _ F_64) E_63 (wd hw 54 rfl) (wd hw 55 rfl) (wd hw 57 rfl) (wd hw 56 rfl) (wd hw 2 rfl) (wd hw 58 rfl) (by decide) pd_6 rfl rfl rfl (by decide) (by decide) rfl rfl (by decide) (by decide) at_110 (pc' := 113) rfl rfl ?_
          refine go_lload C at_113 (pc' := 115) rfl rfl ?_
          refine go_lcmp C (0 : Int) (0 : Int) (by decide) (by decide) at_115 (pc1 := 116) rfl at_116 (by decide) (pc' := 172) (by decide) (pcN := 119) rfl (fun (c_81 : ¬ (0 : Int) = (0 : Int)) => by omega) (fun (c_81 : (0 : Int) = (0 : Int)) => ?_)
          refine go_aload C at_119 (pc' := 121) rfl rfl rfl ?_
          refine go_virtualP C (as := []) (rest := []) (W := 0) (.long (0 : Int64)) (sat_failedCount l Z a0 hw a_6 _ _ _ F_65) E_63 (wd hw 59 rfl) (wd hw 60 rfl) (wd hw 62 rfl) (wd hw 61 rfl) (wd hw 2 rfl) (wd hw 63 rfl) (by decide) pd_6 rfl rfl rfl (by decide) (by decide) rfl rfl (by decide) (by decide) at_121 (pc' := 124) rfl rfl ?_
          refine go_lload C at_124 (pc' := 126) rfl rfl ?_
          refine go_lcmp C (0 : Int) (0 : Int) (by decide) (by decide) at_126 (pc1 := 127) rfl at_127 (by decide) (pc' := 172) (by decide) (pcN := 130) rfl (fun (c_82 : ¬ (0 : Int) = (0 : Int)) => by omega) (fun (c_82 : (0 : Int) = (0 : Int)) => ?_)
          refine go_aload C at_130 (pc' := 132) rfl rfl rfl ?_
          refine go_virtualP C (as := []) (rest := []) (W := 0) (.long (0 : Int64)) (sat_submittedCount l Z a0 hw a_6 _ _ _ F_66) E_63 (wd hw 66 rfl) (wd hw 67 rfl) (wd hw 69 rfl) (wd hw 68 rfl) (wd hw 2 rfl) (wd hw 70 rfl) (by decide) pd_6 rfl rfl rfl (by decide) (by decide) rfl rfl (by decide) (by decide) at_132 (pc' := 135) rfl rfl ?_
          refine go_lconst C (0 : Int64) at_135 (pc' := 136) rfl (by decide) ?_
          refine go_lcmp C (0 : Int) (0 : Int) (by decide) (by decide) at_136 (pc1 := 137) rfl at_137 (by decide) (pc' := 172) (by decide) (pcN := 140) rfl (fun (c_83 : ¬ (0 : Int) = (0 : Int)) => by omega) (fun (c_83 : (0 : Int) = (0 : Int)) => ?_)
          refine go_aload C at_140 (pc' := 142) rfl rfl rfl ?_
          refine go_virtualP C (as := []) (rest := []) (W := 0) (.long (0 : Int64)) (sat_rejectedCount l Z a0 hw a_6 _ _ _ F_67) E_63 (wd hw 73 rfl) (wd hw 74 rfl) (wd hw 76 rfl) (wd hw 75 rfl) (wd hw 2 rfl) (wd hw 77 rfl) (by decide) pd_6 rfl rfl rfl (by decide) (by decide) rfl rfl (by decide) (by decide) at_142 (pc' := 145) rfl rfl ?_
          refine go_lconst C (0 : Int64) at_145 (pc' := 146) rfl (by decide) ?_
          refine go_lcmp C (0 : Int) (0 : Int) (by decide) (by decide) at_146 (pc1 := 147) rfl at_147 (by decide) (pc' := 172) (by decide) (pcN := 150) rfl (fun (c_84 : ¬ (0 : Int) = (0 : Int)) => by omega) (fun (c_84 : (0 : Int) = (0 : Int)) => ?_)
          refine go_aload C at_150 (pc' := 152) rfl rfl rfl ?_
          refine go_virtualP C (as := []) (rest := []) (W := 0) (.long (0 : Int64)) (sat_rejectedAtShutdownCount l Z a0 hw a_6 _ _ _ F_68) E_63 (wd hw 80 rfl) (wd hw 81 rfl) (wd hw 83 rfl) (wd hw 82 rfl) (wd hw 2 rfl) (wd hw 84 rfl) (by decide) pd_6 rfl rfl rfl (by decide) (by decide) rfl rfl (by decide) (by decide) at_152 (pc' := 155) rfl rfl ?_
          refine go_lconst C (0 : Int64) at_155 (pc' := 156) rfl (by decide) ?_
          refine go_lcmp C (0 : Int) (0 : Int) (by decide) (by decide) at_156 (pc1 := 157) rfl at_157 (by decide) (pc' := 172) (by decide) (pcN := 160) rfl (fun (c_85 : ¬ (0 : Int) = (0 : Int)) => by omega) (fun (c_85 : (0 : Int) = (0 : Int)) => ?_)
          refine go_aload C at_160 (pc' := 162) rfl rfl rfl ?_
          refine go_virtualP C (as := []) (rest := []) (W := 0) (.int (0 : Int32)) (sat_largestPoolSize l Z a0 hw a_6 _ _ _ F_69) E_63 (wd hw 87 rfl) (wd hw 88 rfl) (wd hw 90 rfl) (wd hw 89 rfl) (wd hw 2 rfl) (wd hw 91 rfl) (by decide) pd_7 rfl rfl rfl (by decide) (by decide) rfl rfl (by decide) (by decide) at_162 (pc' := 165) rfl rfl ?_
          refine go_if0 C (0 : Int) (by decide) at_165 (by decide) (pc' := 172) (by decide) (pcN := 168) rfl (fun (c_86 : ¬ (0 : Int) = 0) => by omega) (fun (c_86 : (0 : Int) = 0) => ?_)
          refine go_iconst C (1 : Int32) at_168 (pc' := 169) rfl (by decide) ?_
          refine go_goto C at_169 (by decide) (pc' := 173) (by decide) ?_
          refine go_ireturnN C (z' := (1 : Int32)) rfl (by simp) rfl at_173 (by decide) (by decide) ?_
          exact ⟨_, rfl, rfl⟩
        · skip
          refine go_iconst C (1 : Int32) at_45 (pc' := 46) rfl (by decide) ?_
          refine go_goto C at_46 (by decide) (pc' := 50) (by decide) ?_
          refine go_istore C (Ls' := #[.val (.int x0), .val (.long x1), .second, .val (.int x2), .val (.long x3), .second, .val (.int (0 : Int32)), .val (.int (0 : Int32)), .val (.int (0 : Int32)), .val (.int (1 : Int32)), .unset, .unset, .unset, .unset, .unset]) at_50 (pc' := 52) rfl rfl ?_
          refine go_new C (wd hw 0 rfl) (wd hw 1 rfl) (wd hw 2 rfl) at_52 (pc' := 55) rfl (ce' := 1) (sl' := 41) rfl rfl (by decide) (by decide) ?_
          intro h_87 a_88 g_89 E_90 E_91 D_92
          have g_93 : Z.heap.size ≤ a_88 := own_ge (Nat.le_refl _) g_89
          have z_94 : Z.heap.size ≤ h_87.size := Nat.le_trans (Nat.le_refl _) E_90.1
          have F_95 : Fld Z h_87 a_88 "com/example/pufferfish/pufferfish/pool/PoolTally" "queueWait" "Lcom/example/pufferfish/pufferfish/pool/PoolTally$TimeSum;" (.null) := D_92 (Or.inr (wd hw 22 rfl)) (ty := (.object "com/example/pufferfish/pufferfish/pool/PoolTally$TimeSum")) (by decide)
          have F_96 : Fld Z h_87 a_88 "com/example/pufferfish/pufferfish/pool/PoolTally" "runTime" "Lcom/example/pufferfish/pufferfish/pool/PoolTally$TimeSum;" (.null) := D_92 (Or.inr (wd hw 24 rfl)) (ty := (.object "com/example/pufferfish/pufferfish/pool/PoolTally$TimeSum")) (by decide)
          have F_97 : Fld Z h_87 a_88 "com/example/pufferfish/pufferfish/pool/PoolTally" "completedCount" "J" (.long (0 : Int64)) := D_92 (Or.inl (wd hw 31 rfl)) (ty := .long) (by decide)
          have F_98 : Fld Z h_87 a_88 "com/example/pufferfish/pufferfish/pool/PoolTally" "failedCount" "J" (.long (0 : Int64)) := D_92 (Or.inl (wd hw 65 rfl)) (ty := .long) (by decide)
          have F_99 : Fld Z h_87 a_88 "com/example/pufferfish/pufferfish/pool/PoolTally" "submittedCount" "J" (.long (0 : Int64)) := D_92 (Or.inl (wd hw 72 rfl)) (ty := .long) (by decide)
          have F_100 : Fld Z h_87 a_88 "com/example/pufferfish/pufferfish/pool/PoolTally" "rejectedCount" "J" (.long (0 : Int64)) := D_92 (Or.inl (wd hw 79 rfl)) (ty := .long) (by decide)
          have F_101 : Fld Z h_87 a_88 "com/example/pufferfish/pufferfish/pool/PoolTally" "rejectedAtShutdownCount" "J" (.long (0 : Int64)) := D_92 (Or.inl (wd hw 86 rfl)) (ty := .long) (by decide)
          have F_102 : Fld Z h_87 a_88 "com/example/pufferfish/pufferfish/pool/PoolTally" "largestPoolSize" "I" (.int (0 : Int32)) := D_92 (Or.inl (wd hw 93 rfl)) (ty := .int) (by decide)
          refine go_dup C at_55 (pc' := 56) rfl rfl ?_
          refine go_specialN C (as := []) (rest := [.ref a_88]) (W := 1) (sat_pt l Z a0 hw a_88 _ _ E_91 F_95 F_96 F_97 F_98 F_99 F_100 F_101 F_102 g_93 z_94) rfl (wd hw 3 rfl) (wd hw 4 rfl) (wd hw 2 rfl) (wd hw 5 rfl) (by decide) pd_1 rfl rfl rfl (by decide) (by decide) (ce' := 3) (sl' := 113) rfl rfl (by decide) (by decide) at_56 (pc' := 59) rfl rfl ?_
          intro h_103 q_104
          obtain ⟨E_105, F_106, F_107, F_108, F_109, F_110, F_111, t_112, g_113, F_114, E_115, u_116, u_117, u_118, F_119, F_120, F_121⟩ := q_104
          have n_122 : a_88 ≠ t_112 := ne_exa E_105 E_115 (by decide)
          refine go_astore C (Ls' := #[.val (.int x0), .val (.long x1), .second, .val (.int x2), .val (.long x3), .second, .val (.int (0 : Int32)), .val (.int (0 : Int32)), .val (.int (0 : Int32)), .val (.int (1 : Int32)), .val (.ref a_88), .unset, .unset, .unset, .unset]) at_59 (pc' := 61) rfl rfl rfl ?_
          refine go_aload C at_61 (pc' := 63) rfl rfl rfl ?_
          refine go_iload C at_63 (pc' := 65) rfl rfl ?_
          refine go_iload C at_65 (pc' := 67) rfl rfl ?_
          refine go_lloadN C at_67 (pc' := 68) rfl rfl ?_
          refine go_virtualN C (as := [.int (0 : Int32), .int (0 : Int32), .long x1]) (rest := []) (W := 0) (sat_te00 l Z a0 hw a_88 (0 : Int64) (0 : Int64) (0 : Int64) (0 : Int64) (0 : Int64) (0 : Int32) x1 _ _ ⟨E_105, F_106, F_107, F_108, F_109, F_110, F_111, t_112, g_113, F_114, E_115, _, _, _, F_119, F_120, F_121⟩ g_93) E_105 (wd hw 25 rfl) (wd hw 26 rfl) (wd hw 28 rfl) (wd hw 27 rfl) (wd hw 2 rfl) (wd hw 29 rfl) (by decide) pd_2 rfl rfl rfl (by decide) (by decide) (ce' := 3) (sl' := 113) rfl rfl (by decide) (by decide) at_68 (pc' := 71) rfl rfl ?_
          intro h_123 q_124
          obtain ⟨E_125, F_126, F_127, F_128, F_129, F_130, F_131, t_132, g_133, F_134, E_135, u_136, u_137, u_138, F_139, F_140, F_141⟩ := q_124
          have n_142 : a_88 ≠ t_132 := ne_exa E_125 E_135 (by decide)
          refine go_aload C at_71 (pc' := 73) rfl rfl rfl ?_
          refine go_iload C at_73 (pc' := 75) rfl rfl ?_
          refine go_iload C at_75 (pc' := 77) rfl rfl ?_
          refine go_lload C at_77 (pc' := 79) rfl rfl ?_
          refine go_virtualN C (as := [.int (0 : Int32), .int (1 : Int32), .long x3]) (rest := []) (W := 0) (sat_te01 l Z a0 hw a_88 (0 : Int64) (0 : Int64) (0 : Int64) (0 : Int64) (0 : Int64) (0 : Int32) x3 _ _ ⟨E_125, F_126, F_127, F_128, F_129, F_130, F_131, t_132, g_133, F_134, E_135, _, _, _, F_139, F_140, F_141⟩ g_93) E_125 (wd hw 25 rfl) (wd hw 26 rfl) (wd hw 28 rfl) (wd hw 27 rfl) (wd hw 2 rfl) (wd hw 29 rfl) (by decide) pd_2 rfl rfl rfl (by decide) (by decide) (ce' := 3) (sl' := 113) rfl rfl (by decide) (by decide) at_79 (pc' := 82) rfl rfl ?_
          intro h_143 q_144
          rw [(by decide : (0 : Int64) + (1 : Int64) = (1 : Int64))] at q_144
          obtain ⟨E_145, F_146, F_147, F_148, F_149, F_150, F_151, t_152, g_153, F_154, E_155, u_156, u_157, u_158, F_159, F_160, F_161⟩ := q_144
          have n_162 : a_88 ≠ t_152 := ne_exa E_145 E_155 (by decide)
          refine go_iload C at_82 (pc' := 84) rfl rfl ?_
          refine go_staticP C (as := [.int (0 : Int32)]) (rest := []) (W := 0) (.long (0 : Int64)) (sat_one0 l Z a0 hw _ _) (wd hw 50 rfl) (wd hw 51 rfl) (wd hw 52 rfl) (wd hw 53 rfl) (by decide) pd_5 rfl rfl rfl (by decide) (by decide) rfl rfl (by decide) (by decide) at_84 (pc' := 87) rfl rfl ?_
          refine go_iload C at_87 (pc' := 89) rfl rfl ?_
          refine go_staticP C (as := [.int (0 : Int32)]) (rest := [.long (0 : Int64)]) (W := 2) (.long (0 : Int64)) (sat_one0 l Z a0 hw _ _) (wd hw 50 rfl) (wd hw 51 rfl) (wd hw 52 rfl) (wd hw 53 rfl) (by decide) pd_5 rfl rfl rfl (by decide) (by decide) rfl rfl (by decide) (by decide) at_89 (pc' := 92) rfl rfl ?_
          refine go_ladd C at_92 (pc' := 93) rfl ?_
          rw [(by decide : (0 : Int64) + (0 : Int64) = (0 : Int64))]
          refine go_lstore C (Ls' := #[.val (.int x0), .val (.long x1), .second, .val (.int x2), .val (.long x3), .second, .val (.int (0 : Int32)), .val (.int (0 : Int32)), .val (.int (0 : Int32)), .val (.int (1 : Int32)), .val (.ref a_88), .val (.long (0 : Int64)), .second, .unset, .unset]) at_93 (pc' := 95) rfl rfl ?_
          refine go_iload C at_95 (pc' := 97) rfl rfl ?_
          refine go_staticP C (as := [.int (0 : Int32)]) (rest := []) (W := 0) (.long (0 : Int64)) (sat_one0 l Z a0 hw _ _) (wd hw 50 rfl) (wd hw 51 rfl) (wd hw 52 rfl) (wd hw 53 rfl) (by decide) pd_5 rfl rfl rfl (by decide) (by decide) rfl rfl (by decide) (by decide) at_97 (pc' := 100) rfl rfl ?_
          refine go_iload C at_100 (pc' := 102) rfl rfl ?_
          refine go_staticP C (as := [.int (1 : Int32)]) (rest := [.long (0 : Int64)]) (W := 2) (.long (1 : Int64)) (sat_one1 l Z a0 hw _ _) (wd hw 50 rfl) (wd hw 51 rfl) (wd hw 52 rfl) (wd hw 53 rfl) (by decide) pd_5 rfl rfl rfl (by decide) (by decide) rfl rfl (by decide) (by decide) at_102 (pc' := 105) rfl rfl ?_
          refine go_ladd C at_105 (pc' := 106) rfl ?_
          rw [(by decide : (0 : Int64) + (1 : Int64) = (1 : Int64))]
          refine go_lstore C (Ls' := #[.val (.int x0), .val (.long x1), .second, .val (.int x2), .val (.long x3), .second, .val (.int (0 : Int32)), .val (.int (0 : Int32)), .val (.int (0 : Int32)), .val (.int (1 : Int32)), .val (.ref a_88), .val (.long (0 : Int64)), .second, .val (.long (1 : Int64)), .second]) at_106 (pc' := 108) rfl rfl ?_
          refine go_aload C at_108 (pc' := 110) rfl rfl rfl ?_
          refine go_virtualP C (as := []) (rest := []) (W := 0) (.long (0 : Int64)) (sat_completedCount l Z a0 hw a_88 _ _ _ F_146) E_145 (wd hw 54 rfl) (wd hw 55 rfl) (wd hw 57 rfl) (wd hw 56 rfl) (wd hw 2 rfl) (wd hw 58 rfl) (by decide) pd_6 rfl rfl rfl (by decide) (by decide) rfl rfl (by decide) (by decide) at_110 (pc' := 113) rfl rfl ?_
          refine go_lload C at_113 (pc' := 115) rfl rfl ?_
          refine go_lcmp C (0 : Int) (0 : Int) (by decide) (by decide) at_115 (pc1 := 116) rfl at_116 (by decide) (pc' := 172) (by decide) (pcN := 119) rfl (fun (c_163 : ¬ (0 : Int) = (0 : Int)) => by omega) (fun (c_163 : (0 : Int) = (0 : Int)) => ?_)
          refine go_aload C at_119 (pc' := 121) rfl rfl rfl ?_
          refine go_virtualP C (as := []) (rest := []) (W := 0) (.long (1 : Int64)) (sat_failedCount l Z a0 hw a_88 _ _ _ F_147) E_145 (wd hw 59 rfl) (wd hw 60 rfl) (wd hw 62 rfl) (wd hw 61 rfl) (wd hw 2 rfl) (wd hw 63 rfl) (by decide) pd_6 rfl rfl rfl (by decide) (by decide) rfl rfl (by decide) (by decide) at_121 (pc' := 124) rfl rfl ?_
          refine go_lload C at_124 (pc' := 126) rfl rfl ?_
          refine go_lcmp C (1 : Int) (1 : Int) (by decide) (by decide) at_126 (pc1 := 127) rfl at_127 (by decide) (pc' := 172) (by decide) (pcN := 130) rfl (fun (c_164 : ¬ (1 : Int) = (1 : Int)) => by omega) (fun (c_164 : (1 : Int) = (1 : Int)) => ?_)
          refine go_aload C at_130 (pc' := 132) rfl rfl rfl ?_
          refine go_virtualP C (as := []) (rest := []) (W := 0) (.long (0 : Int64)) (sat_submittedCount l Z a0 hw a_88 _ _ _ F_148) E_145 (wd hw 66 rfl) (wd hw 67 rfl) (wd hw 69 rfl) (wd hw 68 rfl) (wd hw 2 rfl) (wd hw 70 rfl) (by decide) pd_6 rfl rfl rfl (by decide) (by decide) rfl rfl (by decide) (by decide) at_132 (pc' := 135) rfl rfl ?_
          refine go_lconst C (0 : Int64) at_135 (pc' := 136) rfl (by decide) ?_
          refine go_lcmp C (0 : Int) (0 : Int) (by decide) (by decide) at_136 (pc1 := 137) rfl at_137 (by decide) (pc' := 172) (by decide) (pcN := 140) rfl (fun (c_165 : ¬ (0 : Int) = (0 : Int)) => by omega) (fun (c_165 : (0 : Int) = (0 : Int)) => ?_)
          refine go_aload C at_140 (pc' := 142) rfl rfl rfl ?_
          refine go_virtualP C (as := []) (rest := []) (W := 0) (.long (0 : Int64)) (sat_rejectedCount l Z a0 hw a_88 _ _ _ F_149) E_145 (wd hw 73 rfl) (wd hw 74 rfl) (wd hw 76 rfl) (wd hw 75 rfl) (wd hw 2 rfl) (wd hw 77 rfl) (by decide) pd_6 rfl rfl rfl (by decide) (by decide) rfl rfl (by decide) (by decide) at_142 (pc' := 145) rfl rfl ?_
          refine go_lconst C (0 : Int64) at_145 (pc' := 146) rfl (by decide) ?_
          refine go_lcmp C (0 : Int) (0 : Int) (by decide) (by decide) at_146 (pc1 := 147) rfl at_147 (by decide) (pc' := 172) (by decide) (pcN := 150) rfl (fun (c_166 : ¬ (0 : Int) = (0 : Int)) => by omega) (fun (c_166 : (0 : Int) = (0 : Int)) => ?_)
          refine go_aload C at_150 (pc' := 152) rfl rfl rfl ?_
          refine go_virtualP C (as := []) (rest := []) (W := 0) (.long (0 : Int64)) (sat_rejectedAtShutdownCount l Z a0 hw a_88 _ _ _ F_150) E_145 (wd hw 80 rfl) (wd hw 81 rfl) (wd hw 83 rfl) (wd hw 82 rfl) (wd hw 2 rfl) (wd hw 84 rfl) (by decide) pd_6 rfl rfl rfl (by decide) (by decide) rfl rfl (by decide) (by decide) at_152 (pc' := 155) rfl rfl ?_
          refine go_lconst C (0 : Int64) at_155 (pc' := 156) rfl (by decide) ?_
          refine go_lcmp C (0 : Int) (0 : Int) (by decide) (by decide) at_156 (pc1 := 157) rfl at_157 (by decide) (pc' := 172) (by decide) (pcN := 160) rfl (fun (c_167 : ¬ (0 : Int) = (0 : Int)) => by omega) (fun (c_167 : (0 : Int) = (0 : Int)) => ?_)
          refine go_aload C at_160 (pc' := 162) rfl rfl rfl ?_
          refine go_virtualP C (as := []) (rest := []) (W := 0) (.int (0 : Int32)) (sat_largestPoolSize l Z a0 hw a_88 _ _ _ F_151) E_145 (wd hw 87 rfl) (wd hw 88 rfl) (wd hw 90 rfl) (wd hw 89 rfl) (wd hw 2 rfl) (wd hw 91 rfl) (by decide) pd_7 rfl rfl rfl (by decide) (by decide) rfl rfl (by decide) (by decide) at_162 (pc' := 165) rfl rfl ?_
          refine go_if0 C (0 : Int) (by decide) at_165 (by decide) (pc' := 172) (by decide) (pcN := 168) rfl (fun (c_168 : ¬ (0 : Int) = 0) => by omega) (fun (c_168 : (0 : Int) = 0) => ?_)
          refine go_iconst C (1 : Int32) at_168 (pc' := 169) rfl (by decide) ?_
          refine go_goto C at_169 (by decide) (pc' := 173) (by decide) ?_
          refine go_ireturnN C (z' := (1 : Int32)) rfl (by simp) rfl at_173 (by decide) (by decide) ?_
          exact ⟨_, rfl, rfl⟩
      · skip
        refine go_iconst C (1 : Int32) at_32 (pc' := 33) rfl (by decide) ?_
        refine go_goto C at_33 (by decide) (pc' := 37) (by decide) ?_
        refine go_istore C (Ls' := #[.val (.int x0), .val (.long x1), .second, .val (.int x2), .val (.long x3), .second, .val (.int (0 : Int32)), .val (.int (0 : Int32)), .val (.int (1 : Int32)), .unset, .unset, .unset, .unset, .unset, .unset]) at_37 (pc' := 39) rfl rfl ?_
        refine go_iloadN C at_39 (pc' := 40) rfl rfl ?_
        refine go_iconst C (2 : Int32) at_40 (pc' := 41) rfl (by decide) ?_
        refine go_iand C at_41 (pc' := 42) rfl ?_
        refine go_if0 C ((x2 &&& (2 : Int32)).toInt) rfl at_42 (by decide) (pc' := 49) (by decide) (pcN := 45) rfl (fun (c_169 : ((x2 &&& (2 : Int32)).toInt) = 0) => ?_) (fun (c_169 : ¬ ((x2 &&& (2 : Int32)).toInt) = 0) => ?_)
        · skip
          refine go_iconst C (0 : Int32) at_49 (pc' := 50) rfl (by decide) ?_
          refine go_istore C (Ls' := #[.val (.int x0), .val (.long x1), .second, .val (.int x2), .val (.long x3), .second, .val (.int (0 : Int32)), .val (.int (0 : Int32)), .val (.int (1 : Int32)), .val (.int (0 : Int32)), .unset, .unset, .unset, .unset, .unset]) at_50 (pc' := 52) rfl rfl ?_
          refine go_new C (wd hw 0 rfl) (wd hw 1 rfl) (wd hw 2 rfl) at_52 (pc' := 55) rfl (ce' := 1) (sl' := 41) rfl rfl (by decide) (by decide) ?_
          intro h_170 a_171 g_172 E_173 E_174 D_175
          have g_176 : Z.heap.size ≤ a_171 := own_ge (Nat.le_refl _) g_172
          have z_177 : Z.heap.size ≤ h_170.size := Nat.le_trans (Nat.le_refl _) E_173.1
          have F_178 : Fld Z h_170 a_171 "com/example/pufferfish/pufferfish/pool/PoolTally" "queueWait" "Lcom/example/pufferfish/pufferfish/pool/PoolTally$TimeSum;" (.null) := D_175 (Or.inr (wd hw 22 rfl)) (ty := (.object "com/example/pufferfish/pufferfish/pool/PoolTally$TimeSum")) (by decide)
          have F_179 : Fld Z h_170 a_171 "com/example/pufferfish/pufferfish/pool/PoolTally" "runTime" "Lcom/example/pufferfish/pufferfish/pool/PoolTally$TimeSum;" (.null) := D_175 (Or.inr (wd hw 24 rfl)) (ty := (.object "com/example/pufferfish/pufferfish/pool/PoolTally$TimeSum")) (by decide)
          have F_180 : Fld Z h_170 a_171 "com/example/pufferfish/pufferfish/pool/PoolTally" "completedCount" "J" (.long (0 : Int64)) := D_175 (Or.inl (wd hw 31 rfl)) (ty := .long) (by decide)
          have F_181 : Fld Z h_170 a_171 "com/example/pufferfish/pufferfish/pool/PoolTally" "failedCount" "J" (.long (0 : Int64)) := D_175 (Or.inl (wd hw 65 rfl)) (ty := .long) (by decide)
          have F_182 : Fld Z h_170 a_171 "com/example/pufferfish/pufferfish/pool/PoolTally" "submittedCount" "J" (.long (0 : Int64)) := D_175 (Or.inl (wd hw 72 rfl)) (ty := .long) (by decide)
          have F_183 : Fld Z h_170 a_171 "com/example/pufferfish/pufferfish/pool/PoolTally" "rejectedCount" "J" (.long (0 : Int64)) := D_175 (Or.inl (wd hw 79 rfl)) (ty := .long) (by decide)
          have F_184 : Fld Z h_170 a_171 "com/example/pufferfish/pufferfish/pool/PoolTally" "rejectedAtShutdownCount" "J" (.long (0 : Int64)) := D_175 (Or.inl (wd hw 86 rfl)) (ty := .long) (by decide)
          have F_185 : Fld Z h_170 a_171 "com/example/pufferfish/pufferfish/pool/PoolTally" "largestPoolSize" "I" (.int (0 : Int32)) := D_175 (Or.inl (wd hw 93 rfl)) (ty := .int) (by decide)
          refine go_dup C at_55 (pc' := 56) rfl rfl ?_
          refine go_specialN C (as := []) (rest := [.ref a_171]) (W := 1) (sat_pt l Z a0 hw a_171 _ _ E_174 F_178 F_179 F_180 F_181 F_182 F_183 F_184 F_185 g_176 z_177) rfl (wd hw 3 rfl) (wd hw 4 rfl) (wd hw 2 rfl) (wd hw 5 rfl) (by decide) pd_1 rfl rfl rfl (by decide) (by decide) (ce' := 3) (sl' := 113) rfl rfl (by decide) (by decide) at_56 (pc' := 59) rfl rfl ?_
          intro h_186 q_187
          obtain ⟨E_188, F_189, F_190, F_191, F_192, F_193, F_194, t_195, g_196, F_197, E_198, u_199, u_200, u_201, F_202, F_203, F_204⟩ := q_187
          have n_205 : a_171 ≠ t_195 := ne_exa E_188 E_198 (by decide)
          refine go_astore C (Ls' := #[.val (.int x0), .val (.long x1), .second, .val (.int x2), .val (.long x3), .second, .val (.int (0 : Int32)), .val (.int (0 : Int32)), .val (.int (1 : Int32)), .val (.int (0 : Int32)), .val (.ref a_171), .unset, .unset, .unset, .unset]) at_59 (pc' := 61) rfl rfl rfl ?_
          refine go_aload C at_61 (pc' := 63) rfl rfl rfl ?_
          refine go_iload C at_63 (pc' := 65) rfl rfl ?_
          refine go_iload C at_65 (pc' := 67) rfl rfl ?_
          refine go_lloadN C at_67 (pc' := 68) rfl rfl ?_
          refine go_virtualN C (as := [.int (0 : Int32), .int (0 : Int32), .long x1]) (rest := []) (W := 0) (sat_te00 l Z a0 hw a_171 (0 : Int64) (0 : Int64) (0 : Int64) (0 : Int64) (0 : Int64) (0 : Int32) x1 _ _ ⟨E_188, F_189, F_190, F_191, F_192, F_193, F_194, t_195, g_196, F_197, E_198, _, _, _, F_202, F_203, F_204⟩ g_176) E_188 (wd hw 25 rfl) (wd hw 26 rfl) (wd hw 28 rfl) (wd hw 27 rfl) (wd hw 2 rfl) (wd hw 29 rfl) (by decide) pd_2 rfl rfl rfl (by decide) (by decide) (ce' := 3) (sl' := 113) rfl rfl (by decide) (by decide) at_68 (pc' := 71) rfl rfl ?_
          intro h_206 q_207
          obtain ⟨E_208, F_209, F_210, F_211, F_212, F_213, F_214, t_215, g_216, F_217, E_218, u_219, u_220, u_221, F_222, F_223, F_224⟩ := q_207
          have n_225 : a_171 ≠ t_215 := ne_exa E_208 E_218 (by decide)
          refine go_aload C at_71 (pc' := 73) rfl rfl rfl ?_
          refine go_iload C at_73 (pc' := 75) rfl rfl ?_
          refine go_iload C at_75 (pc' := 77) rfl rfl ?_
          refine go_lload C at_77 (pc' := 79) rfl rfl ?_
          refine go_virtualN C (as := [.int (1 : Int32), .int (0 : Int32), .long x3]) (rest := []) (W := 0) (sat_te10 l Z a0 hw a_171 (0 : Int64) (0 : Int64) (0 : Int64) (0 : Int64) (0 : Int64) (0 : Int32) x3 _ _ ⟨E_208, F_209, F_210, F_211, F_212, F_213, F_214, t_215, g_216, F_217, E_218, _, _, _, F_222, F_223, F_224⟩ g_176) E_208 (wd hw 25 rfl) (wd hw 26 rfl) (wd hw 28 rfl) (wd hw 27 rfl) (wd hw 2 rfl) (wd hw 29 rfl) (by decide) pd_2 rfl rfl rfl (by decide) (by decide) (ce' := 3) (sl' := 113) rfl rfl (by decide) (by decide) at_79 (pc' := 82) rfl rfl ?_
          intro h_226 q_227
          rw [(by decide : (0 : Int64) + (1 : Int64) = (1 : Int64))] at q_227
          obtain ⟨E_228, F_229, F_230, F_231, F_232, F_233, F_234, t_235, g_236, F_237, E_238, u_239, u_240, u_241, F_242, F_243, F_244⟩ := q_227
          have n_245 : a_171 ≠ t_235 := ne_exa E_228 E_238 (by decide)
          refine go_iload C at_82 (pc' := 84) rfl rfl ?_
          refine go_staticP C (as := [.int (0 : Int32)]) (rest := []) (W := 0) (.long (0 : Int64)) (sat_one0 l Z a0 hw _ _) (wd hw 50 rfl) (wd hw 51 rfl) (wd hw 52 rfl) (wd hw 53 rfl) (by decide) pd_5 rfl rfl rfl (by decide) (by decide) rfl rfl (by decide) (by decide) at_84 (pc' := 87) rfl rfl ?_
          refine go_iload C at_87 (pc' := 89) rfl rfl ?_
          refine go_staticP C (as := [.int (1 : Int32)]) (rest := [.long (0 : Int64)]) (W := 2) (.long (1 : Int64)) (sat_one1 l Z a0 hw _ _) (wd hw 50 rfl) (wd hw 51 rfl) (wd hw 52 rfl) (wd hw 53 rfl) (by decide) pd_5 rfl rfl rfl (by decide) (by decide) rfl rfl (by decide) (by decide) at_89 (pc' := 92) rfl rfl ?_
          refine go_ladd C at_92 (pc' := 93) rfl ?_
          rw [(by decide : (0 : Int64) + (1 : Int64) = (1 : Int64))]
          refine go_lstore C (Ls' := #[.val (.int x0), .val (.long x1), .second, .val (.int x2), .val (.long x3), .second, .val (.int (0 : Int32)), .val (.int (0 : Int32)), .val (.int (1 : Int32)), .val (.int (0 : Int32)), .val (.ref a_171), .val (.long (1 : Int64)), .second, .unset, .unset]) at_93 (pc' := 95) rfl rfl ?_
          refine go_iload C at_95 (pc' := 97) rfl rfl ?_
          refine go_staticP C (as := [.int (0 : Int32)]) (rest := []) (W := 0) (.long (0 : Int64)) (sat_one0 l Z a0 hw _ _) (wd hw 50 rfl) (wd hw 51 rfl) (wd hw 52 rfl) (wd hw 53 rfl) (by decide) pd_5 rfl rfl rfl (by decide) (by decide) rfl rfl (by decide) (by decide) at_97 (pc' := 100) rfl rfl ?_
          refine go_iload C at_100 (pc' := 102) rfl rfl ?_
          refine go_staticP C (as := [.int (0 : Int32)]) (rest := [.long (0 : Int64)]) (W := 2) (.long (0 : Int64)) (sat_one0 l Z a0 hw _ _) (wd hw 50 rfl) (wd hw 51 rfl) (wd hw 52 rfl) (wd hw 53 rfl) (by decide) pd_5 rfl rfl rfl (by decide) (by decide) rfl rfl (by decide) (by decide) at_102 (pc' := 105) rfl rfl ?_
          refine go_ladd C at_105 (pc' := 106) rfl ?_
          rw [(by decide : (0 : Int64) + (0 : Int64) = (0 : Int64))]
          refine go_lstore C (Ls' := #[.val (.int x0), .val (.long x1), .second, .val (.int x2), .val (.long x3), .second, .val (.int (0 : Int32)), .val (.int (0 : Int32)), .val (.int (1 : Int32)), .val (.int (0 : Int32)), .val (.ref a_171), .val (.long (1 : Int64)), .second, .val (.long (0 : Int64)), .second]) at_106 (pc' := 108) rfl rfl ?_
          refine go_aload C at_108 (pc' := 110) rfl rfl rfl ?_
          refine go_virtualP C (as := []) (rest := []) (W := 0) (.long (1 : Int64)) (sat_completedCount l Z a0 hw a_171 _ _ _ F_229) E_228 (wd hw 54 rfl) (wd hw 55 rfl) (wd hw 57 rfl) (wd hw 56 rfl) (wd hw 2 rfl) (wd hw 58 rfl) (by decide) pd_6 rfl rfl rfl (by decide) (by decide) rfl rfl (by decide) (by decide) at_110 (pc' := 113) rfl rfl ?_
          refine go_lload C at_113 (pc' := 115) rfl rfl ?_
          refine go_lcmp C (1 : Int) (1 : Int) (by decide) (by decide) at_115 (pc1 := 116) rfl at_116 (by decide) (pc' := 172) (by decide) (pcN := 119) rfl (fun (c_246 : ¬ (1 : Int) = (1 : Int)) => by omega) (fun (c_246 : (1 : Int) = (1 : Int)) => ?_)
          refine go_aload C at_119 (pc' := 121) rfl rfl rfl ?_
          refine go_virtualP C (as := []) (rest := []) (W := 0) (.long (0 : Int64)) (sat_failedCount l Z a0 hw a_171 _ _ _ F_230) E_228 (wd hw 59 rfl) (wd hw 60 rfl) (wd hw 62 rfl) (wd hw 61 rfl) (wd hw 2 rfl) (wd hw 63 rfl) (by decide) pd_6 rfl rfl rfl (by decide) (by decide) rfl rfl (by decide) (by decide) at_121 (pc' := 124) rfl rfl ?_
          refine go_lload C at_124 (pc' := 126) rfl rfl ?_
          refine go_lcmp C (0 : Int) (0 : Int) (by decide) (by decide) at_126 (pc1 := 127) rfl at_127 (by decide) (pc' := 172) (by decide) (pcN := 130) rfl (fun (c_247 : ¬ (0 : Int) = (0 : Int)) => by omega) (fun (c_247 : (0 : Int) = (0 : Int)) => ?_)
          refine go_aload C at_130 (pc' := 132) rfl rfl rfl ?_
          refine go_virtualP C (as := []) (rest := []) (W := 0) (.long (0 : Int64)) (sat_submittedCount l Z a0 hw a_171 _ _ _ F_231) E_228 (wd hw 66 rfl) (wd hw 67 rfl) (wd hw 69 rfl) (wd hw 68 rfl) (wd hw 2 rfl) (wd hw 70 rfl) (by decide) pd_6 rfl rfl rfl (by decide) (by decide) rfl rfl (by decide) (by decide) at_132 (pc' := 135) rfl rfl ?_
          refine go_lconst C (0 : Int64) at_135 (pc' := 136) rfl (by decide) ?_
          refine go_lcmp C (0 : Int) (0 : Int) (by decide) (by decide) at_136 (pc1 := 137) rfl at_137 (by decide) (pc' := 172) (by decide) (pcN := 140) rfl (fun (c_248 : ¬ (0 : Int) = (0 : Int)) => by omega) (fun (c_248 : (0 : Int) = (0 : Int)) => ?_)
          refine go_aload C at_140 (pc' := 142) rfl rfl rfl ?_
          refine go_virtualP C (as := []) (rest := []) (W := 0) (.long (0 : Int64)) (sat_rejectedCount l Z a0 hw a_171 _ _ _ F_232) E_228 (wd hw 73 rfl) (wd hw 74 rfl) (wd hw 76 rfl) (wd hw 75 rfl) (wd hw 2 rfl) (wd hw 77 rfl) (by decide) pd_6 rfl rfl rfl (by decide) (by decide) rfl rfl (by decide) (by decide) at_142 (pc' := 145) rfl rfl ?_
          refine go_lconst C (0 : Int64) at_145 (pc' := 146) rfl (by decide) ?_
          refine go_lcmp C (0 : Int) (0 : Int) (by decide) (by decide) at_146 (pc1 := 147) rfl at_147 (by decide) (pc' := 172) (by decide) (pcN := 150) rfl (fun (c_249 : ¬ (0 : Int) = (0 : Int)) => by omega) (fun (c_249 : (0 : Int) = (0 : Int)) => ?_)
          refine go_aload C at_150 (pc' := 152) rfl rfl rfl ?_
          refine go_virtualP C (as := []) (rest := []) (W := 0) (.long (0 : Int64)) (sat_rejectedAtShutdownCount l Z a0 hw a_171 _ _ _ F_233) E_228 (wd hw 80 rfl) (wd hw 81 rfl) (wd hw 83 rfl) (wd hw 82 rfl) (wd hw 2 rfl) (wd hw 84 rfl) (by decide) pd_6 rfl rfl rfl (by decide) (by decide) rfl rfl (by decide) (by decide) at_152 (pc' := 155) rfl rfl ?_
          refine go_lconst C (0 : Int64) at_155 (pc' := 156) rfl (by decide) ?_
          refine go_lcmp C (0 : Int) (0 : Int) (by decide) (by decide) at_156 (pc1 := 157) rfl at_157 (by decide) (pc' := 172) (by decide) (pcN := 160) rfl (fun (c_250 : ¬ (0 : Int) = (0 : Int)) => by omega) (fun (c_250 : (0 : Int) = (0 : Int)) => ?_)
          refine go_aload C at_160 (pc' := 162) rfl rfl rfl ?_
          refine go_virtualP C (as := []) (rest := []) (W := 0) (.int (0 : Int32)) (sat_largestPoolSize l Z a0 hw a_171 _ _ _ F_234) E_228 (wd hw 87 rfl) (wd hw 88 rfl) (wd hw 90 rfl) (wd hw 89 rfl) (wd hw 2 rfl) (wd hw 91 rfl) (by decide) pd_7 rfl rfl rfl (by decide) (by decide) rfl rfl (by decide) (by decide) at_162 (pc' := 165) rfl rfl ?_
          refine go_if0 C (0 : Int) (by decide) at_165 (by decide) (pc' := 172) (by decide) (pcN := 168) rfl (fun (c_251 : ¬ (0 : Int) = 0) => by omega) (fun (c_251 : (0 : Int) = 0) => ?_)
          refine go_iconst C (1 : Int32) at_168 (pc' := 169) rfl (by decide) ?_
          refine go_goto C at_169 (by decide) (pc' := 173) (by decide) ?_
          refine go_ireturnN C (z' := (1 : Int32)) rfl (by simp) rfl at_173 (by decide) (by decide) ?_
          exact ⟨_, rfl, rfl⟩
        · skip
          refine go_iconst C (1 : Int32) at_45 (pc' := 46) rfl (by decide) ?_
          refine go_goto C at_46 (by decide) (pc' := 50) (by decide) ?_
          refine go_istore C (Ls' := #[.val (.int x0), .val (.long x1), .second, .val (.int x2), .val (.long x3), .second, .val (.int (0 : Int32)), .val (.int (0 : Int32)), .val (.int (1 : Int32)), .val (.int (1 : Int32)), .unset, .unset, .unset, .unset, .unset]) at_50 (pc' := 52) rfl rfl ?_
          refine go_new C (wd hw 0 rfl) (wd hw 1 rfl) (wd hw 2 rfl) at_52 (pc' := 55) rfl (ce' := 1) (sl' := 41) rfl rfl (by decide) (by decide) ?_
          intro h_252 a_253 g_254 E_255 E_256 D_257
          have g_258 : Z.heap.size ≤ a_253 := own_ge (Nat.le_refl _) g_254
          have z_259 : Z.heap.size ≤ h_252.size := Nat.le_trans (Nat.le_refl _) E_255.1
          have F_260 : Fld Z h_252 a_253 "com/example/pufferfish/pufferfish/pool/PoolTally" "queueWait" "Lcom/example/pufferfish/pufferfish/pool/PoolTally$TimeSum;" (.null) := D_257 (Or.inr (wd hw 22 rfl)) (ty := (.object "com/example/pufferfish/pufferfish/pool/PoolTally$TimeSum")) (by decide)
          have F_261 : Fld Z h_252 a_253 "com/example/pufferfish/pufferfish/pool/PoolTally" "runTime" "Lcom/example/pufferfish/pufferfish/pool/PoolTally$TimeSum;" (.null) := D_257 (Or.inr (wd hw 24 rfl)) (ty := (.object "com/example/pufferfish/pufferfish/pool/PoolTally$TimeSum")) (by decide)
          have F_262 : Fld Z h_252 a_253 "com/example/pufferfish/pufferfish/pool/PoolTally" "completedCount" "J" (.long (0 : Int64)) := D_257 (Or.inl (wd hw 31 rfl)) (ty := .long) (by decide)
          have F_263 : Fld Z h_252 a_253 "com/example/pufferfish/pufferfish/pool/PoolTally" "failedCount" "J" (.long (0 : Int64)) := D_257 (Or.inl (wd hw 65 rfl)) (ty := .long) (by decide)
          have F_264 : Fld Z h_252 a_253 "com/example/pufferfish/pufferfish/pool/PoolTally" "submittedCount" "J" (.long (0 : Int64)) := D_257 (Or.inl (wd hw 72 rfl)) (ty := .long) (by decide)
          have F_265 : Fld Z h_252 a_253 "com/example/pufferfish/pufferfish/pool/PoolTally" "rejectedCount" "J" (.long (0 : Int64)) := D_257 (Or.inl (wd hw 79 rfl)) (ty := .long) (by decide)
          have F_266 : Fld Z h_252 a_253 "com/example/pufferfish/pufferfish/pool/PoolTally" "rejectedAtShutdownCount" "J" (.long (0 : Int64)) := D_257 (Or.inl (wd hw 86 rfl)) (ty := .long) (by decide)
          have F_267 : Fld Z h_252 a_253 "com/example/pufferfish/pufferfish/pool/PoolTally" "largestPoolSize" "I" (.int (0 : Int32)) := D_257 (Or.inl (wd hw 93 rfl)) (ty := .int) (by decide)
          refine go_dup C at_55 (pc' := 56) rfl rfl ?_
          refine go_specialN C (as := []) (rest := [.ref a_253]) (W := 1) (sat_pt l Z a0 hw a_253 _ _ E_256 F_260 F_261 F_262 F_263 F_264 F_265 F_266 F_267 g_258 z_259) rfl (wd hw 3 rfl) (wd hw 4 rfl) (wd hw 2 rfl) (wd hw 5 rfl) (by decide) pd_1 rfl rfl rfl (by decide) (by decide) (ce' := 3) (sl' := 113) rfl rfl (by decide) (by decide) at_56 (pc' := 59) rfl rfl ?_
          intro h_268 q_269
          obtain ⟨E_270, F_271, F_272, F_273, F_274, F_275, F_276, t_277, g_278, F_279, E_280, u_281, u_282, u_283, F_284, F_285, F_286⟩ := q_269
          have n_287 : a_253 ≠ t_277 := ne_exa E_270 E_280 (by decide)
          refine go_astore C (Ls' := #[.val (.int x0), .val (.long x1), .second, .val (.int x2), .val (.long x3), .second, .val (.int (0 : Int32)), .val (.int (0 : Int32)), .val (.int (1 : Int32)), .val (.int (1 : Int32)), .val (.ref a_253), .unset, .unset, .unset, .unset]) at_59 (pc' := 61) rfl rfl rfl ?_
          refine go_aload C at_61 (pc' := 63) rfl rfl rfl ?_
          refine go_iload C at_63 (pc' := 65) rfl rfl ?_
          refine go_iload C at_65 (pc' := 67) rfl rfl ?_
          refine go_lloadN C at_67 (pc' := 68) rfl rfl ?_
          refine go_virtualN C (as := [.int (0 : Int32), .int (0 : Int32), .long x1]) (rest := []) (W := 0) (sat_te00 l Z a0 hw a_253 (0 : Int64) (0 : Int64) (0 : Int64) (0 : Int64) (0 : Int64) (0 : Int32) x1 _ _ ⟨E_270, F_271, F_272, F_273, F_274, F_275, F_276, t_277, g_278, F_279, E_280, _, _, _, F_284, F_285, F_286⟩ g_258) E_270 (wd hw 25 rfl) (wd hw 26 rfl) (wd hw 28 rfl) (wd hw 27 rfl) (wd hw 2 rfl) (wd hw 29 rfl) (by decide) pd_2 rfl rfl rfl (by decide) (by decide) (ce' := 3) (sl' := 113) rfl rfl (by decide) (by decide) at_68 (pc' := 71) rfl rfl ?_
          intro h_288 q_289
          obtain ⟨E_290, F_291, F_292, F_293, F_294, F_295, F_296, t_297, g_298, F_299, E_300, u_301, u_302, u_303, F_304, F_305, F_306⟩ := q_289
          have n_307 : a_253 ≠ t_297 := ne_exa E_290 E_300 (by decide)
          refine go_aload C at_71 (pc' := 73) rfl rfl rfl ?_
          refine go_iload C at_73 (pc' := 75) rfl rfl ?_
          refine go_iload C at_75 (pc' := 77) rfl rfl ?_
          refine go_lload C at_77 (pc' := 79) rfl rfl ?_
          refine go_virtualN C (as := [.int (1 : Int32), .int (1 : Int32), .long x3]) (rest := []) (W := 0) (sat_te11 l Z a0 hw a_253 (0 : Int64) (0 : Int64) (0 : Int64) (0 : Int64) (0 : Int64) (0 : Int32) x3 _ _ ⟨E_290, F_291, F_292, F_293, F_294, F_295, F_296, t_297, g_298, F_299, E_300, _, _, _, F_304, F_305, F_306⟩ g_258) E_290 (wd hw 25 rfl) (wd hw 26 rfl) (wd hw 28 rfl) (wd hw 27 rfl) (wd hw 2 rfl) (wd hw 29 rfl) (by decide) pd_2 rfl rfl rfl (by decide) (by decide) (ce' := 3) (sl' := 113) rfl rfl (by decide) (by decide) at_79 (pc' := 82) rfl rfl ?_
          intro h_308 q_309
          rw [(by decide : (0 : Int64) + (1 : Int64) = (1 : Int64))] at q_309
          obtain ⟨E_310, F_311, F_312, F_313, F_314, F_315, F_316, t_317, g_318, F_319, E_320, u_321, u_322, u_323, F_324, F_325, F_326⟩ := q_309
          have n_327 : a_253 ≠ t_317 := ne_exa E_310 E_320 (by decide)
          refine go_iload C at_82 (pc' := 84) rfl rfl ?_
          refine go_staticP C (as := [.int (0 : Int32)]) (rest := []) (W := 0) (.long (0 : Int64)) (sat_one0 l Z a0 hw _ _) (wd hw 50 rfl) (wd hw 51 rfl) (wd hw 52 rfl) (wd hw 53 rfl) (by decide) pd_5 rfl rfl rfl (by decide) (by decide) rfl rfl (by decide) (by decide) at_84 (pc' := 87) rfl rfl ?_
          refine go_iload C at_87 (pc' := 89) rfl rfl ?_
          refine go_staticP C (as := [.int (1 : Int32)]) (rest := [.long (0 : Int64)]) (W := 2) (.long (1 : Int64)) (sat_one1 l Z a0 hw _ _) (wd hw 50 rfl) (wd hw 51 rfl) (wd hw 52 rfl) (wd hw 53 rfl) (by decide) pd_5 rfl rfl rfl (by decide) (by decide) rfl rfl (by decide) (by decide) at_89 (pc' := 92) rfl rfl ?_
          refine go_ladd C at_92 (pc' := 93) rfl ?_
          rw [(by decide : (0 : Int64) + (1 : Int64) = (1 : Int64))]
          refine go_lstore C (Ls' := #[.val (.int x0), .val (.long x1), .second, .val (.int x2), .val (.long x3), .second, .val (.int (0 : Int32)), .val (.int (0 : Int32)), .val (.int (1 : Int32)), .val (.int (1 : Int32)), .val (.ref a_253), .val (.long (1 : Int64)), .second, .unset, .unset]) at_93 (pc' := 95) rfl rfl ?_
          refine go_iload C at_95 (pc' := 97) rfl rfl ?_
          refine go_staticP C (as := [.int (0 : Int32)]) (rest := []) (W := 0) (.long (0 : Int64)) (sat_one0 l Z a0 hw _ _) (wd hw 50 rfl) (wd hw 51 rfl) (wd hw 52 rfl) (wd hw 53 rfl) (by decide) pd_5 rfl rfl rfl (by decide) (by decide) rfl rfl (by decide) (by decide) at_97 (pc' := 100) rfl rfl ?_
          refine go_iload C at_100 (pc' := 102) rfl rfl ?_
          refine go_staticP C (as := [.int (1 : Int32)]) (rest := [.long (0 : Int64)]) (W := 2) (.long (1 : Int64)) (sat_one1 l Z a0 hw _ _) (wd hw 50 rfl) (wd hw 51 rfl) (wd hw 52 rfl) (wd hw 53 rfl) (by decide) pd_5 rfl rfl rfl (by decide) (by decide) rfl rfl (by decide) (by decide) at_102 (pc' := 105) rfl rfl ?_
          refine go_ladd C at_105 (pc' := 106) rfl ?_
          rw [(by decide : (0 : Int64) + (1 : Int64) = (1 : Int64))]
          refine go_lstore C (Ls' := #[.val (.int x0), .val (.long x1), .second, .val (.int x2), .val (.long x3), .second, .val (.int (0 : Int32)), .val (.int (0 : Int32)), .val (.int (1 : Int32)), .val (.int (1 : Int32)), .val (.ref a_253), .val (.long (1 : Int64)), .second, .val (.long (1 : Int64)), .second]) at_106 (pc' := 108) rfl rfl ?_
          refine go_aload C at_108 (pc' := 110) rfl rfl rfl ?_
          refine go_virtualP C (as := []) (rest := []) (W := 0) (.long (1 : Int64)) (sat_completedCount l Z a0 hw a_253 _ _ _ F_311) E_310 (wd hw 54 rfl) (wd hw 55 rfl) (wd hw 57 rfl) (wd hw 56 rfl) (wd hw 2 rfl) (wd hw 58 rfl) (by decide) pd_6 rfl rfl rfl (by decide) (by decide) rfl rfl (by decide) (by decide) at_110 (pc' := 113) rfl rfl ?_
          refine go_lload C at_113 (pc' := 115) rfl rfl ?_
          refine go_lcmp C (1 : Int) (1 : Int) (by decide) (by decide) at_115 (pc1 := 116) rfl at_116 (by decide) (pc' := 172) (by decide) (pcN := 119) rfl (fun (c_328 : ¬ (1 : Int) = (1 : Int)) => by omega) (fun (c_328 : (1 : Int) = (1 : Int)) => ?_)
          refine go_aload C at_119 (pc' := 121) rfl rfl rfl ?_
          refine go_virtualP C (as := []) (rest := []) (W := 0) (.long (1 : Int64)) (sat_failedCount l Z a0 hw a_253 _ _ _ F_312) E_310 (wd hw 59 rfl) (wd hw 60 rfl) (wd hw 62 rfl) (wd hw 61 rfl) (wd hw 2 rfl) (wd hw 63 rfl) (by decide) pd_6 rfl rfl rfl (by decide) (by decide) rfl rfl (by decide) (by decide) at_121 (pc' := 124) rfl rfl ?_
          refine go_lload C at_124 (pc' := 126) rfl rfl ?_
          refine go_lcmp C (1 : Int) (1 : Int) (by decide) (by decide) at_126 (pc1 := 127) rfl at_127 (by decide) (pc' := 172) (by decide) (pcN := 130) rfl (fun (c_329 : ¬ (1 : Int) = (1 : Int)) => by omega) (fun (c_329 : (1 : Int) = (1 : Int)) => ?_)
          refine go_aload C at_130 (pc' := 132) rfl rfl rfl ?_
          refine go_virtualP C (as := []) (rest := []) (W := 0) (.long (0 : Int64)) (sat_submittedCount l Z a0 hw a_253 _ _ _ F_313) E_310 (wd hw 66 rfl) (wd hw 67 rfl) (wd hw 69 rfl) (wd hw 68 rfl) (wd hw 2 rfl) (wd hw 70 rfl) (by decide) pd_6 rfl rfl rfl (by decide) (by decide) rfl rfl (by decide) (by decide) at_132 (pc' := 135) rfl rfl ?_
          refine go_lconst C (0 : Int64) at_135 (pc' := 136) rfl (by decide) ?_
          refine go_lcmp C (0 : Int) (0 : Int) (by decide) (by decide) at_136 (pc1 := 137) rfl at_137 (by decide) (pc' := 172) (by decide) (pcN := 140) rfl (fun (c_330 : ¬ (0 : Int) = (0 : Int)) => by omega) (fun (c_330 : (0 : Int) = (0 : Int)) => ?_)
          refine go_aload C at_140 (pc' := 142) rfl rfl rfl ?_
          refine go_virtualP C (as := []) (rest := []) (W := 0) (.long (0 : Int64)) (sat_rejectedCount l Z a0 hw a_253 _ _ _ F_314) E_310 (wd hw 73 rfl) (wd hw 74 rfl) (wd hw 76 rfl) (wd hw 75 rfl) (wd hw 2 rfl) (wd hw 77 rfl) (by decide) pd_6 rfl rfl rfl (by decide) (by decide) rfl rfl (by decide) (by decide) at_142 (pc' := 145) rfl rfl ?_
          refine go_lconst C (0 : Int64) at_145 (pc' := 146) rfl (by decide) ?_
          refine go_lcmp C (0 : Int) (0 : Int) (by decide) (by decide) at_146 (pc1 := 147) rfl at_147 (by decide) (pc' := 172) (by decide) (pcN := 150) rfl (fun (c_331 : ¬ (0 : Int) = (0 : Int)) => by omega) (fun (c_331 : (0 : Int) = (0 : Int)) => ?_)
          refine go_aload C at_150 (pc' := 152) rfl rfl rfl ?_
          refine go_virtualP C (as := []) (rest := []) (W := 0) (.long (0 : Int64)) (sat_rejectedAtShutdownCount l Z a0 hw a_253 _ _ _ F_315) E_310 (wd hw 80 rfl) (wd hw 81 rfl) (wd hw 83 rfl) (wd hw 82 rfl) (wd hw 2 rfl) (wd hw 84 rfl) (by decide) pd_6 rfl rfl rfl (by decide) (by decide) rfl rfl (by decide) (by decide) at_152 (pc' := 155) rfl rfl ?_
          refine go_lconst C (0 : Int64) at_155 (pc' := 156) rfl (by decide) ?_
          refine go_lcmp C (0 : Int) (0 : Int) (by decide) (by decide) at_156 (pc1 := 157) rfl at_157 (by decide) (pc' := 172) (by decide) (pcN := 160) rfl (fun (c_332 : ¬ (0 : Int) = (0 : Int)) => by omega) (fun (c_332 : (0 : Int) = (0 : Int)) => ?_)
          refine go_aload C at_160 (pc' := 162) rfl rfl rfl ?_
          refine go_virtualP C (as := []) (rest := []) (W := 0) (.int (0 : Int32)) (sat_largestPoolSize l Z a0 hw a_253 _ _ _ F_316) E_310 (wd hw 87 rfl) (wd hw 88 rfl) (wd hw 90 rfl) (wd hw 89 rfl) (wd hw 2 rfl) (wd hw 91 rfl) (by decide) pd_7 rfl rfl rfl (by decide) (by decide) rfl rfl (by decide) (by decide) at_162 (pc' := 165) rfl rfl ?_
          refine go_if0 C (0 : Int) (by decide) at_165 (by decide) (pc' := 172) (by decide) (pcN := 168) rfl (fun (c_333 : ¬ (0 : Int) = 0) => by omega) (fun (c_333 : (0 : Int) = 0) => ?_)
          refine go_iconst C (1 : Int32) at_168 (pc' := 169) rfl (by decide) ?_
          refine go_goto C at_169 (by decide) (pc' := 173) (by decide) ?_
          refine go_ireturnN C (z' := (1 : Int32)) rfl (by simp) rfl at_173 (by decide) (by decide) ?_
          exact ⟨_, rfl, rfl⟩
    · skip
      refine go_iconst C (1 : Int32) at_19 (pc' := 20) rfl (by decide) ?_
      refine go_goto C at_20 (by decide) (pc' := 24) (by decide) ?_
      refine go_istore C (Ls' := #[.val (.int x0), .val (.long x1), .second, .val (.int x2), .val (.long x3), .second, .val (.int (0 : Int32)), .val (.int (1 : Int32)), .unset, .unset, .unset, .unset, .unset, .unset, .unset]) at_24 (pc' := 26) rfl rfl ?_
      refine go_iloadN C at_26 (pc' := 27) rfl rfl ?_
      refine go_iconst C (1 : Int32) at_27 (pc' := 28) rfl (by decide) ?_
      refine go_iand C at_28 (pc' := 29) rfl ?_
      refine go_if0 C ((x2 &&& (1 : Int32)).toInt) rfl at_29 (by decide) (pc' := 36) (by decide) (pcN := 32) rfl (fun (c_334 : ((x2 &&& (1 : Int32)).toInt) = 0) => ?_) (fun (c_334 : ¬ ((x2 &&& (1 : Int32)).toInt) = 0) => ?_)
      · skip
        refine go_iconst C (0 : Int32) at_36 (pc' := 37) rfl (by decide) ?_
        refine go_istore C (Ls' := #[.val (.int x0), .val (.long x1), .second, .val (.int x2), .val (.long x3), .second, .val (.int (0 : Int32)), .val (.int (1 : Int32)), .val (.int (0 : Int32)), .unset, .unset, .unset, .unset, .unset, .unset]) at_37 (pc' := 39) rfl rfl ?_
        refine go_iloadN C at_39 (pc' := 40) rfl rfl ?_
        refine go_iconst C (2 : Int32) at_40 (pc' := 41) rfl (by decide) ?_
        refine go_iand C at_41 (pc' := 42) rfl ?_
        refine go_if0 C ((x2 &&& (2 : Int32)).toInt) rfl at_42 (by decide) (pc' := 49) (by decide) (pcN := 45) rfl (fun (c_335 : ((x2 &&& (2 : Int32)).toInt) = 0) => ?_) (fun (c_335 : ¬ ((x2 &&& (2 : Int32)).toInt) = 0) => ?_)
        · skip
          refine go_iconst C (0 : Int32) at_49 (pc' := 50) rfl (by decide) ?_
          refine go_istore C (Ls' := #[.val (.int x0), .val (.long x1), .second, .val (.int x2), .val (.long x3), .second, .val (.int (0 : Int32)), .val (.int (1 : Int32)), .val (.int (0 : Int32)), .val (.int (0 : Int32)), .unset, .unset, .unset, .unset, .unset]) at_50 (pc' := 52) rfl rfl ?_
          refine go_new C (wd hw 0 rfl) (wd hw 1 rfl) (wd hw 2 rfl) at_52 (pc' := 55) rfl (ce' := 1) (sl' := 41) rfl rfl (by decide) (by decide) ?_
          intro h_336 a_337 g_338 E_339 E_340 D_341
          have g_342 : Z.heap.size ≤ a_337 := own_ge (Nat.le_refl _) g_338
          have z_343 : Z.heap.size ≤ h_336.size := Nat.le_trans (Nat.le_refl _) E_339.1
          have F_344 : Fld Z h_336 a_337 "com/example/pufferfish/pufferfish/pool/PoolTally" "queueWait" "Lcom/example/pufferfish/pufferfish/pool/PoolTally$TimeSum;" (.null) := D_341 (Or.inr (wd hw 22 rfl)) (ty := (.object "com/example/pufferfish/pufferfish/pool/PoolTally$TimeSum")) (by decide)
          have F_345 : Fld Z h_336 a_337 "com/example/pufferfish/pufferfish/pool/PoolTally" "runTime" "Lcom/example/pufferfish/pufferfish/pool/PoolTally$TimeSum;" (.null) := D_341 (Or.inr (wd hw 24 rfl)) (ty := (.object "com/example/pufferfish/pufferfish/pool/PoolTally$TimeSum")) (by decide)
          have F_346 : Fld Z h_336 a_337 "com/example/pufferfish/pufferfish/pool/PoolTally" "completedCount" "J" (.long (0 : Int64)) := D_341 (Or.inl (wd hw 31 rfl)) (ty := .long) (by decide)
          have F_347 : Fld Z h_336 a_337 "com/example/pufferfish/pufferfish/pool/PoolTally" "failedCount" "J" (.long (0 : Int64)) := D_341 (Or.inl (wd hw 65 rfl)) (ty := .long) (by decide)
          have F_348 : Fld Z h_336 a_337 "com/example/pufferfish/pufferfish/pool/PoolTally" "submittedCount" "J" (.long (0 : Int64)) := D_341 (Or.inl (wd hw 72 rfl)) (ty := .long) (by decide)
          have F_349 : Fld Z h_336 a_337 "com/example/pufferfish/pufferfish/pool/PoolTally" "rejectedCount" "J" (.long (0 : Int64)) := D_341 (Or.inl (wd hw 79 rfl)) (ty := .long) (by decide)
          have F_350 : Fld Z h_336 a_337 "com/example/pufferfish/pufferfish/pool/PoolTally" "rejectedAtShutdownCount" "J" (.long (0 : Int64)) := D_341 (Or.inl (wd hw 86 rfl)) (ty := .long) (by decide)
          have F_351 : Fld Z h_336 a_337 "com/example/pufferfish/pufferfish/pool/PoolTally" "largestPoolSize" "I" (.int (0 : Int32)) := D_341 (Or.inl (wd hw 93 rfl)) (ty := .int) (by decide)
          refine go_dup C at_55 (pc' := 56) rfl rfl ?_
          refine go_specialN C (as := []) (rest := [.ref a_337]) (W := 1) (sat_pt l Z a0 hw a_337 _ _ E_340 F_344 F_345 F_346 F_347 F_348 F_349 F_350 F_351 g_342 z_343) rfl (wd hw 3 rfl) (wd hw 4 rfl) (wd hw 2 rfl) (wd hw 5 rfl) (by decide) pd_1 rfl rfl rfl (by decide) (by decide) (ce' := 3) (sl' := 113) rfl rfl (by decide) (by decide) at_56 (pc' := 59) rfl rfl ?_
          intro h_352 q_353
          obtain ⟨E_354, F_355, F_356, F_357, F_358, F_359, F_360, t_361, g_362, F_363, E_364, u_365, u_366, u_367, F_368, F_369, F_370⟩ := q_353
          have n_371 : a_337 ≠ t_361 := ne_exa E_354 E_364 (by decide)
          refine go_astore C (Ls' := #[.val (.int x0), .val (.long x1), .second, .val (.int x2), .val (.long x3), .second, .val (.int (0 : Int32)), .val (.int (1 : Int32)), .val (.int (0 : Int32)), .val (.int (0 : Int32)), .val (.ref a_337), .unset, .unset, .unset, .unset]) at_59 (pc' := 61) rfl rfl rfl ?_
          refine go_aload C at_61 (pc' := 63) rfl rfl rfl ?_
          refine go_iload C at_63 (pc' := 65) rfl rfl ?_
          refine go_iload C at_65 (pc' := 67) rfl rfl ?_
          refine go_lloadN C at_67 (pc' := 68) rfl rfl ?_
          refine go_virtualN C (as := [.int (0 : Int32), .int (1 : Int32), .long x1]) (rest := []) (W := 0) (sat_te01 l Z a0 hw a_337 (0 : Int64) (0 : Int64) (0 : Int64) (0 : Int64) (0 : Int64) (0 : Int32) x1 _ _ ⟨E_354, F_355, F_356, F_357, F_358, F_359, F_360, t_361, g_362, F_363, E_364, _, _, _, F_368, F_369, F_370⟩ g_342) E_354 (wd hw 25 rfl) (wd hw 26 rfl) (wd hw 28 rfl) (wd hw 27 rfl) (wd hw 2 rfl) (wd hw 29 rfl) (by decide) pd_2 rfl rfl rfl (by decide) (by decide) (ce' := 3) (sl' := 113) rfl rfl (by decide) (by decide) at_68 (pc' := 71) rfl rfl ?_
          intro h_372 q_373
          rw [(by decide : (0 : Int64) + (1 : Int64) = (1 : Int64))] at q_373
          obtain ⟨E_374, F_375, F_376, F_377, F_378, F_379, F_380, t_381, g_382, F_383, E_384, u_385, u_386, u_387, F_388, F_389, F_390⟩ := q_373
          have n_391 : a_337 ≠ t_381 := ne_exa E_374 E_384 (by decide)
          refine go_aload C at_71 (pc' := 73) rfl rfl rfl ?_
          refine go_iload C at_73 (pc' := 75) rfl rfl ?_
          refine go_iload C at_75 (pc' := 77) rfl rfl ?_
          refine go_lload C at_77 (pc' := 79) rfl rfl ?_
          refine go_virtualN C (as := [.int (0 : Int32), .int (0 : Int32), .long x3]) (rest := []) (W := 0) (sat_te00 l Z a0 hw a_337 (0 : Int64) (1 : Int64) (0 : Int64) (0 : Int64) (0 : Int64) (0 : Int32) x3 _ _ ⟨E_374, F_375, F_376, F_377, F_378, F_379, F_380, t_381, g_382, F_383, E_384, _, _, _, F_388, F_389, F_390⟩ g_342) E_374 (wd hw 25 rfl) (wd hw 26 rfl) (wd hw 28 rfl) (wd hw 27 rfl) (wd hw 2 rfl) (wd hw 29 rfl) (by decide) pd_2 rfl rfl rfl (by decide) (by decide) (ce' := 3) (sl' := 113) rfl rfl (by decide) (by decide) at_79 (pc' := 82) rfl rfl ?_
          intro h_392 q_393
          obtain ⟨E_394, F_395, F_396, F_397, F_398, F_399, F_400, t_401, g_402, F_403, E_404, u_405, u_406, u_407, F_408, F_409, F_410⟩ := q_393
          have n_411 : a_337 ≠ t_401 := ne_exa E_394 E_404 (by decide)
          refine go_iload C at_82 (pc' := 84) rfl rfl ?_
          refine go_staticP C (as := [.int (0 : Int32)]) (rest := []) (W := 0) (.long (0 : Int64)) (sat_one0 l Z a0 hw _ _) (wd hw 50 rfl) (wd hw 51 rfl) (wd hw 52 rfl) (wd hw 53 rfl) (by decide) pd_5 rfl rfl rfl (by decide) (by decide) rfl rfl (by decide) (by decide) at_84 (pc' := 87) rfl rfl ?_
          refine go_iload C at_87 (pc' := 89) rfl rfl ?_
          refine go_staticP C (as := [.int (0 : Int32)]) (rest := [.long (0 : Int64)]) (W := 2) (.long (0 : Int64)) (sat_one0 l Z a0 hw _ _) (wd hw 50 rfl) (wd hw 51 rfl) (wd hw 52 rfl) (wd hw 53 rfl) (by decide) pd_5 rfl rfl rfl (by decide) (by decide) rfl rfl (by decide) (by decide) at_89 (pc' := 92) rfl rfl ?_
          refine go_ladd C at_92 (pc' := 93) rfl ?_
          rw [(by decide : (0 : Int64) + (0 : Int64) = (0 : Int64))]
          refine go_lstore C (Ls' := #[.val (.int x0), .val (.long x1), .second, .val (.int x2), .val (.long x3), .second, .val (.int (0 : Int32)), .val (.int (1 : Int32)), .val (.int (0 : Int32)), .val (.int (0 : Int32)), .val (.ref a_337), .val (.long (0 : Int64)), .second, .unset, .unset]) at_93 (pc' := 95) rfl rfl ?_
          refine go_iload C at_95 (pc' := 97) rfl rfl ?_
          refine go_staticP C (as := [.int (1 : Int32)]) (rest := []) (W := 0) (.long (1 : Int64)) (sat_one1 l Z a0 hw _ _) (wd hw 50 rfl) (wd hw 51 rfl) (wd hw 52 rfl) (wd hw 53 rfl) (by decide) pd_5 rfl rfl rfl (by decide) (by decide) rfl rfl (by decide) (by decide) at_97 (pc' := 100) rfl rfl ?_
          refine go_iload C at_100 (pc' := 102) rfl rfl ?_
          refine go_staticP C (as := [.int (0 : Int32)]) (rest := [.long (1 : Int64)]) (W := 2) (.long (0 : Int64)) (sat_one0 l Z a0 hw _ _) (wd hw 50 rfl) (wd hw 51 rfl) (wd hw 52 rfl) (wd hw 53 rfl) (by decide) pd_5 rfl rfl rfl (by decide) (by decide) rfl rfl (by decide) (by decide) at_102 (pc' := 105) rfl rfl ?_
          refine go_ladd C at_105 (pc' := 106) rfl ?_
          rw [(by decide : (1 : Int64) + (0 : Int64) = (1 : Int64))]
          refine go_lstore C (Ls' := #[.val (.int x0), .val (.long x1), .second, .val (.int x2), .val (.long x3), .second, .val (.int (0 : Int32)), .val (.int (1 : Int32)), .val (.int (0 : Int32)), .val (.int (0 : Int32)), .val (.ref a_337), .val (.long (0 : Int64)), .second, .val (.long (1 : Int64)), .second]) at_106 (pc' := 108) rfl rfl ?_
          refine go_aload C at_108 (pc' := 110) rfl rfl rfl ?_
          refine go_virtualP C (as := []) (rest := []) (W := 0) (.long (0 : Int64)) (sat_completedCount l Z a0 hw a_337 _ _ _ F_395) E_394 (wd hw 54 rfl) (wd hw 55 rfl) (wd hw 57 rfl) (wd hw 56 rfl) (wd hw 2 rfl) (wd hw 58 rfl) (by decide) pd_6 rfl rfl rfl (by decide) (by decide) rfl rfl (by decide) (by decide) at_110 (pc' := 113) rfl rfl ?_
          refine go_lload C at_113 (pc' := 115) rfl rfl ?_
          refine go_lcmp C (0 : Int) (0 : Int) (by decide) (by decide) at_115 (pc1 := 116) rfl at_116 (by decide) (pc' := 172) (by decide) (pcN := 119) rfl (fun (c_412 : ¬ (0 : Int) = (0 : Int)) => by omega) (fun (c_412 : (0 : Int) = (0 : Int)) => ?_)
          refine go_aload C at_119 (pc' := 121) rfl rfl rfl ?_
          refine go_virtualP C (as := []) (rest := []) (W := 0) (.long (1 : Int64)) (sat_failedCount l Z a0 hw a_337 _ _ _ F_396) E_394 (wd hw 59 rfl) (wd hw 60 rfl) (wd hw 62 rfl) (wd hw 61 rfl) (wd hw 2 rfl) (wd hw 63 rfl) (by decide) pd_6 rfl rfl rfl (by decide) (by decide) rfl rfl (by decide) (by decide) at_121 (pc' := 124) rfl rfl ?_
          refine go_lload C at_124 (pc' := 126) rfl rfl ?_
          refine go_lcmp C (1 : Int) (1 : Int) (by decide) (by decide) at_126 (pc1 := 127) rfl at_127 (by decide) (pc' := 172) (by decide) (pcN := 130) rfl (fun (c_413 : ¬ (1 : Int) = (1 : Int)) => by omega) (fun (c_413 : (1 : Int) = (1 : Int)) => ?_)
          refine go_aload C at_130 (pc' := 132) rfl rfl rfl ?_
          refine go_virtualP C (as := []) (rest := []) (W := 0) (.long (0 : Int64)) (sat_submittedCount l Z a0 hw a_337 _ _ _ F_397) E_394 (wd hw 66 rfl) (wd hw 67 rfl) (wd hw 69 rfl) (wd hw 68 rfl) (wd hw 2 rfl) (wd hw 70 rfl) (by decide) pd_6 rfl rfl rfl (by decide) (by decide) rfl rfl (by decide) (by decide) at_132 (pc' := 135) rfl rfl ?_
          refine go_lconst C (0 : Int64) at_135 (pc' := 136) rfl (by decide) ?_
          refine go_lcmp C (0 : Int) (0 : Int) (by decide) (by decide) at_136 (pc1 := 137) rfl at_137 (by decide) (pc' := 172) (by decide) (pcN := 140) rfl (fun (c_414 : ¬ (0 : Int) = (0 : Int)) => by omega) (fun (c_414 : (0 : Int) = (0 : Int)) => ?_)
          refine go_aload C at_140 (pc' := 142) rfl rfl rfl ?_
          refine go_virtualP C (as := []) (rest := []) (W := 0) (.long (0 : Int64)) (sat_rejectedCount l Z a0 hw a_337 _ _ _ F_398) E_394 (wd hw 73 rfl) (wd hw 74 rfl) (wd hw 76 rfl) (wd hw 75 rfl) (wd hw 2 rfl) (wd hw 77 rfl) (by decide) pd_6 rfl rfl rfl (by decide) (by decide) rfl rfl (by decide) (by decide) at_142 (pc' := 145) rfl rfl ?_
          refine go_lconst C (0 : Int64) at_145 (pc' := 146) rfl (by decide) ?_
          refine go_lcmp C (0 : Int) (0 : Int) (by decide) (by decide) at_146 (pc1 := 147) rfl at_147 (by decide) (pc' := 172) (by decide) (pcN := 150) rfl (fun (c_415 : ¬ (0 : Int) = (0 : Int)) => by omega) (fun (c_415 : (0 : Int) = (0 : Int)) => ?_)
          refine go_aload C at_150 (pc' := 152) rfl rfl rfl ?_
          refine go_virtualP C (as := []) (rest := []) (W := 0) (.long (0 : Int64)) (sat_rejectedAtShutdownCount l Z a0 hw a_337 _ _ _ F_399) E_394 (wd hw 80 rfl) (wd hw 81 rfl) (wd hw 83 rfl) (wd hw 82 rfl) (wd hw 2 rfl) (wd hw 84 rfl) (by decide) pd_6 rfl rfl rfl (by decide) (by decide) rfl rfl (by decide) (by decide) at_152 (pc' := 155) rfl rfl ?_
          refine go_lconst C (0 : Int64) at_155 (pc' := 156) rfl (by decide) ?_
          refine go_lcmp C (0 : Int) (0 : Int) (by decide) (by decide) at_156 (pc1 := 157) rfl at_157 (by decide) (pc' := 172) (by decide) (pcN := 160) rfl (fun (c_416 : ¬ (0 : Int) = (0 : Int)) => by omega) (fun (c_416 : (0 : Int) = (0 : Int)) => ?_)
          refine go_aload C at_160 (pc' := 162) rfl rfl rfl ?_
          refine go_virtualP C (as := []) (rest := []) (W := 0) (.int (0 : Int32)) (sat_largestPoolSize l Z a0 hw a_337 _ _ _ F_400) E_394 (wd hw 87 rfl) (wd hw 88 rfl) (wd hw 90 rfl) (wd hw 89 rfl) (wd hw 2 rfl) (wd hw 91 rfl) (by decide) pd_7 rfl rfl rfl (by decide) (by decide) rfl rfl (by decide) (by decide) at_162 (pc' := 165) rfl rfl ?_
          refine go_if0 C (0 : Int) (by decide) at_165 (by decide) (pc' := 172) (by decide) (pcN := 168) rfl (fun (c_417 : ¬ (0 : Int) = 0) => by omega) (fun (c_417 : (0 : Int) = 0) => ?_)
          refine go_iconst C (1 : Int32) at_168 (pc' := 169) rfl (by decide) ?_
          refine go_goto C at_169 (by decide) (pc' := 173) (by decide) ?_
          refine go_ireturnN C (z' := (1 : Int32)) rfl (by simp) rfl at_173 (by decide) (by decide) ?_
          exact ⟨_, rfl, rfl⟩
        · skip
          refine go_iconst C (1 : Int32) at_45 (pc' := 46) rfl (by decide) ?_
          refine go_goto C at_46 (by decide) (pc' := 50) (by decide) ?_
          refine go_istore C (Ls' := #[.val (.int x0), .val (.long x1), .second, .val (.int x2), .val (.long x3), .second, .val (.int (0 : Int32)), .val (.int (1 : Int32)), .val (.int (0 : Int32)), .val (.int (1 : Int32)), .unset, .unset, .unset, .unset, .unset]) at_50 (pc' := 52) rfl rfl ?_
          refine go_new C (wd hw 0 rfl) (wd hw 1 rfl) (wd hw 2 rfl) at_52 (pc' := 55) rfl (ce' := 1) (sl' := 41) rfl rfl (by decide) (by decide) ?_
          intro h_418 a_419 g_420 E_421 E_422 D_423
          have g_424 : Z.heap.size ≤ a_419 := own_ge (Nat.le_refl _) g_420
          have z_425 : Z.heap.size ≤ h_418.size := Nat.le_trans (Nat.le_refl _) E_421.1
          have F_426 : Fld Z h_418 a_419 "com/example/pufferfish/pufferfish/pool/PoolTally" "queueWait" "Lcom/example/pufferfish/pufferfish/pool/PoolTally$TimeSum;" (.null) := D_423 (Or.inr (wd hw 22 rfl)) (ty := (.object "com/example/pufferfish/pufferfish/pool/PoolTally$TimeSum")) (by decide)
          have F_427 : Fld Z h_418 a_419 "com/example/pufferfish/pufferfish/pool/PoolTally" "runTime" "Lcom/example/pufferfish/pufferfish/pool/PoolTally$TimeSum;" (.null) := D_423 (Or.inr (wd hw 24 rfl)) (ty := (.object "com/example/pufferfish/pufferfish/pool/PoolTally$TimeSum")) (by decide)
          have F_428 : Fld Z h_418 a_419 "com/example/pufferfish/pufferfish/pool/PoolTally" "completedCount" "J" (.long (0 : Int64)) := D_423 (Or.inl (wd hw 31 rfl)) (ty := .long) (by decide)
          have F_429 : Fld Z h_418 a_419 "com/example/pufferfish/pufferfish/pool/PoolTally" "failedCount" "J" (.long (0 : Int64)) := D_423 (Or.inl (wd hw 65 rfl)) (ty := .long) (by decide)
          have F_430 : Fld Z h_418 a_419 "com/example/pufferfish/pufferfish/pool/PoolTally" "submittedCount" "J" (.long (0 : Int64)) := D_423 (Or.inl (wd hw 72 rfl)) (ty := .long) (by decide)
          have F_431 : Fld Z h_418 a_419 "com/example/pufferfish/pufferfish/pool/PoolTally" "rejectedCount" "J" (.long (0 : Int64)) := D_423 (Or.inl (wd hw 79 rfl)) (ty := .long) (by decide)
          have F_432 : Fld Z h_418 a_419 "com/example/pufferfish/pufferfish/pool/PoolTally" "rejectedAtShutdownCount" "J" (.long (0 : Int64)) := D_423 (Or.inl (wd hw 86 rfl)) (ty := .long) (by decide)
          have F_433 : Fld Z h_418 a_419 "com/example/pufferfish/pufferfish/pool/PoolTally" "largestPoolSize" "I" (.int (0 : Int32)) := D_423 (Or.inl (wd hw 93 rfl)) (ty := .int) (by decide)
          refine go_dup C at_55 (pc' := 56) rfl rfl ?_
          refine go_specialN C (as := []) (rest := [.ref a_419]) (W := 1) (sat_pt l Z a0 hw a_419 _ _ E_422 F_426 F_427 F_428 F_429 F_430 F_431 F_432 F_433 g_424 z_425) rfl (wd hw 3 rfl) (wd hw 4 rfl) (wd hw 2 rfl) (wd hw 5 rfl) (by decide) pd_1 rfl rfl rfl (by decide) (by decide) (ce' := 3) (sl' := 113) rfl rfl (by decide) (by decide) at_56 (pc' := 59) rfl rfl ?_
          intro h_434 q_435
          obtain ⟨E_436, F_437, F_438, F_439, F_440, F_441, F_442, t_443, g_444, F_445, E_446, u_447, u_448, u_449, F_450, F_451, F_452⟩ := q_435
          have n_453 : a_419 ≠ t_443 := ne_exa E_436 E_446 (by decide)
          refine go_astore C (Ls' := #[.val (.int x0), .val (.long x1), .second, .val (.int x2), .val (.long x3), .second, .val (.int (0 : Int32)), .val (.int (1 : Int32)), .val (.int (0 : Int32)), .val (.int (1 : Int32)), .val (.ref a_419), .unset, .unset, .unset, .unset]) at_59 (pc' := 61) rfl rfl rfl ?_
          refine go_aload C at_61 (pc' := 63) rfl rfl rfl ?_
          refine go_iload C at_63 (pc' := 65) rfl rfl ?_
          refine go_iload C at_65 (pc' := 67) rfl rfl ?_
          refine go_lloadN C at_67 (pc' := 68) rfl rfl ?_
          refine go_virtualN C (as := [.int (0 : Int32), .int (1 : Int32), .long x1]) (rest := []) (W := 0) (sat_te01 l Z a0 hw a_419 (0 : Int64) (0 : Int64) (0 : Int64) (0 : Int64) (0 : Int64) (0 : Int32) x1 _ _ ⟨E_436, F_437, F_438, F_439, F_440, F_441, F_442, t_443, g_444, F_445, E_446, _, _, _, F_450, F_451, F_452⟩ g_424) E_436 (wd hw 25 rfl) (wd hw 26 rfl) (wd hw 28 rfl) (wd hw 27 rfl) (wd hw 2 rfl) (wd hw 29 rfl) (by decide) pd_2 rfl rfl rfl (by decide) (by decide) (ce' := 3) (sl' := 113) rfl rfl (by decide) (by decide) at_68 (pc' := 71) rfl rfl ?_
          intro h_454 q_455
          rw [(by decide : (0 : Int64) + (1 : Int64) = (1 : Int64))] at q_455
          obtain ⟨E_456, F_457, F_458, F_459, F_460, F_461, F_462, t_463, g_464, F_465, E_466, u_467, u_468, u_469, F_470, F_471, F_472⟩ := q_455
          have n_473 : a_419 ≠ t_463 := ne_exa E_456 E_466 (by decide)
          refine go_aload C at_71 (pc' := 73) rfl rfl rfl ?_
          refine go_iload C at_73 (pc' := 75) rfl rfl ?_
          refine go_iload C at_75 (pc' := 77) rfl rfl ?_
          refine go_lload C at_77 (pc' := 79) rfl rfl ?_
          refine go_virtualN C (as := [.int (0 : Int32), .int (1 : Int32), .long x3]) (rest := []) (W := 0) (sat_te01 l Z a0 hw a_419 (0 : Int64) (1 : Int64) (0 : Int64) (0 : Int64) (0 : Int64) (0 : Int32) x3 _ _ ⟨E_456, F_457, F_458, F_459, F_460, F_461, F_462, t_463, g_464, F_465, E_466, _, _, _, F_470, F_471, F_472⟩ g_424) E_456 (wd hw 25 rfl) (wd hw 26 rfl) (wd hw 28 rfl) (wd hw 27 rfl) (wd hw 2 rfl) (wd hw 29 rfl) (by decide) pd_2 rfl rfl rfl (by decide) (by decide) (ce' := 3) (sl' := 113) rfl rfl (by decide) (by decide) at_79 (pc' := 82) rfl rfl ?_
          intro h_474 q_475
          rw [(by decide : (1 : Int64) + (1 : Int64) = (2 : Int64))] at q_475
          obtain ⟨E_476, F_477, F_478, F_479, F_480, F_481, F_482, t_483, g_484, F_485, E_486, u_487, u_488, u_489, F_490, F_491, F_492⟩ := q_475
          have n_493 : a_419 ≠ t_483 := ne_exa E_476 E_486 (by decide)
          refine go_iload C at_82 (pc' := 84) rfl rfl ?_
          refine go_staticP C (as := [.int (0 : Int32)]) (rest := []) (W := 0) (.long (0 : Int64)) (sat_one0 l Z a0 hw _ _) (wd hw 50 rfl) (wd hw 51 rfl) (wd hw 52 rfl) (wd hw 53 rfl) (by decide) pd_5 rfl rfl rfl (by decide) (by decide) rfl rfl (by decide) (by decide) at_84 (pc' := 87) rfl rfl ?_
          refine go_iload C at_87 (pc' := 89) rfl rfl ?_
          refine go_staticP C (as := [.int (0 : Int32)]) (rest := [.long (0 : Int64)]) (W := 2) (.long (0 : Int64)) (sat_one0 l Z a0 hw _ _) (wd hw 50 rfl) (wd hw 51 rfl) (wd hw 52 rfl) (wd hw 53 rfl) (by decide) pd_5 rfl rfl rfl (by decide) (by decide) rfl rfl (by decide) (by decide) at_89 (pc' := 92) rfl rfl ?_
          refine go_ladd C at_92 (pc' := 93) rfl ?_
          rw [(by decide : (0 : Int64) + (0 : Int64) = (0 : Int64))]
          refine go_lstore C (Ls' := #[.val (.int x0), .val (.long x1), .second, .val (.int x2), .val (.long x3), .second, .val (.int (0 : Int32)), .val (.int (1 : Int32)), .val (.int (0 : Int32)), .val (.int (1 : Int32)), .val (.ref a_419), .val (.long (0 : Int64)), .second, .unset, .unset]) at_93 (pc' := 95) rfl rfl ?_
          refine go_iload C at_95 (pc' := 97) rfl rfl ?_
          refine go_staticP C (as := [.int (1 : Int32)]) (rest := []) (W := 0) (.long (1 : Int64)) (sat_one1 l Z a0 hw _ _) (wd hw 50 rfl) (wd hw 51 rfl) (wd hw 52 rfl) (wd hw 53 rfl) (by decide) pd_5 rfl rfl rfl (by decide) (by decide) rfl rfl (by decide) (by decide) at_97 (pc' := 100) rfl rfl ?_
          refine go_iload C at_100 (pc' := 102) rfl rfl ?_
          refine go_staticP C (as := [.int (1 : Int32)]) (rest := [.long (1 : Int64)]) (W := 2) (.long (1 : Int64)) (sat_one1 l Z a0 hw _ _) (wd hw 50 rfl) (wd hw 51 rfl) (wd hw 52 rfl) (wd hw 53 rfl) (by decide) pd_5 rfl rfl rfl (by decide) (by decide) rfl rfl (by decide) (by decide) at_102 (pc' := 105) rfl rfl ?_
          refine go_ladd C at_105 (pc' := 106) rfl ?_
          rw [(by decide : (1 : Int64) + (1 : Int64) = (2 : Int64))]
          refine go_lstore C (Ls' := #[.val (.int x0), .val (.long x1), .second, .val (.int x2), .val (.long x3), .second, .val (.int (0 : Int32)), .val (.int (1 : Int32)), .val (.int (0 : Int32)), .val (.int (1 : Int32)), .val (.ref a_419), .val (.long (0 : Int64)), .second, .val (.long (2 : Int64)), .second]) at_106 (pc' := 108) rfl rfl ?_
          refine go_aload C at_108 (pc' := 110) rfl rfl rfl ?_
          refine go_virtualP C (as := []) (rest := []) (W := 0) (.long (0 : Int64)) (sat_completedCount l Z a0 hw a_419 _ _ _ F_477) E_476 (wd hw 54 rfl) (wd hw 55 rfl) (wd hw 57 rfl) (wd hw 56 rfl) (wd hw 2 rfl) (wd hw 58 rfl) (by decide) pd_6 rfl rfl rfl (by decide) (by decide) rfl rfl (by decide) (by decide) at_110 (pc' := 113) rfl rfl ?_
          refine go_lload C at_113 (pc' := 115) rfl rfl ?_
          refine go_lcmp C (0 : Int) (0 : Int) (by decide) (by decide) at_115 (pc1 := 116) rfl at_116 (by decide) (pc' := 172) (by decide) (pcN := 119) rfl (fun (c_494 : ¬ (0 : Int) = (0 : Int)) => by omega) (fun (c_494 : (0 : Int) = (0 : Int)) => ?_)
          refine go_aload C at_119 (pc' := 121) rfl rfl rfl ?_
          refine go_virtualP C (as := []) (rest := []) (W := 0) (.long (2 : Int64)) (sat_failedCount l Z a0 hw a_419 _ _ _ F_478) E_476 (wd hw 59 rfl) (wd hw 60 rfl) (wd hw 62 rfl) (wd hw 61 rfl) (wd hw 2 rfl) (wd hw 63 rfl) (by decide) pd_6 rfl rfl rfl (by decide) (by decide) rfl rfl (by decide) (by decide) at_121 (pc' := 124) rfl rfl ?_
          refine go_lload C at_124 (pc' := 126) rfl rfl ?_
          refine go_lcmp C (2 : Int) (2 : Int) (by decide) (by decide) at_126 (pc1 := 127) rfl at_127 (by decide) (pc' := 172) (by decide) (pcN := 130) rfl (fun (c_495 : ¬ (2 : Int) = (2 : Int)) => by omega) (fun (c_495 : (2 : Int) = (2 : Int)) => ?_)
          refine go_aload C at_130 (pc' := 132) rfl rfl rfl ?_
          refine go_virtualP C (as := []) (rest := []) (W := 0) (.long (0 : Int64)) (sat_submittedCount l Z a0 hw a_419 _ _ _ F_479) E_476 (wd hw 66 rfl) (wd hw 67 rfl) (wd hw 69 rfl) (wd hw 68 rfl) (wd hw 2 rfl) (wd hw 70 rfl) (by decide) pd_6 rfl rfl rfl (by decide) (by decide) rfl rfl (by decide) (by decide) at_132 (pc' := 135) rfl rfl ?_
          refine go_lconst C (0 : Int64) at_135 (pc' := 136) rfl (by decide) ?_
          refine go_lcmp C (0 : Int) (0 : Int) (by decide) (by decide) at_136 (pc1 := 137) rfl at_137 (by decide) (pc' := 172) (by decide) (pcN := 140) rfl (fun (c_496 : ¬ (0 : Int) = (0 : Int)) => by omega) (fun (c_496 : (0 : Int) = (0 : Int)) => ?_)
          refine go_aload C at_140 (pc' := 142) rfl rfl rfl ?_
          refine go_virtualP C (as := []) (rest := []) (W := 0) (.long (0 : Int64)) (sat_rejectedCount l Z a0 hw a_419 _ _ _ F_480) E_476 (wd hw 73 rfl) (wd hw 74 rfl) (wd hw 76 rfl) (wd hw 75 rfl) (wd hw 2 rfl) (wd hw 77 rfl) (by decide) pd_6 rfl rfl rfl (by decide) (by decide) rfl rfl (by decide) (by decide) at_142 (pc' := 145) rfl rfl ?_
          refine go_lconst C (0 : Int64) at_145 (pc' := 146) rfl (by decide) ?_
          refine go_lcmp C (0 : Int) (0 : Int) (by decide) (by decide) at_146 (pc1 := 147) rfl at_147 (by decide) (pc' := 172) (by decide) (pcN := 150) rfl (fun (c_497 : ¬ (0 : Int) = (0 : Int)) => by omega) (fun (c_497 : (0 : Int) = (0 : Int)) => ?_)
          refine go_aload C at_150 (pc' := 152) rfl rfl rfl ?_
          refine go_virtualP C (as := []) (rest := []) (W := 0) (.long (0 : Int64)) (sat_rejectedAtShutdownCount l Z a0 hw a_419 _ _ _ F_481) E_476 (wd hw 80 rfl) (wd hw 81 rfl) (wd hw 83 rfl) (wd hw 82 rfl) (wd hw 2 rfl) (wd hw 84 rfl) (by decide) pd_6 rfl rfl rfl (by decide) (by decide) rfl rfl (by decide) (by decide) at_152 (pc' := 155) rfl rfl ?_
          refine go_lconst C (0 : Int64) at_155 (pc' := 156) rfl (by decide) ?_
          refine go_lcmp C (0 : Int) (0 : Int) (by decide) (by decide) at_156 (pc1 := 157) rfl at_157 (by decide) (pc' := 172) (by decide) (pcN := 160) rfl (fun (c_498 : ¬ (0 : Int) = (0 : Int)) => by omega) (fun (c_498 : (0 : Int) = (0 : Int)) => ?_)
          refine go_aload C at_160 (pc' := 162) rfl rfl rfl ?_
          refine go_virtualP C (as := []) (rest := []) (W := 0) (.int (0 : Int32)) (sat_largestPoolSize l Z a0 hw a_419 _ _ _ F_482) E_476 (wd hw 87 rfl) (wd hw 88 rfl) (wd hw 90 rfl) (wd hw 89 rfl) (wd hw 2 rfl) (wd hw 91 rfl) (by decide) pd_7 rfl rfl rfl (by decide) (by decide) rfl rfl (by decide) (by decide) at_162 (pc' := 165) rfl rfl ?_
          refine go_if0 C (0 : Int) (by decide) at_165 (by decide) (pc' := 172) (by decide) (pcN := 168) rfl (fun (c_499 : ¬ (0 : Int) = 0) => by omega) (fun (c_499 : (0 : Int) = 0) => ?_)
          refine go_iconst C (1 : Int32) at_168 (pc' := 169) rfl (by decide) ?_
          refine go_goto C at_169 (by decide) (pc' := 173) (by decide) ?_
          refine go_ireturnN C (z' := (1 : Int32)) rfl (by simp) rfl at_173 (by decide) (by decide) ?_
          exact ⟨_, rfl, rfl⟩
      · skip
        refine go_iconst C (1 : Int32) at_32 (pc' := 33) rfl (by decide) ?_
        refine go_goto C at_33 (by decide) (pc' := 37) (by decide) ?_
        refine go_istore C (Ls' := #[.val (.int x0), .val (.long x1), .second, .val (.int x2), .val (.long x3), .second, .val (.int (0 : Int32)), .val (.int (1 : Int32)), .val (.int (1 : Int32)), .unset, .unset, .unset, .unset, .unset, .unset]) at_37 (pc' := 39) rfl rfl ?_
        refine go_iloadN C at_39 (pc' := 40) rfl rfl ?_
        refine go_iconst C (2 : Int32) at_40 (pc' := 41) rfl (by decide) ?_
        refine go_iand C at_41 (pc' := 42) rfl ?_
        refine go_if0 C ((x2 &&& (2 : Int32)).toInt) rfl at_42 (by decide) (pc' := 49) (by decide) (pcN := 45) rfl (fun (c_500 : ((x2 &&& (2 : Int32)).toInt) = 0) => ?_) (fun (c_500 : ¬ ((x2 &&& (2 : Int32)).toInt) = 0) => ?_)
        · skip
          refine go_iconst C (0 : Int32) at_49 (pc' := 50) rfl (by decide) ?_
          refine go_istore C (Ls' := #[.val (.int x0), .val (.long x1), .second, .val (.int x2), .val (.long x3), .second, .val (.int (0 : Int32)), .val (.int (1 : Int32)), .val (.int (1 : Int32)), .val (.int (0 : Int32)), .unset, .unset, .unset, .unset, .unset]) at_50 (pc' := 52) rfl rfl ?_
          refine go_new C (wd hw 0 rfl) (wd hw 1 rfl) (wd hw 2 rfl) at_52 (pc' := 55) rfl (ce' := 1) (sl' := 41) rfl rfl (by decide) (by decide) ?_
          intro h_501 a_502 g_503 E_504 E_505 D_506
          have g_507 : Z.heap.size ≤ a_502 := own_ge (Nat.le_refl _) g_503
          have z_508 : Z.heap.size ≤ h_501.size := Nat.le_trans (Nat.le_refl _) E_504.1
          have F_509 : Fld Z h_501 a_502 "com/example/pufferfish/pufferfish/pool/PoolTally" "queueWait" "Lcom/example/pufferfish/pufferfish/pool/PoolTally$TimeSum;" (.null) := D_506 (Or.inr (wd hw 22 rfl)) (ty := (.object "com/example/pufferfish/pufferfish/pool/PoolTally$TimeSum")) (by decide)
          have F_510 : Fld Z h_501 a_502 "com/example/pufferfish/pufferfish/pool/PoolTally" "runTime" "Lcom/example/pufferfish/pufferfish/pool/PoolTally$TimeSum;" (.null) := D_506 (Or.inr (wd hw 24 rfl)) (ty := (.object "com/example/pufferfish/pufferfish/pool/PoolTally$TimeSum")) (by decide)
          have F_511 : Fld Z h_501 a_502 "com/example/pufferfish/pufferfish/pool/PoolTally" "completedCount" "J" (.long (0 : Int64)) := D_506 (Or.inl (wd hw 31 rfl)) (ty := .long) (by decide)
          have F_512 : Fld Z h_501 a_502 "com/example/pufferfish/pufferfish/pool/PoolTally" "failedCount" "J" (.long (0 : Int64)) := D_506 (Or.inl (wd hw 65 rfl)) (ty := .long) (by decide)
          have F_513 : Fld Z h_501 a_502 "com/example/pufferfish/pufferfish/pool/PoolTally" "submittedCount" "J" (.long (0 : Int64)) := D_506 (Or.inl (wd hw 72 rfl)) (ty := .long) (by decide)
          have F_514 : Fld Z h_501 a_502 "com/example/pufferfish/pufferfish/pool/PoolTally" "rejectedCount" "J" (.long (0 : Int64)) := D_506 (Or.inl (wd hw 79 rfl)) (ty := .long) (by decide)
          have F_515 : Fld Z h_501 a_502 "com/example/pufferfish/pufferfish/pool/PoolTally" "rejectedAtShutdownCount" "J" (.long (0 : Int64)) := D_506 (Or.inl (wd hw 86 rfl)) (ty := .long) (by decide)
          have F_516 : Fld Z h_501 a_502 "com/example/pufferfish/pufferfish/pool/PoolTally" "largestPoolSize" "I" (.int (0 : Int32)) := D_506 (Or.inl (wd hw 93 rfl)) (ty := .int) (by decide)
          refine go_dup C at_55 (pc' := 56) rfl rfl ?_
          refine go_specialN C (as := []) (rest := [.ref a_502]) (W := 1) (sat_pt l Z a0 hw a_502 _ _ E_505 F_509 F_510 F_511 F_512 F_513 F_514 F_515 F_516 g_507 z_508) rfl (wd hw 3 rfl) (wd hw 4 rfl) (wd hw 2 rfl) (wd hw 5 rfl) (by decide) pd_1 rfl rfl rfl (by decide) (by decide) (ce' := 3) (sl' := 113) rfl rfl (by decide) (by decide) at_56 (pc' := 59) rfl rfl ?_
          intro h_517 q_518
          obtain ⟨E_519, F_520, F_521, F_522, F_523, F_524, F_525, t_526, g_527, F_528, E_529, u_530, u_531, u_532, F_533, F_534, F_535⟩ := q_518
          have n_536 : a_502 ≠ t_526 := ne_exa E_519 E_529 (by decide)
          refine go_astore C (Ls' := #[.val (.int x0), .val (.long x1), .second, .val (.int x2), .val (.long x3), .second, .val (.int (0 : Int32)), .val (.int (1 : Int32)), .val (.int (1 : Int32)), .val (.int (0 : Int32)), .val (.ref a_502), .unset, .unset, .unset, .unset]) at_59 (pc' := 61) rfl rfl rfl ?_
          refine go_aload C at_61 (pc' := 63) rfl rfl rfl ?_
          refine go_iload C at_63 (pc' := 65) rfl rfl ?_
          refine go_iload C at_65 (pc' := 67) rfl rfl ?_
          refine go_lloadN C at_67 (pc' := 68) rfl rfl ?_
          refine go_virtualN C (as := [.int (0 : Int32), .int (1 : Int32), .long x1]) (rest := []) (W := 0) (sat_te01 l Z a0 hw a_502 (0 : Int64) (0 : Int64) (0 : Int64) (0 : Int64) (0 : Int64) (0 : Int32) x1 _ _ ⟨E_519, F_520, F_521, F_522, F_523, F_524, F_525, t_526, g_527, F_528, E_529, _, _, _, F_533, F_534, F_535⟩ g_507) E_519 (wd hw 25 rfl) (wd hw 26 rfl) (wd hw 28 rfl) (wd hw 27 rfl) (wd hw 2 rfl) (wd hw 29 rfl) (by decide) pd_2 rfl rfl rfl (by decide) (by decide) (ce' := 3) (sl' := 113) rfl rfl (by decide) (by decide) at_68 (pc' := 71) rfl rfl ?_
          intro h_537 q_538
          rw [(by decide : (0 : Int64) + (1 : Int64) = (1 : Int64))] at q_538
          obtain ⟨E_539, F_540, F_541, F_542, F_543, F_544, F_545, t_546, g_547, F_548, E_549, u_550, u_551, u_552, F_553, F_554, F_555⟩ := q_538
          have n_556 : a_502 ≠ t_546 := ne_exa E_539 E_549 (by decide)
          refine go_aload C at_71 (pc' := 73) rfl rfl rfl ?_
          refine go_iload C at_73 (pc' := 75) rfl rfl ?_
          refine go_iload C at_75 (pc' := 77) rfl rfl ?_
          refine go_lload C at_77 (pc' := 79) rfl rfl ?_
          refine go_virtualN C (as := [.int (1 : Int32), .int (0 : Int32), .long x3]) (rest := []) (W := 0) (sat_te10 l Z a0 hw a_502 (0 : Int64) (1 : Int64) (0 : Int64) (0 : Int64) (0 : Int64) (0 : Int32) x3 _ _ ⟨E_539, F_540, F_541, F_542, F_543, F_544, F_545, t_546, g_547, F_548, E_549, _, _, _, F_553, F_554, F_555⟩ g_507) E_539 (wd hw 25 rfl) (wd hw 26 rfl) (wd hw 28 rfl) (wd hw 27 rfl) (wd hw 2 rfl) (wd hw 29 rfl) (by decide) pd_2 rfl rfl rfl (by decide) (by decide) (ce' := 3) (sl' := 113) rfl rfl (by decide) (by decide) at_79 (pc' := 82) rfl rfl ?_
          intro h_557 q_558
          rw [(by decide : (0 : Int64) + (1 : Int64) = (1 : Int64))] at q_558
          obtain ⟨E_559, F_560, F_561, F_562, F_563, F_564, F_565, t_566, g_567, F_568, E_569, u_570, u_571, u_572, F_573, F_574, F_575⟩ := q_558
          have n_576 : a_502 ≠ t_566 := ne_exa E_559 E_569 (by decide)
          refine go_iload C at_82 (pc' := 84) rfl rfl ?_
          refine go_staticP C (as := [.int (0 : Int32)]) (rest := []) (W := 0) (.long (0 : Int64)) (sat_one0 l Z a0 hw _ _) (wd hw 50 rfl) (wd hw 51 rfl) (wd hw 52 rfl) (wd hw 53 rfl) (by decide) pd_5 rfl rfl rfl (by decide) (by decide) rfl rfl (by decide) (by decide) at_84 (pc' := 87) rfl rfl ?_
          refine go_iload C at_87 (pc' := 89) rfl rfl ?_
          refine go_staticP C (as := [.int (1 : Int32)]) (rest := [.long (0 : Int64)]) (W := 2) (.long (1 : Int64)) (sat_one1 l Z a0 hw _ _) (wd hw 50 rfl) (wd hw 51 rfl) (wd hw 52 rfl) (wd hw 53 rfl) (by decide) pd_5 rfl rfl rfl (by decide) (by decide) rfl rfl (by decide) (by decide) at_89 (pc' := 92) rfl rfl ?_
          refine go_ladd C at_92 (pc' := 93) rfl ?_
          rw [(by decide : (0 : Int64) + (1 : Int64) = (1 : Int64))]
          refine go_lstore C (Ls' := #[.val (.int x0), .val (.long x1), .second, .val (.int x2), .val (.long x3), .second, .val (.int (0 : Int32)), .val (.int (1 : Int32)), .val (.int (1 : Int32)), .val (.int (0 : Int32)), .val (.ref a_502), .val (.long (1 : Int64)), .second, .unset, .unset]) at_93 (pc' := 95) rfl rfl ?_
          refine go_iload C at_95 (pc' := 97) rfl rfl ?_
          refine go_staticP C (as := [.int (1 : Int32)]) (rest := []) (W := 0) (.long (1 : Int64)) (sat_one1 l Z a0 hw _ _) (wd hw 50 rfl) (wd hw 51 rfl) (wd hw 52 rfl) (wd hw 53 rfl) (by decide) pd_5 rfl rfl rfl (by decide) (by decide) rfl rfl (by decide) (by decide) at_97 (pc' := 100) rfl rfl ?_
          refine go_iload C at_100 (pc' := 102) rfl rfl ?_
          refine go_staticP C (as := [.int (0 : Int32)]) (rest := [.long (1 : Int64)]) (W := 2) (.long (0 : Int64)) (sat_one0 l Z a0 hw _ _) (wd hw 50 rfl) (wd hw 51 rfl) (wd hw 52 rfl) (wd hw 53 rfl) (by decide) pd_5 rfl rfl rfl (by decide) (by decide) rfl rfl (by decide) (by decide) at_102 (pc' := 105) rfl rfl ?_
          refine go_ladd C at_105 (pc' := 106) rfl ?_
          rw [(by decide : (1 : Int64) + (0 : Int64) = (1 : Int64))]
          refine go_lstore C (Ls' := #[.val (.int x0), .val (.long x1), .second, .val (.int x2), .val (.long x3), .second, .val (.int (0 : Int32)), .val (.int (1 : Int32)), .val (.int (1 : Int32)), .val (.int (0 : Int32)), .val (.ref a_502), .val (.long (1 : Int64)), .second, .val (.long (1 : Int64)), .second]) at_106 (pc' := 108) rfl rfl ?_
          refine go_aload C at_108 (pc' := 110) rfl rfl rfl ?_
          refine go_virtualP C (as := []) (rest := []) (W := 0) (.long (1 : Int64)) (sat_completedCount l Z a0 hw a_502 _ _ _ F_560) E_559 (wd hw 54 rfl) (wd hw 55 rfl) (wd hw 57 rfl) (wd hw 56 rfl) (wd hw 2 rfl) (wd hw 58 rfl) (by decide) pd_6 rfl rfl rfl (by decide) (by decide) rfl rfl (by decide) (by decide) at_110 (pc' := 113) rfl rfl ?_
          refine go_lload C at_113 (pc' := 115) rfl rfl ?_
          refine go_lcmp C (1 : Int) (1 : Int) (by decide) (by decide) at_115 (pc1 := 116) rfl at_116 (by decide) (pc' := 172) (by decide) (pcN := 119) rfl (fun (c_577 : ¬ (1 : Int) = (1 : Int)) => by omega) (fun (c_577 : (1 : Int) = (1 : Int)) => ?_)
          refine go_aload C at_119 (pc' := 121) rfl rfl rfl ?_
          refine go_virtualP C (as := []) (rest := []) (W := 0) (.long (1 : Int64)) (sat_failedCount l Z a0 hw a_502 _ _ _ F_561) E_559 (wd hw 59 rfl) (wd hw 60 rfl) (wd hw 62 rfl) (wd hw 61 rfl) (wd hw 2 rfl) (wd hw 63 rfl) (by decide) pd_6 rfl rfl rfl (by decide) (by decide) rfl rfl (by decide) (by decide) at_121 (pc' := 124) rfl rfl ?_
          refine go_lload C at_124 (pc' := 126) rfl rfl ?_
          refine go_lcmp C (1 : Int) (1 : Int) (by decide) (by decide) at_126 (pc1 := 127) rfl at_127 (by decide) (pc' := 172) (by decide) (pcN := 130) rfl (fun (c_578 : ¬ (1 : Int) = (1 : Int)) => by omega) (fun (c_578 : (1 : Int) = (1 : Int)) => ?_)
          refine go_aload C at_130 (pc' := 132) rfl rfl rfl ?_
          refine go_virtualP C (as := []) (rest := []) (W := 0) (.long (0 : Int64)) (sat_submittedCount l Z a0 hw a_502 _ _ _ F_562) E_559 (wd hw 66 rfl) (wd hw 67 rfl) (wd hw 69 rfl) (wd hw 68 rfl) (wd hw 2 rfl) (wd hw 70 rfl) (by decide) pd_6 rfl rfl rfl (by decide) (by decide) rfl rfl (by decide) (by decide) at_132 (pc' := 135) rfl rfl ?_
          refine go_lconst C (0 : Int64) at_135 (pc' := 136) rfl (by decide) ?_
          refine go_lcmp C (0 : Int) (0 : Int) (by decide) (by decide) at_136 (pc1 := 137) rfl at_137 (by decide) (pc' := 172) (by decide) (pcN := 140) rfl (fun (c_579 : ¬ (0 : Int) = (0 : Int)) => by omega) (fun (c_579 : (0 : Int) = (0 : Int)) => ?_)
          refine go_aload C at_140 (pc' := 142) rfl rfl rfl ?_
          refine go_virtualP C (as := []) (rest := []) (W := 0) (.long (0 : Int64)) (sat_rejectedCount l Z a0 hw a_502 _ _ _ F_563) E_559 (wd hw 73 rfl) (wd hw 74 rfl) (wd hw 76 rfl) (wd hw 75 rfl) (wd hw 2 rfl) (wd hw 77 rfl) (by decide) pd_6 rfl rfl rfl (by decide) (by decide) rfl rfl (by decide) (by decide) at_142 (pc' := 145) rfl rfl ?_
          refine go_lconst C (0 : Int64) at_145 (pc' := 146) rfl (by decide) ?_
          refine go_lcmp C (0 : Int) (0 : Int) (by decide) (by decide) at_146 (pc1 := 147) rfl at_147 (by decide) (pc' := 172) (by decide) (pcN := 150) rfl (fun (c_580 : ¬ (0 : Int) = (0 : Int)) => by omega) (fun (c_580 : (0 : Int) = (0 : Int)) => ?_)
          refine go_aload C at_150 (pc' := 152) rfl rfl rfl ?_
          refine go_virtualP C (as := []) (rest := []) (W := 0) (.long (0 : Int64)) (sat_rejectedAtShutdownCount l Z a0 hw a_502 _ _ _ F_564) E_559 (wd hw 80 rfl) (wd hw 81 rfl) (wd hw 83 rfl) (wd hw 82 rfl) (wd hw 2 rfl) (wd hw 84 rfl) (by decide) pd_6 rfl rfl rfl (by decide) (by decide) rfl rfl (by decide) (by decide) at_152 (pc' := 155) rfl rfl ?_
          refine go_lconst C (0 : Int64) at_155 (pc' := 156) rfl (by decide) ?_
          refine go_lcmp C (0 : Int) (0 : Int) (by decide) (by decide) at_156 (pc1 := 157) rfl at_157 (by decide) (pc' := 172) (by decide) (pcN := 160) rfl (fun (c_581 : ¬ (0 : Int) = (0 : Int)) => by omega) (fun (c_581 : (0 : Int) = (0 : Int)) => ?_)
          refine go_aload C at_160 (pc' := 162) rfl rfl rfl ?_
          refine go_virtualP C (as := []) (rest := []) (W := 0) (.int (0 : Int32)) (sat_largestPoolSize l Z a0 hw a_502 _ _ _ F_565) E_559 (wd hw 87 rfl) (wd hw 88 rfl) (wd hw 90 rfl) (wd hw 89 rfl) (wd hw 2 rfl) (wd hw 91 rfl) (by decide) pd_7 rfl rfl rfl (by decide) (by decide) rfl rfl (by decide) (by decide) at_162 (pc' := 165) rfl rfl ?_
          refine go_if0 C (0 : Int) (by decide) at_165 (by decide) (pc' := 172) (by decide) (pcN := 168) rfl (fun (c_582 : ¬ (0 : Int) = 0) => by omega) (fun (c_582 : (0 : Int) = 0) => ?_)
          refine go_iconst C (1 : Int32) at_168 (pc' := 169) rfl (by decide) ?_
          refine go_goto C at_169 (by decide) (pc' := 173) (by decide) ?_
          refine go_ireturnN C (z' := (1 : Int32)) rfl (by simp) rfl at_173 (by decide) (by decide) ?_
          exact ⟨_, rfl, rfl⟩
        · skip
          refine go_iconst C (1 : Int32) at_45 (pc' := 46) rfl (by decide) ?_
          refine go_goto C at_46 (by decide) (pc' := 50) (by decide) ?_
          refine go_istore C (Ls' := #[.val (.int x0), .val (.long x1), .second, .val (.int x2), .val (.long x3), .second, .val (.int (0 : Int32)), .val (.int (1 : Int32)), .val (.int (1 : Int32)), .val (.int (1 : Int32)), .unset, .unset, .unset, .unset, .unset]) at_50 (pc' := 52) rfl rfl ?_
          refine go_new C (wd hw 0 rfl) (wd hw 1 rfl) (wd hw 2 rfl) at_52 (pc' := 55) rfl (ce' := 1) (sl' := 41) rfl rfl (by decide) (by decide) ?_
          intro h_583 a_584 g_585 E_586 E_587 D_588
          have g_589 : Z.heap.size ≤ a_584 := own_ge (Nat.le_refl _) g_585
          have z_590 : Z.heap.size ≤ h_583.size := Nat.le_trans (Nat.le_refl _) E_586.1
          have F_591 : Fld Z h_583 a_584 "com/example/pufferfish/pufferfish/pool/PoolTally" "queueWait" "Lcom/example/pufferfish/pufferfish/pool/PoolTally$TimeSum;" (.null) := D_588 (Or.inr (wd hw 22 rfl)) (ty := (.object "com/example/pufferfish/pufferfish/pool/PoolTally$TimeSum")) (by decide)
          have F_592 : Fld Z h_583 a_584 "com/example/pufferfish/pufferfish/pool/PoolTally" "runTime" "Lcom/example/pufferfish/pufferfish/pool/PoolTally$TimeSum;" (.null) := D_588 (Or.inr (wd hw 24 rfl)) (ty := (.object "com/example/pufferfish/pufferfish/pool/PoolTally$TimeSum")) (by decide)
          have F_593 : Fld Z h_583 a_584 "com/example/pufferfish/pufferfish/pool/PoolTally" "completedCount" "J" (.long (0 : Int64)) := D_588 (Or.inl (wd hw 31 rfl)) (ty := .long) (by decide)
          have F_594 : Fld Z h_583 a_584 "com/example/pufferfish/pufferfish/pool/PoolTally" "failedCount" "J" (.long (0 : Int64)) := D_588 (Or.inl (wd hw 65 rfl)) (ty := .long) (by decide)
          have F_595 : Fld Z h_583 a_584 "com/example/pufferfish/pufferfish/pool/PoolTally" "submittedCount" "J" (.long (0 : Int64)) := D_588 (Or.inl (wd hw 72 rfl)) (ty := .long) (by decide)
          have F_596 : Fld Z h_583 a_584 "com/example/pufferfish/pufferfish/pool/PoolTally" "rejectedCount" "J" (.long (0 : Int64)) := D_588 (Or.inl (wd hw 79 rfl)) (ty := .long) (by decide)
          have F_597 : Fld Z h_583 a_584 "com/example/pufferfish/pufferfish/pool/PoolTally" "rejectedAtShutdownCount" "J" (.long (0 : Int64)) := D_588 (Or.inl (wd hw 86 rfl)) (ty := .long) (by decide)
          have F_598 : Fld Z h_583 a_584 "com/example/pufferfish/pufferfish/pool/PoolTally" "largestPoolSize" "I" (.int (0 : Int32)) := D_588 (Or.inl (wd hw 93 rfl)) (ty := .int) (by decide)
          refine go_dup C at_55 (pc' := 56) rfl rfl ?_
          refine go_specialN C (as := []) (rest := [.ref a_584]) (W := 1) (sat_pt l Z a0 hw a_584 _ _ E_587 F_591 F_592 F_593 F_594 F_595 F_596 F_597 F_598 g_589 z_590) rfl (wd hw 3 rfl) (wd hw 4 rfl) (wd hw 2 rfl) (wd hw 5 rfl) (by decide) pd_1 rfl rfl rfl (by decide) (by decide) (ce' := 3) (sl' := 113) rfl rfl (by decide) (by decide) at_56 (pc' := 59) rfl rfl ?_
          intro h_599 q_600
          obtain ⟨E_601, F_602, F_603, F_604, F_605, F_606, F_607, t_608, g_609, F_610, E_611, u_612, u_613, u_614, F_615, F_616, F_617⟩ := q_600
          have n_618 : a_584 ≠ t_608 := ne_exa E_601 E_611 (by decide)
          refine go_astore C (Ls' := #[.val (.int x0), .val (.long x1), .second, .val (.int x2), .val (.long x3), .second, .val (.int (0 : Int32)), .val (.int (1 : Int32)), .val (.int (1 : Int32)), .val (.int (1 : Int32)), .val (.ref a_584), .unset, .unset, .unset, .unset]) at_59 (pc' := 61) rfl rfl rfl ?_
          refine go_aload C at_61 (pc' := 63) rfl rfl rfl ?_
          refine go_iload C at_63 (pc' := 65) rfl rfl ?_
          refine go_iload C at_65 (pc' := 67) rfl rfl ?_
          refine go_lloadN C at_67 (pc' := 68) rfl rfl ?_
          refine go_virtualN C (as := [.int (0 : Int32), .int (1 : Int32), .long x1]) (rest := []) (W := 0) (sat_te01 l Z a0 hw a_584 (0 : Int64) (0 : Int64) (0 : Int64) (0 : Int64) (0 : Int64) (0 : Int32) x1 _ _ ⟨E_601, F_602, F_603, F_604, F_605, F_606, F_607, t_608, g_609, F_610, E_611, _, _, _, F_615, F_616, F_617⟩ g_589) E_601 (wd hw 25 rfl) (wd hw 26 rfl) (wd hw 28 rfl) (wd hw 27 rfl) (wd hw 2 rfl) (wd hw 29 rfl) (by decide) pd_2 rfl rfl rfl (by decide) (by decide) (ce' := 3) (sl' := 113) rfl rfl (by decide) (by decide) at_68 (pc' := 71) rfl rfl ?_
          intro h_619 q_620
          rw [(by decide : (0 : Int64) + (1 : Int64) = (1 : Int64))] at q_620
          obtain ⟨E_621, F_622, F_623, F_624, F_625, F_626, F_627, t_628, g_629, F_630, E_631, u_632, u_633, u_634, F_635, F_636, F_637⟩ := q_620
          have n_638 : a_584 ≠ t_628 := ne_exa E_621 E_631 (by decide)
          refine go_aload C at_71 (pc' := 73) rfl rfl rfl ?_
          refine go_iload C at_73 (pc' := 75) rfl rfl ?_
          refine go_iload C at_75 (pc' := 77) rfl rfl ?_
          refine go_lload C at_77 (pc' := 79) rfl rfl ?_
          refine go_virtualN C (as := [.int (1 : Int32), .int (1 : Int32), .long x3]) (rest := []) (W := 0) (sat_te11 l Z a0 hw a_584 (0 : Int64) (1 : Int64) (0 : Int64) (0 : Int64) (0 : Int64) (0 : Int32) x3 _ _ ⟨E_621, F_622, F_623, F_624, F_625, F_626, F_627, t_628, g_629, F_630, E_631, _, _, _, F_635, F_636, F_637⟩ g_589) E_621 (wd hw 25 rfl) (wd hw 26 rfl) (wd hw 28 rfl) (wd hw 27 rfl) (wd hw 2 rfl) (wd hw 29 rfl) (by decide) pd_2 rfl rfl rfl (by decide) (by decide) (ce' := 3) (sl' := 113) rfl rfl (by decide) (by decide) at_79 (pc' := 82) rfl rfl ?_
          intro h_639 q_640
          rw [(by decide : (0 : Int64) + (1 : Int64) = (1 : Int64))] at q_640
          rw [(by decide : (1 : Int64) + (1 : Int64) = (2 : Int64))] at q_640
          obtain ⟨E_641, F_642, F_643, F_644, F_645, F_646, F_647, t_648, g_649, F_650, E_651, u_652, u_653, u_654, F_655, F_656, F_657⟩ := q_640
          have n_658 : a_584 ≠ t_648 := ne_exa E_641 E_651 (by decide)
          refine go_iload C at_82 (pc' := 84) rfl rfl ?_
          refine go_staticP C (as := [.int (0 : Int32)]) (rest := []) (W := 0) (.long (0 : Int64)) (sat_one0 l Z a0 hw _ _) (wd hw 50 rfl) (wd hw 51 rfl) (wd hw 52 rfl) (wd hw 53 rfl) (by decide) pd_5 rfl rfl rfl (by decide) (by decide) rfl rfl (by decide) (by decide) at_84 (pc' := 87) rfl rfl ?_
          refine go_iload C at_87 (pc' := 89) rfl rfl ?_
          refine go_staticP C (as := [.int (1 : Int32)]) (rest := [.long (0 : Int64)]) (W := 2) (.long (1 : Int64)) (sat_one1 l Z a0 hw _ _) (wd hw 50 rfl) (wd hw 51 rfl) (wd hw 52 rfl) (wd hw 53 rfl) (by decide) pd_5 rfl rfl rfl (by decide) (by decide) rfl rfl (by decide) (by decide) at_89 (pc' := 92) rfl rfl ?_
          refine go_ladd C at_92 (pc' := 93) rfl ?_
          rw [(by decide : (0 : Int64) + (1 : Int64) = (1 : Int64))]
          refine go_lstore C (Ls' := #[.val (.int x0), .val (.long x1), .second, .val (.int x2), .val (.long x3), .second, .val (.int (0 : Int32)), .val (.int (1 : Int32)), .val (.int (1 : Int32)), .val (.int (1 : Int32)), .val (.ref a_584), .val (.long (1 : Int64)), .second, .unset, .unset]) at_93 (pc' := 95) rfl rfl ?_
          refine go_iload C at_95 (pc' := 97) rfl rfl ?_
          refine go_staticP C (as := [.int (1 : Int32)]) (rest := []) (W := 0) (.long (1 : Int64)) (sat_one1 l Z a0 hw _ _) (wd hw 50 rfl) (wd hw 51 rfl) (wd hw 52 rfl) (wd hw 53 rfl) (by decide) pd_5 rfl rfl rfl (by decide) (by decide) rfl rfl (by decide) (by decide) at_97 (pc' := 100) rfl rfl ?_
          refine go_iload C at_100 (pc' := 102) rfl rfl ?_
          refine go_staticP C (as := [.int (1 : Int32)]) (rest := [.long (1 : Int64)]) (W := 2) (.long (1 : Int64)) (sat_one1 l Z a0 hw _ _) (wd hw 50 rfl) (wd hw 51 rfl) (wd hw 52 rfl) (wd hw 53 rfl) (by decide) pd_5 rfl rfl rfl (by decide) (by decide) rfl rfl (by decide) (by decide) at_102 (pc' := 105) rfl rfl ?_
          refine go_ladd C at_105 (pc' := 106) rfl ?_
          rw [(by decide : (1 : Int64) + (1 : Int64) = (2 : Int64))]
          refine go_lstore C (Ls' := #[.val (.int x0), .val (.long x1), .second, .val (.int x2), .val (.long x3), .second, .val (.int (0 : Int32)), .val (.int (1 : Int32)), .val (.int (1 : Int32)), .val (.int (1 : Int32)), .val (.ref a_584), .val (.long (1 : Int64)), .second, .val (.long (2 : Int64)), .second]) at_106 (pc' := 108) rfl rfl ?_
          refine go_aload C at_108 (pc' := 110) rfl rfl rfl ?_
          refine go_virtualP C (as := []) (rest := []) (W := 0) (.long (1 : Int64)) (sat_completedCount l Z a0 hw a_584 _ _ _ F_642) E_641 (wd hw 54 rfl) (wd hw 55 rfl) (wd hw 57 rfl) (wd hw 56 rfl) (wd hw 2 rfl) (wd hw 58 rfl) (by decide) pd_6 rfl rfl rfl (by decide) (by decide) rfl rfl (by decide) (by decide) at_110 (pc' := 113) rfl rfl ?_
          refine go_lload C at_113 (pc' := 115) rfl rfl ?_
          refine go_lcmp C (1 : Int) (1 : Int) (by decide) (by decide) at_115 (pc1 := 116) rfl at_116 (by decide) (pc' := 172) (by decide) (pcN := 119) rfl (fun (c_659 : ¬ (1 : Int) = (1 : Int)) => by omega) (fun (c_659 : (1 : Int) = (1 : Int)) => ?_)
          refine go_aload C at_119 (pc' := 121) rfl rfl rfl ?_
          refine go_virtualP C (as := []) (rest := []) (W := 0) (.long (2 : Int64)) (sat_failedCount l Z a0 hw a_584 _ _ _ F_643) E_641 (wd hw 59 rfl) (wd hw 60 rfl) (wd hw 62 rfl) (wd hw 61 rfl) (wd hw 2 rfl) (wd hw 63 rfl) (by decide) pd_6 rfl rfl rfl (by decide) (by decide) rfl rfl (by decide) (by decide) at_121 (pc' := 124) rfl rfl ?_
          refine go_lload C at_124 (pc' := 126) rfl rfl ?_
          refine go_lcmp C (2 : Int) (2 : Int) (by decide) (by decide) at_126 (pc1 := 127) rfl at_127 (by decide) (pc' := 172) (by decide) (pcN := 130) rfl (fun (c_660 : ¬ (2 : Int) = (2 : Int)) => by omega) (fun (c_660 : (2 : Int) = (2 : Int)) => ?_)
          refine go_aload C at_130 (pc' := 132) rfl rfl rfl ?_
          refine go_virtualP C (as := []) (rest := []) (W := 0) (.long (0 : Int64)) (sat_submittedCount l Z a0 hw a_584 _ _ _ F_644) E_641 (wd hw 66 rfl) (wd hw 67 rfl) (wd hw 69 rfl) (wd hw 68 rfl) (wd hw 2 rfl) (wd hw 70 rfl) (by decide) pd_6 rfl rfl rfl (by decide) (by decide) rfl rfl (by decide) (by decide) at_132 (pc' := 135) rfl rfl ?_
          refine go_lconst C (0 : Int64) at_135 (pc' := 136) rfl (by decide) ?_
          refine go_lcmp C (0 : Int) (0 : Int) (by decide) (by decide) at_136 (pc1 := 137) rfl at_137 (by decide) (pc' := 172) (by decide) (pcN := 140) rfl (fun (c_661 : ¬ (0 : Int) = (0 : Int)) => by omega) (fun (c_661 : (0 : Int) = (0 : Int)) => ?_)
          refine go_aload C at_140 (pc' := 142) rfl rfl rfl ?_
          refine go_virtualP C (as := []) (rest := []) (W := 0) (.long (0 : Int64)) (sat_rejectedCount l Z a0 hw a_584 _ _ _ F_645) E_641 (wd hw 73 rfl) (wd hw 74 rfl) (wd hw 76 rfl) (wd hw 75 rfl) (wd hw 2 rfl) (wd hw 77 rfl) (by decide) pd_6 rfl rfl rfl (by decide) (by decide) rfl rfl (by decide) (by decide) at_142 (pc' := 145) rfl rfl ?_
          refine go_lconst C (0 : Int64) at_145 (pc' := 146) rfl (by decide) ?_
          refine go_lcmp C (0 : Int) (0 : Int) (by decide) (by decide) at_146 (pc1 := 147) rfl at_147 (by decide) (pc' := 172) (by decide) (pcN := 150) rfl (fun (c_662 : ¬ (0 : Int) = (0 : Int)) => by omega) (fun (c_662 : (0 : Int) = (0 : Int)) => ?_)
          refine go_aload C at_150 (pc' := 152) rfl rfl rfl ?_
          refine go_virtualP C (as := []) (rest := []) (W := 0) (.long (0 : Int64)) (sat_rejectedAtShutdownCount l Z a0 hw a_584 _ _ _ F_646) E_641 (wd hw 80 rfl) (wd hw 81 rfl) (wd hw 83 rfl) (wd hw 82 rfl) (wd hw 2 rfl) (wd hw 84 rfl) (by decide) pd_6 rfl rfl rfl (by decide) (by decide) rfl rfl (by decide) (by decide) at_152 (pc' := 155) rfl rfl ?_
          refine go_lconst C (0 : Int64) at_155 (pc' := 156) rfl (by decide) ?_
          refine go_lcmp C (0 : Int) (0 : Int) (by decide) (by decide) at_156 (pc1 := 157) rfl at_157 (by decide) (pc' := 172) (by decide) (pcN := 160) rfl (fun (c_663 : ¬ (0 : Int) = (0 : Int)) => by omega) (fun (c_663 : (0 : Int) = (0 : Int)) => ?_)
          refine go_aload C at_160 (pc' := 162) rfl rfl rfl ?_
          refine go_virtualP C (as := []) (rest := []) (W := 0) (.int (0 : Int32)) (sat_largestPoolSize l Z a0 hw a_584 _ _ _ F_647) E_641 (wd hw 87 rfl) (wd hw 88 rfl) (wd hw 90 rfl) (wd hw 89 rfl) (wd hw 2 rfl) (wd hw 91 rfl) (by decide) pd_7 rfl rfl rfl (by decide) (by decide) rfl rfl (by decide) (by decide) at_162 (pc' := 165) rfl rfl ?_
          refine go_if0 C (0 : Int) (by decide) at_165 (by decide) (pc' := 172) (by decide) (pcN := 168) rfl (fun (c_664 : ¬ (0 : Int) = 0) => by omega) (fun (c_664 : (0 : Int) = 0) => ?_)
          refine go_iconst C (1 : Int32) at_168 (pc' := 169) rfl (by decide) ?_
          refine go_goto C at_169 (by decide) (pc' := 173) (by decide) ?_
          refine go_ireturnN C (z' := (1 : Int32)) rfl (by simp) rfl at_173 (by decide) (by decide) ?_
          exact ⟨_, rfl, rfl⟩
  · skip
    refine go_iconst C (1 : Int32) at_6 (pc' := 7) rfl (by decide) ?_
    refine go_goto C at_7 (by decide) (pc' := 11) (by decide) ?_
    refine go_istore C (Ls' := #[.val (.int x0), .val (.long x1), .second, .val (.int x2), .val (.long x3), .second, .val (.int (1 : Int32)), .unset, .unset, .unset, .unset, .unset, .unset, .unset, .unset]) at_11 (pc' := 13) rfl rfl ?_
    refine go_iloadN C at_13 (pc' := 14) rfl rfl ?_
    refine go_iconst C (2 : Int32) at_14 (pc' := 15) rfl (by decide) ?_
    refine go_iand C at_15 (pc' := 16) rfl ?_
    refine go_if0 C ((x0 &&& (2 : Int32)).toInt) rfl at_16 (by decide) (pc' := 23) (by decide) (pcN := 19) rfl (fun (c_665 : ((x0 &&& (2 : Int32)).toInt) = 0) => ?_) (fun (c_665 : ¬ ((x0 &&& (2 : Int32)).toInt) = 0) => ?_)
    · skip
      refine go_iconst C (0 : Int32) at_23 (pc' := 24) rfl (by decide) ?_
      refine go_istore C (Ls' := #[.val (.int x0), .val (.long x1), .second, .val (.int x2), .val (.long x3), .second, .val (.int (1 : Int32)), .val (.int (0 : Int32)), .unset, .unset, .unset, .unset, .unset, .unset, .unset]) at_24 (pc' := 26) rfl rfl ?_
      refine go_iloadN C at_26 (pc' := 27) rfl rfl ?_
      refine go_iconst C (1 : Int32) at_27 (pc' := 28) rfl (by decide) ?_
      refine go_iand C at_28 (pc' := 29) rfl ?_
      refine go_if0 C ((x2 &&& (1 : Int32)).toInt) rfl at_29 (by decide) (pc' := 36) (by decide) (pcN := 32) rfl (fun (c_666 : ((x2 &&& (1 : Int32)).toInt) = 0) => ?_) (fun (c_666 : ¬ ((x2 &&& (1 : Int32)).toInt) = 0) => ?_)
      · skip
        refine go_iconst C (0 : Int32) at_36 (pc' := 37) rfl (by decide) ?_
        refine go_istore C (Ls' := #[.val (.int x0), .val (.long x1), .second, .val (.int x2), .val (.long x3), .second, .val (.int (1 : Int32)), .val (.int (0 : Int32)), .val (.int (0 : Int32)), .unset, .unset, .unset, .unset, .unset, .unset]) at_37 (pc' := 39) rfl rfl ?_
        refine go_iloadN C at_39 (pc' := 40) rfl rfl ?_
        refine go_iconst C (2 : Int32) at_40 (pc' := 41) rfl (by decide) ?_
        refine go_iand C at_41 (pc' := 42) rfl ?_
        refine go_if0 C ((x2 &&& (2 : Int32)).toInt) rfl at_42 (by decide) (pc' := 49) (by decide) (pcN := 45) rfl (fun (c_667 : ((x2 &&& (2 : Int32)).toInt) = 0) => ?_) (fun (c_667 : ¬ ((x2 &&& (2 : Int32)).toInt) = 0) => ?_)
        · skip
          refine go_iconst C (0 : Int32) at_49 (pc' := 50) rfl (by decide) ?_
          refine go_istore C (Ls' := #[.val (.int x0), .val (.long x1), .second, .val (.int x2), .val (.long x3), .second, .val (.int (1 : Int32)), .val (.int (0 : Int32)), .val (.int (0 : Int32)), .val (.int (0 : Int32)), .unset, .unset, .unset, .unset, .unset]) at_50 (pc' := 52) rfl rfl ?_
          refine go_new C (wd hw 0 rfl) (wd hw 1 rfl) (wd hw 2 rfl) at_52 (pc' := 55) rfl (ce' := 1) (sl' := 41) rfl rfl (by decide) (by decide) ?_
          intro h_668 a_669 g_670 E_671 E_672 D_673
          have g_674 : Z.heap.size ≤ a_669 := own_ge (Nat.le_refl _) g_670
          have z_675 : Z.heap.size ≤ h_668.size := Nat.le_trans (Nat.le_refl _) E_671.1
          have F_676 : Fld Z h_668 a_669 "com/example/pufferfish/pufferfish/pool/PoolTally" "queueWait" "Lcom/example/pufferfish/pufferfish/pool/PoolTally$TimeSum;" (.null) := D_673 (Or.inr (wd hw 22 rfl)) (ty := (.object "com/example/pufferfish/pufferfish/pool/PoolTally$TimeSum")) (by decide)
          have F_677 : Fld Z h_668 a_669 "com/example/pufferfish/pufferfish/pool/PoolTally" "runTime" "Lcom/example/pufferfish/pufferfish/pool/PoolTally$TimeSum;" (.null) := D_673 (Or.inr (wd hw 24 rfl)) (ty := (.object "com/example/pufferfish/pufferfish/pool/PoolTally$TimeSum")) (by decide)
          have F_678 : Fld Z h_668 a_669 "com/example/pufferfish/pufferfish/pool/PoolTally" "completedCount" "J" (.long (0 : Int64)) := D_673 (Or.inl (wd hw 31 rfl)) (ty := .long) (by decide)
          have F_679 : Fld Z h_668 a_669 "com/example/pufferfish/pufferfish/pool/PoolTally" "failedCount" "J" (.long (0 : Int64)) := D_673 (Or.inl (wd hw 65 rfl)) (ty := .long) (by decide)
          have F_680 : Fld Z h_668 a_669 "com/example/pufferfish/pufferfish/pool/PoolTally" "submittedCount" "J" (.long (0 : Int64)) := D_673 (Or.inl (wd hw 72 rfl)) (ty := .long) (by decide)
          have F_681 : Fld Z h_668 a_669 "com/example/pufferfish/pufferfish/pool/PoolTally" "rejectedCount" "J" (.long (0 : Int64)) := D_673 (Or.inl (wd hw 79 rfl)) (ty := .long) (by decide)
          have F_682 : Fld Z h_668 a_669 "com/example/pufferfish/pufferfish/pool/PoolTally" "rejectedAtShutdownCount" "J" (.long (0 : Int64)) := D_673 (Or.inl (wd hw 86 rfl)) (ty := .long) (by decide)
          have F_683 : Fld Z h_668 a_669 "com/example/pufferfish/pufferfish/pool/PoolTally" "largestPoolSize" "I" (.int (0 : Int32)) := D_673 (Or.inl (wd hw 93 rfl)) (ty := .int) (by decide)
          refine go_dup C at_55 (pc' := 56) rfl rfl ?_
          refine go_specialN C (as := []) (rest := [.ref a_669]) (W := 1) (sat_pt l Z a0 hw a_669 _ _ E_672 F_676 F_677 F_678 F_679 F_680 F_681 F_682 F_683 g_674 z_675) rfl (wd hw 3 rfl) (wd hw 4 rfl) (wd hw 2 rfl) (wd hw 5 rfl) (by decide) pd_1 rfl rfl rfl (by decide) (by decide) (ce' := 3) (sl' := 113) rfl rfl (by decide) (by decide) at_56 (pc' := 59) rfl rfl ?_
          intro h_684 q_685
          obtain ⟨E_686, F_687, F_688, F_689, F_690, F_691, F_692, t_693, g_694, F_695, E_696, u_697, u_698, u_699, F_700, F_701, F_702⟩ := q_685
          have n_703 : a_669 ≠ t_693 := ne_exa E_686 E_696 (by decide)
          refine go_astore C (Ls' := #[.val (.int x0), .val (.long x1), .second, .val (.int x2), .val (.long x3), .second, .val (.int (1 : Int32)), .val (.int (0 : Int32)), .val (.int (0 : Int32)), .val (.int (0 : Int32)), .val (.ref a_669), .unset, .unset, .unset, .unset]) at_59 (pc' := 61) rfl rfl rfl ?_
          refine go_aload C at_61 (pc' := 63) rfl rfl rfl ?_
          refine go_iload C at_63 (pc' := 65) rfl rfl ?_
          refine go_iload C at_65 (pc' := 67) rfl rfl ?_
          refine go_lloadN C at_67 (pc' := 68) rfl rfl ?_
          refine go_virtualN C (as := [.int (1 : Int32), .int (0 : Int32), .long x1]) (rest := []) (W := 0) (sat_te10 l Z a0 hw a_669 (0 : Int64) (0 : Int64) (0 : Int64) (0 : Int64) (0 : Int64) (0 : Int32) x1 _ _ ⟨E_686, F_687, F_688, F_689, F_690, F_691, F_692, t_693, g_694, F_695, E_696, _, _, _, F_700, F_701, F_702⟩ g_674) E_686 (wd hw 25 rfl) (wd hw 26 rfl) (wd hw 28 rfl) (wd hw 27 rfl) (wd hw 2 rfl) (wd hw 29 rfl) (by decide) pd_2 rfl rfl rfl (by decide) (by decide) (ce' := 3) (sl' := 113) rfl rfl (by decide) (by decide) at_68 (pc' := 71) rfl rfl ?_
          intro h_704 q_705
          rw [(by decide : (0 : Int64) + (1 : Int64) = (1 : Int64))] at q_705
          obtain ⟨E_706, F_707, F_708, F_709, F_710, F_711, F_712, t_713, g_714, F_715, E_716, u_717, u_718, u_719, F_720, F_721, F_722⟩ := q_705
          have n_723 : a_669 ≠ t_713 := ne_exa E_706 E_716 (by decide)
          refine go_aload C at_71 (pc' := 73) rfl rfl rfl ?_
          refine go_iload C at_73 (pc' := 75) rfl rfl ?_
          refine go_iload C at_75 (pc' := 77) rfl rfl ?_
          refine go_lload C at_77 (pc' := 79) rfl rfl ?_
          refine go_virtualN C (as := [.int (0 : Int32), .int (0 : Int32), .long x3]) (rest := []) (W := 0) (sat_te00 l Z a0 hw a_669 (1 : Int64) (0 : Int64) (0 : Int64) (0 : Int64) (0 : Int64) (0 : Int32) x3 _ _ ⟨E_706, F_707, F_708, F_709, F_710, F_711, F_712, t_713, g_714, F_715, E_716, _, _, _, F_720, F_721, F_722⟩ g_674) E_706 (wd hw 25 rfl) (wd hw 26 rfl) (wd hw 28 rfl) (wd hw 27 rfl) (wd hw 2 rfl) (wd hw 29 rfl) (by decide) pd_2 rfl rfl rfl (by decide) (by decide) (ce' := 3) (sl' := 113) rfl rfl (by decide) (by decide) at_79 (pc' := 82) rfl rfl ?_
          intro h_724 q_725
          obtain ⟨E_726, F_727, F_728, F_729, F_730, F_731, F_732, t_733, g_734, F_735, E_736, u_737, u_738, u_739, F_740, F_741, F_742⟩ := q_725
          have n_743 : a_669 ≠ t_733 := ne_exa E_726 E_736 (by decide)
          refine go_iload C at_82 (pc' := 84) rfl rfl ?_
          refine go_staticP C (as := [.int (1 : Int32)]) (rest := []) (W := 0) (.long (1 : Int64)) (sat_one1 l Z a0 hw _ _) (wd hw 50 rfl) (wd hw 51 rfl) (wd hw 52 rfl) (wd hw 53 rfl) (by decide) pd_5 rfl rfl rfl (by decide) (by decide) rfl rfl (by decide) (by decide) at_84 (pc' := 87) rfl rfl ?_
          refine go_iload C at_87 (pc' := 89) rfl rfl ?_
          refine go_staticP C (as := [.int (0 : Int32)]) (rest := [.long (1 : Int64)]) (W := 2) (.long (0 : Int64)) (sat_one0 l Z a0 hw _ _) (wd hw 50 rfl) (wd hw 51 rfl) (wd hw 52 rfl) (wd hw 53 rfl) (by decide) pd_5 rfl rfl rfl (by decide) (by decide) rfl rfl (by decide) (by decide) at_89 (pc' := 92) rfl rfl ?_
          refine go_ladd C at_92 (pc' := 93) rfl ?_
          rw [(by decide : (1 : Int64) + (0 : Int64) = (1 : Int64))]
          refine go_lstore C (Ls' := #[.val (.int x0), .val (.long x1), .second, .val (.int x2), .val (.long x3), .second, .val (.int (1 : Int32)), .val (.int (0 : Int32)), .val (.int (0 : Int32)), .val (.int (0 : Int32)), .val (.ref a_669), .val (.long (1 : Int64)), .second, .unset, .unset]) at_93 (pc' := 95) rfl rfl ?_
          refine go_iload C at_95 (pc' := 97) rfl rfl ?_
          refine go_staticP C (as := [.int (0 : Int32)]) (rest := []) (W := 0) (.long (0 : Int64)) (sat_one0 l Z a0 hw _ _) (wd hw 50 rfl) (wd hw 51 rfl) (wd hw 52 rfl) (wd hw 53 rfl) (by decide) pd_5 rfl rfl rfl (by decide) (by decide) rfl rfl (by decide) (by decide) at_97 (pc' := 100) rfl rfl ?_
          refine go_iload C at_100 (pc' := 102) rfl rfl ?_
          refine go_staticP C (as := [.int (0 : Int32)]) (rest := [.long (0 : Int64)]) (W := 2) (.long (0 : Int64)) (sat_one0 l Z a0 hw _ _) (wd hw 50 rfl) (wd hw 51 rfl) (wd hw 52 rfl) (wd hw 53 rfl) (by decide) pd_5 rfl rfl rfl (by decide) (by decide) rfl rfl (by decide) (by decide) at_102 (pc' := 105) rfl rfl ?_
          refine go_ladd C at_105 (pc' := 106) rfl ?_
          rw [(by decide : (0 : Int64) + (0 : Int64) = (0 : Int64))]
          refine go_lstore C (Ls' := #[.val (.int x0), .val (.long x1), .second, .val (.int x2), .val (.long x3), .second, .val (.int (1 : Int32)), .val (.int (0 : Int32)), .val (.int (0 : Int32)), .val (.int (0 : Int32)), .val (.ref a_669), .val (.long (1 : Int64)), .second, .val (.long (0 : Int64)), .second]) at_106 (pc' := 108) rfl rfl ?_
          refine go_aload C at_108 (pc' := 110) rfl rfl rfl ?_
          refine go_virtualP C (as := []) (rest := []) (W := 0) (.long (1 : Int64)) (sat_completedCount l Z a0 hw a_669 _ _ _ F_727) E_726 (wd hw 54 rfl) (wd hw 55 rfl) (wd hw 57 rfl) (wd hw 56 rfl) (wd hw 2 rfl) (wd hw 58 rfl) (by decide) pd_6 rfl rfl rfl (by decide) (by decide) rfl rfl (by decide) (by decide) at_110 (pc' := 113) rfl rfl ?_
          refine go_lload C at_113 (pc' := 115) rfl rfl ?_
          refine go_lcmp C (1 : Int) (1 : Int) (by decide) (by decide) at_115 (pc1 := 116) rfl at_116 (by decide) (pc' := 172) (by decide) (pcN := 119) rfl (fun (c_744 : ¬ (1 : Int) = (1 : Int)) => by omega) (fun (c_744 : (1 : Int) = (1 : Int)) => ?_)
          refine go_aload C at_119 (pc' := 121) rfl rfl rfl ?_
          refine go_virtualP C (as := []) (rest := []) (W := 0) (.long (0 : Int64)) (sat_failedCount l Z a0 hw a_669 _ _ _ F_728) E_726 (wd hw 59 rfl) (wd hw 60 rfl) (wd hw 62 rfl) (wd hw 61 rfl) (wd hw 2 rfl) (wd hw 63 rfl) (by decide) pd_6 rfl rfl rfl (by decide) (by decide) rfl rfl (by decide) (by decide) at_121 (pc' := 124) rfl rfl ?_
          refine go_lload C at_124 (pc' := 126) rfl rfl ?_
          refine go_lcmp C (0 : Int) (0 : Int) (by decide) (by decide) at_126 (pc1 := 127) rfl at_127 (by decide) (pc' := 172) (by decide) (pcN := 130) rfl (fun (c_745 : ¬ (0 : Int) = (0 : Int)) => by omega) (fun (c_745 : (0 : Int) = (0 : Int)) => ?_)
          refine go_aload C at_130 (pc' := 132) rfl rfl rfl ?_
          refine go_virtualP C (as := []) (rest := []) (W := 0) (.long (0 : Int64)) (sat_submittedCount l Z a0 hw a_669 _ _ _ F_729) E_726 (wd hw 66 rfl) (wd hw 67 rfl) (wd hw 69 rfl) (wd hw 68 rfl) (wd hw 2 rfl) (wd hw 70 rfl) (by decide) pd_6 rfl rfl rfl (by decide) (by decide) rfl rfl (by decide) (by decide) at_132 (pc' := 135) rfl rfl ?_
          refine go_lconst C (0 : Int64) at_135 (pc' := 136) rfl (by decide) ?_
          refine go_lcmp C (0 : Int) (0 : Int) (by decide) (by decide) at_136 (pc1 := 137) rfl at_137 (by decide) (pc' := 172) (by decide) (pcN := 140) rfl (fun (c_746 : ¬ (0 : Int) = (0 : Int)) => by omega) (fun (c_746 : (0 : Int) = (0 : Int)) => ?_)
          refine go_aload C at_140 (pc' := 142) rfl rfl rfl ?_
          refine go_virtualP C (as := []) (rest := []) (W := 0) (.long (0 : Int64)) (sat_rejectedCount l Z a0 hw a_669 _ _ _ F_730) E_726 (wd hw 73 rfl) (wd hw 74 rfl) (wd hw 76 rfl) (wd hw 75 rfl) (wd hw 2 rfl) (wd hw 77 rfl) (by decide) pd_6 rfl rfl rfl (by decide) (by decide) rfl rfl (by decide) (by decide) at_142 (pc' := 145) rfl rfl ?_
          refine go_lconst C (0 : Int64) at_145 (pc' := 146) rfl (by decide) ?_
          refine go_lcmp C (0 : Int) (0 : Int) (by decide) (by decide) at_146 (pc1 := 147) rfl at_147 (by decide) (pc' := 172) (by decide) (pcN := 150) rfl (fun (c_747 : ¬ (0 : Int) = (0 : Int)) => by omega) (fun (c_747 : (0 : Int) = (0 : Int)) => ?_)
          refine go_aload C at_150 (pc' := 152) rfl rfl rfl ?_
          refine go_virtualP C (as := []) (rest := []) (W := 0) (.long (0 : Int64)) (sat_rejectedAtShutdownCount l Z a0 hw a_669 _ _ _ F_731) E_726 (wd hw 80 rfl) (wd hw 81 rfl) (wd hw 83 rfl) (wd hw 82 rfl) (wd hw 2 rfl) (wd hw 84 rfl) (by decide) pd_6 rfl rfl rfl (by decide) (by decide) rfl rfl (by decide) (by decide) at_152 (pc' := 155) rfl rfl ?_
          refine go_lconst C (0 : Int64) at_155 (pc' := 156) rfl (by decide) ?_
          refine go_lcmp C (0 : Int) (0 : Int) (by decide) (by decide) at_156 (pc1 := 157) rfl at_157 (by decide) (pc' := 172) (by decide) (pcN := 160) rfl (fun (c_748 : ¬ (0 : Int) = (0 : Int)) => by omega) (fun (c_748 : (0 : Int) = (0 : Int)) => ?_)
          refine go_aload C at_160 (pc' := 162) rfl rfl rfl ?_
          refine go_virtualP C (as := []) (rest := []) (W := 0) (.int (0 : Int32)) (sat_largestPoolSize l Z a0 hw a_669 _ _ _ F_732) E_726 (wd hw 87 rfl) (wd hw 88 rfl) (wd hw 90 rfl) (wd hw 89 rfl) (wd hw 2 rfl) (wd hw 91 rfl) (by decide) pd_7 rfl rfl rfl (by decide) (by decide) rfl rfl (by decide) (by decide) at_162 (pc' := 165) rfl rfl ?_
          refine go_if0 C (0 : Int) (by decide) at_165 (by decide) (pc' := 172) (by decide) (pcN := 168) rfl (fun (c_749 : ¬ (0 : Int) = 0) => by omega) (fun (c_749 : (0 : Int) = 0) => ?_)
          refine go_iconst C (1 : Int32) at_168 (pc' := 169) rfl (by decide) ?_
          refine go_goto C at_169 (by decide) (pc' := 173) (by decide) ?_
          refine go_ireturnN C (z' := (1 : Int32)) rfl (by simp) rfl at_173 (by decide) (by decide) ?_
          exact ⟨_, rfl, rfl⟩
        · skip
          refine go_iconst C (1 : Int32) at_45 (pc' := 46) rfl (by decide) ?_
          refine go_goto C at_46 (by decide) (pc' := 50) (by decide) ?_
          refine go_istore C (Ls' := #[.val (.int x0), .val (.long x1), .second, .val (.int x2), .val (.long x3), .second, .val (.int (1 : Int32)), .val (.int (0 : Int32)), .val (.int (0 : Int32)), .val (.int (1 : Int32)), .unset, .unset, .unset, .unset, .unset]) at_50 (pc' := 52) rfl rfl ?_
          refine go_new C (wd hw 0 rfl) (wd hw 1 rfl) (wd hw 2 rfl) at_52 (pc' := 55) rfl (ce' := 1) (sl' := 41) rfl rfl (by decide) (by decide) ?_
          intro h_750 a_751 g_752 E_753 E_754 D_755
          have g_756 : Z.heap.size ≤ a_751 := own_ge (Nat.le_refl _) g_752
          have z_757 : Z.heap.size ≤ h_750.size := Nat.le_trans (Nat.le_refl _) E_753.1
          have F_758 : Fld Z h_750 a_751 "com/example/pufferfish/pufferfish/pool/PoolTally" "queueWait" "Lcom/example/pufferfish/pufferfish/pool/PoolTally$TimeSum;" (.null) := D_755 (Or.inr (wd hw 22 rfl)) (ty := (.object "com/example/pufferfish/pufferfish/pool/PoolTally$TimeSum")) (by decide)
          have F_759 : Fld Z h_750 a_751 "com/example/pufferfish/pufferfish/pool/PoolTally" "runTime" "Lcom/example/pufferfish/pufferfish/pool/PoolTally$TimeSum;" (.null) := D_755 (Or.inr (wd hw 24 rfl)) (ty := (.object "com/example/pufferfish/pufferfish/pool/PoolTally$TimeSum")) (by decide)
          have F_760 : Fld Z h_750 a_751 "com/example/pufferfish/pufferfish/pool/PoolTally" "completedCount" "J" (.long (0 : Int64)) := D_755 (Or.inl (wd hw 31 rfl)) (ty := .long) (by decide)
          have F_761 : Fld Z h_750 a_751 "com/example/pufferfish/pufferfish/pool/PoolTally" "failedCount" "J" (.long (0 : Int64)) := D_755 (Or.inl (wd hw 65 rfl)) (ty := .long) (by decide)
          have F_762 : Fld Z h_750 a_751 "com/example/pufferfish/pufferfish/pool/PoolTally" "submittedCount" "J" (.long (0 : Int64)) := D_755 (Or.inl (wd hw 72 rfl)) (ty := .long) (by decide)
          have F_763 : Fld Z h_750 a_751 "com/example/pufferfish/pufferfish/pool/PoolTally" "rejectedCount" "J" (.long (0 : Int64)) := D_755 (Or.inl (wd hw 79 rfl)) (ty := .long) (by decide)
          have F_764 : Fld Z h_750 a_751 "com/example/pufferfish/pufferfish/pool/PoolTally" "rejectedAtShutdownCount" "J" (.long (0 : Int64)) := D_755 (Or.inl (wd hw 86 rfl)) (ty := .long) (by decide)
          have F_765 : Fld Z h_750 a_751 "com/example/pufferfish/pufferfish/pool/PoolTally" "largestPoolSize" "I" (.int (0 : Int32)) := D_755 (Or.inl (wd hw 93 rfl)) (ty := .int) (by decide)
          refine go_dup C at_55 (pc' := 56) rfl rfl ?_
          refine go_specialN C (as := []) (rest := [.ref a_751]) (W := 1) (sat_pt l Z a0 hw a_751 _ _ E_754 F_758 F_759 F_760 F_761 F_762 F_763 F_764 F_765 g_756 z_757) rfl (wd hw 3 rfl) (wd hw 4 rfl) (wd hw 2 rfl) (wd hw 5 rfl) (by decide) pd_1 rfl rfl rfl (by decide) (by decide) (ce' := 3) (sl' := 113) rfl rfl (by decide) (by decide) at_56 (pc' := 59) rfl rfl ?_
          intro h_766 q_767
          obtain ⟨E_768, F_769, F_770, F_771, F_772, F_773, F_774, t_775, g_776, F_777, E_778, u_779, u_780, u_781, F_782, F_783, F_784⟩ := q_767
          have n_785 : a_751 ≠ t_775 := ne_exa E_768 E_778 (by decide)
          refine go_astore C (Ls' := #[.val (.int x0), .val (.long x1), .second, .val (.int x2), .val (.long x3), .second, .val (.int (1 : Int32)), .val (.int (0 : Int32)), .val (.int (0 : Int32)), .val (.int (1 : Int32)), .val (.ref a_751), .unset, .unset, .unset, .unset]) at_59 (pc' := 61) rfl rfl rfl ?_
          refine go_aload C at_61 (pc' := 63) rfl rfl rfl ?_
          refine go_iload C at_63 (pc' := 65) rfl rfl ?_
          refine go_iload C at_65 (pc' := 67) rfl rfl ?_
          refine go_lloadN C at_67 (pc' := 68) rfl rfl ?_
          refine go_virtualN C (as := [.int (1 : Int32), .int (0 : Int32), .long x1]) (rest := []) (W := 0) (sat_te10 l Z a0 hw a_751 (0 : Int64) (0 : Int64) (0 : Int64) (0 : Int64) (0 : Int64) (0 : Int32) x1 _ _ ⟨E_768, F_769, F_770, F_771, F_772, F_773, F_774, t_775, g_776, F_777, E_778, _, _, _, F_782, F_783, F_784⟩ g_756) E_768 (wd hw 25 rfl) (wd hw 26 rfl) (wd hw 28 rfl) (wd hw 27 rfl) (wd hw 2 rfl) (wd hw 29 rfl) (by decide) pd_2 rfl rfl rfl (by decide) (by decide) (ce' := 3) (sl' := 113) rfl rfl (by decide) (by decide) at_68 (pc' := 71) rfl rfl ?_
          intro h_786 q_787
          rw [(by decide : (0 : Int64) + (1 : Int64) = (1 : Int64))] at q_787
          obtain ⟨E_788, F_789, F_790, F_791, F_792, F_793, F_794, t_795, g_796, F_797, E_798, u_799, u_800, u_801, F_802, F_803, F_804⟩ := q_787
          have n_805 : a_751 ≠ t_795 := ne_exa E_788 E_798 (by decide)
          refine go_aload C at_71 (pc' := 73) rfl rfl rfl ?_
          refine go_iload C at_73 (pc' := 75) rfl rfl ?_
          refine go_iload C at_75 (pc' := 77) rfl rfl ?_
          refine go_lload C at_77 (pc' := 79) rfl rfl ?_
          refine go_virtualN C (as := [.int (0 : Int32), .int (1 : Int32), .long x3]) (rest := []) (W := 0) (sat_te01 l Z a0 hw a_751 (1 : Int64) (0 : Int64) (0 : Int64) (0 : Int64) (0 : Int64) (0 : Int32) x3 _ _ ⟨E_788, F_789, F_790, F_791, F_792, F_793, F_794, t_795, g_796, F_797, E_798, _, _, _, F_802, F_803, F_804⟩ g_756) E_788 (wd hw 25 rfl) (wd hw 26 rfl) (wd hw 28 rfl) (wd hw 27 rfl) (wd hw 2 rfl) (wd hw 29 rfl) (by decide) pd_2 rfl rfl rfl (by decide) (by decide) (ce' := 3) (sl' := 113) rfl rfl (by decide) (by decide) at_79 (pc' := 82) rfl rfl ?_
          intro h_806 q_807
          rw [(by decide : (0 : Int64) + (1 : Int64) = (1 : Int64))] at q_807
          obtain ⟨E_808, F_809, F_810, F_811, F_812, F_813, F_814, t_815, g_816, F_817, E_818, u_819, u_820, u_821, F_822, F_823, F_824⟩ := q_807
          have n_825 : a_751 ≠ t_815 := ne_exa E_808 E_818 (by decide)
          refine go_iload C at_82 (pc' := 84) rfl rfl ?_
          refine go_staticP C (as := [.int (1 : Int32)]) (rest := []) (W := 0) (.long (1 : Int64)) (sat_one1 l Z a0 hw _ _) (wd hw 50 rfl) (wd hw 51 rfl) (wd hw 52 rfl) (wd hw 53 rfl) (by decide) pd_5 rfl rfl rfl (by decide) (by decide) rfl rfl (by decide) (by decide) at_84 (pc' := 87) rfl rfl ?_
          refine go_iload C at_87 (pc' := 89) rfl rfl ?_
          refine go_staticP C (as := [.int (0 : Int32)]) (rest := [.long (1 : Int64)]) (W := 2) (.long (0 : Int64)) (sat_one0 l Z a0 hw _ _) (wd hw 50 rfl) (wd hw 51 rfl) (wd hw 52 rfl) (wd hw 53 rfl) (by decide) pd_5 rfl rfl rfl (by decide) (by decide) rfl rfl (by decide) (by decide) at_89 (pc' := 92) rfl rfl ?_
          refine go_ladd C at_92 (pc' := 93) rfl ?_
          rw [(by decide : (1 : Int64) + (0 : Int64) = (1 : Int64))]
          refine go_lstore C (Ls' := #[.val (.int x0), .val (.long x1), .second, .val (.int x2), .val (.long x3), .second, .val (.int (1 : Int32)), .val (.int (0 : Int32)), .val (.int (0 : Int32)), .val (.int (1 : Int32)), .val (.ref a_751), .val (.long (1 : Int64)), .second, .unset, .unset]) at_93 (pc' := 95) rfl rfl ?_
          refine go_iload C at_95 (pc' := 97) rfl rfl ?_
          refine go_staticP C (as := [.int (0 : Int32)]) (rest := []) (W := 0) (.long (0 : Int64)) (sat_one0 l Z a0 hw _ _) (wd hw 50 rfl) (wd hw 51 rfl) (wd hw 52 rfl) (wd hw 53 rfl) (by decide) pd_5 rfl rfl rfl (by decide) (by decide) rfl rfl (by decide) (by decide) at_97 (pc' := 100) rfl rfl ?_
          refine go_iload C at_100 (pc' := 102) rfl rfl ?_
          refine go_staticP C (as := [.int (1 : Int32)]) (rest := [.long (0 : Int64)]) (W := 2) (.long (1 : Int64)) (sat_one1 l Z a0 hw _ _) (wd hw 50 rfl) (wd hw 51 rfl) (wd hw 52 rfl) (wd hw 53 rfl) (by decide) pd_5 rfl rfl rfl (by decide) (by decide) rfl rfl (by decide) (by decide) at_102 (pc' := 105) rfl rfl ?_
          refine go_ladd C at_105 (pc' := 106) rfl ?_
          rw [(by decide : (0 : Int64) + (1 : Int64) = (1 : Int64))]
          refine go_lstore C (Ls' := #[.val (.int x0), .val (.long x1), .second, .val (.int x2), .val (.long x3), .second, .val (.int (1 : Int32)), .val (.int (0 : Int32)), .val (.int (0 : Int32)), .val (.int (1 : Int32)), .val (.ref a_751), .val (.long (1 : Int64)), .second, .val (.long (1 : Int64)), .second]) at_106 (pc' := 108) rfl rfl ?_
          refine go_aload C at_108 (pc' := 110) rfl rfl rfl ?_
          refine go_virtualP C (as := []) (rest := []) (W := 0) (.long (1 : Int64)) (sat_completedCount l Z a0 hw a_751 _ _ _ F_809) E_808 (wd hw 54 rfl) (wd hw 55 rfl) (wd hw 57 rfl) (wd hw 56 rfl) (wd hw 2 rfl) (wd hw 58 rfl) (by decide) pd_6 rfl rfl rfl (by decide) (by decide) rfl rfl (by decide) (by decide) at_110 (pc' := 113) rfl rfl ?_
          refine go_lload C at_113 (pc' := 115) rfl rfl ?_
          refine go_lcmp C (1 : Int) (1 : Int) (by decide) (by decide) at_115 (pc1 := 116) rfl at_116 (by decide) (pc' := 172) (by decide) (pcN := 119) rfl (fun (c_826 : ¬ (1 : Int) = (1 : Int)) => by omega) (fun (c_826 : (1 : Int) = (1 : Int)) => ?_)
          refine go_aload C at_119 (pc' := 121) rfl rfl rfl ?_
          refine go_virtualP C (as := []) (rest := []) (W := 0) (.long (1 : Int64)) (sat_failedCount l Z a0 hw a_751 _ _ _ F_810) E_808 (wd hw 59 rfl) (wd hw 60 rfl) (wd hw 62 rfl) (wd hw 61 rfl) (wd hw 2 rfl) (wd hw 63 rfl) (by decide) pd_6 rfl rfl rfl (by decide) (by decide) rfl rfl (by decide) (by decide) at_121 (pc' := 124) rfl rfl ?_
          refine go_lload C at_124 (pc' := 126) rfl rfl ?_
          refine go_lcmp C (1 : Int) (1 : Int) (by decide) (by decide) at_126 (pc1 := 127) rfl at_127 (by decide) (pc' := 172) (by decide) (pcN := 130) rfl (fun (c_827 : ¬ (1 : Int) = (1 : Int)) => by omega) (fun (c_827 : (1 : Int) = (1 : Int)) => ?_)
          refine go_aload C at_130 (pc' := 132) rfl rfl rfl ?_
          refine go_virtualP C (as := []) (rest := []) (W := 0) (.long (0 : Int64)) (sat_submittedCount l Z a0 hw a_751 _ _ _ F_811) E_808 (wd hw 66 rfl) (wd hw 67 rfl) (wd hw 69 rfl) (wd hw 68 rfl) (wd hw 2 rfl) (wd hw 70 rfl) (by decide) pd_6 rfl rfl rfl (by decide) (by decide) rfl rfl (by decide) (by decide) at_132 (pc' := 135) rfl rfl ?_
          refine go_lconst C (0 : Int64) at_135 (pc' := 136) rfl (by decide) ?_
          refine go_lcmp C (0 : Int) (0 : Int) (by decide) (by decide) at_136 (pc1 := 137) rfl at_137 (by decide) (pc' := 172) (by decide) (pcN := 140) rfl (fun (c_828 : ¬ (0 : Int) = (0 : Int)) => by omega) (fun (c_828 : (0 : Int) = (0 : Int)) => ?_)
          refine go_aload C at_140 (pc' := 142) rfl rfl rfl ?_
          refine go_virtualP C (as := []) (rest := []) (W := 0) (.long (0 : Int64)) (sat_rejectedCount l Z a0 hw a_751 _ _ _ F_812) E_808 (wd hw 73 rfl) (wd hw 74 rfl) (wd hw 76 rfl) (wd hw 75 rfl) (wd hw 2 rfl) (wd hw 77 rfl) (by decide) pd_6 rfl rfl rfl (by decide) (by decide) rfl rfl (by decide) (by decide) at_142 (pc' := 145) rfl rfl ?_
          refine go_lconst C (0 : Int64) at_145 (pc' := 146) rfl (by decide) ?_
          refine go_lcmp C (0 : Int) (0 : Int) (by decide) (by decide) at_146 (pc1 := 147) rfl at_147 (by decide) (pc' := 172) (by decide) (pcN := 150) rfl (fun (c_829 : ¬ (0 : Int) = (0 : Int)) => by omega) (fun (c_829 : (0 : Int) = (0 : Int)) => ?_)
          refine go_aload C at_150 (pc' := 152) rfl rfl rfl ?_
          refine go_virtualP C (as := []) (rest := []) (W := 0) (.long (0 : Int64)) (sat_rejectedAtShutdownCount l Z a0 hw a_751 _ _ _ F_813) E_808 (wd hw 80 rfl) (wd hw 81 rfl) (wd hw 83 rfl) (wd hw 82 rfl) (wd hw 2 rfl) (wd hw 84 rfl) (by decide) pd_6 rfl rfl rfl (by decide) (by decide) rfl rfl (by decide) (by decide) at_152 (pc' := 155) rfl rfl ?_
          refine go_lconst C (0 : Int64) at_155 (pc' := 156) rfl (by decide) ?_
          refine go_lcmp C (0 : Int) (0 : Int) (by decide) (by decide) at_156 (pc1 := 157) rfl at_157 (by decide) (pc' := 172) (by decide) (pcN := 160) rfl (fun (c_830 : ¬ (0 : Int) = (0 : Int)) => by omega) (fun (c_830 : (0 : Int) = (0 : Int)) => ?_)
          refine go_aload C at_160 (pc' := 162) rfl rfl rfl ?_
          refine go_virtualP C (as := []) (rest := []) (W := 0) (.int (0 : Int32)) (sat_largestPoolSize l Z a0 hw a_751 _ _ _ F_814) E_808 (wd hw 87 rfl) (wd hw 88 rfl) (wd hw 90 rfl) (wd hw 89 rfl) (wd hw 2 rfl) (wd hw 91 rfl) (by decide) pd_7 rfl rfl rfl (by decide) (by decide) rfl rfl (by decide) (by decide) at_162 (pc' := 165) rfl rfl ?_
          refine go_if0 C (0 : Int) (by decide) at_165 (by decide) (pc' := 172) (by decide) (pcN := 168) rfl (fun (c_831 : ¬ (0 : Int) = 0) => by omega) (fun (c_831 : (0 : Int) = 0) => ?_)
          refine go_iconst C (1 : Int32) at_168 (pc' := 169) rfl (by decide) ?_
          refine go_goto C at_169 (by decide) (pc' := 173) (by decide) ?_
          refine go_ireturnN C (z' := (1 : Int32)) rfl (by simp) rfl at_173 (by decide) (by decide) ?_
          exact ⟨_, rfl, rfl⟩
      · skip
        refine go_iconst C (1 : Int32) at_32 (pc' := 33) rfl (by decide) ?_
        refine go_goto C at_33 (by decide) (pc' := 37) (by decide) ?_
        refine go_istore C (Ls' := #[.val (.int x0), .val (.long x1), .second, .val (.int x2), .val (.long x3), .second, .val (.int (1 : Int32)), .val (.int (0 : Int32)), .val (.int (1 : Int32)), .unset, .unset, .unset, .unset, .unset, .unset]) at_37 (pc' := 39) rfl rfl ?_
        refine go_iloadN C at_39 (pc' := 40) rfl rfl ?_
        refine go_iconst C (2 : Int32) at_40 (pc' := 41) rfl (by decide) ?_
        refine go_iand C at_41 (pc' := 42) rfl ?_
        refine go_if0 C ((x2 &&& (2 : Int32)).toInt) rfl at_42 (by decide) (pc' := 49) (by decide) (pcN := 45) rfl (fun (c_832 : ((x2 &&& (2 : Int32)).toInt) = 0) => ?_) (fun (c_832 : ¬ ((x2 &&& (2 : Int32)).toInt) = 0) => ?_)
        · skip
          refine go_iconst C (0 : Int32) at_49 (pc' := 50) rfl (by decide) ?_
          refine go_istore C (Ls' := #[.val (.int x0), .val (.long x1), .second, .val (.int x2), .val (.long x3), .second, .val (.int (1 : Int32)), .val (.int (0 : Int32)), .val (.int (1 : Int32)), .val (.int (0 : Int32)), .unset, .unset, .unset, .unset, .unset]) at_50 (pc' := 52) rfl rfl ?_
          refine go_new C (wd hw 0 rfl) (wd hw 1 rfl) (wd hw 2 rfl) at_52 (pc' := 55) rfl (ce' := 1) (sl' := 41) rfl rfl (by decide) (by decide) ?_
          intro h_833 a_834 g_835 E_836 E_837 D_838
          have g_839 : Z.heap.size ≤ a_834 := own_ge (Nat.le_refl _) g_835
          have z_840 : Z.heap.size ≤ h_833.size := Nat.le_trans (Nat.le_refl _) E_836.1
          have F_841 : Fld Z h_833 a_834 "com/example/pufferfish/pufferfish/pool/PoolTally" "queueWait" "Lcom/example/pufferfish/pufferfish/pool/PoolTally$TimeSum;" (.null) := D_838 (Or.inr (wd hw 22 rfl)) (ty := (.object "com/example/pufferfish/pufferfish/pool/PoolTally$TimeSum")) (by decide)
          have F_842 : Fld Z h_833 a_834 "com/example/pufferfish/pufferfish/pool/PoolTally" "runTime" "Lcom/example/pufferfish/pufferfish/pool/PoolTally$TimeSum;" (.null) := D_838 (Or.inr (wd hw 24 rfl)) (ty := (.object "com/example/pufferfish/pufferfish/pool/PoolTally$TimeSum")) (by decide)
          have F_843 : Fld Z h_833 a_834 "com/example/pufferfish/pufferfish/pool/PoolTally" "completedCount" "J" (.long (0 : Int64)) := D_838 (Or.inl (wd hw 31 rfl)) (ty := .long) (by decide)
          have F_844 : Fld Z h_833 a_834 "com/example/pufferfish/pufferfish/pool/PoolTally" "failedCount" "J" (.long (0 : Int64)) := D_838 (Or.inl (wd hw 65 rfl)) (ty := .long) (by decide)
          have F_845 : Fld Z h_833 a_834 "com/example/pufferfish/pufferfish/pool/PoolTally" "submittedCount" "J" (.long (0 : Int64)) := D_838 (Or.inl (wd hw 72 rfl)) (ty := .long) (by decide)
          have F_846 : Fld Z h_833 a_834 "com/example/pufferfish/pufferfish/pool/PoolTally" "rejectedCount" "J" (.long (0 : Int64)) := D_838 (Or.inl (wd hw 79 rfl)) (ty := .long) (by decide)
          have F_847 : Fld Z h_833 a_834 "com/example/pufferfish/pufferfish/pool/PoolTally" "rejectedAtShutdownCount" "J" (.long (0 : Int64)) := D_838 (Or.inl (wd hw 86 rfl)) (ty := .long) (by decide)
          have F_848 : Fld Z h_833 a_834 "com/example/pufferfish/pufferfish/pool/PoolTally" "largestPoolSize" "I" (.int (0 : Int32)) := D_838 (Or.inl (wd hw 93 rfl)) (ty := .int) (by decide)
          refine go_dup C at_55 (pc' := 56) rfl rfl ?_
          refine go_specialN C (as := []) (rest := [.ref a_834]) (W := 1) (sat_pt l Z a0 hw a_834 _ _ E_837 F_841 F_842 F_843 F_844 F_845 F_846 F_847 F_848 g_839 z_840) rfl (wd hw 3 rfl) (wd hw 4 rfl) (wd hw 2 rfl) (wd hw 5 rfl) (by decide) pd_1 rfl rfl rfl (by decide) (by decide) (ce' := 3) (sl' := 113) rfl rfl (by decide) (by decide) at_56 (pc' := 59) rfl rfl ?_
          intro h_849 q_850
          obtain ⟨E_851, F_852, F_853, F_854, F_855, F_856, F_857, t_858, g_859, F_860, E_861, u_862, u_863, u_864, F_865, F_866, F_867⟩ := q_850
          have n_868 : a_834 ≠ t_858 := ne_exa E_851 E_861 (by decide)
          refine go_astore C (Ls' := #[.val (.int x0), .val (.long x1), .second, .val (.int x2), .val (.long x3), .second, .val (.int (1 : Int32)), .val (.int (0 : Int32)), .val (.int (1 : Int32)), .val (.int (0 : Int32)), .val (.ref a_834), .unset, .unset, .unset, .unset]) at_59 (pc' := 61) rfl rfl rfl ?_
          refine go_aload C at_61 (pc' := 63) rfl rfl rfl ?_
          refine go_iload C at_63 (pc' := 65) rfl rfl ?_
          refine go_iload C at_65 (pc' := 67) rfl rfl ?_
          refine go_lloadN C at_67 (pc' := 68) rfl rfl ?_
          refine go_virtualN C (as := [.int (1 : Int32), .int (0 : Int32), .long x1]) (rest := []) (W := 0) (sat_te10 l Z a0 hw a_834 (0 : Int64) (0 : Int64) (0 : Int64) (0 : Int64) (0 : Int64) (0 : Int32) x1 _ _ ⟨E_851, F_852, F_853, F_854, F_855, F_856, F_857, t_858, g_859, F_860, E_861, _, _, _, F_865, F_866, F_867⟩ g_839) E_851 (wd hw 25 rfl) (wd hw 26 rfl) (wd hw 28 rfl) (wd hw 27 rfl) (wd hw 2 rfl) (wd hw 29 rfl) (by decide) pd_2 rfl rfl rfl (by decide) (by decide) (ce' := 3) (sl' := 113) rfl rfl (by decide) (by decide) at_68 (pc' := 71) rfl rfl ?_
          intro h_869 q_870
          rw [(by decide : (0 : Int64) + (1 : Int64) = (1 : Int64))] at q_870
          obtain ⟨E_871, F_872, F_873, F_874, F_875, F_876, F_877, t_878, g_879, F_880, E_881, u_882, u_883, u_884, F_885, F_886, F_887⟩ := q_870
          have n_888 : a_834 ≠ t_878 := ne_exa E_871 E_881 (by decide)
          refine go_aload C at_71 (pc' := 73) rfl rfl rfl ?_
          refine go_iload C at_73 (pc' := 75) rfl rfl ?_
          refine go_iload C at_75 (pc' := 77) rfl rfl ?_
          refine go_lload C at_77 (pc' := 79) rfl rfl ?_
          refine go_virtualN C (as := [.int (1 : Int32), .int (0 : Int32), .long x3]) (rest := []) (W := 0) (sat_te10 l Z a0 hw a_834 (1 : Int64) (0 : Int64) (0 : Int64) (0 : Int64) (0 : Int64) (0 : Int32) x3 _ _ ⟨E_871, F_872, F_873, F_874, F_875, F_876, F_877, t_878, g_879, F_880, E_881, _, _, _, F_885, F_886, F_887⟩ g_839) E_871 (wd hw 25 rfl) (wd hw 26 rfl) (wd hw 28 rfl) (wd hw 27 rfl) (wd hw 2 rfl) (wd hw 29 rfl) (by decide) pd_2 rfl rfl rfl (by decide) (by decide) (ce' := 3) (sl' := 113) rfl rfl (by decide) (by decide) at_79 (pc' := 82) rfl rfl ?_
          intro h_889 q_890
          rw [(by decide : (1 : Int64) + (1 : Int64) = (2 : Int64))] at q_890
          obtain ⟨E_891, F_892, F_893, F_894, F_895, F_896, F_897, t_898, g_899, F_900, E_901, u_902, u_903, u_904, F_905, F_906, F_907⟩ := q_890
          have n_908 : a_834 ≠ t_898 := ne_exa E_891 E_901 (by decide)
          refine go_iload C at_82 (pc' := 84) rfl rfl ?_
          refine go_staticP C (as := [.int (1 : Int32)]) (rest := []) (W := 0) (.long (1 : Int64)) (sat_one1 l Z a0 hw _ _) (wd hw 50 rfl) (wd hw 51 rfl) (wd hw 52 rfl) (wd hw 53 rfl) (by decide) pd_5 rfl rfl rfl (by decide) (by decide) rfl rfl (by decide) (by decide) at_84 (pc' := 87) rfl rfl ?_
          refine go_iload C at_87 (pc' := 89) rfl rfl ?_
          refine go_staticP C (as := [.int (1 : Int32)]) (rest := [.long (1 : Int64)]) (W := 2) (.long (1 : Int64)) (sat_one1 l Z a0 hw _ _) (wd hw 50 rfl) (wd hw 51 rfl) (wd hw 52 rfl) (wd hw 53 rfl) (by decide) pd_5 rfl rfl rfl (by decide) (by decide) rfl rfl (by decide) (by decide) at_89 (pc' := 92) rfl rfl ?_
          refine go_ladd C at_92 (pc' := 93) rfl ?_
          rw [(by decide : (1 : Int64) + (1 : Int64) = (2 : Int64))]
          refine go_lstore C (Ls' := #[.val (.int x0), .val (.long x1), .second, .val (.int x2), .val (.long x3), .second, .val (.int (1 : Int32)), .val (.int (0 : Int32)), .val (.int (1 : Int32)), .val (.int (0 : Int32)), .val (.ref a_834), .val (.long (2 : Int64)), .second, .unset, .unset]) at_93 (pc' := 95) rfl rfl ?_
          refine go_iload C at_95 (pc' := 97) rfl rfl ?_
          refine go_staticP C (as := [.int (0 : Int32)]) (rest := []) (W := 0) (.long (0 : Int64)) (sat_one0 l Z a0 hw _ _) (wd hw 50 rfl) (wd hw 51 rfl) (wd hw 52 rfl) (wd hw 53 rfl) (by decide) pd_5 rfl rfl rfl (by decide) (by decide) rfl rfl (by decide) (by decide) at_97 (pc' := 100) rfl rfl ?_
          refine go_iload C at_100 (pc' := 102) rfl rfl ?_
          refine go_staticP C (as := [.int (0 : Int32)]) (rest := [.long (0 : Int64)]) (W := 2) (.long (0 : Int64)) (sat_one0 l Z a0 hw _ _) (wd hw 50 rfl) (wd hw 51 rfl) (wd hw 52 rfl) (wd hw 53 rfl) (by decide) pd_5 rfl rfl rfl (by decide) (by decide) rfl rfl (by decide) (by decide) at_102 (pc' := 105) rfl rfl ?_
          refine go_ladd C at_105 (pc' := 106) rfl ?_
          rw [(by decide : (0 : Int64) + (0 : Int64) = (0 : Int64))]
          refine go_lstore C (Ls' := #[.val (.int x0), .val (.long x1), .second, .val (.int x2), .val (.long x3), .second, .val (.int (1 : Int32)), .val (.int (0 : Int32)), .val (.int (1 : Int32)), .val (.int (0 : Int32)), .val (.ref a_834), .val (.long (2 : Int64)), .second, .val (.long (0 : Int64)), .second]) at_106 (pc' := 108) rfl rfl ?_
          refine go_aload C at_108 (pc' := 110) rfl rfl rfl ?_
          refine go_virtualP C (as := []) (rest := []) (W := 0) (.long (2 : Int64)) (sat_completedCount l Z a0 hw a_834 _ _ _ F_892) E_891 (wd hw 54 rfl) (wd hw 55 rfl) (wd hw 57 rfl) (wd hw 56 rfl) (wd hw 2 rfl) (wd hw 58 rfl) (by decide) pd_6 rfl rfl rfl (by decide) (by decide) rfl rfl (by decide) (by decide) at_110 (pc' := 113) rfl rfl ?_
          refine go_lload C at_113 (pc' := 115) rfl rfl ?_
          refine go_lcmp C (2 : Int) (2 : Int) (by decide) (by decide) at_115 (pc1 := 116) rfl at_116 (by decide) (pc' := 172) (by decide) (pcN := 119) rfl (fun (c_909 : ¬ (2 : Int) = (2 : Int)) => by omega) (fun (c_909 : (2 : Int) = (2 : Int)) => ?_)
          refine go_aload C at_119 (pc' := 121) rfl rfl rfl ?_
          refine go_virtualP C (as := []) (rest := []) (W := 0) (.long (0 : Int64)) (sat_failedCount l Z a0 hw a_834 _ _ _ F_893) E_891 (wd hw 59 rfl) (wd hw 60 rfl) (wd hw 62 rfl) (wd hw 61 rfl) (wd hw 2 rfl) (wd hw 63 rfl) (by decide) pd_6 rfl rfl rfl (by decide) (by decide) rfl rfl (by decide) (by decide) at_121 (pc' := 124) rfl rfl ?_
          refine go_lload C at_124 (pc' := 126) rfl rfl ?_
          refine go_lcmp C (0 : Int) (0 : Int) (by decide) (by decide) at_126 (pc1 := 127) rfl at_127 (by decide) (pc' := 172) (by decide) (pcN := 130) rfl (fun (c_910 : ¬ (0 : Int) = (0 : Int)) => by omega) (fun (c_910 : (0 : Int) = (0 : Int)) => ?_)
          refine go_aload C at_130 (pc' := 132) rfl rfl rfl ?_
          refine go_virtualP C (as := []) (rest := []) (W := 0) (.long (0 : Int64)) (sat_submittedCount l Z a0 hw a_834 _ _ _ F_894) E_891 (wd hw 66 rfl) (wd hw 67 rfl) (wd hw 69 rfl) (wd hw 68 rfl) (wd hw 2 rfl) (wd hw 70 rfl) (by decide) pd_6 rfl rfl rfl (by decide) (by decide) rfl rfl (by decide) (by decide) at_132 (pc' := 135) rfl rfl ?_
          refine go_lconst C (0 : Int64) at_135 (pc' := 136) rfl (by decide) ?_
          refine go_lcmp C (0 : Int) (0 : Int) (by decide) (by decide) at_136 (pc1 := 137) rfl at_137 (by decide) (pc' := 172) (by decide) (pcN := 140) rfl (fun (c_911 : ¬ (0 : Int) = (0 : Int)) => by omega) (fun (c_911 : (0 : Int) = (0 : Int)) => ?_)
          refine go_aload C at_140 (pc' := 142) rfl rfl rfl ?_
          refine go_virtualP C (as := []) (rest := []) (W := 0) (.long (0 : Int64)) (sat_rejectedCount l Z a0 hw a_834 _ _ _ F_895) E_891 (wd hw 73 rfl) (wd hw 74 rfl) (wd hw 76 rfl) (wd hw 75 rfl) (wd hw 2 rfl) (wd hw 77 rfl) (by decide) pd_6 rfl rfl rfl (by decide) (by decide) rfl rfl (by decide) (by decide) at_142 (pc' := 145) rfl rfl ?_
          refine go_lconst C (0 : Int64) at_145 (pc' := 146) rfl (by decide) ?_
          refine go_lcmp C (0 : Int) (0 : Int) (by decide) (by decide) at_146 (pc1 := 147) rfl at_147 (by decide) (pc' := 172) (by decide) (pcN := 150) rfl (fun (c_912 : ¬ (0 : Int) = (0 : Int)) => by omega) (fun (c_912 : (0 : Int) = (0 : Int)) => ?_)
          refine go_aload C at_150 (pc' := 152) rfl rfl rfl ?_
          refine go_virtualP C (as := []) (rest := []) (W := 0) (.long (0 : Int64)) (sat_rejectedAtShutdownCount l Z a0 hw a_834 _ _ _ F_896) E_891 (wd hw 80 rfl) (wd hw 81 rfl) (wd hw 83 rfl) (wd hw 82 rfl) (wd hw 2 rfl) (wd hw 84 rfl) (by decide) pd_6 rfl rfl rfl (by decide) (by decide) rfl rfl (by decide) (by decide) at_152 (pc' := 155) rfl rfl ?_
          refine go_lconst C (0 : Int64) at_155 (pc' := 156) rfl (by decide) ?_
          refine go_lcmp C (0 : Int) (0 : Int) (by decide) (by decide) at_156 (pc1 := 157) rfl at_157 (by decide) (pc' := 172) (by decide) (pcN := 160) rfl (fun (c_913 : ¬ (0 : Int) = (0 : Int)) => by omega) (fun (c_913 : (0 : Int) = (0 : Int)) => ?_)
          refine go_aload C at_160 (pc' := 162) rfl rfl rfl ?_
          refine go_virtualP C (as := []) (rest := []) (W := 0) (.int (0 : Int32)) (sat_largestPoolSize l Z a0 hw a_834 _ _ _ F_897) E_891 (wd hw 87 rfl) (wd hw 88 rfl) (wd hw 90 rfl) (wd hw 89 rfl) (wd hw 2 rfl) (wd hw 91 rfl) (by decide) pd_7 rfl rfl rfl (by decide) (by decide) rfl rfl (by decide) (by decide) at_162 (pc' := 165) rfl rfl ?_
          refine go_if0 C (0 : Int) (by decide) at_165 (by decide) (pc' := 172) (by decide) (pcN := 168) rfl (fun (c_914 : ¬ (0 : Int) = 0) => by omega) (fun (c_914 : (0 : Int) = 0) => ?_)
          refine go_iconst C (1 : Int32) at_168 (pc' := 169) rfl (by decide) ?_
          refine go_goto C at_169 (by decide) (pc' := 173) (by decide) ?_
          refine go_ireturnN C (z' := (1 : Int32)) rfl (by simp) rfl at_173 (by decide) (by decide) ?_
          exact ⟨_, rfl, rfl⟩
        · skip
          refine go_iconst C (1 : Int32) at_45 (pc' := 46) rfl (by decide) ?_
          refine go_goto C at_46 (by decide) (pc' := 50) (by decide) ?_
          refine go_istore C (Ls' := #[.val (.int x0), .val (.long x1), .second, .val (.int x2), .val (.long x3), .second, .val (.int (1 : Int32)), .val (.int (0 : Int32)), .val (.int (1 : Int32)), .val (.int (1 : Int32)), .unset, .unset, .unset, .unset, .unset]) at_50 (pc' := 52) rfl rfl ?_
          refine go_new C (wd hw 0 rfl) (wd hw 1 rfl) (wd hw 2 rfl) at_52 (pc' := 55) rfl (ce' := 1) (sl' := 41) rfl rfl (by decide) (by decide) ?_
          intro h_915 a_916 g_917 E_918 E_919 D_920
          have g_921 : Z.heap.size ≤ a_916 := own_ge (Nat.le_refl _) g_917
          have z_922 : Z.heap.size ≤ h_915.size := Nat.le_trans (Nat.le_refl _) E_918.1
          have F_923 : Fld Z h_915 a_916 "com/example/pufferfish/pufferfish/pool/PoolTally" "queueWait" "Lcom/example/pufferfish/pufferfish/pool/PoolTally$TimeSum;" (.null) := D_920 (Or.inr (wd hw 22 rfl)) (ty := (.object "com/example/pufferfish/pufferfish/pool/PoolTally$TimeSum")) (by decide)
          have F_924 : Fld Z h_915 a_916 "com/example/pufferfish/pufferfish/pool/PoolTally" "runTime" "Lcom/example/pufferfish/pufferfish/pool/PoolTally$TimeSum;" (.null) := D_920 (Or.inr (wd hw 24 rfl)) (ty := (.object "com/example/pufferfish/pufferfish/pool/PoolTally$TimeSum")) (by decide)
          have F_925 : Fld Z h_915 a_916 "com/example/pufferfish/pufferfish/pool/PoolTally" "completedCount" "J" (.long (0 : Int64)) := D_920 (Or.inl (wd hw 31 rfl)) (ty := .long) (by decide)
          have F_926 : Fld Z h_915 a_916 "com/example/pufferfish/pufferfish/pool/PoolTally" "failedCount" "J" (.long (0 : Int64)) := D_920 (Or.inl (wd hw 65 rfl)) (ty := .long) (by decide)
          have F_927 : Fld Z h_915 a_916 "com/example/pufferfish/pufferfish/pool/PoolTally" "submittedCount" "J" (.long (0 : Int64)) := D_920 (Or.inl (wd hw 72 rfl)) (ty := .long) (by decide)
          have F_928 : Fld Z h_915 a_916 "com/example/pufferfish/pufferfish/pool/PoolTally" "rejectedCount" "J" (.long (0 : Int64)) := D_920 (Or.inl (wd hw 79 rfl)) (ty := .long) (by decide)
          have F_929 : Fld Z h_915 a_916 "com/example/pufferfish/pufferfish/pool/PoolTally" "rejectedAtShutdownCount" "J" (.long (0 : Int64)) := D_920 (Or.inl (wd hw 86 rfl)) (ty := .long) (by decide)
          have F_930 : Fld Z h_915 a_916 "com/example/pufferfish/pufferfish/pool/PoolTally" "largestPoolSize" "I" (.int (0 : Int32)) := D_920 (Or.inl (wd hw 93 rfl)) (ty := .int) (by decide)
          refine go_dup C at_55 (pc' := 56) rfl rfl ?_
          refine go_specialN C (as := []) (rest := [.ref a_916]) (W := 1) (sat_pt l Z a0 hw a_916 _ _ E_919 F_923 F_924 F_925 F_926 F_927 F_928 F_929 F_930 g_921 z_922) rfl (wd hw 3 rfl) (wd hw 4 rfl) (wd hw 2 rfl) (wd hw 5 rfl) (by decide) pd_1 rfl rfl rfl (by decide) (by decide) (ce' := 3) (sl' := 113) rfl rfl (by decide) (by decide) at_56 (pc' := 59) rfl rfl ?_
          intro h_931 q_932
          obtain ⟨E_933, F_934, F_935, F_936, F_937, F_938, F_939, t_940, g_941, F_942, E_943, u_944, u_945, u_946, F_947, F_948, F_949⟩ := q_932
          have n_950 : a_916 ≠ t_940 := ne_exa E_933 E_943 (by decide)
          refine go_astore C (Ls' := #[.val (.int x0), .val (.long x1), .second, .val (.int x2), .val (.long x3), .second, .val (.int (1 : Int32)), .val (.int (0 : Int32)), .val (.int (1 : Int32)), .val (.int (1 : Int32)), .val (.ref a_916), .unset, .unset, .unset, .unset]) at_59 (pc' := 61) rfl rfl rfl ?_
          refine go_aload C at_61 (pc' := 63) rfl rfl rfl ?_
          refine go_iload C at_63 (pc' := 65) rfl rfl ?_
          refine go_iload C at_65 (pc' := 67) rfl rfl ?_
          refine go_lloadN C at_67 (pc' := 68) rfl rfl ?_
          refine go_virtualN C (as := [.int (1 : Int32), .int (0 : Int32), .long x1]) (rest := []) (W := 0) (sat_te10 l Z a0 hw a_916 (0 : Int64) (0 : Int64) (0 : Int64) (0 : Int64) (0 : Int64) (0 : Int32) x1 _ _ ⟨E_933, F_934, F_935, F_936, F_937, F_938, F_939, t_940, g_941, F_942, E_943, _, _, _, F_947, F_948, F_949⟩ g_921) E_933 (wd hw 25 rfl) (wd hw 26 rfl) (wd hw 28 rfl) (wd hw 27 rfl) (wd hw 2 rfl) (wd hw 29 rfl) (by decide) pd_2 rfl rfl rfl (by decide) (by decide) (ce' := 3) (sl' := 113) rfl rfl (by decide) (by decide) at_68 (pc' := 71) rfl rfl ?_
          intro h_951 q_952
          rw [(by decide : (0 : Int64) + (1 : Int64) = (1 : Int64))] at q_952
          obtain ⟨E_953, F_954, F_955, F_956, F_957, F_958, F_959, t_960, g_961, F_962, E_963, u_964, u_965, u_966, F_967, F_968, F_969⟩ := q_952
          have n_970 : a_916 ≠ t_960 := ne_exa E_953 E_963 (by decide)
          refine go_aload C at_71 (pc' := 73) rfl rfl rfl ?_
          refine go_iload C at_73 (pc' := 75) rfl rfl ?_
          refine go_iload C at_75 (pc' := 77) rfl rfl ?_
          refine go_lload C at_77 (pc' := 79) rfl rfl ?_
          refine go_virtualN C (as := [.int (1 : Int32), .int (1 : Int32), .long x3]) (rest := []) (W := 0) (sat_te11 l Z a0 hw a_916 (1 : Int64) (0 : Int64) (0 : Int64) (0 : Int64) (0 : Int64) (0 : Int32) x3 _ _ ⟨E_953, F_954, F_955, F_956, F_957, F_958, F_959, t_960, g_961, F_962, E_963, _, _, _, F_967, F_968, F_969⟩ g_921) E_953 (wd hw 25 rfl) (wd hw 26 rfl) (wd hw 28 rfl) (wd hw 27 rfl) (wd hw 2 rfl) (wd hw 29 rfl) (by decide) pd_2 rfl rfl rfl (by decide) (by decide) (ce' := 3) (sl' := 113) rfl rfl (by decide) (by decide) at_79 (pc' := 82) rfl rfl ?_
          intro h_971 q_972
          rw [(by decide : (1 : Int64) + (1 : Int64) = (2 : Int64))] at q_972
          rw [(by decide : (0 : Int64) + (1 : Int64) = (1 : Int64))] at q_972
          obtain ⟨E_973, F_974, F_975, F_976, F_977, F_978, F_979, t_980, g_981, F_982, E_983, u_984, u_985, u_986, F_987, F_988, F_989⟩ := q_972
          have n_990 : a_916 ≠ t_980 := ne_exa E_973 E_983 (by decide)
          refine go_iload C at_82 (pc' := 84) rfl rfl ?_
          refine go_staticP C (as := [.int (1 : Int32)]) (rest := []) (W := 0) (.long (1 : Int64)) (sat_one1 l Z a0 hw _ _) (wd hw 50 rfl) (wd hw 51 rfl) (wd hw 52 rfl) (wd hw 53 rfl) (by decide) pd_5 rfl rfl rfl (by decide) (by decide) rfl rfl (by decide) (by decide) at_84 (pc' := 87) rfl rfl ?_
          refine go_iload C at_87 (pc' := 89) rfl rfl ?_
          refine go_staticP C (as := [.int (1 : Int32)]) (rest := [.long (1 : Int64)]) (W := 2) (.long (1 : Int64)) (sat_one1 l Z a0 hw _ _) (wd hw 50 rfl) (wd hw 51 rfl) (wd hw 52 rfl) (wd hw 53 rfl) (by decide) pd_5 rfl rfl rfl (by decide) (by decide) rfl rfl (by decide) (by decide) at_89 (pc' := 92) rfl rfl ?_
          refine go_ladd C at_92 (pc' := 93) rfl ?_
          rw [(by decide : (1 : Int64) + (1 : Int64) = (2 : Int64))]
          refine go_lstore C (Ls' := #[.val (.int x0), .val (.long x1), .second, .val (.int x2), .val (.long x3), .second, .val (.int (1 : Int32)), .val (.int (0 : Int32)), .val (.int (1 : Int32)), .val (.int (1 : Int32)), .val (.ref a_916), .val (.long (2 : Int64)), .second, .unset, .unset]) at_93 (pc' := 95) rfl rfl ?_
          refine go_iload C at_95 (pc' := 97) rfl rfl ?_
          refine go_staticP C (as := [.int (0 : Int32)]) (rest := []) (W := 0) (.long (0 : Int64)) (sat_one0 l Z a0 hw _ _) (wd hw 50 rfl) (wd hw 51 rfl) (wd hw 52 rfl) (wd hw 53 rfl) (by decide) pd_5 rfl rfl rfl (by decide) (by decide) rfl rfl (by decide) (by decide) at_97 (pc' := 100) rfl rfl ?_
          refine go_iload C at_100 (pc' := 102) rfl rfl ?_
          refine go_staticP C (as := [.int (1 : Int32)]) (rest := [.long (0 : Int64)]) (W := 2) (.long (1 : Int64)) (sat_one1 l Z a0 hw _ _) (wd hw 50 rfl) (wd hw 51 rfl) (wd hw 52 rfl) (wd hw 53 rfl) (by decide) pd_5 rfl rfl rfl (by decide) (by decide) rfl rfl (by decide) (by decide) at_102 (pc' := 105) rfl rfl ?_
          refine go_ladd C at_105 (pc' := 106) rfl ?_
          rw [(by decide : (0 : Int64) + (1 : Int64) = (1 : Int64))]
          refine go_lstore C (Ls' := #[.val (.int x0), .val (.long x1), .second, .val (.int x2), .val (.long x3), .second, .val (.int (1 : Int32)), .val (.int (0 : Int32)), .val (.int (1 : Int32)), .val (.int (1 : Int32)), .val (.ref a_916), .val (.long (2 : Int64)), .second, .val (.long (1 : Int64)), .second]) at_106 (pc' := 108) rfl rfl ?_
          refine go_aload C at_108 (pc' := 110) rfl rfl rfl ?_
          refine go_virtualP C (as := []) (rest := []) (W := 0) (.long (2 : Int64)) (sat_completedCount l Z a0 hw a_916 _ _ _ F_974) E_973 (wd hw 54 rfl) (wd hw 55 rfl) (wd hw 57 rfl) (wd hw 56 rfl) (wd hw 2 rfl) (wd hw 58 rfl) (by decide) pd_6 rfl rfl rfl (by decide) (by decide) rfl rfl (by decide) (by decide) at_110 (pc' := 113) rfl rfl ?_
          refine go_lload C at_113 (pc' := 115) rfl rfl ?_
          refine go_lcmp C (2 : Int) (2 : Int) (by decide) (by decide) at_115 (pc1 := 116) rfl at_116 (by decide) (pc' := 172) (by decide) (pcN := 119) rfl (fun (c_991 : ¬ (2 : Int) = (2 : Int)) => by omega) (fun (c_991 : (2 : Int) = (2 : Int)) => ?_)
          refine go_aload C at_119 (pc' := 121) rfl rfl rfl ?_
          refine go_virtualP C (as := []) (rest := []) (W := 0) (.long (1 : Int64)) (sat_failedCount l Z a0 hw a_916 _ _ _ F_975) E_973 (wd hw 59 rfl) (wd hw 60 rfl) (wd hw 62 rfl) (wd hw 61 rfl) (wd hw 2 rfl) (wd hw 63 rfl) (by decide) pd_6 rfl rfl rfl (by decide) (by decide) rfl rfl (by decide) (by decide) at_121 (pc' := 124) rfl rfl ?_
          refine go_lload C at_124 (pc' := 126) rfl rfl ?_
          refine go_lcmp C (1 : Int) (1 : Int) (by decide) (by decide) at_126 (pc1 := 127) rfl at_127 (by decide) (pc' := 172) (by decide) (pcN := 130) rfl (fun (c_992 : ¬ (1 : Int) = (1 : Int)) => by omega) (fun (c_992 : (1 : Int) = (1 : Int)) => ?_)
          refine go_aload C at_130 (pc' := 132) rfl rfl rfl ?_
          refine go_virtualP C (as := []) (rest := []) (W := 0) (.long (0 : Int64)) (sat_submittedCount l Z a0 hw a_916 _ _ _ F_976) E_973 (wd hw 66 rfl) (wd hw 67 rfl) (wd hw 69 rfl) (wd hw 68 rfl) (wd hw 2 rfl) (wd hw 70 rfl) (by decide) pd_6 rfl rfl rfl (by decide) (by decide) rfl rfl (by decide) (by decide) at_132 (pc' := 135) rfl rfl ?_
          refine go_lconst C (0 : Int64) at_135 (pc' := 136) rfl (by decide) ?_
          refine go_lcmp C (0 : Int) (0 : Int) (by decide) (by decide) at_136 (pc1 := 137) rfl at_137 (by decide) (pc' := 172) (by decide) (pcN := 140) rfl (fun (c_993 : ¬ (0 : Int) = (0 : Int)) => by omega) (fun (c_993 : (0 : Int) = (0 : Int)) => ?_)
          refine go_aload C at_140 (pc' := 142) rfl rfl rfl ?_
          refine go_virtualP C (as := []) (rest := []) (W := 0) (.long (0 : Int64)) (sat_rejectedCount l Z a0 hw a_916 _ _ _ F_977) E_973 (wd hw 73 rfl) (wd hw 74 rfl) (wd hw 76 rfl) (wd hw 75 rfl) (wd hw 2 rfl) (wd hw 77 rfl) (by decide) pd_6 rfl rfl rfl (by decide) (by decide) rfl rfl (by decide) (by decide) at_142 (pc' := 145) rfl rfl ?_
          refine go_lconst C (0 : Int64) at_145 (pc' := 146) rfl (by decide) ?_
          refine go_lcmp C (0 : Int) (0 : Int) (by decide) (by decide) at_146 (pc1 := 147) rfl at_147 (by decide) (pc' := 172) (by decide) (pcN := 150) rfl (fun (c_994 : ¬ (0 : Int) = (0 : Int)) => by omega) (fun (c_994 : (0 : Int) = (0 : Int)) => ?_)
          refine go_aload C at_150 (pc' := 152) rfl rfl rfl ?_
          refine go_virtualP C (as := []) (rest := []) (W := 0) (.long (0 : Int64)) (sat_rejectedAtShutdownCount l Z a0 hw a_916 _ _ _ F_978) E_973 (wd hw 80 rfl) (wd hw 81 rfl) (wd hw 83 rfl) (wd hw 82 rfl) (wd hw 2 rfl) (wd hw 84 rfl) (by decide) pd_6 rfl rfl rfl (by decide) (by decide) rfl rfl (by decide) (by decide) at_152 (pc' := 155) rfl rfl ?_
          refine go_lconst C (0 : Int64) at_155 (pc' := 156) rfl (by decide) ?_
          refine go_lcmp C (0 : Int) (0 : Int) (by decide) (by decide) at_156 (pc1 := 157) rfl at_157 (by decide) (pc' := 172) (by decide) (pcN := 160) rfl (fun (c_995 : ¬ (0 : Int) = (0 : Int)) => by omega) (fun (c_995 : (0 : Int) = (0 : Int)) => ?_)
          refine go_aload C at_160 (pc' := 162) rfl rfl rfl ?_
          refine go_virtualP C (as := []) (rest := []) (W := 0) (.int (0 : Int32)) (sat_largestPoolSize l Z a0 hw a_916 _ _ _ F_979) E_973 (wd hw 87 rfl) (wd hw 88 rfl) (wd hw 90 rfl) (wd hw 89 rfl) (wd hw 2 rfl) (wd hw 91 rfl) (by decide) pd_7 rfl rfl rfl (by decide) (by decide) rfl rfl (by decide) (by decide) at_162 (pc' := 165) rfl rfl ?_
          refine go_if0 C (0 : Int) (by decide) at_165 (by decide) (pc' := 172) (by decide) (pcN := 168) rfl (fun (c_996 : ¬ (0 : Int) = 0) => by omega) (fun (c_996 : (0 : Int) = 0) => ?_)
          refine go_iconst C (1 : Int32) at_168 (pc' := 169) rfl (by decide) ?_
          refine go_goto C at_169 (by decide) (pc' := 173) (by decide) ?_
          refine go_ireturnN C (z' := (1 : Int32)) rfl (by simp) rfl at_173 (by decide) (by decide) ?_
          exact ⟨_, rfl, rfl⟩
    · skip
      refine go_iconst C (1 : Int32) at_19 (pc' := 20) rfl (by decide) ?_
      refine go_goto C at_20 (by decide) (pc' := 24) (by decide) ?_
      refine go_istore C (Ls' := #[.val (.int x0), .val (.long x1), .second, .val (.int x2), .val (.long x3), .second, .val (.int (1 : Int32)), .val (.int (1 : Int32)), .unset, .unset, .unset, .unset, .unset, .unset, .unset]) at_24 (pc' := 26) rfl rfl ?_
      refine go_iloadN C at_26 (pc' := 27) rfl rfl ?_
      refine go_iconst C (1 : Int32) at_27 (pc' := 28) rfl (by decide) ?_
      refine go_iand C at_28 (pc' := 29) rfl ?_
      refine go_if0 C ((x2 &&& (1 : Int32)).toInt) rfl at_29 (by decide) (pc' := 36) (by decide) (pcN := 32) rfl (fun (c_997 : ((x2 &&& (1 : Int32)).toInt) = 0) => ?_) (fun (c_997 : ¬ ((x2 &&& (1 : Int32)).toInt) = 0) => ?_)
      · skip
        refine go_iconst C (0 : Int32) at_36 (pc' := 37) rfl (by decide) ?_
        refine go_istore C (Ls' := #[.val (.int x0), .val (.long x1), .second, .val (.int x2), .val (.long x3), .second, .val (.int (1 : Int32)), .val (.int (1 : Int32)), .val (.int (0 : Int32)), .unset, .unset, .unset, .unset, .unset, .unset]) at_37 (pc' := 39) rfl rfl ?_
        refine go_iloadN C at_39 (pc' := 40) rfl rfl ?_
        refine go_iconst C (2 : Int32) at_40 (pc' := 41) rfl (by decide) ?_
        refine go_iand C at_41 (pc' := 42) rfl ?_
        refine go_if0 C ((x2 &&& (2 : Int32)).toInt) rfl at_42 (by decide) (pc' := 49) (by decide) (pcN := 45) rfl (fun (c_998 : ((x2 &&& (2 : Int32)).toInt) = 0) => ?_) (fun (c_998 : ¬ ((x2 &&& (2 : Int32)).toInt) = 0) => ?_)
        · skip
          refine go_iconst C (0 : Int32) at_49 (pc' := 50) rfl (by decide) ?_
          refine go_istore C (Ls' := #[.val (.int x0), .val (.long x1), .second, .val (.int x2), .val (.long x3), .second, .val (.int (1 : Int32)), .val (.int (1 : Int32)), .val (.int (0 : Int32)), .val (.int (0 : Int32)), .unset, .unset, .unset, .unset, .unset]) at_50 (pc' := 52) rfl rfl ?_
          refine go_new C (wd hw 0 rfl) (wd hw 1 rfl) (wd hw 2 rfl) at_52 (pc' := 55) rfl (ce' := 1) (sl' := 41) rfl rfl (by decide) (by decide) ?_
          intro h_999 a_1000 g_1001 E_1002 E_1003 D_1004
          have g_1005 : Z.heap.size ≤ a_1000 := own_ge (Nat.le_refl _) g_1001
          have z_1006 : Z.heap.size ≤ h_999.size := Nat.le_trans (Nat.le_refl _) E_1002.1
          have F_1007 : Fld Z h_999 a_1000 "com/example/pufferfish/pufferfish/pool/PoolTally" "queueWait" "Lcom/example/pufferfish/pufferfish/pool/PoolTally$TimeSum;" (.null) := D_1004 (Or.inr (wd hw 22 rfl)) (ty := (.object "com/example/pufferfish/pufferfish/pool/PoolTally$TimeSum")) (by decide)
          have F_1008 : Fld Z h_999 a_1000 "com/example/pufferfish/pufferfish/pool/PoolTally" "runTime" "Lcom/example/pufferfish/pufferfish/pool/PoolTally$TimeSum;" (.null) := D_1004 (Or.inr (wd hw 24 rfl)) (ty := (.object "com/example/pufferfish/pufferfish/pool/PoolTally$TimeSum")) (by decide)
          have F_1009 : Fld Z h_999 a_1000 "com/example/pufferfish/pufferfish/pool/PoolTally" "completedCount" "J" (.long (0 : Int64)) := D_1004 (Or.inl (wd hw 31 rfl)) (ty := .long) (by decide)
          have F_1010 : Fld Z h_999 a_1000 "com/example/pufferfish/pufferfish/pool/PoolTally" "failedCount" "J" (.long (0 : Int64)) := D_1004 (Or.inl (wd hw 65 rfl)) (ty := .long) (by decide)
          have F_1011 : Fld Z h_999 a_1000 "com/example/pufferfish/pufferfish/pool/PoolTally" "submittedCount" "J" (.long (0 : Int64)) := D_1004 (Or.inl (wd hw 72 rfl)) (ty := .long) (by decide)
          have F_1012 : Fld Z h_999 a_1000 "com/example/pufferfish/pufferfish/pool/PoolTally" "rejectedCount" "J" (.long (0 : Int64)) := D_1004 (Or.inl (wd hw 79 rfl)) (ty := .long) (by decide)
          have F_1013 : Fld Z h_999 a_1000 "com/example/pufferfish/pufferfish/pool/PoolTally" "rejectedAtShutdownCount" "J" (.long (0 : Int64)) := D_1004 (Or.inl (wd hw 86 rfl)) (ty := .long) (by decide)
          have F_1014 : Fld Z h_999 a_1000 "com/example/pufferfish/pufferfish/pool/PoolTally" "largestPoolSize" "I" (.int (0 : Int32)) := D_1004 (Or.inl (wd hw 93 rfl)) (ty := .int) (by decide)
          refine go_dup C at_55 (pc' := 56) rfl rfl ?_
          refine go_specialN C (as := []) (rest := [.ref a_1000]) (W := 1) (sat_pt l Z a0 hw a_1000 _ _ E_1003 F_1007 F_1008 F_1009 F_1010 F_1011 F_1012 F_1013 F_1014 g_1005 z_1006) rfl (wd hw 3 rfl) (wd hw 4 rfl) (wd hw 2 rfl) (wd hw 5 rfl) (by decide) pd_1 rfl rfl rfl (by decide) (by decide) (ce' := 3) (sl' := 113) rfl rfl (by decide) (by decide) at_56 (pc' := 59) rfl rfl ?_
          intro h_1015 q_1016
          obtain ⟨E_1017, F_1018, F_1019, F_1020, F_1021, F_1022, F_1023, t_1024, g_1025, F_1026, E_1027, u_1028, u_1029, u_1030, F_1031, F_1032, F_1033⟩ := q_1016
          have n_1034 : a_1000 ≠ t_1024 := ne_exa E_1017 E_1027 (by decide)
          refine go_astore C (Ls' := #[.val (.int x0), .val (.long x1), .second, .val (.int x2), .val (.long x3), .second, .val (.int (1 : Int32)), .val (.int (1 : Int32)), .val (.int (0 : Int32)), .val (.int (0 : Int32)), .val (.ref a_1000), .unset, .unset, .unset, .unset]) at_59 (pc' := 61) rfl rfl rfl ?_
          refine go_aload C at_61 (pc' := 63) rfl rfl rfl ?_
          refine go_iload C at_63 (pc' := 65) rfl rfl ?_
          refine go_iload C at_65 (pc' := 67) rfl rfl ?_
          refine go_lloadN C at_67 (pc' := 68) rfl rfl ?_
          refine go_virtualN C (as := [.int (1 : Int32), .int (1 : Int32), .long x1]) (rest := []) (W := 0) (sat_te11 l Z a0 hw a_1000 (0 : Int64) (0 : Int64) (0 : Int64) (0 : Int64) (0 : Int64) (0 : Int32) x1 _ _ ⟨E_1017, F_1018, F_1019, F_1020, F_1021, F_1022, F_1023, t_1024, g_1025, F_1026, E_1027, _, _, _, F_1031, F_1032, F_1033⟩ g_1005) E_1017 (wd hw 25 rfl) (wd hw 26 rfl) (wd hw 28 rfl) (wd hw 27 rfl) (wd hw 2 rfl) (wd hw 29 rfl) (by decide) pd_2 rfl rfl rfl (by decide) (by decide) (ce' := 3) (sl' := 113) rfl rfl (by decide) (by decide) at_68 (pc' := 71) rfl rfl ?_
          intro h_1035 q_1036
          rw [(by decide : (0 : Int64) + (1 : Int64) = (1 : Int64))] at q_1036
          obtain ⟨E_1037, F_1038, F_1039, F_1040, F_1041, F_1042, F_1043, t_1044, g_1045, F_1046, E_1047, u_1048, u_1049, u_1050, F_1051, F_1052, F_1053⟩ := q_1036
          have n_1054 : a_1000 ≠ t_1044 := ne_exa E_1037 E_1047 (by decide)
          refine go_aload C at_71 (pc' := 73) rfl rfl rfl ?_
          refine go_iload C at_73 (pc' := 75) rfl rfl ?_
          refine go_iload C at_75 (pc' := 77) rfl rfl ?_
          refine go_lload C at_77 (pc' := 79) rfl rfl ?_
          refine go_virtualN C (as := [.int (0 : Int32), .int (0 : Int32), .long x3]) (rest := []) (W := 0) (sat_te00 l Z a0 hw a_1000 (1 : Int64) (1 : Int64) (0 : Int64) (0 : Int64) (0 : Int64) (0 : Int32) x3 _ _ ⟨E_1037, F_1038, F_1039, F_1040, F_1041, F_1042, F_1043, t_1044, g_1045, F_1046, E_1047, _, _, _, F_1051, F_1052, F_1053⟩ g_1005) E_1037 (wd hw 25 rfl) (wd hw 26 rfl) (wd hw 28 rfl) (wd hw 27 rfl) (wd hw 2 rfl) (wd hw 29 rfl) (by decide) pd_2 rfl rfl rfl (by decide) (by decide) (ce' := 3) (sl' := 113) rfl rfl (by decide) (by decide) at_79 (pc' := 82) rfl rfl ?_
          intro h_1055 q_1056
          obtain ⟨E_1057, F_1058, F_1059, F_1060, F_1061, F_1062, F_1063, t_1064, g_1065, F_1066, E_1067, u_1068, u_1069, u_1070, F_1071, F_1072, F_1073⟩ := q_1056
          have n_1074 : a_1000 ≠ t_1064 := ne_exa E_1057 E_1067 (by decide)
          refine go_iload C at_82 (pc' := 84) rfl rfl ?_
          refine go_staticP C (as := [.int (1 : Int32)]) (rest := []) (W := 0) (.long (1 : Int64)) (sat_one1 l Z a0 hw _ _) (wd hw 50 rfl) (wd hw 51 rfl) (wd hw 52 rfl) (wd hw 53 rfl) (by decide) pd_5 rfl rfl rfl (by decide) (by decide) rfl rfl (by decide) (by decide) at_84 (pc' := 87) rfl rfl ?_
          refine go_iload C at_87 (pc' := 89) rfl rfl ?_
          refine go_staticP C (as := [.int (0 : Int32)]) (rest := [.long (1 : Int64)]) (W := 2) (.long (0 : Int64)) (sat_one0 l Z a0 hw _ _) (wd hw 50 rfl) (wd hw 51 rfl) (wd hw 52 rfl) (wd hw 53 rfl) (by decide) pd_5 rfl rfl rfl (by decide) (by decide) rfl rfl (by decide) (by decide) at_89 (pc' := 92) rfl rfl ?_
          refine go_ladd C at_92 (pc' := 93) rfl ?_
          rw [(by decide : (1 : Int64) + (0 : Int64) = (1 : Int64))]
          refine go_lstore C (Ls' := #[.val (.int x0), .val (.long x1), .second, .val (.int x2), .val (.long x3), .second, .val (.int (1 : Int32)), .val (.int (1 : Int32)), .val (.int (0 : Int32)), .val (.int (0 : Int32)), .val (.ref a_1000), .val (.long (1 : Int64)), .second, .unset, .unset]) at_93 (pc' := 95) rfl rfl ?_
          refine go_iload C at_95 (pc' := 97) rfl rfl ?_
          refine go_staticP C (as := [.int (1 : Int32)]) (rest := []) (W := 0) (.long (1 : Int64)) (sat_one1 l Z a0 hw _ _) (wd hw 50 rfl) (wd hw 51 rfl) (wd hw 52 rfl) (wd hw 53 rfl) (by decide) pd_5 rfl rfl rfl (by decide) (by decide) rfl rfl (by decide) (by decide) at_97 (pc' := 100) rfl rfl ?_
          refine go_iload C at_100 (pc' := 102) rfl rfl ?_
          refine go_staticP C (as := [.int (0 : Int32)]) (rest := [.long (1 : Int64)]) (W := 2) (.long (0 : Int64)) (sat_one0 l Z a0 hw _ _) (wd hw 50 rfl) (wd hw 51 rfl) (wd hw 52 rfl) (wd hw 53 rfl) (by decide) pd_5 rfl rfl rfl (by decide) (by decide) rfl rfl (by decide) (by decide) at_102 (pc' := 105) rfl rfl ?_
          refine go_ladd C at_105 (pc' := 106) rfl ?_
          rw [(by decide : (1 : Int64) + (0 : Int64) = (1 : Int64))]
          refine go_lstore C (Ls' := #[.val (.int x0), .val (.long x1), .second, .val (.int x2), .val (.long x3), .second, .val (.int (1 : Int32)), .val (.int (1 : Int32)), .val (.int (0 : Int32)), .val (.int (0 : Int32)), .val (.ref a_1000), .val (.long (1 : Int64)), .second, .val (.long (1 : Int64)), .second]) at_106 (pc' := 108) rfl rfl ?_
          refine go_aload C at_108 (pc' := 110) rfl rfl rfl ?_
          refine go_virtualP C (as := []) (rest := []) (W := 0) (.long (1 : Int64)) (sat_completedCount l Z a0 hw a_1000 _ _ _ F_1058) E_1057 (wd hw 54 rfl) (wd hw 55 rfl) (wd hw 57 rfl) (wd hw 56 rfl) (wd hw 2 rfl) (wd hw 58 rfl) (by decide) pd_6 rfl rfl rfl (by decide) (by decide) rfl rfl (by decide) (by decide) at_110 (pc' := 113) rfl rfl ?_
          refine go_lload C at_113 (pc' := 115) rfl rfl ?_
          refine go_lcmp C (1 : Int) (1 : Int) (by decide) (by decide) at_115 (pc1 := 116) rfl at_116 (by decide) (pc' := 172) (by decide) (pcN := 119) rfl (fun (c_1075 : ¬ (1 : Int) = (1 : Int)) => by omega) (fun (c_1075 : (1 : Int) = (1 : Int)) => ?_)
          refine go_aload C at_119 (pc' := 121) rfl rfl rfl ?_
          refine go_virtualP C (as := []) (rest := []) (W := 0) (.long (1 : Int64)) (sat_failedCount l Z a0 hw a_1000 _ _ _ F_1059) E_1057 (wd hw 59 rfl) (wd hw 60 rfl) (wd hw 62 rfl) (wd hw 61 rfl) (wd hw 2 rfl) (wd hw 63 rfl) (by decide) pd_6 rfl rfl rfl (by decide) (by decide) rfl rfl (by decide) (by decide) at_121 (pc' := 124) rfl rfl ?_
          refine go_lload C at_124 (pc' := 126) rfl rfl ?_
          refine go_lcmp C (1 : Int) (1 : Int) (by decide) (by decide) at_126 (pc1 := 127) rfl at_127 (by decide) (pc' := 172) (by decide) (pcN := 130) rfl (fun (c_1076 : ¬ (1 : Int) = (1 : Int)) => by omega) (fun (c_1076 : (1 : Int) = (1 : Int)) => ?_)
          refine go_aload C at_130 (pc' := 132) rfl rfl rfl ?_
          refine go_virtualP C (as := []) (rest := []) (W := 0) (.long (0 : Int64)) (sat_submittedCount l Z a0 hw a_1000 _ _ _ F_1060) E_1057 (wd hw 66 rfl) (wd hw 67 rfl) (wd hw 69 rfl) (wd hw 68 rfl) (wd hw 2 rfl) (wd hw 70 rfl) (by decide) pd_6 rfl rfl rfl (by decide) (by decide) rfl rfl (by decide) (by decide) at_132 (pc' := 135) rfl rfl ?_
          refine go_lconst C (0 : Int64) at_135 (pc' := 136) rfl (by decide) ?_
          refine go_lcmp C (0 : Int) (0 : Int) (by decide) (by decide) at_136 (pc1 := 137) rfl at_137 (by decide) (pc' := 172) (by decide) (pcN := 140) rfl (fun (c_1077 : ¬ (0 : Int) = (0 : Int)) => by omega) (fun (c_1077 : (0 : Int) = (0 : Int)) => ?_)
          refine go_aload C at_140 (pc' := 142) rfl rfl rfl ?_
          refine go_virtualP C (as := []) (rest := []) (W := 0) (.long (0 : Int64)) (sat_rejectedCount l Z a0 hw a_1000 _ _ _ F_1061) E_1057 (wd hw 73 rfl) (wd hw 74 rfl) (wd hw 76 rfl) (wd hw 75 rfl) (wd hw 2 rfl) (wd hw 77 rfl) (by decide) pd_6 rfl rfl rfl (by decide) (by decide) rfl rfl (by decide) (by decide) at_142 (pc' := 145) rfl rfl ?_
          refine go_lconst C (0 : Int64) at_145 (pc' := 146) rfl (by decide) ?_
          refine go_lcmp C (0 : Int) (0 : Int) (by decide) (by decide) at_146 (pc1 := 147) rfl at_147 (by decide) (pc' := 172) (by decide) (pcN := 150) rfl (fun (c_1078 : ¬ (0 : Int) = (0 : Int)) => by omega) (fun (c_1078 : (0 : Int) = (0 : Int)) => ?_)
          refine go_aload C at_150 (pc' := 152) rfl rfl rfl ?_
          refine go_virtualP C (as := []) (rest := []) (W := 0) (.long (0 : Int64)) (sat_rejectedAtShutdownCount l Z a0 hw a_1000 _ _ _ F_1062) E_1057 (wd hw 80 rfl) (wd hw 81 rfl) (wd hw 83 rfl) (wd hw 82 rfl) (wd hw 2 rfl) (wd hw 84 rfl) (by decide) pd_6 rfl rfl rfl (by decide) (by decide) rfl rfl (by decide) (by decide) at_152 (pc' := 155) rfl rfl ?_
          refine go_lconst C (0 : Int64) at_155 (pc' := 156) rfl (by decide) ?_
          refine go_lcmp C (0 : Int) (0 : Int) (by decide) (by decide) at_156 (pc1 := 157) rfl at_157 (by decide) (pc' := 172) (by decide) (pcN := 160) rfl (fun (c_1079 : ¬ (0 : Int) = (0 : Int)) => by omega) (fun (c_1079 : (0 : Int) = (0 : Int)) => ?_)
          refine go_aload C at_160 (pc' := 162) rfl rfl rfl ?_
          refine go_virtualP C (as := []) (rest := []) (W := 0) (.int (0 : Int32)) (sat_largestPoolSize l Z a0 hw a_1000 _ _ _ F_1063) E_1057 (wd hw 87 rfl) (wd hw 88 rfl) (wd hw 90 rfl) (wd hw 89 rfl) (wd hw 2 rfl) (wd hw 91 rfl) (by decide) pd_7 rfl rfl rfl (by decide) (by decide) rfl rfl (by decide) (by decide) at_162 (pc' := 165) rfl rfl ?_
          refine go_if0 C (0 : Int) (by decide) at_165 (by decide) (pc' := 172) (by decide) (pcN := 168) rfl (fun (c_1080 : ¬ (0 : Int) = 0) => by omega) (fun (c_1080 : (0 : Int) = 0) => ?_)
          refine go_iconst C (1 : Int32) at_168 (pc' := 169) rfl (by decide) ?_
          refine go_goto C at_169 (by decide) (pc' := 173) (by decide) ?_
          refine go_ireturnN C (z' := (1 : Int32)) rfl (by simp) rfl at_173 (by decide) (by decide) ?_
          exact ⟨_, rfl, rfl⟩
        · skip
          refine go_iconst C (1 : Int32) at_45 (pc' := 46) rfl (by decide) ?_
          refine go_goto C at_46 (by decide) (pc' := 50) (by decide) ?_
          refine go_istore C (Ls' := #[.val (.int x0), .val (.long x1), .second, .val (.int x2), .val (.long x3), .second, .val (.int (1 : Int32)), .val (.int (1 : Int32)), .val (.int (0 : Int32)), .val (.int (1 : Int32)), .unset, .unset, .unset, .unset, .unset]) at_50 (pc' := 52) rfl rfl ?_
          refine go_new C (wd hw 0 rfl) (wd hw 1 rfl) (wd hw 2 rfl) at_52 (pc' := 55) rfl (ce' := 1) (sl' := 41) rfl rfl (by decide) (by decide) ?_
          intro h_1081 a_1082 g_1083 E_1084 E_1085 D_1086
          have g_1087 : Z.heap.size ≤ a_1082 := own_ge (Nat.le_refl _) g_1083
          have z_1088 : Z.heap.size ≤ h_1081.size := Nat.le_trans (Nat.le_refl _) E_1084.1
          have F_1089 : Fld Z h_1081 a_1082 "com/example/pufferfish/pufferfish/pool/PoolTally" "queueWait" "Lcom/example/pufferfish/pufferfish/pool/PoolTally$TimeSum;" (.null) := D_1086 (Or.inr (wd hw 22 rfl)) (ty := (.object "com/example/pufferfish/pufferfish/pool/PoolTally$TimeSum")) (by decide)
          have F_1090 : Fld Z h_1081 a_1082 "com/example/pufferfish/pufferfish/pool/PoolTally" "runTime" "Lcom/example/pufferfish/pufferfish/pool/PoolTally$TimeSum;" (.null) := D_1086 (Or.inr (wd hw 24 rfl)) (ty := (.object "com/example/pufferfish/pufferfish/pool/PoolTally$TimeSum")) (by decide)
          have F_1091 : Fld Z h_1081 a_1082 "com/example/pufferfish/pufferfish/pool/PoolTally" "completedCount" "J" (.long (0 : Int64)) := D_1086 (Or.inl (wd hw 31 rfl)) (ty := .long) (by decide)
          have F_1092 : Fld Z h_1081 a_1082 "com/example/pufferfish/pufferfish/pool/PoolTally" "failedCount" "J" (.long (0 : Int64)) := D_1086 (Or.inl (wd hw 65 rfl)) (ty := .long) (by decide)
          have F_1093 : Fld Z h_1081 a_1082 "com/example/pufferfish/pufferfish/pool/PoolTally" "submittedCount" "J" (.long (0 : Int64)) := D_1086 (Or.inl (wd hw 72 rfl)) (ty := .long) (by decide)
          have F_1094 : Fld Z h_1081 a_1082 "com/example/pufferfish/pufferfish/pool/PoolTally" "rejectedCount" "J" (.long (0 : Int64)) := D_1086 (Or.inl (wd hw 79 rfl)) (ty := .long) (by decide)
          have F_1095 : Fld Z h_1081 a_1082 "com/example/pufferfish/pufferfish/pool/PoolTally" "rejectedAtShutdownCount" "J" (.long (0 : Int64)) := D_1086 (Or.inl (wd hw 86 rfl)) (ty := .long) (by decide)
          have F_1096 : Fld Z h_1081 a_1082 "com/example/pufferfish/pufferfish/pool/PoolTally" "largestPoolSize" "I" (.int (0 : Int32)) := D_1086 (Or.inl (wd hw 93 rfl)) (ty := .int) (by decide)
          refine go_dup C at_55 (pc' := 56) rfl rfl ?_
          refine go_specialN C (as := []) (rest := [.ref a_1082]) (W := 1) (sat_pt l Z a0 hw a_1082 _ _ E_1085 F_1089 F_1090 F_1091 F_1092 F_1093 F_1094 F_1095 F_1096 g_1087 z_1088) rfl (wd hw 3 rfl) (wd hw 4 rfl) (wd hw 2 rfl) (wd hw 5 rfl) (by decide) pd_1 rfl rfl rfl (by decide) (by decide) (ce' := 3) (sl' := 113) rfl rfl (by decide) (by decide) at_56 (pc' := 59) rfl rfl ?_
          intro h_1097 q_1098
          obtain ⟨E_1099, F_1100, F_1101, F_1102, F_1103, F_1104, F_1105, t_1106, g_1107, F_1108, E_1109, u_1110, u_1111, u_1112, F_1113, F_1114, F_1115⟩ := q_1098
          have n_1116 : a_1082 ≠ t_1106 := ne_exa E_1099 E_1109 (by decide)
          refine go_astore C (Ls' := #[.val (.int x0), .val (.long x1), .second, .val (.int x2), .val (.long x3), .second, .val (.int (1 : Int32)), .val (.int (1 : Int32)), .val (.int (0 : Int32)), .val (.int (1 : Int32)), .val (.ref a_1082), .unset, .unset, .unset, .unset]) at_59 (pc' := 61) rfl rfl rfl ?_
          refine go_aload C at_61 (pc' := 63) rfl rfl rfl ?_
          refine go_iload C at_63 (pc' := 65) rfl rfl ?_
          refine go_iload C at_65 (pc' := 67) rfl rfl ?_
          refine go_lloadN C at_67 (pc' := 68) rfl rfl ?_
          refine go_virtualN C (as := [.int (1 : Int32), .int (1 : Int32), .long x1]) (rest := []) (W := 0) (sat_te11 l Z a0 hw a_1082 (0 : Int64) (0 : Int64) (0 : Int64) (0 : Int64) (0 : Int64) (0 : Int32) x1 _ _ ⟨E_1099, F_1100, F_1101, F_1102, F_1103, F_1104, F_1105, t_1106, g_1107, F_1108, E_1109, _, _, _, F_1113, F_1114, F_1115⟩ g_1087) E_1099 (wd hw 25 rfl) (wd hw 26 rfl) (wd hw 28 rfl) (wd hw 27 rfl) (wd hw 2 rfl) (wd hw 29 rfl) (by decide) pd_2 rfl rfl rfl (by decide) (by decide) (ce' := 3) (sl' := 113) rfl rfl (by decide) (by decide) at_68 (pc' := 71) rfl rfl ?_
          intro h_1117 q_1118
          rw [(by decide : (0 : Int64) + (1 : Int64) = (1 : Int64))] at q_1118
          obtain ⟨E_1119, F_1120, F_1121, F_1122, F_1123, F_1124, F_1125, t_1126, g_1127, F_1128, E_1129, u_1130, u_1131, u_1132, F_1133, F_1134, F_1135⟩ := q_1118
          have n_1136 : a_1082 ≠ t_1126 := ne_exa E_1119 E_1129 (by decide)
          refine go_aload C at_71 (pc' := 73) rfl rfl rfl ?_
          refine go_iload C at_73 (pc' := 75) rfl rfl ?_
          refine go_iload C at_75 (pc' := 77) rfl rfl ?_
          refine go_lload C at_77 (pc' := 79) rfl rfl ?_
          refine go_virtualN C (as := [.int (0 : Int32), .int (1 : Int32), .long x3]) (rest := []) (W := 0) (sat_te01 l Z a0 hw a_1082 (1 : Int64) (1 : Int64) (0 : Int64) (0 : Int64) (0 : Int64) (0 : Int32) x3 _ _ ⟨E_1119, F_1120, F_1121, F_1122, F_1123, F_1124, F_1125, t_1126, g_1127, F_1128, E_1129, _, _, _, F_1133, F_1134, F_1135⟩ g_1087) E_1119 (wd hw 25 rfl) (wd hw 26 rfl) (wd hw 28 rfl) (wd hw 27 rfl) (wd hw 2 rfl) (wd hw 29 rfl) (by decide) pd_2 rfl rfl rfl (by decide) (by decide) (ce' := 3) (sl' := 113) rfl rfl (by decide) (by decide) at_79 (pc' := 82) rfl rfl ?_
          intro h_1137 q_1138
          rw [(by decide : (1 : Int64) + (1 : Int64) = (2 : Int64))] at q_1138
          obtain ⟨E_1139, F_1140, F_1141, F_1142, F_1143, F_1144, F_1145, t_1146, g_1147, F_1148, E_1149, u_1150, u_1151, u_1152, F_1153, F_1154, F_1155⟩ := q_1138
          have n_1156 : a_1082 ≠ t_1146 := ne_exa E_1139 E_1149 (by decide)
          refine go_iload C at_82 (pc' := 84) rfl rfl ?_
          refine go_staticP C (as := [.int (1 : Int32)]) (rest := []) (W := 0) (.long (1 : Int64)) (sat_one1 l Z a0 hw _ _) (wd hw 50 rfl) (wd hw 51 rfl) (wd hw 52 rfl) (wd hw 53 rfl) (by decide) pd_5 rfl rfl rfl (by decide) (by decide) rfl rfl (by decide) (by decide) at_84 (pc' := 87) rfl rfl ?_
          refine go_iload C at_87 (pc' := 89) rfl rfl ?_
          refine go_staticP C (as := [.int (0 : Int32)]) (rest := [.long (1 : Int64)]) (W := 2) (.long (0 : Int64)) (sat_one0 l Z a0 hw _ _) (wd hw 50 rfl) (wd hw 51 rfl) (wd hw 52 rfl) (wd hw 53 rfl) (by decide) pd_5 rfl rfl rfl (by decide) (by decide) rfl rfl (by decide) (by decide) at_89 (pc' := 92) rfl rfl ?_
          refine go_ladd C at_92 (pc' := 93) rfl ?_
          rw [(by decide : (1 : Int64) + (0 : Int64) = (1 : Int64))]
          refine go_lstore C (Ls' := #[.val (.int x0), .val (.long x1), .second, .val (.int x2), .val (.long x3), .second, .val (.int (1 : Int32)), .val (.int (1 : Int32)), .val (.int (0 : Int32)), .val (.int (1 : Int32)), .val (.ref a_1082), .val (.long (1 : Int64)), .second, .unset, .unset]) at_93 (pc' := 95) rfl rfl ?_
          refine go_iload C at_95 (pc' := 97) rfl rfl ?_
          refine go_staticP C (as := [.int (1 : Int32)]) (rest := []) (W := 0) (.long (1 : Int64)) (sat_one1 l Z a0 hw _ _) (wd hw 50 rfl) (wd hw 51 rfl) (wd hw 52 rfl) (wd hw 53 rfl) (by decide) pd_5 rfl rfl rfl (by decide) (by decide) rfl rfl (by decide) (by decide) at_97 (pc' := 100) rfl rfl ?_
          refine go_iload C at_100 (pc' := 102) rfl rfl ?_
          refine go_staticP C (as := [.int (1 : Int32)]) (rest := [.long (1 : Int64)]) (W := 2) (.long (1 : Int64)) (sat_one1 l Z a0 hw _ _) (wd hw 50 rfl) (wd hw 51 rfl) (wd hw 52 rfl) (wd hw 53 rfl) (by decide) pd_5 rfl rfl rfl (by decide) (by decide) rfl rfl (by decide) (by decide) at_102 (pc' := 105) rfl rfl ?_
          refine go_ladd C at_105 (pc' := 106) rfl ?_
          rw [(by decide : (1 : Int64) + (1 : Int64) = (2 : Int64))]
          refine go_lstore C (Ls' := #[.val (.int x0), .val (.long x1), .second, .val (.int x2), .val (.long x3), .second, .val (.int (1 : Int32)), .val (.int (1 : Int32)), .val (.int (0 : Int32)), .val (.int (1 : Int32)), .val (.ref a_1082), .val (.long (1 : Int64)), .second, .val (.long (2 : Int64)), .second]) at_106 (pc' := 108) rfl rfl ?_
          refine go_aload C at_108 (pc' := 110) rfl rfl rfl ?_
          refine go_virtualP C (as := []) (rest := []) (W := 0) (.long (1 : Int64)) (sat_completedCount l Z a0 hw a_1082 _ _ _ F_1140) E_1139 (wd hw 54 rfl) (wd hw 55 rfl) (wd hw 57 rfl) (wd hw 56 rfl) (wd hw 2 rfl) (wd hw 58 rfl) (by decide) pd_6 rfl rfl rfl (by decide) (by decide) rfl rfl (by decide) (by decide) at_110 (pc' := 113) rfl rfl ?_
          refine go_lload C at_113 (pc' := 115) rfl rfl ?_
          refine go_lcmp C (1 : Int) (1 : Int) (by decide) (by decide) at_115 (pc1 := 116) rfl at_116 (by decide) (pc' := 172) (by decide) (pcN := 119) rfl (fun (c_1157 : ¬ (1 : Int) = (1 : Int)) => by omega) (fun (c_1157 : (1 : Int) = (1 : Int)) => ?_)
          refine go_aload C at_119 (pc' := 121) rfl rfl rfl ?_
          refine go_virtualP C (as := []) (rest := []) (W := 0) (.long (2 : Int64)) (sat_failedCount l Z a0 hw a_1082 _ _ _ F_1141) E_1139 (wd hw 59 rfl) (wd hw 60 rfl) (wd hw 62 rfl) (wd hw 61 rfl) (wd hw 2 rfl) (wd hw 63 rfl) (by decide) pd_6 rfl rfl rfl (by decide) (by decide) rfl rfl (by decide) (by decide) at_121 (pc' := 124) rfl rfl ?_
          refine go_lload C at_124 (pc' := 126) rfl rfl ?_
          refine go_lcmp C (2 : Int) (2 : Int) (by decide) (by decide) at_126 (pc1 := 127) rfl at_127 (by decide) (pc' := 172) (by decide) (pcN := 130) rfl (fun (c_1158 : ¬ (2 : Int) = (2 : Int)) => by omega) (fun (c_1158 : (2 : Int) = (2 : Int)) => ?_)
          refine go_aload C at_130 (pc' := 132) rfl rfl rfl ?_
          refine go_virtualP C (as := []) (rest := []) (W := 0) (.long (0 : Int64)) (sat_submittedCount l Z a0 hw a_1082 _ _ _ F_1142) E_1139 (wd hw 66 rfl) (wd hw 67 rfl) (wd hw 69 rfl) (wd hw 68 rfl) (wd hw 2 rfl) (wd hw 70 rfl) (by decide) pd_6 rfl rfl rfl (by decide) (by decide) rfl rfl (by decide) (by decide) at_132 (pc' := 135) rfl rfl ?_
          refine go_lconst C (0 : Int64) at_135 (pc' := 136) rfl (by decide) ?_
          refine go_lcmp C (0 : Int) (0 : Int) (by decide) (by decide) at_136 (pc1 := 137) rfl at_137 (by decide) (pc' := 172) (by decide) (pcN := 140) rfl (fun (c_1159 : ¬ (0 : Int) = (0 : Int)) => by omega) (fun (c_1159 : (0 : Int) = (0 : Int)) => ?_)
          refine go_aload C at_140 (pc' := 142) rfl rfl rfl ?_
          refine go_virtualP C (as := []) (rest := []) (W := 0) (.long (0 : Int64)) (sat_rejectedCount l Z a0 hw a_1082 _ _ _ F_1143) E_1139 (wd hw 73 rfl) (wd hw 74 rfl) (wd hw 76 rfl) (wd hw 75 rfl) (wd hw 2 rfl) (wd hw 77 rfl) (by decide) pd_6 rfl rfl rfl (by decide) (by decide) rfl rfl (by decide) (by decide) at_142 (pc' := 145) rfl rfl ?_
          refine go_lconst C (0 : Int64) at_145 (pc' := 146) rfl (by decide) ?_
          refine go_lcmp C (0 : Int) (0 : Int) (by decide) (by decide) at_146 (pc1 := 147) rfl at_147 (by decide) (pc' := 172) (by decide) (pcN := 150) rfl (fun (c_1160 : ¬ (0 : Int) = (0 : Int)) => by omega) (fun (c_1160 : (0 : Int) = (0 : Int)) => ?_)
          refine go_aload C at_150 (pc' := 152) rfl rfl rfl ?_
          refine go_virtualP C (as := []) (rest := []) (W := 0) (.long (0 : Int64)) (sat_rejectedAtShutdownCount l Z a0 hw a_1082 _ _ _ F_1144) E_1139 (wd hw 80 rfl) (wd hw 81 rfl) (wd hw 83 rfl) (wd hw 82 rfl) (wd hw 2 rfl) (wd hw 84 rfl) (by decide) pd_6 rfl rfl rfl (by decide) (by decide) rfl rfl (by decide) (by decide) at_152 (pc' := 155) rfl rfl ?_
          refine go_lconst C (0 : Int64) at_155 (pc' := 156) rfl (by decide) ?_
          refine go_lcmp C (0 : Int) (0 : Int) (by decide) (by decide) at_156 (pc1 := 157) rfl at_157 (by decide) (pc' := 172) (by decide) (pcN := 160) rfl (fun (c_1161 : ¬ (0 : Int) = (0 : Int)) => by omega) (fun (c_1161 : (0 : Int) = (0 : Int)) => ?_)
          refine go_aload C at_160 (pc' := 162) rfl rfl rfl ?_
          refine go_virtualP C (as := []) (rest := []) (W := 0) (.int (0 : Int32)) (sat_largestPoolSize l Z a0 hw a_1082 _ _ _ F_1145) E_1139 (wd hw 87 rfl) (wd hw 88 rfl) (wd hw 90 rfl) (wd hw 89 rfl) (wd hw 2 rfl) (wd hw 91 rfl) (by decide) pd_7 rfl rfl rfl (by decide) (by decide) rfl rfl (by decide) (by decide) at_162 (pc' := 165) rfl rfl ?_
          refine go_if0 C (0 : Int) (by decide) at_165 (by decide) (pc' := 172) (by decide) (pcN := 168) rfl (fun (c_1162 : ¬ (0 : Int) = 0) => by omega) (fun (c_1162 : (0 : Int) = 0) => ?_)
          refine go_iconst C (1 : Int32) at_168 (pc' := 169) rfl (by decide) ?_
          refine go_goto C at_169 (by decide) (pc' := 173) (by decide) ?_
          refine go_ireturnN C (z' := (1 : Int32)) rfl (by simp) rfl at_173 (by decide) (by decide) ?_
          exact ⟨_, rfl, rfl⟩
      · skip
        refine go_iconst C (1 : Int32) at_32 (pc' := 33) rfl (by decide) ?_
        refine go_goto C at_33 (by decide) (pc' := 37) (by decide) ?_
        refine go_istore C (Ls' := #[.val (.int x0), .val (.long x1), .second, .val (.int x2), .val (.long x3), .second, .val (.int (1 : Int32)), .val (.int (1 : Int32)), .val (.int (1 : Int32)), .unset, .unset, .unset, .unset, .unset, .unset]) at_37 (pc' := 39) rfl rfl ?_
        refine go_iloadN C at_39 (pc' := 40) rfl rfl ?_
        refine go_iconst C (2 : Int32) at_40 (pc' := 41) rfl (by decide) ?_
        refine go_iand C at_41 (pc' := 42) rfl ?_
        refine go_if0 C ((x2 &&& (2 : Int32)).toInt) rfl at_42 (by decide) (pc' := 49) (by decide) (pcN := 45) rfl (fun (c_1163 : ((x2 &&& (2 : Int32)).toInt) = 0) => ?_) (fun (c_1163 : ¬ ((x2 &&& (2 : Int32)).toInt) = 0) => ?_)
        · skip
          refine go_iconst C (0 : Int32) at_49 (pc' := 50) rfl (by decide) ?_
          refine go_istore C (Ls' := #[.val (.int x0), .val (.long x1), .second, .val (.int x2), .val (.long x3), .second, .val (.int (1 : Int32)), .val (.int (1 : Int32)), .val (.int (1 : Int32)), .val (.int (0 : Int32)), .unset, .unset, .unset, .unset, .unset]) at_50 (pc' := 52) rfl rfl ?_
          refine go_new C (wd hw 0 rfl) (wd hw 1 rfl) (wd hw 2 rfl) at_52 (pc' := 55) rfl (ce' := 1) (sl' := 41) rfl rfl (by decide) (by decide) ?_
          intro h_1164 a_1165 g_1166 E_1167 E_1168 D_1169
          have g_1170 : Z.heap.size ≤ a_1165 := own_ge (Nat.le_refl _) g_1166
          have z_1171 : Z.heap.size ≤ h_1164.size := Nat.le_trans (Nat.le_refl _) E_1167.1
          have F_1172 : Fld Z h_1164 a_1165 "com/example/pufferfish/pufferfish/pool/PoolTally" "queueWait" "Lcom/example/pufferfish/pufferfish/pool/PoolTally$TimeSum;" (.null) := D_1169 (Or.inr (wd hw 22 rfl)) (ty := (.object "com/example/pufferfish/pufferfish/pool/PoolTally$TimeSum")) (by decide)
          have F_1173 : Fld Z h_1164 a_1165 "com/example/pufferfish/pufferfish/pool/PoolTally" "runTime" "Lcom/example/pufferfish/pufferfish/pool/PoolTally$TimeSum;" (.null) := D_1169 (Or.inr (wd hw 24 rfl)) (ty := (.object "com/example/pufferfish/pufferfish/pool/PoolTally$TimeSum")) (by decide)
          have F_1174 : Fld Z h_1164 a_1165 "com/example/pufferfish/pufferfish/pool/PoolTally" "completedCount" "J" (.long (0 : Int64)) := D_1169 (Or.inl (wd hw 31 rfl)) (ty := .long) (by decide)
          have F_1175 : Fld Z h_1164 a_1165 "com/example/pufferfish/pufferfish/pool/PoolTally" "failedCount" "J" (.long (0 : Int64)) := D_1169 (Or.inl (wd hw 65 rfl)) (ty := .long) (by decide)
          have F_1176 : Fld Z h_1164 a_1165 "com/example/pufferfish/pufferfish/pool/PoolTally" "submittedCount" "J" (.long (0 : Int64)) := D_1169 (Or.inl (wd hw 72 rfl)) (ty := .long) (by decide)
          have F_1177 : Fld Z h_1164 a_1165 "com/example/pufferfish/pufferfish/pool/PoolTally" "rejectedCount" "J" (.long (0 : Int64)) := D_1169 (Or.inl (wd hw 79 rfl)) (ty := .long) (by decide)
          have F_1178 : Fld Z h_1164 a_1165 "com/example/pufferfish/pufferfish/pool/PoolTally" "rejectedAtShutdownCount" "J" (.long (0 : Int64)) := D_1169 (Or.inl (wd hw 86 rfl)) (ty := .long) (by decide)
          have F_1179 : Fld Z h_1164 a_1165 "com/example/pufferfish/pufferfish/pool/PoolTally" "largestPoolSize" "I" (.int (0 : Int32)) := D_1169 (Or.inl (wd hw 93 rfl)) (ty := .int) (by decide)
          refine go_dup C at_55 (pc' := 56) rfl rfl ?_
          refine go_specialN C (as := []) (rest := [.ref a_1165]) (W := 1) (sat_pt l Z a0 hw a_1165 _ _ E_1168 F_1172 F_1173 F_1174 F_1175 F_1176 F_1177 F_1178 F_1179 g_1170 z_1171) rfl (wd hw 3 rfl) (wd hw 4 rfl) (wd hw 2 rfl) (wd hw 5 rfl) (by decide) pd_1 rfl rfl rfl (by decide) (by decide) (ce' := 3) (sl' := 113) rfl rfl (by decide) (by decide) at_56 (pc' := 59) rfl rfl ?_
          intro h_1180 q_1181
          obtain ⟨E_1182, F_1183, F_1184, F_1185, F_1186, F_1187, F_1188, t_1189, g_1190, F_1191, E_1192, u_1193, u_1194, u_1195, F_1196, F_1197, F_1198⟩ := q_1181
          have n_1199 : a_1165 ≠ t_1189 := ne_exa E_1182 E_1192 (by decide)
          refine go_astore C (Ls' := #[.val (.int x0), .val (.long x1), .second, .val (.int x2), .val (.long x3), .second, .val (.int (1 : Int32)), .val (.int (1 : Int32)), .val (.int (1 : Int32)), .val (.int (0 : Int32)), .val (.ref a_1165), .unset, .unset, .unset, .unset]) at_59 (pc' := 61) rfl rfl rfl ?_
          refine go_aload C at_61 (pc' := 63) rfl rfl rfl ?_
          refine go_iload C at_63 (pc' := 65) rfl rfl ?_
          refine go_iload C at_65 (pc' := 67) rfl rfl ?_
          refine go_lloadN C at_67 (pc' := 68) rfl rfl ?_
          refine go_virtualN C (as := [.int (1 : Int32), .int (1 : Int32), .long x1]) (rest := []) (W := 0) (sat_te11 l Z a0 hw a_1165 (0 : Int64) (0 : Int64) (0 : Int64) (0 : Int64) (0 : Int64) (0 : Int32) x1 _ _ ⟨E_1182, F_1183, F_1184, F_1185, F_1186, F_1187, F_1188, t_1189, g_1190, F_1191, E_1192, _, _, _, F_1196, F_1197, F_1198⟩ g_1170) E_1182 (wd hw 25 rfl) (wd hw 26 rfl) (wd hw 28 rfl) (wd hw 27 rfl) (wd hw 2 rfl) (wd hw 29 rfl) (by decide) pd_2 rfl rfl rfl (by decide) (by decide) (ce' := 3) (sl' := 113) rfl rfl (by decide) (by decide) at_68 (pc' := 71) rfl rfl ?_
          intro h_1200 q_1201
          rw [(by decide : (0 : Int64) + (1 : Int64) = (1 : Int64))] at q_1201
          obtain ⟨E_1202, F_1203, F_1204, F_1205, F_1206, F_1207, F_1208, t_1209, g_1210, F_1211, E_1212, u_1213, u_1214, u_1215, F_1216, F_1217, F_1218⟩ := q_1201
          have n_1219 : a_1165 ≠ t_1209 := ne_exa E_1202 E_1212 (by decide)
          refine go_aload C at_71 (pc' := 73) rfl rfl rfl ?_
          refine go_iload C at_73 (pc' := 75) rfl rfl ?_
          refine go_iload C at_75 (pc' := 77) rfl rfl ?_
          refine go_lload C at_77 (pc' := 79) rfl rfl ?_
          refine go_virtualN C (as := [.int (1 : Int32), .int (0 : Int32), .long x3]) (rest := []) (W := 0) (sat_te10 l Z a0 hw a_1165 (1 : Int64) (1 : Int64) (0 : Int64) (0 : Int64) (0 : Int64) (0 : Int32) x3 _ _ ⟨E_1202, F_1203, F_1204, F_1205, F_1206, F_1207, F_1208, t_1209, g_1210, F_1211, E_1212, _, _, _, F_1216, F_1217, F_1218⟩ g_1170) E_1202 (wd hw 25 rfl) (wd hw 26 rfl) (wd hw 28 rfl) (wd hw 27 rfl) (wd hw 2 rfl) (wd hw 29 rfl) (by decide) pd_2 rfl rfl rfl (by decide) (by decide) (ce' := 3) (sl' := 113) rfl rfl (by decide) (by decide) at_79 (pc' := 82) rfl rfl ?_
          intro h_1220 q_1221
          rw [(by decide : (1 : Int64) + (1 : Int64) = (2 : Int64))] at q_1221
          obtain ⟨E_1222, F_1223, F_1224, F_1225, F_1226, F_1227, F_1228, t_1229, g_1230, F_1231, E_1232, u_1233, u_1234, u_1235, F_1236, F_1237, F_1238⟩ := q_1221
          have n_1239 : a_1165 ≠ t_1229 := ne_exa E_1222 E_1232 (by decide)
          refine go_iload C at_82 (pc' := 84) rfl rfl ?_
          refine go_staticP C (as := [.int (1 : Int32)]) (rest := []) (W := 0) (.long (1 : Int64)) (sat_one1 l Z a0 hw _ _) (wd hw 50 rfl) (wd hw 51 rfl) (wd hw 52 rfl) (wd hw 53 rfl) (by decide) pd_5 rfl rfl rfl (by decide) (by decide) rfl rfl (by decide) (by decide) at_84 (pc' := 87) rfl rfl ?_
          refine go_iload C at_87 (pc' := 89) rfl rfl ?_
          refine go_staticP C (as := [.int (1 : Int32)]) (rest := [.long (1 : Int64)]) (W := 2) (.long (1 : Int64)) (sat_one1 l Z a0 hw _ _) (wd hw 50 rfl) (wd hw 51 rfl) (wd hw 52 rfl) (wd hw 53 rfl) (by decide) pd_5 rfl rfl rfl (by decide) (by decide) rfl rfl (by decide) (by decide) at_89 (pc' := 92) rfl rfl ?_
          refine go_ladd C at_92 (pc' := 93) rfl ?_
          rw [(by decide : (1 : Int64) + (1 : Int64) = (2 : Int64))]
          refine go_lstore C (Ls' := #[.val (.int x0), .val (.long x1), .second, .val (.int x2), .val (.long x3), .second, .val (.int (1 : Int32)), .val (.int (1 : Int32)), .val (.int (1 : Int32)), .val (.int (0 : Int32)), .val (.ref a_1165), .val (.long (2 : Int64)), .second, .unset, .unset]) at_93 (pc' := 95) rfl rfl ?_
          refine go_iload C at_95 (pc' := 97) rfl rfl ?_
          refine go_staticP C (as := [.int (1 : Int32)]) (rest := []) (W := 0) (.long (1 : Int64)) (sat_one1 l Z a0 hw _ _) (wd hw 50 rfl) (wd hw 51 rfl) (wd hw 52 rfl) (wd hw 53 rfl) (by decide) pd_5 rfl rfl rfl (by decide) (by decide) rfl rfl (by decide) (by decide) at_97 (pc' := 100) rfl rfl ?_
          refine go_iload C at_100 (pc' := 102) rfl rfl ?_
          refine go_staticP C (as := [.int (0 : Int32)]) (rest := [.long (1 : Int64)]) (W := 2) (.long (0 : Int64)) (sat_one0 l Z a0 hw _ _) (wd hw 50 rfl) (wd hw 51 rfl) (wd hw 52 rfl) (wd hw 53 rfl) (by decide) pd_5 rfl rfl rfl (by decide) (by decide) rfl rfl (by decide) (by decide) at_102 (pc' := 105) rfl rfl ?_
          refine go_ladd C at_105 (pc' := 106) rfl ?_
          rw [(by decide : (1 : Int64) + (0 : Int64) = (1 : Int64))]
          refine go_lstore C (Ls' := #[.val (.int x0), .val (.long x1), .second, .val (.int x2), .val (.long x3), .second, .val (.int (1 : Int32)), .val (.int (1 : Int32)), .val (.int (1 : Int32)), .val (.int (0 : Int32)), .val (.ref a_1165), .val (.long (2 : Int64)), .second, .val (.long (1 : Int64)), .second]) at_106 (pc' := 108) rfl rfl ?_
          refine go_aload C at_108 (pc' := 110) rfl rfl rfl ?_
          refine go_virtualP C (as := []) (rest := []) (W := 0) (.long (2 : Int64)) (sat_completedCount l Z a0 hw a_1165 _ _ _ F_1223) E_1222 (wd hw 54 rfl) (wd hw 55 rfl) (wd hw 57 rfl) (wd hw 56 rfl) (wd hw 2 rfl) (wd hw 58 rfl) (by decide) pd_6 rfl rfl rfl (by decide) (by decide) rfl rfl (by decide) (by decide) at_110 (pc' := 113) rfl rfl ?_
          refine go_lload C at_113 (pc' := 115) rfl rfl ?_
          refine go_lcmp C (2 : Int) (2 : Int) (by decide) (by decide) at_115 (pc1 := 116) rfl at_116 (by decide) (pc' := 172) (by decide) (pcN := 119) rfl (fun (c_1240 : ¬ (2 : Int) = (2 : Int)) => by omega) (fun (c_1240 : (2 : Int) = (2 : Int)) => ?_)
          refine go_aload C at_119 (pc' := 121) rfl rfl rfl ?_
          refine go_virtualP C (as := []) (rest := []) (W := 0) (.long (1 : Int64)) (sat_failedCount l Z a0 hw a_1165 _ _ _ F_1224) E_1222 (wd hw 59 rfl) (wd hw 60 rfl) (wd hw 62 rfl) (wd hw 61 rfl) (wd hw 2 rfl) (wd hw 63 rfl) (by decide) pd_6 rfl rfl rfl (by decide) (by decide) rfl rfl (by decide) (by decide) at_121 (pc' := 124) rfl rfl ?_
          refine go_lload C at_124 (pc' := 126) rfl rfl ?_
          refine go_lcmp C (1 : Int) (1 : Int) (by decide) (by decide) at_126 (pc1 := 127) rfl at_127 (by decide) (pc' := 172) (by decide) (pcN := 130) rfl (fun (c_1241 : ¬ (1 : Int) = (1 : Int)) => by omega) (fun (c_1241 : (1 : Int) = (1 : Int)) => ?_)
          refine go_aload C at_130 (pc' := 132) rfl rfl rfl ?_
          refine go_virtualP C (as := []) (rest := []) (W := 0) (.long (0 : Int64)) (sat_submittedCount l Z a0 hw a_1165 _ _ _ F_1225) E_1222 (wd hw 66 rfl) (wd hw 67 rfl) (wd hw 69 rfl) (wd hw 68 rfl) (wd hw 2 rfl) (wd hw 70 rfl) (by decide) pd_6 rfl rfl rfl (by decide) (by decide) rfl rfl (by decide) (by decide) at_132 (pc' := 135) rfl rfl ?_
          refine go_lconst C (0 : Int64) at_135 (pc' := 136) rfl (by decide) ?_
          refine go_lcmp C (0 : Int) (0 : Int) (by decide) (by decide) at_136 (pc1 := 137) rfl at_137 (by decide) (pc' := 172) (by decide) (pcN := 140) rfl (fun (c_1242 : ¬ (0 : Int) = (0 : Int)) => by omega) (fun (c_1242 : (0 : Int) = (0 : Int)) => ?_)
          refine go_aload C at_140 (pc' := 142) rfl rfl rfl ?_
          refine go_virtualP C (as := []) (rest := []) (W := 0) (.long (0 : Int64)) (sat_rejectedCount l Z a0 hw a_1165 _ _ _ F_1226) E_1222 (wd hw 73 rfl) (wd hw 74 rfl) (wd hw 76 rfl) (wd hw 75 rfl) (wd hw 2 rfl) (wd hw 77 rfl) (by decide) pd_6 rfl rfl rfl (by decide) (by decide) rfl rfl (by decide) (by decide) at_142 (pc' := 145) rfl rfl ?_
          refine go_lconst C (0 : Int64) at_145 (pc' := 146) rfl (by decide) ?_
          refine go_lcmp C (0 : Int) (0 : Int) (by decide) (by decide) at_146 (pc1 := 147) rfl at_147 (by decide) (pc' := 172) (by decide) (pcN := 150) rfl (fun (c_1243 : ¬ (0 : Int) = (0 : Int)) => by omega) (fun (c_1243 : (0 : Int) = (0 : Int)) => ?_)
          refine go_aload C at_150 (pc' := 152) rfl rfl rfl ?_
          refine go_virtualP C (as := []) (rest := []) (W := 0) (.long (0 : Int64)) (sat_rejectedAtShutdownCount l Z a0 hw a_1165 _ _ _ F_1227) E_1222 (wd hw 80 rfl) (wd hw 81 rfl) (wd hw 83 rfl) (wd hw 82 rfl) (wd hw 2 rfl) (wd hw 84 rfl) (by decide) pd_6 rfl rfl rfl (by decide) (by decide) rfl rfl (by decide) (by decide) at_152 (pc' := 155) rfl rfl ?_
          refine go_lconst C (0 : Int64) at_155 (pc' := 156) rfl (by decide) ?_
          refine go_lcmp C (0 : Int) (0 : Int) (by decide) (by decide) at_156 (pc1 := 157) rfl at_157 (by decide) (pc' := 172) (by decide) (pcN := 160) rfl (fun (c_1244 : ¬ (0 : Int) = (0 : Int)) => by omega) (fun (c_1244 : (0 : Int) = (0 : Int)) => ?_)
          refine go_aload C at_160 (pc' := 162) rfl rfl rfl ?_
          refine go_virtualP C (as := []) (rest := []) (W := 0) (.int (0 : Int32)) (sat_largestPoolSize l Z a0 hw a_1165 _ _ _ F_1228) E_1222 (wd hw 87 rfl) (wd hw 88 rfl) (wd hw 90 rfl) (wd hw 89 rfl) (wd hw 2 rfl) (wd hw 91 rfl) (by decide) pd_7 rfl rfl rfl (by decide) (by decide) rfl rfl (by decide) (by decide) at_162 (pc' := 165) rfl rfl ?_
          refine go_if0 C (0 : Int) (by decide) at_165 (by decide) (pc' := 172) (by decide) (pcN := 168) rfl (fun (c_1245 : ¬ (0 : Int) = 0) => by omega) (fun (c_1245 : (0 : Int) = 0) => ?_)
          refine go_iconst C (1 : Int32) at_168 (pc' := 169) rfl (by decide) ?_
          refine go_goto C at_169 (by decide) (pc' := 173) (by decide) ?_
          refine go_ireturnN C (z' := (1 : Int32)) rfl (by simp) rfl at_173 (by decide) (by decide) ?_
          exact ⟨_, rfl, rfl⟩
        · skip
          refine go_iconst C (1 : Int32) at_45 (pc' := 46) rfl (by decide) ?_
          refine go_goto C at_46 (by decide) (pc' := 50) (by decide) ?_
          refine go_istore C (Ls' := #[.val (.int x0), .val (.long x1), .second, .val (.int x2), .val (.long x3), .second, .val (.int (1 : Int32)), .val (.int (1 : Int32)), .val (.int (1 : Int32)), .val (.int (1 : Int32)), .unset, .unset, .unset, .unset, .unset]) at_50 (pc' := 52) rfl rfl ?_
          refine go_new C (wd hw 0 rfl) (wd hw 1 rfl) (wd hw 2 rfl) at_52 (pc' := 55) rfl (ce' := 1) (sl' := 41) rfl rfl (by decide) (by decide) ?_
          intro h_1246 a_1247 g_1248 E_1249 E_1250 D_1251
          have g_1252 : Z.heap.size ≤ a_1247 := own_ge (Nat.le_refl _) g_1248
          have z_1253 : Z.heap.size ≤ h_1246.size := Nat.le_trans (Nat.le_refl _) E_1249.1
          have F_1254 : Fld Z h_1246 a_1247 "com/example/pufferfish/pufferfish/pool/PoolTally" "queueWait" "Lcom/example/pufferfish/pufferfish/pool/PoolTally$TimeSum;" (.null) := D_1251 (Or.inr (wd hw 22 rfl)) (ty := (.object "com/example/pufferfish/pufferfish/pool/PoolTally$TimeSum")) (by decide)
          have F_1255 : Fld Z h_1246 a_1247 "com/example/pufferfish/pufferfish/pool/PoolTally" "runTime" "Lcom/example/pufferfish/pufferfish/pool/PoolTally$TimeSum;" (.null) := D_1251 (Or.inr (wd hw 24 rfl)) (ty := (.object "com/example/pufferfish/pufferfish/pool/PoolTally$TimeSum")) (by decide)
          have F_1256 : Fld Z h_1246 a_1247 "com/example/pufferfish/pufferfish/pool/PoolTally" "completedCount" "J" (.long (0 : Int64)) := D_1251 (Or.inl (wd hw 31 rfl)) (ty := .long) (by decide)
          have F_1257 : Fld Z h_1246 a_1247 "com/example/pufferfish/pufferfish/pool/PoolTally" "failedCount" "J" (.long (0 : Int64)) := D_1251 (Or.inl (wd hw 65 rfl)) (ty := .long) (by decide)
          have F_1258 : Fld Z h_1246 a_1247 "com/example/pufferfish/pufferfish/pool/PoolTally" "submittedCount" "J" (.long (0 : Int64)) := D_1251 (Or.inl (wd hw 72 rfl)) (ty := .long) (by decide)
          have F_1259 : Fld Z h_1246 a_1247 "com/example/pufferfish/pufferfish/pool/PoolTally" "rejectedCount" "J" (.long (0 : Int64)) := D_1251 (Or.inl (wd hw 79 rfl)) (ty := .long) (by decide)
          have F_1260 : Fld Z h_1246 a_1247 "com/example/pufferfish/pufferfish/pool/PoolTally" "rejectedAtShutdownCount" "J" (.long (0 : Int64)) := D_1251 (Or.inl (wd hw 86 rfl)) (ty := .long) (by decide)
          have F_1261 : Fld Z h_1246 a_1247 "com/example/pufferfish/pufferfish/pool/PoolTally" "largestPoolSize" "I" (.int (0 : Int32)) := D_1251 (Or.inl (wd hw 93 rfl)) (ty := .int) (by decide)
          refine go_dup C at_55 (pc' := 56) rfl rfl ?_
          refine go_specialN C (as := []) (rest := [.ref a_1247]) (W := 1) (sat_pt l Z a0 hw a_1247 _ _ E_1250 F_1254 F_1255 F_1256 F_1257 F_1258 F_1259 F_1260 F_1261 g_1252 z_1253) rfl (wd hw 3 rfl) (wd hw 4 rfl) (wd hw 2 rfl) (wd hw 5 rfl) (by decide) pd_1 rfl rfl rfl (by decide) (by decide) (ce' := 3) (sl' := 113) rfl rfl (by decide) (by decide) at_56 (pc' := 59) rfl rfl ?_
          intro h_1262 q_1263
          obtain ⟨E_1264, F_1265, F_1266, F_1267, F_1268, F_1269, F_1270, t_1271, g_1272, F_1273, E_1274, u_1275, u_1276, u_1277, F_1278, F_1279, F_1280⟩ := q_1263
          have n_1281 : a_1247 ≠ t_1271 := ne_exa E_1264 E_1274 (by decide)
          refine go_astore C (Ls' := #[.val (.int x0), .val (.long x1), .second, .val (.int x2), .val (.long x3), .second, .val (.int (1 : Int32)), .val (.int (1 : Int32)), .val (.int (1 : Int32)), .val (.int (1 : Int32)), .val (.ref a_1247), .unset, .unset, .unset, .unset]) at_59 (pc' := 61) rfl rfl rfl ?_
          refine go_aload C at_61 (pc' := 63) rfl rfl rfl ?_
          refine go_iload C at_63 (pc' := 65) rfl rfl ?_
          refine go_iload C at_65 (pc' := 67) rfl rfl ?_
          refine go_lloadN C at_67 (pc' := 68) rfl rfl ?_
          refine go_virtualN C (as := [.int (1 : Int32), .int (1 : Int32), .long x1]) (rest := []) (W := 0) (sat_te11 l Z a0 hw a_1247 (0 : Int64) (0 : Int64) (0 : Int64) (0 : Int64) (0 : Int64) (0 : Int32) x1 _ _ ⟨E_1264, F_1265, F_1266, F_1267, F_1268, F_1269, F_1270, t_1271, g_1272, F_1273, E_1274, _, _, _, F_1278, F_1279, F_1280⟩ g_1252) E_1264 (wd hw 25 rfl) (wd hw 26 rfl) (wd hw 28 rfl) (wd hw 27 rfl) (wd hw 2 rfl) (wd hw 29 rfl) (by decide) pd_2 rfl rfl rfl (by decide) (by decide) (ce' := 3) (sl' := 113) rfl rfl (by decide) (by decide) at_68 (pc' := 71) rfl rfl ?_
          intro h_1282 q_1283
          rw [(by decide : (0 : Int64) + (1 : Int64) = (1 : Int64))] at q_1283
          obtain ⟨E_1284, F_1285, F_1286, F_1287, F_1288, F_1289, F_1290, t_1291, g_1292, F_1293, E_1294, u_1295, u_1296, u_1297, F_1298, F_1299, F_1300⟩ := q_1283
          have n_1301 : a_1247 ≠ t_1291 := ne_exa E_1284 E_1294 (by decide)
          refine go_aload C at_71 (pc' := 73) rfl rfl rfl ?_
          refine go_iload C at_73 (pc' := 75) rfl rfl ?_
          refine go_iload C at_75 (pc' := 77) rfl rfl ?_
          refine go_lload C at_77 (pc' := 79) rfl rfl ?_
          refine go_virtualN C (as := [.int (1 : Int32), .int (1 : Int32), .long x3]) (rest := []) (W := 0) (sat_te11 l Z a0 hw a_1247 (1 : Int64) (1 : Int64) (0 : Int64) (0 : Int64) (0 : Int64) (0 : Int32) x3 _ _ ⟨E_1284, F_1285, F_1286, F_1287, F_1288, F_1289, F_1290, t_1291, g_1292, F_1293, E_1294, _, _, _, F_1298, F_1299, F_1300⟩ g_1252) E_1284 (wd hw 25 rfl) (wd hw 26 rfl) (wd hw 28 rfl) (wd hw 27 rfl) (wd hw 2 rfl) (wd hw 29 rfl) (by decide) pd_2 rfl rfl rfl (by decide) (by decide) (ce' := 3) (sl' := 113) rfl rfl (by decide) (by decide) at_79 (pc' := 82) rfl rfl ?_
          intro h_1302 q_1303
          rw [(by decide : (1 : Int64) + (1 : Int64) = (2 : Int64))] at q_1303
          obtain ⟨E_1304, F_1305, F_1306, F_1307, F_1308, F_1309, F_1310, t_1311, g_1312, F_1313, E_1314, u_1315, u_1316, u_1317, F_1318, F_1319, F_1320⟩ := q_1303
          have n_1321 : a_1247 ≠ t_1311 := ne_exa E_1304 E_1314 (by decide)
          refine go_iload C at_82 (pc' := 84) rfl rfl ?_
          refine go_staticP C (as := [.int (1 : Int32)]) (rest := []) (W := 0) (.long (1 : Int64)) (sat_one1 l Z a0 hw _ _) (wd hw 50 rfl) (wd hw 51 rfl) (wd hw 52 rfl) (wd hw 53 rfl) (by decide) pd_5 rfl rfl rfl (by decide) (by decide) rfl rfl (by decide) (by decide) at_84 (pc' := 87) rfl rfl ?_
          refine go_iload C at_87 (pc' := 89) rfl rfl ?_
          refine go_staticP C (as := [.int (1 : Int32)]) (rest := [.long (1 : Int64)]) (W := 2) (.long (1 : Int64)) (sat_one1 l Z a0 hw _ _) (wd hw 50 rfl) (wd hw 51 rfl) (wd hw 52 rfl) (wd hw 53 rfl) (by decide) pd_5 rfl rfl rfl (by decide) (by decide) rfl rfl (by decide) (by decide) at_89 (pc' := 92) rfl rfl ?_
          refine go_ladd C at_92 (pc' := 93) rfl ?_
          rw [(by decide : (1 : Int64) + (1 : Int64) = (2 : Int64))]
          refine go_lstore C (Ls' := #[.val (.int x0), .val (.long x1), .second, .val (.int x2), .val (.long x3), .second, .val (.int (1 : Int32)), .val (.int (1 : Int32)), .val (.int (1 : Int32)), .val (.int (1 : Int32)), .val (.ref a_1247), .val (.long (2 : Int64)), .second, .unset, .unset]) at_93 (pc' := 95) rfl rfl ?_
          refine go_iload C at_95 (pc' := 97) rfl rfl ?_
          refine go_staticP C (as := [.int (1 : Int32)]) (rest := []) (W := 0) (.long (1 : Int64)) (sat_one1 l Z a0 hw _ _) (wd hw 50 rfl) (wd hw 51 rfl) (wd hw 52 rfl) (wd hw 53 rfl) (by decide) pd_5 rfl rfl rfl (by decide) (by decide) rfl rfl (by decide) (by decide) at_97 (pc' := 100) rfl rfl ?_
          refine go_iload C at_100 (pc' := 102) rfl rfl ?_
          refine go_staticP C (as := [.int (1 : Int32)]) (rest := [.long (1 : Int64)]) (W := 2) (.long (1 : Int64)) (sat_one1 l Z a0 hw _ _) (wd hw 50 rfl) (wd hw 51 rfl) (wd hw 52 rfl) (wd hw 53 rfl) (by decide) pd_5 rfl rfl rfl (by decide) (by decide) rfl rfl (by decide) (by decide) at_102 (pc' := 105) rfl rfl ?_
          refine go_ladd C at_105 (pc' := 106) rfl ?_
          rw [(by decide : (1 : Int64) + (1 : Int64) = (2 : Int64))]
          refine go_lstore C (Ls' := #[.val (.int x0), .val (.long x1), .second, .val (.int x2), .val (.long x3), .second, .val (.int (1 : Int32)), .val (.int (1 : Int32)), .val (.int (1 : Int32)), .val (.int (1 : Int32)), .val (.ref a_1247), .val (.long (2 : Int64)), .second, .val (.long (2 : Int64)), .second]) at_106 (pc' := 108) rfl rfl ?_
          refine go_aload C at_108 (pc' := 110) rfl rfl rfl ?_
          refine go_virtualP C (as := []) (rest := []) (W := 0) (.long (2 : Int64)) (sat_completedCount l Z a0 hw a_1247 _ _ _ F_1305) E_1304 (wd hw 54 rfl) (wd hw 55 rfl) (wd hw 57 rfl) (wd hw 56 rfl) (wd hw 2 rfl) (wd hw 58 rfl) (by decide) pd_6 rfl rfl rfl (by decide) (by decide) rfl rfl (by decide) (by decide) at_110 (pc' := 113) rfl rfl ?_
          refine go_lload C at_113 (pc' := 115) rfl rfl ?_
          refine go_lcmp C (2 : Int) (2 : Int) (by decide) (by decide) at_115 (pc1 := 116) rfl at_116 (by decide) (pc' := 172) (by decide) (pcN := 119) rfl (fun (c_1322 : ¬ (2 : Int) = (2 : Int)) => by omega) (fun (c_1322 : (2 : Int) = (2 : Int)) => ?_)
          refine go_aload C at_119 (pc' := 121) rfl rfl rfl ?_
          refine go_virtualP C (as := []) (rest := []) (W := 0) (.long (2 : Int64)) (sat_failedCount l Z a0 hw a_1247 _ _ _ F_1306) E_1304 (wd hw 59 rfl) (wd hw 60 rfl) (wd hw 62 rfl) (wd hw 61 rfl) (wd hw 2 rfl) (wd hw 63 rfl) (by decide) pd_6 rfl rfl rfl (by decide) (by decide) rfl rfl (by decide) (by decide) at_121 (pc' := 124) rfl rfl ?_
          refine go_lload C at_124 (pc' := 126) rfl rfl ?_
          refine go_lcmp C (2 : Int) (2 : Int) (by decide) (by decide) at_126 (pc1 := 127) rfl at_127 (by decide) (pc' := 172) (by decide) (pcN := 130) rfl (fun (c_1323 : ¬ (2 : Int) = (2 : Int)) => by omega) (fun (c_1323 : (2 : Int) = (2 : Int)) => ?_)
          refine go_aload C at_130 (pc' := 132) rfl rfl rfl ?_
          refine go_virtualP C (as := []) (rest := []) (W := 0) (.long (0 : Int64)) (sat_submittedCount l Z a0 hw a_1247 _ _ _ F_1307) E_1304 (wd hw 66 rfl) (wd hw 67 rfl) (wd hw 69 rfl) (wd hw 68 rfl) (wd hw 2 rfl) (wd hw 70 rfl) (by decide) pd_6 rfl rfl rfl (by decide) (by decide) rfl rfl (by decide) (by decide) at_132 (pc' := 135) rfl rfl ?_
          refine go_lconst C (0 : Int64) at_135 (pc' := 136) rfl (by decide) ?_
          refine go_lcmp C (0 : Int) (0 : Int) (by decide) (by decide) at_136 (pc1 := 137) rfl at_137 (by decide) (pc' := 172) (by decide) (pcN := 140) rfl (fun (c_1324 : ¬ (0 : Int) = (0 : Int)) => by omega) (fun (c_1324 : (0 : Int) = (0 : Int)) => ?_)
          refine go_aload C at_140 (pc' := 142) rfl rfl rfl ?_
          refine go_virtualP C (as := []) (rest := []) (W := 0) (.long (0 : Int64)) (sat_rejectedCount l Z a0 hw a_1247 _ _ _ F_1308) E_1304 (wd hw 73 rfl) (wd hw 74 rfl) (wd hw 76 rfl) (wd hw 75 rfl) (wd hw 2 rfl) (wd hw 77 rfl) (by decide) pd_6 rfl rfl rfl (by decide) (by decide) rfl rfl (by decide) (by decide) at_142 (pc' := 145) rfl rfl ?_
          refine go_lconst C (0 : Int64) at_145 (pc' := 146) rfl (by decide) ?_
          refine go_lcmp C (0 : Int) (0 : Int) (by decide) (by decide) at_146 (pc1 := 147) rfl at_147 (by decide) (pc' := 172) (by decide) (pcN := 150) rfl (fun (c_1325 : ¬ (0 : Int) = (0 : Int)) => by omega) (fun (c_1325 : (0 : Int) = (0 : Int)) => ?_)
          refine go_aload C at_150 (pc' := 152) rfl rfl rfl ?_
          refine go_virtualP C (as := []) (rest := []) (W := 0) (.long (0 : Int64)) (sat_rejectedAtShutdownCount l Z a0 hw a_1247 _ _ _ F_1309) E_1304 (wd hw 80 rfl) (wd hw 81 rfl) (wd hw 83 rfl) (wd hw 82 rfl) (wd hw 2 rfl) (wd hw 84 rfl) (by decide) pd_6 rfl rfl rfl (by decide) (by decide) rfl rfl (by decide) (by decide) at_152 (pc' := 155) rfl rfl ?_
          refine go_lconst C (0 : Int64) at_155 (pc' := 156) rfl (by decide) ?_
          refine go_lcmp C (0 : Int) (0 : Int) (by decide) (by decide) at_156 (pc1 := 157) rfl at_157 (by decide) (pc' := 172) (by decide) (pcN := 160) rfl (fun (c_1326 : ¬ (0 : Int) = (0 : Int)) => by omega) (fun (c_1326 : (0 : Int) = (0 : Int)) => ?_)
          refine go_aload C at_160 (pc' := 162) rfl rfl rfl ?_
          refine go_virtualP C (as := []) (rest := []) (W := 0) (.int (0 : Int32)) (sat_largestPoolSize l Z a0 hw a_1247 _ _ _ F_1310) E_1304 (wd hw 87 rfl) (wd hw 88 rfl) (wd hw 90 rfl) (wd hw 89 rfl) (wd hw 2 rfl) (wd hw 91 rfl) (by decide) pd_7 rfl rfl rfl (by decide) (by decide) rfl rfl (by decide) (by decide) at_162 (pc' := 165) rfl rfl ?_
          refine go_if0 C (0 : Int) (by decide) at_165 (by decide) (pc' := 172) (by decide) (pcN := 168) rfl (fun (c_1327 : ¬ (0 : Int) = 0) => by omega) (fun (c_1327 : (0 : Int) = 0) => ?_)
          refine go_iconst C (1 : Int32) at_168 (pc' := 169) rfl (by decide) ?_
          refine go_goto C at_169 (by decide) (pc' := 173) (by decide) ?_
          refine go_ireturnN C (z' := (1 : Int32)) rfl (by simp) rfl at_173 (by decide) (by decide) ?_
          exact ⟨_, rfl, rfl⟩
set_option maxRecDepth 65536 in
set_option maxHeartbeats 40000000 in
theorem comes_1 {Post : Tables → Env → Array Value → State → Outcome → State → Prop} (hpost : ∀ tb e args s v u, (limb_1_1.after args s (.returned v) u = true ∧ limb_1_2.after args s (.returned v) u = true ∧ True) → FrameEnd s (.returned v) u (Jvm.fieldLocs frame_1_writes args s ++ Jvm.arrayLocs frame_1_arrays args s ++ Jvm.staticLocs frame_1_statics s) 16 320 → Post tb e args s (.returned v) u) :
    ArmFor flags0 classFile x code maxLocals ret World_1 tables_1 room_1 Calls_1 rest_1 Pre_1 Post := by
  intro l hfl _ _ p e ha hc hk s m args below hf hA hF happ hP
  obtain ⟨hcalls, hrest, hpre⟩ := hP
  obtain ⟨-, -, -, hnamed, -, -, -, hat⟩ := (Spec.applies_iff hf).mp happ
  obtain ⟨hg, hn⟩ := and_e (Cond.before_iff.mp (show (Jvm.Cond.and given_1 narrow_1).before args s = true from hpre))
  obtain ⟨k0, g0⟩ := and_e hg
  obtain ⟨k1, g1⟩ := and_e g0
  obtain ⟨k2, g2⟩ := and_e g1
  obtain ⟨k3, g3⟩ := and_e g2
  obtain ⟨w0, w1, w2, w3, rfl⟩ : ∃ w0 w1 w2 w3 : Value, args = #[w0, w1, w2, w3] := by
    have hs : args.size = 4 := by simpa [Cond.value, given_1] using k0
    obtain ⟨L⟩ := args
    match L, hs with
    | [w0, w1, w2, w3], _ => exact ⟨w0, w1, w2, w3, rfl⟩
  have hw := fun d (hd : d ∈ tables_1) => atoms_spec (ws := Jvm.Cond.code x code maxLocals ret :: tables_1) hat d (List.mem_cons_of_mem _ hd)
  obtain ⟨i0, e0⟩ := is_v k1
  obtain ⟨i1, e1⟩ := isL_v k2
  obtain ⟨i2, e2⟩ := is_v k3
  obtain ⟨i3, e3⟩ := isL_v g3
  obtain rfl : w0 = (.int i0) := Option.some.inj e0
  obtain rfl : w1 = (.long i1) := Option.some.inj e1
  obtain rfl : w2 = (.int i2) := Option.some.inj e2
  obtain rfl : w3 = (.long i3) := Option.some.inj e3
  obtain ⟨n, o, h1, h2, h3, _, L, rfl, ⟨⟨_, rfl, rfl⟩, N⟩, hq⟩ := law_sat l s _ hw i0 i1 i2 i3 tables_1 p e ha hc hk s m _ below hf ((Spec.applies_iff_loose hf).mp happ).1 ⟨rfl, State.Warmed39.refl s, rfl⟩ trivial
  refine ⟨n, _, h1, h2, h3, hpost _ _ _ _ _ _ ⟨Cond.after_iff.mpr rfl, Cond.after_iff.mpr (eq_i res_at (Term.int_eval (1)) rfl), trivial⟩ ⟨hq.1, hq.2.1, (hq.2.2.sift fun y hy => Or.inr (N y hy)).mono (by decide) (by decide)⟩⟩
theorem main_1_1 : Claimed_1_1 := comes_1 fun _ _ _ _ _ _ h hF => ⟨h.1, hF⟩
theorem main_1_2 : Claimed_1_2 := comes_1 fun _ _ _ _ _ _ h hF => ⟨h.2.1, hF⟩
end Jvm.Pilot.@@N@@
namespace Jvm.Pilot.@@N@@
open Jvm Jvm.ClassFile Sem Op Lib Jvm.Free Jvm.Stand Jvm.Pilot.@@N@@.Jvm.D
/-! MADE BY PROGRAM (witnessworld.py) out of the Statement's table words and the real class files: 12 classes; the members and pool entries that the words name. The judged class is class 1, her method 2. -/
namespace start1
open Jvm.ClassFile
def u (s : String) : CpInfo := .utf8 (stringToUtf16 s)
/-- a pool by its gaps: so many unusable entries, then the entry; so many at the end -/
def gap : Nat → List CpInfo → List CpInfo
  | 0, r => r
  | n + 1, r => .unusable :: gap n r
def poolList (es : List (Nat × CpInfo)) (last : Nat) : List CpInfo := es.foldr (fun e r => gap e.1 (e.2 :: r)) (gap last [])
def pool (es : List (Nat × CpInfo)) (last : Nat) : Array CpInfo := ⟨poolList es last⟩
def fileOf (pool : Array CpInfo) (this : Nat) (attrs : Array Attribute := #[]) (ms : Array MethodInfo := #[]) (fl : Nat := 33) (sup : Nat := 0) (ifs : Array Nat := #[]) (fds : Array FieldInfo := #[]) : ClassFile where
  minorVersion := 0
  majorVersion := 65
  constantPool := pool
  accessFlags := fl
  thisClass := this
  superClass := sup
  interfaces := ifs
  fields := fds
  methods := ms
  attributes := attrs
def plain (name : String) (sup : Option ClassId) : Class where
  name := name
  kind := .ordinary
  loader := none
  accessFlags := 33
  super := sup
  interfaces := #[]
  cf := none
  fields := #[]
  methods := #[]
  instanceTypes := #[]
  staticTypes := #[]
  resolved := #[]
  callSites := []
  init := .initialized
  statics := none
  mirror := none

def pool0 : Array CpInfo := pool [(5, u "<init>"), (0, u "()V"), (1, .class_ 10), (1, u "java/lang/Object")] 113

def k0c0 : Code := { maxStack := 0, maxLocals := 1, code := object_method_1_code, exceptionTable := #[], attributes := #[] }
def k0m0 : Method := { name := "<init>", desc := "()V", sig := { parameters := [], returnType := none }, accessFlags := 1, code := some k0c0 }
/-- java/lang/Object -/
def k0 : Class := { plain "java/lang/Object" none with
  accessFlags := 33
  interfaces := #[]
  cf := some (fileOf pool0 8 #[] #[{ accessFlags := 1, nameIndex := 5, descriptorIndex := 6, attributes := #[] }] 33 0 #[] #[])
  fields := #[]
  methods := #[k0m0]
  instanceTypes := #[]
  staticTypes := #[]
  resolved := Array.replicate 124 none
  statics := none }

def pool1 : Array CpInfo := pool [(2, .class_ 4), (0, .nameAndType 5 6), (0, u "java/lang/Object"), (0, u "<init>"), (0, u "()V"), (0, .class_ 8), (0, u "com/example/pufferfish/pufferfish/pool/PoolTally"), (0, .methodref 7 3), (0, .methodref 7 11), (0, .nameAndType 12 13), (0, u "taskEnded"), (0, u "(ZZJ)V"), (0, .methodref 15 16), (0, .class_ 17), (0, .nameAndType 18 19), (0, u "com/example/pufferfish/pufferfish/pool/PoolTallyTaskEndedPinLaw"), (0, u "one"), (0, u "(Z)J"), (0, .methodref 7 21), (0, .nameAndType 22 23), (0, u "completedCount"), (0, u "()J"), (0, .methodref 7 25), (0, .nameAndType 26 23), (0, u "failedCount"), (0, .methodref 7 28), (0, .nameAndType 29 23), (0, u "submittedCount"), (0, .methodref 7 31), (0, .nameAndType 32 23), (0, u "rejectedCount"), (0, .methodref 7 34), (0, .nameAndType 35 23), (0, u "rejectedAtShutdownCount"), (0, .methodref 7 37), (0, .nameAndType 38 39), (0, u "largestPoolSize"), (0, u "()I"), (3, u "law"), (0, u "(IJIJ)Z")] 2

def k1m0 : Method := { name := "<init>", desc := "()V", sig := { parameters := [], returnType := none }, accessFlags := 1, code := none }
def k1c1 : Code := { maxStack := 2, maxLocals := 1, code := method_2_code, exceptionTable := #[], attributes := #[] }
def k1m1 : Method := { name := "one", desc := "(Z)J", sig := { parameters := [.boolean], returnType := some .long }, accessFlags := 10, code := some k1c1 }
def k1c2 : Code := { maxStack := 5, maxLocals := 15, code := code, exceptionTable := #[], attributes := #[] }
def k1m2 : Method := { name := "law", desc := "(IJIJ)Z", sig := { parameters := [.int, .long, .int, .long], returnType := some .boolean }, accessFlags := 9, code := some k1c2 }
/-- com/example/pufferfish/pufferfish/pool/PoolTallyTaskEndedPinLaw -/
def k1 : Class := { plain "com/example/pufferfish/pufferfish/pool/PoolTallyTaskEndedPinLaw" (some 0) with
  accessFlags := 49
  interfaces := #[]
  cf := some (fileOf pool1 15 #[] #[{ accessFlags := 1, nameIndex := 5, descriptorIndex := 6, attributes := #[] }, { accessFlags := 10, nameIndex := 18, descriptorIndex := 19, attributes := #[] }, { accessFlags := 9, nameIndex := 43, descriptorIndex := 44, attributes := #[] }] 49 2 #[] #[])
  fields := #[]
  methods := #[k1m0, k1m1, k1m2]
  instanceTypes := #[]
  staticTypes := #[]
  resolved := Array.replicate 47 none
  statics := none }

def pool2 : Array CpInfo := pool [(1, .methodref 2 3), (0, .class_ 4), (0, .nameAndType 5 6), (0, u "java/lang/Object"), (0, u "<init>"), (0, u "()V"), (0, .class_ 8), (0, u "com/example/pufferfish/pufferfish/pool/LeadingPadding"), (0, u "gap"), (0, u "I"), (0, u "pad00"), (0, u "J"), (0, u "pad01"), (0, u "pad02"), (0, u "pad03"), (0, u "pad04"), (0, u "pad05"), (0, u "pad06"), (0, u "pad07"), (0, u "pad08"), (0, u "pad09"), (0, u "pad10"), (0, u "pad11"), (0, u "pad12"), (0, u "pad13"), (0, u "pad14"), (0, u "pad15")] 4

def k2c0 : Code := { maxStack := 1, maxLocals := 1, code := prog_10_method_1_code, exceptionTable := #[], attributes := #[] }
def k2m0 : Method := { name := "<init>", desc := "()V", sig := { parameters := [], returnType := none }, accessFlags := 0, code := some k2c0 }
/-- com/example/pufferfish/pufferfish/pool/LeadingPadding -/
def k2 : Class := { plain "com/example/pufferfish/pufferfish/pool/LeadingPadding" (some 0) with
  accessFlags := 1056
  interfaces := #[]
  cf := some (fileOf pool2 7 #[] #[{ accessFlags := 0, nameIndex := 5, descriptorIndex := 6, attributes := #[] }] 1056 2 #[] #[{ accessFlags := 2, nameIndex := 9, descriptorIndex := 10, attributes := #[] }, { accessFlags := 2, nameIndex := 11, descriptorIndex := 12, attributes := #[] }, { accessFlags := 2, nameIndex := 13, descriptorIndex := 12, attributes := #[] }, { accessFlags := 2, nameIndex := 14, descriptorIndex := 12, attributes := #[] }, { accessFlags := 2, nameIndex := 15, descriptorIndex := 12, attributes := #[] }, { accessFlags := 2, nameIndex := 16, descriptorIndex := 12, attributes := #[] }, { accessFlags := 2, nameIndex := 17, descriptorIndex := 12, attributes := #[] }, { accessFlags := 2, nameIndex := 18, descriptorIndex := 12, attributes := #[] }, { accessFlags := 2, nameIndex := 19, descriptorIndex := 12, attributes := #[] }, { accessFlags := 2, nameIndex := 20, descriptorIndex := 12, attributes := #[] }, { accessFlags := 2, nameIndex := 21, descriptorIndex := 12, attributes := #[] }, { accessFlags := 2, nameIndex := 22, descriptorIndex := 12, attributes := #[] }, { accessFlags := 2, nameIndex := 23, descriptorIndex := 12, attributes := #[] }, { accessFlags := 2, nameIndex := 24, descriptorIndex := 12, attributes := #[] }, { accessFlags := 2, nameIndex := 25, descriptorIndex := 12, attributes := #[] }, { accessFlags := 2, nameIndex := 26, descriptorIndex := 12, attributes := #[] }, { accessFlags := 2, nameIndex := 27, descriptorIndex := 12, attributes := #[] }])
  fields := #[{ name := "gap", type := .int, accessFlags := 2, slot := 0, constantValue := 0 }, { name := "pad00", type := .long, accessFlags := 2, slot := 1, constantValue := 0 }, { name := "pad01", type := .long, accessFlags := 2, slot := 2, constantValue := 0 }, { name := "pad02", type := .long, accessFlags := 2, slot := 3, constantValue := 0 }, { name := "pad03", type := .long, accessFlags := 2, slot := 4, constantValue := 0 }, { name := "pad04", type := .long, accessFlags := 2, slot := 5, constantValue := 0 }, { name := "pad05", type := .long, accessFlags := 2, slot := 6, constantValue := 0 }, { name := "pad06", type := .long, accessFlags := 2, slot := 7, constantValue := 0 }, { name := "pad07", type := .long, accessFlags := 2, slot := 8, constantValue := 0 }, { name := "pad08", type := .long, accessFlags := 2, slot := 9, constantValue := 0 }, { name := "pad09", type := .long, accessFlags := 2, slot := 10, constantValue := 0 }, { name := "pad10", type := .long, accessFlags := 2, slot := 11, constantValue := 0 }, { name := "pad11", type := .long, accessFlags := 2, slot := 12, constantValue := 0 }, { name := "pad12", type := .long, accessFlags := 2, slot := 13, constantValue := 0 }, { name := "pad13", type := .long, accessFlags := 2, slot := 14, constantValue := 0 }, { name := "pad14", type := .long, accessFlags := 2, slot := 15, constantValue := 0 }, { name := "pad15", type := .long, accessFlags := 2, slot := 16, constantValue := 0 }]
  methods := #[k2m0]
  instanceTypes := #[.int, .long, .long, .long, .long, .long, .long, .long, .long, .long, .long, .long, .long, .long, .long, .long, .long]
  staticTypes := #[]
  resolved := Array.replicate 32 none
  statics := none }

def pool3 : Array CpInfo := pool [(1, .methodref 2 3), (0, .class_ 4), (0, .nameAndType 5 6), (0, u "com/example/pufferfish/pufferfish/pool/LeadingPadding"), (0, u "<init>"), (0, u "()V"), (0, .class_ 8), (0, u "com/example/pufferfish/pufferfish/pool/PoolTally$TimeSum"), (0, .methodref 7 3), (0, .fieldref 11 12), (0, .class_ 13), (0, .nameAndType 14 15), (0, u "com/example/pufferfish/pufferfish/pool/PoolTally"), (0, u "queueWait"), (0, u "Lcom/example/pufferfish/pufferfish/pool/PoolTally$TimeSum;"), (0, .fieldref 11 17), (0, .nameAndType 18 15), (0, u "runTime"), (0, .fieldref 11 20), (0, .nameAndType 21 22), (0, u "largestPoolSize"), (0, u "I"), (6, .fieldref 11 30), (0, .nameAndType 31 32), (0, u "submittedCount"), (0, u "J"), (0, .methodref 7 34), (0, .nameAndType 35 36), (0, u "add"), (0, u "(J)V"), (0, .fieldref 11 38), (0, .nameAndType 39 32), (0, u "completedCount"), (0, .fieldref 11 41), (0, .nameAndType 42 32), (0, u "failedCount"), (0, .fieldref 11 44), (0, .nameAndType 45 32), (0, u "rejectedCount"), (0, .fieldref 11 47), (0, .nameAndType 48 32), (0, u "rejectedAtShutdownCount"), (9, u "trailingPad00"), (0, u "trailingPad01"), (0, u "trailingPad02"), (0, u "trailingPad03"), (0, u "trailingPad04"), (0, u "trailingPad05"), (0, u "trailingPad06"), (0, u "trailingPad07"), (0, u "trailingPad08"), (0, u "trailingPad09"), (0, u "trailingPad10"), (0, u "trailingPad11"), (0, u "trailingPad12"), (0, u "trailingPad13"), (0, u "trailingPad14"), (0, u "trailingPad15"), (7, u "taskEnded"), (0, u "(ZZJ)V"), (4, u "()I"), (0, u "()J")] 9

def k3c0 : Code := { maxStack := 3, maxLocals := 1, code := prog_17_method_1_code, exceptionTable := #[], attributes := #[] }
def k3m0 : Method := { name := "<init>", desc := "()V", sig := { parameters := [], returnType := none }, accessFlags := 1, code := some k3c0 }
def k3c1 : Code := { maxStack := 5, maxLocals := 5, code := prog_17_method_6_code, exceptionTable := #[], attributes := #[] }
def k3m1 : Method := { name := "taskEnded", desc := "(ZZJ)V", sig := { parameters := [.boolean, .boolean, .long], returnType := none }, accessFlags := 1, code := some k3c1 }
def k3c2 : Code := { maxStack := 1, maxLocals := 1, code := prog_17_method_9_code, exceptionTable := #[], attributes := #[] }
def k3m2 : Method := { name := "largestPoolSize", desc := "()I", sig := { parameters := [], returnType := some .int }, accessFlags := 0, code := some k3c2 }
def k3c3 : Code := { maxStack := 2, maxLocals := 1, code := prog_17_method_10_code, exceptionTable := #[], attributes := #[] }
def k3m3 : Method := { name := "submittedCount", desc := "()J", sig := { parameters := [], returnType := some .long }, accessFlags := 0, code := some k3c3 }
def k3c4 : Code := { maxStack := 2, maxLocals := 1, code := prog_17_method_11_code, exceptionTable := #[], attributes := #[] }
def k3m4 : Method := { name := "completedCount", desc := "()J", sig := { parameters := [], returnType := some .long }, accessFlags := 0, code := some k3c4 }
def k3c5 : Code := { maxStack := 2, maxLocals := 1, code := prog_17_method_12_code, exceptionTable := #[], attributes := #[] }
def k3m5 : Method := { name := "failedCount", desc := "()J", sig := { parameters := [], returnType := some .long }, accessFlags := 0, code := some k3c5 }
def k3c6 : Code := { maxStack := 2, maxLocals := 1, code := prog_17_method_13_code, exceptionTable := #[], attributes := #[] }
def k3m6 : Method := { name := "rejectedCount", desc := "()J", sig := { parameters := [], returnType := some .long }, accessFlags := 0, code := some k3c6 }
def k3c7 : Code := { maxStack := 2, maxLocals := 1, code := prog_17_method_14_code, exceptionTable := #[], attributes := #[] }
def k3m7 : Method := { name := "rejectedAtShutdownCount", desc := "()J", sig := { parameters := [], returnType := some .long }, accessFlags := 0, code := some k3c7 }
/-- com/example/pufferfish/pufferfish/pool/PoolTally -/
def k3 : Class := { plain "com/example/pufferfish/pufferfish/pool/PoolTally" (some 2) with
  accessFlags := 33
  interfaces := #[]
  cf := some (fileOf pool3 11 #[.nestMembers #[7]] #[{ accessFlags := 1, nameIndex := 5, descriptorIndex := 6, attributes := #[] }, { accessFlags := 1, nameIndex := 81, descriptorIndex := 82, attributes := #[] }, { accessFlags := 0, nameIndex := 21, descriptorIndex := 87, attributes := #[] }, { accessFlags := 0, nameIndex := 31, descriptorIndex := 88, attributes := #[] }, { accessFlags := 0, nameIndex := 39, descriptorIndex := 88, attributes := #[] }, { accessFlags := 0, nameIndex := 42, descriptorIndex := 88, attributes := #[] }, { accessFlags := 0, nameIndex := 45, descriptorIndex := 88, attributes := #[] }, { accessFlags := 0, nameIndex := 48, descriptorIndex := 88, attributes := #[] }] 33 2 #[] #[{ accessFlags := 2, nameIndex := 21, descriptorIndex := 22, attributes := #[] }, { accessFlags := 2, nameIndex := 31, descriptorIndex := 32, attributes := #[] }, { accessFlags := 2, nameIndex := 39, descriptorIndex := 32, attributes := #[] }, { accessFlags := 2, nameIndex := 42, descriptorIndex := 32, attributes := #[] }, { accessFlags := 2, nameIndex := 45, descriptorIndex := 32, attributes := #[] }, { accessFlags := 2, nameIndex := 48, descriptorIndex := 32, attributes := #[] }, { accessFlags := 2, nameIndex := 58, descriptorIndex := 32, attributes := #[] }, { accessFlags := 2, nameIndex := 59, descriptorIndex := 32, attributes := #[] }, { accessFlags := 2, nameIndex := 60, descriptorIndex := 32, attributes := #[] }, { accessFlags := 2, nameIndex := 61, descriptorIndex := 32, attributes := #[] }, { accessFlags := 2, nameIndex := 62, descriptorIndex := 32, attributes := #[] }, { accessFlags := 2, nameIndex := 63, descriptorIndex := 32, attributes := #[] }, { accessFlags := 2, nameIndex := 64, descriptorIndex := 32, attributes := #[] }, { accessFlags := 2, nameIndex := 65, descriptorIndex := 32, attributes := #[] }, { accessFlags := 2, nameIndex := 66, descriptorIndex := 32, attributes := #[] }, { accessFlags := 2, nameIndex := 67, descriptorIndex := 32, attributes := #[] }, { accessFlags := 2, nameIndex := 68, descriptorIndex := 32, attributes := #[] }, { accessFlags := 2, nameIndex := 69, descriptorIndex := 32, attributes := #[] }, { accessFlags := 2, nameIndex := 70, descriptorIndex := 32, attributes := #[] }, { accessFlags := 2, nameIndex := 71, descriptorIndex := 32, attributes := #[] }, { accessFlags := 2, nameIndex := 72, descriptorIndex := 32, attributes := #[] }, { accessFlags := 2, nameIndex := 73, descriptorIndex := 32, attributes := #[] }, { accessFlags := 18, nameIndex := 14, descriptorIndex := 15, attributes := #[] }, { accessFlags := 18, nameIndex := 18, descriptorIndex := 15, attributes := #[] }])
  fields := #[{ name := "largestPoolSize", type := .int, accessFlags := 2, slot := 17, constantValue := 0 }, { name := "submittedCount", type := .long, accessFlags := 2, slot := 18, constantValue := 0 }, { name := "completedCount", type := .long, accessFlags := 2, slot := 19, constantValue := 0 }, { name := "failedCount", type := .long, accessFlags := 2, slot := 20, constantValue := 0 }, { name := "rejectedCount", type := .long, accessFlags := 2, slot := 21, constantValue := 0 }, { name := "rejectedAtShutdownCount", type := .long, accessFlags := 2, slot := 22, constantValue := 0 }, { name := "trailingPad00", type := .long, accessFlags := 2, slot := 23, constantValue := 0 }, { name := "trailingPad01", type := .long, accessFlags := 2, slot := 24, constantValue := 0 }, { name := "trailingPad02", type := .long, accessFlags := 2, slot := 25, constantValue := 0 }, { name := "trailingPad03", type := .long, accessFlags := 2, slot := 26, constantValue := 0 }, { name := "trailingPad04", type := .long, accessFlags := 2, slot := 27, constantValue := 0 }, { name := "trailingPad05", type := .long, accessFlags := 2, slot := 28, constantValue := 0 }, { name := "trailingPad06", type := .long, accessFlags := 2, slot := 29, constantValue := 0 }, { name := "trailingPad07", type := .long, accessFlags := 2, slot := 30, constantValue := 0 }, { name := "trailingPad08", type := .long, accessFlags := 2, slot := 31, constantValue := 0 }, { name := "trailingPad09", type := .long, accessFlags := 2, slot := 32, constantValue := 0 }, { name := "trailingPad10", type := .long, accessFlags := 2, slot := 33, constantValue := 0 }, { name := "trailingPad11", type := .long, accessFlags := 2, slot := 34, constantValue := 0 }, { name := "trailingPad12", type := .long, accessFlags := 2, slot := 35, constantValue := 0 }, { name := "trailingPad13", type := .long, accessFlags := 2, slot := 36, constantValue := 0 }, { name := "trailingPad14", type := .long, accessFlags := 2, slot := 37, constantValue := 0 }, { name := "trailingPad15", type := .long, accessFlags := 2, slot := 38, constantValue := 0 }, { name := "queueWait", type := (.object "com/example/pufferfish/pufferfish/pool/PoolTally$TimeSum"), accessFlags := 18, slot := 39, constantValue := 0 }, { name := "runTime", type := (.object "com/example/pufferfish/pufferfish/pool/PoolTally$TimeSum"), accessFlags := 18, slot := 40, constantValue := 0 }]
  methods := #[k3m0, k3m1, k3m2, k3m3, k3m4, k3m5, k3m6, k3m7]
  instanceTypes := #[.int, .long, .long, .long, .long, .long, .long, .long, .long, .long, .long, .long, .long, .long, .long, .long, .long, .int, .long, .long, .long, .long, .long, .long, .long, .long, .long, .long, .long, .long, .long, .long, .long, .long, .long, .long, .long, .long, .long, (.object "com/example/pufferfish/pufferfish/pool/PoolTally$TimeSum"), (.object "com/example/pufferfish/pufferfish/pool/PoolTally$TimeSum")]
  staticTypes := #[]
  resolved := ((Array.replicate 98 none).setIfInBounds 7 (some (.cls 4))).setIfInBounds 9 (some (.method ⟨4, 0⟩))
  statics := none }

def pool4 : Array CpInfo := pool [(1, .methodref 2 3), (0, .class_ 4), (0, .nameAndType 5 6), (0, u "com/example/pufferfish/pufferfish/pool/LeadingPadding"), (0, u "<init>"), (0, u "()V"), (0, .methodref 8 9), (0, .class_ 10), (0, .nameAndType 11 12), (0, u "java/lang/Math"), (0, u "max"), (0, u "(JJ)J"), (0, .methodref 14 15), (0, .class_ 16), (0, .nameAndType 17 18), (0, u "com/example/pufferfish/pufferfish/pool/PoolTally$TimeSum"), (0, u "addNanos"), (0, u "(J)V"), (0, .fieldref 14 20), (0, .nameAndType 21 22), (0, u "maxNanos"), (0, u "J"), (0, .fieldref 14 24), (0, .nameAndType 25 22), (0, u "seconds"), (0, .fieldref 14 27), (0, .nameAndType 28 22), (0, u "nanos"), (0, .long 4611686018427387904), (1, .long 1000000000), (11, u "NANOS_PER_SECOND"), (1, u "CARRY_NANOS"), (0, u "trailingPad00"), (0, u "trailingPad01"), (0, u "trailingPad02"), (0, u "trailingPad03"), (0, u "trailingPad04"), (0, u "trailingPad05"), (0, u "trailingPad06"), (0, u "trailingPad07"), (0, u "trailingPad08"), (0, u "trailingPad09"), (0, u "trailingPad10"), (0, u "trailingPad11"), (0, u "trailingPad12"), (0, u "trailingPad13"), (0, u "trailingPad14"), (0, u "trailingPad15"), (2, u "add"), (7, .class_ 73), (0, u "com/example/pufferfish/pufferfish/pool/PoolTally")] 2

def k4c0 : Code := { maxStack := 1, maxLocals := 1, code := prog_18_method_1_code, exceptionTable := #[], attributes := #[] }
def k4m0 : Method := { name := "<init>", desc := "()V", sig := { parameters := [], returnType := none }, accessFlags := 2, code := some k4c0 }
def k4c1 : Code := { maxStack := 5, maxLocals := 5, code := prog_18_method_2_code, exceptionTable := #[], attributes := #[] }
def k4m1 : Method := { name := "add", desc := "(J)V", sig := { parameters := [.long], returnType := none }, accessFlags := 0, code := some k4c1 }
def k4c2 : Code := { maxStack := 7, maxLocals := 3, code := prog_18_method_4_code, exceptionTable := #[], attributes := #[] }
def k4m2 : Method := { name := "addNanos", desc := "(J)V", sig := { parameters := [.long], returnType := none }, accessFlags := 2, code := some k4c2 }
/-- com/example/pufferfish/pufferfish/pool/PoolTally$TimeSum -/
def k4 : Class := { plain "com/example/pufferfish/pufferfish/pool/PoolTally$TimeSum" (some 2) with
  accessFlags := 32
  interfaces := #[]
  cf := some (fileOf pool4 14 #[.nestHost 72] #[{ accessFlags := 2, nameIndex := 5, descriptorIndex := 6, attributes := #[] }, { accessFlags := 0, nameIndex := 64, descriptorIndex := 18, attributes := #[] }, { accessFlags := 2, nameIndex := 17, descriptorIndex := 18, attributes := #[] }] 32 2 #[] #[{ accessFlags := 26, nameIndex := 43, descriptorIndex := 22, attributes := #[] }, { accessFlags := 26, nameIndex := 45, descriptorIndex := 22, attributes := #[] }, { accessFlags := 2, nameIndex := 25, descriptorIndex := 22, attributes := #[] }, { accessFlags := 2, nameIndex := 28, descriptorIndex := 22, attributes := #[] }, { accessFlags := 2, nameIndex := 21, descriptorIndex := 22, attributes := #[] }, { accessFlags := 2, nameIndex := 46, descriptorIndex := 22, attributes := #[] }, { accessFlags := 2, nameIndex := 47, descriptorIndex := 22, attributes := #[] }, { accessFlags := 2, nameIndex := 48, descriptorIndex := 22, attributes := #[] }, { accessFlags := 2, nameIndex := 49, descriptorIndex := 22, attributes := #[] }, { accessFlags := 2, nameIndex := 50, descriptorIndex := 22, attributes := #[] }, { accessFlags := 2, nameIndex := 51, descriptorIndex := 22, attributes := #[] }, { accessFlags := 2, nameIndex := 52, descriptorIndex := 22, attributes := #[] }, { accessFlags := 2, nameIndex := 53, descriptorIndex := 22, attributes := #[] }, { accessFlags := 2, nameIndex := 54, descriptorIndex := 22, attributes := #[] }, { accessFlags := 2, nameIndex := 55, descriptorIndex := 22, attributes := #[] }, { accessFlags := 2, nameIndex := 56, descriptorIndex := 22, attributes := #[] }, { accessFlags := 2, nameIndex := 57, descriptorIndex := 22, attributes := #[] }, { accessFlags := 2, nameIndex := 58, descriptorIndex := 22, attributes := #[] }, { accessFlags := 2, nameIndex := 59, descriptorIndex := 22, attributes := #[] }, { accessFlags := 2, nameIndex := 60, descriptorIndex := 22, attributes := #[] }, { accessFlags := 2, nameIndex := 61, descriptorIndex := 22, attributes := #[] }])
  fields := #[{ name := "NANOS_PER_SECOND", type := .long, accessFlags := 26, slot := 0, constantValue := 0 }, { name := "CARRY_NANOS", type := .long, accessFlags := 26, slot := 1, constantValue := 0 }, { name := "seconds", type := .long, accessFlags := 2, slot := 17, constantValue := 0 }, { name := "nanos", type := .long, accessFlags := 2, slot := 18, constantValue := 0 }, { name := "maxNanos", type := .long, accessFlags := 2, slot := 19, constantValue := 0 }, { name := "trailingPad00", type := .long, accessFlags := 2, slot := 20, constantValue := 0 }, { name := "trailingPad01", type := .long, accessFlags := 2, slot := 21, constantValue := 0 }, { name := "trailingPad02", type := .long, accessFlags := 2, slot := 22, constantValue := 0 }, { name := "trailingPad03", type := .long, accessFlags := 2, slot := 23, constantValue := 0 }, { name := "trailingPad04", type := .long, accessFlags := 2, slot := 24, constantValue := 0 }, { name := "trailingPad05", type := .long, accessFlags := 2, slot := 25, constantValue := 0 }, { name := "trailingPad06", type := .long, accessFlags := 2, slot := 26, constantValue := 0 }, { name := "trailingPad07", type := .long, accessFlags := 2, slot := 27, constantValue := 0 }, { name := "trailingPad08", type := .long, accessFlags := 2, slot := 28, constantValue := 0 }, { name := "trailingPad09", type := .long, accessFlags := 2, slot := 29, constantValue := 0 }, { name := "trailingPad10", type := .long, accessFlags := 2, slot := 30, constantValue := 0 }, { name := "trailingPad11", type := .long, accessFlags := 2, slot := 31, constantValue := 0 }, { name := "trailingPad12", type := .long, accessFlags := 2, slot := 32, constantValue := 0 }, { name := "trailingPad13", type := .long, accessFlags := 2, slot := 33, constantValue := 0 }, { name := "trailingPad14", type := .long, accessFlags := 2, slot := 34, constantValue := 0 }, { name := "trailingPad15", type := .long, accessFlags := 2, slot := 35, constantValue := 0 }]
  methods := #[k4m0, k4m1, k4m2]
  instanceTypes := #[.int, .long, .long, .long, .long, .long, .long, .long, .long, .long, .long, .long, .long, .long, .long, .long, .long, .long, .long, .long, .long, .long, .long, .long, .long, .long, .long, .long, .long, .long, .long, .long, .long, .long, .long, .long]
  staticTypes := #[.long, .long]
  resolved := Array.replicate 76 none
  statics := none }

def pool5 : Array CpInfo := pool [(1, .class_ 2), (0, u "java/lang/Math"), (1, .class_ 6), (1, u "java/lang/Object"), (0, u "<init>"), (0, u "()V"), (89, .class_ 100), (1, u "java/lang/Math$RandomNumberGeneratorHolder"), (20, u "(JJ)J"), (50, u "negativeZeroFloatBits"), (0, u "J"), (2, u "negativeZeroDoubleBits"), (21, u "max"), (46, u "$assertionsDisabled"), (0, u "Z"), (91, u "twoToTheDoubleScaleDown"), (0, u "D"), (4, u "twoToTheDoubleScaleUp"), (9, u "E"), (3, u "PI"), (2, u "TAU"), (2, u "DEGREES_TO_RADIANS"), (0, u "RADIANS_TO_DEGREES")] 94

def k5m0 : Method := { name := "<init>", desc := "()V", sig := { parameters := [], returnType := none }, accessFlags := 2, code := none }
def k5c1 : Code := { maxStack := 4, maxLocals := 4, code := jdk_29_method_66_code, exceptionTable := #[], attributes := #[] }
def k5m1 : Method := { name := "max", desc := "(JJ)J", sig := { parameters := [.long, .long], returnType := some .long }, accessFlags := 9, code := some k5c1 }
/-- java/lang/Math -/
def k5 : Class := { plain "java/lang/Math" (some 0) with
  accessFlags := 49
  interfaces := #[]
  cf := some (fileOf pool5 1 #[.nestMembers #[98]] #[{ accessFlags := 2, nameIndex := 7, descriptorIndex := 8, attributes := #[] }, { accessFlags := 9, nameIndex := 198, descriptorIndex := 121, attributes := #[] }] 49 4 #[] #[{ accessFlags := 25, nameIndex := 354, descriptorIndex := 339, attributes := #[] }, { accessFlags := 25, nameIndex := 358, descriptorIndex := 339, attributes := #[] }, { accessFlags := 25, nameIndex := 361, descriptorIndex := 339, attributes := #[] }, { accessFlags := 26, nameIndex := 364, descriptorIndex := 339, attributes := #[] }, { accessFlags := 26, nameIndex := 365, descriptorIndex := 339, attributes := #[] }, { accessFlags := 26, nameIndex := 172, descriptorIndex := 173, attributes := #[] }, { accessFlags := 26, nameIndex := 176, descriptorIndex := 173, attributes := #[] }, { accessFlags := 8, nameIndex := 344, descriptorIndex := 339, attributes := #[] }, { accessFlags := 8, nameIndex := 338, descriptorIndex := 339, attributes := #[] }, { accessFlags := 4120, nameIndex := 245, descriptorIndex := 246, attributes := #[] }])
  fields := #[{ name := "E", type := .double, accessFlags := 25, slot := 0, constantValue := 0 }, { name := "PI", type := .double, accessFlags := 25, slot := 1, constantValue := 0 }, { name := "TAU", type := .double, accessFlags := 25, slot := 2, constantValue := 0 }, { name := "DEGREES_TO_RADIANS", type := .double, accessFlags := 26, slot := 3, constantValue := 0 }, { name := "RADIANS_TO_DEGREES", type := .double, accessFlags := 26, slot := 4, constantValue := 0 }, { name := "negativeZeroFloatBits", type := .long, accessFlags := 26, slot := 5, constantValue := 0 }, { name := "negativeZeroDoubleBits", type := .long, accessFlags := 26, slot := 6, constantValue := 0 }, { name := "twoToTheDoubleScaleUp", type := .double, accessFlags := 8, slot := 7, constantValue := 0 }, { name := "twoToTheDoubleScaleDown", type := .double, accessFlags := 8, slot := 8, constantValue := 0 }, { name := "$assertionsDisabled", type := .boolean, accessFlags := 4120, slot := 9, constantValue := 0 }]
  methods := #[k5m0, k5m1]
  instanceTypes := #[]
  staticTypes := #[.double, .double, .double, .double, .double, .long, .long, .double, .double, .boolean]
  resolved := Array.replicate 460 none
  statics := none }

def pool6 : Array CpInfo := pool [(1, u "java/lang/Cloneable"), (0, .class_ 1), (0, u "java/lang/Object"), (0, .class_ 3)] 3

/-- java/lang/Cloneable -/
def k6 : Class := { plain "java/lang/Cloneable" (some 0) with
  accessFlags := 1537
  interfaces := #[]
  cf := some (fileOf pool6 2 #[] #[] 1537 4 #[] #[])
  fields := #[]
  methods := #[]
  instanceTypes := #[]
  staticTypes := #[]
  resolved := Array.replicate 8 none
  statics := none }

def pool7 : Array CpInfo := pool [(1, u "java/io/Serializable"), (0, .class_ 1), (0, u "java/lang/Object"), (0, .class_ 3)] 3

/-- java/io/Serializable -/
def k7 : Class := { plain "java/io/Serializable" (some 0) with
  accessFlags := 1537
  interfaces := #[]
  cf := some (fileOf pool7 2 #[] #[] 1537 4 #[] #[])
  fields := #[]
  methods := #[]
  instanceTypes := #[]
  staticTypes := #[]
  resolved := Array.replicate 8 none
  statics := none }

/-- the primitive byte -/
def k8 : Class := { plain "byte" none with kind := .primitive 'B', accessFlags := 0x411 }
/-- [B -/
def k9 : Class := { plain "[B" (some 0) with kind := .array 8 .byte, interfaces := #[6, 7], accessFlags := 1041 }

/-- the primitive int -/
def k10 : Class := { plain "int" none with kind := .primitive 'I', accessFlags := 0x411 }
/-- [I -/
def k11 : Class := { plain "[I" (some 0) with kind := .array 10 .int, interfaces := #[6, 7], accessFlags := 1041 }

def heap : Heap := #[]
def classes : Array Class := #[k0, k1, k2, k3, k4, k5, k6, k7, k8, k9, k10, k11]
def interned : List (Array UInt16 × Addr) := []
def slotsUsed : Nat := 0
def theMethod : MethodId := ⟨1, 2⟩
def args0 : Array Value := #[.int 3, .long 6, .int 5, .long 8]
def aboutOver (below : List Frame) : State where
  vm := { classes := classes, interned := interned.toArray }
  heap := heap
  slotsUsed := slotsUsed
  threads := #[{ frames := .invoking theMethod args0 :: below }]
def below0 : List Frame := [.native { method := ⟨0, 0⟩, args := #[] }]
def about1 : State := aboutOver below0
def p0 : Program := .bare "" "" ""
def e0 : Env := launch0.env 0 0 0
theorem w_frames : about1.frames = Frame.invoking theMethod args0 :: below0 := rfl
set_option maxRecDepth 65536 in
theorem w_args : argsFit about1.vm theMethod args0 = true := by decide +kernel
set_option maxRecDepth 65536 in
theorem w_heap : heapFits about1 = true := by decide +kernel
set_option maxRecDepth 65536 in
theorem w_runnable : about1.curStatus? = some .runnable := by decide +kernel
set_option maxRecDepth 65536 in
theorem w_alone : about1.alone = true := by decide +kernel
set_option maxRecDepth 65536 in
theorem w_named : about1.methodNamed? x = some theMethod := by decide +kernel
set_option maxRecDepth 65536 in
theorem w_hears : about1.hears theMethod below0 = true := by decide +kernel
set_option maxRecDepth 65536 in
theorem w_ripe : about1.ripe theMethod args0 below0 = true := by decide +kernel
theorem w_running : about1.status = .running := rfl
set_option maxRecDepth 65536 in
theorem w_room : about1.hasRoom e0.platform room_1 = true :=
  launch0.hasRoom_least _ room_1 (by decide +kernel) (by decide +kernel) (by decide +kernel) (by decide +kernel) (by decide +kernel) (by decide +kernel)
theorem allAtoms_all (ts : List Jvm.Cond) (a : Array Jvm.Value) (st : Jvm.State) : (allAtoms ts).before a st = ts.all (fun c => c.before a st) := by
  induction ts with
  | nil => rfl
  | cons c t ih =>
    show (Jvm.Cond.and c (allAtoms t)).before a st = _
    rw [Jvm.Cond.before_and, ih, List.all_cons]
def words1 : List Jvm.Cond := Jvm.Cond.code x code maxLocals ret :: tables_1
/-- a 'code' word, met by the world's own term for the bytes: nothing is compared byte by byte -/
theorem code_word {y : MethodName} {bytes : ByteArray} {mx : Nat} {rt : Option FieldType} {a : Array Value} {s : State} {m : MethodId} {meth : Method} {c : Code} (h1 : s.methodNamed? y = some m) (h2 : s.vm.method? m = some meth) (h3 : meth.code = some c) (h4 : c.code = bytes)
    (h5 : (c.maxLocals == mx && c.exceptionTable.isEmpty && decide (c.maxStack ≤ mostOperands) && decide (meth.sig.returnType = rt) && !meth.locks && decide (parseMethodDescriptor y.desc = some meth.sig)) = true) : (Jvm.Cond.code y bytes mx rt).before a s = true := by
  simp only [Bool.and_eq_true, beq_iff_eq, Bool.not_eq_true', decide_eq_true_eq] at h5
  obtain ⟨⟨⟨⟨⟨g1, g2⟩, g3⟩, g4⟩, g5⟩, g6⟩ := h5
  simp [Cond.before, Cond.holds, Cond.value, h1, h2, h3, h4, g1, g2, g3, g4, g5, g6]
def isCode : Jvm.Cond → Bool
  | .code _ _ _ _ => true
  | _ => false
theorem all_split {L : List Jvm.Cond} {P : Jvm.Cond → Bool} (h1 : L.all (fun c => isCode c || P c) = true) (h2 : ∀ c ∈ L.filter isCode, P c = true) : L.all P = true := by
  refine List.all_eq_true.mpr fun c hc => ?_
  have h := List.all_eq_true.mp h1 c hc
  rcases Bool.eq_false_or_eq_true (isCode c) with hi | hi
  · exact h2 c (List.mem_filter.mpr ⟨hc, hi⟩)
  · simpa [hi] using h
set_option maxRecDepth 65536 in
theorem w_c0 : (Jvm.Cond.code x code maxLocals ret).before args0 about1 = true := code_word (m := ⟨1, 2⟩) (meth := k1m2) (c := k1c2) (by decide +kernel) rfl rfl rfl (by decide +kernel)
set_option maxRecDepth 65536 in
theorem w_c1 : (Jvm.Cond.code ({ cls := "com/example/pufferfish/pufferfish/pool/PoolTally", name := "<init>", desc := "()V" } : Jvm.MethodName) prog_17_method_1_code (1 : Nat) (Option.none : Option Jvm.ClassFile.FieldType)).before args0 about1 = true := code_word (m := ⟨3, 0⟩) (meth := k3m0) (c := k3c0) (by decide +kernel) rfl rfl rfl (by decide +kernel)
set_option maxRecDepth 65536 in
theorem w_c2 : (Jvm.Cond.code ({ cls := "com/example/pufferfish/pufferfish/pool/LeadingPadding", name := "<init>", desc := "()V" } : Jvm.MethodName) prog_10_method_1_code (1 : Nat) (Option.none : Option Jvm.ClassFile.FieldType)).before args0 about1 = true := code_word (m := ⟨2, 0⟩) (meth := k2m0) (c := k2c0) (by decide +kernel) rfl rfl rfl (by decide +kernel)
set_option maxRecDepth 65536 in
theorem w_c3 : (Jvm.Cond.code ({ cls := "java/lang/Object", name := "<init>", desc := "()V" } : Jvm.MethodName) object_method_1_code (1 : Nat) (Option.none : Option Jvm.ClassFile.FieldType)).before args0 about1 = true := code_word (m := ⟨0, 0⟩) (meth := k0m0) (c := k0c0) (by decide +kernel) rfl rfl rfl (by decide +kernel)
set_option maxRecDepth 65536 in
theorem w_c4 : (Jvm.Cond.code ({ cls := "com/example/pufferfish/pufferfish/pool/PoolTally$TimeSum", name := "<init>", desc := "()V" } : Jvm.MethodName) prog_18_method_1_code (1 : Nat) (Option.none : Option Jvm.ClassFile.FieldType)).before args0 about1 = true := code_word (m := ⟨4, 0⟩) (meth := k4m0) (c := k4c0) (by decide +kernel) rfl rfl rfl (by decide +kernel)
set_option maxRecDepth 65536 in
theorem w_c5 : (Jvm.Cond.code ({ cls := "com/example/pufferfish/pufferfish/pool/PoolTally", name := "taskEnded", desc := "(ZZJ)V" } : Jvm.MethodName) prog_17_method_6_code (5 : Nat) (Option.none : Option Jvm.ClassFile.FieldType)).before args0 about1 = true := code_word (m := ⟨3, 1⟩) (meth := k3m1) (c := k3c1) (by decide +kernel) rfl rfl rfl (by decide +kernel)
set_option maxRecDepth 65536 in
theorem w_c6 : (Jvm.Cond.code ({ cls := "com/example/pufferfish/pufferfish/pool/PoolTally$TimeSum", name := "add", desc := "(J)V" } : Jvm.MethodName) prog_18_method_2_code (5 : Nat) (Option.none : Option Jvm.ClassFile.FieldType)).before args0 about1 = true := code_word (m := ⟨4, 1⟩) (meth := k4m1) (c := k4c1) (by decide +kernel) rfl rfl rfl (by decide +kernel)
set_option maxRecDepth 65536 in
theorem w_c7 : (Jvm.Cond.code ({ cls := "java/lang/Math", name := "max", desc := "(JJ)J" } : Jvm.MethodName) jdk_29_method_66_code (4 : Nat) (Option.some Jvm.ClassFile.FieldType.long)).before args0 about1 = true := code_word (m := ⟨5, 1⟩) (meth := k5m1) (c := k5c1) (by decide +kernel) rfl rfl rfl (by decide +kernel)
set_option maxRecDepth 65536 in
theorem w_c8 : (Jvm.Cond.code ({ cls := "com/example/pufferfish/pufferfish/pool/PoolTally$TimeSum", name := "addNanos", desc := "(J)V" } : Jvm.MethodName) prog_18_method_4_code (3 : Nat) (Option.none : Option Jvm.ClassFile.FieldType)).before args0 about1 = true := code_word (m := ⟨4, 2⟩) (meth := k4m2) (c := k4c2) (by decide +kernel) rfl rfl rfl (by decide +kernel)
set_option maxRecDepth 65536 in
theorem w_c9 : (Jvm.Cond.code ({ cls := "com/example/pufferfish/pufferfish/pool/PoolTallyTaskEndedPinLaw", name := "one", desc := "(Z)J" } : Jvm.MethodName) method_2_code (1 : Nat) (Option.some Jvm.ClassFile.FieldType.long)).before args0 about1 = true := code_word (m := ⟨1, 1⟩) (meth := k1m1) (c := k1c1) (by decide +kernel) rfl rfl rfl (by decide +kernel)
set_option maxRecDepth 65536 in
theorem w_c10 : (Jvm.Cond.code ({ cls := "com/example/pufferfish/pufferfish/pool/PoolTally", name := "completedCount", desc := "()J" } : Jvm.MethodName) prog_17_method_11_code (1 : Nat) (Option.some Jvm.ClassFile.FieldType.long)).before args0 about1 = true := code_word (m := ⟨3, 4⟩) (meth := k3m4) (c := k3c4) (by decide +kernel) rfl rfl rfl (by decide +kernel)
set_option maxRecDepth 65536 in
theorem w_c11 : (Jvm.Cond.code ({ cls := "com/example/pufferfish/pufferfish/pool/PoolTally", name := "failedCount", desc := "()J" } : Jvm.MethodName) prog_17_method_12_code (1 : Nat) (Option.some Jvm.ClassFile.FieldType.long)).before args0 about1 = true := code_word (m := ⟨3, 5⟩) (meth := k3m5) (c := k3c5) (by decide +kernel) rfl rfl rfl (by decide +kernel)
set_option maxRecDepth 65536 in
theorem w_c12 : (Jvm.Cond.code ({ cls := "com/example/pufferfish/pufferfish/pool/PoolTally", name := "submittedCount", desc := "()J" } : Jvm.MethodName) prog_17_method_10_code (1 : Nat) (Option.some Jvm.ClassFile.FieldType.long)).before args0 about1 = true := code_word (m := ⟨3, 3⟩) (meth := k3m3) (c := k3c3) (by decide +kernel) rfl rfl rfl (by decide +kernel)
set_option maxRecDepth 65536 in
theorem w_c13 : (Jvm.Cond.code ({ cls := "com/example/pufferfish/pufferfish/pool/PoolTally", name := "rejectedCount", desc := "()J" } : Jvm.MethodName) prog_17_method_13_code (1 : Nat) (Option.some Jvm.ClassFile.FieldType.long)).before args0 about1 = true := code_word (m := ⟨3, 6⟩) (meth := k3m6) (c := k3c6) (by decide +kernel) rfl rfl rfl (by decide +kernel)
set_option maxRecDepth 65536 in
theorem w_c14 : (Jvm.Cond.code ({ cls := "com/example/pufferfish/pufferfish/pool/PoolTally", name := "rejectedAtShutdownCount", desc := "()J" } : Jvm.MethodName) prog_17_method_14_code (1 : Nat) (Option.some Jvm.ClassFile.FieldType.long)).before args0 about1 = true := code_word (m := ⟨3, 7⟩) (meth := k3m7) (c := k3c7) (by decide +kernel) rfl rfl rfl (by decide +kernel)
set_option maxRecDepth 65536 in
theorem w_c15 : (Jvm.Cond.code ({ cls := "com/example/pufferfish/pufferfish/pool/PoolTally", name := "largestPoolSize", desc := "()I" } : Jvm.MethodName) prog_17_method_9_code (1 : Nat) (Option.some Jvm.ClassFile.FieldType.int)).before args0 about1 = true := code_word (m := ⟨3, 2⟩) (meth := k3m2) (c := k3c2) (by decide +kernel) rfl rfl rfl (by decide +kernel)
def codes1 : List Jvm.Cond := [Jvm.Cond.code x code maxLocals ret, Jvm.Cond.code ({ cls := "com/example/pufferfish/pufferfish/pool/PoolTally", name := "<init>", desc := "()V" } : Jvm.MethodName) prog_17_method_1_code (1 : Nat) (Option.none : Option Jvm.ClassFile.FieldType), Jvm.Cond.code ({ cls := "com/example/pufferfish/pufferfish/pool/LeadingPadding", name := "<init>", desc := "()V" } : Jvm.MethodName) prog_10_method_1_code (1 : Nat) (Option.none : Option Jvm.ClassFile.FieldType), Jvm.Cond.code ({ cls := "java/lang/Object", name := "<init>", desc := "()V" } : Jvm.MethodName) object_method_1_code (1 : Nat) (Option.none : Option Jvm.ClassFile.FieldType), Jvm.Cond.code ({ cls := "com/example/pufferfish/pufferfish/pool/PoolTally$TimeSum", name := "<init>", desc := "()V" } : Jvm.MethodName) prog_18_method_1_code (1 : Nat) (Option.none : Option Jvm.ClassFile.FieldType), Jvm.Cond.code ({ cls := "com/example/pufferfish/pufferfish/pool/PoolTally", name := "taskEnded", desc := "(ZZJ)V" } : Jvm.MethodName) prog_17_method_6_code (5 : Nat) (Option.none : Option Jvm.ClassFile.FieldType), Jvm.Cond.code ({ cls := "com/example/pufferfish/pufferfish/pool/PoolTally$TimeSum", name := "add", desc := "(J)V" } : Jvm.MethodName) prog_18_method_2_code (5 : Nat) (Option.none : Option Jvm.ClassFile.FieldType), Jvm.Cond.code ({ cls := "java/lang/Math", name := "max", desc := "(JJ)J" } : Jvm.MethodName) jdk_29_method_66_code (4 : Nat) (Option.some Jvm.ClassFile.FieldType.long), Jvm.Cond.code ({ cls := "com/example/pufferfish/pufferfish/pool/PoolTally$TimeSum", name := "addNanos", desc := "(J)V" } : Jvm.MethodName) prog_18_method_4_code (3 : Nat) (Option.none : Option Jvm.ClassFile.FieldType), Jvm.Cond.code ({ cls := "com/example/pufferfish/pufferfish/pool/PoolTallyTaskEndedPinLaw", name := "one", desc := "(Z)J" } : Jvm.MethodName) method_2_code (1 : Nat) (Option.some Jvm.ClassFile.FieldType.long), Jvm.Cond.code ({ cls := "com/example/pufferfish/pufferfish/pool/PoolTally", name := "completedCount", desc := "()J" } : Jvm.MethodName) prog_17_method_11_code (1 : Nat) (Option.some Jvm.ClassFile.FieldType.long), Jvm.Cond.code ({ cls := "com/example/pufferfish/pufferfish/pool/PoolTally", name := "failedCount", desc := "()J" } : Jvm.MethodName) prog_17_method_12_code (1 : Nat) (Option.some Jvm.ClassFile.FieldType.long), Jvm.Cond.code ({ cls := "com/example/pufferfish/pufferfish/pool/PoolTally", name := "submittedCount", desc := "()J" } : Jvm.MethodName) prog_17_method_10_code (1 : Nat) (Option.some Jvm.ClassFile.FieldType.long), Jvm.Cond.code ({ cls := "com/example/pufferfish/pufferfish/pool/PoolTally", name := "rejectedCount", desc := "()J" } : Jvm.MethodName) prog_17_method_13_code (1 : Nat) (Option.some Jvm.ClassFile.FieldType.long), Jvm.Cond.code ({ cls := "com/example/pufferfish/pufferfish/pool/PoolTally", name := "rejectedAtShutdownCount", desc := "()J" } : Jvm.MethodName) prog_17_method_14_code (1 : Nat) (Option.some Jvm.ClassFile.FieldType.long), Jvm.Cond.code ({ cls := "com/example/pufferfish/pufferfish/pool/PoolTally", name := "largestPoolSize", desc := "()I" } : Jvm.MethodName) prog_17_method_9_code (1 : Nat) (Option.some Jvm.ClassFile.FieldType.int)]
set_option maxRecDepth 65536 in
theorem codes_eq : words1.filter isCode = codes1 := rfl
theorem w_codes : ∀ c ∈ words1.filter isCode, c.before args0 about1 = true := by
  rw [codes_eq]
  intro c hc
  simp only [codes1, List.mem_cons, List.not_mem_nil, or_false] at hc
  rcases hc with rfl | rfl | rfl | rfl | rfl | rfl | rfl | rfl | rfl | rfl | rfl | rfl | rfl | rfl | rfl | rfl
  · exact w_c0
  · exact w_c1
  · exact w_c2
  · exact w_c3
  · exact w_c4
  · exact w_c5
  · exact w_c6
  · exact w_c7
  · exact w_c8
  · exact w_c9
  · exact w_c10
  · exact w_c11
  · exact w_c12
  · exact w_c13
  · exact w_c14
  · exact w_c15
set_option maxRecDepth 65536 in
theorem w_t1 : (words1.take 24).all (fun c => isCode c || c.before args0 about1) = true := by decide +kernel
set_option maxRecDepth 65536 in
theorem w_t2 : ((words1.drop 24).take 24).all (fun c => isCode c || c.before args0 about1) = true := by decide +kernel
set_option maxRecDepth 65536 in
theorem w_t3 : (((words1.drop 24).drop 24).take 24).all (fun c => isCode c || c.before args0 about1) = true := by decide +kernel
set_option maxRecDepth 65536 in
theorem w_t4 : ((((words1.drop 24).drop 24).drop 24).take 24).all (fun c => isCode c || c.before args0 about1) = true := by decide +kernel
set_option maxRecDepth 65536 in
theorem w_t5 : ((((words1.drop 24).drop 24).drop 24).drop 24).all (fun c => isCode c || c.before args0 about1) = true := by decide +kernel
theorem w_tables : (allAtoms (Jvm.Cond.code x code maxLocals ret :: tables_1)).before args0 about1 = true := by
  rw [allAtoms_all]
  show words1.all (fun c => c.before args0 about1) = true
  refine all_split ?_ w_codes
  rw [← List.take_append_drop 24 words1, List.all_append, w_t1, ← List.take_append_drop 24 (words1.drop 24), List.all_append, w_t2, ← List.take_append_drop 24 ((words1.drop 24).drop 24), List.all_append, w_t3, ← List.take_append_drop 24 (((words1.drop 24).drop 24).drop 24), List.all_append, w_t4, w_t5]
  rfl
set_option maxRecDepth 65536 in
theorem w_case : (Jvm.Cond.and given_1 narrow_1).before args0 about1 = true := by decide +kernel
theorem w_applies : (headSpec (Jvm.Cond.code x code maxLocals ret :: tables_1) room_1).applies x e0.platform about1 = true :=
  (Spec.applies_iff w_frames).mpr ⟨w_running, w_runnable, w_alone, w_named, w_hears, w_ripe, w_room, w_tables⟩
theorem atStart : AtStart classFile x code maxLocals ret World_1 tables_1 room_1 Calls_1 rest_1 Pre_1 launch0 p0 e0 about1 theMethod args0 below0 :=
  ⟨lists_1, trivial, launch0.admits_env _ _ _, launch0.least_env, fairChoices_fair.cas, fairChoices_fair.clock, w_frames, w_args, w_heap, w_applies, trivial, trivial, w_case⟩
end start1
theorem witness_1 : WitnessClaimed_1 := ⟨start1.p0, start1.e0, start1.about1, start1.theMethod, start1.args0, start1.below0, start1.atStart⟩
end Jvm.Pilot.@@N@@
