import JvmDerived
import JvmDerived.Pilot.@@N@@Statement
import JvmDerived.Pilot.@@N@@Code
set_option linter.unusedVariables false
set_option linter.unusedSimpArgs false
@@BLOCK:NumsL.lean.txt@@
namespace Jvm.Pilot.@@N@@
open Jvm Jvm.ClassFile Sem Op Lib Jvm.Free Jvm.Stand Jvm.LawKit Jvm.RoadKit Bundle Jvm.Pilot.@@N@@.Jvm.D
section OwnLayer
/-- the surroundings of a walk: what stays the same from step to step -/
def Cx (p : Program) (s : State) (m : MethodId) (meth : Method) (c : Code) (Z : State) (own : String) (bs : ByteArray) (mx : Nat) (rt : Option FieldType) (nm : String) : Prop :=
  p.tables.exec = Jvm.exec ∧ c.code = bs ∧ c.maxLocals = mx ∧ Z.Warmed39 s.vm ∧ s.vm.findClass own = some m.cls ∧ meth.sig.returnType = rt ∧ meth.locks = false ∧ meth.name = nm
/-- wherever the walk stands with heap h and top frame g, it comes to its end, and Q holds there -/
def Go (p : Program) (l : Launch) (e : Env) (R : Room) (s : State) (m : MethodId) (args : Array Value) (below : List Frame) (meth : Method) (c : Code) (n0 : Nat) (Q : Option Value → Heap → Prop) (K N : Nat) (h : Heap) (ce sl : Nat) (g : JFrame) : Prop :=
  ∀ (T : State) (locs : List Loc), Stand p l e R s m args below meth c T locs ce sl → T.heap = h → Fr n0 locs →
    ∃ s₂ o, Steps p.tables e below (T.setTop g) s₂ ∧ s₂.status = .running ∧ Ended s₂ below o ∧ ∃ v L, o = .returned v ∧ (Q v s₂.heap ∧ Fr n0 L) ∧ FrameEnd s o s₂ L K N
/-- a method's contract, for given arguments and a given heap -/
def Sat (l : Launch) (Z : State) (y : MethodName) (bs : ByteArray) (mx : Nat) (rt : Option FieldType) (rm : Room) (as : List Value) (h0 : Heap) (n0 : Nat) (Q : Option Value → Heap → Prop) : Prop :=
  ∀ ws : List Jvm.Cond, MetFree l y (head1 (Jvm.Cond.code y bs mx rt :: ws) rm) (fun a U => a = as.toArray ∧ Z.Warmed39 U.vm ∧ U.heap = h0) (fun _ _ _ _ _ => True) (fun _ U o U' => ∃ v L, o = .returned v ∧ (Q v U'.heap ∧ Fr n0 L) ∧ FrameEnd U o U' L rm.cells rm.slots)
def RV (P : Value → Heap → Prop) : Option Value → Heap → Prop := fun v h => ∃ r, v = some r ∧ P r h
def RN (P : Heap → Prop) : Option Value → Heap → Prop := fun v h => v = none ∧ P h
def wt (st : List Value) : Nat := (st.map fun v => v.category).sum
def bi (P : Prop) [Decidable P] : Int32 := if P then 1 else 0
theorem bi_t {P : Prop} [Decidable P] (h : P) : bi P = 1 := if_pos h
theorem bi_f {P : Prop} [Decidable P] (h : ¬ P) : bi P = 0 := if_neg h
theorem bi1 {P : Prop} [Decidable P] (h : P) : (1 : Int32) = bi P := (if_pos h).symm
theorem bi0 {P : Prop} [Decidable P] (h : ¬ P) : (0 : Int32) = bi P := (if_neg h).symm
theorem bi_congr {P P' : Prop} [Decidable P] [Decidable P'] (h : P ↔ P') : bi P = bi P' := by
  by_cases q : P
  · rw [bi_t q, bi_t (h.mp q)]
  · rw [bi_f q, bi_f fun z => q (h.mpr z)]
theorem bi_nar (P : Prop) [Decidable P] : nar .boolean (bi P) = bi P := by
  by_cases q : P
  · rw [bi_t q]; rfl
  · rw [bi_f q]; rfl
theorem bi_inj {P P' : Prop} [Decidable P] [Decidable P'] (h : bi P = bi P') : P ↔ P' := by
  by_cases q : P <;> by_cases q' : P' <;> simp_all [bi]
theorem bi_narrow (P : Prop) [Decidable P] : narrow .boolean (.int (bi P)) = .int (bi P) := by
  by_cases q : P
  · rw [bi_t q]; rfl
  · rw [bi_f q]; rfl
theorem bi_fits (P : Prop) [Decidable P] : fits .boolean (.int (bi P)) = true := by
  by_cases q : P
  · rw [bi_t q]; rfl
  · rw [bi_f q]; rfl
theorem bi_toInt (P : Prop) [Decidable P] : (bi P).toInt = if P then 1 else 0 := by
  by_cases q : P
  · rw [bi_t q, if_pos q]; rfl
  · rw [bi_f q, if_neg q]; rfl
theorem own_add_t {P : Prop} [Decidable P] (n : Int32) (h : P) : n + 1 = n + bi P := by rw [bi_t h]
theorem own_add_f {P : Prop} [Decidable P] (n : Int32) (h : ¬ P) : n = n + bi P := by rw [bi_f h, Int32.add_zero]
theorem own_narrow_arr {v : Value} {t : FieldType} (h : v.isRef = true) : narrow (.array t) v = v := by
  cases v <;> first | rfl | simp [Value.isRef] at h
theorem own_fits_arr {v : Value} {t : FieldType} (h : v.isRef = true) : fits (.array t) v = true := by
  cases v <;> first | rfl | simp [Value.isRef] at h
theorem own_bb (x : Int32) : x.toInt8.toInt32.toInt8.toInt32 = x.toInt8.toInt32 := by simp
theorem own_ne_new {h : Heap} {a b : Addr} (q : b < h.size) (g : h.size = a) : b ≠ a := Nat.ne_of_lt (g ▸ q)
theorem own_ge {h : Heap} {a : Addr} {n : Nat} (q : n ≤ h.size) (g : h.size = a) : n ≤ a := g ▸ q
theorem int_eq {x y : Int32} (h : x.toInt = y.toInt) : x = y := Int32.toInt_inj.mp h
theorem long_eq {x y : Int64} (h : x.toInt = y.toInt) : x = y := Int64.toInt_inj.mp h
section Walk
variable {p : Program} {l : Launch} {e : Env} {R : Room} {s : State} {m : MethodId} {args : Array Value} {below : List Frame} {meth : Method} {c : Code} {Z : State} {a0 : Array Value} {own : String} {bs : ByteArray} {mx : Nat} {rt : Option FieldType} {nm : String} {n0 : Nat} {Q : Option Value → Heap → Prop} {K N : Nat} {h : Heap} {ce sl : Nat} {pc pc' : Nat} {Ls Ls' : Array Slot} {st : List Value} {g g' : JFrame}
theorem Go.step (H : ∀ (T : State), At T m c below → ∀ target, Steps p.tables e below (T.setTop g') target → Steps p.tables e below (T.setTop g) target) (hr : Go p l e R s m args below meth c n0 Q K N h ce sl g') : Go p l e R s m args below meth c n0 Q K N h ce sl g := fun T locs X eT Nn => by
  obtain ⟨s₂, o, h1, r⟩ := hr T locs X eT Nn
  exact ⟨s₂, o, H T X.here _ h1, r⟩
theorem Go.stepX (H : ∀ (T : State) (locs : List Loc), Stand p l e R s m args below meth c T locs ce sl → T.heap = h → ∀ target, Steps p.tables e below (T.setTop g') target → Steps p.tables e below (T.setTop g) target) (hr : Go p l e R s m args below meth c n0 Q K N h ce sl g') : Go p l e R s m args below meth c n0 Q K N h ce sl g := fun T locs X eT Nn => by
  obtain ⟨s₂, o, h1, r⟩ := hr T locs X eT Nn
  exact ⟨s₂, o, H T locs X eT _ h1, r⟩
theorem Go.more {ce' sl' : Nat} (hc : ce ≤ ce') (hs : sl ≤ sl') (hr : Go p l e R s m args below meth c n0 Q K N h ce' sl' g) : Go p l e R s m args below meth c n0 Q K N h ce sl g := fun T locs X eT Nn => hr T locs (X.more hc hs) eT Nn
theorem go_iloadN (C : Cx p s m meth c Z own bs mx rt nm) {k : Fin 4} {v : Int32} (hd : decode bs pc = .ok (.iload_n k, 1)) (hp : pc + 1 = pc') (hl : Ls[k.val]? = some (.val (.int v))) (hr : Go p l e R s m args below meth c n0 Q K N h ce sl (mkF m pc' Ls (.int v :: st))) : Go p l e R s m args below meth c n0 Q K N h ce sl (mkF m pc Ls st) := by
  subst hp
  exact Go.step (fun T A _ q => XS.iloadN A C.1 rfl (hb C.2.1 hd) hl q) hr
theorem go_iload (C : Cx p s m meth c Z own bs mx rt nm) {k : Nat} {v : Int32} (hd : decode bs pc = .ok (.iload k, 2)) (hp : pc + 2 = pc') (hl : Ls[k]? = some (.val (.int v))) (hr : Go p l e R s m args below meth c n0 Q K N h ce sl (mkF m pc' Ls (.int v :: st))) : Go p l e R s m args below meth c n0 Q K N h ce sl (mkF m pc Ls st) := by
  subst hp
  exact Go.step (fun T A _ q => XS.iload A C.1 rfl (hb C.2.1 hd) hl q) hr
theorem go_lloadN (C : Cx p s m meth c Z own bs mx rt nm) {k : Fin 4} {v : Int64} (hd : decode bs pc = .ok (.lload_n k, 1)) (hp : pc + 1 = pc') (hl : Ls[k.val]? = some (.val (.long v))) (hr : Go p l e R s m args below meth c n0 Q K N h ce sl (mkF m pc' Ls (.long v :: st))) : Go p l e R s m args below meth c n0 Q K N h ce sl (mkF m pc Ls st) := by
  subst hp
  exact Go.step (fun T A _ q => XT.lloadN A C.1 rfl (hb C.2.1 hd) hl q) hr
theorem go_lload (C : Cx p s m meth c Z own bs mx rt nm) {k : Nat} {v : Int64} (hd : decode bs pc = .ok (.lload k, 2)) (hp : pc + 2 = pc') (hl : Ls[k]? = some (.val (.long v))) (hr : Go p l e R s m args below meth c n0 Q K N h ce sl (mkF m pc' Ls (.long v :: st))) : Go p l e R s m args below meth c n0 Q K N h ce sl (mkF m pc Ls st) := by
  subst hp
  exact Go.step (fun T A _ q => XT.lload A C.1 rfl (hb C.2.1 hd) hl q) hr
theorem go_aloadN (C : Cx p s m meth c Z own bs mx rt nm) {k : Fin 4} {v : Value} (hd : decode bs pc = .ok (.aload_n k, 1)) (hp : pc + 1 = pc') (hl : Ls[k.val]? = some (.val v)) (hv : v.isRef = true) (hr : Go p l e R s m args below meth c n0 Q K N h ce sl (mkF m pc' Ls (v :: st))) : Go p l e R s m args below meth c n0 Q K N h ce sl (mkF m pc Ls st) := by
  subst hp
  exact Go.step (fun T A _ q => XS.aloadN A C.1 rfl (hb C.2.1 hd) hl hv q) hr
theorem go_aload (C : Cx p s m meth c Z own bs mx rt nm) {k : Nat} {v : Value} (hd : decode bs pc = .ok (.aload k, 2)) (hp : pc + 2 = pc') (hl : Ls[k]? = some (.val v)) (hv : v.isRef = true) (hr : Go p l e R s m args below meth c n0 Q K N h ce sl (mkF m pc' Ls (v :: st))) : Go p l e R s m args below meth c n0 Q K N h ce sl (mkF m pc Ls st) := by
  subst hp
  exact Go.step (fun T A _ q => XS.aload A C.1 rfl (hb C.2.1 hd) hl hv q) hr
theorem go_istoreN (C : Cx p s m meth c Z own bs mx rt nm) {k : Fin 4} {v : Int32} (hd : decode bs pc = .ok (.istore_n k, 1)) (hp : pc + 1 = pc') (hl : storeLocals Ls k.val (.int v) = some Ls') (hr : Go p l e R s m args below meth c n0 Q K N h ce sl (mkF m pc' Ls' st)) : Go p l e R s m args below meth c n0 Q K N h ce sl (mkF m pc Ls (.int v :: st)) := by
  subst hp
  exact Go.step (fun T A _ q => XS.istoreN A C.1 rfl (hb C.2.1 hd) rfl hl q) hr
theorem go_istore (C : Cx p s m meth c Z own bs mx rt nm) {k : Nat} {v : Int32} (hd : decode bs pc = .ok (.istore k, 2)) (hp : pc + 2 = pc') (hl : storeLocals Ls k (.int v) = some Ls') (hr : Go p l e R s m args below meth c n0 Q K N h ce sl (mkF m pc' Ls' st)) : Go p l e R s m args below meth c n0 Q K N h ce sl (mkF m pc Ls (.int v :: st)) := by
  subst hp
  exact Go.step (fun T A _ q => XS.istore A C.1 rfl (hb C.2.1 hd) rfl hl q) hr
theorem go_lstoreN (C : Cx p s m meth c Z own bs mx rt nm) {k : Fin 4} {v : Int64} (hd : decode bs pc = .ok (.lstore_n k, 1)) (hp : pc + 1 = pc') (hl : storeLocals Ls k.val (.long v) = some Ls') (hr : Go p l e R s m args below meth c n0 Q K N h ce sl (mkF m pc' Ls' st)) : Go p l e R s m args below meth c n0 Q K N h ce sl (mkF m pc Ls (.long v :: st)) := by
  subst hp
  exact Go.step (fun T A _ q => XT.lstoreN A C.1 rfl (hb C.2.1 hd) rfl hl q) hr
theorem go_lstore (C : Cx p s m meth c Z own bs mx rt nm) {k : Nat} {v : Int64} (hd : decode bs pc = .ok (.lstore k, 2)) (hp : pc + 2 = pc') (hl : storeLocals Ls k (.long v) = some Ls') (hr : Go p l e R s m args below meth c n0 Q K N h ce sl (mkF m pc' Ls' st)) : Go p l e R s m args below meth c n0 Q K N h ce sl (mkF m pc Ls (.long v :: st)) := by
  subst hp
  exact Go.step (fun T A _ q => XT.lstore A C.1 rfl (hb C.2.1 hd) rfl hl q) hr
theorem go_astoreN (C : Cx p s m meth c Z own bs mx rt nm) {k : Fin 4} {v : Value} (hd : decode bs pc = .ok (.astore_n k, 1)) (hp : pc + 1 = pc') (hv : v.isRef = true) (hl : storeLocals Ls k.val v = some Ls') (hr : Go p l e R s m args below meth c n0 Q K N h ce sl (mkF m pc' Ls' st)) : Go p l e R s m args below meth c n0 Q K N h ce sl (mkF m pc Ls (v :: st)) := by
  subst hp
  exact Go.step (fun T A _ q => XS.astoreN A C.1 rfl (hb C.2.1 hd) rfl hv hl q) hr
theorem go_astore (C : Cx p s m meth c Z own bs mx rt nm) {k : Nat} {v : Value} (hd : decode bs pc = .ok (.astore k, 2)) (hp : pc + 2 = pc') (hv : v.isRef = true) (hl : storeLocals Ls k v = some Ls') (hr : Go p l e R s m args below meth c n0 Q K N h ce sl (mkF m pc' Ls' st)) : Go p l e R s m args below meth c n0 Q K N h ce sl (mkF m pc Ls (v :: st)) := by
  subst hp
  exact Go.step (fun T A _ q => XS.astore A C.1 rfl (hb C.2.1 hd) rfl hv hl q) hr
theorem go_istoreS (C : Cx p s m meth c Z own bs mx rt nm) {k : Nat} {v : Int32} {o : Slot} (hd : decode bs pc = .ok (.istore k, 2)) (hp : pc + 2 = pc') (hold : Ls[k]? = some o) (ho : One o) (hL : Ls.setIfInBounds k (.val (.int v)) = Ls') (hr : Go p l e R s m args below meth c n0 Q K N h ce sl (mkF m pc' Ls' st)) : Go p l e R s m args below meth c n0 Q K N h ce sl (mkF m pc Ls (.int v :: st)) := by
  subst hp hL
  exact Go.step (fun T A _ q => XS.istoreS A C.1 rfl (hb C.2.1 hd) rfl hold ho q) hr
theorem go_istoreNS (C : Cx p s m meth c Z own bs mx rt nm) {k : Fin 4} {v : Int32} {o : Slot} (hd : decode bs pc = .ok (.istore_n k, 1)) (hp : pc + 1 = pc') (hold : Ls[k.val]? = some o) (ho : One o) (hL : Ls.setIfInBounds k.val (.val (.int v)) = Ls') (hr : Go p l e R s m args below meth c n0 Q K N h ce sl (mkF m pc' Ls' st)) : Go p l e R s m args below meth c n0 Q K N h ce sl (mkF m pc Ls (.int v :: st)) := by
  subst hp hL
  exact Go.step (fun T A _ q => XS.istoreNS A C.1 rfl (hb C.2.1 hd) rfl hold ho q) hr
theorem go_iconst (C : Cx p s m meth c Z own bs mx rt nm) {i : Int} (v : Int32) (hd : decode bs pc = .ok (.iconst i, 1)) (hp : pc + 1 = pc') (hv : Int32.ofInt i = v) (hr : Go p l e R s m args below meth c n0 Q K N h ce sl (mkF m pc' Ls (.int v :: st))) : Go p l e R s m args below meth c n0 Q K N h ce sl (mkF m pc Ls st) := by
  subst hp
  exact Go.step (fun T A _ q => XT.iconstV A C.1 rfl v (hb C.2.1 hd) hv q) hr
theorem go_bipush (C : Cx p s m meth c Z own bs mx rt nm) {i : Int} (v : Int32) (hd : decode bs pc = .ok (.bipush i, 2)) (hp : pc + 2 = pc') (hv : (Int8.ofInt i).toInt32 = v) (hr : Go p l e R s m args below meth c n0 Q K N h ce sl (mkF m pc' Ls (.int v :: st))) : Go p l e R s m args below meth c n0 Q K N h ce sl (mkF m pc Ls st) := by
  subst hp
  exact Go.step (fun T A _ q => XT.bipushV A C.1 rfl v (hb C.2.1 hd) hv q) hr
theorem go_sipush (C : Cx p s m meth c Z own bs mx rt nm) {i : Int} (v : Int32) (hd : decode bs pc = .ok (.sipush i, 3)) (hp : pc + 3 = pc') (hv : (Int16.ofInt i).toInt32 = v) (hr : Go p l e R s m args below meth c n0 Q K N h ce sl (mkF m pc' Ls (.int v :: st))) : Go p l e R s m args below meth c n0 Q K N h ce sl (mkF m pc Ls st) := by
  subst hp
  exact Go.step (fun T A _ q => XT.sipushV A C.1 rfl v (hb C.2.1 hd) hv q) hr
theorem go_lconst (C : Cx p s m meth c Z own bs mx rt nm) {k : Fin 2} (v : Int64) (hd : decode bs pc = .ok (.lconst k, 1)) (hp : pc + 1 = pc') (hv : Int64.ofNat k = v) (hr : Go p l e R s m args below meth c n0 Q K N h ce sl (mkF m pc' Ls (.long v :: st))) : Go p l e R s m args below meth c n0 Q K N h ce sl (mkF m pc Ls st) := by
  subst hp
  exact Go.step (fun T A _ q => XT.lconstV A C.1 rfl v (hb C.2.1 hd) hv q) hr
theorem go_aconst_null (C : Cx p s m meth c Z own bs mx rt nm)  (hd : decode bs pc = .ok (.aconst_null, 1)) (hp : pc + 1 = pc') (hr : Go p l e R s m args below meth c n0 Q K N h ce sl (mkF m pc' Ls (.null :: st))) : Go p l e R s m args below meth c n0 Q K N h ce sl (mkF m pc Ls st) := by
  subst hp
  exact Go.step (fun T A _ q => XS.aconstNull A C.1 rfl (hb C.2.1 hd)  q) hr
theorem go_iinc (C : Cx p s m meth c Z own bs mx rt nm) {k : Nat} {i : Int} {x : Int32} (v : Int32) (hd : decode bs pc = .ok (.iinc k i, 3)) (hp : pc + 3 = pc') (hv : Int32.ofInt i = v) (hl : Ls[k]? = some (.val (.int x))) (hl' : storeLocals Ls k (.int (x + v)) = some Ls') (hr : Go p l e R s m args below meth c n0 Q K N h ce sl (mkF m pc' Ls' st)) : Go p l e R s m args below meth c n0 Q K N h ce sl (mkF m pc Ls st) := by
  subst hp
  exact Go.step (fun T A _ q => XT.iincV A C.1 rfl v (hb C.2.1 hd) hv hl hl' q) hr
theorem go_iadd (C : Cx p s m meth c Z own bs mx rt nm) {x y : Int32} (hd : decode bs pc = .ok (.iadd, 1)) (hp : pc + 1 = pc') (hr : Go p l e R s m args below meth c n0 Q K N h ce sl (mkF m pc' Ls (.int (x + y) :: st))) : Go p l e R s m args below meth c n0 Q K N h ce sl (mkF m pc Ls (.int y :: .int x :: st)) := by
  subst hp
  exact Go.step (fun T A _ q => XS.iadd A C.1 rfl (hb C.2.1 hd) rfl q) hr
theorem go_isub (C : Cx p s m meth c Z own bs mx rt nm) {x y : Int32} (hd : decode bs pc = .ok (.isub, 1)) (hp : pc + 1 = pc') (hr : Go p l e R s m args below meth c n0 Q K N h ce sl (mkF m pc' Ls (.int (x - y) :: st))) : Go p l e R s m args below meth c n0 Q K N h ce sl (mkF m pc Ls (.int y :: .int x :: st)) := by
  subst hp
  exact Go.step (fun T A _ q => XS.isub A C.1 rfl (hb C.2.1 hd) rfl q) hr
theorem go_iand (C : Cx p s m meth c Z own bs mx rt nm) {x y : Int32} (hd : decode bs pc = .ok (.iand, 1)) (hp : pc + 1 = pc') (hr : Go p l e R s m args below meth c n0 Q K N h ce sl (mkF m pc' Ls (.int (x &&& y) :: st))) : Go p l e R s m args below meth c n0 Q K N h ce sl (mkF m pc Ls (.int y :: .int x :: st)) := by
  subst hp
  exact Go.step (fun T A _ q => XS.iand A C.1 rfl (hb C.2.1 hd) rfl q) hr
theorem go_imul (C : Cx p s m meth c Z own bs mx rt nm) {x y : Int32} (hd : decode bs pc = .ok (.imul, 1)) (hp : pc + 1 = pc') (hr : Go p l e R s m args below meth c n0 Q K N h ce sl (mkF m pc' Ls (.int (x * y) :: st))) : Go p l e R s m args below meth c n0 Q K N h ce sl (mkF m pc Ls (.int y :: .int x :: st)) := by
  subst hp
  exact Go.step (fun T A _ q => XS.imul A C.1 rfl (hb C.2.1 hd) rfl q) hr
theorem go_ior (C : Cx p s m meth c Z own bs mx rt nm) {x y : Int32} (hd : decode bs pc = .ok (.ior, 1)) (hp : pc + 1 = pc') (hr : Go p l e R s m args below meth c n0 Q K N h ce sl (mkF m pc' Ls (.int (x ||| y) :: st))) : Go p l e R s m args below meth c n0 Q K N h ce sl (mkF m pc Ls (.int y :: .int x :: st)) := by
  subst hp
  exact Go.step (fun T A _ q => XT.ior A C.1 rfl (hb C.2.1 hd) rfl q) hr
theorem go_ixor (C : Cx p s m meth c Z own bs mx rt nm) {x y : Int32} (hd : decode bs pc = .ok (.ixor, 1)) (hp : pc + 1 = pc') (hr : Go p l e R s m args below meth c n0 Q K N h ce sl (mkF m pc' Ls (.int (x ^^^ y) :: st))) : Go p l e R s m args below meth c n0 Q K N h ce sl (mkF m pc Ls (.int y :: .int x :: st)) := by
  subst hp
  exact Go.step (fun T A _ q => XT.ixor A C.1 rfl (hb C.2.1 hd) rfl q) hr
theorem go_ishl (C : Cx p s m meth c Z own bs mx rt nm) {x y : Int32} (hd : decode bs pc = .ok (.ishl, 1)) (hp : pc + 1 = pc') (hr : Go p l e R s m args below meth c n0 Q K N h ce sl (mkF m pc' Ls (.int (x <<< (y &&& 31)) :: st))) : Go p l e R s m args below meth c n0 Q K N h ce sl (mkF m pc Ls (.int y :: .int x :: st)) := by
  subst hp
  exact Go.step (fun T A _ q => XT.ishl A C.1 rfl (hb C.2.1 hd) rfl q) hr
theorem go_ishr (C : Cx p s m meth c Z own bs mx rt nm) {x y : Int32} (hd : decode bs pc = .ok (.ishr, 1)) (hp : pc + 1 = pc') (hr : Go p l e R s m args below meth c n0 Q K N h ce sl (mkF m pc' Ls (.int (x >>> (y &&& 31)) :: st))) : Go p l e R s m args below meth c n0 Q K N h ce sl (mkF m pc Ls (.int y :: .int x :: st)) := by
  subst hp
  exact Go.step (fun T A _ q => XT.ishr A C.1 rfl (hb C.2.1 hd) rfl q) hr
theorem go_iushr (C : Cx p s m meth c Z own bs mx rt nm) {x y : Int32} (hd : decode bs pc = .ok (.iushr, 1)) (hp : pc + 1 = pc') (hr : Go p l e R s m args below meth c n0 Q K N h ce sl (mkF m pc' Ls (.int (XT.ushr x y) :: st))) : Go p l e R s m args below meth c n0 Q K N h ce sl (mkF m pc Ls (.int y :: .int x :: st)) := by
  subst hp
  exact Go.step (fun T A _ q => XT.iushr A C.1 rfl (hb C.2.1 hd) rfl q) hr
theorem go_ladd (C : Cx p s m meth c Z own bs mx rt nm) {x y : Int64} (hd : decode bs pc = .ok (.ladd, 1)) (hp : pc + 1 = pc') (hr : Go p l e R s m args below meth c n0 Q K N h ce sl (mkF m pc' Ls (.long (x + y) :: st))) : Go p l e R s m args below meth c n0 Q K N h ce sl (mkF m pc Ls (.long y :: .long x :: st)) := by
  subst hp
  exact Go.step (fun T A _ q => XT.ladd A C.1 rfl (hb C.2.1 hd) rfl q) hr
theorem go_lsub (C : Cx p s m meth c Z own bs mx rt nm) {x y : Int64} (hd : decode bs pc = .ok (.lsub, 1)) (hp : pc + 1 = pc') (hr : Go p l e R s m args below meth c n0 Q K N h ce sl (mkF m pc' Ls (.long (x - y) :: st))) : Go p l e R s m args below meth c n0 Q K N h ce sl (mkF m pc Ls (.long y :: .long x :: st)) := by
  subst hp
  exact Go.step (fun T A _ q => XT.lsub A C.1 rfl (hb C.2.1 hd) rfl q) hr
theorem go_land (C : Cx p s m meth c Z own bs mx rt nm) {x y : Int64} (hd : decode bs pc = .ok (.land, 1)) (hp : pc + 1 = pc') (hr : Go p l e R s m args below meth c n0 Q K N h ce sl (mkF m pc' Ls (.long (x &&& y) :: st))) : Go p l e R s m args below meth c n0 Q K N h ce sl (mkF m pc Ls (.long y :: .long x :: st)) := by
  subst hp
  exact Go.step (fun T A _ q => XT.land A C.1 rfl (hb C.2.1 hd) rfl q) hr
theorem go_lmul (C : Cx p s m meth c Z own bs mx rt nm) {x y : Int64} (hd : decode bs pc = .ok (.lmul, 1)) (hp : pc + 1 = pc') (hr : Go p l e R s m args below meth c n0 Q K N h ce sl (mkF m pc' Ls (.long (x * y) :: st))) : Go p l e R s m args below meth c n0 Q K N h ce sl (mkF m pc Ls (.long y :: .long x :: st)) := by
  subst hp
  exact Go.step (fun T A _ q => XT.lmul A C.1 rfl (hb C.2.1 hd) rfl q) hr
theorem go_lor (C : Cx p s m meth c Z own bs mx rt nm) {x y : Int64} (hd : decode bs pc = .ok (.lor, 1)) (hp : pc + 1 = pc') (hr : Go p l e R s m args below meth c n0 Q K N h ce sl (mkF m pc' Ls (.long (x ||| y) :: st))) : Go p l e R s m args below meth c n0 Q K N h ce sl (mkF m pc Ls (.long y :: .long x :: st)) := by
  subst hp
  exact Go.step (fun T A _ q => XT.lor A C.1 rfl (hb C.2.1 hd) rfl q) hr
theorem go_lxor (C : Cx p s m meth c Z own bs mx rt nm) {x y : Int64} (hd : decode bs pc = .ok (.lxor, 1)) (hp : pc + 1 = pc') (hr : Go p l e R s m args below meth c n0 Q K N h ce sl (mkF m pc' Ls (.long (x ^^^ y) :: st))) : Go p l e R s m args below meth c n0 Q K N h ce sl (mkF m pc Ls (.long y :: .long x :: st)) := by
  subst hp
  exact Go.step (fun T A _ q => XT.lxor A C.1 rfl (hb C.2.1 hd) rfl q) hr
theorem go_idiv (C : Cx p s m meth c Z own bs mx rt nm) {x y : Int32} (hd : decode bs pc = .ok (.idiv, 1)) (hp : pc + 1 = pc') (hy : y ≠ 0) (hr : Go p l e R s m args below meth c n0 Q K N h ce sl (mkF m pc' Ls (.int (x / y) :: st))) : Go p l e R s m args below meth c n0 Q K N h ce sl (mkF m pc Ls (.int y :: .int x :: st)) := by
  subst hp
  exact Go.step (fun T A _ q => XS.idiv A C.1 rfl (hb C.2.1 hd) rfl hy q) hr
theorem go_irem (C : Cx p s m meth c Z own bs mx rt nm) {x y : Int32} (hd : decode bs pc = .ok (.irem, 1)) (hp : pc + 1 = pc') (hy : y ≠ 0) (hr : Go p l e R s m args below meth c n0 Q K N h ce sl (mkF m pc' Ls (.int (x % y) :: st))) : Go p l e R s m args below meth c n0 Q K N h ce sl (mkF m pc Ls (.int y :: .int x :: st)) := by
  subst hp
  exact Go.stepX (fun T locs X _ _ q => iremM X C.1 rfl (hb C.2.1 hd) rfl hy q) hr
theorem go_i2l (C : Cx p s m meth c Z own bs mx rt nm) {x : Int32} (hd : decode bs pc = .ok (.i2l, 1)) (hp : pc + 1 = pc') (hr : Go p l e R s m args below meth c n0 Q K N h ce sl (mkF m pc' Ls (.long x.toInt64 :: st))) : Go p l e R s m args below meth c n0 Q K N h ce sl (mkF m pc Ls (.int x :: st)) := by
  subst hp
  exact Go.step (fun T A _ q => XT.i2l A C.1 rfl (hb C.2.1 hd) rfl q) hr
theorem go_l2i (C : Cx p s m meth c Z own bs mx rt nm) {x : Int64} (hd : decode bs pc = .ok (.l2i, 1)) (hp : pc + 1 = pc') (hr : Go p l e R s m args below meth c n0 Q K N h ce sl (mkF m pc' Ls (.int x.toInt32 :: st))) : Go p l e R s m args below meth c n0 Q K N h ce sl (mkF m pc Ls (.long x :: st)) := by
  subst hp
  exact Go.step (fun T A _ q => XT.l2i A C.1 rfl (hb C.2.1 hd) rfl q) hr
theorem go_i2b (C : Cx p s m meth c Z own bs mx rt nm) {x : Int32} (hd : decode bs pc = .ok (.i2b, 1)) (hp : pc + 1 = pc') (hr : Go p l e R s m args below meth c n0 Q K N h ce sl (mkF m pc' Ls (.int x.toInt8.toInt32 :: st))) : Go p l e R s m args below meth c n0 Q K N h ce sl (mkF m pc Ls (.int x :: st)) := by
  subst hp
  exact Go.step (fun T A _ q => XT.i2b A C.1 rfl (hb C.2.1 hd) rfl q) hr
theorem go_i2c (C : Cx p s m meth c Z own bs mx rt nm) {x : Int32} (hd : decode bs pc = .ok (.i2c, 1)) (hp : pc + 1 = pc') (hr : Go p l e R s m args below meth c n0 Q K N h ce sl (mkF m pc' Ls (.int x.toUInt32.toUInt16.toUInt32.toInt32 :: st))) : Go p l e R s m args below meth c n0 Q K N h ce sl (mkF m pc Ls (.int x :: st)) := by
  subst hp
  exact Go.step (fun T A _ q => XT.i2c A C.1 rfl (hb C.2.1 hd) rfl q) hr
theorem go_ineg (C : Cx p s m meth c Z own bs mx rt nm) {x : Int32} (hd : decode bs pc = .ok (.ineg, 1)) (hp : pc + 1 = pc') (hr : Go p l e R s m args below meth c n0 Q K N h ce sl (mkF m pc' Ls (.int (-x) :: st))) : Go p l e R s m args below meth c n0 Q K N h ce sl (mkF m pc Ls (.int x :: st)) := by
  subst hp
  exact Go.step (fun T A _ q => XS.ineg A C.1 rfl (hb C.2.1 hd) rfl q) hr
theorem go_dup (C : Cx p s m meth c Z own bs mx rt nm) {v : Value} (hd : decode bs pc = .ok (.dup, 1)) (hp : pc + 1 = pc') (hc : v.category = 1) (hr : Go p l e R s m args below meth c n0 Q K N h ce sl (mkF m pc' Ls (v :: v :: st))) : Go p l e R s m args below meth c n0 Q K N h ce sl (mkF m pc Ls (v :: st)) := by
  subst hp
  exact Go.step (fun T A _ q => XS.dup A C.1 rfl (hb C.2.1 hd) rfl hc q) hr
theorem go_pop (C : Cx p s m meth c Z own bs mx rt nm) {v : Value} (hd : decode bs pc = .ok (.pop, 1)) (hp : pc + 1 = pc') (hc : v.category = 1) (hr : Go p l e R s m args below meth c n0 Q K N h ce sl (mkF m pc' Ls st)) : Go p l e R s m args below meth c n0 Q K N h ce sl (mkF m pc Ls (v :: st)) := by
  subst hp
  exact Go.step (fun T A _ q => XT.pop A C.1 rfl (hb C.2.1 hd) rfl hc q) hr
theorem go_dup2 (C : Cx p s m meth c Z own bs mx rt nm) {v w : Value} (hd : decode bs pc = .ok (.dup2, 1)) (hp : pc + 1 = pc') (hc : v.category = 1) (hc' : w.category = 1) (hr : Go p l e R s m args below meth c n0 Q K N h ce sl (mkF m pc' Ls (v :: w :: v :: w :: st))) : Go p l e R s m args below meth c n0 Q K N h ce sl (mkF m pc Ls (v :: w :: st)) := by
  subst hp
  exact Go.step (fun T A _ q => XT.dup2 A C.1 rfl (hb C.2.1 hd) rfl hc hc' q) hr
theorem go_dup_x1 (C : Cx p s m meth c Z own bs mx rt nm) {v w : Value} (hd : decode bs pc = .ok (.dup_x1, 1)) (hp : pc + 1 = pc') (hc : v.category = 1) (hc' : w.category = 1) (hr : Go p l e R s m args below meth c n0 Q K N h ce sl (mkF m pc' Ls (v :: w :: v :: st))) : Go p l e R s m args below meth c n0 Q K N h ce sl (mkF m pc Ls (v :: w :: st)) := by
  subst hp
  exact Go.step (fun T A _ q => XT.dupX1 A C.1 rfl (hb C.2.1 hd) rfl hc hc' q) hr
theorem go_lushr (C : Cx p s m meth c Z own bs mx rt nm) {x : Int64} {y : Int32} (hd : decode bs pc = .ok (.lushr, 1)) (hp : pc + 1 = pc') (hr : Go p l e R s m args below meth c n0 Q K N h ce sl (mkF m pc' Ls (.long (XT.ushrL x y) :: st))) : Go p l e R s m args below meth c n0 Q K N h ce sl (mkF m pc Ls (.int y :: .long x :: st)) := by
  subst hp
  exact Go.step (fun T A _ q => XT.lushr A C.1 rfl (hb C.2.1 hd) rfl q) hr
theorem go_lshl (C : Cx p s m meth c Z own bs mx rt nm) {x : Int64} {y : Int32} (hd : decode bs pc = .ok (.lshl, 1)) (hp : pc + 1 = pc') (hr : Go p l e R s m args below meth c n0 Q K N h ce sl (mkF m pc' Ls (.long (x <<< (y.toInt64 &&& 63)) :: st))) : Go p l e R s m args below meth c n0 Q K N h ce sl (mkF m pc Ls (.int y :: .long x :: st)) := by
  subst hp
  exact Go.step (fun T A _ q => XT.lshl A C.1 rfl (hb C.2.1 hd) rfl q) hr
theorem go_ldiv (C : Cx p s m meth c Z own bs mx rt nm) {x y : Int64} (hd : decode bs pc = .ok (.ldiv, 1)) (hp : pc + 1 = pc') (hy : y ≠ 0) (hr : Go p l e R s m args below meth c n0 Q K N h ce sl (mkF m pc' Ls (.long (x / y) :: st))) : Go p l e R s m args below meth c n0 Q K N h ce sl (mkF m pc Ls (.long y :: .long x :: st)) := by
  subst hp
  exact Go.step (fun T A _ q => XT.ldiv A C.1 rfl (hb C.2.1 hd) rfl hy q) hr
theorem go_lrem (C : Cx p s m meth c Z own bs mx rt nm) {x y : Int64} (hd : decode bs pc = .ok (.lrem, 1)) (hp : pc + 1 = pc') (hy : y ≠ 0) (hr : Go p l e R s m args below meth c n0 Q K N h ce sl (mkF m pc' Ls (.long (x - (x / y) * y) :: st))) : Go p l e R s m args below meth c n0 Q K N h ce sl (mkF m pc Ls (.long y :: .long x :: st)) := by
  subst hp
  exact Go.step (fun T A _ q => XT.lrem A C.1 rfl (hb C.2.1 hd) rfl hy q) hr
theorem go_goto (C : Cx p s m meth c Z own bs mx rt nm) {o : Int} (hd : decode bs pc = .ok (.goto o, 3)) (ho : 0 ≤ (pc : Int) + o) (hp : ((pc : Int) + o).toNat = pc') (hr : Go p l e R s m args below meth c n0 Q K N h ce sl (mkF m pc' Ls st)) : Go p l e R s m args below meth c n0 Q K N h ce sl (mkF m pc Ls st) :=
  Go.step (fun T A _ q => XS.goto A C.1 rfl rfl (hb C.2.1 hd) ho hp q) hr
/-- what a comparison says, of integers -/
def cmpP (cd : ClassFile.Cond) (x y : Int) : Prop := match cd with | .eq => x = y | .ne => ¬ x = y | .lt => x < y | .ge => ¬ x < y | .gt => y < x | .le => ¬ y < x
def cmpN (cd : ClassFile.Cond) (x y : Int) : Prop := match cd with | .eq => ¬ x = y | .ne => x = y | .lt => ¬ x < y | .ge => x < y | .gt => ¬ y < x | .le => y < x
theorem cmpN_of {cd : ClassFile.Cond} {x y : Int} (h : ¬ cmpP cd x y) : cmpN cd x y := by
  cases cd <;> simp only [cmpP] at h <;> simp only [cmpN] <;> omega
theorem cmp_t {cd : ClassFile.Cond} {x y : Int32} (h : cmpP cd x.toInt y.toInt) : if_icmp.holds cd x y = true := by
  cases cd <;> simp only [cmpP] at h
  · exact XT.ii_eq_t (int_eq h)
  · exact XT.ii_ne_t fun q => h (by rw [q])
  · exact XT.ii_lt_t (Int32.lt_iff_toInt_lt.mpr h)
  · exact XT.ii_ge_t fun q => h (Int32.lt_iff_toInt_lt.mp q)
  · exact XT.ii_gt_t (Int32.lt_iff_toInt_lt.mpr h)
  · exact XT.ii_le_t fun q => h (Int32.lt_iff_toInt_lt.mp q)
theorem cmp_f {cd : ClassFile.Cond} {x y : Int32} (h : ¬ cmpP cd x.toInt y.toInt) : if_icmp.holds cd x y = false := by
  cases cd <;> simp only [cmpP] at h
  · exact XT.ii_eq_f fun q => h (by rw [q])
  · exact XT.ii_ne_f (int_eq (Classical.not_not.mp h))
  · exact XT.ii_lt_f fun q => h (Int32.lt_iff_toInt_lt.mp q)
  · exact XT.ii_ge_f (Int32.lt_iff_toInt_lt.mpr (Classical.not_not.mp h))
  · exact XT.ii_gt_f fun q => h (Int32.lt_iff_toInt_lt.mp q)
  · exact XT.ii_le_f (Int32.lt_iff_toInt_lt.mpr (Classical.not_not.mp h))
theorem cmpL_t {cd : ClassFile.Cond} {x y : Int64} (h : cmpP cd x.toInt y.toInt) : ifCond.holds cd (XT.cmpL x y) = true := by
  cases cd <;> simp only [cmpP] at h
  · exact XT.ll_eq_t (long_eq h)
  · exact XT.ll_ne_t fun q => h (by rw [q])
  · exact XT.ll_lt_t (Int64.lt_iff_toInt_lt.mpr h)
  · exact XT.ll_ge_t fun q => h (Int64.lt_iff_toInt_lt.mp q)
  · exact XT.ll_gt_t (Int64.lt_iff_toInt_lt.mpr h)
  · exact XT.ll_le_t fun q => h (Int64.lt_iff_toInt_lt.mp q)
theorem cmpL_f {cd : ClassFile.Cond} {x y : Int64} (h : ¬ cmpP cd x.toInt y.toInt) : ifCond.holds cd (XT.cmpL x y) = false := by
  cases cd <;> simp only [cmpP] at h
  · exact XT.ll_eq_f fun q => h (by rw [q])
  · exact XT.ll_ne_f (long_eq (Classical.not_not.mp h))
  · exact XT.ll_lt_f fun q => h (Int64.lt_iff_toInt_lt.mp q)
  · exact XT.ll_ge_f (Int64.lt_iff_toInt_lt.mpr (Classical.not_not.mp h))
  · exact XT.ll_gt_f fun q => h (Int64.lt_iff_toInt_lt.mp q)
  · exact XT.ll_le_f (Int64.lt_iff_toInt_lt.mpr (Classical.not_not.mp h))
theorem go_icmp (C : Cx p s m meth c Z own bs mx rt nm) {cd : ClassFile.Cond} {x y : Int32} {o : Int} {pcN : Nat} (kx ky : Int) (hx : x.toInt = kx) (hy : y.toInt = ky) (hd : decode bs pc = .ok (.if_icmp cd o, 3)) (ho : 0 ≤ (pc : Int) + o) (hp : ((pc : Int) + o).toNat = pc') (hpn : pc + 3 = pcN) (h1 : cmpP cd kx ky → Go p l e R s m args below meth c n0 Q K N h ce sl (mkF m pc' Ls st)) (h2 : cmpN cd kx ky → Go p l e R s m args below meth c n0 Q K N h ce sl (mkF m pcN Ls st)) : Go p l e R s m args below meth c n0 Q K N h ce sl (mkF m pc Ls (.int y :: .int x :: st)) := by
  subst hpn hx hy
  by_cases q : cmpP cd x.toInt y.toInt
  · exact Go.step (fun T A _ k => XS.icmpYes A C.1 rfl rfl (hb C.2.1 hd) rfl (cmp_t q) ho hp k) (h1 q)
  · exact Go.step (fun T A _ k => XS.icmpNo A C.1 rfl (hb C.2.1 hd) rfl (cmp_f q) k) (h2 (cmpN_of q))
theorem go_if0 (C : Cx p s m meth c Z own bs mx rt nm) {cd : ClassFile.Cond} {x : Int32} {o : Int} {pcN : Nat} (kx : Int) (hx : x.toInt = kx) (hd : decode bs pc = .ok (.ifCond cd o, 3)) (ho : 0 ≤ (pc : Int) + o) (hp : ((pc : Int) + o).toNat = pc') (hpn : pc + 3 = pcN) (h1 : cmpP cd kx 0 → Go p l e R s m args below meth c n0 Q K N h ce sl (mkF m pc' Ls st)) (h2 : cmpN cd kx 0 → Go p l e R s m args below meth c n0 Q K N h ce sl (mkF m pcN Ls st)) : Go p l e R s m args below meth c n0 Q K N h ce sl (mkF m pc Ls (.int x :: st)) := by
  subst hpn hx
  by_cases q : cmpP cd x.toInt 0
  · exact Go.step (fun T A _ k => XS.ifYes A C.1 rfl rfl (hb C.2.1 hd) rfl ((if0 cd x).trans (cmp_t q)) ho hp k) (h1 q)
  · exact Go.step (fun T A _ k => XS.ifNo A C.1 rfl (hb C.2.1 hd) rfl ((if0 cd x).trans (cmp_f q)) k) (h2 (cmpN_of q))
theorem go_lcmp (C : Cx p s m meth c Z own bs mx rt nm) {cd : ClassFile.Cond} {x y : Int64} {o : Int} {pc1 pcN : Nat} (kx ky : Int) (hx : x.toInt = kx) (hy : y.toInt = ky) (hd0 : decode bs pc = .ok (.lcmp, 1)) (hp1 : pc + 1 = pc1) (hd : decode bs pc1 = .ok (.ifCond cd o, 3)) (ho : 0 ≤ (pc1 : Int) + o) (hp : ((pc1 : Int) + o).toNat = pc') (hpn : pc1 + 3 = pcN) (h1 : cmpP cd kx ky → Go p l e R s m args below meth c n0 Q K N h ce sl (mkF m pc' Ls st)) (h2 : cmpN cd kx ky → Go p l e R s m args below meth c n0 Q K N h ce sl (mkF m pcN Ls st)) : Go p l e R s m args below meth c n0 Q K N h ce sl (mkF m pc Ls (.long y :: .long x :: st)) := by
  subst hpn hp1 hx hy
  refine Go.step (g' := mkF m (pc + 1) Ls (.int (XT.cmpL x y) :: st)) (fun T A _ k => XT.lcmp A C.1 rfl (hb C.2.1 hd0) rfl k) ?_
  by_cases q : cmpP cd x.toInt y.toInt
  · exact Go.step (fun T A _ k => XS.ifYes A C.1 rfl rfl (hb C.2.1 hd) rfl (cmpL_t q) ho hp k) (h1 q)
  · exact Go.step (fun T A _ k => XS.ifNo A C.1 rfl (hb C.2.1 hd) rfl (cmpL_f q) k) (h2 (cmpN_of q))
theorem go_ifne_b (C : Cx p s m meth c Z own bs mx rt nm) {B : Prop} [Decidable B] {o : Int} {pcN : Nat} (hd : decode bs pc = .ok (.ifCond .ne o, 3)) (ho : 0 ≤ (pc : Int) + o) (hp : ((pc : Int) + o).toNat = pc') (hpn : pc + 3 = pcN) (h1 : B → Go p l e R s m args below meth c n0 Q K N h ce sl (mkF m pc' Ls st)) (h2 : ¬ B → Go p l e R s m args below meth c n0 Q K N h ce sl (mkF m pcN Ls st)) : Go p l e R s m args below meth c n0 Q K N h ce sl (mkF m pc Ls (.int (bi B) :: st)) := by
  refine go_if0 C _ rfl hd ho hp hpn (fun q => h1 ?_) (fun q => h2 ?_)
  · exact Classical.byContradiction fun z => q (by rw [bi_f z]; rfl)
  · exact fun z => by
      have q' : (bi B).toInt = 0 := q
      rw [bi_t z] at q'
      exact absurd q' (by decide)
theorem go_ifeq_b (C : Cx p s m meth c Z own bs mx rt nm) {B : Prop} [Decidable B] {o : Int} {pcN : Nat} (hd : decode bs pc = .ok (.ifCond .eq o, 3)) (ho : 0 ≤ (pc : Int) + o) (hp : ((pc : Int) + o).toNat = pc') (hpn : pc + 3 = pcN) (h1 : ¬ B → Go p l e R s m args below meth c n0 Q K N h ce sl (mkF m pc' Ls st)) (h2 : B → Go p l e R s m args below meth c n0 Q K N h ce sl (mkF m pcN Ls st)) : Go p l e R s m args below meth c n0 Q K N h ce sl (mkF m pc Ls (.int (bi B) :: st)) := by
  refine go_if0 C _ rfl hd ho hp hpn (fun q => h1 ?_) (fun q => h2 ?_)
  · exact fun z => by
      have q' : (bi B).toInt = 0 := q
      rw [bi_t z] at q'
      exact absurd q' (by decide)
  · exact Classical.byContradiction fun z => q (by rw [bi_f z]; rfl)
theorem go_ifnull_r (C : Cx p s m meth c Z own bs mx rt nm) {a : Addr} {o : Int} (hd : decode bs pc = .ok (.ifnull o, 3)) (hp : pc + 3 = pc') (hr : Go p l e R s m args below meth c n0 Q K N h ce sl (mkF m pc' Ls st)) : Go p l e R s m args below meth c n0 Q K N h ce sl (mkF m pc Ls (.ref a :: st)) := by
  subst hp
  exact Go.step (fun T A _ k => XS.ifnullNo A C.1 rfl (hb C.2.1 hd) rfl k) hr
theorem go_ifnull_n (C : Cx p s m meth c Z own bs mx rt nm) {o : Int} (hd : decode bs pc = .ok (.ifnull o, 3)) (ho : 0 ≤ (pc : Int) + o) (hp : ((pc : Int) + o).toNat = pc') (hr : Go p l e R s m args below meth c n0 Q K N h ce sl (mkF m pc' Ls st)) : Go p l e R s m args below meth c n0 Q K N h ce sl (mkF m pc Ls (.null :: st)) :=
  Go.step (fun T A _ k => XS.ifnullYes A C.1 rfl rfl (hb C.2.1 hd) rfl ho hp k) hr
theorem go_ldc (C : Cx p s m meth c Z own bs mx rt nm) {i : Nat} {v : Int32} (w : (Jvm.Cond.constant own i v).before a0 Z = true) (hd : decode bs pc = .ok (.ldc i, 2)) (hp : pc + 2 = pc') (hr : Go p l e R s m args below meth c n0 Q K N h ce sl (mkF m pc' Ls (.int v :: st))) : Go p l e R s m args below meth c n0 Q K N h ce sl (mkF m pc Ls st) := by
  subst hp
  exact Go.stepX (fun T locs X _ _ q => X.ldcI C.1 C.2.2.2.2.1 (mv C.2.2.2.1 w) rfl (hb C.2.1 hd) q) hr
theorem go_ldc2 (C : Cx p s m meth c Z own bs mx rt nm) {i : Nat} {v : Int64} (w : (Jvm.Cond.constantLong own i v).before a0 Z = true) (hd : decode bs pc = .ok (.ldc2_w i, 3)) (hp : pc + 3 = pc') (hr : Go p l e R s m args below meth c n0 Q K N h ce sl (mkF m pc' Ls (.long v :: st))) : Go p l e R s m args below meth c n0 Q K N h ce sl (mkF m pc Ls st) := by
  subst hp
  exact Go.stepX (fun T locs X _ _ q => X.ldc2J C.1 C.2.2.2.2.1 (mv C.2.2.2.1 w) rfl (hb C.2.1 hd) q) hr
theorem go_getfield (C : Cx p s m meth c Z own bs mx rt nm) {O n d : String} {i : Nat} {a : Addr} {v : Value} (w : (Jvm.Cond.fieldLink own i O n d).before a0 Z = true) (F0 : Fld Z h a O n d v) (hd : decode bs pc = .ok (.getfield i, 3)) (hp : pc + 3 = pc') (hr : Go p l e R s m args below meth c n0 Q K N h ce sl (mkF m pc' Ls (v :: st))) : Go p l e R s m args below meth c n0 Q K N h ce sl (mkF m pc Ls (.ref a :: st)) := by
  subst hp
  intro T locs X eT Nn
  obtain ⟨T', X', e', stp⟩ := getF X C.1 C.2.2.2.1 C.2.2.2.2.1 (host := "") (Or.inl w) Via.refl eT F0 (g := mkF m pc Ls (.ref a :: st)) rfl rfl (hb C.2.1 hd)
  obtain ⟨s₂, o, h1, r⟩ := hr T' locs X' e' Nn
  exact ⟨s₂, o, stp _ h1, r⟩
theorem go_putfield (C : Cx p s m meth c Z own bs mx rt nm) {O n d C0 : String} {i kk : Nat} {ty : FieldType} {a : Addr} {v old : Value} (w : (Jvm.Cond.fieldLink own i O n d).before a0 Z = true) (F0 : Fld Z h a O n d old) (E : Exa Z h a C0) (L : (Jvm.Cond.lays C0 O n d).before a0 Z = true ∨ ((Jvm.Cond.laysFinal C0 O n d).before a0 Z = true ∧ own = O ∧ nm = "<init>")) (wi : (Jvm.Cond.instantiable C0 kk).before a0 Z = true) (hty : parseFieldDescriptor d = some ty) (hn : narrow ty v = v) (hf : fits ty v = true) (ha : n0 ≤ a) (hd : decode bs pc = .ok (.putfield i, 3)) (hp : pc + 3 = pc') (hr : ∀ h', Wr h h' a (Jvm.RoadKit.slotOf Z O n d) v → Go p l e R s m args below meth c n0 Q K N h' ce sl (mkF m pc' Ls st)) : Go p l e R s m args below meth c n0 Q K N h ce sl (mkF m pc Ls (v :: .ref a :: st)) := by
  subst hp
  intro T locs X eT Nn
  obtain ⟨T', h', X', e', W', stp⟩ := putF X C.1 C.2.2.2.1 C.2.2.2.2.1 (host := "") (Or.inl w) Via.refl eT F0 E (L.imp id fun q => ⟨q.1, q.2.1, C.2.2.2.2.2.2.2.trans q.2.2⟩) wi hty hn hf (g := mkF m pc Ls (v :: .ref a :: st)) rfl rfl (hb C.2.1 hd)
  obtain ⟨s₂, o, h1, r⟩ := hr h' W' T' _ X' e' (Fr.snoc X' Nn ha)
  exact ⟨s₂, o, stp _ h1, r⟩
theorem go_new (C : Cx p s m meth c Z own bs mx rt nm) {C0 : String} {i k ce' sl' : Nat} (w : (Jvm.Cond.classLink own i C0).before a0 Z = true) (wi : (Jvm.Cond.instantiable C0 k).before a0 Z = true) (wz : (Jvm.Cond.initialized C0).before a0 Z = true) (hd : decode bs pc = .ok (.new i, 3)) (hp : pc + 3 = pc') (hce : ce + 1 = ce') (hsl : sl + k = sl') (hc : ce' ≤ R.cells) (hl : sl' ≤ R.slots)
    (hr : ∀ (h' : Heap) (a : Addr), h.size = a → Ext h h' → Exa Z h' a C0 → (∀ {O nm d : String} {ty : FieldType}, Laid Z a0 C0 O nm d → parseFieldDescriptor d = some ty → Fld Z h' a O nm d (defaultValue ty)) → Go p l e R s m args below meth c n0 Q K N h' ce' sl' (mkF m pc' Ls (.ref a :: st))) : Go p l e R s m args below meth c n0 Q K N h ce sl (mkF m pc Ls st) := by
  subst hp hce hsl
  intro T locs X eT Nn
  obtain ⟨T', h', X', e', E', A', D', -, stp⟩ := newO X C.1 C.2.2.2.1 C.2.2.2.2.1 w wi wz eT (g := mkF m pc Ls st) rfl (hb C.2.1 hd) hc hl
  obtain ⟨s₂, o, h1, r⟩ := hr h' _ rfl E' A' D' T' _ X' e' Nn
  exact ⟨s₂, o, stp _ h1, r⟩
/-- an array of type ty that holds just vs -/
def Av (Z : State) (h : Heap) (a : Addr) (ty : FieldType) (vs : List Value) : Prop := ∃ cl : Cell, Arr Z h a cl ty ∧ cl.slots.toList = vs ∧ vs.length < 2147483648
theorem Av.lt {ty : FieldType} {vs : List Value} {a : Addr} (A : Av Z h a ty vs) : a < h.size := by obtain ⟨c, A, -⟩ := A; exact A.lt
theorem Av.ext {ty : FieldType} {vs : List Value} {a : Addr} {h' : Heap} (A : Av Z h a ty vs) (E : Ext h h') : Av Z h' a ty vs := by obtain ⟨c, A, r⟩ := A; exact ⟨c, A.ext E, r⟩
theorem Av.other {ty : FieldType} {vs : List Value} {a b : Addr} {h' : Heap} {k : Nat} {v : Value} (A : Av Z h b ty vs) (W : Wr h h' a k v) (q : b ≠ a) : Av Z h' b ty vs := by obtain ⟨c, A, r⟩ := A; exact ⟨c, A.other W q, r⟩
theorem Av.keep {ty : FieldType} {vs : List Value} {a : Addr} {h' : Heap} {ws : List Addr} (A : Av Z h a ty vs) (K0 : Keep h h' ws) (q : a ∉ ws) : Av Z h' a ty vs := by obtain ⟨c, A, r⟩ := A; exact ⟨c, ⟨K0.2.1 a c A.1 q, A.2⟩, r⟩
theorem own_ne_arr {C0 : String} {ty : FieldType} {vs : List Value} {a b : Addr} {k : Nat} (F0 : Exa Z h a C0) (wi : (Jvm.Cond.instantiable C0 k).before a0 Z = true) (G : Av Z h b ty vs) : a ≠ b := by obtain ⟨c, G, -⟩ := G; exact ne_arr F0 wi G
theorem clamp_of {j : Int32} {k : Nat} (hj : j.toInt = k) : j.toNatClampNeg = k := by
  show j.toInt.toNat = k
  rw [hj]; rfl
theorem nonneg_of {j : Int32} {k : Nat} (hj : j.toInt = k) : ¬ j < 0 := fun q => by
  have := Int32.lt_iff_toInt_lt.mp q
  rw [hj] at this
  exact absurd this (by show ¬ (k : Int) < 0; omega)
theorem Av.at {ty : FieldType} {vs : List Value} {a : Addr} (A : Av Z h a ty vs) {j : Int32} {k : Nat} (hj : j.toInt = k) (hk : k < vs.length) : ∃ cl : Cell, Arr Z h a cl ty ∧ cl.slots.toList = vs ∧ ¬ (j < 0 ∨ cl.slots.size ≤ j.toNatClampNeg) ∧ cl.slots[j.toNatClampNeg]? = vs[k]? := by
  obtain ⟨cl, A, e1, e2⟩ := A
  refine ⟨cl, A, e1, ?_, ?_⟩
  · rw [clamp_of hj]
    intro q
    rcases q with q | q
    · exact nonneg_of hj q
    · rw [← e1] at hk; simp at hk; omega
  · rw [clamp_of hj, ← e1]; simp
theorem Av.set {ty : FieldType} {vs : List Value} {a : Addr} {h' : Heap} {k : Nat} {v : Value} (A : Av Z h a ty vs) (W : Wr h h' a k v) : Av Z h' a ty (vs.set k v) := by
  obtain ⟨cl, A, e1, e2⟩ := A
  exact ⟨_, A.same W, by rw [← e1]; simp [Cell.setSlot], by simpa using e2⟩
/-- n ints, whichever -/
def Ints (vs : List Value) (n : Nat) : Prop := vs.length = n ∧ ∀ k, k < n → ∃ x : Int32, vs[k]? = some (.int x)
theorem Ints.rep (n : Nat) (x : Int32) : Ints (List.replicate n (.int x)) n := ⟨by simp, fun k hk => ⟨x, by simp [hk]⟩⟩
theorem Ints.set {vs : List Value} {n k : Nat} (x : Int32) (I : Ints vs n) : Ints (vs.set k (.int x)) n := ⟨by simpa using I.1, fun j hj => by
  by_cases q : k = j
  · subst q
    exact ⟨x, by rw [List.getElem?_set_self (by rw [I.1]; exact hj)]⟩
  · obtain ⟨y, hy⟩ := I.2 j hj
    exact ⟨y, by rw [List.getElem?_set_ne q]; exact hy⟩⟩
theorem go_arraylength (C : Cx p s m meth c Z own bs mx rt nm) {ty : FieldType} {vs : List Value} {a : Addr} (A : Av Z h a ty vs) (n : Int32) (hn : n.toInt = vs.length) (hd : decode bs pc = .ok (.arraylength, 1)) (hp : pc + 1 = pc') (hr : Go p l e R s m args below meth c n0 Q K N h ce sl (mkF m pc' Ls (.int n :: st))) : Go p l e R s m args below meth c n0 Q K N h ce sl (mkF m pc Ls (.ref a :: st)) := by
  subst hp
  obtain ⟨cl, A, e1, e2⟩ := A
  have q : cl.slots.size.toInt32 = n := by
    have hl : cl.slots.size = vs.length := by rw [← e1]; simp
    rw [hl]
    refine int_eq ?_
    rw [hn]
    exact Int32.toInt_ofNat_of_lt (by omega)
  exact Go.stepX (fun T locs X eT _ k => X.arraylength C.1 (cell := cl) (by rw [eT]; exact A.1) (State.isArrayOf_alike C.2.2.2.1.alike A.2.1) (g := mkF m pc Ls (.ref a :: st)) rfl rfl (hb C.2.1 hd) _ (by rw [q]; exact k)) hr
theorem go_iaload (C : Cx p s m meth c Z own bs mx rt nm) {vs : List Value} {a : Addr} {j : Int32} (A : Av Z h a .int vs) (k : Nat) (v : Value) (hj : j.toInt = k) (hv : vs[k]? = some v) (hd : decode bs pc = .ok (.iaload, 1)) (hp : pc + 1 = pc') (hr : Go p l e R s m args below meth c n0 Q K N h ce sl (mkF m pc' Ls (v :: st))) : Go p l e R s m args below meth c n0 Q K N h ce sl (mkF m pc Ls (.int j :: .ref a :: st)) := by
  subst hp
  obtain ⟨cl, A, e1, e2, e3⟩ := A.at hj (List.getElem?_eq_some_iff.mp hv).1
  exact Go.stepX (fun T locs X eT _ q => X.iaload C.1 (j := j) (v := v) (by rw [eT]; exact A.1) (State.isArrayOf_alike C.2.2.2.1.alike A.2.1) A.2.2 e2 (e3.trans hv) (g := mkF m pc Ls (.int j :: .ref a :: st)) rfl rfl (hb C.2.1 hd) _ q) hr
theorem go_laload (C : Cx p s m meth c Z own bs mx rt nm) {vs : List Value} {a : Addr} {j : Int32} (A : Av Z h a .long vs) (k : Nat) (v : Value) (hj : j.toInt = k) (hv : vs[k]? = some v) (hd : decode bs pc = .ok (.laload, 1)) (hp : pc + 1 = pc') (hr : Go p l e R s m args below meth c n0 Q K N h ce sl (mkF m pc' Ls (v :: st))) : Go p l e R s m args below meth c n0 Q K N h ce sl (mkF m pc Ls (.int j :: .ref a :: st)) := by
  subst hp
  obtain ⟨cl, A, e1, e2, e3⟩ := A.at hj (List.getElem?_eq_some_iff.mp hv).1
  exact Go.stepX (fun T locs X eT _ q => X.laload C.1 (j := j) (v := v) (by rw [eT]; exact A.1) (State.isArrayOf_alike C.2.2.2.1.alike A.2.1) A.2.2 e2 (e3.trans hv) (g := mkF m pc Ls (.int j :: .ref a :: st)) rfl rfl (hb C.2.1 hd) _ q) hr
theorem go_baload (C : Cx p s m meth c Z own bs mx rt nm) {vs : List Value} {a : Addr} {j : Int32} (A : Av Z h a .byte vs) (k : Nat) (v : Value) (hj : j.toInt = k) (hv : vs[k]? = some v) (hd : decode bs pc = .ok (.baload, 1)) (hp : pc + 1 = pc') (hr : Go p l e R s m args below meth c n0 Q K N h ce sl (mkF m pc' Ls (v :: st))) : Go p l e R s m args below meth c n0 Q K N h ce sl (mkF m pc Ls (.int j :: .ref a :: st)) := by
  subst hp
  obtain ⟨cl, A, e1, e2, e3⟩ := A.at hj (List.getElem?_eq_some_iff.mp hv).1
  exact Go.stepX (fun T locs X eT _ q => X.baloadBytes C.1 (j := j) (v := v) (by rw [eT]; exact A.1) (State.isArrayOf_alike C.2.2.2.1.alike A.2.1) A.2.2 e2 (e3.trans hv) (g := mkF m pc Ls (.int j :: .ref a :: st)) rfl rfl (hb C.2.1 hd) _ q) hr
theorem go_iastore (C : Cx p s m meth c Z own bs mx rt nm) {vs : List Value} {a : Addr} {j : Int32} {x : Int32} (A : Av Z h a .int vs) (k : Nat) (hj : j.toInt = k) (hk : k < vs.length) (ha : n0 ≤ a) (hd : decode bs pc = .ok (.iastore, 1)) (hp : pc + 1 = pc') (hr : ∀ h', Wr h h' a k (.int x) → Av Z h' a .int (vs.set k (.int x)) → Go p l e R s m args below meth c n0 Q K N h' ce sl (mkF m pc' Ls st)) : Go p l e R s m args below meth c n0 Q K N h ce sl (mkF m pc Ls (.int x :: .int j :: .ref a :: st)) := by
  subst hp
  obtain ⟨cl, A1, e1, e2, e3⟩ := A.at hj hk
  intro T locs X eT Nn
  obtain ⟨T', h', X', e', W', stp⟩ := stI X C.1 C.2.2.2.1 eT A1 e2 (g := mkF m pc Ls (.int x :: .int j :: .ref a :: st)) rfl rfl (hb C.2.1 hd)
  have W2 : Wr h h' a k (.int x) := by rw [clamp_of hj] at W'; exact W'
  obtain ⟨s₂, o, h1, r⟩ := hr h' W2 (A.set W2) T' _ X' e' (Fr.snoc X' Nn ha)
  exact ⟨s₂, o, stp _ h1, r⟩
theorem go_lastore (C : Cx p s m meth c Z own bs mx rt nm) {vs : List Value} {a : Addr} {j : Int32} {x : Int64} (A : Av Z h a .long vs) (k : Nat) (hj : j.toInt = k) (hk : k < vs.length) (ha : n0 ≤ a) (hd : decode bs pc = .ok (.lastore, 1)) (hp : pc + 1 = pc') (hr : ∀ h', Wr h h' a k (.long x) → Av Z h' a .long (vs.set k (.long x)) → Go p l e R s m args below meth c n0 Q K N h' ce sl (mkF m pc' Ls st)) : Go p l e R s m args below meth c n0 Q K N h ce sl (mkF m pc Ls (.long x :: .int j :: .ref a :: st)) := by
  subst hp
  obtain ⟨cl, A1, e1, e2, e3⟩ := A.at hj hk
  intro T locs X eT Nn
  obtain ⟨T', h', X', e', W', stp⟩ := stJ X C.1 C.2.2.2.1 eT A1 e2 (g := mkF m pc Ls (.long x :: .int j :: .ref a :: st)) rfl rfl (hb C.2.1 hd)
  have W2 : Wr h h' a k (.long x) := by rw [clamp_of hj] at W'; exact W'
  obtain ⟨s₂, o, h1, r⟩ := hr h' W2 (A.set W2) T' _ X' e' (Fr.snoc X' Nn ha)
  exact ⟨s₂, o, stp _ h1, r⟩
theorem go_bastore (C : Cx p s m meth c Z own bs mx rt nm) {vs : List Value} {a : Addr} {j : Int32} {x : Int32} (A : Av Z h a .byte vs) (k : Nat) (hj : j.toInt = k) (hk : k < vs.length) (x' : Int32) (hx : x.toInt8.toInt32 = x') (ha : n0 ≤ a) (hd : decode bs pc = .ok (.bastore, 1)) (hp : pc + 1 = pc') (hr : ∀ h', Wr h h' a k (.int x') → Av Z h' a .byte (vs.set k (.int x')) → Go p l e R s m args below meth c n0 Q K N h' ce sl (mkF m pc' Ls st)) : Go p l e R s m args below meth c n0 Q K N h ce sl (mkF m pc Ls (.int x :: .int j :: .ref a :: st)) := by
  subst hp hx
  obtain ⟨cl, A1, e1, e2, e3⟩ := A.at hj hk
  intro T locs X eT Nn
  obtain ⟨T', h', X', e', W', stp⟩ := stB X C.1 C.2.2.2.1 eT A1 e2 (g := mkF m pc Ls (.int x :: .int j :: .ref a :: st)) rfl rfl (hb C.2.1 hd)
  have W2 : Wr h h' a k (.int x.toInt8.toInt32) := by rw [clamp_of hj] at W'; exact W'
  obtain ⟨s₂, o, h1, r⟩ := hr h' W2 (A.set W2) T' _ X' e' (Fr.snoc X' Nn ha)
  exact ⟨s₂, o, stp _ h1, r⟩
theorem go_newarray (C : Cx p s m meth c Z own bs mx rt nm) {aty : ArrayType} {ty : FieldType} {n : Int32} {ce' sl' : Nat} (w : (Jvm.Cond.arrayClass ty).before a0 Z = true) (hty : newarray.typeOf aty = ty) (k cap : Nat) (hn : n.toInt = k) (hcap : k ≤ cap) (hc8 : cap * 8 ≤ 536870912) (hce : ce + 1 = ce') (hsl : sl + cap = sl') (hc : ce' ≤ R.cells) (hl : sl' ≤ R.slots) (hd : decode bs pc = .ok (.newarray aty, 2)) (hp : pc + 2 = pc')
    (hr : ∀ (h' : Heap) (a : Addr), h.size = a → Ext h h' → Av Z h' a ty (List.replicate k (defaultValue ty)) → Go p l e R s m args below meth c n0 Q K N h' ce' sl' (mkF m pc' Ls (.ref a :: st))) : Go p l e R s m args below meth c n0 Q K N h ce sl (mkF m pc Ls (.int n :: st)) := by
  subst hp hty hce hsl
  intro T locs X eT Nn
  obtain ⟨T', h', cA, X', e', E', A', stp⟩ := newP X C.1 C.2.2.2.1 w eT (g := mkF m pc Ls (.int n :: st)) rfl (hb C.2.1 hd) rfl (nonneg_of hn) (cap := cap) (by rw [clamp_of hn]; exact hcap) hc8 hc hl
  have hb31 : k < 2147483648 := by have := n.toInt_lt; omega
  obtain ⟨s₂, o, h1, r⟩ := hr h' _ rfl E' ⟨_, A', by simp [newA, clamp_of hn], by simpa using hb31⟩ T' _ X' e' Nn
  exact ⟨s₂, o, stp _ h1, r⟩
theorem go_newarrayE (C : Cx p s m meth c Z own bs mx rt nm) {aty : ArrayType} {ty : FieldType} {n : Int32} {ce' sl' : Nat} {ad : String} (w : (Jvm.Cond.arrayClass ty).before a0 Z = true) (hty : newarray.typeOf aty = ty) (had : "[" ++ ty.toString = ad) (k cap : Nat) (hn : n.toInt = k) (hcap : k ≤ cap) (hc8 : cap * 8 ≤ 536870912) (hce : ce + 1 = ce') (hsl : sl + cap = sl') (hc : ce' ≤ R.cells) (hl : sl' ≤ R.slots) (hd : decode bs pc = .ok (.newarray aty, 2)) (hp : pc + 2 = pc')
    (hr : ∀ (h' : Heap) (a : Addr), h.size = a → Ext h h' → Exa Z h' a ad → Av Z h' a ty (List.replicate k (defaultValue ty)) → Go p l e R s m args below meth c n0 Q K N h' ce' sl' (mkF m pc' Ls (.ref a :: st))) : Go p l e R s m args below meth c n0 Q K N h ce sl (mkF m pc Ls (.int n :: st)) := by
  subst hp hty hce hsl
  intro T locs X eT Nn
  obtain ⟨T', h', cA, X', e', E', A', Q', stp⟩ := newPE X C.1 C.2.2.2.1 w eT (g := mkF m pc Ls (.int n :: st)) rfl (hb C.2.1 hd) rfl (nonneg_of hn) (cap := cap) (by rw [clamp_of hn]; exact hcap) hc8 hc hl had
  have hb31 : k < 2147483648 := by have := n.toInt_lt; omega
  obtain ⟨s₂, o, h1, r⟩ := hr h' _ rfl E' Q' ⟨_, A', by simp [newA, clamp_of hn], by simpa using hb31⟩ T' _ X' e' Nn
  exact ⟨s₂, o, stp _ h1, r⟩
theorem go_clone (C : Cx p s m meth c Z own bs mx rt nm) {i : Nat} {ad : String} {ty : FieldType} {vs : List Value} {a : Addr} {W cap ce' sl' : Nat} (w1 : (Jvm.Cond.methodLink own i ⟨ad, "clone", "()Ljava/lang/Object;"⟩).before a0 Z = true) (w2 : (Jvm.Cond.sameMethod ad "java/lang/Object" "clone" "()Ljava/lang/Object;").before a0 Z = true) (w3 : (Jvm.Cond.native ⟨"java/lang/Object", "clone", "()Ljava/lang/Object;"⟩).before a0 Z = true) (w4 : (Jvm.Cond.instanceMethod ⟨"java/lang/Object", "clone", "()Ljava/lang/Object;"⟩).before a0 Z = true) (w5 : (Jvm.Cond.selects ad ⟨ad, "clone", "()Ljava/lang/Object;"⟩ ⟨"java/lang/Object", "clone", "()Ljava/lang/Object;"⟩).before a0 Z = true) (w6 : (Jvm.Cond.castable ad "java/lang/Cloneable").before a0 Z = true) (A : Av Z h a ty vs) (E : Exa Z h a ad) (hfit : ∀ v ∈ vs, fits ty v = true) (hls : Ls.size = mx) (hf : 1 ≤ R.frames) (hW : wt st = W) (hlo : W + 14 ≤ R.locals) (hcap : vs.length ≤ cap) (hce : ce + 1 = ce') (hsl : sl + cap = sl') (hc : ce' ≤ R.cells) (hl : sl' ≤ R.slots) (hd : decode bs pc = .ok (.invokevirtual i, 3)) (hp : pc + 3 = pc')
    (hr : ∀ (h' : Heap) (b : Addr), h.size = b → Ext h h' → Exa Z h' b ad → Av Z h' b ty vs → Go p l e R s m args below meth c n0 Q K N h' ce' sl' (mkF m pc' Ls (.ref b :: st))) : Go p l e R s m args below meth c n0 Q K N h ce sl (mkF m pc Ls (.ref a :: st)) := by
  subst hp hce hsl
  intro T locs X eT Nn
  obtain ⟨cl, A1, e1, e2⟩ := A
  have hsz : cl.slots.size = vs.length := by rw [← e1]; simp
  have FC : FitC Z cl := fitC_of A1 fun i hi v hv => hfit v (by rw [← e1]; exact Array.mem_toList_iff.mpr (Array.mem_of_getElem? hv))
  obtain ⟨T', h', X', e', E', A', Q', stp⟩ := cloneA X C.1 C.2.2.2.1 C.2.2.2.2.1 w1 w2 w3 w4 w5 w6 eT A1 E FC (g := mkF m pc Ls (.ref a :: st)) rfl (hls.trans C.2.2.1.symm) rfl (hb C.2.1 hd) hf (W := W) (cap := cap) (by show 2 * 0 + wt st ≤ W; omega) hlo (by rw [hsz]; exact hcap) hc hl
  obtain ⟨s₂, o, h1, r⟩ := hr h' _ rfl E' Q' ⟨_, A', e1, e2⟩ T' _ X' e' Nn
  exact ⟨s₂, o, stp _ h1, r⟩
theorem go_checkcast (C : Cx p s m meth c Z own bs mx rt nm) {i : Nat} {K0 : String} {a : Addr} (w : (Jvm.Cond.classLink own i K0).before a0 Z = true) (E : Exa Z h a K0) (hd : decode bs pc = .ok (.checkcast i, 3)) (hp : pc + 3 = pc') (hr : Go p l e R s m args below meth c n0 Q K N h ce sl (mkF m pc' Ls (.ref a :: st))) : Go p l e R s m args below meth c n0 Q K N h ce sl (mkF m pc Ls (.ref a :: st)) := by
  subst hp
  intro T locs X eT Nn
  obtain ⟨T', X', e', stp⟩ := castY X C.1 C.2.2.2.1 C.2.2.2.2.1 w eT (Ins.self E) (g := mkF m pc Ls (.ref a :: st)) rfl rfl (hb C.2.1 hd)
  obtain ⟨s₂, o, h1, r⟩ := hr T' locs X' e' Nn
  exact ⟨s₂, o, stp _ h1, r⟩
theorem go_objinit (C : Cx p s m meth c Z own bs mx rt nm) {i : Nat} {a : Addr} {W : Nat} (w1 : (Jvm.Cond.methodLink own i Lib.objectInit).before a0 Z = true) (w2 : (Jvm.Cond.instanceMethod Lib.objectInit).before a0 Z = true) (w3 : (Jvm.Cond.code Lib.objectInit ⟨#[0xb1]⟩ 1 none).before a0 Z = true) (hls : Ls.size = mx) (hf : 1 ≤ R.frames) (hW : wt st = W) (hl : W + 12 ≤ R.locals) (hd : decode bs pc = .ok (.invokespecial i, 3)) (hp : pc + 3 = pc') (hr : Go p l e R s m args below meth c n0 Q K N h ce sl (mkF m pc' Ls st)) : Go p l e R s m args below meth c n0 Q K N h ce sl (mkF m pc Ls (.ref a :: st)) := by
  subst hp
  intro T locs X eT Nn
  obtain ⟨T', X', e', stp⟩ := initO X C.1 C.2.2.2.1 C.2.2.2.2.1 w1 w2 w3 eT (g := mkF m pc Ls (.ref a :: st)) rfl (hls.trans C.2.2.1.symm) rfl (hb C.2.1 hd) hf (W := W) (by show 2 * 0 + wt st ≤ W; omega) hl
  obtain ⟨s₂, o, h1, r⟩ := hr T' locs X' e' Nn
  exact ⟨s₂, o, stp _ h1, r⟩
theorem back_of_sat {y : MethodName} {cb : ByteArray} {cm : Nat} {cr : Option FieldType} {rm : Room} {as : List Value} {Qc : Option Value → Heap → Prop} {W len : Nat} (S : Sat l Z y cb cm cr rm as h n0 Qc) (hZ : Z.Warmed39 s.vm) (w3 : (Jvm.Cond.initialized y.cls).before a0 Z = true) (w4 : (Jvm.Cond.code y cb cm cr).before a0 Z = true) (hfr : rm.frames + 1 ≤ R.frames) (hlo : W + (cm + 11) + rm.locals ≤ R.locals) :
    Back l R p e below s args y len W (fun A a => a = as.toArray ∧ A.U.heap = h ∧ A.cells + rm.cells ≤ R.cells ∧ A.slots + rm.slots ≤ R.slots) (fun A _ v B => ∃ L, (Qc v B.U.heap ∧ Fr n0 L) ∧ B.locs = A.locs ++ L ∧ B.cells = A.cells + rm.cells ∧ B.slots = A.slots + rm.slots) :=
  backOf (Q := fun v h L => Qc v h ∧ Fr n0 L) (W := W) (S []) hZ w4 w3 hfr hlo
theorem go_static (C : Cx p s m meth c Z own bs mx rt nm) {y : MethodName} {i : Nat} {cb : ByteArray} {cm : Nat} {cr : Option FieldType} {rm : Room} {as rest : List Value} {W : Nat} {ps : List FieldType} {pr : Option FieldType} {ce' sl' : Nat} {Qc : Option Value → Heap → Prop} (S : Sat l Z y cb cm cr rm as h n0 Qc) (w1 : (Jvm.Cond.methodLink own i y).before a0 Z = true) (w2 : (Jvm.Cond.static y).before a0 Z = true) (w3 : (Jvm.Cond.initialized y.cls).before a0 Z = true) (w4 : (Jvm.Cond.code y cb cm cr).before a0 Z = true) (hy : y.cls ≠ "java/lang/invoke/MethodHandle" ∧ y.cls ≠ "java/lang/invoke/VarHandle") (hpd : parseMethodDescriptor y.desc = some ⟨ps, pr⟩) (hlen : as.length = ps.length) (hls : Ls.size = mx) (hW : wt rest = W) (hfr : rm.frames + 1 ≤ R.frames) (hlo : W + (cm + 11) + rm.locals ≤ R.locals) (hce : ce + rm.cells = ce') (hsl : sl + rm.slots = sl') (hcc : ce' ≤ R.cells) (hss : sl' ≤ R.slots) (hd : decode bs pc = .ok (.invokestatic i, 3)) (hp : pc + 3 = pc') (hst : st = as.reverse ++ rest) (hr : ∀ v h', Qc v h' → Go p l e R s m args below meth c n0 Q K N h' ce' sl' (mkF m pc' Ls (v.toList ++ rest))) : Go p l e R s m args below meth c n0 Q K N h ce sl (mkF m pc Ls st) := by
  subst hp hce hsl
  intro T locs X eT Nn
  have hZ := C.2.2.2.1
  obtain ⟨v, _, ⟨T', L', k', n'⟩, -, X', ⟨Lc, hQ, l', y', z'⟩, stp⟩ := Jvm.LawKit.callS X C.1 (y := y) C.2.2.2.2.1 (mvT hZ w1) (mvT hZ w2) (mvT hZ w3) (mvT hZ w4) hy (back_of_sat S hZ w3 w4 hfr hlo) (g := mkF m pc Ls st) rfl (hls.trans C.2.2.1.symm) (argsL := as) (rest := rest) (lenOf hpd hlen) hst (by show 2 * 0 + wt rest ≤ W; omega) (hb C.2.1 hd) (fun _ _ => ⟨rfl, eT, hcc, hss⟩)
  dsimp only [Pt.U, Pt.locs, Pt.cells, Pt.slots] at X' l' y' z' stp hQ
  subst l' y' z'
  obtain ⟨s₂, o, h1, r⟩ := hr v T'.heap hQ.1 T' _ X' rfl (Fr.app Nn hQ.2)
  exact ⟨s₂, o, stp _ h1, r⟩
theorem go_special (C : Cx p s m meth c Z own bs mx rt nm) {y : MethodName} {i : Nat} {cb : ByteArray} {cm : Nat} {rm : Room} {as rest : List Value} {W : Nat} {ps : List FieldType} {pr : Option FieldType} {ce' sl' : Nat} {a : Addr} {Qc : Option Value → Heap → Prop} (S : Sat l Z y cb cm none rm (.ref a :: as) h n0 Qc) (hyn : y.name = "<init>") (w1 : (Jvm.Cond.methodLink own i y).before a0 Z = true) (w2 : (Jvm.Cond.instanceMethod y).before a0 Z = true) (w3 : (Jvm.Cond.initialized y.cls).before a0 Z = true) (w4 : (Jvm.Cond.code y cb cm none).before a0 Z = true) (hy : y.cls ≠ "java/lang/invoke/MethodHandle" ∧ y.cls ≠ "java/lang/invoke/VarHandle") (hpd : parseMethodDescriptor y.desc = some ⟨ps, pr⟩) (hlen : as.length = ps.length) (hls : Ls.size = mx) (hW : wt rest = W) (hfr : rm.frames + 1 ≤ R.frames) (hlo : W + (cm + 11) + rm.locals ≤ R.locals) (hce : ce + rm.cells = ce') (hsl : sl + rm.slots = sl') (hcc : ce' ≤ R.cells) (hss : sl' ≤ R.slots) (hd : decode bs pc = .ok (.invokespecial i, 3)) (hp : pc + 3 = pc') (hst : st = as.reverse ++ .ref a :: rest) (hr : ∀ v h', Qc v h' → Go p l e R s m args below meth c n0 Q K N h' ce' sl' (mkF m pc' Ls (v.toList ++ rest))) : Go p l e R s m args below meth c n0 Q K N h ce sl (mkF m pc Ls st) := by
  subst hp hce hsl
  intro T locs X eT Nn
  have hZ := C.2.2.2.1
  obtain ⟨v, _, ⟨T', L', k', n'⟩, -, X', ⟨Lc, hQ, l', y', z'⟩, stp⟩ := X.specialBack C.1 (y := y) hyn C.2.2.2.2.1 (mvT hZ w1) (mvT hZ w2) (mvT hZ w4) hy (back_of_sat S hZ w3 w4 hfr hlo) (g := mkF m pc Ls st) rfl (hls.trans C.2.2.1.symm) (Steps.refl _) (a := a) (argsL := as) (rest := rest) (lenOf hpd hlen) hst (by show 2 * 0 + wt rest ≤ W; omega) (hb C.2.1 hd) (fun _ _ => ⟨rfl, eT, hcc, hss⟩)
  dsimp only [Pt.U, Pt.locs, Pt.cells, Pt.slots] at X' l' y' z' stp hQ
  subst l' y' z'
  obtain ⟨s₂, o, h1, r⟩ := hr v T'.heap hQ.1 T' _ X' rfl (Fr.app Nn hQ.2)
  exact ⟨s₂, o, stp.trans h1, r⟩
theorem go_virtual (C : Cx p s m meth c Z own bs mx rt nm) {y : MethodName} {i : Nat} {cb : ByteArray} {cm : Nat} {cr : Option FieldType} {rm : Room} {as rest : List Value} {W : Nat} {ps : List FieldType} {pr : Option FieldType} {ce' sl' : Nat} {a : Addr} {C0 : String} {Qc : Option Value → Heap → Prop} (S : Sat l Z y cb cm cr rm (.ref a :: as) h n0 Qc) (E : Exa Z h a C0) (w1 : (Jvm.Cond.methodLink own i y).before a0 Z = true) (w5 : (Jvm.Cond.declares y).before a0 Z = true) (w6 : (Jvm.Cond.selects C0 y y).before a0 Z = true) (w2 : (Jvm.Cond.instanceMethod y).before a0 Z = true) (w3 : (Jvm.Cond.initialized y.cls).before a0 Z = true) (w4 : (Jvm.Cond.code y cb cm cr).before a0 Z = true) (hy : y.cls ≠ "java/lang/invoke/MethodHandle" ∧ y.cls ≠ "java/lang/invoke/VarHandle") (hpd : parseMethodDescriptor y.desc = some ⟨ps, pr⟩) (hlen : as.length = ps.length) (hls : Ls.size = mx) (hW : wt rest = W) (hfr : rm.frames + 1 ≤ R.frames) (hlo : W + (cm + 11) + rm.locals ≤ R.locals) (hce : ce + rm.cells = ce') (hsl : sl + rm.slots = sl') (hcc : ce' ≤ R.cells) (hss : sl' ≤ R.slots) (hd : decode bs pc = .ok (.invokevirtual i, 3)) (hp : pc + 3 = pc') (hst : st = as.reverse ++ .ref a :: rest) (hr : ∀ v h', Qc v h' → Go p l e R s m args below meth c n0 Q K N h' ce' sl' (mkF m pc' Ls (v.toList ++ rest))) : Go p l e R s m args below meth c n0 Q K N h ce sl (mkF m pc Ls st) := by
  subst hp hce hsl
  intro T locs X eT Nn
  have hZ := C.2.2.2.1
  obtain ⟨cq, kq, qa, qb, qc⟩ := isOf hZ eT E
  obtain ⟨v, _, ⟨T', L', k', n'⟩, -, X', ⟨Lc, hQ, l', y', z'⟩, stp⟩ := X.virtualBack C.1 (y := y) (z := y) C.2.2.2.2.1 (mvT hZ w1) (mvT hZ w5) (notFace_of_selects (args := #[]) (mvT hZ w6)) (mvT hZ w6) (mvT hZ w2) hy (back_of_sat S hZ w3 w4 hfr hlo) qa qc (g := mkF m pc Ls st) rfl (hls.trans C.2.2.1.symm) (Steps.refl _) (argsL := as) (rest := rest) (lenOf hpd hlen) hst (by show 2 * 0 + wt rest ≤ W; omega) (hb C.2.1 hd) (fun _ _ => ⟨rfl, eT, hcc, hss⟩)
  dsimp only [Pt.U, Pt.locs, Pt.cells, Pt.slots] at X' l' y' z' stp hQ
  subst l' y' z'
  obtain ⟨s₂, o, h1, r⟩ := hr v T'.heap hQ.1 T' _ X' rfl (Fr.app Nn hQ.2)
  exact ⟨s₂, o, stp.trans h1, r⟩
theorem go_private (C : Cx p s m meth c Z own bs mx rt nm) {y : MethodName} {i : Nat} {cb : ByteArray} {cm : Nat} {cr : Option FieldType} {rm : Room} {as rest : List Value} {W : Nat} {ps : List FieldType} {pr : Option FieldType} {ce' sl' : Nat} {a : Addr} {C0 : String} {Qc : Option Value → Heap → Prop} (S : Sat l Z y cb cm cr rm (.ref a :: as) h n0 Qc) (E : Exa Z h a C0) (w1 : (Jvm.Cond.methodLink own i y).before a0 Z = true) (w5 : (Jvm.Cond.privateMethod y).before a0 Z = true) (w6 : (Jvm.Cond.selects y.cls y y).before a0 Z = true) (w2 : (Jvm.Cond.instanceMethod y).before a0 Z = true) (w3 : (Jvm.Cond.initialized y.cls).before a0 Z = true) (w4 : (Jvm.Cond.code y cb cm cr).before a0 Z = true) (hy : y.cls ≠ "java/lang/invoke/MethodHandle" ∧ y.cls ≠ "java/lang/invoke/VarHandle") (hpd : parseMethodDescriptor y.desc = some ⟨ps, pr⟩) (hlen : as.length = ps.length) (hls : Ls.size = mx) (hW : wt rest = W) (hfr : rm.frames + 1 ≤ R.frames) (hlo : W + (cm + 11) + rm.locals ≤ R.locals) (hce : ce + rm.cells = ce') (hsl : sl + rm.slots = sl') (hcc : ce' ≤ R.cells) (hss : sl' ≤ R.slots) (hd : decode bs pc = .ok (.invokevirtual i, 3)) (hp : pc + 3 = pc') (hst : st = as.reverse ++ .ref a :: rest) (hr : ∀ v h', Qc v h' → Go p l e R s m args below meth c n0 Q K N h' ce' sl' (mkF m pc' Ls (v.toList ++ rest))) : Go p l e R s m args below meth c n0 Q K N h ce sl (mkF m pc Ls st) := by
  subst hp hce hsl
  intro T locs X eT Nn
  have hZ := C.2.2.2.1
  obtain ⟨cell, hc1, hc2⟩ := E.cell
  obtain ⟨v, _, ⟨T', L', k', n'⟩, -, X', ⟨Lc, hQ, l', y', z'⟩, stp⟩ := X.privateBack C.1 (y := y) C.2.2.2.2.1 (mvT hZ w1) (mvT hZ w2) (mvT hZ w6) (Cond.privateMethod_at (args := #[]) (mvP hZ w5)) (mvT hZ w4) hy (back_of_sat S hZ w3 w4 hfr hlo) (g := mkF m pc Ls st) rfl (hls.trans C.2.2.1.symm) (Steps.refl _) (a := a) (by rw [eT]; exact hc1) hc2 (argsL := as) (rest := rest) (lenOf hpd hlen) hst (by show 2 * 0 + wt rest ≤ W; omega) (hb C.2.1 hd) (fun _ _ => ⟨rfl, eT, hcc, hss⟩)
  dsimp only [Pt.U, Pt.locs, Pt.cells, Pt.slots] at X' l' y' z' stp hQ
  subst l' y' z'
  obtain ⟨s₂, o, h1, r⟩ := hr v T'.heap hQ.1 T' _ X' rfl (Fr.app Nn hQ.2)
  exact ⟨s₂, o, stp.trans h1, r⟩
theorem own_selects_private {y : MethodName} {k : Nat} (wi : (Jvm.Cond.instantiable y.cls k).before a0 Z = true) (wp : (Jvm.Cond.privateMethod y).before a0 Z = true) (wm : (Jvm.Cond.instanceMethod y).before a0 Z = true) (hy : y.cls ≠ "java/lang/invoke/MethodHandle" ∧ y.cls ≠ "java/lang/invoke/VarHandle") : (Jvm.Cond.selects y.cls y y).before a0 Z = true := by
  obtain ⟨mk, methM, hnamed, hmethM, hstM, habM⟩ := Cond.instanceMethod_spec wm
  obtain ⟨c1, k1, q1, q2, q3, q4, -⟩ := Cond.instantiable_spec wi
  have hc := findClass_of_methodNamed hnamed
  cases q1.symm.trans hc
  have hf := State.methodFound?_of_named hnamed hy
  have hs : selectMethod {} Z.vm mk.cls mk = .method mk := selectMethod_private hmethM (Cond.privateMethod_at wp mk methM hnamed hmethM)
  have hi : k1.isInterface = false := by
    cases h : k1.isInterface
    · rfl
    · rw [h] at q4; simp at q4
  simp [Cond.before, Cond.holds, Cond.value, hc, hf, hnamed, hs, q2, hi]
theorem go_specialW (C : Cx p s m meth c Z own bs mx rt nm) {y : MethodName} {i : Nat} {cb : ByteArray} {cm : Nat} {rm : Room} {as rest : List Value} {W : Nat} {ps : List FieldType} {pr : Option FieldType} {ce' sl' : Nat} {a : Addr} {Qc : Option Value → Heap → Prop} (S : Sat l Z y cb cm none rm (.ref a :: as) h n0 Qc) (hyn : y.name = "<init>") (w1 : (Jvm.Cond.methodRef own i y).before a0 Z = true) (w2 : (Jvm.Cond.instanceMethod y).before a0 Z = true) (w3 : (Jvm.Cond.initialized y.cls).before a0 Z = true) (w4 : (Jvm.Cond.code y cb cm none).before a0 Z = true) (hy : y.cls ≠ "java/lang/invoke/MethodHandle" ∧ y.cls ≠ "java/lang/invoke/VarHandle") (hpd : parseMethodDescriptor y.desc = some ⟨ps, pr⟩) (hlen : as.length = ps.length) (hls : Ls.size = mx) (hW : wt rest = W) (hfr : rm.frames + 1 ≤ R.frames) (hlo : W + (cm + 11) + rm.locals ≤ R.locals) (hce : ce + rm.cells = ce') (hsl : sl + rm.slots = sl') (hcc : ce' ≤ R.cells) (hss : sl' ≤ R.slots) (hd : decode bs pc = .ok (.invokespecial i, 3)) (hp : pc + 3 = pc') (hst : st = as.reverse ++ .ref a :: rest) (hr : ∀ v h', Qc v h' → Go p l e R s m args below meth c n0 Q K N h' ce' sl' (mkF m pc' Ls (v.toList ++ rest))) : Go p l e R s m args below meth c n0 Q K N h ce sl (mkF m pc Ls st) := by
  subst hp hce hsl
  intro T locs X eT Nn
  have hZ := C.2.2.2.1
  have hT : Z.Warmed39 T.vm := wtrans hZ X.warmed
  obtain ⟨mZ, _, hnZ, -⟩ := Cond.instanceMethod_spec w2
  have w1T : (Jvm.Cond.methodRef own i y).before a0 T = true := (Cond.methodRef_warmed39 hT hnZ hy w1 :)
  obtain ⟨mO, methO, hnO, hmO, hstO, habO⟩ := Cond.instanceMethod_spec (mv (args := a0) hT w2)
  obtain ⟨methO', cO, hmO', hcO, hbO, hlO, -, hlockO, -, hsigO⟩ := Cond.code_spec hnO (mv (args := a0) hT w4)
  cases hmO.symm.trans hmO'
  obtain ⟨kO, hkO, hnameO⟩ := className_of_methodNamed hnO
  obtain ⟨hnameMO, hdescO⟩ := name_of_methodNamed hnO hmO
  have hownT : T.vm.findClass own = some m.cls := by rw [X.warmed.alike.findClass]; exact C.2.2.2.2.1
  obtain ⟨m', c', hf', hready, hfc, hnr⟩ := Cond.methodRef_named e hownT w1T
  have e1 : m' = mO := Option.some.inj (hf'.symm.trans (State.methodFound?_of_named hnO hy))
  subst e1
  have e2 : c' = m'.cls := Option.some.inj (hfc.symm.trans (findClass_of_methodNamed hnO))
  subst e2
  have hfound : lookupSpecial T.vm m'.cls "<init>" methO.desc = .method m' := by rw [hdescO, ← hyn]; exact lookupSpecial_of_named hnO hmO hstO
  have hstep : ∀ target, (∀ acts, Steps p.tables e below (doInvoke e (T.setTop { mkF m pc Ls st with stack := rest }) acts m' (.ref a :: as).toArray).1 target) → Steps p.tables e below (T.setTop (mkF m pc Ls st)) target := fun target hrest => by
    jvm_step X.here [C.1, (hb C.2.1 hd), invokespecial.wp_init (e := e) (s := T) (k := kO) (meth := methO) (m := m') (a := a) (args := as) (rest := rest) (f := mkF m pc Ls st) X.here.top hnr hready hkO hmO (by rw [hnameMO]; exact hyn) hstO habO hfound (lenOf hpd hlen _ hsigO) hst]
    exact hrest
  have B := back_of_sat (p := p) (e := e) (below := below) (args := args) (R := R) (len := 3) S hZ w3 w4 hfr hlo
  obtain ⟨v, ⟨T', L', k', n'⟩, X', ⟨Lc, hQ, l', y', z'⟩, stp⟩ := B m meth c ⟨T, locs, ce, sl⟩ { mkF m pc Ls st with stack := rest } (.invokespecial i) m' (.ref a :: as).toArray X rfl (hls.trans C.2.2.1.symm) (hb C.2.1 hd) (by show 2 * 0 + wt rest ≤ W; omega) hnO ⟨rfl, eT, hcc, hss⟩
  dsimp only [Pt.U, Pt.locs, Pt.cells, Pt.slots] at X' l' y' z' stp hQ
  subst l' y' z'
  obtain ⟨s₂, o, h1, r⟩ := hr v T'.heap hQ.1 T' _ X' rfl (Fr.app Nn hQ.2)
  exact ⟨s₂, o, (hstep _ (fun acts => by rw [doInvoke_state]; exact Steps.refl _)).trans (stp.trans h1), r⟩
theorem go_staticP (C : Cx p s m meth c Z own bs mx rt nm) {y : MethodName} {i : Nat} {cb : ByteArray} {cm : Nat} {cr : Option FieldType} {rm : Room} {as rest : List Value} {W : Nat} {ps : List FieldType} {pr : Option FieldType}  (v : Value) (S : Sat l Z y cb cm cr rm as h n0 (RV fun r h' => r = v ∧ h' = h)) (w1 : (Jvm.Cond.methodLink own i y).before a0 Z = true) (w2 : (Jvm.Cond.static y).before a0 Z = true) (w3 : (Jvm.Cond.initialized y.cls).before a0 Z = true) (w4 : (Jvm.Cond.code y cb cm cr).before a0 Z = true) (hy : y.cls ≠ "java/lang/invoke/MethodHandle" ∧ y.cls ≠ "java/lang/invoke/VarHandle") (hpd : parseMethodDescriptor y.desc = some ⟨ps, pr⟩) (hlen : as.length = ps.length) (hls : Ls.size = mx) (hW : wt rest = W) (hfr : rm.frames + 1 ≤ R.frames) (hlo : W + (cm + 11) + rm.locals ≤ R.locals) (hce : rm.cells = 0) (hsl : rm.slots = 0) (hcc : ce ≤ R.cells) (hss : sl ≤ R.slots) (hd : decode bs pc = .ok (.invokestatic i, 3)) (hp : pc + 3 = pc') (hst : st = as.reverse ++ rest) (hr : Go p l e R s m args below meth c n0 Q K N h ce sl (mkF m pc' Ls (v :: rest))) : Go p l e R s m args below meth c n0 Q K N h ce sl (mkF m pc Ls st) :=
  go_static C S w1 w2 w3 w4 hy hpd hlen hls hW hfr hlo (by rw [hce]; rfl) (by rw [hsl]; rfl) hcc hss hd hp hst (fun w h' hq => by obtain ⟨r, rfl, q1, q2⟩ := hq; rw [q1, q2]; exact hr)
theorem go_staticV (C : Cx p s m meth c Z own bs mx rt nm) {y : MethodName} {i : Nat} {cb : ByteArray} {cm : Nat} {cr : Option FieldType} {rm : Room} {as rest : List Value} {W : Nat} {ps : List FieldType} {pr : Option FieldType} {ce' sl' : Nat}  {P : Value → Heap → Prop} (S : Sat l Z y cb cm cr rm as h n0 (RV P)) (w1 : (Jvm.Cond.methodLink own i y).before a0 Z = true) (w2 : (Jvm.Cond.static y).before a0 Z = true) (w3 : (Jvm.Cond.initialized y.cls).before a0 Z = true) (w4 : (Jvm.Cond.code y cb cm cr).before a0 Z = true) (hy : y.cls ≠ "java/lang/invoke/MethodHandle" ∧ y.cls ≠ "java/lang/invoke/VarHandle") (hpd : parseMethodDescriptor y.desc = some ⟨ps, pr⟩) (hlen : as.length = ps.length) (hls : Ls.size = mx) (hW : wt rest = W) (hfr : rm.frames + 1 ≤ R.frames) (hlo : W + (cm + 11) + rm.locals ≤ R.locals) (hce : ce + rm.cells = ce') (hsl : sl + rm.slots = sl') (hcc : ce' ≤ R.cells) (hss : sl' ≤ R.slots) (hd : decode bs pc = .ok (.invokestatic i, 3)) (hp : pc + 3 = pc') (hst : st = as.reverse ++ rest) (hr : ∀ r h', P r h' → Go p l e R s m args below meth c n0 Q K N h' ce' sl' (mkF m pc' Ls (r :: rest))) : Go p l e R s m args below meth c n0 Q K N h ce sl (mkF m pc Ls st) :=
  go_static C S w1 w2 w3 w4 hy hpd hlen hls hW hfr hlo hce hsl hcc hss hd hp hst (fun v h' hq => by obtain ⟨r, rfl, q⟩ := hq; exact hr r h' q)
theorem go_staticN (C : Cx p s m meth c Z own bs mx rt nm) {y : MethodName} {i : Nat} {cb : ByteArray} {cm : Nat} {cr : Option FieldType} {rm : Room} {as rest : List Value} {W : Nat} {ps : List FieldType} {pr : Option FieldType} {ce' sl' : Nat}  {P : Heap → Prop} (S : Sat l Z y cb cm cr rm as h n0 (RN P)) (w1 : (Jvm.Cond.methodLink own i y).before a0 Z = true) (w2 : (Jvm.Cond.static y).before a0 Z = true) (w3 : (Jvm.Cond.initialized y.cls).before a0 Z = true) (w4 : (Jvm.Cond.code y cb cm cr).before a0 Z = true) (hy : y.cls ≠ "java/lang/invoke/MethodHandle" ∧ y.cls ≠ "java/lang/invoke/VarHandle") (hpd : parseMethodDescriptor y.desc = some ⟨ps, pr⟩) (hlen : as.length = ps.length) (hls : Ls.size = mx) (hW : wt rest = W) (hfr : rm.frames + 1 ≤ R.frames) (hlo : W + (cm + 11) + rm.locals ≤ R.locals) (hce : ce + rm.cells = ce') (hsl : sl + rm.slots = sl') (hcc : ce' ≤ R.cells) (hss : sl' ≤ R.slots) (hd : decode bs pc = .ok (.invokestatic i, 3)) (hp : pc + 3 = pc') (hst : st = as.reverse ++ rest) (hr : ∀ h', P h' → Go p l e R s m args below meth c n0 Q K N h' ce' sl' (mkF m pc' Ls rest)) : Go p l e R s m args below meth c n0 Q K N h ce sl (mkF m pc Ls st) :=
  go_static C S w1 w2 w3 w4 hy hpd hlen hls hW hfr hlo hce hsl hcc hss hd hp hst (fun v h' hq => by obtain ⟨rfl, q⟩ := hq; exact hr h' q)
theorem go_virtualP (C : Cx p s m meth c Z own bs mx rt nm) {y : MethodName} {i : Nat} {cb : ByteArray} {cm : Nat} {cr : Option FieldType} {rm : Room} {as rest : List Value} {W : Nat} {ps : List FieldType} {pr : Option FieldType} {a : Addr} {C0 : String} (v : Value) (S : Sat l Z y cb cm cr rm (.ref a :: as) h n0 (RV fun r h' => r = v ∧ h' = h)) (E : Exa Z h a C0) (w1 : (Jvm.Cond.methodLink own i y).before a0 Z = true) (w5 : (Jvm.Cond.declares y).before a0 Z = true) (w6 : (Jvm.Cond.selects C0 y y).before a0 Z = true) (w2 : (Jvm.Cond.instanceMethod y).before a0 Z = true) (w3 : (Jvm.Cond.initialized y.cls).before a0 Z = true) (w4 : (Jvm.Cond.code y cb cm cr).before a0 Z = true) (hy : y.cls ≠ "java/lang/invoke/MethodHandle" ∧ y.cls ≠ "java/lang/invoke/VarHandle") (hpd : parseMethodDescriptor y.desc = some ⟨ps, pr⟩) (hlen : as.length = ps.length) (hls : Ls.size = mx) (hW : wt rest = W) (hfr : rm.frames + 1 ≤ R.frames) (hlo : W + (cm + 11) + rm.locals ≤ R.locals) (hce : rm.cells = 0) (hsl : rm.slots = 0) (hcc : ce ≤ R.cells) (hss : sl ≤ R.slots) (hd : decode bs pc = .ok (.invokevirtual i, 3)) (hp : pc + 3 = pc') (hst : st = as.reverse ++ .ref a :: rest) (hr : Go p l e R s m args below meth c n0 Q K N h ce sl (mkF m pc' Ls (v :: rest))) : Go p l e R s m args below meth c n0 Q K N h ce sl (mkF m pc Ls st) :=
  go_virtual C S E w1 w5 w6 w2 w3 w4 hy hpd hlen hls hW hfr hlo (by rw [hce]; rfl) (by rw [hsl]; rfl) hcc hss hd hp hst (fun w h' hq => by obtain ⟨r, rfl, q1, q2⟩ := hq; rw [q1, q2]; exact hr)
theorem go_virtualV (C : Cx p s m meth c Z own bs mx rt nm) {y : MethodName} {i : Nat} {cb : ByteArray} {cm : Nat} {cr : Option FieldType} {rm : Room} {as rest : List Value} {W : Nat} {ps : List FieldType} {pr : Option FieldType} {ce' sl' : Nat} {a : Addr} {C0 : String} {P : Value → Heap → Prop} (S : Sat l Z y cb cm cr rm (.ref a :: as) h n0 (RV P)) (E : Exa Z h a C0) (w1 : (Jvm.Cond.methodLink own i y).before a0 Z = true) (w5 : (Jvm.Cond.declares y).before a0 Z = true) (w6 : (Jvm.Cond.selects C0 y y).before a0 Z = true) (w2 : (Jvm.Cond.instanceMethod y).before a0 Z = true) (w3 : (Jvm.Cond.initialized y.cls).before a0 Z = true) (w4 : (Jvm.Cond.code y cb cm cr).before a0 Z = true) (hy : y.cls ≠ "java/lang/invoke/MethodHandle" ∧ y.cls ≠ "java/lang/invoke/VarHandle") (hpd : parseMethodDescriptor y.desc = some ⟨ps, pr⟩) (hlen : as.length = ps.length) (hls : Ls.size = mx) (hW : wt rest = W) (hfr : rm.frames + 1 ≤ R.frames) (hlo : W + (cm + 11) + rm.locals ≤ R.locals) (hce : ce + rm.cells = ce') (hsl : sl + rm.slots = sl') (hcc : ce' ≤ R.cells) (hss : sl' ≤ R.slots) (hd : decode bs pc = .ok (.invokevirtual i, 3)) (hp : pc + 3 = pc') (hst : st = as.reverse ++ .ref a :: rest) (hr : ∀ r h', P r h' → Go p l e R s m args below meth c n0 Q K N h' ce' sl' (mkF m pc' Ls (r :: rest))) : Go p l e R s m args below meth c n0 Q K N h ce sl (mkF m pc Ls st) :=
  go_virtual C S E w1 w5 w6 w2 w3 w4 hy hpd hlen hls hW hfr hlo hce hsl hcc hss hd hp hst (fun v h' hq => by obtain ⟨r, rfl, q⟩ := hq; exact hr r h' q)
theorem go_virtualN (C : Cx p s m meth c Z own bs mx rt nm) {y : MethodName} {i : Nat} {cb : ByteArray} {cm : Nat} {cr : Option FieldType} {rm : Room} {as rest : List Value} {W : Nat} {ps : List FieldType} {pr : Option FieldType} {ce' sl' : Nat} {a : Addr} {C0 : String} {P : Heap → Prop} (S : Sat l Z y cb cm cr rm (.ref a :: as) h n0 (RN P)) (E : Exa Z h a C0) (w1 : (Jvm.Cond.methodLink own i y).before a0 Z = true) (w5 : (Jvm.Cond.declares y).before a0 Z = true) (w6 : (Jvm.Cond.selects C0 y y).before a0 Z = true) (w2 : (Jvm.Cond.instanceMethod y).before a0 Z = true) (w3 : (Jvm.Cond.initialized y.cls).before a0 Z = true) (w4 : (Jvm.Cond.code y cb cm cr).before a0 Z = true) (hy : y.cls ≠ "java/lang/invoke/MethodHandle" ∧ y.cls ≠ "java/lang/invoke/VarHandle") (hpd : parseMethodDescriptor y.desc = some ⟨ps, pr⟩) (hlen : as.length = ps.length) (hls : Ls.size = mx) (hW : wt rest = W) (hfr : rm.frames + 1 ≤ R.frames) (hlo : W + (cm + 11) + rm.locals ≤ R.locals) (hce : ce + rm.cells = ce') (hsl : sl + rm.slots = sl') (hcc : ce' ≤ R.cells) (hss : sl' ≤ R.slots) (hd : decode bs pc = .ok (.invokevirtual i, 3)) (hp : pc + 3 = pc') (hst : st = as.reverse ++ .ref a :: rest) (hr : ∀ h', P h' → Go p l e R s m args below meth c n0 Q K N h' ce' sl' (mkF m pc' Ls rest)) : Go p l e R s m args below meth c n0 Q K N h ce sl (mkF m pc Ls st) :=
  go_virtual C S E w1 w5 w6 w2 w3 w4 hy hpd hlen hls hW hfr hlo hce hsl hcc hss hd hp hst (fun v h' hq => by obtain ⟨rfl, q⟩ := hq; exact hr h' q)
theorem go_privateP (C : Cx p s m meth c Z own bs mx rt nm) {y : MethodName} {i : Nat} {cb : ByteArray} {cm : Nat} {cr : Option FieldType} {rm : Room} {as rest : List Value} {W : Nat} {ps : List FieldType} {pr : Option FieldType} {a : Addr} {C0 : String} (v : Value) (S : Sat l Z y cb cm cr rm (.ref a :: as) h n0 (RV fun r h' => r = v ∧ h' = h)) (E : Exa Z h a C0) (w1 : (Jvm.Cond.methodLink own i y).before a0 Z = true) (w5 : (Jvm.Cond.privateMethod y).before a0 Z = true) (w6 : (Jvm.Cond.selects y.cls y y).before a0 Z = true) (w2 : (Jvm.Cond.instanceMethod y).before a0 Z = true) (w3 : (Jvm.Cond.initialized y.cls).before a0 Z = true) (w4 : (Jvm.Cond.code y cb cm cr).before a0 Z = true) (hy : y.cls ≠ "java/lang/invoke/MethodHandle" ∧ y.cls ≠ "java/lang/invoke/VarHandle") (hpd : parseMethodDescriptor y.desc = some ⟨ps, pr⟩) (hlen : as.length = ps.length) (hls : Ls.size = mx) (hW : wt rest = W) (hfr : rm.frames + 1 ≤ R.frames) (hlo : W + (cm + 11) + rm.locals ≤ R.locals) (hce : rm.cells = 0) (hsl : rm.slots = 0) (hcc : ce ≤ R.cells) (hss : sl ≤ R.slots) (hd : decode bs pc = .ok (.invokevirtual i, 3)) (hp : pc + 3 = pc') (hst : st = as.reverse ++ .ref a :: rest) (hr : Go p l e R s m args below meth c n0 Q K N h ce sl (mkF m pc' Ls (v :: rest))) : Go p l e R s m args below meth c n0 Q K N h ce sl (mkF m pc Ls st) :=
  go_private C S E w1 w5 w6 w2 w3 w4 hy hpd hlen hls hW hfr hlo (by rw [hce]; rfl) (by rw [hsl]; rfl) hcc hss hd hp hst (fun w h' hq => by obtain ⟨r, rfl, q1, q2⟩ := hq; rw [q1, q2]; exact hr)
theorem go_privateV (C : Cx p s m meth c Z own bs mx rt nm) {y : MethodName} {i : Nat} {cb : ByteArray} {cm : Nat} {cr : Option FieldType} {rm : Room} {as rest : List Value} {W : Nat} {ps : List FieldType} {pr : Option FieldType} {ce' sl' : Nat} {a : Addr} {C0 : String} {P : Value → Heap → Prop} (S : Sat l Z y cb cm cr rm (.ref a :: as) h n0 (RV P)) (E : Exa Z h a C0) (w1 : (Jvm.Cond.methodLink own i y).before a0 Z = true) (w5 : (Jvm.Cond.privateMethod y).before a0 Z = true) (w6 : (Jvm.Cond.selects y.cls y y).before a0 Z = true) (w2 : (Jvm.Cond.instanceMethod y).before a0 Z = true) (w3 : (Jvm.Cond.initialized y.cls).before a0 Z = true) (w4 : (Jvm.Cond.code y cb cm cr).before a0 Z = true) (hy : y.cls ≠ "java/lang/invoke/MethodHandle" ∧ y.cls ≠ "java/lang/invoke/VarHandle") (hpd : parseMethodDescriptor y.desc = some ⟨ps, pr⟩) (hlen : as.length = ps.length) (hls : Ls.size = mx) (hW : wt rest = W) (hfr : rm.frames + 1 ≤ R.frames) (hlo : W + (cm + 11) + rm.locals ≤ R.locals) (hce : ce + rm.cells = ce') (hsl : sl + rm.slots = sl') (hcc : ce' ≤ R.cells) (hss : sl' ≤ R.slots) (hd : decode bs pc = .ok (.invokevirtual i, 3)) (hp : pc + 3 = pc') (hst : st = as.reverse ++ .ref a :: rest) (hr : ∀ r h', P r h' → Go p l e R s m args below meth c n0 Q K N h' ce' sl' (mkF m pc' Ls (r :: rest))) : Go p l e R s m args below meth c n0 Q K N h ce sl (mkF m pc Ls st) :=
  go_private C S E w1 w5 w6 w2 w3 w4 hy hpd hlen hls hW hfr hlo hce hsl hcc hss hd hp hst (fun v h' hq => by obtain ⟨r, rfl, q⟩ := hq; exact hr r h' q)
theorem go_privateN (C : Cx p s m meth c Z own bs mx rt nm) {y : MethodName} {i : Nat} {cb : ByteArray} {cm : Nat} {cr : Option FieldType} {rm : Room} {as rest : List Value} {W : Nat} {ps : List FieldType} {pr : Option FieldType} {ce' sl' : Nat} {a : Addr} {C0 : String} {P : Heap → Prop} (S : Sat l Z y cb cm cr rm (.ref a :: as) h n0 (RN P)) (E : Exa Z h a C0) (w1 : (Jvm.Cond.methodLink own i y).before a0 Z = true) (w5 : (Jvm.Cond.privateMethod y).before a0 Z = true) (w6 : (Jvm.Cond.selects y.cls y y).before a0 Z = true) (w2 : (Jvm.Cond.instanceMethod y).before a0 Z = true) (w3 : (Jvm.Cond.initialized y.cls).before a0 Z = true) (w4 : (Jvm.Cond.code y cb cm cr).before a0 Z = true) (hy : y.cls ≠ "java/lang/invoke/MethodHandle" ∧ y.cls ≠ "java/lang/invoke/VarHandle") (hpd : parseMethodDescriptor y.desc = some ⟨ps, pr⟩) (hlen : as.length = ps.length) (hls : Ls.size = mx) (hW : wt rest = W) (hfr : rm.frames + 1 ≤ R.frames) (hlo : W + (cm + 11) + rm.locals ≤ R.locals) (hce : ce + rm.cells = ce') (hsl : sl + rm.slots = sl') (hcc : ce' ≤ R.cells) (hss : sl' ≤ R.slots) (hd : decode bs pc = .ok (.invokevirtual i, 3)) (hp : pc + 3 = pc') (hst : st = as.reverse ++ .ref a :: rest) (hr : ∀ h', P h' → Go p l e R s m args below meth c n0 Q K N h' ce' sl' (mkF m pc' Ls rest)) : Go p l e R s m args below meth c n0 Q K N h ce sl (mkF m pc Ls st) :=
  go_private C S E w1 w5 w6 w2 w3 w4 hy hpd hlen hls hW hfr hlo hce hsl hcc hss hd hp hst (fun v h' hq => by obtain ⟨rfl, q⟩ := hq; exact hr h' q)
theorem go_specialV (C : Cx p s m meth c Z own bs mx rt nm) {y : MethodName} {i : Nat} {cb : ByteArray} {cm : Nat} {rm : Room} {as rest : List Value} {W : Nat} {ps : List FieldType} {pr : Option FieldType} {ce' sl' : Nat} {a : Addr} {P : Value → Heap → Prop} (S : Sat l Z y cb cm none rm (.ref a :: as) h n0 (RV P)) (hyn : y.name = "<init>") (w1 : (Jvm.Cond.methodLink own i y).before a0 Z = true) (w2 : (Jvm.Cond.instanceMethod y).before a0 Z = true) (w3 : (Jvm.Cond.initialized y.cls).before a0 Z = true) (w4 : (Jvm.Cond.code y cb cm none).before a0 Z = true) (hy : y.cls ≠ "java/lang/invoke/MethodHandle" ∧ y.cls ≠ "java/lang/invoke/VarHandle") (hpd : parseMethodDescriptor y.desc = some ⟨ps, pr⟩) (hlen : as.length = ps.length) (hls : Ls.size = mx) (hW : wt rest = W) (hfr : rm.frames + 1 ≤ R.frames) (hlo : W + (cm + 11) + rm.locals ≤ R.locals) (hce : ce + rm.cells = ce') (hsl : sl + rm.slots = sl') (hcc : ce' ≤ R.cells) (hss : sl' ≤ R.slots) (hd : decode bs pc = .ok (.invokespecial i, 3)) (hp : pc + 3 = pc') (hst : st = as.reverse ++ .ref a :: rest) (hr : ∀ r h', P r h' → Go p l e R s m args below meth c n0 Q K N h' ce' sl' (mkF m pc' Ls (r :: rest))) : Go p l e R s m args below meth c n0 Q K N h ce sl (mkF m pc Ls st) :=
  go_special C S hyn w1 w2 w3 w4 hy hpd hlen hls hW hfr hlo hce hsl hcc hss hd hp hst (fun v h' hq => by obtain ⟨r, rfl, q⟩ := hq; exact hr r h' q)
theorem go_specialN (C : Cx p s m meth c Z own bs mx rt nm) {y : MethodName} {i : Nat} {cb : ByteArray} {cm : Nat} {rm : Room} {as rest : List Value} {W : Nat} {ps : List FieldType} {pr : Option FieldType} {ce' sl' : Nat} {a : Addr} {P : Heap → Prop} (S : Sat l Z y cb cm none rm (.ref a :: as) h n0 (RN P)) (hyn : y.name = "<init>") (w1 : (Jvm.Cond.methodLink own i y).before a0 Z = true) (w2 : (Jvm.Cond.instanceMethod y).before a0 Z = true) (w3 : (Jvm.Cond.initialized y.cls).before a0 Z = true) (w4 : (Jvm.Cond.code y cb cm none).before a0 Z = true) (hy : y.cls ≠ "java/lang/invoke/MethodHandle" ∧ y.cls ≠ "java/lang/invoke/VarHandle") (hpd : parseMethodDescriptor y.desc = some ⟨ps, pr⟩) (hlen : as.length = ps.length) (hls : Ls.size = mx) (hW : wt rest = W) (hfr : rm.frames + 1 ≤ R.frames) (hlo : W + (cm + 11) + rm.locals ≤ R.locals) (hce : ce + rm.cells = ce') (hsl : sl + rm.slots = sl') (hcc : ce' ≤ R.cells) (hss : sl' ≤ R.slots) (hd : decode bs pc = .ok (.invokespecial i, 3)) (hp : pc + 3 = pc') (hst : st = as.reverse ++ .ref a :: rest) (hr : ∀ h', P h' → Go p l e R s m args below meth c n0 Q K N h' ce' sl' (mkF m pc' Ls rest)) : Go p l e R s m args below meth c n0 Q K N h ce sl (mkF m pc Ls st) :=
  go_special C S hyn w1 w2 w3 w4 hy hpd hlen hls hW hfr hlo hce hsl hcc hss hd hp hst (fun v h' hq => by obtain ⟨rfl, q⟩ := hq; exact hr h' q)
theorem go_specialWV (C : Cx p s m meth c Z own bs mx rt nm) {y : MethodName} {i : Nat} {cb : ByteArray} {cm : Nat} {rm : Room} {as rest : List Value} {W : Nat} {ps : List FieldType} {pr : Option FieldType} {ce' sl' : Nat} {a : Addr} {P : Value → Heap → Prop} (S : Sat l Z y cb cm none rm (.ref a :: as) h n0 (RV P)) (hyn : y.name = "<init>") (w1 : (Jvm.Cond.methodRef own i y).before a0 Z = true) (w2 : (Jvm.Cond.instanceMethod y).before a0 Z = true) (w3 : (Jvm.Cond.initialized y.cls).before a0 Z = true) (w4 : (Jvm.Cond.code y cb cm none).before a0 Z = true) (hy : y.cls ≠ "java/lang/invoke/MethodHandle" ∧ y.cls ≠ "java/lang/invoke/VarHandle") (hpd : parseMethodDescriptor y.desc = some ⟨ps, pr⟩) (hlen : as.length = ps.length) (hls : Ls.size = mx) (hW : wt rest = W) (hfr : rm.frames + 1 ≤ R.frames) (hlo : W + (cm + 11) + rm.locals ≤ R.locals) (hce : ce + rm.cells = ce') (hsl : sl + rm.slots = sl') (hcc : ce' ≤ R.cells) (hss : sl' ≤ R.slots) (hd : decode bs pc = .ok (.invokespecial i, 3)) (hp : pc + 3 = pc') (hst : st = as.reverse ++ .ref a :: rest) (hr : ∀ r h', P r h' → Go p l e R s m args below meth c n0 Q K N h' ce' sl' (mkF m pc' Ls (r :: rest))) : Go p l e R s m args below meth c n0 Q K N h ce sl (mkF m pc Ls st) :=
  go_specialW C S hyn w1 w2 w3 w4 hy hpd hlen hls hW hfr hlo hce hsl hcc hss hd hp hst (fun v h' hq => by obtain ⟨r, rfl, q⟩ := hq; exact hr r h' q)
theorem go_specialWN (C : Cx p s m meth c Z own bs mx rt nm) {y : MethodName} {i : Nat} {cb : ByteArray} {cm : Nat} {rm : Room} {as rest : List Value} {W : Nat} {ps : List FieldType} {pr : Option FieldType} {ce' sl' : Nat} {a : Addr} {P : Heap → Prop} (S : Sat l Z y cb cm none rm (.ref a :: as) h n0 (RN P)) (hyn : y.name = "<init>") (w1 : (Jvm.Cond.methodRef own i y).before a0 Z = true) (w2 : (Jvm.Cond.instanceMethod y).before a0 Z = true) (w3 : (Jvm.Cond.initialized y.cls).before a0 Z = true) (w4 : (Jvm.Cond.code y cb cm none).before a0 Z = true) (hy : y.cls ≠ "java/lang/invoke/MethodHandle" ∧ y.cls ≠ "java/lang/invoke/VarHandle") (hpd : parseMethodDescriptor y.desc = some ⟨ps, pr⟩) (hlen : as.length = ps.length) (hls : Ls.size = mx) (hW : wt rest = W) (hfr : rm.frames + 1 ≤ R.frames) (hlo : W + (cm + 11) + rm.locals ≤ R.locals) (hce : ce + rm.cells = ce') (hsl : sl + rm.slots = sl') (hcc : ce' ≤ R.cells) (hss : sl' ≤ R.slots) (hd : decode bs pc = .ok (.invokespecial i, 3)) (hp : pc + 3 = pc') (hst : st = as.reverse ++ .ref a :: rest) (hr : ∀ h', P h' → Go p l e R s m args below meth c n0 Q K N h' ce' sl' (mkF m pc' Ls rest)) : Go p l e R s m args below meth c n0 Q K N h ce sl (mkF m pc Ls st) :=
  go_specialW C S hyn w1 w2 w3 w4 hy hpd hlen hls hW hfr hlo hce hsl hcc hss hd hp hst (fun v h' hq => by obtain ⟨rfl, q⟩ := hq; exact hr h' q)
theorem go_ireturnI (C : Cx p s m meth c Z own bs mx rt nm) {z : Int32} (hrt : rt = some .int) (hd : decode bs pc = .ok (.ireturn, 1)) (hk : ce ≤ K) (hn : sl ≤ N) (hq : Q (some (.int z)) h) : Go p l e R s m args below meth c n0 Q K N h ce sl (mkF m pc Ls [.int z]) := by
  subst hrt
  intro T locs X eT Nn
  obtain ⟨fs, hr, hrun, hended, hW, hsame⟩ := X.leave (v := some (.int z)) (fun q => by first | rfl | (rw [C.2.2.2.2.2.1] at q; cases q)) C.2.2.2.2.2.2.1
  refine ⟨_, _, X.ireturnOut C.1 C.2.2.2.2.2.1 rfl (Or.inl rfl) (hb C.2.1 hd) hr, hrun, hended, _, _, rfl, ⟨?_, Nn⟩, ⟨_, rfl⟩, hW, hsame.mono hk hn⟩
  show Q (some (.int z)) T.heap
  rw [eT]; exact hq
theorem go_lreturn (C : Cx p s m meth c Z own bs mx rt nm) {z : Int64} (hrt : rt = some .long) (hd : decode bs pc = .ok (.lreturn, 1)) (hk : ce ≤ K) (hn : sl ≤ N) (hq : Q (some (.long z)) h) : Go p l e R s m args below meth c n0 Q K N h ce sl (mkF m pc Ls [.long z]) := by
  subst hrt
  intro T locs X eT Nn
  obtain ⟨fs, hr, hrun, hended, hW, hsame⟩ := X.leave (v := some (.long z)) (fun q => by first | rfl | (rw [C.2.2.2.2.2.1] at q; cases q)) C.2.2.2.2.2.2.1
  refine ⟨_, _, Jvm.Stand.lreturnOut X C.1 C.2.2.2.2.2.1 (hb C.2.1 hd) hr, hrun, hended, _, _, rfl, ⟨?_, Nn⟩, ⟨_, rfl⟩, hW, hsame.mono hk hn⟩
  show Q (some (.long z)) T.heap
  rw [eT]; exact hq
theorem go_areturn (C : Cx p s m meth c Z own bs mx rt nm) {w : Value} {t : FieldType} (hrt : rt = some t) (hd : decode bs pc = .ok (.areturn, 1)) (hk : ce ≤ K) (hn : sl ≤ N) (hw : w.isRef = true) (ht : t.isReference = true) (hq : Q (some w) h) : Go p l e R s m args below meth c n0 Q K N h ce sl (mkF m pc Ls [w]) := by
  subst hrt
  intro T locs X eT Nn
  obtain ⟨fs, hr, hrun, hended, hW, hsame⟩ := X.leave (v := some w) (fun q => by first | rfl | (rw [C.2.2.2.2.2.1] at q; cases q)) C.2.2.2.2.2.2.1
  refine ⟨_, _, X.areturnOut C.1 hw C.2.2.2.2.2.1 ht (hb C.2.1 hd) hr, hrun, hended, _, _, rfl, ⟨?_, Nn⟩, ⟨_, rfl⟩, hW, hsame.mono hk hn⟩
  show Q (some w) T.heap
  rw [eT]; exact hq
theorem go_return (C : Cx p s m meth c Z own bs mx rt nm)  (hrt : rt = none) (hd : decode bs pc = .ok (.return_, 1)) (hk : ce ≤ K) (hn : sl ≤ N) (hq : Q (none) h) : Go p l e R s m args below meth c n0 Q K N h ce sl (mkF m pc Ls []) := by
  subst hrt
  intro T locs X eT Nn
  obtain ⟨fs, hr, hrun, hended, hW, hsame⟩ := X.leave (v := none) (fun q => by first | rfl | (rw [C.2.2.2.2.2.1] at q; cases q)) C.2.2.2.2.2.2.1
  refine ⟨_, _, X.returnOut C.1 C.2.2.2.2.2.1 (hb C.2.1 hd) hr, hrun, hended, _, _, rfl, ⟨?_, Nn⟩, ⟨_, rfl⟩, hW, hsame.mono hk hn⟩
  show Q (none) T.heap
  rw [eT]; exact hq
theorem go_ireturnN (C : Cx p s m meth c Z own bs mx rt nm) {z z' : Int32} {t : FieldType} (hrt : rt = some t) (ht : t = .boolean ∨ t = .byte ∨ t = .char ∨ t = .short) (hz : nar t z = z') (hd : decode bs pc = .ok (.ireturn, 1)) (hk : ce ≤ K) (hn : sl ≤ N) (hq : Q (some (.int z')) h) : Go p l e R s m args below meth c n0 Q K N h ce sl (mkF m pc Ls [.int z]) := by
  subst hrt hz
  intro T locs X eT Nn
  obtain ⟨fs, hr, hrun, hended, hW, hsame⟩ := X.leave (v := some (.int (nar t z))) (fun q => by rw [C.2.2.2.2.2.1] at q; cases q) C.2.2.2.2.2.2.1
  refine ⟨_, _, retN X C.1 (t := t) C.2.2.2.2.2.1 ht (hb C.2.1 hd) hr, hrun, hended, _, _, rfl, ⟨?_, Nn⟩, ⟨_, rfl⟩, hW, hsame.mono hk hn⟩
  show Q (some (.int (nar t z))) T.heap
  rw [eT]; exact hq
theorem sat_of {y : MethodName} {cb : ByteArray} {cm : Nat} {cr : Option FieldType} {rm : Room} {as : List Value} {h0 : Heap} (ho : y.cls = own) (hnm : y.name = nm) (hpn : plainFor y = true) (Ls : Array Slot) (hef : ∀ m, entryFrame m as.toArray cm = mkF m 0 Ls [])
    (body : ∀ (p : Program) (e : Env) (s : State) (m : MethodId) (below : List Frame) (meth : Method) (c : Code), Cx p s m meth c Z own cb cm cr nm → Go p l e rm s m as.toArray below meth c n0 Q rm.cells rm.slots h0 0 0 (mkF m 0 Ls [])) : Sat l Z y cb cm cr rm as h0 n0 Q := by
  intro ws
  subst ho hnm
  refine MetFree.of_bodySF hpn hisR ?_
  intro p e s m args below meth c s₁ Bd hml0 hP hK
  obtain ⟨rfl, hZ, hh⟩ := hP
  have X0 : Stand p l e rm s m as.toArray below meth c s₁ [] 0 0 := Stand.of_body Bd
  obtain ⟨s₂, o, h1, h2, h3, v, L, h4, h5, h6⟩ := body p e s m below meth c ⟨Bd.exec, Bd.bytes, hml0, hZ, findClass_of_methodNamed Bd.named, Bd.returns, Bd.notSynchronized, (name_of_methodNamed Bd.named Bd.method).1⟩ s₁ [] X0 (by rw [← hh, Bd.state]; rfl) (Fr.nil n0)
  exact ⟨s₂, o, castTop (hef m) h1, h2, h3, v, L, h4, h5, h6⟩
theorem Sat.weaken {y : MethodName} {cb : ByteArray} {cm : Nat} {cr : Option FieldType} {rm : Room} {as : List Value} {h0 : Heap} {Q' : Option Value → Heap → Prop} (S : Sat l Z y cb cm cr rm as h0 n0 Q) (H : ∀ v h, Q v h → Q' v h) : Sat l Z y cb cm cr rm as h0 n0 Q' := by
  intro ws p e ha hc hk s m args below hf happ hP hK
  obtain ⟨n, o, h1, h2, h3, v, L, h4, h5, h6⟩ := S ws p e ha hc hk s m args below hf happ hP hK
  exact ⟨n, o, h1, h2, h3, v, L, h4, ⟨H _ _ h5.1, h5.2⟩, h6⟩
end Walk
end OwnLayer
theorem wd {Z : State} {a0 : Array Value} (hw : ∀ d ∈ tables_1, d.before a0 Z = true) (k : Nat) {d : Jvm.Cond} (h : tables_1[k]? = some d) : d.before a0 Z = true := hw d (List.mem_of_getElem? h)
theorem d1_0 : decode jdk_29_method_70_code 0 = .ok (.lload_n 0, 1) := by decide +kernel
theorem d1_1 : decode jdk_29_method_70_code 1 = .ok (.lload_n 2, 1) := by decide +kernel
theorem d1_2 : decode jdk_29_method_70_code 2 = .ok (.lcmp, 1) := by decide +kernel
theorem d1_3 : decode jdk_29_method_70_code 3 = .ok (.ifCond .gt 7, 3) := by decide +kernel
theorem d1_6 : decode jdk_29_method_70_code 6 = .ok (.lload_n 0, 1) := by decide +kernel
theorem d1_7 : decode jdk_29_method_70_code 7 = .ok (.goto 4, 3) := by decide +kernel
theorem d1_10 : decode jdk_29_method_70_code 10 = .ok (.lload_n 2, 1) := by decide +kernel
theorem d1_11 : decode jdk_29_method_70_code 11 = .ok (.lreturn, 1) := by decide +kernel
theorem d2_0 : decode prog_32_method_1_code 0 = .ok (.aload_n 0, 1) := by decide +kernel
theorem d2_1 : decode prog_32_method_1_code 1 = .ok (.invokespecial 1, 3) := by decide +kernel
theorem d2_4 : decode prog_32_method_1_code 4 = .ok (.aload_n 0, 1) := by decide +kernel
theorem d2_5 : decode prog_32_method_1_code 5 = .ok (.iload_n 1, 1) := by decide +kernel
theorem d2_6 : decode prog_32_method_1_code 6 = .ok (.newarray .long, 2) := by decide +kernel
theorem d2_8 : decode prog_32_method_1_code 8 = .ok (.putfield 7, 3) := by decide +kernel
theorem d2_11 : decode prog_32_method_1_code 11 = .ok (.return_, 1) := by decide +kernel
theorem d3_0 : decode prog_21_method_1_code 0 = .ok (.aload_n 0, 1) := by decide +kernel
theorem d3_1 : decode prog_21_method_1_code 1 = .ok (.invokespecial 1, 3) := by decide +kernel
theorem d3_4 : decode prog_21_method_1_code 4 = .ok (.return_, 1) := by decide +kernel
theorem d5_0 : decode prog_32_method_2_code 0 = .ok (.ldc2_w 13, 3) := by decide +kernel
theorem d5_3 : decode prog_32_method_2_code 3 = .ok (.ldc2_w 15, 3) := by decide +kernel
theorem d5_6 : decode prog_32_method_2_code 6 = .ok (.aload_n 0, 1) := by decide +kernel
theorem d5_7 : decode prog_32_method_2_code 7 = .ok (.getfield 7, 3) := by decide +kernel
theorem d5_10 : decode prog_32_method_2_code 10 = .ok (.arraylength, 1) := by decide +kernel
theorem d5_11 : decode prog_32_method_2_code 11 = .ok (.i2l, 1) := by decide +kernel
theorem d5_12 : decode prog_32_method_2_code 12 = .ok (.lmul, 1) := by decide +kernel
theorem d5_13 : decode prog_32_method_2_code 13 = .ok (.ladd, 1) := by decide +kernel
theorem d5_14 : decode prog_32_method_2_code 14 = .ok (.lreturn, 1) := by decide +kernel
theorem d6_0 : decode prog_32_method_6_code 0 = .ok (.aload_n 0, 1) := by decide +kernel
theorem d6_1 : decode prog_32_method_6_code 1 = .ok (.getfield 21, 3) := by decide +kernel
theorem d6_4 : decode prog_32_method_6_code 4 = .ok (.aload_n 0, 1) := by decide +kernel
theorem d6_5 : decode prog_32_method_6_code 5 = .ok (.getfield 7, 3) := by decide +kernel
theorem d6_8 : decode prog_32_method_6_code 8 = .ok (.arraylength, 1) := by decide +kernel
theorem d6_9 : decode prog_32_method_6_code 9 = .ok (.if_icmp .ne 67, 3) := by decide +kernel
theorem d6_12 : decode prog_32_method_6_code 12 = .ok (.lload_n 3, 1) := by decide +kernel
theorem d6_13 : decode prog_32_method_6_code 13 = .ok (.ldc2_w 28, 3) := by decide +kernel
theorem d6_16 : decode prog_32_method_6_code 16 = .ok (.aload_n 0, 1) := by decide +kernel
theorem d6_17 : decode prog_32_method_6_code 17 = .ok (.getfield 7, 3) := by decide +kernel
theorem d6_20 : decode prog_32_method_6_code 20 = .ok (.arraylength, 1) := by decide +kernel
theorem d6_21 : decode prog_32_method_6_code 21 = .ok (.i2l, 1) := by decide +kernel
theorem d6_22 : decode prog_32_method_6_code 22 = .ok (.lmul, 1) := by decide +kernel
theorem d6_23 : decode prog_32_method_6_code 23 = .ok (.invokestatic 30, 3) := by decide +kernel
theorem d6_26 : decode prog_32_method_6_code 26 = .ok (.l2i, 1) := by decide +kernel
theorem d6_27 : decode prog_32_method_6_code 27 = .ok (.newarray .long, 2) := by decide +kernel
theorem d6_29 : decode prog_32_method_6_code 29 = .ok (.astore 5, 2) := by decide +kernel
theorem d6_31 : decode prog_32_method_6_code 31 = .ok (.iconst 0, 1) := by decide +kernel
theorem d6_32 : decode prog_32_method_6_code 32 = .ok (.istore 6, 2) := by decide +kernel
theorem d6_34 : decode prog_32_method_6_code 34 = .ok (.iload 6, 2) := by decide +kernel
theorem d6_36 : decode prog_32_method_6_code 36 = .ok (.aload_n 0, 1) := by decide +kernel
theorem d6_37 : decode prog_32_method_6_code 37 = .ok (.getfield 21, 3) := by decide +kernel
theorem d6_40 : decode prog_32_method_6_code 40 = .ok (.if_icmp .ge 25, 3) := by decide +kernel
theorem d6_43 : decode prog_32_method_6_code 43 = .ok (.aload 5, 2) := by decide +kernel
theorem d6_45 : decode prog_32_method_6_code 45 = .ok (.iload 6, 2) := by decide +kernel
theorem d6_47 : decode prog_32_method_6_code 47 = .ok (.aload_n 0, 1) := by decide +kernel
theorem d6_48 : decode prog_32_method_6_code 48 = .ok (.getfield 7, 3) := by decide +kernel
theorem d6_51 : decode prog_32_method_6_code 51 = .ok (.aload_n 0, 1) := by decide +kernel
theorem d6_52 : decode prog_32_method_6_code 52 = .ok (.iload 6, 2) := by decide +kernel
theorem d6_54 : decode prog_32_method_6_code 54 = .ok (.invokevirtual 24, 3) := by decide +kernel
theorem d6_57 : decode prog_32_method_6_code 57 = .ok (.laload, 1) := by decide +kernel
theorem d6_58 : decode prog_32_method_6_code 58 = .ok (.lastore, 1) := by decide +kernel
theorem d6_59 : decode prog_32_method_6_code 59 = .ok (.iinc 6 1, 3) := by decide +kernel
theorem d6_62 : decode prog_32_method_6_code 62 = .ok (.goto (-28), 3) := by decide +kernel
theorem d6_65 : decode prog_32_method_6_code 65 = .ok (.aload_n 0, 1) := by decide +kernel
theorem d6_66 : decode prog_32_method_6_code 66 = .ok (.aload 5, 2) := by decide +kernel
theorem d6_68 : decode prog_32_method_6_code 68 = .ok (.putfield 7, 3) := by decide +kernel
theorem d6_71 : decode prog_32_method_6_code 71 = .ok (.aload_n 0, 1) := by decide +kernel
theorem d6_72 : decode prog_32_method_6_code 72 = .ok (.iconst 0, 1) := by decide +kernel
theorem d6_73 : decode prog_32_method_6_code 73 = .ok (.putfield 17, 3) := by decide +kernel
theorem d6_76 : decode prog_32_method_6_code 76 = .ok (.aload_n 0, 1) := by decide +kernel
theorem d6_77 : decode prog_32_method_6_code 77 = .ok (.getfield 7, 3) := by decide +kernel
theorem d6_80 : decode prog_32_method_6_code 80 = .ok (.aload_n 0, 1) := by decide +kernel
theorem d6_81 : decode prog_32_method_6_code 81 = .ok (.aload_n 0, 1) := by decide +kernel
theorem d6_82 : decode prog_32_method_6_code 82 = .ok (.getfield 21, 3) := by decide +kernel
theorem d6_85 : decode prog_32_method_6_code 85 = .ok (.invokevirtual 24, 3) := by decide +kernel
theorem d6_88 : decode prog_32_method_6_code 88 = .ok (.lload_n 1, 1) := by decide +kernel
theorem d6_89 : decode prog_32_method_6_code 89 = .ok (.lastore, 1) := by decide +kernel
theorem d6_90 : decode prog_32_method_6_code 90 = .ok (.aload_n 0, 1) := by decide +kernel
theorem d6_91 : decode prog_32_method_6_code 91 = .ok (.dup, 1) := by decide +kernel
theorem d6_92 : decode prog_32_method_6_code 92 = .ok (.getfield 21, 3) := by decide +kernel
theorem d6_95 : decode prog_32_method_6_code 95 = .ok (.iconst 1, 1) := by decide +kernel
theorem d6_96 : decode prog_32_method_6_code 96 = .ok (.iadd, 1) := by decide +kernel
theorem d6_97 : decode prog_32_method_6_code 97 = .ok (.putfield 21, 3) := by decide +kernel
theorem d6_100 : decode prog_32_method_6_code 100 = .ok (.return_, 1) := by decide +kernel
theorem d7_0 : decode prog_32_method_7_code 0 = .ok (.aload_n 0, 1) := by decide +kernel
theorem d7_1 : decode prog_32_method_7_code 1 = .ok (.getfield 7, 3) := by decide +kernel
theorem d7_4 : decode prog_32_method_7_code 4 = .ok (.arraylength, 1) := by decide +kernel
theorem d7_5 : decode prog_32_method_7_code 5 = .ok (.aload_n 0, 1) := by decide +kernel
theorem d7_6 : decode prog_32_method_7_code 6 = .ok (.getfield 17, 3) := by decide +kernel
theorem d7_9 : decode prog_32_method_7_code 9 = .ok (.isub, 1) := by decide +kernel
theorem d7_10 : decode prog_32_method_7_code 10 = .ok (.istore_n 2, 1) := by decide +kernel
theorem d7_11 : decode prog_32_method_7_code 11 = .ok (.iload_n 1, 1) := by decide +kernel
theorem d7_12 : decode prog_32_method_7_code 12 = .ok (.iload_n 2, 1) := by decide +kernel
theorem d7_13 : decode prog_32_method_7_code 13 = .ok (.if_icmp .ge 12, 3) := by decide +kernel
theorem d7_16 : decode prog_32_method_7_code 16 = .ok (.aload_n 0, 1) := by decide +kernel
theorem d7_17 : decode prog_32_method_7_code 17 = .ok (.getfield 17, 3) := by decide +kernel
theorem d7_20 : decode prog_32_method_7_code 20 = .ok (.iload_n 1, 1) := by decide +kernel
theorem d7_21 : decode prog_32_method_7_code 21 = .ok (.iadd, 1) := by decide +kernel
theorem d7_22 : decode prog_32_method_7_code 22 = .ok (.goto 6, 3) := by decide +kernel
theorem d7_25 : decode prog_32_method_7_code 25 = .ok (.iload_n 1, 1) := by decide +kernel
theorem d7_26 : decode prog_32_method_7_code 26 = .ok (.iload_n 2, 1) := by decide +kernel
theorem d7_27 : decode prog_32_method_7_code 27 = .ok (.isub, 1) := by decide +kernel
theorem d7_28 : decode prog_32_method_7_code 28 = .ok (.ireturn, 1) := by decide +kernel
theorem pn_0 : plainName "com/example/throttld/throttld/SlidingLogBytesPinLaw" = true := by first | (simp [plainName, overriddenIn]; done) | decide +kernel
theorem pd_0 : parseMethodDescriptor "(IIIJ)Z" = some ⟨[.int, .int, .int, .long], some .boolean⟩ := by decide +kernel
theorem pd_1 : parseMethodDescriptor "(JJ)J" = some ⟨[.long, .long], some .long⟩ := by decide +kernel
theorem pn_1 : plainName "com/example/throttld/throttld/SlidingLog$Log" = true := by first | (simp [plainName, overriddenIn]; done) | decide +kernel
theorem pd_2 : parseMethodDescriptor "(I)V" = some ⟨[.int], none⟩ := by decide +kernel
theorem pn_2 : plainName "com/example/throttld/throttld/MemoryStore$Entry" = true := by first | (simp [plainName, overriddenIn]; done) | decide +kernel
theorem pd_3 : parseMethodDescriptor "()V" = some ⟨[], none⟩ := by decide +kernel
theorem pd_4 : parseMethodDescriptor "()J" = some ⟨[], some .long⟩ := by decide +kernel
theorem pd_5 : parseMethodDescriptor "(JJ)V" = some ⟨[.long, .long], none⟩ := by decide +kernel
theorem pd_6 : parseMethodDescriptor "(I)I" = some ⟨[.int], some .int⟩ := by decide +kernel
def o_slot (nl hd i : Int32) : Int32 := if i.toInt < (nl - hd).toInt then hd + i else i - (nl - hd)
def o_minL (x y : Int64) : Int64 := if y.toInt < x.toInt then y else x
def o_maxL (x y : Int64) : Int64 := if x.toInt < y.toInt then y else x
set_option maxRecDepth 65536 in
set_option maxHeartbeats 40000000 in
theorem sat_en (l : Launch) (Z : State) (a0 : Array Value) (hw : ∀ d ∈ tables_1, d.before a0 Z = true) (a : Addr) (h0 : Heap) (n0 : Nat)  :
    Sat l Z (⟨"com/example/throttld/throttld/MemoryStore$Entry", "<init>", "()V"⟩ : MethodName) prog_21_method_1_code 1 none ({ frames := 1, cells := 0, slots := 0, locals := 12 } : Room) [.ref a] h0 n0 (RN fun h => h = h0) := by
  refine sat_of (own := "com/example/throttld/throttld/MemoryStore$Entry") (nm := "<init>") rfl rfl (plainFor_of_name pn_2) #[.val (.ref a)] (fun m => by first | (simp [entryFrame, mkF, argsToLocals, Value.category, maxLocals]; done) | rfl) ?_
  intro p e s m below meth c C
  refine go_aloadN C d3_0 (pc' := 1) rfl rfl rfl ?_
  refine go_objinit C (W := 0) (wd hw 16 rfl) (wd hw 17 rfl) (wd hw 18 rfl) rfl (by decide) rfl (by decide) d3_1 (pc' := 4) rfl ?_
  refine go_return C rfl d3_4 (by decide) (by decide) ?_
  exact ⟨rfl, rfl⟩
set_option maxRecDepth 65536 in
set_option maxHeartbeats 40000000 in
theorem sat_minL (l : Launch) (Z : State) (a0 : Array Value) (hw : ∀ d ∈ tables_1, d.before a0 Z = true) (u v q : Int64) (h0 : Heap) (n0 : Nat) (hq : o_minL u v = q) :
    Sat l Z (⟨"java/lang/Math", "min", "(JJ)J"⟩ : MethodName) jdk_29_method_70_code 4 (some .long) ({ frames := 0, cells := 0, slots := 0, locals := 0 } : Room) [.long u, .long v] h0 n0 (RV fun r h => r = .long q ∧ h = h0) := by
  refine sat_of (own := "java/lang/Math") (nm := "min") rfl rfl (by decide +kernel) #[.val (.long u), .second, .val (.long v), .second] (fun m => by first | (simp [entryFrame, mkF, argsToLocals, Value.category, maxLocals]; done) | rfl) ?_
  intro p e s m below meth c C
  refine go_lloadN C d1_0 (pc' := 1) rfl rfl ?_
  refine go_lloadN C d1_1 (pc' := 2) rfl rfl ?_
  refine go_lcmp C u.toInt v.toInt rfl rfl d1_2 (pc1 := 3) rfl d1_3 (by decide) (pc' := 10) (by decide) (pcN := 6) rfl (fun (c_1 : v.toInt < u.toInt) => ?_) (fun (c_1 : ¬ v.toInt < u.toInt) => ?_)
  · skip
    refine go_lloadN C d1_10 (pc' := 11) rfl rfl ?_
    refine go_lreturn C rfl d1_11 (by decide) (by decide) ?_
    exact ⟨_, rfl, congrArg Value.long (by rw [← hq]; unfold o_minL; first | rw [if_pos (by omega)] | rw [if_neg (by omega)]), rfl⟩
  · skip
    refine go_lloadN C d1_6 (pc' := 7) rfl rfl ?_
    refine go_goto C d1_7 (by decide) (pc' := 11) (by decide) ?_
    refine go_lreturn C rfl d1_11 (by decide) (by decide) ?_
    exact ⟨_, rfl, congrArg Value.long (by rw [← hq]; unfold o_minL; first | rw [if_pos (by omega)] | rw [if_neg (by omega)]), rfl⟩
set_option maxRecDepth 65536 in
set_option maxHeartbeats 40000000 in
theorem sat_slot (l : Launch) (Z : State) (a0 : Array Value) (hw : ∀ d ∈ tables_1, d.before a0 Z = true) (a r : Addr) (nl hd i q : Int32) (vs : List Value) (h0 : Heap) (n0 : Nat) (F1 : Fld Z h0 a "com/example/throttld/throttld/SlidingLog$Log" "ring" "[J" (.ref r)) (F2 : Fld Z h0 a "com/example/throttld/throttld/SlidingLog$Log" "head" "I" (.int hd)) (A1 : Av Z h0 r .long vs) (hnl : nl.toInt = (vs.length : Int)) (hq : o_slot nl hd i = q) :
    Sat l Z (⟨"com/example/throttld/throttld/SlidingLog$Log", "slot", "(I)I"⟩ : MethodName) prog_32_method_7_code 3 (some .int) ({ frames := 0, cells := 0, slots := 0, locals := 0 } : Room) [.ref a, .int i] h0 n0 (RV fun v h => v = .int q ∧ h = h0) := by
  refine sat_of (own := "com/example/throttld/throttld/SlidingLog$Log") (nm := "slot") rfl rfl (plainFor_of_name pn_1) #[.val (.ref a), .val (.int i), .unset] (fun m => by first | (simp [entryFrame, mkF, argsToLocals, Value.category, maxLocals]; done) | rfl) ?_
  intro p e s m below meth c C
  refine go_aloadN C d7_0 (pc' := 1) rfl rfl rfl ?_
  refine go_getfield C (wd hw 20 rfl) F1 d7_1 (pc' := 4) rfl ?_
  refine go_arraylength C A1 nl hnl d7_4 (pc' := 5) rfl ?_
  refine go_aloadN C d7_5 (pc' := 6) rfl rfl rfl ?_
  refine go_getfield C (wd hw 42 rfl) F2 d7_6 (pc' := 9) rfl ?_
  refine go_isub C d7_9 (pc' := 10) rfl ?_
  refine go_istoreN C (Ls' := #[.val (.ref a), .val (.int i), .val (.int (nl - hd))]) d7_10 (pc' := 11) rfl rfl ?_
  refine go_iloadN C d7_11 (pc' := 12) rfl rfl ?_
  refine go_iloadN C d7_12 (pc' := 13) rfl rfl ?_
  refine go_icmp C i.toInt ((nl - hd).toInt) rfl rfl d7_13 (by decide) (pc' := 25) (by decide) (pcN := 16) rfl (fun (c_1 : ¬ i.toInt < ((nl - hd).toInt)) => ?_) (fun (c_1 : i.toInt < ((nl - hd).toInt)) => ?_)
  · skip
    refine go_iloadN C d7_25 (pc' := 26) rfl rfl ?_
    refine go_iloadN C d7_26 (pc' := 27) rfl rfl ?_
    refine go_isub C d7_27 (pc' := 28) rfl ?_
    refine go_ireturnI C rfl d7_28 (by decide) (by decide) ?_
    exact ⟨_, rfl, congrArg Value.int (by rw [← hq]; unfold o_slot; first | rw [if_pos (by omega)] | rw [if_neg (by omega)]), rfl⟩
  · skip
    refine go_aloadN C d7_16 (pc' := 17) rfl rfl rfl ?_
    refine go_getfield C (wd hw 42 rfl) F2 d7_17 (pc' := 20) rfl ?_
    refine go_iloadN C d7_20 (pc' := 21) rfl rfl ?_
    refine go_iadd C d7_21 (pc' := 22) rfl ?_
    refine go_goto C d7_22 (by decide) (pc' := 28) (by decide) ?_
    refine go_ireturnI C rfl d7_28 (by decide) (by decide) ?_
    exact ⟨_, rfl, congrArg Value.int (by rw [← hq]; unfold o_slot; first | rw [if_pos (by omega)] | rw [if_neg (by omega)]), rfl⟩
def Lngs (vs : List Value) (n : Nat) : Prop := vs.length = n ∧ ∀ k, k < n → ∃ x : Int64, vs[k]? = some (.long x)
theorem Lngs.rep (n : Nat) (x : Int64) : Lngs (List.replicate n (.long x)) n := ⟨by simp, fun k hk => ⟨x, by simp [hk]⟩⟩
theorem Lngs.set {vs : List Value} {n k : Nat} (x : Int64) (I : Lngs vs n) : Lngs (vs.set k (.long x)) n := ⟨by simpa using I.1, fun j hj => by
  by_cases q : k = j
  · subst q
    exact ⟨x, by rw [List.getElem?_set_self (by rw [I.1]; exact hj)]⟩
  · obtain ⟨y, hy⟩ := I.2 j hj
    exact ⟨y, by rw [List.getElem?_set_ne q]; exact hy⟩⟩
theorem own_of {n : Nat} (h : n < 2147483648) : (Int32.ofNat n).toInt = (n : Int) := Int32.toInt_ofNat_of_lt (by omega)
theorem own_min (x y : Int64) : (o_minL x y).toInt = min x.toInt y.toInt := by
  unfold o_minL
  by_cases q : y.toInt < x.toInt
  · rw [if_pos q]; omega
  · rw [if_neg q]; omega
theorem own_slot0 (n i : Nat) (hi : i < n) (hn : n < 2147483648) : o_slot (Int32.ofNat n) (0 : Int32) (Int32.ofNat i) = Int32.ofNat i := by
  have e : (Int32.ofNat n - (0 : Int32)) = Int32.ofNat n := Int32.sub_zero _
  unfold o_slot
  rw [e, if_pos (by rw [own_of (by omega), own_of hn]; omega), Int32.zero_add]
theorem own_dbl (x : Int64) (h0 : 0 ≤ x.toInt) (h1 : x.toInt ≤ 1000000) : ((2 : Int64) * x).toInt = 2 * x.toInt := by
  have k2 : ((2 : Int64)).toInt = 2 := by decide
  rw [Jvm.Kit.i64_mul (by rw [k2]; omega) (by rw [k2]; omega), k2]
set_option maxRecDepth 65536 in
set_option maxHeartbeats 40000000 in
theorem sat_init (l : Launch) (Z : State) (a0 : Array Value) (hw : ∀ d ∈ tables_1, d.before a0 Z = true) (a : Addr) (R : Nat) (h0 : Heap) (n0 : Nat) (hR : R ≤ 1024) (E1 : Exa Z h0 a "com/example/throttld/throttld/SlidingLog$Log") (F1 : Fld Z h0 a "com/example/throttld/throttld/SlidingLog$Log" "ring" "[J" .null) (F2 : Fld Z h0 a "com/example/throttld/throttld/SlidingLog$Log" "head" "I" (.int 0)) (F3 : Fld Z h0 a "com/example/throttld/throttld/SlidingLog$Log" "count" "I" (.int 0)) (ga : n0 ≤ a) (gz : n0 ≤ h0.size) :
    Sat l Z (⟨"com/example/throttld/throttld/SlidingLog$Log", "<init>", "(I)V"⟩ : MethodName) prog_32_method_1_code 2 none ({ frames := 2, cells := 1, slots := 1024, locals := 24 } : Room) [.ref a, .int (Int32.ofNat R)] h0 n0 (RN fun h => ∃ (r : Addr) (vs : List Value), n0 ≤ r ∧ Lngs vs R ∧ Exa Z h a "com/example/throttld/throttld/SlidingLog$Log" ∧ Fld Z h a "com/example/throttld/throttld/SlidingLog$Log" "ring" "[J" (.ref r) ∧ Fld Z h a "com/example/throttld/throttld/SlidingLog$Log" "head" "I" (.int (0 : Int32)) ∧ Fld Z h a "com/example/throttld/throttld/SlidingLog$Log" "count" "I" (.int (0 : Int32)) ∧ Av Z h r .long vs) := by
  refine sat_of (own := "com/example/throttld/throttld/SlidingLog$Log") (nm := "<init>") rfl rfl (plainFor_of_name pn_1) #[.val (.ref a), .val (.int (Int32.ofNat R))] (fun m => by first | (simp [entryFrame, mkF, argsToLocals, Value.category, maxLocals]; done) | rfl) ?_
  intro p e s m below meth c C
  refine go_aloadN C d2_0 (pc' := 1) rfl rfl rfl ?_
  refine go_specialN C (as := []) (rest := []) (W := 0) (sat_en l Z a0 hw a _ _) rfl (wd hw 11 rfl) (wd hw 12 rfl) (wd hw 14 rfl) (wd hw 15 rfl) (by decide) pd_3 rfl rfl rfl (by decide) (by decide) (ce' := 0) (sl' := 0) rfl rfl (by decide) (by decide) d2_1 (pc' := 4) rfl rfl ?_
  intro h_1 eh_1
  rw [eh_1]
  refine go_aloadN C d2_4 (pc' := 5) rfl rfl rfl ?_
  refine go_iloadN C d2_5 (pc' := 6) rfl rfl ?_
  refine go_newarray C (wd hw 19 rfl) rfl R 1024 (own_of (by omega)) hR (by decide) (ce' := 1) (sl' := 1024) rfl rfl (by decide) (by decide) d2_6 (pc' := 8) rfl ?_
  intro h_2 a_3 g_4 E_5 A_6
  have n_7 : a ≠ a_3 := own_ne_new E1.lt g_4
  have g_8 : n0 ≤ a_3 := own_ge gz g_4
  have F_9 := Fld.ext E_5 F1
  have F_10 := Fld.ext E_5 F2
  have F_11 := Fld.ext E_5 F3
  have E_12 := Exa.ext E_5 E1
  have z_13 : n0 ≤ h_2.size := Nat.le_trans gz E_5.1
  refine go_putfield C (wd hw 20 rfl) F_9 E_12 (Or.inl (wd hw 21 rfl)) (wd hw 6 rfl) (ty := (.array .long)) (by decide) rfl rfl ga d2_8 (pc' := 11) rfl ?_
  intro h_14 W_15
  have z_16 : n0 ≤ h_14.size := W_15.size.symm ▸ z_13
  have F_17 := Fld.same W_15 F_9
  have F_18 := Fld.other W_15 F_10 (Or.inr (slot_ne (a0 := a0) (Or.inl (wd hw 43 rfl)) (Or.inl (wd hw 21 rfl)) (by decide) (t := .int) (t' := (.array .long)) (by decide) (by decide)))
  have F_19 := Fld.other W_15 F_11 (Or.inr (slot_ne (a0 := a0) (Or.inl (wd hw 37 rfl)) (Or.inl (wd hw 21 rfl)) (by decide) (t := .int) (t' := (.array .long)) (by decide) (by decide)))
  have E_20 := Exa.wr W_15 E_12
  have A_21 := Av.other A_6 W_15 (Ne.symm n_7)
  refine go_return C rfl d2_11 (by decide) (by decide) ?_
  exact ⟨rfl, _, _, g_8, Lngs.rep R 0, E_20, F_17, F_18, F_19, A_21⟩
set_option maxRecDepth 65536 in
set_option maxHeartbeats 40000000 in
theorem sat_bytes (l : Launch) (Z : State) (a0 : Array Value) (hw : ∀ d ∈ tables_1, d.before a0 Z = true) (a r : Addr) (L : Nat) (vs : List Value) (h0 : Heap) (n0 : Nat) (F1 : Fld Z h0 a "com/example/throttld/throttld/SlidingLog$Log" "ring" "[J" (.ref r)) (A1 : Av Z h0 r .long vs) (I : Lngs vs L) (hL : L ≤ 1024) :
    Sat l Z (⟨"com/example/throttld/throttld/SlidingLog$Log", "bytes", "()J"⟩ : MethodName) prog_32_method_2_code 1 (some .long) ({ frames := 0, cells := 0, slots := 0, locals := 0 } : Room) [.ref a] h0 n0 (RV fun q h => q = .long ((32 : Int64) + ((8 : Int64) * (Int32.ofNat L).toInt64)) ∧ h = h0) := by
  refine sat_of (own := "com/example/throttld/throttld/SlidingLog$Log") (nm := "bytes") rfl rfl (plainFor_of_name pn_1) #[.val (.ref a)] (fun m => by first | (simp [entryFrame, mkF, argsToLocals, Value.category, maxLocals]; done) | rfl) ?_
  intro p e s m below meth c C
  refine go_ldc2 C (v := (32 : Int64)) (wd hw 27 rfl) d5_0 (pc' := 3) rfl ?_
  refine go_ldc2 C (v := (8 : Int64)) (wd hw 28 rfl) d5_3 (pc' := 6) rfl ?_
  refine go_aloadN C d5_6 (pc' := 7) rfl rfl rfl ?_
  refine go_getfield C (wd hw 20 rfl) F1 d5_7 (pc' := 10) rfl ?_
  refine go_arraylength C A1 (Int32.ofNat L) (by rw [I.1]; exact own_of (by omega)) d5_10 (pc' := 11) rfl ?_
  refine go_i2l C d5_11 (pc' := 12) rfl ?_
  refine go_lmul C d5_12 (pc' := 13) rfl ?_
  refine go_ladd C d5_13 (pc' := 14) rfl ?_
  refine go_lreturn C rfl d5_14 (by decide) (by decide) ?_
  exact ⟨_, rfl, rfl, rfl⟩
set_option maxRecDepth 65536 in
set_option maxHeartbeats 40000000 in
theorem sat_add (l : Launch) (Z : State) (a0 : Array Value) (hw : ∀ d ∈ tables_1, d.before a0 Z = true) (a r : Addr) (t lim : Int64) (cN L : Nat) (vs : List Value) (h0 : Heap) (n0 : Nat) (hc6 : cN ≤ 6) (hcL : cN ≤ L) (hL : L ≤ 1024) (hL1 : 1 ≤ L) (hl1 : (cN : Int) < lim.toInt) (hl2 : lim.toInt ≤ 4294967296) (I : Lngs vs L) (hO : Exa Z h0 a "com/example/throttld/throttld/SlidingLog$Log" ∧ Fld Z h0 a "com/example/throttld/throttld/SlidingLog$Log" "ring" "[J" (.ref r) ∧ Fld Z h0 a "com/example/throttld/throttld/SlidingLog$Log" "head" "I" (.int (0 : Int32)) ∧ Fld Z h0 a "com/example/throttld/throttld/SlidingLog$Log" "count" "I" (.int (Int32.ofNat cN)) ∧ Av Z h0 r .long vs) (ga : n0 ≤ a) (gr : n0 ≤ r) :
    Sat l Z (⟨"com/example/throttld/throttld/SlidingLog$Log", "add", "(JJ)V"⟩ : MethodName) prog_32_method_6_code 7 none ({ frames := 1, cells := 1, slots := 12, locals := 17 } : Room) [.ref a, .long t, .long lim] h0 n0 (RN fun h => ∃ (r' : Addr) (vs' : List Value) (L' : Nat), n0 ≤ r' ∧ Lngs vs' L' ∧ cN + 1 ≤ L' ∧ ((cN = L ∧ (L' : Int) = min lim.toInt (2 * (L : Int))) ∨ (¬ cN = L ∧ L' = L)) ∧ Exa Z h a "com/example/throttld/throttld/SlidingLog$Log" ∧ Fld Z h a "com/example/throttld/throttld/SlidingLog$Log" "ring" "[J" (.ref r') ∧ Fld Z h a "com/example/throttld/throttld/SlidingLog$Log" "head" "I" (.int (0 : Int32)) ∧ Fld Z h a "com/example/throttld/throttld/SlidingLog$Log" "count" "I" (.int (Int32.ofNat (cN + 1))) ∧ Av Z h r' .long vs') := by
  refine sat_of (own := "com/example/throttld/throttld/SlidingLog$Log") (nm := "add") rfl rfl (plainFor_of_name pn_1) #[.val (.ref a), .val (.long t), .second, .val (.long lim), .second, .unset, .unset] (fun m => by first | (simp [entryFrame, mkF, argsToLocals, Value.category, maxLocals]; done) | rfl) ?_
  intro p e s m below meth c C
  have j76 : ∀ (h : Heap) (r' : Addr) (vs' : List Value) (L' : Nat) (s5 s6 : Slot), n0 ≤ r' → Lngs vs' L' → cN < L' → L' ≤ 1024 → ((cN = L ∧ (L' : Int) = min lim.toInt (2 * (L : Int))) ∨ (¬ cN = L ∧ L' = L)) → Exa Z h a "com/example/throttld/throttld/SlidingLog$Log" ∧ Fld Z h a "com/example/throttld/throttld/SlidingLog$Log" "ring" "[J" (.ref r') ∧ Fld Z h a "com/example/throttld/throttld/SlidingLog$Log" "head" "I" (.int (0 : Int32)) ∧ Fld Z h a "com/example/throttld/throttld/SlidingLog$Log" "count" "I" (.int (Int32.ofNat cN)) ∧ Av Z h r' .long vs' → Go p l e ({ frames := 1, cells := 1, slots := 12, locals := 17 } : Room) s m ([.ref a, .long t, .long lim] : List Value).toArray below meth c n0 (RN fun h => ∃ (r' : Addr) (vs' : List Value) (L' : Nat), n0 ≤ r' ∧ Lngs vs' L' ∧ cN + 1 ≤ L' ∧ ((cN = L ∧ (L' : Int) = min lim.toInt (2 * (L : Int))) ∨ (¬ cN = L ∧ L' = L)) ∧ Exa Z h a "com/example/throttld/throttld/SlidingLog$Log" ∧ Fld Z h a "com/example/throttld/throttld/SlidingLog$Log" "ring" "[J" (.ref r') ∧ Fld Z h a "com/example/throttld/throttld/SlidingLog$Log" "head" "I" (.int (0 : Int32)) ∧ Fld Z h a "com/example/throttld/throttld/SlidingLog$Log" "count" "I" (.int (Int32.ofNat (cN + 1))) ∧ Av Z h r' .long vs') ({ frames := 1, cells := 1, slots := 12, locals := 17 } : Room).cells ({ frames := 1, cells := 1, slots := 12, locals := 17 } : Room).slots h 1 12 (mkF m 76 #[.val (.ref a), .val (.long t), .second, .val (.long lim), .second, s5, s6] []) := by
    intro h r' vs' L' s5 s6 gr' I' hcl hL' hrel hO'
    obtain ⟨E1, F1, F2, F3, A1⟩ := hO'
    refine go_aloadN C d6_76 (pc' := 77) rfl rfl rfl ?_
    refine go_getfield C (wd hw 20 rfl) F1 d6_77 (pc' := 80) rfl ?_
    refine go_aloadN C d6_80 (pc' := 81) rfl rfl rfl ?_
    refine go_aloadN C d6_81 (pc' := 82) rfl rfl rfl ?_
    refine go_getfield C (wd hw 36 rfl) F3 d6_82 (pc' := 85) rfl ?_
    refine go_privateP C (as := [.int (Int32.ofNat cN)]) (rest := [.ref r']) (W := 1) (.int (Int32.ofNat cN)) (sat_slot l Z a0 hw a r' (Int32.ofNat L') (0 : Int32) (Int32.ofNat cN) (Int32.ofNat cN) _ _ _ F1 F2 A1 (by rw [I'.1]; exact own_of (by omega)) (own_slot0 L' cN (by omega) (by omega))) E1 (wd hw 38 rfl) (wd hw 40 rfl) (own_selects_private (wd hw 6 rfl) (wd hw 40 rfl) (wd hw 39 rfl) (by decide)) (wd hw 39 rfl) (wd hw 7 rfl) (wd hw 41 rfl) (by decide) pd_6 rfl rfl rfl (by decide) (by decide) rfl rfl (by decide) (by decide) d6_85 (pc' := 88) rfl rfl ?_
    refine go_lloadN C d6_88 (pc' := 89) rfl rfl ?_
    refine go_lastore C A1 cN (own_of (by omega)) (by rw [I'.1]; omega) gr' d6_89 (pc' := 90) rfl ?_
    intro h_1 W_2 A_3
    have F_5 := Fld.other W_2 F1 (Or.inl (own_ne_arr E1 (wd hw 6 rfl) A1))
    have F_6 := Fld.other W_2 F2 (Or.inl (own_ne_arr E1 (wd hw 6 rfl) A1))
    have F_7 := Fld.other W_2 F3 (Or.inl (own_ne_arr E1 (wd hw 6 rfl) A1))
    have E_8 := Exa.wr W_2 E1
    refine go_aloadN C d6_90 (pc' := 91) rfl rfl rfl ?_
    refine go_dup C d6_91 (pc' := 92) rfl rfl ?_
    refine go_getfield C (wd hw 36 rfl) F_7 d6_92 (pc' := 95) rfl ?_
    refine go_iconst C (1 : Int32) d6_95 (pc' := 96) rfl (by decide) ?_
    refine go_iadd C d6_96 (pc' := 97) rfl ?_
    refine go_putfield C (wd hw 36 rfl) F_7 E_8 (Or.inl (wd hw 37 rfl)) (wd hw 6 rfl) (ty := .int) (by decide) rfl rfl ga d6_97 (pc' := 100) rfl ?_
    intro h_9 W_10
    have F_11 := Fld.other W_10 F_5 (Or.inr (slot_ne (a0 := a0) (Or.inl (wd hw 21 rfl)) (Or.inl (wd hw 37 rfl)) (by decide) (t := (.array .long)) (t' := .int) (by decide) (by decide)))
    have F_12 := Fld.other W_10 F_6 (Or.inr (slot_ne (a0 := a0) (Or.inl (wd hw 43 rfl)) (Or.inl (wd hw 37 rfl)) (by decide) (t := .int) (t' := .int) (by decide) (by decide)))
    have F_13 := Fld.same W_10 F_7
    have E_14 := Exa.wr W_10 E_8
    have A_15 := Av.other A_3 W_10 (Ne.symm (own_ne_arr E_8 (wd hw 6 rfl) A_3))
    refine go_return C rfl d6_100 (by decide) (by decide) ?_
    have F9 := F_13
    rw [show Int32.ofNat cN + (1 : Int32) = Int32.ofNat (cN + 1) from (Int32.ofNat_add cN 1).symm] at F9
    exact ⟨rfl, _, _, _, gr', (Lngs.set _ I'), hcl, hrel, E_14, F_11, F_12, F9, A_15⟩
  have hO2 := hO
  obtain ⟨E1, F1, F2, F3, A1⟩ := hO2
  refine go_aloadN C d6_0 (pc' := 1) rfl rfl rfl ?_
  refine go_getfield C (wd hw 36 rfl) F3 d6_1 (pc' := 4) rfl ?_
  refine go_aloadN C d6_4 (pc' := 5) rfl rfl rfl ?_
  refine go_getfield C (wd hw 20 rfl) F1 d6_5 (pc' := 8) rfl ?_
  refine go_arraylength C A1 (Int32.ofNat L) (by rw [I.1]; exact own_of (by omega)) d6_8 (pc' := 9) rfl ?_
  refine go_icmp C (cN : Int) (L : Int) (own_of (by omega)) (own_of (by omega)) d6_9 (by decide) (pc' := 76) (by decide) (pcN := 12) rfl (fun (c_16 : ¬ (cN : Int) = (L : Int)) => ?_) (fun (c_16 : (cN : Int) = (L : Int)) => ?_)
  · skip
    refine Go.more (ce' := 1) (sl' := 12) (by decide) (by decide) ?_
    exact j76 _ r vs L _ _ gr I (by omega) hL (Or.inr ⟨by omega, rfl⟩) hO
  · skip
    refine go_lloadN C d6_12 (pc' := 13) rfl rfl ?_
    refine go_ldc2 C (v := (2 : Int64)) (wd hw 44 rfl) d6_13 (pc' := 16) rfl ?_
    refine go_aloadN C d6_16 (pc' := 17) rfl rfl rfl ?_
    refine go_getfield C (wd hw 20 rfl) F1 d6_17 (pc' := 20) rfl ?_
    refine go_arraylength C A1 (Int32.ofNat L) (by rw [I.1]; exact own_of (by omega)) d6_20 (pc' := 21) rfl ?_
    refine go_i2l C d6_21 (pc' := 22) rfl ?_
    refine go_lmul C d6_22 (pc' := 23) rfl ?_
    refine go_staticP C (as := [.long lim, .long ((2 : Int64) * ((Int32.ofNat L).toInt64))]) (rest := []) (W := 0) (.long (o_minL lim ((2 : Int64) * ((Int32.ofNat L).toInt64)))) (sat_minL l Z a0 hw lim ((2 : Int64) * ((Int32.ofNat L).toInt64)) (o_minL lim ((2 : Int64) * ((Int32.ofNat L).toInt64))) _ _ rfl) (wd hw 45 rfl) (wd hw 2 rfl) (wd hw 3 rfl) (wd hw 4 rfl) (by decide) pd_1 rfl rfl rfl (by decide) (by decide) rfl rfl (by decide) (by decide) d6_23 (pc' := 26) rfl rfl ?_
    refine go_l2i C d6_26 (pc' := 27) rfl ?_
    have d0 : ((Int32.ofNat L).toInt64).toInt = (L : Int) := by rw [Int32.toInt_toInt64]; exact own_of (by omega)
    have d1 := own_dbl ((Int32.ofNat L).toInt64) (by omega) (by omega)
    have d2 := own_min lim ((2 : Int64) * (Int32.ofNat L).toInt64)
    have d3 : ((o_minL lim ((2 : Int64) * ((Int32.ofNat L).toInt64))).toInt32).toInt = min lim.toInt (2 * (L : Int)) := by rw [Jvm.Kit.i32_of_i64 (by omega) (by omega)]; omega
    obtain ⟨M, hM0⟩ : ∃ M : Nat, min lim.toInt (2 * (L : Int)) = (M : Int) := ⟨(min lim.toInt (2 * (L : Int))).toNat, by omega⟩
    have hM : ((o_minL lim ((2 : Int64) * ((Int32.ofNat L).toInt64))).toInt32).toInt = (M : Int) := d3.trans hM0
    have hM1 : (M : Int) = min lim.toInt (2 * (L : Int)) := hM0.symm
    clear d0 d1 d2 d3 hM0
    refine go_newarray C (wd hw 19 rfl) rfl M 12 hM (by omega) (by decide) (ce' := 1) (sl' := 12) rfl rfl (by decide) (by decide) d6_27 (pc' := 29) rfl ?_
    intro h_17 a_18 g_19 E_20 A_21
    have n_22 : a ≠ a_18 := own_ne_new E1.lt g_19
    have n_23 : r ≠ a_18 := own_ne_new A1.lt g_19
    have g_24 : n0 ≤ a_18 := own_ge (Nat.le_of_lt (Nat.lt_of_le_of_lt ga E1.lt)) g_19
    have F_25 := Fld.ext E_20 F1
    have F_26 := Fld.ext E_20 F2
    have F_27 := Fld.ext E_20 F3
    have E_28 := Exa.ext E_20 E1
    have A_29 := Av.ext A1 E_20
    have z_30 : n0 ≤ h_17.size := Nat.le_trans (Nat.le_of_lt (Nat.lt_of_le_of_lt ga E1.lt)) E_20.1
    refine go_astore C (Ls' := #[.val (.ref a), .val (.long t), .second, .val (.long lim), .second, .val (.ref a_18), .unset]) d6_29 (pc' := 31) rfl rfl rfl ?_
    refine go_iconst C (0 : Int32) d6_31 (pc' := 32) rfl (by decide) ?_
    refine go_istore C (Ls' := #[.val (.ref a), .val (.long t), .second, .val (.long lim), .second, .val (.ref a_18), .val (.int (0 : Int32))]) d6_32 (pc' := 34) rfl rfl ?_
    have loop : ∀ (k i : Nat) (h : Heap) (gs : List Value), i + k = cN → Lngs gs M → Exa Z h a "com/example/throttld/throttld/SlidingLog$Log" ∧ Fld Z h a "com/example/throttld/throttld/SlidingLog$Log" "ring" "[J" (.ref r) ∧ Fld Z h a "com/example/throttld/throttld/SlidingLog$Log" "head" "I" (.int (0 : Int32)) ∧ Fld Z h a "com/example/throttld/throttld/SlidingLog$Log" "count" "I" (.int (Int32.ofNat cN)) ∧ Av Z h r .long vs → Av Z h a_18 .long gs → Go p l e ({ frames := 1, cells := 1, slots := 12, locals := 17 } : Room) s m ([.ref a, .long t, .long lim] : List Value).toArray below meth c n0 (RN fun h => ∃ (r' : Addr) (vs' : List Value) (L' : Nat), n0 ≤ r' ∧ Lngs vs' L' ∧ cN + 1 ≤ L' ∧ ((cN = L ∧ (L' : Int) = min lim.toInt (2 * (L : Int))) ∨ (¬ cN = L ∧ L' = L)) ∧ Exa Z h a "com/example/throttld/throttld/SlidingLog$Log" ∧ Fld Z h a "com/example/throttld/throttld/SlidingLog$Log" "ring" "[J" (.ref r') ∧ Fld Z h a "com/example/throttld/throttld/SlidingLog$Log" "head" "I" (.int (0 : Int32)) ∧ Fld Z h a "com/example/throttld/throttld/SlidingLog$Log" "count" "I" (.int (Int32.ofNat (cN + 1))) ∧ Av Z h r' .long vs') ({ frames := 1, cells := 1, slots := 12, locals := 17 } : Room).cells ({ frames := 1, cells := 1, slots := 12, locals := 17 } : Room).slots h 1 12 (mkF m 34 #[.val (.ref a), .val (.long t), .second, .val (.long lim), .second, .val (.ref a_18), .val (.int (Int32.ofNat i))] []) := by
      intro k
      induction k with
      | zero =>
        intro i h gs hik J hO3 B
        obtain ⟨E1, F1, F2, F3, A1⟩ := hO3
        refine go_iload C d6_34 (pc' := 36) rfl rfl ?_
        refine go_aloadN C d6_36 (pc' := 37) rfl rfl rfl ?_
        refine go_getfield C (wd hw 36 rfl) F3 d6_37 (pc' := 40) rfl ?_
        refine go_icmp C (i : Int) (cN : Int) (own_of (by omega)) (own_of (by omega)) d6_40 (by decide) (pc' := 65) (by decide) (pcN := 43) rfl (fun (c_31 : ¬ (i : Int) < (cN : Int)) => ?_) (fun (c_31 : (i : Int) < (cN : Int)) => by omega)
        refine go_aloadN C d6_65 (pc' := 66) rfl rfl rfl ?_
        refine go_aload C d6_66 (pc' := 68) rfl rfl rfl ?_
        refine go_putfield C (wd hw 20 rfl) F1 E1 (Or.inl (wd hw 21 rfl)) (wd hw 6 rfl) (ty := (.array .long)) (by decide) rfl rfl ga d6_68 (pc' := 71) rfl ?_
        intro h_32 W_33
        have F_34 := Fld.same W_33 F1
        have F_35 := Fld.other W_33 F2 (Or.inr (slot_ne (a0 := a0) (Or.inl (wd hw 43 rfl)) (Or.inl (wd hw 21 rfl)) (by decide) (t := .int) (t' := (.array .long)) (by decide) (by decide)))
        have F_36 := Fld.other W_33 F3 (Or.inr (slot_ne (a0 := a0) (Or.inl (wd hw 37 rfl)) (Or.inl (wd hw 21 rfl)) (by decide) (t := .int) (t' := (.array .long)) (by decide) (by decide)))
        have E_37 := Exa.wr W_33 E1
        have A_38 := Av.other A1 W_33 (Ne.symm (own_ne_arr E1 (wd hw 6 rfl) A1))
        have A_39 := Av.other B W_33 (Ne.symm n_22)
        refine go_aloadN C d6_71 (pc' := 72) rfl rfl rfl ?_
        refine go_iconst C (0 : Int32) d6_72 (pc' := 73) rfl (by decide) ?_
        refine go_putfield C (wd hw 42 rfl) F_35 E_37 (Or.inl (wd hw 43 rfl)) (wd hw 6 rfl) (ty := .int) (by decide) rfl rfl ga d6_73 (pc' := 76) rfl ?_
        intro h_40 W_41
        have F_42 := Fld.other W_41 F_34 (Or.inr (slot_ne (a0 := a0) (Or.inl (wd hw 21 rfl)) (Or.inl (wd hw 43 rfl)) (by decide) (t := (.array .long)) (t' := .int) (by decide) (by decide)))
        have F_43 := Fld.same W_41 F_35
        have F_44 := Fld.other W_41 F_36 (Or.inr (slot_ne (a0 := a0) (Or.inl (wd hw 37 rfl)) (Or.inl (wd hw 43 rfl)) (by decide) (t := .int) (t' := .int) (by decide) (by decide)))
        have E_45 := Exa.wr W_41 E_37
        have A_46 := Av.other A_38 W_41 (Ne.symm (own_ne_arr E_37 (wd hw 6 rfl) A_38))
        have A_47 := Av.other A_39 W_41 (Ne.symm n_22)
        exact j76 _ a_18 _ M _ _ g_24 J (by omega) (by omega) (Or.inl ⟨by omega, by omega⟩) ⟨E_45, F_42, F_43, F_44, A_47⟩
      | succ k ih =>
        intro i h gs hik J hO3 B
        obtain ⟨E1, F1, F2, F3, A1⟩ := hO3
        refine go_iload C d6_34 (pc' := 36) rfl rfl ?_
        refine go_aloadN C d6_36 (pc' := 37) rfl rfl rfl ?_
        refine go_getfield C (wd hw 36 rfl) F3 d6_37 (pc' := 40) rfl ?_
        refine go_icmp C (i : Int) (cN : Int) (own_of (by omega)) (own_of (by omega)) d6_40 (by decide) (pc' := 65) (by decide) (pcN := 43) rfl (fun (c_48 : ¬ (i : Int) < (cN : Int)) => by omega) (fun (c_48 : (i : Int) < (cN : Int)) => ?_)
        refine go_aload C d6_43 (pc' := 45) rfl rfl rfl ?_
        refine go_iload C d6_45 (pc' := 47) rfl rfl ?_
        refine go_aloadN C d6_47 (pc' := 48) rfl rfl rfl ?_
        refine go_getfield C (wd hw 20 rfl) F1 d6_48 (pc' := 51) rfl ?_
        refine go_aloadN C d6_51 (pc' := 52) rfl rfl rfl ?_
        refine go_iload C d6_52 (pc' := 54) rfl rfl ?_
        refine go_privateP C (as := [.int (Int32.ofNat i)]) (rest := [.ref r, .int (Int32.ofNat i), .ref a_18]) (W := 3) (.int (Int32.ofNat i)) (sat_slot l Z a0 hw a r (Int32.ofNat L) (0 : Int32) (Int32.ofNat i) (Int32.ofNat i) _ _ _ F1 F2 A1 (by rw [I.1]; exact own_of (by omega)) (own_slot0 L i (by omega) (by omega))) E1 (wd hw 38 rfl) (wd hw 40 rfl) (own_selects_private (wd hw 6 rfl) (wd hw 40 rfl) (wd hw 39 rfl) (by decide)) (wd hw 39 rfl) (wd hw 7 rfl) (wd hw 41 rfl) (by decide) pd_6 rfl rfl rfl (by decide) (by decide) rfl rfl (by decide) (by decide) d6_54 (pc' := 57) rfl rfl ?_
        obtain ⟨v_49, e_50⟩ := I.2 i (by omega)
        refine go_laload C A1 i (.long v_49) (own_of (by omega)) e_50 d6_57 (pc' := 58) rfl ?_
        refine go_lastore C B i (own_of (by omega)) (by rw [J.1]; omega) g_24 d6_58 (pc' := 59) rfl ?_
        intro h_51 W_52 A_53
        have F_55 := Fld.other W_52 F1 (Or.inl n_22)
        have F_56 := Fld.other W_52 F2 (Or.inl n_22)
        have F_57 := Fld.other W_52 F3 (Or.inl n_22)
        have E_58 := Exa.wr W_52 E1
        have A_59 := Av.other A1 W_52 n_23
        refine go_iinc C (Ls' := #[.val (.ref a), .val (.long t), .second, .val (.long lim), .second, .val (.ref a_18), .val (.int ((Int32.ofNat i) + (1 : Int32)))]) (1 : Int32) d6_59 (pc' := 62) rfl (by decide) rfl rfl ?_
        refine go_goto C d6_62 (by decide) (pc' := 34) (by decide) ?_
        rw [show Int32.ofNat i + (1 : Int32) = Int32.ofNat (i + 1) from (Int32.ofNat_add i 1).symm]
        exact ih (i + 1) _ _ (by omega) (Lngs.set _ J) ⟨E_58, F_55, F_56, F_57, A_59⟩ A_53
    exact loop cN 0 _ _ (by omega) (Lngs.rep M 0) ⟨E_28, F_25, F_26, F_27, A_29⟩ A_21
def Dd (R L i : Nat) (lim : Int) : Prop := (i ≤ R ∧ L = R) ∨ (R < i ∧ i ≤ 2 * R ∧ (L : Int) = min lim (2 * (R : Int))) ∨ (2 * R < i ∧ i ≤ 4 * R ∧ (L : Int) = min lim (4 * (R : Int))) ∨ (4 * R < i ∧ (L : Int) = min lim (8 * (R : Int)))
theorem Dd_step {R L L' i : Nat} {lim : Int} (h : Dd R L i lim) (hR : 1 ≤ R) (hl : (R : Int) ≤ lim) (hi : i ≤ 6) (hil : (i : Int) < lim) (rel : (i = L ∧ (L' : Int) = min lim (2 * (L : Int))) ∨ (¬ i = L ∧ L' = L)) (hc : i + 1 ≤ L') : Dd R L' (i + 1) lim := by
  unfold Dd at *
  omega
theorem Dd_bound {R L i : Nat} {lim : Int} (h : Dd R L i lim) (hR1 : 1 ≤ R) (hR : R ≤ 1024) (hl : (R : Int) ≤ lim) (hi : i ≤ 7) : 1 ≤ L ∧ L ≤ 1024 := by
  unfold Dd at h
  omega
set_option maxRecDepth 65536 in
set_option maxHeartbeats 40000000 in
theorem law_sat (l : Launch) (Z : State) (a0 : Array Value) (hw : ∀ d ∈ tables_1, d.before a0 Z = true) (x0 x1 x2 : Int32) (x3 : Int64)  :
    Sat l Z x code maxLocals ret room_1 [.int x0, .int x1, .int x2, .long x3] Z.heap Z.heap.size (RV fun r _ => r = .int 1) := by
  refine sat_of (own := "com/example/throttld/throttld/SlidingLogBytesPinLaw") (nm := "law") rfl rfl (plainFor_of_name pn_0) #[.val (.int x0), .val (.int x1), .val (.int x2), .val (.long x3), .second, .unset, .unset, .unset, .unset, .unset, .unset, .unset, .unset] (fun m => by first | (simp [entryFrame, mkF, argsToLocals, Value.category, maxLocals]; done) | rfl) ?_
  intro p e s m below meth c C
  refine go_iconst C (1 : Int32) at_0 (pc' := 1) rfl (by decide) ?_
  refine go_iloadN C at_1 (pc' := 2) rfl rfl ?_
  refine go_sipush C (1023 : Int32) at_2 (pc' := 5) rfl (by decide) ?_
  refine go_iand C at_5 (pc' := 6) rfl ?_
  refine go_iadd C at_6 (pc' := 7) rfl ?_
  refine go_istore C (Ls' := #[.val (.int x0), .val (.int x1), .val (.int x2), .val (.long x3), .second, .val (.int ((1 : Int32) + (x0 &&& (1023 : Int32)))), .unset, .unset, .unset, .unset, .unset, .unset, .unset]) at_7 (pc' := 9) rfl rfl ?_
  have k1 : ((1 : Int32)).toInt = 1 := by decide
  have hm : (x0 &&& (1023 : Int32)).toInt = x0.toInt % 2 ^ 10 := Jvm.Kit.i32_mask x0 _ (k := 10) (by decide) (by decide)
  have hz : ((1 : Int32) + (x0 &&& (1023 : Int32))).toInt = 1 + x0.toInt % 2 ^ 10 := by rw [Jvm.Kit.i32_add (by omega) (by omega), hm, k1]
  obtain ⟨R, hR0⟩ : ∃ R : Nat, ((1 : Int32) + (x0 &&& (1023 : Int32))).toInt = (R : Int) := ⟨(1 + x0.toInt % 2 ^ 10).toNat, by omega⟩
  have hR1 : 1 ≤ R := by omega
  have hR : R ≤ 1024 := by omega
  have hR2 : (1 : Int32) + (x0 &&& (1023 : Int32)) = Int32.ofNat R := int_eq (by rw [hR0]; exact (own_of (by omega)).symm)
  rw [hR2]
  clear hz hm hR0 hR2
  have e0 : ((Int32.ofNat R).toInt64).toInt = 1 * (R : Int) := by rw [Int32.toInt_toInt64, own_of (by omega)]; omega
  have e1 : ((2 : Int64) * ((Int32.ofNat R).toInt64)).toInt = 2 * (R : Int) := by rw [own_dbl _ (by omega) (by omega), e0]; omega
  have e2 : ((2 : Int64) * ((2 : Int64) * ((Int32.ofNat R).toInt64))).toInt = 4 * (R : Int) := by rw [own_dbl _ (by omega) (by omega), e1]; omega
  have e3 : ((2 : Int64) * ((2 : Int64) * ((2 : Int64) * ((Int32.ofNat R).toInt64)))).toInt = 8 * (R : Int) := by rw [own_dbl _ (by omega) (by omega), e2]; omega
  refine go_iload C at_9 (pc' := 11) rfl rfl ?_
  refine go_i2l C at_11 (pc' := 12) rfl ?_
  refine go_iloadN C at_12 (pc' := 13) rfl rfl ?_
  refine go_ldc C (v := (2147483647 : Int32)) (wd hw 0 rfl) at_13 (pc' := 15) rfl ?_
  refine go_iand C at_15 (pc' := 16) rfl ?_
  refine go_i2l C at_16 (pc' := 17) rfl ?_
  refine go_ladd C at_17 (pc' := 18) rfl ?_
  refine go_lstore C (Ls' := #[.val (.int x0), .val (.int x1), .val (.int x2), .val (.long x3), .second, .val (.int (Int32.ofNat R)), .val (.long (((Int32.ofNat R).toInt64) + ((x1 &&& (2147483647 : Int32)).toInt64))), .second, .unset, .unset, .unset, .unset, .unset]) at_18 (pc' := 20) rfl rfl ?_
  have hm1 : (x1 &&& (2147483647 : Int32)).toInt = x1.toInt % 2 ^ 31 := Jvm.Kit.i32_mask x1 _ (k := 31) (by decide) (by decide)
  have hm2 : ((x1 &&& (2147483647 : Int32)).toInt64).toInt = x1.toInt % 2 ^ 31 := by rw [Int32.toInt_toInt64, hm1]
  have hl : (((Int32.ofNat R).toInt64) + ((x1 &&& (2147483647 : Int32)).toInt64)).toInt = (R : Int) + x1.toInt % 2 ^ 31 := by rw [Jvm.Kit.i64_add (by omega) (by omega), hm2, e0]; omega
  have hlR : (R : Int) ≤ (((Int32.ofNat R).toInt64) + ((x1 &&& (2147483647 : Int32)).toInt64)).toInt := by omega
  have hl2 : (((Int32.ofNat R).toInt64) + ((x1 &&& (2147483647 : Int32)).toInt64)).toInt ≤ 4294967296 := by omega
  clear hl hm1 hm2
  generalize ((Int32.ofNat R).toInt64) + ((x1 &&& (2147483647 : Int32)).toInt64) = lim at hlR hl2 ⊢
  refine go_iloadN C at_20 (pc' := 21) rfl rfl ?_
  refine go_bipush C (7 : Int32) at_21 (pc' := 23) rfl (by decide) ?_
  refine go_iand C at_23 (pc' := 24) rfl ?_
  refine go_i2l C at_24 (pc' := 25) rfl ?_
  refine go_lload C at_25 (pc' := 27) rfl rfl ?_
  refine go_staticP C (as := [.long ((x2 &&& (7 : Int32)).toInt64), .long lim]) (rest := []) (W := 0) (.long (o_minL ((x2 &&& (7 : Int32)).toInt64) lim)) (sat_minL l Z a0 hw ((x2 &&& (7 : Int32)).toInt64) lim (o_minL ((x2 &&& (7 : Int32)).toInt64) lim) _ _ rfl) (wd hw 1 rfl) (wd hw 2 rfl) (wd hw 3 rfl) (wd hw 4 rfl) (by decide) pd_1 rfl rfl rfl (by decide) (by decide) rfl rfl (by decide) (by decide) at_27 (pc' := 30) rfl rfl ?_
  refine go_l2i C at_30 (pc' := 31) rfl ?_
  refine go_istore C (Ls' := #[.val (.int x0), .val (.int x1), .val (.int x2), .val (.long x3), .second, .val (.int (Int32.ofNat R)), .val (.long lim), .second, .val (.int ((o_minL ((x2 &&& (7 : Int32)).toInt64) lim).toInt32)), .unset, .unset, .unset, .unset]) at_31 (pc' := 33) rfl rfl ?_
  have hk7 : ((x2 &&& (7 : Int32)).toInt64).toInt = x2.toInt % 2 ^ 3 := by rw [Int32.toInt_toInt64]; exact Jvm.Kit.i32_mask x2 _ (k := 3) (by decide) (by decide)
  have hmn := own_min ((x2 &&& (7 : Int32)).toInt64) lim
  have hkk : ((o_minL ((x2 &&& (7 : Int32)).toInt64) lim).toInt32).toInt = min (x2.toInt % 2 ^ 3) lim.toInt := by rw [Jvm.Kit.i32_of_i64 (by omega) (by omega)]; omega
  have hkl : ((o_minL ((x2 &&& (7 : Int32)).toInt64) lim).toInt32).toInt ≤ lim.toInt := by omega
  have hcs : ((o_minL ((x2 &&& (7 : Int32)).toInt64) lim).toInt32).toInt = 0 ∨ ((o_minL ((x2 &&& (7 : Int32)).toInt64) lim).toInt32).toInt = 1 ∨ ((o_minL ((x2 &&& (7 : Int32)).toInt64) lim).toInt32).toInt = 2 ∨ ((o_minL ((x2 &&& (7 : Int32)).toInt64) lim).toInt32).toInt = 3 ∨ ((o_minL ((x2 &&& (7 : Int32)).toInt64) lim).toInt32).toInt = 4 ∨ ((o_minL ((x2 &&& (7 : Int32)).toInt64) lim).toInt32).toInt = 5 ∨ ((o_minL ((x2 &&& (7 : Int32)).toInt64) lim).toInt32).toInt = 6 ∨ ((o_minL ((x2 &&& (7 : Int32)).toInt64) lim).toInt32).toInt = 7 := by omega
  clear hkk hmn hk7
  generalize (o_minL ((x2 &&& (7 : Int32)).toInt64) lim).toInt32 = kk at hkl hcs ⊢
  rcases hcs with hq | hq | hq | hq | hq | hq | hq | hq
  · obtain rfl : kk = (0 : Int32) := int_eq (hq.trans (by decide))
    rw [hq] at hkl
    refine go_new C (wd hw 5 rfl) (wd hw 6 rfl) (wd hw 7 rfl) at_33 (pc' := 36) rfl (ce' := 1) (sl' := 7) rfl rfl (by decide) (by decide) ?_
    intro h_1 a_2 g_3 E_4 E_5 D_6
    have g_7 : Z.heap.size ≤ a_2 := own_ge (Nat.le_refl _) g_3
    have z_8 : Z.heap.size ≤ h_1.size := Nat.le_trans (Nat.le_refl _) E_4.1
    have F_9 : Fld Z h_1 a_2 "com/example/throttld/throttld/SlidingLog$Log" "ring" "[J" (.null) := D_6 (Or.inl (wd hw 21 rfl)) (ty := (.array .long)) (by decide)
    have F_10 : Fld Z h_1 a_2 "com/example/throttld/throttld/SlidingLog$Log" "count" "I" (.int (0 : Int32)) := D_6 (Or.inl (wd hw 37 rfl)) (ty := .int) (by decide)
    have F_11 : Fld Z h_1 a_2 "com/example/throttld/throttld/SlidingLog$Log" "head" "I" (.int (0 : Int32)) := D_6 (Or.inl (wd hw 43 rfl)) (ty := .int) (by decide)
    refine go_dup C at_36 (pc' := 37) rfl rfl ?_
    refine go_iload C at_37 (pc' := 39) rfl rfl ?_
    refine go_specialN C (as := [.int (Int32.ofNat R)]) (rest := [.ref a_2]) (W := 1) (sat_init l Z a0 hw a_2 R _ _ hR E_5 F_9 F_11 F_10 g_7 z_8) rfl (wd hw 8 rfl) (wd hw 9 rfl) (wd hw 7 rfl) (wd hw 10 rfl) (by decide) pd_2 rfl rfl rfl (by decide) (by decide) (ce' := 2) (sl' := 1031) rfl rfl (by decide) (by decide) at_39 (pc' := 42) rfl rfl ?_
    intro h_12 q_13
    obtain ⟨r_14, vs_15, g_16, I_17, E_18, F_19, F_20, F_21, A_22⟩ := q_13
    have D_23 : Dd R R 0 lim.toInt := Or.inl ⟨by omega, rfl⟩
    refine go_astore C (Ls' := #[.val (.int x0), .val (.int x1), .val (.int x2), .val (.long x3), .second, .val (.int (Int32.ofNat R)), .val (.long lim), .second, .val (.int (0 : Int32)), .val (.ref a_2), .unset, .unset, .unset]) at_42 (pc' := 44) rfl rfl rfl ?_
    refine go_aload C at_44 (pc' := 46) rfl rfl rfl ?_
    refine go_virtualP C (as := []) (rest := []) (W := 0) (.long ((32 : Int64) + ((8 : Int64) * ((Int32.ofNat R).toInt64)))) (sat_bytes l Z a0 hw a_2 r_14 R _ _ _ F_19 A_22 I_17 (by omega)) E_18 (wd hw 22 rfl) (wd hw 23 rfl) (wd hw 25 rfl) (wd hw 24 rfl) (wd hw 7 rfl) (wd hw 26 rfl) (by decide) pd_4 rfl rfl rfl (by decide) (by decide) rfl rfl (by decide) (by decide) at_46 (pc' := 49) rfl rfl ?_
    refine go_ldc2 C (v := (32 : Int64)) (wd hw 29 rfl) at_49 (pc' := 52) rfl ?_
    refine go_ldc2 C (v := (8 : Int64)) (wd hw 30 rfl) at_52 (pc' := 55) rfl ?_
    refine go_iload C at_55 (pc' := 57) rfl rfl ?_
    refine go_i2l C at_57 (pc' := 58) rfl ?_
    refine go_lmul C at_58 (pc' := 59) rfl ?_
    refine go_ladd C at_59 (pc' := 60) rfl ?_
    refine go_lcmp C (((32 : Int64) + ((8 : Int64) * ((Int32.ofNat R).toInt64))).toInt) (((32 : Int64) + ((8 : Int64) * ((Int32.ofNat R).toInt64))).toInt) rfl rfl at_60 (pc1 := 61) rfl at_61 (by decide) (pc' := 68) (by decide) (pcN := 64) rfl (fun (c_24 : ¬ (((32 : Int64) + ((8 : Int64) * ((Int32.ofNat R).toInt64))).toInt) = (((32 : Int64) + ((8 : Int64) * ((Int32.ofNat R).toInt64))).toInt)) => by omega) (fun (c_24 : (((32 : Int64) + ((8 : Int64) * ((Int32.ofNat R).toInt64))).toInt) = (((32 : Int64) + ((8 : Int64) * ((Int32.ofNat R).toInt64))).toInt)) => ?_)
    refine go_iconst C (1 : Int32) at_64 (pc' := 65) rfl (by decide) ?_
    refine go_goto C at_65 (by decide) (pc' := 69) (by decide) ?_
    refine go_istore C (Ls' := #[.val (.int x0), .val (.int x1), .val (.int x2), .val (.long x3), .second, .val (.int (Int32.ofNat R)), .val (.long lim), .second, .val (.int (0 : Int32)), .val (.ref a_2), .val (.int (1 : Int32)), .unset, .unset]) at_69 (pc' := 71) rfl rfl ?_
    refine go_iload C at_71 (pc' := 73) rfl rfl ?_
    refine go_if0 C (0 : Int) (by decide) at_73 (by decide) (pc' := 84) (by decide) (pcN := 76) rfl (fun (c_25 : ¬ 0 < (0 : Int)) => ?_) (fun (c_25 : 0 < (0 : Int)) => by omega)
    refine go_iload C at_84 (pc' := 86) rfl rfl ?_
    refine go_iconst C (1 : Int32) at_86 (pc' := 87) rfl (by decide) ?_
    refine go_icmp C (0 : Int) (1 : Int) (by decide) (by decide) at_87 (by decide) (pc' := 100) (by decide) (pcN := 90) rfl (fun (c_26 : ¬ (1 : Int) < (0 : Int)) => ?_) (fun (c_26 : (1 : Int) < (0 : Int)) => by omega)
    refine go_iload C at_100 (pc' := 102) rfl rfl ?_
    refine go_iconst C (2 : Int32) at_102 (pc' := 103) rfl (by decide) ?_
    refine go_icmp C (0 : Int) (2 : Int) (by decide) (by decide) at_103 (by decide) (pc' := 118) (by decide) (pcN := 106) rfl (fun (c_27 : ¬ (2 : Int) < (0 : Int)) => ?_) (fun (c_27 : (2 : Int) < (0 : Int)) => by omega)
    refine go_iload C at_118 (pc' := 120) rfl rfl ?_
    refine go_iconst C (3 : Int32) at_120 (pc' := 121) rfl (by decide) ?_
    refine go_icmp C (0 : Int) (3 : Int) (by decide) (by decide) at_121 (by decide) (pc' := 136) (by decide) (pcN := 124) rfl (fun (c_28 : ¬ (3 : Int) < (0 : Int)) => ?_) (fun (c_28 : (3 : Int) < (0 : Int)) => by omega)
    refine go_iload C at_136 (pc' := 138) rfl rfl ?_
    refine go_iconst C (4 : Int32) at_138 (pc' := 139) rfl (by decide) ?_
    refine go_icmp C (0 : Int) (4 : Int) (by decide) (by decide) at_139 (by decide) (pc' := 154) (by decide) (pcN := 142) rfl (fun (c_29 : ¬ (4 : Int) < (0 : Int)) => ?_) (fun (c_29 : (4 : Int) < (0 : Int)) => by omega)
    refine go_iload C at_154 (pc' := 156) rfl rfl ?_
    refine go_iconst C (5 : Int32) at_156 (pc' := 157) rfl (by decide) ?_
    refine go_icmp C (0 : Int) (5 : Int) (by decide) (by decide) at_157 (by decide) (pc' := 172) (by decide) (pcN := 160) rfl (fun (c_30 : ¬ (5 : Int) < (0 : Int)) => ?_) (fun (c_30 : (5 : Int) < (0 : Int)) => by omega)
    refine go_iload C at_172 (pc' := 174) rfl rfl ?_
    refine go_bipush C (6 : Int32) at_174 (pc' := 176) rfl (by decide) ?_
    refine go_icmp C (0 : Int) (6 : Int) (by decide) (by decide) at_176 (by decide) (pc' := 191) (by decide) (pcN := 179) rfl (fun (c_31 : ¬ (6 : Int) < (0 : Int)) => ?_) (fun (c_31 : (6 : Int) < (0 : Int)) => by omega)
    refine go_iload C at_191 (pc' := 193) rfl rfl ?_
    refine go_i2l C at_193 (pc' := 194) rfl ?_
    refine go_lstore C (Ls' := #[.val (.int x0), .val (.int x1), .val (.int x2), .val (.long x3), .second, .val (.int (Int32.ofNat R)), .val (.long lim), .second, .val (.int (0 : Int32)), .val (.ref a_2), .val (.int (1 : Int32)), .val (.long ((Int32.ofNat R).toInt64)), .second]) at_194 (pc' := 196) rfl rfl ?_
    refine go_lload C at_196 (pc' := 198) rfl rfl ?_
    refine go_iload C at_198 (pc' := 200) rfl rfl ?_
    refine go_i2l C at_200 (pc' := 201) rfl ?_
    rw [(by decide : (0 : Int32).toInt64 = (0 : Int64))]
    refine go_lcmp C (1 * (R : Int)) (0 : Int) e0 (by decide) at_201 (pc1 := 202) rfl at_202 (by decide) (pc' := 213) (by decide) (pcN := 205) rfl (fun (c_32 : ¬ (1 * (R : Int)) < (0 : Int)) => ?_) (fun (c_32 : (1 * (R : Int)) < (0 : Int)) => by omega)
    refine go_lload C at_213 (pc' := 215) rfl rfl ?_
    refine go_iload C at_215 (pc' := 217) rfl rfl ?_
    refine go_i2l C at_217 (pc' := 218) rfl ?_
    rw [(by decide : (0 : Int32).toInt64 = (0 : Int64))]
    refine go_lcmp C (1 * (R : Int)) (0 : Int) e0 (by decide) at_218 (pc1 := 219) rfl at_219 (by decide) (pc' := 230) (by decide) (pcN := 222) rfl (fun (c_33 : ¬ (1 * (R : Int)) < (0 : Int)) => ?_) (fun (c_33 : (1 * (R : Int)) < (0 : Int)) => by omega)
    refine go_lload C at_230 (pc' := 232) rfl rfl ?_
    refine go_iload C at_232 (pc' := 234) rfl rfl ?_
    refine go_i2l C at_234 (pc' := 235) rfl ?_
    rw [(by decide : (0 : Int32).toInt64 = (0 : Int64))]
    refine go_lcmp C (1 * (R : Int)) (0 : Int) e0 (by decide) at_235 (pc1 := 236) rfl at_236 (by decide) (pc' := 247) (by decide) (pcN := 239) rfl (fun (c_34 : ¬ (1 * (R : Int)) < (0 : Int)) => ?_) (fun (c_34 : (1 * (R : Int)) < (0 : Int)) => by omega)
    refine go_lload C at_247 (pc' := 249) rfl rfl ?_
    refine go_lload C at_249 (pc' := 251) rfl rfl ?_
    refine go_staticP C (as := [.long ((Int32.ofNat R).toInt64), .long lim]) (rest := []) (W := 0) (.long (o_minL ((Int32.ofNat R).toInt64) lim)) (sat_minL l Z a0 hw ((Int32.ofNat R).toInt64) lim (o_minL ((Int32.ofNat R).toInt64) lim) _ _ rfl) (wd hw 1 rfl) (wd hw 2 rfl) (wd hw 3 rfl) (wd hw 4 rfl) (by decide) pd_1 rfl rfl rfl (by decide) (by decide) rfl rfl (by decide) (by decide) at_251 (pc' := 254) rfl rfl ?_
    refine go_lstore C (Ls' := #[.val (.int x0), .val (.int x1), .val (.int x2), .val (.long x3), .second, .val (.int (Int32.ofNat R)), .val (.long lim), .second, .val (.int (0 : Int32)), .val (.ref a_2), .val (.int (1 : Int32)), .val (.long (o_minL ((Int32.ofNat R).toInt64) lim)), .second]) at_254 (pc' := 256) rfl rfl ?_
    refine go_iload C at_256 (pc' := 258) rfl rfl ?_
    refine go_if0 C (1 : Int) (by decide) at_258 (by decide) (pc' := 284) (by decide) (pcN := 261) rfl (fun (c_35 : (1 : Int) = 0) => by omega) (fun (c_35 : ¬ (1 : Int) = 0) => ?_)
    refine go_aload C at_261 (pc' := 263) rfl rfl rfl ?_
    refine go_virtualP C (as := []) (rest := []) (W := 0) (.long ((32 : Int64) + ((8 : Int64) * ((Int32.ofNat R).toInt64)))) (sat_bytes l Z a0 hw a_2 r_14 R _ _ _ F_19 A_22 I_17 (by omega)) E_18 (wd hw 22 rfl) (wd hw 23 rfl) (wd hw 25 rfl) (wd hw 24 rfl) (wd hw 7 rfl) (wd hw 26 rfl) (by decide) pd_4 rfl rfl rfl (by decide) (by decide) rfl rfl (by decide) (by decide) at_263 (pc' := 266) rfl rfl ?_
    refine go_ldc2 C (v := (32 : Int64)) (wd hw 29 rfl) at_266 (pc' := 269) rfl ?_
    refine go_ldc2 C (v := (8 : Int64)) (wd hw 30 rfl) at_269 (pc' := 272) rfl ?_
    refine go_lload C at_272 (pc' := 274) rfl rfl ?_
    refine go_lmul C at_274 (pc' := 275) rfl ?_
    refine go_ladd C at_275 (pc' := 276) rfl ?_
    have hmm := own_min ((Int32.ofNat R).toInt64) lim
    have hfin : (Int32.ofNat R).toInt64 = o_minL ((Int32.ofNat R).toInt64) lim := long_eq (by rw [Int32.toInt_toInt64, own_of (by omega), hmm]; unfold Dd at D_23; omega)
    have hfq : (32 : Int64) + ((8 : Int64) * ((Int32.ofNat R).toInt64)) = (32 : Int64) + ((8 : Int64) * (o_minL ((Int32.ofNat R).toInt64) lim)) := congrArg (fun z => (32 : Int64) + ((8 : Int64) * z)) hfin
    rw [hfq]
    refine go_lcmp C (((32 : Int64) + ((8 : Int64) * (o_minL ((Int32.ofNat R).toInt64) lim))).toInt) (((32 : Int64) + ((8 : Int64) * (o_minL ((Int32.ofNat R).toInt64) lim))).toInt) rfl rfl at_276 (pc1 := 277) rfl at_277 (by decide) (pc' := 284) (by decide) (pcN := 280) rfl (fun (c_36 : ¬ (((32 : Int64) + ((8 : Int64) * (o_minL ((Int32.ofNat R).toInt64) lim))).toInt) = (((32 : Int64) + ((8 : Int64) * (o_minL ((Int32.ofNat R).toInt64) lim))).toInt)) => by omega) (fun (c_36 : (((32 : Int64) + ((8 : Int64) * (o_minL ((Int32.ofNat R).toInt64) lim))).toInt) = (((32 : Int64) + ((8 : Int64) * (o_minL ((Int32.ofNat R).toInt64) lim))).toInt)) => ?_)
    refine go_iconst C (1 : Int32) at_280 (pc' := 281) rfl (by decide) ?_
    refine go_goto C at_281 (by decide) (pc' := 285) (by decide) ?_
    refine go_ireturnN C (z' := (1 : Int32)) rfl (by simp) rfl at_285 (by decide) (by decide) ?_
    exact ⟨_, rfl, rfl⟩
  · obtain rfl : kk = (1 : Int32) := int_eq (hq.trans (by decide))
    rw [hq] at hkl
    refine go_new C (wd hw 5 rfl) (wd hw 6 rfl) (wd hw 7 rfl) at_33 (pc' := 36) rfl (ce' := 1) (sl' := 7) rfl rfl (by decide) (by decide) ?_
    intro h_37 a_38 g_39 E_40 E_41 D_42
    have g_43 : Z.heap.size ≤ a_38 := own_ge (Nat.le_refl _) g_39
    have z_44 : Z.heap.size ≤ h_37.size := Nat.le_trans (Nat.le_refl _) E_40.1
    have F_45 : Fld Z h_37 a_38 "com/example/throttld/throttld/SlidingLog$Log" "ring" "[J" (.null) := D_42 (Or.inl (wd hw 21 rfl)) (ty := (.array .long)) (by decide)
    have F_46 : Fld Z h_37 a_38 "com/example/throttld/throttld/SlidingLog$Log" "count" "I" (.int (0 : Int32)) := D_42 (Or.inl (wd hw 37 rfl)) (ty := .int) (by decide)
    have F_47 : Fld Z h_37 a_38 "com/example/throttld/throttld/SlidingLog$Log" "head" "I" (.int (0 : Int32)) := D_42 (Or.inl (wd hw 43 rfl)) (ty := .int) (by decide)
    refine go_dup C at_36 (pc' := 37) rfl rfl ?_
    refine go_iload C at_37 (pc' := 39) rfl rfl ?_
    refine go_specialN C (as := [.int (Int32.ofNat R)]) (rest := [.ref a_38]) (W := 1) (sat_init l Z a0 hw a_38 R _ _ hR E_41 F_45 F_47 F_46 g_43 z_44) rfl (wd hw 8 rfl) (wd hw 9 rfl) (wd hw 7 rfl) (wd hw 10 rfl) (by decide) pd_2 rfl rfl rfl (by decide) (by decide) (ce' := 2) (sl' := 1031) rfl rfl (by decide) (by decide) at_39 (pc' := 42) rfl rfl ?_
    intro h_48 q_49
    obtain ⟨r_50, vs_51, g_52, I_53, E_54, F_55, F_56, F_57, A_58⟩ := q_49
    have D_59 : Dd R R 0 lim.toInt := Or.inl ⟨by omega, rfl⟩
    refine go_astore C (Ls' := #[.val (.int x0), .val (.int x1), .val (.int x2), .val (.long x3), .second, .val (.int (Int32.ofNat R)), .val (.long lim), .second, .val (.int (1 : Int32)), .val (.ref a_38), .unset, .unset, .unset]) at_42 (pc' := 44) rfl rfl rfl ?_
    refine go_aload C at_44 (pc' := 46) rfl rfl rfl ?_
    refine go_virtualP C (as := []) (rest := []) (W := 0) (.long ((32 : Int64) + ((8 : Int64) * ((Int32.ofNat R).toInt64)))) (sat_bytes l Z a0 hw a_38 r_50 R _ _ _ F_55 A_58 I_53 (by omega)) E_54 (wd hw 22 rfl) (wd hw 23 rfl) (wd hw 25 rfl) (wd hw 24 rfl) (wd hw 7 rfl) (wd hw 26 rfl) (by decide) pd_4 rfl rfl rfl (by decide) (by decide) rfl rfl (by decide) (by decide) at_46 (pc' := 49) rfl rfl ?_
    refine go_ldc2 C (v := (32 : Int64)) (wd hw 29 rfl) at_49 (pc' := 52) rfl ?_
    refine go_ldc2 C (v := (8 : Int64)) (wd hw 30 rfl) at_52 (pc' := 55) rfl ?_
    refine go_iload C at_55 (pc' := 57) rfl rfl ?_
    refine go_i2l C at_57 (pc' := 58) rfl ?_
    refine go_lmul C at_58 (pc' := 59) rfl ?_
    refine go_ladd C at_59 (pc' := 60) rfl ?_
    refine go_lcmp C (((32 : Int64) + ((8 : Int64) * ((Int32.ofNat R).toInt64))).toInt) (((32 : Int64) + ((8 : Int64) * ((Int32.ofNat R).toInt64))).toInt) rfl rfl at_60 (pc1 := 61) rfl at_61 (by decide) (pc' := 68) (by decide) (pcN := 64) rfl (fun (c_60 : ¬ (((32 : Int64) + ((8 : Int64) * ((Int32.ofNat R).toInt64))).toInt) = (((32 : Int64) + ((8 : Int64) * ((Int32.ofNat R).toInt64))).toInt)) => by omega) (fun (c_60 : (((32 : Int64) + ((8 : Int64) * ((Int32.ofNat R).toInt64))).toInt) = (((32 : Int64) + ((8 : Int64) * ((Int32.ofNat R).toInt64))).toInt)) => ?_)
    refine go_iconst C (1 : Int32) at_64 (pc' := 65) rfl (by decide) ?_
    refine go_goto C at_65 (by decide) (pc' := 69) (by decide) ?_
    refine go_istore C (Ls' := #[.val (.int x0), .val (.int x1), .val (.int x2), .val (.long x3), .second, .val (.int (Int32.ofNat R)), .val (.long lim), .second, .val (.int (1 : Int32)), .val (.ref a_38), .val (.int (1 : Int32)), .unset, .unset]) at_69 (pc' := 71) rfl rfl ?_
    refine go_iload C at_71 (pc' := 73) rfl rfl ?_
    refine go_if0 C (1 : Int) (by decide) at_73 (by decide) (pc' := 84) (by decide) (pcN := 76) rfl (fun (c_61 : ¬ 0 < (1 : Int)) => by omega) (fun (c_61 : 0 < (1 : Int)) => ?_)
    refine go_aload C at_76 (pc' := 78) rfl rfl rfl ?_
    refine go_lloadN C at_78 (pc' := 79) rfl rfl ?_
    refine go_lload C at_79 (pc' := 81) rfl rfl ?_
    refine go_virtualN C (as := [.long x3, .long lim]) (rest := []) (W := 0) (sat_add l Z a0 hw a_38 r_50 x3 lim 0 R _ _ _ (by decide) (by omega) (by omega) (by omega) (by omega) hl2 I_53 ⟨E_54, F_55, F_56, F_57, A_58⟩ g_43 g_52) E_54 (wd hw 31 rfl) (wd hw 32 rfl) (wd hw 34 rfl) (wd hw 33 rfl) (wd hw 7 rfl) (wd hw 35 rfl) (by decide) pd_5 rfl rfl rfl (by decide) (by decide) (ce' := 3) (sl' := 1043) rfl rfl (by decide) (by decide) at_81 (pc' := 84) rfl rfl ?_
    intro h_62 q_63
    obtain ⟨r_64, vs_65, L_66, g_67, I_68, hc_69, rel_70, E_71, F_72, F_73, F_74, A_75⟩ := q_63
    have D_76 : Dd R L_66 1 lim.toInt := Dd_step D_59 hR1 hlR (by decide) (by omega) rel_70 hc_69
    have B_77 := Dd_bound D_76 hR1 hR hlR (by decide)
    clear rel_70 D_59
    refine go_iload C at_84 (pc' := 86) rfl rfl ?_
    refine go_iconst C (1 : Int32) at_86 (pc' := 87) rfl (by decide) ?_
    refine go_icmp C (1 : Int) (1 : Int) (by decide) (by decide) at_87 (by decide) (pc' := 100) (by decide) (pcN := 90) rfl (fun (c_78 : ¬ (1 : Int) < (1 : Int)) => ?_) (fun (c_78 : (1 : Int) < (1 : Int)) => by omega)
    refine go_iload C at_100 (pc' := 102) rfl rfl ?_
    refine go_iconst C (2 : Int32) at_102 (pc' := 103) rfl (by decide) ?_
    refine go_icmp C (1 : Int) (2 : Int) (by decide) (by decide) at_103 (by decide) (pc' := 118) (by decide) (pcN := 106) rfl (fun (c_79 : ¬ (2 : Int) < (1 : Int)) => ?_) (fun (c_79 : (2 : Int) < (1 : Int)) => by omega)
    refine go_iload C at_118 (pc' := 120) rfl rfl ?_
    refine go_iconst C (3 : Int32) at_120 (pc' := 121) rfl (by decide) ?_
    refine go_icmp C (1 : Int) (3 : Int) (by decide) (by decide) at_121 (by decide) (pc' := 136) (by decide) (pcN := 124) rfl (fun (c_80 : ¬ (3 : Int) < (1 : Int)) => ?_) (fun (c_80 : (3 : Int) < (1 : Int)) => by omega)
    refine go_iload C at_136 (pc' := 138) rfl rfl ?_
    refine go_iconst C (4 : Int32) at_138 (pc' := 139) rfl (by decide) ?_
    refine go_icmp C (1 : Int) (4 : Int) (by decide) (by decide) at_139 (by decide) (pc' := 154) (by decide) (pcN := 142) rfl (fun (c_81 : ¬ (4 : Int) < (1 : Int)) => ?_) (fun (c_81 : (4 : Int) < (1 : Int)) => by omega)
    refine go_iload C at_154 (pc' := 156) rfl rfl ?_
    refine go_iconst C (5 : Int32) at_156 (pc' := 157) rfl (by decide) ?_
    refine go_icmp C (1 : Int) (5 : Int) (by decide) (by decide) at_157 (by decide) (pc' := 172) (by decide) (pcN := 160) rfl (fun (c_82 : ¬ (5 : Int) < (1 : Int)) => ?_) (fun (c_82 : (5 : Int) < (1 : Int)) => by omega)
    refine go_iload C at_172 (pc' := 174) rfl rfl ?_
    refine go_bipush C (6 : Int32) at_174 (pc' := 176) rfl (by decide) ?_
    refine go_icmp C (1 : Int) (6 : Int) (by decide) (by decide) at_176 (by decide) (pc' := 191) (by decide) (pcN := 179) rfl (fun (c_83 : ¬ (6 : Int) < (1 : Int)) => ?_) (fun (c_83 : (6 : Int) < (1 : Int)) => by omega)
    refine go_iload C at_191 (pc' := 193) rfl rfl ?_
    refine go_i2l C at_193 (pc' := 194) rfl ?_
    refine go_lstore C (Ls' := #[.val (.int x0), .val (.int x1), .val (.int x2), .val (.long x3), .second, .val (.int (Int32.ofNat R)), .val (.long lim), .second, .val (.int (1 : Int32)), .val (.ref a_38), .val (.int (1 : Int32)), .val (.long ((Int32.ofNat R).toInt64)), .second]) at_194 (pc' := 196) rfl rfl ?_
    refine go_lload C at_196 (pc' := 198) rfl rfl ?_
    refine go_iload C at_198 (pc' := 200) rfl rfl ?_
    refine go_i2l C at_200 (pc' := 201) rfl ?_
    rw [(by decide : (1 : Int32).toInt64 = (1 : Int64))]
    refine go_lcmp C (1 * (R : Int)) (1 : Int) e0 (by decide) at_201 (pc1 := 202) rfl at_202 (by decide) (pc' := 213) (by decide) (pcN := 205) rfl (fun (c_84 : ¬ (1 * (R : Int)) < (1 : Int)) => ?_) (fun (c_84 : (1 * (R : Int)) < (1 : Int)) => by omega)
    refine go_lload C at_213 (pc' := 215) rfl rfl ?_
    refine go_iload C at_215 (pc' := 217) rfl rfl ?_
    refine go_i2l C at_217 (pc' := 218) rfl ?_
    rw [(by decide : (1 : Int32).toInt64 = (1 : Int64))]
    refine go_lcmp C (1 * (R : Int)) (1 : Int) e0 (by decide) at_218 (pc1 := 219) rfl at_219 (by decide) (pc' := 230) (by decide) (pcN := 222) rfl (fun (c_85 : ¬ (1 * (R : Int)) < (1 : Int)) => ?_) (fun (c_85 : (1 * (R : Int)) < (1 : Int)) => by omega)
    refine go_lload C at_230 (pc' := 232) rfl rfl ?_
    refine go_iload C at_232 (pc' := 234) rfl rfl ?_
    refine go_i2l C at_234 (pc' := 235) rfl ?_
    rw [(by decide : (1 : Int32).toInt64 = (1 : Int64))]
    refine go_lcmp C (1 * (R : Int)) (1 : Int) e0 (by decide) at_235 (pc1 := 236) rfl at_236 (by decide) (pc' := 247) (by decide) (pcN := 239) rfl (fun (c_86 : ¬ (1 * (R : Int)) < (1 : Int)) => ?_) (fun (c_86 : (1 * (R : Int)) < (1 : Int)) => by omega)
    refine go_lload C at_247 (pc' := 249) rfl rfl ?_
    refine go_lload C at_249 (pc' := 251) rfl rfl ?_
    refine go_staticP C (as := [.long ((Int32.ofNat R).toInt64), .long lim]) (rest := []) (W := 0) (.long (o_minL ((Int32.ofNat R).toInt64) lim)) (sat_minL l Z a0 hw ((Int32.ofNat R).toInt64) lim (o_minL ((Int32.ofNat R).toInt64) lim) _ _ rfl) (wd hw 1 rfl) (wd hw 2 rfl) (wd hw 3 rfl) (wd hw 4 rfl) (by decide) pd_1 rfl rfl rfl (by decide) (by decide) rfl rfl (by decide) (by decide) at_251 (pc' := 254) rfl rfl ?_
    refine go_lstore C (Ls' := #[.val (.int x0), .val (.int x1), .val (.int x2), .val (.long x3), .second, .val (.int (Int32.ofNat R)), .val (.long lim), .second, .val (.int (1 : Int32)), .val (.ref a_38), .val (.int (1 : Int32)), .val (.long (o_minL ((Int32.ofNat R).toInt64) lim)), .second]) at_254 (pc' := 256) rfl rfl ?_
    refine go_iload C at_256 (pc' := 258) rfl rfl ?_
    refine go_if0 C (1 : Int) (by decide) at_258 (by decide) (pc' := 284) (by decide) (pcN := 261) rfl (fun (c_87 : (1 : Int) = 0) => by omega) (fun (c_87 : ¬ (1 : Int) = 0) => ?_)
    refine go_aload C at_261 (pc' := 263) rfl rfl rfl ?_
    refine go_virtualP C (as := []) (rest := []) (W := 0) (.long ((32 : Int64) + ((8 : Int64) * ((Int32.ofNat L_66).toInt64)))) (sat_bytes l Z a0 hw a_38 r_64 L_66 _ _ _ F_72 A_75 I_68 (by omega)) E_71 (wd hw 22 rfl) (wd hw 23 rfl) (wd hw 25 rfl) (wd hw 24 rfl) (wd hw 7 rfl) (wd hw 26 rfl) (by decide) pd_4 rfl rfl rfl (by decide) (by decide) rfl rfl (by decide) (by decide) at_263 (pc' := 266) rfl rfl ?_
    refine go_ldc2 C (v := (32 : Int64)) (wd hw 29 rfl) at_266 (pc' := 269) rfl ?_
    refine go_ldc2 C (v := (8 : Int64)) (wd hw 30 rfl) at_269 (pc' := 272) rfl ?_
    refine go_lload C at_272 (pc' := 274) rfl rfl ?_
    refine go_lmul C at_274 (pc' := 275) rfl ?_
    refine go_ladd C at_275 (pc' := 276) rfl ?_
    have hmm := own_min ((Int32.ofNat R).toInt64) lim
    have hfin : (Int32.ofNat L_66).toInt64 = o_minL ((Int32.ofNat R).toInt64) lim := long_eq (by rw [Int32.toInt_toInt64, own_of (by omega), hmm]; unfold Dd at D_76; omega)
    have hfq : (32 : Int64) + ((8 : Int64) * ((Int32.ofNat L_66).toInt64)) = (32 : Int64) + ((8 : Int64) * (o_minL ((Int32.ofNat R).toInt64) lim)) := congrArg (fun z => (32 : Int64) + ((8 : Int64) * z)) hfin
    rw [hfq]
    refine go_lcmp C (((32 : Int64) + ((8 : Int64) * (o_minL ((Int32.ofNat R).toInt64) lim))).toInt) (((32 : Int64) + ((8 : Int64) * (o_minL ((Int32.ofNat R).toInt64) lim))).toInt) rfl rfl at_276 (pc1 := 277) rfl at_277 (by decide) (pc' := 284) (by decide) (pcN := 280) rfl (fun (c_88 : ¬ (((32 : Int64) + ((8 : Int64) * (o_minL ((Int32.ofNat R).toInt64) lim))).toInt) = (((32 : Int64) + ((8 : Int64) * (o_minL ((Int32.ofNat R).toInt64) lim))).toInt)) => by omega) (fun (c_88 : (((32 : Int64) + ((8 : Int64) * (o_minL ((Int32.ofNat R).toInt64) lim))).toInt) = (((32 : Int64) + ((8 : Int64) * (o_minL ((Int32.ofNat R).toInt64) lim))).toInt)) => ?_)
    refine go_iconst C (1 : Int32) at_280 (pc' := 281) rfl (by decide) ?_
    refine go_goto C at_281 (by decide) (pc' := 285) (by decide) ?_
    refine go_ireturnN C (z' := (1 : Int32)) rfl (by simp) rfl at_285 (by decide) (by decide) ?_
    exact ⟨_, rfl, rfl⟩
  · obtain rfl : kk = (2 : Int32) := int_eq (hq.trans (by decide))
    rw [hq] at hkl
    refine go_new C (wd hw 5 rfl) (wd hw 6 rfl) (wd hw 7 rfl) at_33 (pc' := 36) rfl (ce' := 1) (sl' := 7) rfl rfl (by decide) (by decide) ?_
    intro h_89 a_90 g_91 E_92 E_93 D_94
    have g_95 : Z.heap.size ≤ a_90 := own_ge (Nat.le_refl _) g_91
    have z_96 : Z.heap.size ≤ h_89.size := Nat.le_trans (Nat.le_refl _) E_92.1
    have F_97 : Fld Z h_89 a_90 "com/example/throttld/throttld/SlidingLog$Log" "ring" "[J" (.null) := D_94 (Or.inl (wd hw 21 rfl)) (ty := (.array .long)) (by decide)
    have F_98 : Fld Z h_89 a_90 "com/example/throttld/throttld/SlidingLog$Log" "count" "I" (.int (0 : Int32)) := D_94 (Or.inl (wd hw 37 rfl)) (ty := .int) (by decide)
    have F_99 : Fld Z h_89 a_90 "com/example/throttld/throttld/SlidingLog$Log" "head" "I" (.int (0 : Int32)) := D_94 (Or.inl (wd hw 43 rfl)) (ty := .int) (by decide)
    refine go_dup C at_36 (pc' := 37) rfl rfl ?_
    refine go_iload C at_37 (pc' := 39) rfl rfl ?_
    refine go_specialN C (as := [.int (Int32.ofNat R)]) (rest := [.ref a_90]) (W := 1) (sat_init l Z a0 hw a_90 R _ _ hR E_93 F_97 F_99 F_98 g_95 z_96) rfl (wd hw 8 rfl) (wd hw 9 rfl) (wd hw 7 rfl) (wd hw 10 rfl) (by decide) pd_2 rfl rfl rfl (by decide) (by decide) (ce' := 2) (sl' := 1031) rfl rfl (by decide) (by decide) at_39 (pc' := 42) rfl rfl ?_
    intro h_100 q_101
    obtain ⟨r_102, vs_103, g_104, I_105, E_106, F_107, F_108, F_109, A_110⟩ := q_101
    have D_111 : Dd R R 0 lim.toInt := Or.inl ⟨by omega, rfl⟩
    refine go_astore C (Ls' := #[.val (.int x0), .val (.int x1), .val (.int x2), .val (.long x3), .second, .val (.int (Int32.ofNat R)), .val (.long lim), .second, .val (.int (2 : Int32)), .val (.ref a_90), .unset, .unset, .unset]) at_42 (pc' := 44) rfl rfl rfl ?_
    refine go_aload C at_44 (pc' := 46) rfl rfl rfl ?_
    refine go_virtualP C (as := []) (rest := []) (W := 0) (.long ((32 : Int64) + ((8 : Int64) * ((Int32.ofNat R).toInt64)))) (sat_bytes l Z a0 hw a_90 r_102 R _ _ _ F_107 A_110 I_105 (by omega)) E_106 (wd hw 22 rfl) (wd hw 23 rfl) (wd hw 25 rfl) (wd hw 24 rfl) (wd hw 7 rfl) (wd hw 26 rfl) (by decide) pd_4 rfl rfl rfl (by decide) (by decide) rfl rfl (by decide) (by decide) at_46 (pc' := 49) rfl rfl ?_
    refine go_ldc2 C (v := (32 : Int64)) (wd hw 29 rfl) at_49 (pc' := 52) rfl ?_
    refine go_ldc2 C (v := (8 : Int64)) (wd hw 30 rfl) at_52 (pc' := 55) rfl ?_
    refine go_iload C at_55 (pc' := 57) rfl rfl ?_
    refine go_i2l C at_57 (pc' := 58) rfl ?_
    refine go_lmul C at_58 (pc' := 59) rfl ?_
    refine go_ladd C at_59 (pc' := 60) rfl ?_
    refine go_lcmp C (((32 : Int64) + ((8 : Int64) * ((Int32.ofNat R).toInt64))).toInt) (((32 : Int64) + ((8 : Int64) * ((Int32.ofNat R).toInt64))).toInt) rfl rfl at_60 (pc1 := 61) rfl at_61 (by decide) (pc' := 68) (by decide) (pcN := 64) rfl (fun (c_112 : ¬ (((32 : Int64) + ((8 : Int64) * ((Int32.ofNat R).toInt64))).toInt) = (((32 : Int64) + ((8 : Int64) * ((Int32.ofNat R).toInt64))).toInt)) => by omega) (fun (c_112 : (((32 : Int64) + ((8 : Int64) * ((Int32.ofNat R).toInt64))).toInt) = (((32 : Int64) + ((8 : Int64) * ((Int32.ofNat R).toInt64))).toInt)) => ?_)
    refine go_iconst C (1 : Int32) at_64 (pc' := 65) rfl (by decide) ?_
    refine go_goto C at_65 (by decide) (pc' := 69) (by decide) ?_
    refine go_istore C (Ls' := #[.val (.int x0), .val (.int x1), .val (.int x2), .val (.long x3), .second, .val (.int (Int32.ofNat R)), .val (.long lim), .second, .val (.int (2 : Int32)), .val (.ref a_90), .val (.int (1 : Int32)), .unset, .unset]) at_69 (pc' := 71) rfl rfl ?_
    refine go_iload C at_71 (pc' := 73) rfl rfl ?_
    refine go_if0 C (2 : Int) (by decide) at_73 (by decide) (pc' := 84) (by decide) (pcN := 76) rfl (fun (c_113 : ¬ 0 < (2 : Int)) => by omega) (fun (c_113 : 0 < (2 : Int)) => ?_)
    refine go_aload C at_76 (pc' := 78) rfl rfl rfl ?_
    refine go_lloadN C at_78 (pc' := 79) rfl rfl ?_
    refine go_lload C at_79 (pc' := 81) rfl rfl ?_
    refine go_virtualN C (as := [.long x3, .long lim]) (rest := []) (W := 0) (sat_add l Z a0 hw a_90 r_102 x3 lim 0 R _ _ _ (by decide) (by omega) (by omega) (by omega) (by omega) hl2 I_105 ⟨E_106, F_107, F_108, F_109, A_110⟩ g_95 g_104) E_106 (wd hw 31 rfl) (wd hw 32 rfl) (wd hw 34 rfl) (wd hw 33 rfl) (wd hw 7 rfl) (wd hw 35 rfl) (by decide) pd_5 rfl rfl rfl (by decide) (by decide) (ce' := 3) (sl' := 1043) rfl rfl (by decide) (by decide) at_81 (pc' := 84) rfl rfl ?_
    intro h_114 q_115
    obtain ⟨r_116, vs_117, L_118, g_119, I_120, hc_121, rel_122, E_123, F_124, F_125, F_126, A_127⟩ := q_115
    have D_128 : Dd R L_118 1 lim.toInt := Dd_step D_111 hR1 hlR (by decide) (by omega) rel_122 hc_121
    have B_129 := Dd_bound D_128 hR1 hR hlR (by decide)
    clear rel_122 D_111
    refine go_iload C at_84 (pc' := 86) rfl rfl ?_
    refine go_iconst C (1 : Int32) at_86 (pc' := 87) rfl (by decide) ?_
    refine go_icmp C (2 : Int) (1 : Int) (by decide) (by decide) at_87 (by decide) (pc' := 100) (by decide) (pcN := 90) rfl (fun (c_130 : ¬ (1 : Int) < (2 : Int)) => by omega) (fun (c_130 : (1 : Int) < (2 : Int)) => ?_)
    refine go_aload C at_90 (pc' := 92) rfl rfl rfl ?_
    refine go_lloadN C at_92 (pc' := 93) rfl rfl ?_
    refine go_lconst C (1 : Int64) at_93 (pc' := 94) rfl (by decide) ?_
    refine go_ladd C at_94 (pc' := 95) rfl ?_
    refine go_lload C at_95 (pc' := 97) rfl rfl ?_
    refine go_virtualN C (as := [.long (x3 + (1 : Int64)), .long lim]) (rest := []) (W := 0) (sat_add l Z a0 hw a_90 r_116 (x3 + (1 : Int64)) lim 1 L_118 _ _ _ (by decide) (by omega) (by omega) (by omega) (by omega) hl2 I_120 ⟨E_123, F_124, F_125, F_126, A_127⟩ g_95 g_119) E_123 (wd hw 31 rfl) (wd hw 32 rfl) (wd hw 34 rfl) (wd hw 33 rfl) (wd hw 7 rfl) (wd hw 35 rfl) (by decide) pd_5 rfl rfl rfl (by decide) (by decide) (ce' := 4) (sl' := 1055) rfl rfl (by decide) (by decide) at_97 (pc' := 100) rfl rfl ?_
    intro h_131 q_132
    obtain ⟨r_133, vs_134, L_135, g_136, I_137, hc_138, rel_139, E_140, F_141, F_142, F_143, A_144⟩ := q_132
    have D_145 : Dd R L_135 2 lim.toInt := Dd_step D_128 hR1 hlR (by decide) (by omega) rel_139 hc_138
    have B_146 := Dd_bound D_145 hR1 hR hlR (by decide)
    clear rel_139 D_128 hc_121
    refine go_iload C at_100 (pc' := 102) rfl rfl ?_
    refine go_iconst C (2 : Int32) at_102 (pc' := 103) rfl (by decide) ?_
    refine go_icmp C (2 : Int) (2 : Int) (by decide) (by decide) at_103 (by decide) (pc' := 118) (by decide) (pcN := 106) rfl (fun (c_147 : ¬ (2 : Int) < (2 : Int)) => ?_) (fun (c_147 : (2 : Int) < (2 : Int)) => by omega)
    refine go_iload C at_118 (pc' := 120) rfl rfl ?_
    refine go_iconst C (3 : Int32) at_120 (pc' := 121) rfl (by decide) ?_
    refine go_icmp C (2 : Int) (3 : Int) (by decide) (by decide) at_121 (by decide) (pc' := 136) (by decide) (pcN := 124) rfl (fun (c_148 : ¬ (3 : Int) < (2 : Int)) => ?_) (fun (c_148 : (3 : Int) < (2 : Int)) => by omega)
    refine go_iload C at_136 (pc' := 138) rfl rfl ?_
    refine go_iconst C (4 : Int32) at_138 (pc' := 139) rfl (by decide) ?_
    refine go_icmp C (2 : Int) (4 : Int) (by decide) (by decide) at_139 (by decide) (pc' := 154) (by decide) (pcN := 142) rfl (fun (c_149 : ¬ (4 : Int) < (2 : Int)) => ?_) (fun (c_149 : (4 : Int) < (2 : Int)) => by omega)
    refine go_iload C at_154 (pc' := 156) rfl rfl ?_
    refine go_iconst C (5 : Int32) at_156 (pc' := 157) rfl (by decide) ?_
    refine go_icmp C (2 : Int) (5 : Int) (by decide) (by decide) at_157 (by decide) (pc' := 172) (by decide) (pcN := 160) rfl (fun (c_150 : ¬ (5 : Int) < (2 : Int)) => ?_) (fun (c_150 : (5 : Int) < (2 : Int)) => by omega)
    refine go_iload C at_172 (pc' := 174) rfl rfl ?_
    refine go_bipush C (6 : Int32) at_174 (pc' := 176) rfl (by decide) ?_
    refine go_icmp C (2 : Int) (6 : Int) (by decide) (by decide) at_176 (by decide) (pc' := 191) (by decide) (pcN := 179) rfl (fun (c_151 : ¬ (6 : Int) < (2 : Int)) => ?_) (fun (c_151 : (6 : Int) < (2 : Int)) => by omega)
    refine go_iload C at_191 (pc' := 193) rfl rfl ?_
    refine go_i2l C at_193 (pc' := 194) rfl ?_
    refine go_lstore C (Ls' := #[.val (.int x0), .val (.int x1), .val (.int x2), .val (.long x3), .second, .val (.int (Int32.ofNat R)), .val (.long lim), .second, .val (.int (2 : Int32)), .val (.ref a_90), .val (.int (1 : Int32)), .val (.long ((Int32.ofNat R).toInt64)), .second]) at_194 (pc' := 196) rfl rfl ?_
    refine go_lload C at_196 (pc' := 198) rfl rfl ?_
    refine go_iload C at_198 (pc' := 200) rfl rfl ?_
    refine go_i2l C at_200 (pc' := 201) rfl ?_
    rw [(by decide : (2 : Int32).toInt64 = (2 : Int64))]
    refine go_lcmp C (1 * (R : Int)) (2 : Int) e0 (by decide) at_201 (pc1 := 202) rfl at_202 (by decide) (pc' := 213) (by decide) (pcN := 205) rfl (fun (c_152 : ¬ (1 * (R : Int)) < (2 : Int)) => ?_) (fun (c_152 : (1 * (R : Int)) < (2 : Int)) => ?_)
    · skip
      refine go_lload C at_213 (pc' := 215) rfl rfl ?_
      refine go_iload C at_215 (pc' := 217) rfl rfl ?_
      refine go_i2l C at_217 (pc' := 218) rfl ?_
      rw [(by decide : (2 : Int32).toInt64 = (2 : Int64))]
      refine go_lcmp C (1 * (R : Int)) (2 : Int) e0 (by decide) at_218 (pc1 := 219) rfl at_219 (by decide) (pc' := 230) (by decide) (pcN := 222) rfl (fun (c_153 : ¬ (1 * (R : Int)) < (2 : Int)) => ?_) (fun (c_153 : (1 * (R : Int)) < (2 : Int)) => by omega)
      refine go_lload C at_230 (pc' := 232) rfl rfl ?_
      refine go_iload C at_232 (pc' := 234) rfl rfl ?_
      refine go_i2l C at_234 (pc' := 235) rfl ?_
      rw [(by decide : (2 : Int32).toInt64 = (2 : Int64))]
      refine go_lcmp C (1 * (R : Int)) (2 : Int) e0 (by decide) at_235 (pc1 := 236) rfl at_236 (by decide) (pc' := 247) (by decide) (pcN := 239) rfl (fun (c_154 : ¬ (1 * (R : Int)) < (2 : Int)) => ?_) (fun (c_154 : (1 * (R : Int)) < (2 : Int)) => by omega)
      refine go_lload C at_247 (pc' := 249) rfl rfl ?_
      refine go_lload C at_249 (pc' := 251) rfl rfl ?_
      refine go_staticP C (as := [.long ((Int32.ofNat R).toInt64), .long lim]) (rest := []) (W := 0) (.long (o_minL ((Int32.ofNat R).toInt64) lim)) (sat_minL l Z a0 hw ((Int32.ofNat R).toInt64) lim (o_minL ((Int32.ofNat R).toInt64) lim) _ _ rfl) (wd hw 1 rfl) (wd hw 2 rfl) (wd hw 3 rfl) (wd hw 4 rfl) (by decide) pd_1 rfl rfl rfl (by decide) (by decide) rfl rfl (by decide) (by decide) at_251 (pc' := 254) rfl rfl ?_
      refine go_lstore C (Ls' := #[.val (.int x0), .val (.int x1), .val (.int x2), .val (.long x3), .second, .val (.int (Int32.ofNat R)), .val (.long lim), .second, .val (.int (2 : Int32)), .val (.ref a_90), .val (.int (1 : Int32)), .val (.long (o_minL ((Int32.ofNat R).toInt64) lim)), .second]) at_254 (pc' := 256) rfl rfl ?_
      refine go_iload C at_256 (pc' := 258) rfl rfl ?_
      refine go_if0 C (1 : Int) (by decide) at_258 (by decide) (pc' := 284) (by decide) (pcN := 261) rfl (fun (c_155 : (1 : Int) = 0) => by omega) (fun (c_155 : ¬ (1 : Int) = 0) => ?_)
      refine go_aload C at_261 (pc' := 263) rfl rfl rfl ?_
      refine go_virtualP C (as := []) (rest := []) (W := 0) (.long ((32 : Int64) + ((8 : Int64) * ((Int32.ofNat L_135).toInt64)))) (sat_bytes l Z a0 hw a_90 r_133 L_135 _ _ _ F_141 A_144 I_137 (by omega)) E_140 (wd hw 22 rfl) (wd hw 23 rfl) (wd hw 25 rfl) (wd hw 24 rfl) (wd hw 7 rfl) (wd hw 26 rfl) (by decide) pd_4 rfl rfl rfl (by decide) (by decide) rfl rfl (by decide) (by decide) at_263 (pc' := 266) rfl rfl ?_
      refine go_ldc2 C (v := (32 : Int64)) (wd hw 29 rfl) at_266 (pc' := 269) rfl ?_
      refine go_ldc2 C (v := (8 : Int64)) (wd hw 30 rfl) at_269 (pc' := 272) rfl ?_
      refine go_lload C at_272 (pc' := 274) rfl rfl ?_
      refine go_lmul C at_274 (pc' := 275) rfl ?_
      refine go_ladd C at_275 (pc' := 276) rfl ?_
      have hmm := own_min ((Int32.ofNat R).toInt64) lim
      have hfin : (Int32.ofNat L_135).toInt64 = o_minL ((Int32.ofNat R).toInt64) lim := long_eq (by rw [Int32.toInt_toInt64, own_of (by omega), hmm]; unfold Dd at D_145; omega)
      have hfq : (32 : Int64) + ((8 : Int64) * ((Int32.ofNat L_135).toInt64)) = (32 : Int64) + ((8 : Int64) * (o_minL ((Int32.ofNat R).toInt64) lim)) := congrArg (fun z => (32 : Int64) + ((8 : Int64) * z)) hfin
      rw [hfq]
      refine go_lcmp C (((32 : Int64) + ((8 : Int64) * (o_minL ((Int32.ofNat R).toInt64) lim))).toInt) (((32 : Int64) + ((8 : Int64) * (o_minL ((Int32.ofNat R).toInt64) lim))).toInt) rfl rfl at_276 (pc1 := 277) rfl at_277 (by decide) (pc' := 284) (by decide) (pcN := 280) rfl (fun (c_156 : ¬ (((32 : Int64) + ((8 : Int64) * (o_minL ((Int32.ofNat R).toInt64) lim))).toInt) = (((32 : Int64) + ((8 : Int64) * (o_minL ((Int32.ofNat R).toInt64) lim))).toInt)) => by omega) (fun (c_156 : (((32 : Int64) + ((8 : Int64) * (o_minL ((Int32.ofNat R).toInt64) lim))).toInt) = (((32 : Int64) + ((8 : Int64) * (o_minL ((Int32.ofNat R).toInt64) lim))).toInt)) => ?_)
      refine go_iconst C (1 : Int32) at_280 (pc' := 281) rfl (by decide) ?_
      refine go_goto C at_281 (by decide) (pc' := 285) (by decide) ?_
      refine go_ireturnN C (z' := (1 : Int32)) rfl (by simp) rfl at_285 (by decide) (by decide) ?_
      exact ⟨_, rfl, rfl⟩
    · skip
      refine go_ldc2 C (v := (2 : Int64)) (wd hw 46 rfl) at_205 (pc' := 208) rfl ?_
      refine go_lload C at_208 (pc' := 210) rfl rfl ?_
      refine go_lmul C at_210 (pc' := 211) rfl ?_
      refine go_lstore C (Ls' := #[.val (.int x0), .val (.int x1), .val (.int x2), .val (.long x3), .second, .val (.int (Int32.ofNat R)), .val (.long lim), .second, .val (.int (2 : Int32)), .val (.ref a_90), .val (.int (1 : Int32)), .val (.long ((2 : Int64) * ((Int32.ofNat R).toInt64))), .second]) at_211 (pc' := 213) rfl rfl ?_
      refine go_lload C at_213 (pc' := 215) rfl rfl ?_
      refine go_iload C at_215 (pc' := 217) rfl rfl ?_
      refine go_i2l C at_217 (pc' := 218) rfl ?_
      rw [(by decide : (2 : Int32).toInt64 = (2 : Int64))]
      refine go_lcmp C (2 * (R : Int)) (2 : Int) e1 (by decide) at_218 (pc1 := 219) rfl at_219 (by decide) (pc' := 230) (by decide) (pcN := 222) rfl (fun (c_157 : ¬ (2 * (R : Int)) < (2 : Int)) => ?_) (fun (c_157 : (2 * (R : Int)) < (2 : Int)) => by omega)
      refine go_lload C at_230 (pc' := 232) rfl rfl ?_
      refine go_iload C at_232 (pc' := 234) rfl rfl ?_
      refine go_i2l C at_234 (pc' := 235) rfl ?_
      rw [(by decide : (2 : Int32).toInt64 = (2 : Int64))]
      refine go_lcmp C (2 * (R : Int)) (2 : Int) e1 (by decide) at_235 (pc1 := 236) rfl at_236 (by decide) (pc' := 247) (by decide) (pcN := 239) rfl (fun (c_158 : ¬ (2 * (R : Int)) < (2 : Int)) => ?_) (fun (c_158 : (2 * (R : Int)) < (2 : Int)) => by omega)
      refine go_lload C at_247 (pc' := 249) rfl rfl ?_
      refine go_lload C at_249 (pc' := 251) rfl rfl ?_
      refine go_staticP C (as := [.long ((2 : Int64) * ((Int32.ofNat R).toInt64)), .long lim]) (rest := []) (W := 0) (.long (o_minL ((2 : Int64) * ((Int32.ofNat R).toInt64)) lim)) (sat_minL l Z a0 hw ((2 : Int64) * ((Int32.ofNat R).toInt64)) lim (o_minL ((2 : Int64) * ((Int32.ofNat R).toInt64)) lim) _ _ rfl) (wd hw 1 rfl) (wd hw 2 rfl) (wd hw 3 rfl) (wd hw 4 rfl) (by decide) pd_1 rfl rfl rfl (by decide) (by decide) rfl rfl (by decide) (by decide) at_251 (pc' := 254) rfl rfl ?_
      refine go_lstore C (Ls' := #[.val (.int x0), .val (.int x1), .val (.int x2), .val (.long x3), .second, .val (.int (Int32.ofNat R)), .val (.long lim), .second, .val (.int (2 : Int32)), .val (.ref a_90), .val (.int (1 : Int32)), .val (.long (o_minL ((2 : Int64) * ((Int32.ofNat R).toInt64)) lim)), .second]) at_254 (pc' := 256) rfl rfl ?_
      refine go_iload C at_256 (pc' := 258) rfl rfl ?_
      refine go_if0 C (1 : Int) (by decide) at_258 (by decide) (pc' := 284) (by decide) (pcN := 261) rfl (fun (c_159 : (1 : Int) = 0) => by omega) (fun (c_159 : ¬ (1 : Int) = 0) => ?_)
      refine go_aload C at_261 (pc' := 263) rfl rfl rfl ?_
      refine go_virtualP C (as := []) (rest := []) (W := 0) (.long ((32 : Int64) + ((8 : Int64) * ((Int32.ofNat L_135).toInt64)))) (sat_bytes l Z a0 hw a_90 r_133 L_135 _ _ _ F_141 A_144 I_137 (by omega)) E_140 (wd hw 22 rfl) (wd hw 23 rfl) (wd hw 25 rfl) (wd hw 24 rfl) (wd hw 7 rfl) (wd hw 26 rfl) (by decide) pd_4 rfl rfl rfl (by decide) (by decide) rfl rfl (by decide) (by decide) at_263 (pc' := 266) rfl rfl ?_
      refine go_ldc2 C (v := (32 : Int64)) (wd hw 29 rfl) at_266 (pc' := 269) rfl ?_
      refine go_ldc2 C (v := (8 : Int64)) (wd hw 30 rfl) at_269 (pc' := 272) rfl ?_
      refine go_lload C at_272 (pc' := 274) rfl rfl ?_
      refine go_lmul C at_274 (pc' := 275) rfl ?_
      refine go_ladd C at_275 (pc' := 276) rfl ?_
      have hmm := own_min ((2 : Int64) * ((Int32.ofNat R).toInt64)) lim
      have hfin : (Int32.ofNat L_135).toInt64 = o_minL ((2 : Int64) * ((Int32.ofNat R).toInt64)) lim := long_eq (by rw [Int32.toInt_toInt64, own_of (by omega), hmm]; unfold Dd at D_145; omega)
      have hfq : (32 : Int64) + ((8 : Int64) * ((Int32.ofNat L_135).toInt64)) = (32 : Int64) + ((8 : Int64) * (o_minL ((2 : Int64) * ((Int32.ofNat R).toInt64)) lim)) := congrArg (fun z => (32 : Int64) + ((8 : Int64) * z)) hfin
      rw [hfq]
      refine go_lcmp C (((32 : Int64) + ((8 : Int64) * (o_minL ((2 : Int64) * ((Int32.ofNat R).toInt64)) lim))).toInt) (((32 : Int64) + ((8 : Int64) * (o_minL ((2 : Int64) * ((Int32.ofNat R).toInt64)) lim))).toInt) rfl rfl at_276 (pc1 := 277) rfl at_277 (by decide) (pc' := 284) (by decide) (pcN := 280) rfl (fun (c_160 : ¬ (((32 : Int64) + ((8 : Int64) * (o_minL ((2 : Int64) * ((Int32.ofNat R).toInt64)) lim))).toInt) = (((32 : Int64) + ((8 : Int64) * (o_minL ((2 : Int64) * ((Int32.ofNat R).toInt64)) lim))).toInt)) => by omega) (fun (c_160 : (((32 : Int64) + ((8 : Int64) * (o_minL ((2 : Int64) * ((Int32.ofNat R).toInt64)) lim))).toInt) = (((32 : Int64) + ((8 : Int64) * (o_minL ((2 : Int64) * ((Int32.ofNat R).toInt64)) lim))).toInt)) => ?_)
      refine go_iconst C (1 : Int32) at_280 (pc' := 281) rfl (by decide) ?_
      refine go_goto C at_281 (by decide) (pc' := 285) (by decide) ?_
      refine go_ireturnN C (z' := (1 : Int32)) rfl (by simp) rfl at_285 (by decide) (by decide) ?_
      exact ⟨_, rfl, rfl⟩
  · obtain rfl : kk = (3 : Int32) := int_eq (hq.trans (by decide))
    rw [hq] at hkl
    refine go_new C (wd hw 5 rfl) (wd hw 6 rfl) (wd hw 7 rfl) at_33 (pc' := 36) rfl (ce' := 1) (sl' := 7) rfl rfl (by decide) (by decide) ?_
    intro h_161 a_162 g_163 E_164 E_165 D_166
    have g_167 : Z.heap.size ≤ a_162 := own_ge (Nat.le_refl _) g_163
    have z_168 : Z.heap.size ≤ h_161.size := Nat.le_trans (Nat.le_refl _) E_164.1
    have F_169 : Fld Z h_161 a_162 "com/example/throttld/throttld/SlidingLog$Log" "ring" "[J" (.null) := D_166 (Or.inl (wd hw 21 rfl)) (ty := (.array .long)) (by decide)
    have F_170 : Fld Z h_161 a_162 "com/example/throttld/throttld/SlidingLog$Log" "count" "I" (.int (0 : Int32)) := D_166 (Or.inl (wd hw 37 rfl)) (ty := .int) (by decide)
    have F_171 : Fld Z h_161 a_162 "com/example/throttld/throttld/SlidingLog$Log" "head" "I" (.int (0 : Int32)) := D_166 (Or.inl (wd hw 43 rfl)) (ty := .int) (by decide)
    refine go_dup C at_36 (pc' := 37) rfl rfl ?_
    refine go_iload C at_37 (pc' := 39) rfl rfl ?_
    refine go_specialN C (as := [.int (Int32.ofNat R)]) (rest := [.ref a_162]) (W := 1) (sat_init l Z a0 hw a_162 R _ _ hR E_165 F_169 F_171 F_170 g_167 z_168) rfl (wd hw 8 rfl) (wd hw 9 rfl) (wd hw 7 rfl) (wd hw 10 rfl) (by decide) pd_2 rfl rfl rfl (by decide) (by decide) (ce' := 2) (sl' := 1031) rfl rfl (by decide) (by decide) at_39 (pc' := 42) rfl rfl ?_
    intro h_172 q_173
    obtain ⟨r_174, vs_175, g_176, I_177, E_178, F_179, F_180, F_181, A_182⟩ := q_173
    have D_183 : Dd R R 0 lim.toInt := Or.inl ⟨by omega, rfl⟩
    refine go_astore C (Ls' := #[.val (.int x0), .val (.int x1), .val (.int x2), .val (.long x3), .second, .val (.int (Int32.ofNat R)), .val (.long lim), .second, .val (.int (3 : Int32)), .val (.ref a_162), .unset, .unset, .unset]) at_42 (pc' := 44) rfl rfl rfl ?_
    refine go_aload C at_44 (pc' := 46) rfl rfl rfl ?_
    refine go_virtualP C (as := []) (rest := []) (W := 0) (.long ((32 : Int64) + ((8 : Int64) * ((Int32.ofNat R).toInt64)))) (sat_bytes l Z a0 hw a_162 r_174 R _ _ _ F_179 A_182 I_177 (by omega)) E_178 (wd hw 22 rfl) (wd hw 23 rfl) (wd hw 25 rfl) (wd hw 24 rfl) (wd hw 7 rfl) (wd hw 26 rfl) (by decide) pd_4 rfl rfl rfl (by decide) (by decide) rfl rfl (by decide) (by decide) at_46 (pc' := 49) rfl rfl ?_
    refine go_ldc2 C (v := (32 : Int64)) (wd hw 29 rfl) at_49 (pc' := 52) rfl ?_
    refine go_ldc2 C (v := (8 : Int64)) (wd hw 30 rfl) at_52 (pc' := 55) rfl ?_
    refine go_iload C at_55 (pc' := 57) rfl rfl ?_
    refine go_i2l C at_57 (pc' := 58) rfl ?_
    refine go_lmul C at_58 (pc' := 59) rfl ?_
    refine go_ladd C at_59 (pc' := 60) rfl ?_
    refine go_lcmp C (((32 : Int64) + ((8 : Int64) * ((Int32.ofNat R).toInt64))).toInt) (((32 : Int64) + ((8 : Int64) * ((Int32.ofNat R).toInt64))).toInt) rfl rfl at_60 (pc1 := 61) rfl at_61 (by decide) (pc' := 68) (by decide) (pcN := 64) rfl (fun (c_184 : ¬ (((32 : Int64) + ((8 : Int64) * ((Int32.ofNat R).toInt64))).toInt) = (((32 : Int64) + ((8 : Int64) * ((Int32.ofNat R).toInt64))).toInt)) => by omega) (fun (c_184 : (((32 : Int64) + ((8 : Int64) * ((Int32.ofNat R).toInt64))).toInt) = (((32 : Int64) + ((8 : Int64) * ((Int32.ofNat R).toInt64))).toInt)) => ?_)
    refine go_iconst C (1 : Int32) at_64 (pc' := 65) rfl (by decide) ?_
    refine go_goto C at_65 (by decide) (pc' := 69) (by decide) ?_
    refine go_istore C (Ls' := #[.val (.int x0), .val (.int x1), .val (.int x2), .val (.long x3), .second, .val (.int (Int32.ofNat R)), .val (.long lim), .second, .val (.int (3 : Int32)), .val (.ref a_162), .val (.int (1 : Int32)), .unset, .unset]) at_69 (pc' := 71) rfl rfl ?_
    refine go_iload C at_71 (pc' := 73) rfl rfl ?_
    refine go_if0 C (3 : Int) (by decide) at_73 (by decide) (pc' := 84) (by decide) (pcN := 76) rfl (fun (c_185 : ¬ 0 < (3 : Int)) => by omega) (fun (c_185 : 0 < (3 : Int)) => ?_)
    refine go_aload C at_76 (pc' := 78) rfl rfl rfl ?_
    refine go_lloadN C at_78 (pc' := 79) rfl rfl ?_
    refine go_lload C at_79 (pc' := 81) rfl rfl ?_
    refine go_virtualN C (as := [.long x3, .long lim]) (rest := []) (W := 0) (sat_add l Z a0 hw a_162 r_174 x3 lim 0 R _ _ _ (by decide) (by omega) (by omega) (by omega) (by omega) hl2 I_177 ⟨E_178, F_179, F_180, F_181, A_182⟩ g_167 g_176) E_178 (wd hw 31 rfl) (wd hw 32 rfl) (wd hw 34 rfl) (wd hw 33 rfl) (wd hw 7 rfl) (wd hw 35 rfl) (by decide) pd_5 rfl rfl rfl (by decide) (by decide) (ce' := 3) (sl' := 1043) rfl rfl (by decide) (by decide) at_81 (pc' := 84) rfl rfl ?_
    intro h_186 q_187
    obtain ⟨r_188, vs_189, L_190, g_191, I_192, hc_193, rel_194, E_195, F_196, F_197, F_198, A_199⟩ := q_187
    have D_200 : Dd R L_190 1 lim.toInt := Dd_step D_183 hR1 hlR (by decide) (by omega) rel_194 hc_193
    have B_201 := Dd_bound D_200 hR1 hR hlR (by decide)
    clear rel_194 D_183
    refine go_iload C at_84 (pc' := 86) rfl rfl ?_
    refine go_iconst C (1 : Int32) at_86 (pc' := 87) rfl (by decide) ?_
    refine go_icmp C (3 : Int) (1 : Int) (by decide) (by decide) at_87 (by decide) (pc' := 100) (by decide) (pcN := 90) rfl (fun (c_202 : ¬ (1 : Int) < (3 : Int)) => by omega) (fun (c_202 : (1 : Int) < (3 : Int)) => ?_)
    refine go_aload C at_90 (pc' := 92) rfl rfl rfl ?_
    refine go_lloadN C at_92 (pc' := 93) rfl rfl ?_
    refine go_lconst C (1 : Int64) at_93 (pc' := 94) rfl (by decide) ?_
    refine go_ladd C at_94 (pc' := 95) rfl ?_
    refine go_lload C at_95 (pc' := 97) rfl rfl ?_
    refine go_virtualN C (as := [.long (x3 + (1 : Int64)), .long lim]) (rest := []) (W := 0) (sat_add l Z a0 hw a_162 r_188 (x3 + (1 : Int64)) lim 1 L_190 _ _ _ (by decide) (by omega) (by omega) (by omega) (by omega) hl2 I_192 ⟨E_195, F_196, F_197, F_198, A_199⟩ g_167 g_191) E_195 (wd hw 31 rfl) (wd hw 32 rfl) (wd hw 34 rfl) (wd hw 33 rfl) (wd hw 7 rfl) (wd hw 35 rfl) (by decide) pd_5 rfl rfl rfl (by decide) (by decide) (ce' := 4) (sl' := 1055) rfl rfl (by decide) (by decide) at_97 (pc' := 100) rfl rfl ?_
    intro h_203 q_204
    obtain ⟨r_205, vs_206, L_207, g_208, I_209, hc_210, rel_211, E_212, F_213, F_214, F_215, A_216⟩ := q_204
    have D_217 : Dd R L_207 2 lim.toInt := Dd_step D_200 hR1 hlR (by decide) (by omega) rel_211 hc_210
    have B_218 := Dd_bound D_217 hR1 hR hlR (by decide)
    clear rel_211 D_200 hc_193
    refine go_iload C at_100 (pc' := 102) rfl rfl ?_
    refine go_iconst C (2 : Int32) at_102 (pc' := 103) rfl (by decide) ?_
    refine go_icmp C (3 : Int) (2 : Int) (by decide) (by decide) at_103 (by decide) (pc' := 118) (by decide) (pcN := 106) rfl (fun (c_219 : ¬ (2 : Int) < (3 : Int)) => by omega) (fun (c_219 : (2 : Int) < (3 : Int)) => ?_)
    refine go_aload C at_106 (pc' := 108) rfl rfl rfl ?_
    refine go_lloadN C at_108 (pc' := 109) rfl rfl ?_
    refine go_ldc2 C (v := (2 : Int64)) (wd hw 46 rfl) at_109 (pc' := 112) rfl ?_
    refine go_ladd C at_112 (pc' := 113) rfl ?_
    refine go_lload C at_113 (pc' := 115) rfl rfl ?_
    refine go_virtualN C (as := [.long (x3 + (2 : Int64)), .long lim]) (rest := []) (W := 0) (sat_add l Z a0 hw a_162 r_205 (x3 + (2 : Int64)) lim 2 L_207 _ _ _ (by decide) (by omega) (by omega) (by omega) (by omega) hl2 I_209 ⟨E_212, F_213, F_214, F_215, A_216⟩ g_167 g_208) E_212 (wd hw 31 rfl) (wd hw 32 rfl) (wd hw 34 rfl) (wd hw 33 rfl) (wd hw 7 rfl) (wd hw 35 rfl) (by decide) pd_5 rfl rfl rfl (by decide) (by decide) (ce' := 5) (sl' := 1067) rfl rfl (by decide) (by decide) at_115 (pc' := 118) rfl rfl ?_
    intro h_220 q_221
    obtain ⟨r_222, vs_223, L_224, g_225, I_226, hc_227, rel_228, E_229, F_230, F_231, F_232, A_233⟩ := q_221
    have D_234 : Dd R L_224 3 lim.toInt := Dd_step D_217 hR1 hlR (by decide) (by omega) rel_228 hc_227
    have B_235 := Dd_bound D_234 hR1 hR hlR (by decide)
    clear rel_228 D_217 hc_210
    refine go_iload C at_118 (pc' := 120) rfl rfl ?_
    refine go_iconst C (3 : Int32) at_120 (pc' := 121) rfl (by decide) ?_
    refine go_icmp C (3 : Int) (3 : Int) (by decide) (by decide) at_121 (by decide) (pc' := 136) (by decide) (pcN := 124) rfl (fun (c_236 : ¬ (3 : Int) < (3 : Int)) => ?_) (fun (c_236 : (3 : Int) < (3 : Int)) => by omega)
    refine go_iload C at_136 (pc' := 138) rfl rfl ?_
    refine go_iconst C (4 : Int32) at_138 (pc' := 139) rfl (by decide) ?_
    refine go_icmp C (3 : Int) (4 : Int) (by decide) (by decide) at_139 (by decide) (pc' := 154) (by decide) (pcN := 142) rfl (fun (c_237 : ¬ (4 : Int) < (3 : Int)) => ?_) (fun (c_237 : (4 : Int) < (3 : Int)) => by omega)
    refine go_iload C at_154 (pc' := 156) rfl rfl ?_
    refine go_iconst C (5 : Int32) at_156 (pc' := 157) rfl (by decide) ?_
    refine go_icmp C (3 : Int) (5 : Int) (by decide) (by decide) at_157 (by decide) (pc' := 172) (by decide) (pcN := 160) rfl (fun (c_238 : ¬ (5 : Int) < (3 : Int)) => ?_) (fun (c_238 : (5 : Int) < (3 : Int)) => by omega)
    refine go_iload C at_172 (pc' := 174) rfl rfl ?_
    refine go_bipush C (6 : Int32) at_174 (pc' := 176) rfl (by decide) ?_
    refine go_icmp C (3 : Int) (6 : Int) (by decide) (by decide) at_176 (by decide) (pc' := 191) (by decide) (pcN := 179) rfl (fun (c_239 : ¬ (6 : Int) < (3 : Int)) => ?_) (fun (c_239 : (6 : Int) < (3 : Int)) => by omega)
    refine go_iload C at_191 (pc' := 193) rfl rfl ?_
    refine go_i2l C at_193 (pc' := 194) rfl ?_
    refine go_lstore C (Ls' := #[.val (.int x0), .val (.int x1), .val (.int x2), .val (.long x3), .second, .val (.int (Int32.ofNat R)), .val (.long lim), .second, .val (.int (3 : Int32)), .val (.ref a_162), .val (.int (1 : Int32)), .val (.long ((Int32.ofNat R).toInt64)), .second]) at_194 (pc' := 196) rfl rfl ?_
    refine go_lload C at_196 (pc' := 198) rfl rfl ?_
    refine go_iload C at_198 (pc' := 200) rfl rfl ?_
    refine go_i2l C at_200 (pc' := 201) rfl ?_
    rw [(by decide : (3 : Int32).toInt64 = (3 : Int64))]
    refine go_lcmp C (1 * (R : Int)) (3 : Int) e0 (by decide) at_201 (pc1 := 202) rfl at_202 (by decide) (pc' := 213) (by decide) (pcN := 205) rfl (fun (c_240 : ¬ (1 * (R : Int)) < (3 : Int)) => ?_) (fun (c_240 : (1 * (R : Int)) < (3 : Int)) => ?_)
    · skip
      refine go_lload C at_213 (pc' := 215) rfl rfl ?_
      refine go_iload C at_215 (pc' := 217) rfl rfl ?_
      refine go_i2l C at_217 (pc' := 218) rfl ?_
      rw [(by decide : (3 : Int32).toInt64 = (3 : Int64))]
      refine go_lcmp C (1 * (R : Int)) (3 : Int) e0 (by decide) at_218 (pc1 := 219) rfl at_219 (by decide) (pc' := 230) (by decide) (pcN := 222) rfl (fun (c_241 : ¬ (1 * (R : Int)) < (3 : Int)) => ?_) (fun (c_241 : (1 * (R : Int)) < (3 : Int)) => by omega)
      refine go_lload C at_230 (pc' := 232) rfl rfl ?_
      refine go_iload C at_232 (pc' := 234) rfl rfl ?_
      refine go_i2l C at_234 (pc' := 235) rfl ?_
      rw [(by decide : (3 : Int32).toInt64 = (3 : Int64))]
      refine go_lcmp C (1 * (R : Int)) (3 : Int) e0 (by decide) at_235 (pc1 := 236) rfl at_236 (by decide) (pc' := 247) (by decide) (pcN := 239) rfl (fun (c_242 : ¬ (1 * (R : Int)) < (3 : Int)) => ?_) (fun (c_242 : (1 * (R : Int)) < (3 : Int)) => by omega)
      refine go_lload C at_247 (pc' := 249) rfl rfl ?_
      refine go_lload C at_249 (pc' := 251) rfl rfl ?_
      refine go_staticP C (as := [.long ((Int32.ofNat R).toInt64), .long lim]) (rest := []) (W := 0) (.long (o_minL ((Int32.ofNat R).toInt64) lim)) (sat_minL l Z a0 hw ((Int32.ofNat R).toInt64) lim (o_minL ((Int32.ofNat R).toInt64) lim) _ _ rfl) (wd hw 1 rfl) (wd hw 2 rfl) (wd hw 3 rfl) (wd hw 4 rfl) (by decide) pd_1 rfl rfl rfl (by decide) (by decide) rfl rfl (by decide) (by decide) at_251 (pc' := 254) rfl rfl ?_
      refine go_lstore C (Ls' := #[.val (.int x0), .val (.int x1), .val (.int x2), .val (.long x3), .second, .val (.int (Int32.ofNat R)), .val (.long lim), .second, .val (.int (3 : Int32)), .val (.ref a_162), .val (.int (1 : Int32)), .val (.long (o_minL ((Int32.ofNat R).toInt64) lim)), .second]) at_254 (pc' := 256) rfl rfl ?_
      refine go_iload C at_256 (pc' := 258) rfl rfl ?_
      refine go_if0 C (1 : Int) (by decide) at_258 (by decide) (pc' := 284) (by decide) (pcN := 261) rfl (fun (c_243 : (1 : Int) = 0) => by omega) (fun (c_243 : ¬ (1 : Int) = 0) => ?_)
      refine go_aload C at_261 (pc' := 263) rfl rfl rfl ?_
      refine go_virtualP C (as := []) (rest := []) (W := 0) (.long ((32 : Int64) + ((8 : Int64) * ((Int32.ofNat L_224).toInt64)))) (sat_bytes l Z a0 hw a_162 r_222 L_224 _ _ _ F_230 A_233 I_226 (by omega)) E_229 (wd hw 22 rfl) (wd hw 23 rfl) (wd hw 25 rfl) (wd hw 24 rfl) (wd hw 7 rfl) (wd hw 26 rfl) (by decide) pd_4 rfl rfl rfl (by decide) (by decide) rfl rfl (by decide) (by decide) at_263 (pc' := 266) rfl rfl ?_
      refine go_ldc2 C (v := (32 : Int64)) (wd hw 29 rfl) at_266 (pc' := 269) rfl ?_
      refine go_ldc2 C (v := (8 : Int64)) (wd hw 30 rfl) at_269 (pc' := 272) rfl ?_
      refine go_lload C at_272 (pc' := 274) rfl rfl ?_
      refine go_lmul C at_274 (pc' := 275) rfl ?_
      refine go_ladd C at_275 (pc' := 276) rfl ?_
      have hmm := own_min ((Int32.ofNat R).toInt64) lim
      have hfin : (Int32.ofNat L_224).toInt64 = o_minL ((Int32.ofNat R).toInt64) lim := long_eq (by rw [Int32.toInt_toInt64, own_of (by omega), hmm]; unfold Dd at D_234; omega)
      have hfq : (32 : Int64) + ((8 : Int64) * ((Int32.ofNat L_224).toInt64)) = (32 : Int64) + ((8 : Int64) * (o_minL ((Int32.ofNat R).toInt64) lim)) := congrArg (fun z => (32 : Int64) + ((8 : Int64) * z)) hfin
      rw [hfq]
      refine go_lcmp C (((32 : Int64) + ((8 : Int64) * (o_minL ((Int32.ofNat R).toInt64) lim))).toInt) (((32 : Int64) + ((8 : Int64) * (o_minL ((Int32.ofNat R).toInt64) lim))).toInt) rfl rfl at_276 (pc1 := 277) rfl at_277 (by decide) (pc' := 284) (by decide) (pcN := 280) rfl (fun (c_244 : ¬ (((32 : Int64) + ((8 : Int64) * (o_minL ((Int32.ofNat R).toInt64) lim))).toInt) = (((32 : Int64) + ((8 : Int64) * (o_minL ((Int32.ofNat R).toInt64) lim))).toInt)) => by omega) (fun (c_244 : (((32 : Int64) + ((8 : Int64) * (o_minL ((Int32.ofNat R).toInt64) lim))).toInt) = (((32 : Int64) + ((8 : Int64) * (o_minL ((Int32.ofNat R).toInt64) lim))).toInt)) => ?_)
      refine go_iconst C (1 : Int32) at_280 (pc' := 281) rfl (by decide) ?_
      refine go_goto C at_281 (by decide) (pc' := 285) (by decide) ?_
      refine go_ireturnN C (z' := (1 : Int32)) rfl (by simp) rfl at_285 (by decide) (by decide) ?_
      exact ⟨_, rfl, rfl⟩
    · skip
      refine go_ldc2 C (v := (2 : Int64)) (wd hw 46 rfl) at_205 (pc' := 208) rfl ?_
      refine go_lload C at_208 (pc' := 210) rfl rfl ?_
      refine go_lmul C at_210 (pc' := 211) rfl ?_
      refine go_lstore C (Ls' := #[.val (.int x0), .val (.int x1), .val (.int x2), .val (.long x3), .second, .val (.int (Int32.ofNat R)), .val (.long lim), .second, .val (.int (3 : Int32)), .val (.ref a_162), .val (.int (1 : Int32)), .val (.long ((2 : Int64) * ((Int32.ofNat R).toInt64))), .second]) at_211 (pc' := 213) rfl rfl ?_
      refine go_lload C at_213 (pc' := 215) rfl rfl ?_
      refine go_iload C at_215 (pc' := 217) rfl rfl ?_
      refine go_i2l C at_217 (pc' := 218) rfl ?_
      rw [(by decide : (3 : Int32).toInt64 = (3 : Int64))]
      refine go_lcmp C (2 * (R : Int)) (3 : Int) e1 (by decide) at_218 (pc1 := 219) rfl at_219 (by decide) (pc' := 230) (by decide) (pcN := 222) rfl (fun (c_245 : ¬ (2 * (R : Int)) < (3 : Int)) => ?_) (fun (c_245 : (2 * (R : Int)) < (3 : Int)) => ?_)
      · skip
        refine go_lload C at_230 (pc' := 232) rfl rfl ?_
        refine go_iload C at_232 (pc' := 234) rfl rfl ?_
        refine go_i2l C at_234 (pc' := 235) rfl ?_
        rw [(by decide : (3 : Int32).toInt64 = (3 : Int64))]
        refine go_lcmp C (2 * (R : Int)) (3 : Int) e1 (by decide) at_235 (pc1 := 236) rfl at_236 (by decide) (pc' := 247) (by decide) (pcN := 239) rfl (fun (c_246 : ¬ (2 * (R : Int)) < (3 : Int)) => ?_) (fun (c_246 : (2 * (R : Int)) < (3 : Int)) => by omega)
        refine go_lload C at_247 (pc' := 249) rfl rfl ?_
        refine go_lload C at_249 (pc' := 251) rfl rfl ?_
        refine go_staticP C (as := [.long ((2 : Int64) * ((Int32.ofNat R).toInt64)), .long lim]) (rest := []) (W := 0) (.long (o_minL ((2 : Int64) * ((Int32.ofNat R).toInt64)) lim)) (sat_minL l Z a0 hw ((2 : Int64) * ((Int32.ofNat R).toInt64)) lim (o_minL ((2 : Int64) * ((Int32.ofNat R).toInt64)) lim) _ _ rfl) (wd hw 1 rfl) (wd hw 2 rfl) (wd hw 3 rfl) (wd hw 4 rfl) (by decide) pd_1 rfl rfl rfl (by decide) (by decide) rfl rfl (by decide) (by decide) at_251 (pc' := 254) rfl rfl ?_
        refine go_lstore C (Ls' := #[.val (.int x0), .val (.int x1), .val (.int x2), .val (.long x3), .second, .val (.int (Int32.ofNat R)), .val (.long lim), .second, .val (.int (3 : Int32)), .val (.ref a_162), .val (.int (1 : Int32)), .val (.long (o_minL ((2 : Int64) * ((Int32.ofNat R).toInt64)) lim)), .second]) at_254 (pc' := 256) rfl rfl ?_
        refine go_iload C at_256 (pc' := 258) rfl rfl ?_
        refine go_if0 C (1 : Int) (by decide) at_258 (by decide) (pc' := 284) (by decide) (pcN := 261) rfl (fun (c_247 : (1 : Int) = 0) => by omega) (fun (c_247 : ¬ (1 : Int) = 0) => ?_)
        refine go_aload C at_261 (pc' := 263) rfl rfl rfl ?_
        refine go_virtualP C (as := []) (rest := []) (W := 0) (.long ((32 : Int64) + ((8 : Int64) * ((Int32.ofNat L_224).toInt64)))) (sat_bytes l Z a0 hw a_162 r_222 L_224 _ _ _ F_230 A_233 I_226 (by omega)) E_229 (wd hw 22 rfl) (wd hw 23 rfl) (wd hw 25 rfl) (wd hw 24 rfl) (wd hw 7 rfl) (wd hw 26 rfl) (by decide) pd_4 rfl rfl rfl (by decide) (by decide) rfl rfl (by decide) (by decide) at_263 (pc' := 266) rfl rfl ?_
        refine go_ldc2 C (v := (32 : Int64)) (wd hw 29 rfl) at_266 (pc' := 269) rfl ?_
        refine go_ldc2 C (v := (8 : Int64)) (wd hw 30 rfl) at_269 (pc' := 272) rfl ?_
        refine go_lload C at_272 (pc' := 274) rfl rfl ?_
        refine go_lmul C at_274 (pc' := 275) rfl ?_
        refine go_ladd C at_275 (pc' := 276) rfl ?_
        have hmm := own_min ((2 : Int64) * ((Int32.ofNat R).toInt64)) lim
        have hfin : (Int32.ofNat L_224).toInt64 = o_minL ((2 : Int64) * ((Int32.ofNat R).toInt64)) lim := long_eq (by rw [Int32.toInt_toInt64, own_of (by omega), hmm]; unfold Dd at D_234; omega)
        have hfq : (32 : Int64) + ((8 : Int64) * ((Int32.ofNat L_224).toInt64)) = (32 : Int64) + ((8 : Int64) * (o_minL ((2 : Int64) * ((Int32.ofNat R).toInt64)) lim)) := congrArg (fun z => (32 : Int64) + ((8 : Int64) * z)) hfin
        rw [hfq]
        refine go_lcmp C (((32 : Int64) + ((8 : Int64) * (o_minL ((2 : Int64) * ((Int32.ofNat R).toInt64)) lim))).toInt) (((32 : Int64) + ((8 : Int64) * (o_minL ((2 : Int64) * ((Int32.ofNat R).toInt64)) lim))).toInt) rfl rfl at_276 (pc1 := 277) rfl at_277 (by decide) (pc' := 284) (by decide) (pcN := 280) rfl (fun (c_248 : ¬ (((32 : Int64) + ((8 : Int64) * (o_minL ((2 : Int64) * ((Int32.ofNat R).toInt64)) lim))).toInt) = (((32 : Int64) + ((8 : Int64) * (o_minL ((2 : Int64) * ((Int32.ofNat R).toInt64)) lim))).toInt)) => by omega) (fun (c_248 : (((32 : Int64) + ((8 : Int64) * (o_minL ((2 : Int64) * ((Int32.ofNat R).toInt64)) lim))).toInt) = (((32 : Int64) + ((8 : Int64) * (o_minL ((2 : Int64) * ((Int32.ofNat R).toInt64)) lim))).toInt)) => ?_)
        refine go_iconst C (1 : Int32) at_280 (pc' := 281) rfl (by decide) ?_
        refine go_goto C at_281 (by decide) (pc' := 285) (by decide) ?_
        refine go_ireturnN C (z' := (1 : Int32)) rfl (by simp) rfl at_285 (by decide) (by decide) ?_
        exact ⟨_, rfl, rfl⟩
      · skip
        refine go_ldc2 C (v := (2 : Int64)) (wd hw 46 rfl) at_222 (pc' := 225) rfl ?_
        refine go_lload C at_225 (pc' := 227) rfl rfl ?_
        refine go_lmul C at_227 (pc' := 228) rfl ?_
        refine go_lstore C (Ls' := #[.val (.int x0), .val (.int x1), .val (.int x2), .val (.long x3), .second, .val (.int (Int32.ofNat R)), .val (.long lim), .second, .val (.int (3 : Int32)), .val (.ref a_162), .val (.int (1 : Int32)), .val (.long ((2 : Int64) * ((2 : Int64) * ((Int32.ofNat R).toInt64)))), .second]) at_228 (pc' := 230) rfl rfl ?_
        refine go_lload C at_230 (pc' := 232) rfl rfl ?_
        refine go_iload C at_232 (pc' := 234) rfl rfl ?_
        refine go_i2l C at_234 (pc' := 235) rfl ?_
        rw [(by decide : (3 : Int32).toInt64 = (3 : Int64))]
        refine go_lcmp C (4 * (R : Int)) (3 : Int) e2 (by decide) at_235 (pc1 := 236) rfl at_236 (by decide) (pc' := 247) (by decide) (pcN := 239) rfl (fun (c_249 : ¬ (4 * (R : Int)) < (3 : Int)) => ?_) (fun (c_249 : (4 * (R : Int)) < (3 : Int)) => by omega)
        refine go_lload C at_247 (pc' := 249) rfl rfl ?_
        refine go_lload C at_249 (pc' := 251) rfl rfl ?_
        refine go_staticP C (as := [.long ((2 : Int64) * ((2 : Int64) * ((Int32.ofNat R).toInt64))), .long lim]) (rest := []) (W := 0) (.long (o_minL ((2 : Int64) * ((2 : Int64) * ((Int32.ofNat R).toInt64))) lim)) (sat_minL l Z a0 hw ((2 : Int64) * ((2 : Int64) * ((Int32.ofNat R).toInt64))) lim (o_minL ((2 : Int64) * ((2 : Int64) * ((Int32.ofNat R).toInt64))) lim) _ _ rfl) (wd hw 1 rfl) (wd hw 2 rfl) (wd hw 3 rfl) (wd hw 4 rfl) (by decide) pd_1 rfl rfl rfl (by decide) (by decide) rfl rfl (by decide) (by decide) at_251 (pc' := 254) rfl rfl ?_
        refine go_lstore C (Ls' := #[.val (.int x0), .val (.int x1), .val (.int x2), .val (.long x3), .second, .val (.int (Int32.ofNat R)), .val (.long lim), .second, .val (.int (3 : Int32)), .val (.ref a_162), .val (.int (1 : Int32)), .val (.long (o_minL ((2 : Int64) * ((2 : Int64) * ((Int32.ofNat R).toInt64))) lim)), .second]) at_254 (pc' := 256) rfl rfl ?_
        refine go_iload C at_256 (pc' := 258) rfl rfl ?_
        refine go_if0 C (1 : Int) (by decide) at_258 (by decide) (pc' := 284) (by decide) (pcN := 261) rfl (fun (c_250 : (1 : Int) = 0) => by omega) (fun (c_250 : ¬ (1 : Int) = 0) => ?_)
        refine go_aload C at_261 (pc' := 263) rfl rfl rfl ?_
        refine go_virtualP C (as := []) (rest := []) (W := 0) (.long ((32 : Int64) + ((8 : Int64) * ((Int32.ofNat L_224).toInt64)))) (sat_bytes l Z a0 hw a_162 r_222 L_224 _ _ _ F_230 A_233 I_226 (by omega)) E_229 (wd hw 22 rfl) (wd hw 23 rfl) (wd hw 25 rfl) (wd hw 24 rfl) (wd hw 7 rfl) (wd hw 26 rfl) (by decide) pd_4 rfl rfl rfl (by decide) (by decide) rfl rfl (by decide) (by decide) at_263 (pc' := 266) rfl rfl ?_
        refine go_ldc2 C (v := (32 : Int64)) (wd hw 29 rfl) at_266 (pc' := 269) rfl ?_
        refine go_ldc2 C (v := (8 : Int64)) (wd hw 30 rfl) at_269 (pc' := 272) rfl ?_
        refine go_lload C at_272 (pc' := 274) rfl rfl ?_
        refine go_lmul C at_274 (pc' := 275) rfl ?_
        refine go_ladd C at_275 (pc' := 276) rfl ?_
        have hmm := own_min ((2 : Int64) * ((2 : Int64) * ((Int32.ofNat R).toInt64))) lim
        have hfin : (Int32.ofNat L_224).toInt64 = o_minL ((2 : Int64) * ((2 : Int64) * ((Int32.ofNat R).toInt64))) lim := long_eq (by rw [Int32.toInt_toInt64, own_of (by omega), hmm]; unfold Dd at D_234; omega)
        have hfq : (32 : Int64) + ((8 : Int64) * ((Int32.ofNat L_224).toInt64)) = (32 : Int64) + ((8 : Int64) * (o_minL ((2 : Int64) * ((2 : Int64) * ((Int32.ofNat R).toInt64))) lim)) := congrArg (fun z => (32 : Int64) + ((8 : Int64) * z)) hfin
        rw [hfq]
        refine go_lcmp C (((32 : Int64) + ((8 : Int64) * (o_minL ((2 : Int64) * ((2 : Int64) * ((Int32.ofNat R).toInt64))) lim))).toInt) (((32 : Int64) + ((8 : Int64) * (o_minL ((2 : Int64) * ((2 : Int64) * ((Int32.ofNat R).toInt64))) lim))).toInt) rfl rfl at_276 (pc1 := 277) rfl at_277 (by decide) (pc' := 284) (by decide) (pcN := 280) rfl (fun (c_251 : ¬ (((32 : Int64) + ((8 : Int64) * (o_minL ((2 : Int64) * ((2 : Int64) * ((Int32.ofNat R).toInt64))) lim))).toInt) = (((32 : Int64) + ((8 : Int64) * (o_minL ((2 : Int64) * ((2 : Int64) * ((Int32.ofNat R).toInt64))) lim))).toInt)) => by omega) (fun (c_251 : (((32 : Int64) + ((8 : Int64) * (o_minL ((2 : Int64) * ((2 : Int64) * ((Int32.ofNat R).toInt64))) lim))).toInt) = (((32 : Int64) + ((8 : Int64) * (o_minL ((2 : Int64) * ((2 : Int64) * ((Int32.ofNat R).toInt64))) lim))).toInt)) => ?_)
        refine go_iconst C (1 : Int32) at_280 (pc' := 281) rfl (by decide) ?_
        refine go_goto C at_281 (by decide) (pc' := 285) (by decide) ?_
        refine go_ireturnN C (z' := (1 : Int32)) rfl (by simp) rfl at_285 (by decide) (by decide) ?_
        exact ⟨_, rfl, rfl⟩
  · obtain rfl : kk = (4 : Int32) := int_eq (hq.trans (by decide))
    rw [hq] at hkl
    refine go_new C (wd hw 5 rfl) (wd hw 6 rfl) (wd hw 7 rfl) at_33 (pc' := 36) rfl (ce' := 1) (sl' := 7) rfl rfl (by decide) (by decide) ?_
    intro h_252 a_253 g_254 E_255 E_256 D_257
    have g_258 : Z.heap.size ≤ a_253 := own_ge (Nat.le_refl _) g_254
    have z_259 : Z.heap.size ≤ h_252.size := Nat.le_trans (Nat.le_refl _) E_255.1
    have F_260 : Fld Z h_252 a_253 "com/example/throttld/throttld/SlidingLog$Log" "ring" "[J" (.null) := D_257 (Or.inl (wd hw 21 rfl)) (ty := (.array .long)) (by decide)
    have F_261 : Fld Z h_252 a_253 "com/example/throttld/throttld/SlidingLog$Log" "count" "I" (.int (0 : Int32)) := D_257 (Or.inl (wd hw 37 rfl)) (ty := .int) (by decide)
    have F_262 : Fld Z h_252 a_253 "com/example/throttld/throttld/SlidingLog$Log" "head" "I" (.int (0 : Int32)) := D_257 (Or.inl (wd hw 43 rfl)) (ty := .int) (by decide)
    refine go_dup C at_36 (pc' := 37) rfl rfl ?_
    refine go_iload C at_37 (pc' := 39) rfl rfl ?_
    refine go_specialN C (as := [.int (Int32.ofNat R)]) (rest := [.ref a_253]) (W := 1) (sat_init l Z a0 hw a_253 R _ _ hR E_256 F_260 F_262 F_261 g_258 z_259) rfl (wd hw 8 rfl) (wd hw 9 rfl) (wd hw 7 rfl) (wd hw 10 rfl) (by decide) pd_2 rfl rfl rfl (by decide) (by decide) (ce' := 2) (sl' := 1031) rfl rfl (by decide) (by decide) at_39 (pc' := 42) rfl rfl ?_
    intro h_263 q_264
    obtain ⟨r_265, vs_266, g_267, I_268, E_269, F_270, F_271, F_272, A_273⟩ := q_264
    have D_274 : Dd R R 0 lim.toInt := Or.inl ⟨by omega, rfl⟩
    refine go_astore C (Ls' := #[.val (.int x0), .val (.int x1), .val (.int x2), .val (.long x3), .second, .val (.int (Int32.ofNat R)), .val (.long lim), .second, .val (.int (4 : Int32)), .val (.ref a_253), .unset, .unset, .unset]) at_42 (pc' := 44) rfl rfl rfl ?_
    refine go_aload C at_44 (pc' := 46) rfl rfl rfl ?_
    refine go_virtualP C (as := []) (rest := []) (W := 0) (.long ((32 : Int64) + ((8 : Int64) * ((Int32.ofNat R).toInt64)))) (sat_bytes l Z a0 hw a_253 r_265 R _ _ _ F_270 A_273 I_268 (by omega)) E_269 (wd hw 22 rfl) (wd hw 23 rfl) (wd hw 25 rfl) (wd hw 24 rfl) (wd hw 7 rfl) (wd hw 26 rfl) (by decide) pd_4 rfl rfl rfl (by decide) (by decide) rfl rfl (by decide) (by decide) at_46 (pc' := 49) rfl rfl ?_
    refine go_ldc2 C (v := (32 : Int64)) (wd hw 29 rfl) at_49 (pc' := 52) rfl ?_
    refine go_ldc2 C (v := (8 : Int64)) (wd hw 30 rfl) at_52 (pc' := 55) rfl ?_
    refine go_iload C at_55 (pc' := 57) rfl rfl ?_
    refine go_i2l C at_57 (pc' := 58) rfl ?_
    refine go_lmul C at_58 (pc' := 59) rfl ?_
    refine go_ladd C at_59 (pc' := 60) rfl ?_
    refine go_lcmp C (((32 : Int64) + ((8 : Int64) * ((Int32.ofNat R).toInt64))).toInt) (((32 : Int64) + ((8 : Int64) * ((Int32.ofNat R).toInt64))).toInt) rfl rfl at_60 (pc1 := 61) rfl at_61 (by decide) (pc' := 68) (by decide) (pcN := 64) rfl (fun (c_275 : ¬ (((32 : Int64) + ((8 : Int64) * ((Int32.ofNat R).toInt64))).toInt) = (((32 : Int64) + ((8 : Int64) * ((Int32.ofNat R).toInt64))).toInt)) => by omega) (fun (c_275 : (((32 : Int64) + ((8 : Int64) * ((Int32.ofNat R).toInt64))).toInt) = (((32 : Int64) + ((8 : Int64) * ((Int32.ofNat R).toInt64))).toInt)) => ?_)
    refine go_iconst C (1 : Int32) at_64 (pc' := 65) rfl (by decide) ?_
    refine go_goto C at_65 (by decide) (pc' := 69) (by decide) ?_
    refine go_istore C (Ls' := #[.val (.int x0), .val (.int x1), .val (.int x2), .val (.long x3), .second, .val (.int (Int32.ofNat R)), .val (.long lim), .second, .val (.int (4 : Int32)), .val (.ref a_253), .val (.int (1 : Int32)), .unset, .unset]) at_69 (pc' := 71) rfl rfl ?_
    refine go_iload C at_71 (pc' := 73) rfl rfl ?_
    refine go_if0 C (4 : Int) (by decide) at_73 (by decide) (pc' := 84) (by decide) (pcN := 76) rfl (fun (c_276 : ¬ 0 < (4 : Int)) => by omega) (fun (c_276 : 0 < (4 : Int)) => ?_)
    refine go_aload C at_76 (pc' := 78) rfl rfl rfl ?_
    refine go_lloadN C at_78 (pc' := 79) rfl rfl ?_
    refine go_lload C at_79 (pc' := 81) rfl rfl ?_
    refine go_virtualN C (as := [.long x3, .long lim]) (rest := []) (W := 0) (sat_add l Z a0 hw a_253 r_265 x3 lim 0 R _ _ _ (by decide) (by omega) (by omega) (by omega) (by omega) hl2 I_268 ⟨E_269, F_270, F_271, F_272, A_273⟩ g_258 g_267) E_269 (wd hw 31 rfl) (wd hw 32 rfl) (wd hw 34 rfl) (wd hw 33 rfl) (wd hw 7 rfl) (wd hw 35 rfl) (by decide) pd_5 rfl rfl rfl (by decide) (by decide) (ce' := 3) (sl' := 1043) rfl rfl (by decide) (by decide) at_81 (pc' := 84) rfl rfl ?_
    intro h_277 q_278
    obtain ⟨r_279, vs_280, L_281, g_282, I_283, hc_284, rel_285, E_286, F_287, F_288, F_289, A_290⟩ := q_278
    have D_291 : Dd R L_281 1 lim.toInt := Dd_step D_274 hR1 hlR (by decide) (by omega) rel_285 hc_284
    have B_292 := Dd_bound D_291 hR1 hR hlR (by decide)
    clear rel_285 D_274
    refine go_iload C at_84 (pc' := 86) rfl rfl ?_
    refine go_iconst C (1 : Int32) at_86 (pc' := 87) rfl (by decide) ?_
    refine go_icmp C (4 : Int) (1 : Int) (by decide) (by decide) at_87 (by decide) (pc' := 100) (by decide) (pcN := 90) rfl (fun (c_293 : ¬ (1 : Int) < (4 : Int)) => by omega) (fun (c_293 : (1 : Int) < (4 : Int)) => ?_)
    refine go_aload C at_90 (pc' := 92) rfl rfl rfl ?_
    refine go_lloadN C at_92 (pc' := 93) rfl rfl ?_
    refine go_lconst C (1 : Int64) at_93 (pc' := 94) rfl (by decide) ?_
    refine go_ladd C at_94 (pc' := 95) rfl ?_
    refine go_lload C at_95 (pc' := 97) rfl rfl ?_
    refine go_virtualN C (as := [.long (x3 + (1 : Int64)), .long lim]) (rest := []) (W := 0) (sat_add l Z a0 hw a_253 r_279 (x3 + (1 : Int64)) lim 1 L_281 _ _ _ (by decide) (by omega) (by omega) (by omega) (by omega) hl2 I_283 ⟨E_286, F_287, F_288, F_289, A_290⟩ g_258 g_282) E_286 (wd hw 31 rfl) (wd hw 32 rfl) (wd hw 34 rfl) (wd hw 33 rfl) (wd hw 7 rfl) (wd hw 35 rfl) (by decide) pd_5 rfl rfl rfl (by decide) (by decide) (ce' := 4) (sl' := 1055) rfl rfl (by decide) (by decide) at_97 (pc' := 100) rfl rfl ?_
    intro h_294 q_295
    obtain ⟨r_296, vs_297, L_298, g_299, I_300, hc_301, rel_302, E_303, F_304, F_305, F_306, A_307⟩ := q_295
    have D_308 : Dd R L_298 2 lim.toInt := Dd_step D_291 hR1 hlR (by decide) (by omega) rel_302 hc_301
    have B_309 := Dd_bound D_308 hR1 hR hlR (by decide)
    clear rel_302 D_291 hc_284
    refine go_iload C at_100 (pc' := 102) rfl rfl ?_
    refine go_iconst C (2 : Int32) at_102 (pc' := 103) rfl (by decide) ?_
    refine go_icmp C (4 : Int) (2 : Int) (by decide) (by decide) at_103 (by decide) (pc' := 118) (by decide) (pcN := 106) rfl (fun (c_310 : ¬ (2 : Int) < (4 : Int)) => by omega) (fun (c_310 : (2 : Int) < (4 : Int)) => ?_)
    refine go_aload C at_106 (pc' := 108) rfl rfl rfl ?_
    refine go_lloadN C at_108 (pc' := 109) rfl rfl ?_
    refine go_ldc2 C (v := (2 : Int64)) (wd hw 46 rfl) at_109 (pc' := 112) rfl ?_
    refine go_ladd C at_112 (pc' := 113) rfl ?_
    refine go_lload C at_113 (pc' := 115) rfl rfl ?_
    refine go_virtualN C (as := [.long (x3 + (2 : Int64)), .long lim]) (rest := []) (W := 0) (sat_add l Z a0 hw a_253 r_296 (x3 + (2 : Int64)) lim 2 L_298 _ _ _ (by decide) (by omega) (by omega) (by omega) (by omega) hl2 I_300 ⟨E_303, F_304, F_305, F_306, A_307⟩ g_258 g_299) E_303 (wd hw 31 rfl) (wd hw 32 rfl) (wd hw 34 rfl) (wd hw 33 rfl) (wd hw 7 rfl) (wd hw 35 rfl) (by decide) pd_5 rfl rfl rfl (by decide) (by decide) (ce' := 5) (sl' := 1067) rfl rfl (by decide) (by decide) at_115 (pc' := 118) rfl rfl ?_
    intro h_311 q_312
    obtain ⟨r_313, vs_314, L_315, g_316, I_317, hc_318, rel_319, E_320, F_321, F_322, F_323, A_324⟩ := q_312
    have D_325 : Dd R L_315 3 lim.toInt := Dd_step D_308 hR1 hlR (by decide) (by omega) rel_319 hc_318
    have B_326 := Dd_bound D_325 hR1 hR hlR (by decide)
    clear rel_319 D_308 hc_301
    refine go_iload C at_118 (pc' := 120) rfl rfl ?_
    refine go_iconst C (3 : Int32) at_120 (pc' := 121) rfl (by decide) ?_
    refine go_icmp C (4 : Int) (3 : Int) (by decide) (by decide) at_121 (by decide) (pc' := 136) (by decide) (pcN := 124) rfl (fun (c_327 : ¬ (3 : Int) < (4 : Int)) => by omega) (fun (c_327 : (3 : Int) < (4 : Int)) => ?_)
    refine go_aload C at_124 (pc' := 126) rfl rfl rfl ?_
    refine go_lloadN C at_126 (pc' := 127) rfl rfl ?_
    refine go_ldc2 C (v := (3 : Int64)) (wd hw 47 rfl) at_127 (pc' := 130) rfl ?_
    refine go_ladd C at_130 (pc' := 131) rfl ?_
    refine go_lload C at_131 (pc' := 133) rfl rfl ?_
    refine go_virtualN C (as := [.long (x3 + (3 : Int64)), .long lim]) (rest := []) (W := 0) (sat_add l Z a0 hw a_253 r_313 (x3 + (3 : Int64)) lim 3 L_315 _ _ _ (by decide) (by omega) (by omega) (by omega) (by omega) hl2 I_317 ⟨E_320, F_321, F_322, F_323, A_324⟩ g_258 g_316) E_320 (wd hw 31 rfl) (wd hw 32 rfl) (wd hw 34 rfl) (wd hw 33 rfl) (wd hw 7 rfl) (wd hw 35 rfl) (by decide) pd_5 rfl rfl rfl (by decide) (by decide) (ce' := 6) (sl' := 1079) rfl rfl (by decide) (by decide) at_133 (pc' := 136) rfl rfl ?_
    intro h_328 q_329
    obtain ⟨r_330, vs_331, L_332, g_333, I_334, hc_335, rel_336, E_337, F_338, F_339, F_340, A_341⟩ := q_329
    have D_342 : Dd R L_332 4 lim.toInt := Dd_step D_325 hR1 hlR (by decide) (by omega) rel_336 hc_335
    have B_343 := Dd_bound D_342 hR1 hR hlR (by decide)
    clear rel_336 D_325 hc_318
    refine go_iload C at_136 (pc' := 138) rfl rfl ?_
    refine go_iconst C (4 : Int32) at_138 (pc' := 139) rfl (by decide) ?_
    refine go_icmp C (4 : Int) (4 : Int) (by decide) (by decide) at_139 (by decide) (pc' := 154) (by decide) (pcN := 142) rfl (fun (c_344 : ¬ (4 : Int) < (4 : Int)) => ?_) (fun (c_344 : (4 : Int) < (4 : Int)) => by omega)
    refine go_iload C at_154 (pc' := 156) rfl rfl ?_
    refine go_iconst C (5 : Int32) at_156 (pc' := 157) rfl (by decide) ?_
    refine go_icmp C (4 : Int) (5 : Int) (by decide) (by decide) at_157 (by decide) (pc' := 172) (by decide) (pcN := 160) rfl (fun (c_345 : ¬ (5 : Int) < (4 : Int)) => ?_) (fun (c_345 : (5 : Int) < (4 : Int)) => by omega)
    refine go_iload C at_172 (pc' := 174) rfl rfl ?_
    refine go_bipush C (6 : Int32) at_174 (pc' := 176) rfl (by decide) ?_
    refine go_icmp C (4 : Int) (6 : Int) (by decide) (by decide) at_176 (by decide) (pc' := 191) (by decide) (pcN := 179) rfl (fun (c_346 : ¬ (6 : Int) < (4 : Int)) => ?_) (fun (c_346 : (6 : Int) < (4 : Int)) => by omega)
    refine go_iload C at_191 (pc' := 193) rfl rfl ?_
    refine go_i2l C at_193 (pc' := 194) rfl ?_
    refine go_lstore C (Ls' := #[.val (.int x0), .val (.int x1), .val (.int x2), .val (.long x3), .second, .val (.int (Int32.ofNat R)), .val (.long lim), .second, .val (.int (4 : Int32)), .val (.ref a_253), .val (.int (1 : Int32)), .val (.long ((Int32.ofNat R).toInt64)), .second]) at_194 (pc' := 196) rfl rfl ?_
    refine go_lload C at_196 (pc' := 198) rfl rfl ?_
    refine go_iload C at_198 (pc' := 200) rfl rfl ?_
    refine go_i2l C at_200 (pc' := 201) rfl ?_
    rw [(by decide : (4 : Int32).toInt64 = (4 : Int64))]
    refine go_lcmp C (1 * (R : Int)) (4 : Int) e0 (by decide) at_201 (pc1 := 202) rfl at_202 (by decide) (pc' := 213) (by decide) (pcN := 205) rfl (fun (c_347 : ¬ (1 * (R : Int)) < (4 : Int)) => ?_) (fun (c_347 : (1 * (R : Int)) < (4 : Int)) => ?_)
    · skip
      refine go_lload C at_213 (pc' := 215) rfl rfl ?_
      refine go_iload C at_215 (pc' := 217) rfl rfl ?_
      refine go_i2l C at_217 (pc' := 218) rfl ?_
      rw [(by decide : (4 : Int32).toInt64 = (4 : Int64))]
      refine go_lcmp C (1 * (R : Int)) (4 : Int) e0 (by decide) at_218 (pc1 := 219) rfl at_219 (by decide) (pc' := 230) (by decide) (pcN := 222) rfl (fun (c_348 : ¬ (1 * (R : Int)) < (4 : Int)) => ?_) (fun (c_348 : (1 * (R : Int)) < (4 : Int)) => by omega)
      refine go_lload C at_230 (pc' := 232) rfl rfl ?_
      refine go_iload C at_232 (pc' := 234) rfl rfl ?_
      refine go_i2l C at_234 (pc' := 235) rfl ?_
      rw [(by decide : (4 : Int32).toInt64 = (4 : Int64))]
      refine go_lcmp C (1 * (R : Int)) (4 : Int) e0 (by decide) at_235 (pc1 := 236) rfl at_236 (by decide) (pc' := 247) (by decide) (pcN := 239) rfl (fun (c_349 : ¬ (1 * (R : Int)) < (4 : Int)) => ?_) (fun (c_349 : (1 * (R : Int)) < (4 : Int)) => by omega)
      refine go_lload C at_247 (pc' := 249) rfl rfl ?_
      refine go_lload C at_249 (pc' := 251) rfl rfl ?_
      refine go_staticP C (as := [.long ((Int32.ofNat R).toInt64), .long lim]) (rest := []) (W := 0) (.long (o_minL ((Int32.ofNat R).toInt64) lim)) (sat_minL l Z a0 hw ((Int32.ofNat R).toInt64) lim (o_minL ((Int32.ofNat R).toInt64) lim) _ _ rfl) (wd hw 1 rfl) (wd hw 2 rfl) (wd hw 3 rfl) (wd hw 4 rfl) (by decide) pd_1 rfl rfl rfl (by decide) (by decide) rfl rfl (by decide) (by decide) at_251 (pc' := 254) rfl rfl ?_
      refine go_lstore C (Ls' := #[.val (.int x0), .val (.int x1), .val (.int x2), .val (.long x3), .second, .val (.int (Int32.ofNat R)), .val (.long lim), .second, .val (.int (4 : Int32)), .val (.ref a_253), .val (.int (1 : Int32)), .val (.long (o_minL ((Int32.ofNat R).toInt64) lim)), .second]) at_254 (pc' := 256) rfl rfl ?_
      refine go_iload C at_256 (pc' := 258) rfl rfl ?_
      refine go_if0 C (1 : Int) (by decide) at_258 (by decide) (pc' := 284) (by decide) (pcN := 261) rfl (fun (c_350 : (1 : Int) = 0) => by omega) (fun (c_350 : ¬ (1 : Int) = 0) => ?_)
      refine go_aload C at_261 (pc' := 263) rfl rfl rfl ?_
      refine go_virtualP C (as := []) (rest := []) (W := 0) (.long ((32 : Int64) + ((8 : Int64) * ((Int32.ofNat L_332).toInt64)))) (sat_bytes l Z a0 hw a_253 r_330 L_332 _ _ _ F_338 A_341 I_334 (by omega)) E_337 (wd hw 22 rfl) (wd hw 23 rfl) (wd hw 25 rfl) (wd hw 24 rfl) (wd hw 7 rfl) (wd hw 26 rfl) (by decide) pd_4 rfl rfl rfl (by decide) (by decide) rfl rfl (by decide) (by decide) at_263 (pc' := 266) rfl rfl ?_
      refine go_ldc2 C (v := (32 : Int64)) (wd hw 29 rfl) at_266 (pc' := 269) rfl ?_
      refine go_ldc2 C (v := (8 : Int64)) (wd hw 30 rfl) at_269 (pc' := 272) rfl ?_
      refine go_lload C at_272 (pc' := 274) rfl rfl ?_
      refine go_lmul C at_274 (pc' := 275) rfl ?_
      refine go_ladd C at_275 (pc' := 276) rfl ?_
      have hmm := own_min ((Int32.ofNat R).toInt64) lim
      have hfin : (Int32.ofNat L_332).toInt64 = o_minL ((Int32.ofNat R).toInt64) lim := long_eq (by rw [Int32.toInt_toInt64, own_of (by omega), hmm]; unfold Dd at D_342; omega)
      have hfq : (32 : Int64) + ((8 : Int64) * ((Int32.ofNat L_332).toInt64)) = (32 : Int64) + ((8 : Int64) * (o_minL ((Int32.ofNat R).toInt64) lim)) := congrArg (fun z => (32 : Int64) + ((8 : Int64) * z)) hfin
      rw [hfq]
      refine go_lcmp C (((32 : Int64) + ((8 : Int64) * (o_minL ((Int32.ofNat R).toInt64) lim))).toInt) (((32 : Int64) + ((8 : Int64) * (o_minL ((Int32.ofNat R).toInt64) lim))).toInt) rfl rfl at_276 (pc1 := 277) rfl at_277 (by decide) (pc' := 284) (by decide) (pcN := 280) rfl (fun (c_351 : ¬ (((32 : Int64) + ((8 : Int64) * (o_minL ((Int32.ofNat R).toInt64) lim))).toInt) = (((32 : Int64) + ((8 : Int64) * (o_minL ((Int32.ofNat R).toInt64) lim))).toInt)) => by omega) (fun (c_351 : (((32 : Int64) + ((8 : Int64) * (o_minL ((Int32.ofNat R).toInt64) lim))).toInt) = (((32 : Int64) + ((8 : Int64) * (o_minL ((Int32.ofNat R).toInt64) lim))).toInt)) => ?_)
      refine go_iconst C (1 : Int32) at_280 (pc' := 281) rfl (by decide) ?_
      refine go_goto C at_281 (by decide) (pc' := 285) (by decide) ?_
      refine go_ireturnN C (z' := (1 : Int32)) rfl (by simp) rfl at_285 (by decide) (by decide) ?_
      exact ⟨_, rfl, rfl⟩
    · skip
      refine go_ldc2 C (v := (2 : Int64)) (wd hw 46 rfl) at_205 (pc' := 208) rfl ?_
      refine go_lload C at_208 (pc' := 210) rfl rfl ?_
      refine go_lmul C at_210 (pc' := 211) rfl ?_
      refine go_lstore C (Ls' := #[.val (.int x0), .val (.int x1), .val (.int x2), .val (.long x3), .second, .val (.int (Int32.ofNat R)), .val (.long lim), .second, .val (.int (4 : Int32)), .val (.ref a_253), .val (.int (1 : Int32)), .val (.long ((2 : Int64) * ((Int32.ofNat R).toInt64))), .second]) at_211 (pc' := 213) rfl rfl ?_
      refine go_lload C at_213 (pc' := 215) rfl rfl ?_
      refine go_iload C at_215 (pc' := 217) rfl rfl ?_
      refine go_i2l C at_217 (pc' := 218) rfl ?_
      rw [(by decide : (4 : Int32).toInt64 = (4 : Int64))]
      refine go_lcmp C (2 * (R : Int)) (4 : Int) e1 (by decide) at_218 (pc1 := 219) rfl at_219 (by decide) (pc' := 230) (by decide) (pcN := 222) rfl (fun (c_352 : ¬ (2 * (R : Int)) < (4 : Int)) => ?_) (fun (c_352 : (2 * (R : Int)) < (4 : Int)) => ?_)
      · skip
        refine go_lload C at_230 (pc' := 232) rfl rfl ?_
        refine go_iload C at_232 (pc' := 234) rfl rfl ?_
        refine go_i2l C at_234 (pc' := 235) rfl ?_
        rw [(by decide : (4 : Int32).toInt64 = (4 : Int64))]
        refine go_lcmp C (2 * (R : Int)) (4 : Int) e1 (by decide) at_235 (pc1 := 236) rfl at_236 (by decide) (pc' := 247) (by decide) (pcN := 239) rfl (fun (c_353 : ¬ (2 * (R : Int)) < (4 : Int)) => ?_) (fun (c_353 : (2 * (R : Int)) < (4 : Int)) => by omega)
        refine go_lload C at_247 (pc' := 249) rfl rfl ?_
        refine go_lload C at_249 (pc' := 251) rfl rfl ?_
        refine go_staticP C (as := [.long ((2 : Int64) * ((Int32.ofNat R).toInt64)), .long lim]) (rest := []) (W := 0) (.long (o_minL ((2 : Int64) * ((Int32.ofNat R).toInt64)) lim)) (sat_minL l Z a0 hw ((2 : Int64) * ((Int32.ofNat R).toInt64)) lim (o_minL ((2 : Int64) * ((Int32.ofNat R).toInt64)) lim) _ _ rfl) (wd hw 1 rfl) (wd hw 2 rfl) (wd hw 3 rfl) (wd hw 4 rfl) (by decide) pd_1 rfl rfl rfl (by decide) (by decide) rfl rfl (by decide) (by decide) at_251 (pc' := 254) rfl rfl ?_
        refine go_lstore C (Ls' := #[.val (.int x0), .val (.int x1), .val (.int x2), .val (.long x3), .second, .val (.int (Int32.ofNat R)), .val (.long lim), .second, .val (.int (4 : Int32)), .val (.ref a_253), .val (.int (1 : Int32)), .val (.long (o_minL ((2 : Int64) * ((Int32.ofNat R).toInt64)) lim)), .second]) at_254 (pc' := 256) rfl rfl ?_
        refine go_iload C at_256 (pc' := 258) rfl rfl ?_
        refine go_if0 C (1 : Int) (by decide) at_258 (by decide) (pc' := 284) (by decide) (pcN := 261) rfl (fun (c_354 : (1 : Int) = 0) => by omega) (fun (c_354 : ¬ (1 : Int) = 0) => ?_)
        refine go_aload C at_261 (pc' := 263) rfl rfl rfl ?_
        refine go_virtualP C (as := []) (rest := []) (W := 0) (.long ((32 : Int64) + ((8 : Int64) * ((Int32.ofNat L_332).toInt64)))) (sat_bytes l Z a0 hw a_253 r_330 L_332 _ _ _ F_338 A_341 I_334 (by omega)) E_337 (wd hw 22 rfl) (wd hw 23 rfl) (wd hw 25 rfl) (wd hw 24 rfl) (wd hw 7 rfl) (wd hw 26 rfl) (by decide) pd_4 rfl rfl rfl (by decide) (by decide) rfl rfl (by decide) (by decide) at_263 (pc' := 266) rfl rfl ?_
        refine go_ldc2 C (v := (32 : Int64)) (wd hw 29 rfl) at_266 (pc' := 269) rfl ?_
        refine go_ldc2 C (v := (8 : Int64)) (wd hw 30 rfl) at_269 (pc' := 272) rfl ?_
        refine go_lload C at_272 (pc' := 274) rfl rfl ?_
        refine go_lmul C at_274 (pc' := 275) rfl ?_
        refine go_ladd C at_275 (pc' := 276) rfl ?_
        have hmm := own_min ((2 : Int64) * ((Int32.ofNat R).toInt64)) lim
        have hfin : (Int32.ofNat L_332).toInt64 = o_minL ((2 : Int64) * ((Int32.ofNat R).toInt64)) lim := long_eq (by rw [Int32.toInt_toInt64, own_of (by omega), hmm]; unfold Dd at D_342; omega)
        have hfq : (32 : Int64) + ((8 : Int64) * ((Int32.ofNat L_332).toInt64)) = (32 : Int64) + ((8 : Int64) * (o_minL ((2 : Int64) * ((Int32.ofNat R).toInt64)) lim)) := congrArg (fun z => (32 : Int64) + ((8 : Int64) * z)) hfin
        rw [hfq]
        refine go_lcmp C (((32 : Int64) + ((8 : Int64) * (o_minL ((2 : Int64) * ((Int32.ofNat R).toInt64)) lim))).toInt) (((32 : Int64) + ((8 : Int64) * (o_minL ((2 : Int64) * ((Int32.ofNat R).toInt64)) lim))).toInt) rfl rfl at_276 (pc1 := 277) rfl at_277 (by decide) (pc' := 284) (by decide) (pcN := 280) rfl (fun (c_355 : ¬ (((32 : Int64) + ((8 : Int64) * (o_minL ((2 : Int64) * ((Int32.ofNat R).toInt64)) lim))).toInt) = (((32 : Int64) + ((8 : Int64) * (o_minL ((2 : Int64) * ((Int32.ofNat R).toInt64)) lim))).toInt)) => by omega) (fun (c_355 : (((32 : Int64) + ((8 : Int64) * (o_minL ((2 : Int64) * ((Int32.ofNat R).toInt64)) lim))).toInt) = (((32 : Int64) + ((8 : Int64) * (o_minL ((2 : Int64) * ((Int32.ofNat R).toInt64)) lim))).toInt)) => ?_)
        refine go_iconst C (1 : Int32) at_280 (pc' := 281) rfl (by decide) ?_
        refine go_goto C at_281 (by decide) (pc' := 285) (by decide) ?_
        refine go_ireturnN C (z' := (1 : Int32)) rfl (by simp) rfl at_285 (by decide) (by decide) ?_
        exact ⟨_, rfl, rfl⟩
      · skip
        refine go_ldc2 C (v := (2 : Int64)) (wd hw 46 rfl) at_222 (pc' := 225) rfl ?_
        refine go_lload C at_225 (pc' := 227) rfl rfl ?_
        refine go_lmul C at_227 (pc' := 228) rfl ?_
        refine go_lstore C (Ls' := #[.val (.int x0), .val (.int x1), .val (.int x2), .val (.long x3), .second, .val (.int (Int32.ofNat R)), .val (.long lim), .second, .val (.int (4 : Int32)), .val (.ref a_253), .val (.int (1 : Int32)), .val (.long ((2 : Int64) * ((2 : Int64) * ((Int32.ofNat R).toInt64)))), .second]) at_228 (pc' := 230) rfl rfl ?_
        refine go_lload C at_230 (pc' := 232) rfl rfl ?_
        refine go_iload C at_232 (pc' := 234) rfl rfl ?_
        refine go_i2l C at_234 (pc' := 235) rfl ?_
        rw [(by decide : (4 : Int32).toInt64 = (4 : Int64))]
        refine go_lcmp C (4 * (R : Int)) (4 : Int) e2 (by decide) at_235 (pc1 := 236) rfl at_236 (by decide) (pc' := 247) (by decide) (pcN := 239) rfl (fun (c_356 : ¬ (4 * (R : Int)) < (4 : Int)) => ?_) (fun (c_356 : (4 * (R : Int)) < (4 : Int)) => by omega)
        refine go_lload C at_247 (pc' := 249) rfl rfl ?_
        refine go_lload C at_249 (pc' := 251) rfl rfl ?_
        refine go_staticP C (as := [.long ((2 : Int64) * ((2 : Int64) * ((Int32.ofNat R).toInt64))), .long lim]) (rest := []) (W := 0) (.long (o_minL ((2 : Int64) * ((2 : Int64) * ((Int32.ofNat R).toInt64))) lim)) (sat_minL l Z a0 hw ((2 : Int64) * ((2 : Int64) * ((Int32.ofNat R).toInt64))) lim (o_minL ((2 : Int64) * ((2 : Int64) * ((Int32.ofNat R).toInt64))) lim) _ _ rfl) (wd hw 1 rfl) (wd hw 2 rfl) (wd hw 3 rfl) (wd hw 4 rfl) (by decide) pd_1 rfl rfl rfl (by decide) (by decide) rfl rfl (by decide) (by decide) at_251 (pc' := 254) rfl rfl ?_
        refine go_lstore C (Ls' := #[.val (.int x0), .val (.int x1), .val (.int x2), .val (.long x3), .second, .val (.int (Int32.ofNat R)), .val (.long lim), .second, .val (.int (4 : Int32)), .val (.ref a_253), .val (.int (1 : Int32)), .val (.long (o_minL ((2 : Int64) * ((2 : Int64) * ((Int32.ofNat R).toInt64))) lim)), .second]) at_254 (pc' := 256) rfl rfl ?_
        refine go_iload C at_256 (pc' := 258) rfl rfl ?_
        refine go_if0 C (1 : Int) (by decide) at_258 (by decide) (pc' := 284) (by decide) (pcN := 261) rfl (fun (c_357 : (1 : Int) = 0) => by omega) (fun (c_357 : ¬ (1 : Int) = 0) => ?_)
        refine go_aload C at_261 (pc' := 263) rfl rfl rfl ?_
        refine go_virtualP C (as := []) (rest := []) (W := 0) (.long ((32 : Int64) + ((8 : Int64) * ((Int32.ofNat L_332).toInt64)))) (sat_bytes l Z a0 hw a_253 r_330 L_332 _ _ _ F_338 A_341 I_334 (by omega)) E_337 (wd hw 22 rfl) (wd hw 23 rfl) (wd hw 25 rfl) (wd hw 24 rfl) (wd hw 7 rfl) (wd hw 26 rfl) (by decide) pd_4 rfl rfl rfl (by decide) (by decide) rfl rfl (by decide) (by decide) at_263 (pc' := 266) rfl rfl ?_
        refine go_ldc2 C (v := (32 : Int64)) (wd hw 29 rfl) at_266 (pc' := 269) rfl ?_
        refine go_ldc2 C (v := (8 : Int64)) (wd hw 30 rfl) at_269 (pc' := 272) rfl ?_
        refine go_lload C at_272 (pc' := 274) rfl rfl ?_
        refine go_lmul C at_274 (pc' := 275) rfl ?_
        refine go_ladd C at_275 (pc' := 276) rfl ?_
        have hmm := own_min ((2 : Int64) * ((2 : Int64) * ((Int32.ofNat R).toInt64))) lim
        have hfin : (Int32.ofNat L_332).toInt64 = o_minL ((2 : Int64) * ((2 : Int64) * ((Int32.ofNat R).toInt64))) lim := long_eq (by rw [Int32.toInt_toInt64, own_of (by omega), hmm]; unfold Dd at D_342; omega)
        have hfq : (32 : Int64) + ((8 : Int64) * ((Int32.ofNat L_332).toInt64)) = (32 : Int64) + ((8 : Int64) * (o_minL ((2 : Int64) * ((2 : Int64) * ((Int32.ofNat R).toInt64))) lim)) := congrArg (fun z => (32 : Int64) + ((8 : Int64) * z)) hfin
        rw [hfq]
        refine go_lcmp C (((32 : Int64) + ((8 : Int64) * (o_minL ((2 : Int64) * ((2 : Int64) * ((Int32.ofNat R).toInt64))) lim))).toInt) (((32 : Int64) + ((8 : Int64) * (o_minL ((2 : Int64) * ((2 : Int64) * ((Int32.ofNat R).toInt64))) lim))).toInt) rfl rfl at_276 (pc1 := 277) rfl at_277 (by decide) (pc' := 284) (by decide) (pcN := 280) rfl (fun (c_358 : ¬ (((32 : Int64) + ((8 : Int64) * (o_minL ((2 : Int64) * ((2 : Int64) * ((Int32.ofNat R).toInt64))) lim))).toInt) = (((32 : Int64) + ((8 : Int64) * (o_minL ((2 : Int64) * ((2 : Int64) * ((Int32.ofNat R).toInt64))) lim))).toInt)) => by omega) (fun (c_358 : (((32 : Int64) + ((8 : Int64) * (o_minL ((2 : Int64) * ((2 : Int64) * ((Int32.ofNat R).toInt64))) lim))).toInt) = (((32 : Int64) + ((8 : Int64) * (o_minL ((2 : Int64) * ((2 : Int64) * ((Int32.ofNat R).toInt64))) lim))).toInt)) => ?_)
        refine go_iconst C (1 : Int32) at_280 (pc' := 281) rfl (by decide) ?_
        refine go_goto C at_281 (by decide) (pc' := 285) (by decide) ?_
        refine go_ireturnN C (z' := (1 : Int32)) rfl (by simp) rfl at_285 (by decide) (by decide) ?_
        exact ⟨_, rfl, rfl⟩
  · obtain rfl : kk = (5 : Int32) := int_eq (hq.trans (by decide))
    rw [hq] at hkl
    refine go_new C (wd hw 5 rfl) (wd hw 6 rfl) (wd hw 7 rfl) at_33 (pc' := 36) rfl (ce' := 1) (sl' := 7) rfl rfl (by decide) (by decide) ?_
    intro h_359 a_360 g_361 E_362 E_363 D_364
    have g_365 : Z.heap.size ≤ a_360 := own_ge (Nat.le_refl _) g_361
    have z_366 : Z.heap.size ≤ h_359.size := Nat.le_trans (Nat.le_refl _) E_362.1
    have F_367 : Fld Z h_359 a_360 "com/example/throttld/throttld/SlidingLog$Log" "ring" "[J" (.null) := D_364 (Or.inl (wd hw 21 rfl)) (ty := (.array .long)) (by decide)
    have F_368 : Fld Z h_359 a_360 "com/example/throttld/throttld/SlidingLog$Log" "count" "I" (.int (0 : Int32)) := D_364 (Or.inl (wd hw 37 rfl)) (ty := .int) (by decide)
    have F_369 : Fld Z h_359 a_360 "com/example/throttld/throttld/SlidingLog$Log" "head" "I" (.int (0 : Int32)) := D_364 (Or.inl (wd hw 43 rfl)) (ty := .int) (by decide)
    refine go_dup C at_36 (pc' := 37) rfl rfl ?_
    refine go_iload C at_37 (pc' := 39) rfl rfl ?_
    refine go_specialN C (as := [.int (Int32.ofNat R)]) (rest := [.ref a_360]) (W := 1) (sat_init l Z a0 hw a_360 R _ _ hR E_363 F_367 F_369 F_368 g_365 z_366) rfl (wd hw 8 rfl) (wd hw 9 rfl) (wd hw 7 rfl) (wd hw 10 rfl) (by decide) pd_2 rfl rfl rfl (by decide) (by decide) (ce' := 2) (sl' := 1031) rfl rfl (by decide) (by decide) at_39 (pc' := 42) rfl rfl ?_
    intro h_370 q_371
    obtain ⟨r_372, vs_373, g_374, I_375, E_376, F_377, F_378, F_379, A_380⟩ := q_371
    have D_381 : Dd R R 0 lim.toInt := Or.inl ⟨by omega, rfl⟩
    refine go_astore C (Ls' := #[.val (.int x0), .val (.int x1), .val (.int x2), .val (.long x3), .second, .val (.int (Int32.ofNat R)), .val (.long lim), .second, .val (.int (5 : Int32)), .val (.ref a_360), .unset, .unset, .unset]) at_42 (pc' := 44) rfl rfl rfl ?_
    refine go_aload C at_44 (pc' := 46) rfl rfl rfl ?_
    refine go_virtualP C (as := []) (rest := []) (W := 0) (.long ((32 : Int64) + ((8 : Int64) * ((Int32.ofNat R).toInt64)))) (sat_bytes l Z a0 hw a_360 r_372 R _ _ _ F_377 A_380 I_375 (by omega)) E_376 (wd hw 22 rfl) (wd hw 23 rfl) (wd hw 25 rfl) (wd hw 24 rfl) (wd hw 7 rfl) (wd hw 26 rfl) (by decide) pd_4 rfl rfl rfl (by decide) (by decide) rfl rfl (by decide) (by decide) at_46 (pc' := 49) rfl rfl ?_
    refine go_ldc2 C (v := (32 : Int64)) (wd hw 29 rfl) at_49 (pc' := 52) rfl ?_
    refine go_ldc2 C (v := (8 : Int64)) (wd hw 30 rfl) at_52 (pc' := 55) rfl ?_
    refine go_iload C at_55 (pc' := 57) rfl rfl ?_
    refine go_i2l C at_57 (pc' := 58) rfl ?_
    refine go_lmul C at_58 (pc' := 59) rfl ?_
    refine go_ladd C at_59 (pc' := 60) rfl ?_
    refine go_lcmp C (((32 : Int64) + ((8 : Int64) * ((Int32.ofNat R).toInt64))).toInt) (((32 : Int64) + ((8 : Int64) * ((Int32.ofNat R).toInt64))).toInt) rfl rfl at_60 (pc1 := 61) rfl at_61 (by decide) (pc' := 68) (by decide) (pcN := 64) rfl (fun (c_382 : ¬ (((32 : Int64) + ((8 : Int64) * ((Int32.ofNat R).toInt64))).toInt) = (((32 : Int64) + ((8 : Int64) * ((Int32.ofNat R).toInt64))).toInt)) => by omega) (fun (c_382 : (((32 : Int64) + ((8 : Int64) * ((Int32.ofNat R).toInt64))).toInt) = (((32 : Int64) + ((8 : Int64) * ((Int32.ofNat R).toInt64))).toInt)) => ?_)
    refine go_iconst C (1 : Int32) at_64 (pc' := 65) rfl (by decide) ?_
    refine go_goto C at_65 (by decide) (pc' := 69) (by decide) ?_
    refine go_istore C (Ls' := #[.val (.int x0), .val (.int x1), .val (.int x2), .val (.long x3), .second, .val (.int (Int32.ofNat R)), .val (.long lim), .second, .val (.int (5 : Int32)), .val (.ref a_360), .val (.int (1 : Int32)), .unset, .unset]) at_69 (pc' := 71) rfl rfl ?_
    refine go_iload C at_71 (pc' := 73) rfl rfl ?_
    refine go_if0 C (5 : Int) (by decide) at_73 (by decide) (pc' := 84) (by decide) (pcN := 76) rfl (fun (c_383 : ¬ 0 < (5 : Int)) => by omega) (fun (c_383 : 0 < (5 : Int)) => ?_)
    refine go_aload C at_76 (pc' := 78) rfl rfl rfl ?_
    refine go_lloadN C at_78 (pc' := 79) rfl rfl ?_
    refine go_lload C at_79 (pc' := 81) rfl rfl ?_
    refine go_virtualN C (as := [.long x3, .long lim]) (rest := []) (W := 0) (sat_add l Z a0 hw a_360 r_372 x3 lim 0 R _ _ _ (by decide) (by omega) (by omega) (by omega) (by omega) hl2 I_375 ⟨E_376, F_377, F_378, F_379, A_380⟩ g_365 g_374) E_376 (wd hw 31 rfl) (wd hw 32 rfl) (wd hw 34 rfl) (wd hw 33 rfl) (wd hw 7 rfl) (wd hw 35 rfl) (by decide) pd_5 rfl rfl rfl (by decide) (by decide) (ce' := 3) (sl' := 1043) rfl rfl (by decide) (by decide) at_81 (pc' := 84) rfl rfl ?_
    intro h_384 q_385
    obtain ⟨r_386, vs_387, L_388, g_389, I_390, hc_391, rel_392, E_393, F_394, F_395, F_396, A_397⟩ := q_385
    have D_398 : Dd R L_388 1 lim.toInt := Dd_step D_381 hR1 hlR (by decide) (by omega) rel_392 hc_391
    have B_399 := Dd_bound D_398 hR1 hR hlR (by decide)
    clear rel_392 D_381
    refine go_iload C at_84 (pc' := 86) rfl rfl ?_
    refine go_iconst C (1 : Int32) at_86 (pc' := 87) rfl (by decide) ?_
    refine go_icmp C (5 : Int) (1 : Int) (by decide) (by decide) at_87 (by decide) (pc' := 100) (by decide) (pcN := 90) rfl (fun (c_400 : ¬ (1 : Int) < (5 : Int)) => by omega) (fun (c_400 : (1 : Int) < (5 : Int)) => ?_)
    refine go_aload C at_90 (pc' := 92) rfl rfl rfl ?_
    refine go_lloadN C at_92 (pc' := 93) rfl rfl ?_
    refine go_lconst C (1 : Int64) at_93 (pc' := 94) rfl (by decide) ?_
    refine go_ladd C at_94 (pc' := 95) rfl ?_
    refine go_lload C at_95 (pc' := 97) rfl rfl ?_
    refine go_virtualN C (as := [.long (x3 + (1 : Int64)), .long lim]) (rest := []) (W := 0) (sat_add l Z a0 hw a_360 r_386 (x3 + (1 : Int64)) lim 1 L_388 _ _ _ (by decide) (by omega) (by omega) (by omega) (by omega) hl2 I_390 ⟨E_393, F_394, F_395, F_396, A_397⟩ g_365 g_389) E_393 (wd hw 31 rfl) (wd hw 32 rfl) (wd hw 34 rfl) (wd hw 33 rfl) (wd hw 7 rfl) (wd hw 35 rfl) (by decide) pd_5 rfl rfl rfl (by decide) (by decide) (ce' := 4) (sl' := 1055) rfl rfl (by decide) (by decide) at_97 (pc' := 100) rfl rfl ?_
    intro h_401 q_402
    obtain ⟨r_403, vs_404, L_405, g_406, I_407, hc_408, rel_409, E_410, F_411, F_412, F_413, A_414⟩ := q_402
    have D_415 : Dd R L_405 2 lim.toInt := Dd_step D_398 hR1 hlR (by decide) (by omega) rel_409 hc_408
    have B_416 := Dd_bound D_415 hR1 hR hlR (by decide)
    clear rel_409 D_398 hc_391
    refine go_iload C at_100 (pc' := 102) rfl rfl ?_
    refine go_iconst C (2 : Int32) at_102 (pc' := 103) rfl (by decide) ?_
    refine go_icmp C (5 : Int) (2 : Int) (by decide) (by decide) at_103 (by decide) (pc' := 118) (by decide) (pcN := 106) rfl (fun (c_417 : ¬ (2 : Int) < (5 : Int)) => by omega) (fun (c_417 : (2 : Int) < (5 : Int)) => ?_)
    refine go_aload C at_106 (pc' := 108) rfl rfl rfl ?_
    refine go_lloadN C at_108 (pc' := 109) rfl rfl ?_
    refine go_ldc2 C (v := (2 : Int64)) (wd hw 46 rfl) at_109 (pc' := 112) rfl ?_
    refine go_ladd C at_112 (pc' := 113) rfl ?_
    refine go_lload C at_113 (pc' := 115) rfl rfl ?_
    refine go_virtualN C (as := [.long (x3 + (2 : Int64)), .long lim]) (rest := []) (W := 0) (sat_add l Z a0 hw a_360 r_403 (x3 + (2 : Int64)) lim 2 L_405 _ _ _ (by decide) (by omega) (by omega) (by omega) (by omega) hl2 I_407 ⟨E_410, F_411, F_412, F_413, A_414⟩ g_365 g_406) E_410 (wd hw 31 rfl) (wd hw 32 rfl) (wd hw 34 rfl) (wd hw 33 rfl) (wd hw 7 rfl) (wd hw 35 rfl) (by decide) pd_5 rfl rfl rfl (by decide) (by decide) (ce' := 5) (sl' := 1067) rfl rfl (by decide) (by decide) at_115 (pc' := 118) rfl rfl ?_
    intro h_418 q_419
    obtain ⟨r_420, vs_421, L_422, g_423, I_424, hc_425, rel_426, E_427, F_428, F_429, F_430, A_431⟩ := q_419
    have D_432 : Dd R L_422 3 lim.toInt := Dd_step D_415 hR1 hlR (by decide) (by omega) rel_426 hc_425
    have B_433 := Dd_bound D_432 hR1 hR hlR (by decide)
    clear rel_426 D_415 hc_408
    refine go_iload C at_118 (pc' := 120) rfl rfl ?_
    refine go_iconst C (3 : Int32) at_120 (pc' := 121) rfl (by decide) ?_
    refine go_icmp C (5 : Int) (3 : Int) (by decide) (by decide) at_121 (by decide) (pc' := 136) (by decide) (pcN := 124) rfl (fun (c_434 : ¬ (3 : Int) < (5 : Int)) => by omega) (fun (c_434 : (3 : Int) < (5 : Int)) => ?_)
    refine go_aload C at_124 (pc' := 126) rfl rfl rfl ?_
    refine go_lloadN C at_126 (pc' := 127) rfl rfl ?_
    refine go_ldc2 C (v := (3 : Int64)) (wd hw 47 rfl) at_127 (pc' := 130) rfl ?_
    refine go_ladd C at_130 (pc' := 131) rfl ?_
    refine go_lload C at_131 (pc' := 133) rfl rfl ?_
    refine go_virtualN C (as := [.long (x3 + (3 : Int64)), .long lim]) (rest := []) (W := 0) (sat_add l Z a0 hw a_360 r_420 (x3 + (3 : Int64)) lim 3 L_422 _ _ _ (by decide) (by omega) (by omega) (by omega) (by omega) hl2 I_424 ⟨E_427, F_428, F_429, F_430, A_431⟩ g_365 g_423) E_427 (wd hw 31 rfl) (wd hw 32 rfl) (wd hw 34 rfl) (wd hw 33 rfl) (wd hw 7 rfl) (wd hw 35 rfl) (by decide) pd_5 rfl rfl rfl (by decide) (by decide) (ce' := 6) (sl' := 1079) rfl rfl (by decide) (by decide) at_133 (pc' := 136) rfl rfl ?_
    intro h_435 q_436
    obtain ⟨r_437, vs_438, L_439, g_440, I_441, hc_442, rel_443, E_444, F_445, F_446, F_447, A_448⟩ := q_436
    have D_449 : Dd R L_439 4 lim.toInt := Dd_step D_432 hR1 hlR (by decide) (by omega) rel_443 hc_442
    have B_450 := Dd_bound D_449 hR1 hR hlR (by decide)
    clear rel_443 D_432 hc_425
    refine go_iload C at_136 (pc' := 138) rfl rfl ?_
    refine go_iconst C (4 : Int32) at_138 (pc' := 139) rfl (by decide) ?_
    refine go_icmp C (5 : Int) (4 : Int) (by decide) (by decide) at_139 (by decide) (pc' := 154) (by decide) (pcN := 142) rfl (fun (c_451 : ¬ (4 : Int) < (5 : Int)) => by omega) (fun (c_451 : (4 : Int) < (5 : Int)) => ?_)
    refine go_aload C at_142 (pc' := 144) rfl rfl rfl ?_
    refine go_lloadN C at_144 (pc' := 145) rfl rfl ?_
    refine go_ldc2 C (v := (4 : Int64)) (wd hw 48 rfl) at_145 (pc' := 148) rfl ?_
    refine go_ladd C at_148 (pc' := 149) rfl ?_
    refine go_lload C at_149 (pc' := 151) rfl rfl ?_
    refine go_virtualN C (as := [.long (x3 + (4 : Int64)), .long lim]) (rest := []) (W := 0) (sat_add l Z a0 hw a_360 r_437 (x3 + (4 : Int64)) lim 4 L_439 _ _ _ (by decide) (by omega) (by omega) (by omega) (by omega) hl2 I_441 ⟨E_444, F_445, F_446, F_447, A_448⟩ g_365 g_440) E_444 (wd hw 31 rfl) (wd hw 32 rfl) (wd hw 34 rfl) (wd hw 33 rfl) (wd hw 7 rfl) (wd hw 35 rfl) (by decide) pd_5 rfl rfl rfl (by decide) (by decide) (ce' := 7) (sl' := 1091) rfl rfl (by decide) (by decide) at_151 (pc' := 154) rfl rfl ?_
    intro h_452 q_453
    obtain ⟨r_454, vs_455, L_456, g_457, I_458, hc_459, rel_460, E_461, F_462, F_463, F_464, A_465⟩ := q_453
    have D_466 : Dd R L_456 5 lim.toInt := Dd_step D_449 hR1 hlR (by decide) (by omega) rel_460 hc_459
    have B_467 := Dd_bound D_466 hR1 hR hlR (by decide)
    clear rel_460 D_449 hc_442
    refine go_iload C at_154 (pc' := 156) rfl rfl ?_
    refine go_iconst C (5 : Int32) at_156 (pc' := 157) rfl (by decide) ?_
    refine go_icmp C (5 : Int) (5 : Int) (by decide) (by decide) at_157 (by decide) (pc' := 172) (by decide) (pcN := 160) rfl (fun (c_468 : ¬ (5 : Int) < (5 : Int)) => ?_) (fun (c_468 : (5 : Int) < (5 : Int)) => by omega)
    refine go_iload C at_172 (pc' := 174) rfl rfl ?_
    refine go_bipush C (6 : Int32) at_174 (pc' := 176) rfl (by decide) ?_
    refine go_icmp C (5 : Int) (6 : Int) (by decide) (by decide) at_176 (by decide) (pc' := 191) (by decide) (pcN := 179) rfl (fun (c_469 : ¬ (6 : Int) < (5 : Int)) => ?_) (fun (c_469 : (6 : Int) < (5 : Int)) => by omega)
    refine go_iload C at_191 (pc' := 193) rfl rfl ?_
    refine go_i2l C at_193 (pc' := 194) rfl ?_
    refine go_lstore C (Ls' := #[.val (.int x0), .val (.int x1), .val (.int x2), .val (.long x3), .second, .val (.int (Int32.ofNat R)), .val (.long lim), .second, .val (.int (5 : Int32)), .val (.ref a_360), .val (.int (1 : Int32)), .val (.long ((Int32.ofNat R).toInt64)), .second]) at_194 (pc' := 196) rfl rfl ?_
    refine go_lload C at_196 (pc' := 198) rfl rfl ?_
    refine go_iload C at_198 (pc' := 200) rfl rfl ?_
    refine go_i2l C at_200 (pc' := 201) rfl ?_
    rw [(by decide : (5 : Int32).toInt64 = (5 : Int64))]
    refine go_lcmp C (1 * (R : Int)) (5 : Int) e0 (by decide) at_201 (pc1 := 202) rfl at_202 (by decide) (pc' := 213) (by decide) (pcN := 205) rfl (fun (c_470 : ¬ (1 * (R : Int)) < (5 : Int)) => ?_) (fun (c_470 : (1 * (R : Int)) < (5 : Int)) => ?_)
    · skip
      refine go_lload C at_213 (pc' := 215) rfl rfl ?_
      refine go_iload C at_215 (pc' := 217) rfl rfl ?_
      refine go_i2l C at_217 (pc' := 218) rfl ?_
      rw [(by decide : (5 : Int32).toInt64 = (5 : Int64))]
      refine go_lcmp C (1 * (R : Int)) (5 : Int) e0 (by decide) at_218 (pc1 := 219) rfl at_219 (by decide) (pc' := 230) (by decide) (pcN := 222) rfl (fun (c_471 : ¬ (1 * (R : Int)) < (5 : Int)) => ?_) (fun (c_471 : (1 * (R : Int)) < (5 : Int)) => by omega)
      refine go_lload C at_230 (pc' := 232) rfl rfl ?_
      refine go_iload C at_232 (pc' := 234) rfl rfl ?_
      refine go_i2l C at_234 (pc' := 235) rfl ?_
      rw [(by decide : (5 : Int32).toInt64 = (5 : Int64))]
      refine go_lcmp C (1 * (R : Int)) (5 : Int) e0 (by decide) at_235 (pc1 := 236) rfl at_236 (by decide) (pc' := 247) (by decide) (pcN := 239) rfl (fun (c_472 : ¬ (1 * (R : Int)) < (5 : Int)) => ?_) (fun (c_472 : (1 * (R : Int)) < (5 : Int)) => by omega)
      refine go_lload C at_247 (pc' := 249) rfl rfl ?_
      refine go_lload C at_249 (pc' := 251) rfl rfl ?_
      refine go_staticP C (as := [.long ((Int32.ofNat R).toInt64), .long lim]) (rest := []) (W := 0) (.long (o_minL ((Int32.ofNat R).toInt64) lim)) (sat_minL l Z a0 hw ((Int32.ofNat R).toInt64) lim (o_minL ((Int32.ofNat R).toInt64) lim) _ _ rfl) (wd hw 1 rfl) (wd hw 2 rfl) (wd hw 3 rfl) (wd hw 4 rfl) (by decide) pd_1 rfl rfl rfl (by decide) (by decide) rfl rfl (by decide) (by decide) at_251 (pc' := 254) rfl rfl ?_
      refine go_lstore C (Ls' := #[.val (.int x0), .val (.int x1), .val (.int x2), .val (.long x3), .second, .val (.int (Int32.ofNat R)), .val (.long lim), .second, .val (.int (5 : Int32)), .val (.ref a_360), .val (.int (1 : Int32)), .val (.long (o_minL ((Int32.ofNat R).toInt64) lim)), .second]) at_254 (pc' := 256) rfl rfl ?_
      refine go_iload C at_256 (pc' := 258) rfl rfl ?_
      refine go_if0 C (1 : Int) (by decide) at_258 (by decide) (pc' := 284) (by decide) (pcN := 261) rfl (fun (c_473 : (1 : Int) = 0) => by omega) (fun (c_473 : ¬ (1 : Int) = 0) => ?_)
      refine go_aload C at_261 (pc' := 263) rfl rfl rfl ?_
      refine go_virtualP C (as := []) (rest := []) (W := 0) (.long ((32 : Int64) + ((8 : Int64) * ((Int32.ofNat L_456).toInt64)))) (sat_bytes l Z a0 hw a_360 r_454 L_456 _ _ _ F_462 A_465 I_458 (by omega)) E_461 (wd hw 22 rfl) (wd hw 23 rfl) (wd hw 25 rfl) (wd hw 24 rfl) (wd hw 7 rfl) (wd hw 26 rfl) (by decide) pd_4 rfl rfl rfl (by decide) (by decide) rfl rfl (by decide) (by decide) at_263 (pc' := 266) rfl rfl ?_
      refine go_ldc2 C (v := (32 : Int64)) (wd hw 29 rfl) at_266 (pc' := 269) rfl ?_
      refine go_ldc2 C (v := (8 : Int64)) (wd hw 30 rfl) at_269 (pc' := 272) rfl ?_
      refine go_lload C at_272 (pc' := 274) rfl rfl ?_
      refine go_lmul C at_274 (pc' := 275) rfl ?_
      refine go_ladd C at_275 (pc' := 276) rfl ?_
      have hmm := own_min ((Int32.ofNat R).toInt64) lim
      have hfin : (Int32.ofNat L_456).toInt64 = o_minL ((Int32.ofNat R).toInt64) lim := long_eq (by rw [Int32.toInt_toInt64, own_of (by omega), hmm]; unfold Dd at D_466; omega)
      have hfq : (32 : Int64) + ((8 : Int64) * ((Int32.ofNat L_456).toInt64)) = (32 : Int64) + ((8 : Int64) * (o_minL ((Int32.ofNat R).toInt64) lim)) := congrArg (fun z => (32 : Int64) + ((8 : Int64) * z)) hfin
      rw [hfq]
      refine go_lcmp C (((32 : Int64) + ((8 : Int64) * (o_minL ((Int32.ofNat R).toInt64) lim))).toInt) (((32 : Int64) + ((8 : Int64) * (o_minL ((Int32.ofNat R).toInt64) lim))).toInt) rfl rfl at_276 (pc1 := 277) rfl at_277 (by decide) (pc' := 284) (by decide) (pcN := 280) rfl (fun (c_474 : ¬ (((32 : Int64) + ((8 : Int64) * (o_minL ((Int32.ofNat R).toInt64) lim))).toInt) = (((32 : Int64) + ((8 : Int64) * (o_minL ((Int32.ofNat R).toInt64) lim))).toInt)) => by omega) (fun (c_474 : (((32 : Int64) + ((8 : Int64) * (o_minL ((Int32.ofNat R).toInt64) lim))).toInt) = (((32 : Int64) + ((8 : Int64) * (o_minL ((Int32.ofNat R).toInt64) lim))).toInt)) => ?_)
      refine go_iconst C (1 : Int32) at_280 (pc' := 281) rfl (by decide) ?_
      refine go_goto C at_281 (by decide) (pc' := 285) (by decide) ?_
      refine go_ireturnN C (z' := (1 : Int32)) rfl (by simp) rfl at_285 (by decide) (by decide) ?_
      exact ⟨_, rfl, rfl⟩
    · skip
      refine go_ldc2 C (v := (2 : Int64)) (wd hw 46 rfl) at_205 (pc' := 208) rfl ?_
      refine go_lload C at_208 (pc' := 210) rfl rfl ?_
      refine go_lmul C at_210 (pc' := 211) rfl ?_
      refine go_lstore C (Ls' := #[.val (.int x0), .val (.int x1), .val (.int x2), .val (.long x3), .second, .val (.int (Int32.ofNat R)), .val (.long lim), .second, .val (.int (5 : Int32)), .val (.ref a_360), .val (.int (1 : Int32)), .val (.long ((2 : Int64) * ((Int32.ofNat R).toInt64))), .second]) at_211 (pc' := 213) rfl rfl ?_
      refine go_lload C at_213 (pc' := 215) rfl rfl ?_
      refine go_iload C at_215 (pc' := 217) rfl rfl ?_
      refine go_i2l C at_217 (pc' := 218) rfl ?_
      rw [(by decide : (5 : Int32).toInt64 = (5 : Int64))]
      refine go_lcmp C (2 * (R : Int)) (5 : Int) e1 (by decide) at_218 (pc1 := 219) rfl at_219 (by decide) (pc' := 230) (by decide) (pcN := 222) rfl (fun (c_475 : ¬ (2 * (R : Int)) < (5 : Int)) => ?_) (fun (c_475 : (2 * (R : Int)) < (5 : Int)) => ?_)
      · skip
        refine go_lload C at_230 (pc' := 232) rfl rfl ?_
        refine go_iload C at_232 (pc' := 234) rfl rfl ?_
        refine go_i2l C at_234 (pc' := 235) rfl ?_
        rw [(by decide : (5 : Int32).toInt64 = (5 : Int64))]
        refine go_lcmp C (2 * (R : Int)) (5 : Int) e1 (by decide) at_235 (pc1 := 236) rfl at_236 (by decide) (pc' := 247) (by decide) (pcN := 239) rfl (fun (c_476 : ¬ (2 * (R : Int)) < (5 : Int)) => ?_) (fun (c_476 : (2 * (R : Int)) < (5 : Int)) => by omega)
        refine go_lload C at_247 (pc' := 249) rfl rfl ?_
        refine go_lload C at_249 (pc' := 251) rfl rfl ?_
        refine go_staticP C (as := [.long ((2 : Int64) * ((Int32.ofNat R).toInt64)), .long lim]) (rest := []) (W := 0) (.long (o_minL ((2 : Int64) * ((Int32.ofNat R).toInt64)) lim)) (sat_minL l Z a0 hw ((2 : Int64) * ((Int32.ofNat R).toInt64)) lim (o_minL ((2 : Int64) * ((Int32.ofNat R).toInt64)) lim) _ _ rfl) (wd hw 1 rfl) (wd hw 2 rfl) (wd hw 3 rfl) (wd hw 4 rfl) (by decide) pd_1 rfl rfl rfl (by decide) (by decide) rfl rfl (by decide) (by decide) at_251 (pc' := 254) rfl rfl ?_
        refine go_lstore C (Ls' := #[.val (.int x0), .val (.int x1), .val (.int x2), .val (.long x3), .second, .val (.int (Int32.ofNat R)), .val (.long lim), .second, .val (.int (5 : Int32)), .val (.ref a_360), .val (.int (1 : Int32)), .val (.long (o_minL ((2 : Int64) * ((Int32.ofNat R).toInt64)) lim)), .second]) at_254 (pc' := 256) rfl rfl ?_
        refine go_iload C at_256 (pc' := 258) rfl rfl ?_
        refine go_if0 C (1 : Int) (by decide) at_258 (by decide) (pc' := 284) (by decide) (pcN := 261) rfl (fun (c_477 : (1 : Int) = 0) => by omega) (fun (c_477 : ¬ (1 : Int) = 0) => ?_)
        refine go_aload C at_261 (pc' := 263) rfl rfl rfl ?_
        refine go_virtualP C (as := []) (rest := []) (W := 0) (.long ((32 : Int64) + ((8 : Int64) * ((Int32.ofNat L_456).toInt64)))) (sat_bytes l Z a0 hw a_360 r_454 L_456 _ _ _ F_462 A_465 I_458 (by omega)) E_461 (wd hw 22 rfl) (wd hw 23 rfl) (wd hw 25 rfl) (wd hw 24 rfl) (wd hw 7 rfl) (wd hw 26 rfl) (by decide) pd_4 rfl rfl rfl (by decide) (by decide) rfl rfl (by decide) (by decide) at_263 (pc' := 266) rfl rfl ?_
        refine go_ldc2 C (v := (32 : Int64)) (wd hw 29 rfl) at_266 (pc' := 269) rfl ?_
        refine go_ldc2 C (v := (8 : Int64)) (wd hw 30 rfl) at_269 (pc' := 272) rfl ?_
        refine go_lload C at_272 (pc' := 274) rfl rfl ?_
        refine go_lmul C at_274 (pc' := 275) rfl ?_
        refine go_ladd C at_275 (pc' := 276) rfl ?_
        have hmm := own_min ((2 : Int64) * ((Int32.ofNat R).toInt64)) lim
        have hfin : (Int32.ofNat L_456).toInt64 = o_minL ((2 : Int64) * ((Int32.ofNat R).toInt64)) lim := long_eq (by rw [Int32.toInt_toInt64, own_of (by omega), hmm]; unfold Dd at D_466; omega)
        have hfq : (32 : Int64) + ((8 : Int64) * ((Int32.ofNat L_456).toInt64)) = (32 : Int64) + ((8 : Int64) * (o_minL ((2 : Int64) * ((Int32.ofNat R).toInt64)) lim)) := congrArg (fun z => (32 : Int64) + ((8 : Int64) * z)) hfin
        rw [hfq]
        refine go_lcmp C (((32 : Int64) + ((8 : Int64) * (o_minL ((2 : Int64) * ((Int32.ofNat R).toInt64)) lim))).toInt) (((32 : Int64) + ((8 : Int64) * (o_minL ((2 : Int64) * ((Int32.ofNat R).toInt64)) lim))).toInt) rfl rfl at_276 (pc1 := 277) rfl at_277 (by decide) (pc' := 284) (by decide) (pcN := 280) rfl (fun (c_478 : ¬ (((32 : Int64) + ((8 : Int64) * (o_minL ((2 : Int64) * ((Int32.ofNat R).toInt64)) lim))).toInt) = (((32 : Int64) + ((8 : Int64) * (o_minL ((2 : Int64) * ((Int32.ofNat R).toInt64)) lim))).toInt)) => by omega) (fun (c_478 : (((32 : Int64) + ((8 : Int64) * (o_minL ((2 : Int64) * ((Int32.ofNat R).toInt64)) lim))).toInt) = (((32 : Int64) + ((8 : Int64) * (o_minL ((2 : Int64) * ((Int32.ofNat R).toInt64)) lim))).toInt)) => ?_)
        refine go_iconst C (1 : Int32) at_280 (pc' := 281) rfl (by decide) ?_
        refine go_goto C at_281 (by decide) (pc' := 285) (by decide) ?_
        refine go_ireturnN C (z' := (1 : Int32)) rfl (by simp) rfl at_285 (by decide) (by decide) ?_
        exact ⟨_, rfl, rfl⟩
      · skip
        refine go_ldc2 C (v := (2 : Int64)) (wd hw 46 rfl) at_222 (pc' := 225) rfl ?_
        refine go_lload C at_225 (pc' := 227) rfl rfl ?_
        refine go_lmul C at_227 (pc' := 228) rfl ?_
        refine go_lstore C (Ls' := #[.val (.int x0), .val (.int x1), .val (.int x2), .val (.long x3), .second, .val (.int (Int32.ofNat R)), .val (.long lim), .second, .val (.int (5 : Int32)), .val (.ref a_360), .val (.int (1 : Int32)), .val (.long ((2 : Int64) * ((2 : Int64) * ((Int32.ofNat R).toInt64)))), .second]) at_228 (pc' := 230) rfl rfl ?_
        refine go_lload C at_230 (pc' := 232) rfl rfl ?_
        refine go_iload C at_232 (pc' := 234) rfl rfl ?_
        refine go_i2l C at_234 (pc' := 235) rfl ?_
        rw [(by decide : (5 : Int32).toInt64 = (5 : Int64))]
        refine go_lcmp C (4 * (R : Int)) (5 : Int) e2 (by decide) at_235 (pc1 := 236) rfl at_236 (by decide) (pc' := 247) (by decide) (pcN := 239) rfl (fun (c_479 : ¬ (4 * (R : Int)) < (5 : Int)) => ?_) (fun (c_479 : (4 * (R : Int)) < (5 : Int)) => ?_)
        · skip
          refine go_lload C at_247 (pc' := 249) rfl rfl ?_
          refine go_lload C at_249 (pc' := 251) rfl rfl ?_
          refine go_staticP C (as := [.long ((2 : Int64) * ((2 : Int64) * ((Int32.ofNat R).toInt64))), .long lim]) (rest := []) (W := 0) (.long (o_minL ((2 : Int64) * ((2 : Int64) * ((Int32.ofNat R).toInt64))) lim)) (sat_minL l Z a0 hw ((2 : Int64) * ((2 : Int64) * ((Int32.ofNat R).toInt64))) lim (o_minL ((2 : Int64) * ((2 : Int64) * ((Int32.ofNat R).toInt64))) lim) _ _ rfl) (wd hw 1 rfl) (wd hw 2 rfl) (wd hw 3 rfl) (wd hw 4 rfl) (by decide) pd_1 rfl rfl rfl (by decide) (by decide) rfl rfl (by decide) (by decide) at_251 (pc' := 254) rfl rfl ?_
          refine go_lstore C (Ls' := #[.val (.int x0), .val (.int x1), .val (.int x2), .val (.long x3), .second, .val (.int (Int32.ofNat R)), .val (.long lim), .second, .val (.int (5 : Int32)), .val (.ref a_360), .val (.int (1 : Int32)), .val (.long (o_minL ((2 : Int64) * ((2 : Int64) * ((Int32.ofNat R).toInt64))) lim)), .second]) at_254 (pc' := 256) rfl rfl ?_
          refine go_iload C at_256 (pc' := 258) rfl rfl ?_
          refine go_if0 C (1 : Int) (by decide) at_258 (by decide) (pc' := 284) (by decide) (pcN := 261) rfl (fun (c_480 : (1 : Int) = 0) => by omega) (fun (c_480 : ¬ (1 : Int) = 0) => ?_)
          refine go_aload C at_261 (pc' := 263) rfl rfl rfl ?_
          refine go_virtualP C (as := []) (rest := []) (W := 0) (.long ((32 : Int64) + ((8 : Int64) * ((Int32.ofNat L_456).toInt64)))) (sat_bytes l Z a0 hw a_360 r_454 L_456 _ _ _ F_462 A_465 I_458 (by omega)) E_461 (wd hw 22 rfl) (wd hw 23 rfl) (wd hw 25 rfl) (wd hw 24 rfl) (wd hw 7 rfl) (wd hw 26 rfl) (by decide) pd_4 rfl rfl rfl (by decide) (by decide) rfl rfl (by decide) (by decide) at_263 (pc' := 266) rfl rfl ?_
          refine go_ldc2 C (v := (32 : Int64)) (wd hw 29 rfl) at_266 (pc' := 269) rfl ?_
          refine go_ldc2 C (v := (8 : Int64)) (wd hw 30 rfl) at_269 (pc' := 272) rfl ?_
          refine go_lload C at_272 (pc' := 274) rfl rfl ?_
          refine go_lmul C at_274 (pc' := 275) rfl ?_
          refine go_ladd C at_275 (pc' := 276) rfl ?_
          have hmm := own_min ((2 : Int64) * ((2 : Int64) * ((Int32.ofNat R).toInt64))) lim
          have hfin : (Int32.ofNat L_456).toInt64 = o_minL ((2 : Int64) * ((2 : Int64) * ((Int32.ofNat R).toInt64))) lim := long_eq (by rw [Int32.toInt_toInt64, own_of (by omega), hmm]; unfold Dd at D_466; omega)
          have hfq : (32 : Int64) + ((8 : Int64) * ((Int32.ofNat L_456).toInt64)) = (32 : Int64) + ((8 : Int64) * (o_minL ((2 : Int64) * ((2 : Int64) * ((Int32.ofNat R).toInt64))) lim)) := congrArg (fun z => (32 : Int64) + ((8 : Int64) * z)) hfin
          rw [hfq]
          refine go_lcmp C (((32 : Int64) + ((8 : Int64) * (o_minL ((2 : Int64) * ((2 : Int64) * ((Int32.ofNat R).toInt64))) lim))).toInt) (((32 : Int64) + ((8 : Int64) * (o_minL ((2 : Int64) * ((2 : Int64) * ((Int32.ofNat R).toInt64))) lim))).toInt) rfl rfl at_276 (pc1 := 277) rfl at_277 (by decide) (pc' := 284) (by decide) (pcN := 280) rfl (fun (c_481 : ¬ (((32 : Int64) + ((8 : Int64) * (o_minL ((2 : Int64) * ((2 : Int64) * ((Int32.ofNat R).toInt64))) lim))).toInt) = (((32 : Int64) + ((8 : Int64) * (o_minL ((2 : Int64) * ((2 : Int64) * ((Int32.ofNat R).toInt64))) lim))).toInt)) => by omega) (fun (c_481 : (((32 : Int64) + ((8 : Int64) * (o_minL ((2 : Int64) * ((2 : Int64) * ((Int32.ofNat R).toInt64))) lim))).toInt) = (((32 : Int64) + ((8 : Int64) * (o_minL ((2 : Int64) * ((2 : Int64) * ((Int32.ofNat R).toInt64))) lim))).toInt)) => ?_)
          refine go_iconst C (1 : Int32) at_280 (pc' := 281) rfl (by decide) ?_
          refine go_goto C at_281 (by decide) (pc' := 285) (by decide) ?_
          refine go_ireturnN C (z' := (1 : Int32)) rfl (by simp) rfl at_285 (by decide) (by decide) ?_
          exact ⟨_, rfl, rfl⟩
        · skip
          refine go_ldc2 C (v := (2 : Int64)) (wd hw 46 rfl) at_239 (pc' := 242) rfl ?_
          refine go_lload C at_242 (pc' := 244) rfl rfl ?_
          refine go_lmul C at_244 (pc' := 245) rfl ?_
          refine go_lstore C (Ls' := #[.val (.int x0), .val (.int x1), .val (.int x2), .val (.long x3), .second, .val (.int (Int32.ofNat R)), .val (.long lim), .second, .val (.int (5 : Int32)), .val (.ref a_360), .val (.int (1 : Int32)), .val (.long ((2 : Int64) * ((2 : Int64) * ((2 : Int64) * ((Int32.ofNat R).toInt64))))), .second]) at_245 (pc' := 247) rfl rfl ?_
          refine go_lload C at_247 (pc' := 249) rfl rfl ?_
          refine go_lload C at_249 (pc' := 251) rfl rfl ?_
          refine go_staticP C (as := [.long ((2 : Int64) * ((2 : Int64) * ((2 : Int64) * ((Int32.ofNat R).toInt64)))), .long lim]) (rest := []) (W := 0) (.long (o_minL ((2 : Int64) * ((2 : Int64) * ((2 : Int64) * ((Int32.ofNat R).toInt64)))) lim)) (sat_minL l Z a0 hw ((2 : Int64) * ((2 : Int64) * ((2 : Int64) * ((Int32.ofNat R).toInt64)))) lim (o_minL ((2 : Int64) * ((2 : Int64) * ((2 : Int64) * ((Int32.ofNat R).toInt64)))) lim) _ _ rfl) (wd hw 1 rfl) (wd hw 2 rfl) (wd hw 3 rfl) (wd hw 4 rfl) (by decide) pd_1 rfl rfl rfl (by decide) (by decide) rfl rfl (by decide) (by decide) at_251 (pc' := 254) rfl rfl ?_
          refine go_lstore C (Ls' := #[.val (.int x0), .val (.int x1), .val (.int x2), .val (.long x3), .second, .val (.int (Int32.ofNat R)), .val (.long lim), .second, .val (.int (5 : Int32)), .val (.ref a_360), .val (.int (1 : Int32)), .val (.long (o_minL ((2 : Int64) * ((2 : Int64) * ((2 : Int64) * ((Int32.ofNat R).toInt64)))) lim)), .second]) at_254 (pc' := 256) rfl rfl ?_
          refine go_iload C at_256 (pc' := 258) rfl rfl ?_
          refine go_if0 C (1 : Int) (by decide) at_258 (by decide) (pc' := 284) (by decide) (pcN := 261) rfl (fun (c_482 : (1 : Int) = 0) => by omega) (fun (c_482 : ¬ (1 : Int) = 0) => ?_)
          refine go_aload C at_261 (pc' := 263) rfl rfl rfl ?_
          refine go_virtualP C (as := []) (rest := []) (W := 0) (.long ((32 : Int64) + ((8 : Int64) * ((Int32.ofNat L_456).toInt64)))) (sat_bytes l Z a0 hw a_360 r_454 L_456 _ _ _ F_462 A_465 I_458 (by omega)) E_461 (wd hw 22 rfl) (wd hw 23 rfl) (wd hw 25 rfl) (wd hw 24 rfl) (wd hw 7 rfl) (wd hw 26 rfl) (by decide) pd_4 rfl rfl rfl (by decide) (by decide) rfl rfl (by decide) (by decide) at_263 (pc' := 266) rfl rfl ?_
          refine go_ldc2 C (v := (32 : Int64)) (wd hw 29 rfl) at_266 (pc' := 269) rfl ?_
          refine go_ldc2 C (v := (8 : Int64)) (wd hw 30 rfl) at_269 (pc' := 272) rfl ?_
          refine go_lload C at_272 (pc' := 274) rfl rfl ?_
          refine go_lmul C at_274 (pc' := 275) rfl ?_
          refine go_ladd C at_275 (pc' := 276) rfl ?_
          have hmm := own_min ((2 : Int64) * ((2 : Int64) * ((2 : Int64) * ((Int32.ofNat R).toInt64)))) lim
          have hfin : (Int32.ofNat L_456).toInt64 = o_minL ((2 : Int64) * ((2 : Int64) * ((2 : Int64) * ((Int32.ofNat R).toInt64)))) lim := long_eq (by rw [Int32.toInt_toInt64, own_of (by omega), hmm]; unfold Dd at D_466; omega)
          have hfq : (32 : Int64) + ((8 : Int64) * ((Int32.ofNat L_456).toInt64)) = (32 : Int64) + ((8 : Int64) * (o_minL ((2 : Int64) * ((2 : Int64) * ((2 : Int64) * ((Int32.ofNat R).toInt64)))) lim)) := congrArg (fun z => (32 : Int64) + ((8 : Int64) * z)) hfin
          rw [hfq]
          refine go_lcmp C (((32 : Int64) + ((8 : Int64) * (o_minL ((2 : Int64) * ((2 : Int64) * ((2 : Int64) * ((Int32.ofNat R).toInt64)))) lim))).toInt) (((32 : Int64) + ((8 : Int64) * (o_minL ((2 : Int64) * ((2 : Int64) * ((2 : Int64) * ((Int32.ofNat R).toInt64)))) lim))).toInt) rfl rfl at_276 (pc1 := 277) rfl at_277 (by decide) (pc' := 284) (by decide) (pcN := 280) rfl (fun (c_483 : ¬ (((32 : Int64) + ((8 : Int64) * (o_minL ((2 : Int64) * ((2 : Int64) * ((2 : Int64) * ((Int32.ofNat R).toInt64)))) lim))).toInt) = (((32 : Int64) + ((8 : Int64) * (o_minL ((2 : Int64) * ((2 : Int64) * ((2 : Int64) * ((Int32.ofNat R).toInt64)))) lim))).toInt)) => by omega) (fun (c_483 : (((32 : Int64) + ((8 : Int64) * (o_minL ((2 : Int64) * ((2 : Int64) * ((2 : Int64) * ((Int32.ofNat R).toInt64)))) lim))).toInt) = (((32 : Int64) + ((8 : Int64) * (o_minL ((2 : Int64) * ((2 : Int64) * ((2 : Int64) * ((Int32.ofNat R).toInt64)))) lim))).toInt)) => ?_)
          refine go_iconst C (1 : Int32) at_280 (pc' := 281) rfl (by decide) ?_
          refine go_goto C at_281 (by decide) (pc' := 285) (by decide) ?_
          refine go_ireturnN C (z' := (1 : Int32)) rfl (by simp) rfl at_285 (by decide) (by decide) ?_
          exact ⟨_, rfl, rfl⟩
  · obtain rfl : kk = (6 : Int32) := int_eq (hq.trans (by decide))
    rw [hq] at hkl
    refine go_new C (wd hw 5 rfl) (wd hw 6 rfl) (wd hw 7 rfl) at_33 (pc' := 36) rfl (ce' := 1) (sl' := 7) rfl rfl (by decide) (by decide) ?_
    intro h_484 a_485 g_486 E_487 E_488 D_489
    have g_490 : Z.heap.size ≤ a_485 := own_ge (Nat.le_refl _) g_486
    have z_491 : Z.heap.size ≤ h_484.size := Nat.le_trans (Nat.le_refl _) E_487.1
    have F_492 : Fld Z h_484 a_485 "com/example/throttld/throttld/SlidingLog$Log" "ring" "[J" (.null) := D_489 (Or.inl (wd hw 21 rfl)) (ty := (.array .long)) (by decide)
    have F_493 : Fld Z h_484 a_485 "com/example/throttld/throttld/SlidingLog$Log" "count" "I" (.int (0 : Int32)) := D_489 (Or.inl (wd hw 37 rfl)) (ty := .int) (by decide)
    have F_494 : Fld Z h_484 a_485 "com/example/throttld/throttld/SlidingLog$Log" "head" "I" (.int (0 : Int32)) := D_489 (Or.inl (wd hw 43 rfl)) (ty := .int) (by decide)
    refine go_dup C at_36 (pc' := 37) rfl rfl ?_
    refine go_iload C at_37 (pc' := 39) rfl rfl ?_
    refine go_specialN C (as := [.int (Int32.ofNat R)]) (rest := [.ref a_485]) (W := 1) (sat_init l Z a0 hw a_485 R _ _ hR E_488 F_492 F_494 F_493 g_490 z_491) rfl (wd hw 8 rfl) (wd hw 9 rfl) (wd hw 7 rfl) (wd hw 10 rfl) (by decide) pd_2 rfl rfl rfl (by decide) (by decide) (ce' := 2) (sl' := 1031) rfl rfl (by decide) (by decide) at_39 (pc' := 42) rfl rfl ?_
    intro h_495 q_496
    obtain ⟨r_497, vs_498, g_499, I_500, E_501, F_502, F_503, F_504, A_505⟩ := q_496
    have D_506 : Dd R R 0 lim.toInt := Or.inl ⟨by omega, rfl⟩
    refine go_astore C (Ls' := #[.val (.int x0), .val (.int x1), .val (.int x2), .val (.long x3), .second, .val (.int (Int32.ofNat R)), .val (.long lim), .second, .val (.int (6 : Int32)), .val (.ref a_485), .unset, .unset, .unset]) at_42 (pc' := 44) rfl rfl rfl ?_
    refine go_aload C at_44 (pc' := 46) rfl rfl rfl ?_
    refine go_virtualP C (as := []) (rest := []) (W := 0) (.long ((32 : Int64) + ((8 : Int64) * ((Int32.ofNat R).toInt64)))) (sat_bytes l Z a0 hw a_485 r_497 R _ _ _ F_502 A_505 I_500 (by omega)) E_501 (wd hw 22 rfl) (wd hw 23 rfl) (wd hw 25 rfl) (wd hw 24 rfl) (wd hw 7 rfl) (wd hw 26 rfl) (by decide) pd_4 rfl rfl rfl (by decide) (by decide) rfl rfl (by decide) (by decide) at_46 (pc' := 49) rfl rfl ?_
    refine go_ldc2 C (v := (32 : Int64)) (wd hw 29 rfl) at_49 (pc' := 52) rfl ?_
    refine go_ldc2 C (v := (8 : Int64)) (wd hw 30 rfl) at_52 (pc' := 55) rfl ?_
    refine go_iload C at_55 (pc' := 57) rfl rfl ?_
    refine go_i2l C at_57 (pc' := 58) rfl ?_
    refine go_lmul C at_58 (pc' := 59) rfl ?_
    refine go_ladd C at_59 (pc' := 60) rfl ?_
    refine go_lcmp C (((32 : Int64) + ((8 : Int64) * ((Int32.ofNat R).toInt64))).toInt) (((32 : Int64) + ((8 : Int64) * ((Int32.ofNat R).toInt64))).toInt) rfl rfl at_60 (pc1 := 61) rfl at_61 (by decide) (pc' := 68) (by decide) (pcN := 64) rfl (fun (c_507 : ¬ (((32 : Int64) + ((8 : Int64) * ((Int32.ofNat R).toInt64))).toInt) = (((32 : Int64) + ((8 : Int64) * ((Int32.ofNat R).toInt64))).toInt)) => by omega) (fun (c_507 : (((32 : Int64) + ((8 : Int64) * ((Int32.ofNat R).toInt64))).toInt) = (((32 : Int64) + ((8 : Int64) * ((Int32.ofNat R).toInt64))).toInt)) => ?_)
    refine go_iconst C (1 : Int32) at_64 (pc' := 65) rfl (by decide) ?_
    refine go_goto C at_65 (by decide) (pc' := 69) (by decide) ?_
    refine go_istore C (Ls' := #[.val (.int x0), .val (.int x1), .val (.int x2), .val (.long x3), .second, .val (.int (Int32.ofNat R)), .val (.long lim), .second, .val (.int (6 : Int32)), .val (.ref a_485), .val (.int (1 : Int32)), .unset, .unset]) at_69 (pc' := 71) rfl rfl ?_
    refine go_iload C at_71 (pc' := 73) rfl rfl ?_
    refine go_if0 C (6 : Int) (by decide) at_73 (by decide) (pc' := 84) (by decide) (pcN := 76) rfl (fun (c_508 : ¬ 0 < (6 : Int)) => by omega) (fun (c_508 : 0 < (6 : Int)) => ?_)
    refine go_aload C at_76 (pc' := 78) rfl rfl rfl ?_
    refine go_lloadN C at_78 (pc' := 79) rfl rfl ?_
    refine go_lload C at_79 (pc' := 81) rfl rfl ?_
    refine go_virtualN C (as := [.long x3, .long lim]) (rest := []) (W := 0) (sat_add l Z a0 hw a_485 r_497 x3 lim 0 R _ _ _ (by decide) (by omega) (by omega) (by omega) (by omega) hl2 I_500 ⟨E_501, F_502, F_503, F_504, A_505⟩ g_490 g_499) E_501 (wd hw 31 rfl) (wd hw 32 rfl) (wd hw 34 rfl) (wd hw 33 rfl) (wd hw 7 rfl) (wd hw 35 rfl) (by decide) pd_5 rfl rfl rfl (by decide) (by decide) (ce' := 3) (sl' := 1043) rfl rfl (by decide) (by decide) at_81 (pc' := 84) rfl rfl ?_
    intro h_509 q_510
    obtain ⟨r_511, vs_512, L_513, g_514, I_515, hc_516, rel_517, E_518, F_519, F_520, F_521, A_522⟩ := q_510
    have D_523 : Dd R L_513 1 lim.toInt := Dd_step D_506 hR1 hlR (by decide) (by omega) rel_517 hc_516
    have B_524 := Dd_bound D_523 hR1 hR hlR (by decide)
    clear rel_517 D_506
    refine go_iload C at_84 (pc' := 86) rfl rfl ?_
    refine go_iconst C (1 : Int32) at_86 (pc' := 87) rfl (by decide) ?_
    refine go_icmp C (6 : Int) (1 : Int) (by decide) (by decide) at_87 (by decide) (pc' := 100) (by decide) (pcN := 90) rfl (fun (c_525 : ¬ (1 : Int) < (6 : Int)) => by omega) (fun (c_525 : (1 : Int) < (6 : Int)) => ?_)
    refine go_aload C at_90 (pc' := 92) rfl rfl rfl ?_
    refine go_lloadN C at_92 (pc' := 93) rfl rfl ?_
    refine go_lconst C (1 : Int64) at_93 (pc' := 94) rfl (by decide) ?_
    refine go_ladd C at_94 (pc' := 95) rfl ?_
    refine go_lload C at_95 (pc' := 97) rfl rfl ?_
    refine go_virtualN C (as := [.long (x3 + (1 : Int64)), .long lim]) (rest := []) (W := 0) (sat_add l Z a0 hw a_485 r_511 (x3 + (1 : Int64)) lim 1 L_513 _ _ _ (by decide) (by omega) (by omega) (by omega) (by omega) hl2 I_515 ⟨E_518, F_519, F_520, F_521, A_522⟩ g_490 g_514) E_518 (wd hw 31 rfl) (wd hw 32 rfl) (wd hw 34 rfl) (wd hw 33 rfl) (wd hw 7 rfl) (wd hw 35 rfl) (by decide) pd_5 rfl rfl rfl (by decide) (by decide) (ce' := 4) (sl' := 1055) rfl rfl (by decide) (by decide) at_97 (pc' := 100) rfl rfl ?_
    intro h_526 q_527
    obtain ⟨r_528, vs_529, L_530, g_531, I_532, hc_533, rel_534, E_535, F_536, F_537, F_538, A_539⟩ := q_527
    have D_540 : Dd R L_530 2 lim.toInt := Dd_step D_523 hR1 hlR (by decide) (by omega) rel_534 hc_533
    have B_541 := Dd_bound D_540 hR1 hR hlR (by decide)
    clear rel_534 D_523 hc_516
    refine go_iload C at_100 (pc' := 102) rfl rfl ?_
    refine go_iconst C (2 : Int32) at_102 (pc' := 103) rfl (by decide) ?_
    refine go_icmp C (6 : Int) (2 : Int) (by decide) (by decide) at_103 (by decide) (pc' := 118) (by decide) (pcN := 106) rfl (fun (c_542 : ¬ (2 : Int) < (6 : Int)) => by omega) (fun (c_542 : (2 : Int) < (6 : Int)) => ?_)
    refine go_aload C at_106 (pc' := 108) rfl rfl rfl ?_
    refine go_lloadN C at_108 (pc' := 109) rfl rfl ?_
    refine go_ldc2 C (v := (2 : Int64)) (wd hw 46 rfl) at_109 (pc' := 112) rfl ?_
    refine go_ladd C at_112 (pc' := 113) rfl ?_
    refine go_lload C at_113 (pc' := 115) rfl rfl ?_
    refine go_virtualN C (as := [.long (x3 + (2 : Int64)), .long lim]) (rest := []) (W := 0) (sat_add l Z a0 hw a_485 r_528 (x3 + (2 : Int64)) lim 2 L_530 _ _ _ (by decide) (by omega) (by omega) (by omega) (by omega) hl2 I_532 ⟨E_535, F_536, F_537, F_538, A_539⟩ g_490 g_531) E_535 (wd hw 31 rfl) (wd hw 32 rfl) (wd hw 34 rfl) (wd hw 33 rfl) (wd hw 7 rfl) (wd hw 35 rfl) (by decide) pd_5 rfl rfl rfl (by decide) (by decide) (ce' := 5) (sl' := 1067) rfl rfl (by decide) (by decide) at_115 (pc' := 118) rfl rfl ?_
    intro h_543 q_544
    obtain ⟨r_545, vs_546, L_547, g_548, I_549, hc_550, rel_551, E_552, F_553, F_554, F_555, A_556⟩ := q_544
    have D_557 : Dd R L_547 3 lim.toInt := Dd_step D_540 hR1 hlR (by decide) (by omega) rel_551 hc_550
    have B_558 := Dd_bound D_557 hR1 hR hlR (by decide)
    clear rel_551 D_540 hc_533
    refine go_iload C at_118 (pc' := 120) rfl rfl ?_
    refine go_iconst C (3 : Int32) at_120 (pc' := 121) rfl (by decide) ?_
    refine go_icmp C (6 : Int) (3 : Int) (by decide) (by decide) at_121 (by decide) (pc' := 136) (by decide) (pcN := 124) rfl (fun (c_559 : ¬ (3 : Int) < (6 : Int)) => by omega) (fun (c_559 : (3 : Int) < (6 : Int)) => ?_)
    refine go_aload C at_124 (pc' := 126) rfl rfl rfl ?_
    refine go_lloadN C at_126 (pc' := 127) rfl rfl ?_
    refine go_ldc2 C (v := (3 : Int64)) (wd hw 47 rfl) at_127 (pc' := 130) rfl ?_
    refine go_ladd C at_130 (pc' := 131) rfl ?_
    refine go_lload C at_131 (pc' := 133) rfl rfl ?_
    refine go_virtualN C (as := [.long (x3 + (3 : Int64)), .long lim]) (rest := []) (W := 0) (sat_add l Z a0 hw a_485 r_545 (x3 + (3 : Int64)) lim 3 L_547 _ _ _ (by decide) (by omega) (by omega) (by omega) (by omega) hl2 I_549 ⟨E_552, F_553, F_554, F_555, A_556⟩ g_490 g_548) E_552 (wd hw 31 rfl) (wd hw 32 rfl) (wd hw 34 rfl) (wd hw 33 rfl) (wd hw 7 rfl) (wd hw 35 rfl) (by decide) pd_5 rfl rfl rfl (by decide) (by decide) (ce' := 6) (sl' := 1079) rfl rfl (by decide) (by decide) at_133 (pc' := 136) rfl rfl ?_
    intro h_560 q_561
    obtain ⟨r_562, vs_563, L_564, g_565, I_566, hc_567, rel_568, E_569, F_570, F_571, F_572, A_573⟩ := q_561
    have D_574 : Dd R L_564 4 lim.toInt := Dd_step D_557 hR1 hlR (by decide) (by omega) rel_568 hc_567
    have B_575 := Dd_bound D_574 hR1 hR hlR (by decide)
    clear rel_568 D_557 hc_550
    refine go_iload C at_136 (pc' := 138) rfl rfl ?_
    refine go_iconst C (4 : Int32) at_138 (pc' := 139) rfl (by decide) ?_
    refine go_icmp C (6 : Int) (4 : Int) (by decide) (by decide) at_139 (by decide) (pc' := 154) (by decide) (pcN := 142) rfl (fun (c_576 : ¬ (4 : Int) < (6 : Int)) => by omega) (fun (c_576 : (4 : Int) < (6 : Int)) => ?_)
    refine go_aload C at_142 (pc' := 144) rfl rfl rfl ?_
    refine go_lloadN C at_144 (pc' := 145) rfl rfl ?_
    refine go_ldc2 C (v := (4 : Int64)) (wd hw 48 rfl) at_145 (pc' := 148) rfl ?_
    refine go_ladd C at_148 (pc' := 149) rfl ?_
    refine go_lload C at_149 (pc' := 151) rfl rfl ?_
    refine go_virtualN C (as := [.long (x3 + (4 : Int64)), .long lim]) (rest := []) (W := 0) (sat_add l Z a0 hw a_485 r_562 (x3 + (4 : Int64)) lim 4 L_564 _ _ _ (by decide) (by omega) (by omega) (by omega) (by omega) hl2 I_566 ⟨E_569, F_570, F_571, F_572, A_573⟩ g_490 g_565) E_569 (wd hw 31 rfl) (wd hw 32 rfl) (wd hw 34 rfl) (wd hw 33 rfl) (wd hw 7 rfl) (wd hw 35 rfl) (by decide) pd_5 rfl rfl rfl (by decide) (by decide) (ce' := 7) (sl' := 1091) rfl rfl (by decide) (by decide) at_151 (pc' := 154) rfl rfl ?_
    intro h_577 q_578
    obtain ⟨r_579, vs_580, L_581, g_582, I_583, hc_584, rel_585, E_586, F_587, F_588, F_589, A_590⟩ := q_578
    have D_591 : Dd R L_581 5 lim.toInt := Dd_step D_574 hR1 hlR (by decide) (by omega) rel_585 hc_584
    have B_592 := Dd_bound D_591 hR1 hR hlR (by decide)
    clear rel_585 D_574 hc_567
    refine go_iload C at_154 (pc' := 156) rfl rfl ?_
    refine go_iconst C (5 : Int32) at_156 (pc' := 157) rfl (by decide) ?_
    refine go_icmp C (6 : Int) (5 : Int) (by decide) (by decide) at_157 (by decide) (pc' := 172) (by decide) (pcN := 160) rfl (fun (c_593 : ¬ (5 : Int) < (6 : Int)) => by omega) (fun (c_593 : (5 : Int) < (6 : Int)) => ?_)
    refine go_aload C at_160 (pc' := 162) rfl rfl rfl ?_
    refine go_lloadN C at_162 (pc' := 163) rfl rfl ?_
    refine go_ldc2 C (v := (5 : Int64)) (wd hw 49 rfl) at_163 (pc' := 166) rfl ?_
    refine go_ladd C at_166 (pc' := 167) rfl ?_
    refine go_lload C at_167 (pc' := 169) rfl rfl ?_
    refine go_virtualN C (as := [.long (x3 + (5 : Int64)), .long lim]) (rest := []) (W := 0) (sat_add l Z a0 hw a_485 r_579 (x3 + (5 : Int64)) lim 5 L_581 _ _ _ (by decide) (by omega) (by omega) (by omega) (by omega) hl2 I_583 ⟨E_586, F_587, F_588, F_589, A_590⟩ g_490 g_582) E_586 (wd hw 31 rfl) (wd hw 32 rfl) (wd hw 34 rfl) (wd hw 33 rfl) (wd hw 7 rfl) (wd hw 35 rfl) (by decide) pd_5 rfl rfl rfl (by decide) (by decide) (ce' := 8) (sl' := 1103) rfl rfl (by decide) (by decide) at_169 (pc' := 172) rfl rfl ?_
    intro h_594 q_595
    obtain ⟨r_596, vs_597, L_598, g_599, I_600, hc_601, rel_602, E_603, F_604, F_605, F_606, A_607⟩ := q_595
    have D_608 : Dd R L_598 6 lim.toInt := Dd_step D_591 hR1 hlR (by decide) (by omega) rel_602 hc_601
    have B_609 := Dd_bound D_608 hR1 hR hlR (by decide)
    clear rel_602 D_591 hc_584
    refine go_iload C at_172 (pc' := 174) rfl rfl ?_
    refine go_bipush C (6 : Int32) at_174 (pc' := 176) rfl (by decide) ?_
    refine go_icmp C (6 : Int) (6 : Int) (by decide) (by decide) at_176 (by decide) (pc' := 191) (by decide) (pcN := 179) rfl (fun (c_610 : ¬ (6 : Int) < (6 : Int)) => ?_) (fun (c_610 : (6 : Int) < (6 : Int)) => by omega)
    refine go_iload C at_191 (pc' := 193) rfl rfl ?_
    refine go_i2l C at_193 (pc' := 194) rfl ?_
    refine go_lstore C (Ls' := #[.val (.int x0), .val (.int x1), .val (.int x2), .val (.long x3), .second, .val (.int (Int32.ofNat R)), .val (.long lim), .second, .val (.int (6 : Int32)), .val (.ref a_485), .val (.int (1 : Int32)), .val (.long ((Int32.ofNat R).toInt64)), .second]) at_194 (pc' := 196) rfl rfl ?_
    refine go_lload C at_196 (pc' := 198) rfl rfl ?_
    refine go_iload C at_198 (pc' := 200) rfl rfl ?_
    refine go_i2l C at_200 (pc' := 201) rfl ?_
    rw [(by decide : (6 : Int32).toInt64 = (6 : Int64))]
    refine go_lcmp C (1 * (R : Int)) (6 : Int) e0 (by decide) at_201 (pc1 := 202) rfl at_202 (by decide) (pc' := 213) (by decide) (pcN := 205) rfl (fun (c_611 : ¬ (1 * (R : Int)) < (6 : Int)) => ?_) (fun (c_611 : (1 * (R : Int)) < (6 : Int)) => ?_)
    · skip
      refine go_lload C at_213 (pc' := 215) rfl rfl ?_
      refine go_iload C at_215 (pc' := 217) rfl rfl ?_
      refine go_i2l C at_217 (pc' := 218) rfl ?_
      rw [(by decide : (6 : Int32).toInt64 = (6 : Int64))]
      refine go_lcmp C (1 * (R : Int)) (6 : Int) e0 (by decide) at_218 (pc1 := 219) rfl at_219 (by decide) (pc' := 230) (by decide) (pcN := 222) rfl (fun (c_612 : ¬ (1 * (R : Int)) < (6 : Int)) => ?_) (fun (c_612 : (1 * (R : Int)) < (6 : Int)) => by omega)
      refine go_lload C at_230 (pc' := 232) rfl rfl ?_
      refine go_iload C at_232 (pc' := 234) rfl rfl ?_
      refine go_i2l C at_234 (pc' := 235) rfl ?_
      rw [(by decide : (6 : Int32).toInt64 = (6 : Int64))]
      refine go_lcmp C (1 * (R : Int)) (6 : Int) e0 (by decide) at_235 (pc1 := 236) rfl at_236 (by decide) (pc' := 247) (by decide) (pcN := 239) rfl (fun (c_613 : ¬ (1 * (R : Int)) < (6 : Int)) => ?_) (fun (c_613 : (1 * (R : Int)) < (6 : Int)) => by omega)
      refine go_lload C at_247 (pc' := 249) rfl rfl ?_
      refine go_lload C at_249 (pc' := 251) rfl rfl ?_
      refine go_staticP C (as := [.long ((Int32.ofNat R).toInt64), .long lim]) (rest := []) (W := 0) (.long (o_minL ((Int32.ofNat R).toInt64) lim)) (sat_minL l Z a0 hw ((Int32.ofNat R).toInt64) lim (o_minL ((Int32.ofNat R).toInt64) lim) _ _ rfl) (wd hw 1 rfl) (wd hw 2 rfl) (wd hw 3 rfl) (wd hw 4 rfl) (by decide) pd_1 rfl rfl rfl (by decide) (by decide) rfl rfl (by decide) (by decide) at_251 (pc' := 254) rfl rfl ?_
      refine go_lstore C (Ls' := #[.val (.int x0), .val (.int x1), .val (.int x2), .val (.long x3), .second, .val (.int (Int32.ofNat R)), .val (.long lim), .second, .val (.int (6 : Int32)), .val (.ref a_485), .val (.int (1 : Int32)), .val (.long (o_minL ((Int32.ofNat R).toInt64) lim)), .second]) at_254 (pc' := 256) rfl rfl ?_
      refine go_iload C at_256 (pc' := 258) rfl rfl ?_
      refine go_if0 C (1 : Int) (by decide) at_258 (by decide) (pc' := 284) (by decide) (pcN := 261) rfl (fun (c_614 : (1 : Int) = 0) => by omega) (fun (c_614 : ¬ (1 : Int) = 0) => ?_)
      refine go_aload C at_261 (pc' := 263) rfl rfl rfl ?_
      refine go_virtualP C (as := []) (rest := []) (W := 0) (.long ((32 : Int64) + ((8 : Int64) * ((Int32.ofNat L_598).toInt64)))) (sat_bytes l Z a0 hw a_485 r_596 L_598 _ _ _ F_604 A_607 I_600 (by omega)) E_603 (wd hw 22 rfl) (wd hw 23 rfl) (wd hw 25 rfl) (wd hw 24 rfl) (wd hw 7 rfl) (wd hw 26 rfl) (by decide) pd_4 rfl rfl rfl (by decide) (by decide) rfl rfl (by decide) (by decide) at_263 (pc' := 266) rfl rfl ?_
      refine go_ldc2 C (v := (32 : Int64)) (wd hw 29 rfl) at_266 (pc' := 269) rfl ?_
      refine go_ldc2 C (v := (8 : Int64)) (wd hw 30 rfl) at_269 (pc' := 272) rfl ?_
      refine go_lload C at_272 (pc' := 274) rfl rfl ?_
      refine go_lmul C at_274 (pc' := 275) rfl ?_
      refine go_ladd C at_275 (pc' := 276) rfl ?_
      have hmm := own_min ((Int32.ofNat R).toInt64) lim
      have hfin : (Int32.ofNat L_598).toInt64 = o_minL ((Int32.ofNat R).toInt64) lim := long_eq (by rw [Int32.toInt_toInt64, own_of (by omega), hmm]; unfold Dd at D_608; omega)
      have hfq : (32 : Int64) + ((8 : Int64) * ((Int32.ofNat L_598).toInt64)) = (32 : Int64) + ((8 : Int64) * (o_minL ((Int32.ofNat R).toInt64) lim)) := congrArg (fun z => (32 : Int64) + ((8 : Int64) * z)) hfin
      rw [hfq]
      refine go_lcmp C (((32 : Int64) + ((8 : Int64) * (o_minL ((Int32.ofNat R).toInt64) lim))).toInt) (((32 : Int64) + ((8 : Int64) * (o_minL ((Int32.ofNat R).toInt64) lim))).toInt) rfl rfl at_276 (pc1 := 277) rfl at_277 (by decide) (pc' := 284) (by decide) (pcN := 280) rfl (fun (c_615 : ¬ (((32 : Int64) + ((8 : Int64) * (o_minL ((Int32.ofNat R).toInt64) lim))).toInt) = (((32 : Int64) + ((8 : Int64) * (o_minL ((Int32.ofNat R).toInt64) lim))).toInt)) => by omega) (fun (c_615 : (((32 : Int64) + ((8 : Int64) * (o_minL ((Int32.ofNat R).toInt64) lim))).toInt) = (((32 : Int64) + ((8 : Int64) * (o_minL ((Int32.ofNat R).toInt64) lim))).toInt)) => ?_)
      refine go_iconst C (1 : Int32) at_280 (pc' := 281) rfl (by decide) ?_
      refine go_goto C at_281 (by decide) (pc' := 285) (by decide) ?_
      refine go_ireturnN C (z' := (1 : Int32)) rfl (by simp) rfl at_285 (by decide) (by decide) ?_
      exact ⟨_, rfl, rfl⟩
    · skip
      refine go_ldc2 C (v := (2 : Int64)) (wd hw 46 rfl) at_205 (pc' := 208) rfl ?_
      refine go_lload C at_208 (pc' := 210) rfl rfl ?_
      refine go_lmul C at_210 (pc' := 211) rfl ?_
      refine go_lstore C (Ls' := #[.val (.int x0), .val (.int x1), .val (.int x2), .val (.long x3), .second, .val (.int (Int32.ofNat R)), .val (.long lim), .second, .val (.int (6 : Int32)), .val (.ref a_485), .val (.int (1 : Int32)), .val (.long ((2 : Int64) * ((Int32.ofNat R).toInt64))), .second]) at_211 (pc' := 213) rfl rfl ?_
      refine go_lload C at_213 (pc' := 215) rfl rfl ?_
      refine go_iload C at_215 (pc' := 217) rfl rfl ?_
      refine go_i2l C at_217 (pc' := 218) rfl ?_
      rw [(by decide : (6 : Int32).toInt64 = (6 : Int64))]
      refine go_lcmp C (2 * (R : Int)) (6 : Int) e1 (by decide) at_218 (pc1 := 219) rfl at_219 (by decide) (pc' := 230) (by decide) (pcN := 222) rfl (fun (c_616 : ¬ (2 * (R : Int)) < (6 : Int)) => ?_) (fun (c_616 : (2 * (R : Int)) < (6 : Int)) => ?_)
      · skip
        refine go_lload C at_230 (pc' := 232) rfl rfl ?_
        refine go_iload C at_232 (pc' := 234) rfl rfl ?_
        refine go_i2l C at_234 (pc' := 235) rfl ?_
        rw [(by decide : (6 : Int32).toInt64 = (6 : Int64))]
        refine go_lcmp C (2 * (R : Int)) (6 : Int) e1 (by decide) at_235 (pc1 := 236) rfl at_236 (by decide) (pc' := 247) (by decide) (pcN := 239) rfl (fun (c_617 : ¬ (2 * (R : Int)) < (6 : Int)) => ?_) (fun (c_617 : (2 * (R : Int)) < (6 : Int)) => by omega)
        refine go_lload C at_247 (pc' := 249) rfl rfl ?_
        refine go_lload C at_249 (pc' := 251) rfl rfl ?_
        refine go_staticP C (as := [.long ((2 : Int64) * ((Int32.ofNat R).toInt64)), .long lim]) (rest := []) (W := 0) (.long (o_minL ((2 : Int64) * ((Int32.ofNat R).toInt64)) lim)) (sat_minL l Z a0 hw ((2 : Int64) * ((Int32.ofNat R).toInt64)) lim (o_minL ((2 : Int64) * ((Int32.ofNat R).toInt64)) lim) _ _ rfl) (wd hw 1 rfl) (wd hw 2 rfl) (wd hw 3 rfl) (wd hw 4 rfl) (by decide) pd_1 rfl rfl rfl (by decide) (by decide) rfl rfl (by decide) (by decide) at_251 (pc' := 254) rfl rfl ?_
        refine go_lstore C (Ls' := #[.val (.int x0), .val (.int x1), .val (.int x2), .val (.long x3), .second, .val (.int (Int32.ofNat R)), .val (.long lim), .second, .val (.int (6 : Int32)), .val (.ref a_485), .val (.int (1 : Int32)), .val (.long (o_minL ((2 : Int64) * ((Int32.ofNat R).toInt64)) lim)), .second]) at_254 (pc' := 256) rfl rfl ?_
        refine go_iload C at_256 (pc' := 258) rfl rfl ?_
        refine go_if0 C (1 : Int) (by decide) at_258 (by decide) (pc' := 284) (by decide) (pcN := 261) rfl (fun (c_618 : (1 : Int) = 0) => by omega) (fun (c_618 : ¬ (1 : Int) = 0) => ?_)
        refine go_aload C at_261 (pc' := 263) rfl rfl rfl ?_
        refine go_virtualP C (as := []) (rest := []) (W := 0) (.long ((32 : Int64) + ((8 : Int64) * ((Int32.ofNat L_598).toInt64)))) (sat_bytes l Z a0 hw a_485 r_596 L_598 _ _ _ F_604 A_607 I_600 (by omega)) E_603 (wd hw 22 rfl) (wd hw 23 rfl) (wd hw 25 rfl) (wd hw 24 rfl) (wd hw 7 rfl) (wd hw 26 rfl) (by decide) pd_4 rfl rfl rfl (by decide) (by decide) rfl rfl (by decide) (by decide) at_263 (pc' := 266) rfl rfl ?_
        refine go_ldc2 C (v := (32 : Int64)) (wd hw 29 rfl) at_266 (pc' := 269) rfl ?_
        refine go_ldc2 C (v := (8 : Int64)) (wd hw 30 rfl) at_269 (pc' := 272) rfl ?_
        refine go_lload C at_272 (pc' := 274) rfl rfl ?_
        refine go_lmul C at_274 (pc' := 275) rfl ?_
        refine go_ladd C at_275 (pc' := 276) rfl ?_
        have hmm := own_min ((2 : Int64) * ((Int32.ofNat R).toInt64)) lim
        have hfin : (Int32.ofNat L_598).toInt64 = o_minL ((2 : Int64) * ((Int32.ofNat R).toInt64)) lim := long_eq (by rw [Int32.toInt_toInt64, own_of (by omega), hmm]; unfold Dd at D_608; omega)
        have hfq : (32 : Int64) + ((8 : Int64) * ((Int32.ofNat L_598).toInt64)) = (32 : Int64) + ((8 : Int64) * (o_minL ((2 : Int64) * ((Int32.ofNat R).toInt64)) lim)) := congrArg (fun z => (32 : Int64) + ((8 : Int64) * z)) hfin
        rw [hfq]
        refine go_lcmp C (((32 : Int64) + ((8 : Int64) * (o_minL ((2 : Int64) * ((Int32.ofNat R).toInt64)) lim))).toInt) (((32 : Int64) + ((8 : Int64) * (o_minL ((2 : Int64) * ((Int32.ofNat R).toInt64)) lim))).toInt) rfl rfl at_276 (pc1 := 277) rfl at_277 (by decide) (pc' := 284) (by decide) (pcN := 280) rfl (fun (c_619 : ¬ (((32 : Int64) + ((8 : Int64) * (o_minL ((2 : Int64) * ((Int32.ofNat R).toInt64)) lim))).toInt) = (((32 : Int64) + ((8 : Int64) * (o_minL ((2 : Int64) * ((Int32.ofNat R).toInt64)) lim))).toInt)) => by omega) (fun (c_619 : (((32 : Int64) + ((8 : Int64) * (o_minL ((2 : Int64) * ((Int32.ofNat R).toInt64)) lim))).toInt) = (((32 : Int64) + ((8 : Int64) * (o_minL ((2 : Int64) * ((Int32.ofNat R).toInt64)) lim))).toInt)) => ?_)
        refine go_iconst C (1 : Int32) at_280 (pc' := 281) rfl (by decide) ?_
        refine go_goto C at_281 (by decide) (pc' := 285) (by decide) ?_
        refine go_ireturnN C (z' := (1 : Int32)) rfl (by simp) rfl at_285 (by decide) (by decide) ?_
        exact ⟨_, rfl, rfl⟩
      · skip
        refine go_ldc2 C (v := (2 : Int64)) (wd hw 46 rfl) at_222 (pc' := 225) rfl ?_
        refine go_lload C at_225 (pc' := 227) rfl rfl ?_
        refine go_lmul C at_227 (pc' := 228) rfl ?_
        refine go_lstore C (Ls' := #[.val (.int x0), .val (.int x1), .val (.int x2), .val (.long x3), .second, .val (.int (Int32.ofNat R)), .val (.long lim), .second, .val (.int (6 : Int32)), .val (.ref a_485), .val (.int (1 : Int32)), .val (.long ((2 : Int64) * ((2 : Int64) * ((Int32.ofNat R).toInt64)))), .second]) at_228 (pc' := 230) rfl rfl ?_
        refine go_lload C at_230 (pc' := 232) rfl rfl ?_
        refine go_iload C at_232 (pc' := 234) rfl rfl ?_
        refine go_i2l C at_234 (pc' := 235) rfl ?_
        rw [(by decide : (6 : Int32).toInt64 = (6 : Int64))]
        refine go_lcmp C (4 * (R : Int)) (6 : Int) e2 (by decide) at_235 (pc1 := 236) rfl at_236 (by decide) (pc' := 247) (by decide) (pcN := 239) rfl (fun (c_620 : ¬ (4 * (R : Int)) < (6 : Int)) => ?_) (fun (c_620 : (4 * (R : Int)) < (6 : Int)) => ?_)
        · skip
          refine go_lload C at_247 (pc' := 249) rfl rfl ?_
          refine go_lload C at_249 (pc' := 251) rfl rfl ?_
          refine go_staticP C (as := [.long ((2 : Int64) * ((2 : Int64) * ((Int32.ofNat R).toInt64))), .long lim]) (rest := []) (W := 0) (.long (o_minL ((2 : Int64) * ((2 : Int64) * ((Int32.ofNat R).toInt64))) lim)) (sat_minL l Z a0 hw ((2 : Int64) * ((2 : Int64) * ((Int32.ofNat R).toInt64))) lim (o_minL ((2 : Int64) * ((2 : Int64) * ((Int32.ofNat R).toInt64))) lim) _ _ rfl) (wd hw 1 rfl) (wd hw 2 rfl) (wd hw 3 rfl) (wd hw 4 rfl) (by decide) pd_1 rfl rfl rfl (by decide) (by decide) rfl rfl (by decide) (by decide) at_251 (pc' := 254) rfl rfl ?_
          refine go_lstore C (Ls' := #[.val (.int x0), .val (.int x1), .val (.int x2), .val (.long x3), .second, .val (.int (Int32.ofNat R)), .val (.long lim), .second, .val (.int (6 : Int32)), .val (.ref a_485), .val (.int (1 : Int32)), .val (.long (o_minL ((2 : Int64) * ((2 : Int64) * ((Int32.ofNat R).toInt64))) lim)), .second]) at_254 (pc' := 256) rfl rfl ?_
          refine go_iload C at_256 (pc' := 258) rfl rfl ?_
          refine go_if0 C (1 : Int) (by decide) at_258 (by decide) (pc' := 284) (by decide) (pcN := 261) rfl (fun (c_621 : (1 : Int) = 0) => by omega) (fun (c_621 : ¬ (1 : Int) = 0) => ?_)
          refine go_aload C at_261 (pc' := 263) rfl rfl rfl ?_
          refine go_virtualP C (as := []) (rest := []) (W := 0) (.long ((32 : Int64) + ((8 : Int64) * ((Int32.ofNat L_598).toInt64)))) (sat_bytes l Z a0 hw a_485 r_596 L_598 _ _ _ F_604 A_607 I_600 (by omega)) E_603 (wd hw 22 rfl) (wd hw 23 rfl) (wd hw 25 rfl) (wd hw 24 rfl) (wd hw 7 rfl) (wd hw 26 rfl) (by decide) pd_4 rfl rfl rfl (by decide) (by decide) rfl rfl (by decide) (by decide) at_263 (pc' := 266) rfl rfl ?_
          refine go_ldc2 C (v := (32 : Int64)) (wd hw 29 rfl) at_266 (pc' := 269) rfl ?_
          refine go_ldc2 C (v := (8 : Int64)) (wd hw 30 rfl) at_269 (pc' := 272) rfl ?_
          refine go_lload C at_272 (pc' := 274) rfl rfl ?_
          refine go_lmul C at_274 (pc' := 275) rfl ?_
          refine go_ladd C at_275 (pc' := 276) rfl ?_
          have hmm := own_min ((2 : Int64) * ((2 : Int64) * ((Int32.ofNat R).toInt64))) lim
          have hfin : (Int32.ofNat L_598).toInt64 = o_minL ((2 : Int64) * ((2 : Int64) * ((Int32.ofNat R).toInt64))) lim := long_eq (by rw [Int32.toInt_toInt64, own_of (by omega), hmm]; unfold Dd at D_608; omega)
          have hfq : (32 : Int64) + ((8 : Int64) * ((Int32.ofNat L_598).toInt64)) = (32 : Int64) + ((8 : Int64) * (o_minL ((2 : Int64) * ((2 : Int64) * ((Int32.ofNat R).toInt64))) lim)) := congrArg (fun z => (32 : Int64) + ((8 : Int64) * z)) hfin
          rw [hfq]
          refine go_lcmp C (((32 : Int64) + ((8 : Int64) * (o_minL ((2 : Int64) * ((2 : Int64) * ((Int32.ofNat R).toInt64))) lim))).toInt) (((32 : Int64) + ((8 : Int64) * (o_minL ((2 : Int64) * ((2 : Int64) * ((Int32.ofNat R).toInt64))) lim))).toInt) rfl rfl at_276 (pc1 := 277) rfl at_277 (by decide) (pc' := 284) (by decide) (pcN := 280) rfl (fun (c_622 : ¬ (((32 : Int64) + ((8 : Int64) * (o_minL ((2 : Int64) * ((2 : Int64) * ((Int32.ofNat R).toInt64))) lim))).toInt) = (((32 : Int64) + ((8 : Int64) * (o_minL ((2 : Int64) * ((2 : Int64) * ((Int32.ofNat R).toInt64))) lim))).toInt)) => by omega) (fun (c_622 : (((32 : Int64) + ((8 : Int64) * (o_minL ((2 : Int64) * ((2 : Int64) * ((Int32.ofNat R).toInt64))) lim))).toInt) = (((32 : Int64) + ((8 : Int64) * (o_minL ((2 : Int64) * ((2 : Int64) * ((Int32.ofNat R).toInt64))) lim))).toInt)) => ?_)
          refine go_iconst C (1 : Int32) at_280 (pc' := 281) rfl (by decide) ?_
          refine go_goto C at_281 (by decide) (pc' := 285) (by decide) ?_
          refine go_ireturnN C (z' := (1 : Int32)) rfl (by simp) rfl at_285 (by decide) (by decide) ?_
          exact ⟨_, rfl, rfl⟩
        · skip
          refine go_ldc2 C (v := (2 : Int64)) (wd hw 46 rfl) at_239 (pc' := 242) rfl ?_
          refine go_lload C at_242 (pc' := 244) rfl rfl ?_
          refine go_lmul C at_244 (pc' := 245) rfl ?_
          refine go_lstore C (Ls' := #[.val (.int x0), .val (.int x1), .val (.int x2), .val (.long x3), .second, .val (.int (Int32.ofNat R)), .val (.long lim), .second, .val (.int (6 : Int32)), .val (.ref a_485), .val (.int (1 : Int32)), .val (.long ((2 : Int64) * ((2 : Int64) * ((2 : Int64) * ((Int32.ofNat R).toInt64))))), .second]) at_245 (pc' := 247) rfl rfl ?_
          refine go_lload C at_247 (pc' := 249) rfl rfl ?_
          refine go_lload C at_249 (pc' := 251) rfl rfl ?_
          refine go_staticP C (as := [.long ((2 : Int64) * ((2 : Int64) * ((2 : Int64) * ((Int32.ofNat R).toInt64)))), .long lim]) (rest := []) (W := 0) (.long (o_minL ((2 : Int64) * ((2 : Int64) * ((2 : Int64) * ((Int32.ofNat R).toInt64)))) lim)) (sat_minL l Z a0 hw ((2 : Int64) * ((2 : Int64) * ((2 : Int64) * ((Int32.ofNat R).toInt64)))) lim (o_minL ((2 : Int64) * ((2 : Int64) * ((2 : Int64) * ((Int32.ofNat R).toInt64)))) lim) _ _ rfl) (wd hw 1 rfl) (wd hw 2 rfl) (wd hw 3 rfl) (wd hw 4 rfl) (by decide) pd_1 rfl rfl rfl (by decide) (by decide) rfl rfl (by decide) (by decide) at_251 (pc' := 254) rfl rfl ?_
          refine go_lstore C (Ls' := #[.val (.int x0), .val (.int x1), .val (.int x2), .val (.long x3), .second, .val (.int (Int32.ofNat R)), .val (.long lim), .second, .val (.int (6 : Int32)), .val (.ref a_485), .val (.int (1 : Int32)), .val (.long (o_minL ((2 : Int64) * ((2 : Int64) * ((2 : Int64) * ((Int32.ofNat R).toInt64)))) lim)), .second]) at_254 (pc' := 256) rfl rfl ?_
          refine go_iload C at_256 (pc' := 258) rfl rfl ?_
          refine go_if0 C (1 : Int) (by decide) at_258 (by decide) (pc' := 284) (by decide) (pcN := 261) rfl (fun (c_623 : (1 : Int) = 0) => by omega) (fun (c_623 : ¬ (1 : Int) = 0) => ?_)
          refine go_aload C at_261 (pc' := 263) rfl rfl rfl ?_
          refine go_virtualP C (as := []) (rest := []) (W := 0) (.long ((32 : Int64) + ((8 : Int64) * ((Int32.ofNat L_598).toInt64)))) (sat_bytes l Z a0 hw a_485 r_596 L_598 _ _ _ F_604 A_607 I_600 (by omega)) E_603 (wd hw 22 rfl) (wd hw 23 rfl) (wd hw 25 rfl) (wd hw 24 rfl) (wd hw 7 rfl) (wd hw 26 rfl) (by decide) pd_4 rfl rfl rfl (by decide) (by decide) rfl rfl (by decide) (by decide) at_263 (pc' := 266) rfl rfl ?_
          refine go_ldc2 C (v := (32 : Int64)) (wd hw 29 rfl) at_266 (pc' := 269) rfl ?_
          refine go_ldc2 C (v := (8 : Int64)) (wd hw 30 rfl) at_269 (pc' := 272) rfl ?_
          refine go_lload C at_272 (pc' := 274) rfl rfl ?_
          refine go_lmul C at_274 (pc' := 275) rfl ?_
          refine go_ladd C at_275 (pc' := 276) rfl ?_
          have hmm := own_min ((2 : Int64) * ((2 : Int64) * ((2 : Int64) * ((Int32.ofNat R).toInt64)))) lim
          have hfin : (Int32.ofNat L_598).toInt64 = o_minL ((2 : Int64) * ((2 : Int64) * ((2 : Int64) * ((Int32.ofNat R).toInt64)))) lim := long_eq (by rw [Int32.toInt_toInt64, own_of (by omega), hmm]; unfold Dd at D_608; omega)
          have hfq : (32 : Int64) + ((8 : Int64) * ((Int32.ofNat L_598).toInt64)) = (32 : Int64) + ((8 : Int64) * (o_minL ((2 : Int64) * ((2 : Int64) * ((2 : Int64) * ((Int32.ofNat R).toInt64)))) lim)) := congrArg (fun z => (32 : Int64) + ((8 : Int64) * z)) hfin
          rw [hfq]
          refine go_lcmp C (((32 : Int64) + ((8 : Int64) * (o_minL ((2 : Int64) * ((2 : Int64) * ((2 : Int64) * ((Int32.ofNat R).toInt64)))) lim))).toInt) (((32 : Int64) + ((8 : Int64) * (o_minL ((2 : Int64) * ((2 : Int64) * ((2 : Int64) * ((Int32.ofNat R).toInt64)))) lim))).toInt) rfl rfl at_276 (pc1 := 277) rfl at_277 (by decide) (pc' := 284) (by decide) (pcN := 280) rfl (fun (c_624 : ¬ (((32 : Int64) + ((8 : Int64) * (o_minL ((2 : Int64) * ((2 : Int64) * ((2 : Int64) * ((Int32.ofNat R).toInt64)))) lim))).toInt) = (((32 : Int64) + ((8 : Int64) * (o_minL ((2 : Int64) * ((2 : Int64) * ((2 : Int64) * ((Int32.ofNat R).toInt64)))) lim))).toInt)) => by omega) (fun (c_624 : (((32 : Int64) + ((8 : Int64) * (o_minL ((2 : Int64) * ((2 : Int64) * ((2 : Int64) * ((Int32.ofNat R).toInt64)))) lim))).toInt) = (((32 : Int64) + ((8 : Int64) * (o_minL ((2 : Int64) * ((2 : Int64) * ((2 : Int64) * ((Int32.ofNat R).toInt64)))) lim))).toInt)) => ?_)
          refine go_iconst C (1 : Int32) at_280 (pc' := 281) rfl (by decide) ?_
          refine go_goto C at_281 (by decide) (pc' := 285) (by decide) ?_
          refine go_ireturnN C (z' := (1 : Int32)) rfl (by simp) rfl at_285 (by decide) (by decide) ?_
          exact ⟨_, rfl, rfl⟩
  · obtain rfl : kk = (7 : Int32) := int_eq (hq.trans (by decide))
    rw [hq] at hkl
    refine go_new C (wd hw 5 rfl) (wd hw 6 rfl) (wd hw 7 rfl) at_33 (pc' := 36) rfl (ce' := 1) (sl' := 7) rfl rfl (by decide) (by decide) ?_
    intro h_625 a_626 g_627 E_628 E_629 D_630
    have g_631 : Z.heap.size ≤ a_626 := own_ge (Nat.le_refl _) g_627
    have z_632 : Z.heap.size ≤ h_625.size := Nat.le_trans (Nat.le_refl _) E_628.1
    have F_633 : Fld Z h_625 a_626 "com/example/throttld/throttld/SlidingLog$Log" "ring" "[J" (.null) := D_630 (Or.inl (wd hw 21 rfl)) (ty := (.array .long)) (by decide)
    have F_634 : Fld Z h_625 a_626 "com/example/throttld/throttld/SlidingLog$Log" "count" "I" (.int (0 : Int32)) := D_630 (Or.inl (wd hw 37 rfl)) (ty := .int) (by decide)
    have F_635 : Fld Z h_625 a_626 "com/example/throttld/throttld/SlidingLog$Log" "head" "I" (.int (0 : Int32)) := D_630 (Or.inl (wd hw 43 rfl)) (ty := .int) (by decide)
    refine go_dup C at_36 (pc' := 37) rfl rfl ?_
    refine go_iload C at_37 (pc' := 39) rfl rfl ?_
    refine go_specialN C (as := [.int (Int32.ofNat R)]) (rest := [.ref a_626]) (W := 1) (sat_init l Z a0 hw a_626 R _ _ hR E_629 F_633 F_635 F_634 g_631 z_632) rfl (wd hw 8 rfl) (wd hw 9 rfl) (wd hw 7 rfl) (wd hw 10 rfl) (by decide) pd_2 rfl rfl rfl (by decide) (by decide) (ce' := 2) (sl' := 1031) rfl rfl (by decide) (by decide) at_39 (pc' := 42) rfl rfl ?_
    intro h_636 q_637
    obtain ⟨r_638, vs_639, g_640, I_641, E_642, F_643, F_644, F_645, A_646⟩ := q_637
    have D_647 : Dd R R 0 lim.toInt := Or.inl ⟨by omega, rfl⟩
    refine go_astore C (Ls' := #[.val (.int x0), .val (.int x1), .val (.int x2), .val (.long x3), .second, .val (.int (Int32.ofNat R)), .val (.long lim), .second, .val (.int (7 : Int32)), .val (.ref a_626), .unset, .unset, .unset]) at_42 (pc' := 44) rfl rfl rfl ?_
    refine go_aload C at_44 (pc' := 46) rfl rfl rfl ?_
    refine go_virtualP C (as := []) (rest := []) (W := 0) (.long ((32 : Int64) + ((8 : Int64) * ((Int32.ofNat R).toInt64)))) (sat_bytes l Z a0 hw a_626 r_638 R _ _ _ F_643 A_646 I_641 (by omega)) E_642 (wd hw 22 rfl) (wd hw 23 rfl) (wd hw 25 rfl) (wd hw 24 rfl) (wd hw 7 rfl) (wd hw 26 rfl) (by decide) pd_4 rfl rfl rfl (by decide) (by decide) rfl rfl (by decide) (by decide) at_46 (pc' := 49) rfl rfl ?_
    refine go_ldc2 C (v := (32 : Int64)) (wd hw 29 rfl) at_49 (pc' := 52) rfl ?_
    refine go_ldc2 C (v := (8 : Int64)) (wd hw 30 rfl) at_52 (pc' := 55) rfl ?_
    refine go_iload C at_55 (pc' := 57) rfl rfl ?_
    refine go_i2l C at_57 (pc' := 58) rfl ?_
    refine go_lmul C at_58 (pc' := 59) rfl ?_
    refine go_ladd C at_59 (pc' := 60) rfl ?_
    refine go_lcmp C (((32 : Int64) + ((8 : Int64) * ((Int32.ofNat R).toInt64))).toInt) (((32 : Int64) + ((8 : Int64) * ((Int32.ofNat R).toInt64))).toInt) rfl rfl at_60 (pc1 := 61) rfl at_61 (by decide) (pc' := 68) (by decide) (pcN := 64) rfl (fun (c_648 : ¬ (((32 : Int64) + ((8 : Int64) * ((Int32.ofNat R).toInt64))).toInt) = (((32 : Int64) + ((8 : Int64) * ((Int32.ofNat R).toInt64))).toInt)) => by omega) (fun (c_648 : (((32 : Int64) + ((8 : Int64) * ((Int32.ofNat R).toInt64))).toInt) = (((32 : Int64) + ((8 : Int64) * ((Int32.ofNat R).toInt64))).toInt)) => ?_)
    refine go_iconst C (1 : Int32) at_64 (pc' := 65) rfl (by decide) ?_
    refine go_goto C at_65 (by decide) (pc' := 69) (by decide) ?_
    refine go_istore C (Ls' := #[.val (.int x0), .val (.int x1), .val (.int x2), .val (.long x3), .second, .val (.int (Int32.ofNat R)), .val (.long lim), .second, .val (.int (7 : Int32)), .val (.ref a_626), .val (.int (1 : Int32)), .unset, .unset]) at_69 (pc' := 71) rfl rfl ?_
    refine go_iload C at_71 (pc' := 73) rfl rfl ?_
    refine go_if0 C (7 : Int) (by decide) at_73 (by decide) (pc' := 84) (by decide) (pcN := 76) rfl (fun (c_649 : ¬ 0 < (7 : Int)) => by omega) (fun (c_649 : 0 < (7 : Int)) => ?_)
    refine go_aload C at_76 (pc' := 78) rfl rfl rfl ?_
    refine go_lloadN C at_78 (pc' := 79) rfl rfl ?_
    refine go_lload C at_79 (pc' := 81) rfl rfl ?_
    refine go_virtualN C (as := [.long x3, .long lim]) (rest := []) (W := 0) (sat_add l Z a0 hw a_626 r_638 x3 lim 0 R _ _ _ (by decide) (by omega) (by omega) (by omega) (by omega) hl2 I_641 ⟨E_642, F_643, F_644, F_645, A_646⟩ g_631 g_640) E_642 (wd hw 31 rfl) (wd hw 32 rfl) (wd hw 34 rfl) (wd hw 33 rfl) (wd hw 7 rfl) (wd hw 35 rfl) (by decide) pd_5 rfl rfl rfl (by decide) (by decide) (ce' := 3) (sl' := 1043) rfl rfl (by decide) (by decide) at_81 (pc' := 84) rfl rfl ?_
    intro h_650 q_651
    obtain ⟨r_652, vs_653, L_654, g_655, I_656, hc_657, rel_658, E_659, F_660, F_661, F_662, A_663⟩ := q_651
    have D_664 : Dd R L_654 1 lim.toInt := Dd_step D_647 hR1 hlR (by decide) (by omega) rel_658 hc_657
    have B_665 := Dd_bound D_664 hR1 hR hlR (by decide)
    clear rel_658 D_647
    refine go_iload C at_84 (pc' := 86) rfl rfl ?_
    refine go_iconst C (1 : Int32) at_86 (pc' := 87) rfl (by decide) ?_
    refine go_icmp C (7 : Int) (1 : Int) (by decide) (by decide) at_87 (by decide) (pc' := 100) (by decide) (pcN := 90) rfl (fun (c_666 : ¬ (1 : Int) < (7 : Int)) => by omega) (fun (c_666 : (1 : Int) < (7 : Int)) => ?_)
    refine go_aload C at_90 (pc' := 92) rfl rfl rfl ?_
    refine go_lloadN C at_92 (pc' := 93) rfl rfl ?_
    refine go_lconst C (1 : Int64) at_93 (pc' := 94) rfl (by decide) ?_
    refine go_ladd C at_94 (pc' := 95) rfl ?_
    refine go_lload C at_95 (pc' := 97) rfl rfl ?_
    refine go_virtualN C (as := [.long (x3 + (1 : Int64)), .long lim]) (rest := []) (W := 0) (sat_add l Z a0 hw a_626 r_652 (x3 + (1 : Int64)) lim 1 L_654 _ _ _ (by decide) (by omega) (by omega) (by omega) (by omega) hl2 I_656 ⟨E_659, F_660, F_661, F_662, A_663⟩ g_631 g_655) E_659 (wd hw 31 rfl) (wd hw 32 rfl) (wd hw 34 rfl) (wd hw 33 rfl) (wd hw 7 rfl) (wd hw 35 rfl) (by decide) pd_5 rfl rfl rfl (by decide) (by decide) (ce' := 4) (sl' := 1055) rfl rfl (by decide) (by decide) at_97 (pc' := 100) rfl rfl ?_
    intro h_667 q_668
    obtain ⟨r_669, vs_670, L_671, g_672, I_673, hc_674, rel_675, E_676, F_677, F_678, F_679, A_680⟩ := q_668
    have D_681 : Dd R L_671 2 lim.toInt := Dd_step D_664 hR1 hlR (by decide) (by omega) rel_675 hc_674
    have B_682 := Dd_bound D_681 hR1 hR hlR (by decide)
    clear rel_675 D_664 hc_657
    refine go_iload C at_100 (pc' := 102) rfl rfl ?_
    refine go_iconst C (2 : Int32) at_102 (pc' := 103) rfl (by decide) ?_
    refine go_icmp C (7 : Int) (2 : Int) (by decide) (by decide) at_103 (by decide) (pc' := 118) (by decide) (pcN := 106) rfl (fun (c_683 : ¬ (2 : Int) < (7 : Int)) => by omega) (fun (c_683 : (2 : Int) < (7 : Int)) => ?_)
    refine go_aload C at_106 (pc' := 108) rfl rfl rfl ?_
    refine go_lloadN C at_108 (pc' := 109) rfl rfl ?_
    refine go_ldc2 C (v := (2 : Int64)) (wd hw 46 rfl) at_109 (pc' := 112) rfl ?_
    refine go_ladd C at_112 (pc' := 113) rfl ?_
    refine go_lload C at_113 (pc' := 115) rfl rfl ?_
    refine go_virtualN C (as := [.long (x3 + (2 : Int64)), .long lim]) (rest := []) (W := 0) (sat_add l Z a0 hw a_626 r_669 (x3 + (2 : Int64)) lim 2 L_671 _ _ _ (by decide) (by omega) (by omega) (by omega) (by omega) hl2 I_673 ⟨E_676, F_677, F_678, F_679, A_680⟩ g_631 g_672) E_676 (wd hw 31 rfl) (wd hw 32 rfl) (wd hw 34 rfl) (wd hw 33 rfl) (wd hw 7 rfl) (wd hw 35 rfl) (by decide) pd_5 rfl rfl rfl (by decide) (by decide) (ce' := 5) (sl' := 1067) rfl rfl (by decide) (by decide) at_115 (pc' := 118) rfl rfl ?_
    intro h_684 q_685
    obtain ⟨r_686, vs_687, L_688, g_689, I_690, hc_691, rel_692, E_693, F_694, F_695, F_696, A_697⟩ := q_685
    have D_698 : Dd R L_688 3 lim.toInt := Dd_step D_681 hR1 hlR (by decide) (by omega) rel_692 hc_691
    have B_699 := Dd_bound D_698 hR1 hR hlR (by decide)
    clear rel_692 D_681 hc_674
    refine go_iload C at_118 (pc' := 120) rfl rfl ?_
    refine go_iconst C (3 : Int32) at_120 (pc' := 121) rfl (by decide) ?_
    refine go_icmp C (7 : Int) (3 : Int) (by decide) (by decide) at_121 (by decide) (pc' := 136) (by decide) (pcN := 124) rfl (fun (c_700 : ¬ (3 : Int) < (7 : Int)) => by omega) (fun (c_700 : (3 : Int) < (7 : Int)) => ?_)
    refine go_aload C at_124 (pc' := 126) rfl rfl rfl ?_
    refine go_lloadN C at_126 (pc' := 127) rfl rfl ?_
    refine go_ldc2 C (v := (3 : Int64)) (wd hw 47 rfl) at_127 (pc' := 130) rfl ?_
    refine go_ladd C at_130 (pc' := 131) rfl ?_
    refine go_lload C at_131 (pc' := 133) rfl rfl ?_
    refine go_virtualN C (as := [.long (x3 + (3 : Int64)), .long lim]) (rest := []) (W := 0) (sat_add l Z a0 hw a_626 r_686 (x3 + (3 : Int64)) lim 3 L_688 _ _ _ (by decide) (by omega) (by omega) (by omega) (by omega) hl2 I_690 ⟨E_693, F_694, F_695, F_696, A_697⟩ g_631 g_689) E_693 (wd hw 31 rfl) (wd hw 32 rfl) (wd hw 34 rfl) (wd hw 33 rfl) (wd hw 7 rfl) (wd hw 35 rfl) (by decide) pd_5 rfl rfl rfl (by decide) (by decide) (ce' := 6) (sl' := 1079) rfl rfl (by decide) (by decide) at_133 (pc' := 136) rfl rfl ?_
    intro h_701 q_702
    obtain ⟨r_703, vs_704, L_705, g_706, I_707, hc_708, rel_709, E_710, F_711, F_712, F_713, A_714⟩ := q_702
    have D_715 : Dd R L_705 4 lim.toInt := Dd_step D_698 hR1 hlR (by decide) (by omega) rel_709 hc_708
    have B_716 := Dd_bound D_715 hR1 hR hlR (by decide)
    clear rel_709 D_698 hc_691
    refine go_iload C at_136 (pc' := 138) rfl rfl ?_
    refine go_iconst C (4 : Int32) at_138 (pc' := 139) rfl (by decide) ?_
    refine go_icmp C (7 : Int) (4 : Int) (by decide) (by decide) at_139 (by decide) (pc' := 154) (by decide) (pcN := 142) rfl (fun (c_717 : ¬ (4 : Int) < (7 : Int)) => by omega) (fun (c_717 : (4 : Int) < (7 : Int)) => ?_)
    refine go_aload C at_142 (pc' := 144) rfl rfl rfl ?_
    refine go_lloadN C at_144 (pc' := 145) rfl rfl ?_
    refine go_ldc2 C (v := (4 : Int64)) (wd hw 48 rfl) at_145 (pc' := 148) rfl ?_
    refine go_ladd C at_148 (pc' := 149) rfl ?_
    refine go_lload C at_149 (pc' := 151) rfl rfl ?_
    refine go_virtualN C (as := [.long (x3 + (4 : Int64)), .long lim]) (rest := []) (W := 0) (sat_add l Z a0 hw a_626 r_703 (x3 + (4 : Int64)) lim 4 L_705 _ _ _ (by decide) (by omega) (by omega) (by omega) (by omega) hl2 I_707 ⟨E_710, F_711, F_712, F_713, A_714⟩ g_631 g_706) E_710 (wd hw 31 rfl) (wd hw 32 rfl) (wd hw 34 rfl) (wd hw 33 rfl) (wd hw 7 rfl) (wd hw 35 rfl) (by decide) pd_5 rfl rfl rfl (by decide) (by decide) (ce' := 7) (sl' := 1091) rfl rfl (by decide) (by decide) at_151 (pc' := 154) rfl rfl ?_
    intro h_718 q_719
    obtain ⟨r_720, vs_721, L_722, g_723, I_724, hc_725, rel_726, E_727, F_728, F_729, F_730, A_731⟩ := q_719
    have D_732 : Dd R L_722 5 lim.toInt := Dd_step D_715 hR1 hlR (by decide) (by omega) rel_726 hc_725
    have B_733 := Dd_bound D_732 hR1 hR hlR (by decide)
    clear rel_726 D_715 hc_708
    refine go_iload C at_154 (pc' := 156) rfl rfl ?_
    refine go_iconst C (5 : Int32) at_156 (pc' := 157) rfl (by decide) ?_
    refine go_icmp C (7 : Int) (5 : Int) (by decide) (by decide) at_157 (by decide) (pc' := 172) (by decide) (pcN := 160) rfl (fun (c_734 : ¬ (5 : Int) < (7 : Int)) => by omega) (fun (c_734 : (5 : Int) < (7 : Int)) => ?_)
    refine go_aload C at_160 (pc' := 162) rfl rfl rfl ?_
    refine go_lloadN C at_162 (pc' := 163) rfl rfl ?_
    refine go_ldc2 C (v := (5 : Int64)) (wd hw 49 rfl) at_163 (pc' := 166) rfl ?_
    refine go_ladd C at_166 (pc' := 167) rfl ?_
    refine go_lload C at_167 (pc' := 169) rfl rfl ?_
    refine go_virtualN C (as := [.long (x3 + (5 : Int64)), .long lim]) (rest := []) (W := 0) (sat_add l Z a0 hw a_626 r_720 (x3 + (5 : Int64)) lim 5 L_722 _ _ _ (by decide) (by omega) (by omega) (by omega) (by omega) hl2 I_724 ⟨E_727, F_728, F_729, F_730, A_731⟩ g_631 g_723) E_727 (wd hw 31 rfl) (wd hw 32 rfl) (wd hw 34 rfl) (wd hw 33 rfl) (wd hw 7 rfl) (wd hw 35 rfl) (by decide) pd_5 rfl rfl rfl (by decide) (by decide) (ce' := 8) (sl' := 1103) rfl rfl (by decide) (by decide) at_169 (pc' := 172) rfl rfl ?_
    intro h_735 q_736
    obtain ⟨r_737, vs_738, L_739, g_740, I_741, hc_742, rel_743, E_744, F_745, F_746, F_747, A_748⟩ := q_736
    have D_749 : Dd R L_739 6 lim.toInt := Dd_step D_732 hR1 hlR (by decide) (by omega) rel_743 hc_742
    have B_750 := Dd_bound D_749 hR1 hR hlR (by decide)
    clear rel_743 D_732 hc_725
    refine go_iload C at_172 (pc' := 174) rfl rfl ?_
    refine go_bipush C (6 : Int32) at_174 (pc' := 176) rfl (by decide) ?_
    refine go_icmp C (7 : Int) (6 : Int) (by decide) (by decide) at_176 (by decide) (pc' := 191) (by decide) (pcN := 179) rfl (fun (c_751 : ¬ (6 : Int) < (7 : Int)) => by omega) (fun (c_751 : (6 : Int) < (7 : Int)) => ?_)
    refine go_aload C at_179 (pc' := 181) rfl rfl rfl ?_
    refine go_lloadN C at_181 (pc' := 182) rfl rfl ?_
    refine go_ldc2 C (v := (6 : Int64)) (wd hw 50 rfl) at_182 (pc' := 185) rfl ?_
    refine go_ladd C at_185 (pc' := 186) rfl ?_
    refine go_lload C at_186 (pc' := 188) rfl rfl ?_
    refine go_virtualN C (as := [.long (x3 + (6 : Int64)), .long lim]) (rest := []) (W := 0) (sat_add l Z a0 hw a_626 r_737 (x3 + (6 : Int64)) lim 6 L_739 _ _ _ (by decide) (by omega) (by omega) (by omega) (by omega) hl2 I_741 ⟨E_744, F_745, F_746, F_747, A_748⟩ g_631 g_740) E_744 (wd hw 31 rfl) (wd hw 32 rfl) (wd hw 34 rfl) (wd hw 33 rfl) (wd hw 7 rfl) (wd hw 35 rfl) (by decide) pd_5 rfl rfl rfl (by decide) (by decide) (ce' := 9) (sl' := 1115) rfl rfl (by decide) (by decide) at_188 (pc' := 191) rfl rfl ?_
    intro h_752 q_753
    obtain ⟨r_754, vs_755, L_756, g_757, I_758, hc_759, rel_760, E_761, F_762, F_763, F_764, A_765⟩ := q_753
    have D_766 : Dd R L_756 7 lim.toInt := Dd_step D_749 hR1 hlR (by decide) (by omega) rel_760 hc_759
    have B_767 := Dd_bound D_766 hR1 hR hlR (by decide)
    clear rel_760 D_749 hc_742
    refine go_iload C at_191 (pc' := 193) rfl rfl ?_
    refine go_i2l C at_193 (pc' := 194) rfl ?_
    refine go_lstore C (Ls' := #[.val (.int x0), .val (.int x1), .val (.int x2), .val (.long x3), .second, .val (.int (Int32.ofNat R)), .val (.long lim), .second, .val (.int (7 : Int32)), .val (.ref a_626), .val (.int (1 : Int32)), .val (.long ((Int32.ofNat R).toInt64)), .second]) at_194 (pc' := 196) rfl rfl ?_
    refine go_lload C at_196 (pc' := 198) rfl rfl ?_
    refine go_iload C at_198 (pc' := 200) rfl rfl ?_
    refine go_i2l C at_200 (pc' := 201) rfl ?_
    rw [(by decide : (7 : Int32).toInt64 = (7 : Int64))]
    refine go_lcmp C (1 * (R : Int)) (7 : Int) e0 (by decide) at_201 (pc1 := 202) rfl at_202 (by decide) (pc' := 213) (by decide) (pcN := 205) rfl (fun (c_768 : ¬ (1 * (R : Int)) < (7 : Int)) => ?_) (fun (c_768 : (1 * (R : Int)) < (7 : Int)) => ?_)
    · skip
      refine go_lload C at_213 (pc' := 215) rfl rfl ?_
      refine go_iload C at_215 (pc' := 217) rfl rfl ?_
      refine go_i2l C at_217 (pc' := 218) rfl ?_
      rw [(by decide : (7 : Int32).toInt64 = (7 : Int64))]
      refine go_lcmp C (1 * (R : Int)) (7 : Int) e0 (by decide) at_218 (pc1 := 219) rfl at_219 (by decide) (pc' := 230) (by decide) (pcN := 222) rfl (fun (c_769 : ¬ (1 * (R : Int)) < (7 : Int)) => ?_) (fun (c_769 : (1 * (R : Int)) < (7 : Int)) => by omega)
      refine go_lload C at_230 (pc' := 232) rfl rfl ?_
      refine go_iload C at_232 (pc' := 234) rfl rfl ?_
      refine go_i2l C at_234 (pc' := 235) rfl ?_
      rw [(by decide : (7 : Int32).toInt64 = (7 : Int64))]
      refine go_lcmp C (1 * (R : Int)) (7 : Int) e0 (by decide) at_235 (pc1 := 236) rfl at_236 (by decide) (pc' := 247) (by decide) (pcN := 239) rfl (fun (c_770 : ¬ (1 * (R : Int)) < (7 : Int)) => ?_) (fun (c_770 : (1 * (R : Int)) < (7 : Int)) => by omega)
      refine go_lload C at_247 (pc' := 249) rfl rfl ?_
      refine go_lload C at_249 (pc' := 251) rfl rfl ?_
      refine go_staticP C (as := [.long ((Int32.ofNat R).toInt64), .long lim]) (rest := []) (W := 0) (.long (o_minL ((Int32.ofNat R).toInt64) lim)) (sat_minL l Z a0 hw ((Int32.ofNat R).toInt64) lim (o_minL ((Int32.ofNat R).toInt64) lim) _ _ rfl) (wd hw 1 rfl) (wd hw 2 rfl) (wd hw 3 rfl) (wd hw 4 rfl) (by decide) pd_1 rfl rfl rfl (by decide) (by decide) rfl rfl (by decide) (by decide) at_251 (pc' := 254) rfl rfl ?_
      refine go_lstore C (Ls' := #[.val (.int x0), .val (.int x1), .val (.int x2), .val (.long x3), .second, .val (.int (Int32.ofNat R)), .val (.long lim), .second, .val (.int (7 : Int32)), .val (.ref a_626), .val (.int (1 : Int32)), .val (.long (o_minL ((Int32.ofNat R).toInt64) lim)), .second]) at_254 (pc' := 256) rfl rfl ?_
      refine go_iload C at_256 (pc' := 258) rfl rfl ?_
      refine go_if0 C (1 : Int) (by decide) at_258 (by decide) (pc' := 284) (by decide) (pcN := 261) rfl (fun (c_771 : (1 : Int) = 0) => by omega) (fun (c_771 : ¬ (1 : Int) = 0) => ?_)
      refine go_aload C at_261 (pc' := 263) rfl rfl rfl ?_
      refine go_virtualP C (as := []) (rest := []) (W := 0) (.long ((32 : Int64) + ((8 : Int64) * ((Int32.ofNat L_756).toInt64)))) (sat_bytes l Z a0 hw a_626 r_754 L_756 _ _ _ F_762 A_765 I_758 (by omega)) E_761 (wd hw 22 rfl) (wd hw 23 rfl) (wd hw 25 rfl) (wd hw 24 rfl) (wd hw 7 rfl) (wd hw 26 rfl) (by decide) pd_4 rfl rfl rfl (by decide) (by decide) rfl rfl (by decide) (by decide) at_263 (pc' := 266) rfl rfl ?_
      refine go_ldc2 C (v := (32 : Int64)) (wd hw 29 rfl) at_266 (pc' := 269) rfl ?_
      refine go_ldc2 C (v := (8 : Int64)) (wd hw 30 rfl) at_269 (pc' := 272) rfl ?_
      refine go_lload C at_272 (pc' := 274) rfl rfl ?_
      refine go_lmul C at_274 (pc' := 275) rfl ?_
      refine go_ladd C at_275 (pc' := 276) rfl ?_
      have hmm := own_min ((Int32.ofNat R).toInt64) lim
      have hfin : (Int32.ofNat L_756).toInt64 = o_minL ((Int32.ofNat R).toInt64) lim := long_eq (by rw [Int32.toInt_toInt64, own_of (by omega), hmm]; unfold Dd at D_766; omega)
      have hfq : (32 : Int64) + ((8 : Int64) * ((Int32.ofNat L_756).toInt64)) = (32 : Int64) + ((8 : Int64) * (o_minL ((Int32.ofNat R).toInt64) lim)) := congrArg (fun z => (32 : Int64) + ((8 : Int64) * z)) hfin
      rw [hfq]
      refine go_lcmp C (((32 : Int64) + ((8 : Int64) * (o_minL ((Int32.ofNat R).toInt64) lim))).toInt) (((32 : Int64) + ((8 : Int64) * (o_minL ((Int32.ofNat R).toInt64) lim))).toInt) rfl rfl at_276 (pc1 := 277) rfl at_277 (by decide) (pc' := 284) (by decide) (pcN := 280) rfl (fun (c_772 : ¬ (((32 : Int64) + ((8 : Int64) * (o_minL ((Int32.ofNat R).toInt64) lim))).toInt) = (((32 : Int64) + ((8 : Int64) * (o_minL ((Int32.ofNat R).toInt64) lim))).toInt)) => by omega) (fun (c_772 : (((32 : Int64) + ((8 : Int64) * (o_minL ((Int32.ofNat R).toInt64) lim))).toInt) = (((32 : Int64) + ((8 : Int64) * (o_minL ((Int32.ofNat R).toInt64) lim))).toInt)) => ?_)
      refine go_iconst C (1 : Int32) at_280 (pc' := 281) rfl (by decide) ?_
      refine go_goto C at_281 (by decide) (pc' := 285) (by decide) ?_
      refine go_ireturnN C (z' := (1 : Int32)) rfl (by simp) rfl at_285 (by decide) (by decide) ?_
      exact ⟨_, rfl, rfl⟩
    · skip
      refine go_ldc2 C (v := (2 : Int64)) (wd hw 46 rfl) at_205 (pc' := 208) rfl ?_
      refine go_lload C at_208 (pc' := 210) rfl rfl ?_
      refine go_lmul C at_210 (pc' := 211) rfl ?_
      refine go_lstore C (Ls' := #[.val (.int x0), .val (.int x1), .val (.int x2), .val (.long x3), .second, .val (.int (Int32.ofNat R)), .val (.long lim), .second, .val (.int (7 : Int32)), .val (.ref a_626), .val (.int (1 : Int32)), .val (.long ((2 : Int64) * ((Int32.ofNat R).toInt64))), .second]) at_211 (pc' := 213) rfl rfl ?_
      refine go_lload C at_213 (pc' := 215) rfl rfl ?_
      refine go_iload C at_215 (pc' := 217) rfl rfl ?_
      refine go_i2l C at_217 (pc' := 218) rfl ?_
      rw [(by decide : (7 : Int32).toInt64 = (7 : Int64))]
      refine go_lcmp C (2 * (R : Int)) (7 : Int) e1 (by decide) at_218 (pc1 := 219) rfl at_219 (by decide) (pc' := 230) (by decide) (pcN := 222) rfl (fun (c_773 : ¬ (2 * (R : Int)) < (7 : Int)) => ?_) (fun (c_773 : (2 * (R : Int)) < (7 : Int)) => ?_)
      · skip
        refine go_lload C at_230 (pc' := 232) rfl rfl ?_
        refine go_iload C at_232 (pc' := 234) rfl rfl ?_
        refine go_i2l C at_234 (pc' := 235) rfl ?_
        rw [(by decide : (7 : Int32).toInt64 = (7 : Int64))]
        refine go_lcmp C (2 * (R : Int)) (7 : Int) e1 (by decide) at_235 (pc1 := 236) rfl at_236 (by decide) (pc' := 247) (by decide) (pcN := 239) rfl (fun (c_774 : ¬ (2 * (R : Int)) < (7 : Int)) => ?_) (fun (c_774 : (2 * (R : Int)) < (7 : Int)) => by omega)
        refine go_lload C at_247 (pc' := 249) rfl rfl ?_
        refine go_lload C at_249 (pc' := 251) rfl rfl ?_
        refine go_staticP C (as := [.long ((2 : Int64) * ((Int32.ofNat R).toInt64)), .long lim]) (rest := []) (W := 0) (.long (o_minL ((2 : Int64) * ((Int32.ofNat R).toInt64)) lim)) (sat_minL l Z a0 hw ((2 : Int64) * ((Int32.ofNat R).toInt64)) lim (o_minL ((2 : Int64) * ((Int32.ofNat R).toInt64)) lim) _ _ rfl) (wd hw 1 rfl) (wd hw 2 rfl) (wd hw 3 rfl) (wd hw 4 rfl) (by decide) pd_1 rfl rfl rfl (by decide) (by decide) rfl rfl (by decide) (by decide) at_251 (pc' := 254) rfl rfl ?_
        refine go_lstore C (Ls' := #[.val (.int x0), .val (.int x1), .val (.int x2), .val (.long x3), .second, .val (.int (Int32.ofNat R)), .val (.long lim), .second, .val (.int (7 : Int32)), .val (.ref a_626), .val (.int (1 : Int32)), .val (.long (o_minL ((2 : Int64) * ((Int32.ofNat R).toInt64)) lim)), .second]) at_254 (pc' := 256) rfl rfl ?_
        refine go_iload C at_256 (pc' := 258) rfl rfl ?_
        refine go_if0 C (1 : Int) (by decide) at_258 (by decide) (pc' := 284) (by decide) (pcN := 261) rfl (fun (c_775 : (1 : Int) = 0) => by omega) (fun (c_775 : ¬ (1 : Int) = 0) => ?_)
        refine go_aload C at_261 (pc' := 263) rfl rfl rfl ?_
        refine go_virtualP C (as := []) (rest := []) (W := 0) (.long ((32 : Int64) + ((8 : Int64) * ((Int32.ofNat L_756).toInt64)))) (sat_bytes l Z a0 hw a_626 r_754 L_756 _ _ _ F_762 A_765 I_758 (by omega)) E_761 (wd hw 22 rfl) (wd hw 23 rfl) (wd hw 25 rfl) (wd hw 24 rfl) (wd hw 7 rfl) (wd hw 26 rfl) (by decide) pd_4 rfl rfl rfl (by decide) (by decide) rfl rfl (by decide) (by decide) at_263 (pc' := 266) rfl rfl ?_
        refine go_ldc2 C (v := (32 : Int64)) (wd hw 29 rfl) at_266 (pc' := 269) rfl ?_
        refine go_ldc2 C (v := (8 : Int64)) (wd hw 30 rfl) at_269 (pc' := 272) rfl ?_
        refine go_lload C at_272 (pc' := 274) rfl rfl ?_
        refine go_lmul C at_274 (pc' := 275) rfl ?_
        refine go_ladd C at_275 (pc' := 276) rfl ?_
        have hmm := own_min ((2 : Int64) * ((Int32.ofNat R).toInt64)) lim
        have hfin : (Int32.ofNat L_756).toInt64 = o_minL ((2 : Int64) * ((Int32.ofNat R).toInt64)) lim := long_eq (by rw [Int32.toInt_toInt64, own_of (by omega), hmm]; unfold Dd at D_766; omega)
        have hfq : (32 : Int64) + ((8 : Int64) * ((Int32.ofNat L_756).toInt64)) = (32 : Int64) + ((8 : Int64) * (o_minL ((2 : Int64) * ((Int32.ofNat R).toInt64)) lim)) := congrArg (fun z => (32 : Int64) + ((8 : Int64) * z)) hfin
        rw [hfq]
        refine go_lcmp C (((32 : Int64) + ((8 : Int64) * (o_minL ((2 : Int64) * ((Int32.ofNat R).toInt64)) lim))).toInt) (((32 : Int64) + ((8 : Int64) * (o_minL ((2 : Int64) * ((Int32.ofNat R).toInt64)) lim))).toInt) rfl rfl at_276 (pc1 := 277) rfl at_277 (by decide) (pc' := 284) (by decide) (pcN := 280) rfl (fun (c_776 : ¬ (((32 : Int64) + ((8 : Int64) * (o_minL ((2 : Int64) * ((Int32.ofNat R).toInt64)) lim))).toInt) = (((32 : Int64) + ((8 : Int64) * (o_minL ((2 : Int64) * ((Int32.ofNat R).toInt64)) lim))).toInt)) => by omega) (fun (c_776 : (((32 : Int64) + ((8 : Int64) * (o_minL ((2 : Int64) * ((Int32.ofNat R).toInt64)) lim))).toInt) = (((32 : Int64) + ((8 : Int64) * (o_minL ((2 : Int64) * ((Int32.ofNat R).toInt64)) lim))).toInt)) => ?_)
        refine go_iconst C (1 : Int32) at_280 (pc' := 281) rfl (by decide) ?_
        refine go_goto C at_281 (by decide) (pc' := 285) (by decide) ?_
        refine go_ireturnN C (z' := (1 : Int32)) rfl (by simp) rfl at_285 (by decide) (by decide) ?_
        exact ⟨_, rfl, rfl⟩
      · skip
        refine go_ldc2 C (v := (2 : Int64)) (wd hw 46 rfl) at_222 (pc' := 225) rfl ?_
        refine go_lload C at_225 (pc' := 227) rfl rfl ?_
        refine go_lmul C at_227 (pc' := 228) rfl ?_
        refine go_lstore C (Ls' := #[.val (.int x0), .val (.int x1), .val (.int x2), .val (.long x3), .second, .val (.int (Int32.ofNat R)), .val (.long lim), .second, .val (.int (7 : Int32)), .val (.ref a_626), .val (.int (1 : Int32)), .val (.long ((2 : Int64) * ((2 : Int64) * ((Int32.ofNat R).toInt64)))), .second]) at_228 (pc' := 230) rfl rfl ?_
        refine go_lload C at_230 (pc' := 232) rfl rfl ?_
        refine go_iload C at_232 (pc' := 234) rfl rfl ?_
        refine go_i2l C at_234 (pc' := 235) rfl ?_
        rw [(by decide : (7 : Int32).toInt64 = (7 : Int64))]
        refine go_lcmp C (4 * (R : Int)) (7 : Int) e2 (by decide) at_235 (pc1 := 236) rfl at_236 (by decide) (pc' := 247) (by decide) (pcN := 239) rfl (fun (c_777 : ¬ (4 * (R : Int)) < (7 : Int)) => ?_) (fun (c_777 : (4 * (R : Int)) < (7 : Int)) => ?_)
        · skip
          refine go_lload C at_247 (pc' := 249) rfl rfl ?_
          refine go_lload C at_249 (pc' := 251) rfl rfl ?_
          refine go_staticP C (as := [.long ((2 : Int64) * ((2 : Int64) * ((Int32.ofNat R).toInt64))), .long lim]) (rest := []) (W := 0) (.long (o_minL ((2 : Int64) * ((2 : Int64) * ((Int32.ofNat R).toInt64))) lim)) (sat_minL l Z a0 hw ((2 : Int64) * ((2 : Int64) * ((Int32.ofNat R).toInt64))) lim (o_minL ((2 : Int64) * ((2 : Int64) * ((Int32.ofNat R).toInt64))) lim) _ _ rfl) (wd hw 1 rfl) (wd hw 2 rfl) (wd hw 3 rfl) (wd hw 4 rfl) (by decide) pd_1 rfl rfl rfl (by decide) (by decide) rfl rfl (by decide) (by decide) at_251 (pc' := 254) rfl rfl ?_
          refine go_lstore C (Ls' := #[.val (.int x0), .val (.int x1), .val (.int x2), .val (.long x3), .second, .val (.int (Int32.ofNat R)), .val (.long lim), .second, .val (.int (7 : Int32)), .val (.ref a_626), .val (.int (1 : Int32)), .val (.long (o_minL ((2 : Int64) * ((2 : Int64) * ((Int32.ofNat R).toInt64))) lim)), .second]) at_254 (pc' := 256) rfl rfl ?_
          refine go_iload C at_256 (pc' := 258) rfl rfl ?_
          refine go_if0 C (1 : Int) (by decide) at_258 (by decide) (pc' := 284) (by decide) (pcN := 261) rfl (fun (c_778 : (1 : Int) = 0) => by omega) (fun (c_778 : ¬ (1 : Int) = 0) => ?_)
          refine go_aload C at_261 (pc' := 263) rfl rfl rfl ?_
          refine go_virtualP C (as := []) (rest := []) (W := 0) (.long ((32 : Int64) + ((8 : Int64) * ((Int32.ofNat L_756).toInt64)))) (sat_bytes l Z a0 hw a_626 r_754 L_756 _ _ _ F_762 A_765 I_758 (by omega)) E_761 (wd hw 22 rfl) (wd hw 23 rfl) (wd hw 25 rfl) (wd hw 24 rfl) (wd hw 7 rfl) (wd hw 26 rfl) (by decide) pd_4 rfl rfl rfl (by decide) (by decide) rfl rfl (by decide) (by decide) at_263 (pc' := 266) rfl rfl ?_
          refine go_ldc2 C (v := (32 : Int64)) (wd hw 29 rfl) at_266 (pc' := 269) rfl ?_
          refine go_ldc2 C (v := (8 : Int64)) (wd hw 30 rfl) at_269 (pc' := 272) rfl ?_
          refine go_lload C at_272 (pc' := 274) rfl rfl ?_
          refine go_lmul C at_274 (pc' := 275) rfl ?_
          refine go_ladd C at_275 (pc' := 276) rfl ?_
          have hmm := own_min ((2 : Int64) * ((2 : Int64) * ((Int32.ofNat R).toInt64))) lim
          have hfin : (Int32.ofNat L_756).toInt64 = o_minL ((2 : Int64) * ((2 : Int64) * ((Int32.ofNat R).toInt64))) lim := long_eq (by rw [Int32.toInt_toInt64, own_of (by omega), hmm]; unfold Dd at D_766; omega)
          have hfq : (32 : Int64) + ((8 : Int64) * ((Int32.ofNat L_756).toInt64)) = (32 : Int64) + ((8 : Int64) * (o_minL ((2 : Int64) * ((2 : Int64) * ((Int32.ofNat R).toInt64))) lim)) := congrArg (fun z => (32 : Int64) + ((8 : Int64) * z)) hfin
          rw [hfq]
          refine go_lcmp C (((32 : Int64) + ((8 : Int64) * (o_minL ((2 : Int64) * ((2 : Int64) * ((Int32.ofNat R).toInt64))) lim))).toInt) (((32 : Int64) + ((8 : Int64) * (o_minL ((2 : Int64) * ((2 : Int64) * ((Int32.ofNat R).toInt64))) lim))).toInt) rfl rfl at_276 (pc1 := 277) rfl at_277 (by decide) (pc' := 284) (by decide) (pcN := 280) rfl (fun (c_779 : ¬ (((32 : Int64) + ((8 : Int64) * (o_minL ((2 : Int64) * ((2 : Int64) * ((Int32.ofNat R).toInt64))) lim))).toInt) = (((32 : Int64) + ((8 : Int64) * (o_minL ((2 : Int64) * ((2 : Int64) * ((Int32.ofNat R).toInt64))) lim))).toInt)) => by omega) (fun (c_779 : (((32 : Int64) + ((8 : Int64) * (o_minL ((2 : Int64) * ((2 : Int64) * ((Int32.ofNat R).toInt64))) lim))).toInt) = (((32 : Int64) + ((8 : Int64) * (o_minL ((2 : Int64) * ((2 : Int64) * ((Int32.ofNat R).toInt64))) lim))).toInt)) => ?_)
          refine go_iconst C (1 : Int32) at_280 (pc' := 281) rfl (by decide) ?_
          refine go_goto C at_281 (by decide) (pc' := 285) (by decide) ?_
          refine go_ireturnN C (z' := (1 : Int32)) rfl (by simp) rfl at_285 (by decide) (by decide) ?_
          exact ⟨_, rfl, rfl⟩
        · skip
          refine go_ldc2 C (v := (2 : Int64)) (wd hw 46 rfl) at_239 (pc' := 242) rfl ?_
          refine go_lload C at_242 (pc' := 244) rfl rfl ?_
          refine go_lmul C at_244 (pc' := 245) rfl ?_
          refine go_lstore C (Ls' := #[.val (.int x0), .val (.int x1), .val (.int x2), .val (.long x3), .second, .val (.int (Int32.ofNat R)), .val (.long lim), .second, .val (.int (7 : Int32)), .val (.ref a_626), .val (.int (1 : Int32)), .val (.long ((2 : Int64) * ((2 : Int64) * ((2 : Int64) * ((Int32.ofNat R).toInt64))))), .second]) at_245 (pc' := 247) rfl rfl ?_
          refine go_lload C at_247 (pc' := 249) rfl rfl ?_
          refine go_lload C at_249 (pc' := 251) rfl rfl ?_
          refine go_staticP C (as := [.long ((2 : Int64) * ((2 : Int64) * ((2 : Int64) * ((Int32.ofNat R).toInt64)))), .long lim]) (rest := []) (W := 0) (.long (o_minL ((2 : Int64) * ((2 : Int64) * ((2 : Int64) * ((Int32.ofNat R).toInt64)))) lim)) (sat_minL l Z a0 hw ((2 : Int64) * ((2 : Int64) * ((2 : Int64) * ((Int32.ofNat R).toInt64)))) lim (o_minL ((2 : Int64) * ((2 : Int64) * ((2 : Int64) * ((Int32.ofNat R).toInt64)))) lim) _ _ rfl) (wd hw 1 rfl) (wd hw 2 rfl) (wd hw 3 rfl) (wd hw 4 rfl) (by decide) pd_1 rfl rfl rfl (by decide) (by decide) rfl rfl (by decide) (by decide) at_251 (pc' := 254) rfl rfl ?_
          refine go_lstore C (Ls' := #[.val (.int x0), .val (.int x1), .val (.int x2), .val (.long x3), .second, .val (.int (Int32.ofNat R)), .val (.long lim), .second, .val (.int (7 : Int32)), .val (.ref a_626), .val (.int (1 : Int32)), .val (.long (o_minL ((2 : Int64) * ((2 : Int64) * ((2 : Int64) * ((Int32.ofNat R).toInt64)))) lim)), .second]) at_254 (pc' := 256) rfl rfl ?_
          refine go_iload C at_256 (pc' := 258) rfl rfl ?_
          refine go_if0 C (1 : Int) (by decide) at_258 (by decide) (pc' := 284) (by decide) (pcN := 261) rfl (fun (c_780 : (1 : Int) = 0) => by omega) (fun (c_780 : ¬ (1 : Int) = 0) => ?_)
          refine go_aload C at_261 (pc' := 263) rfl rfl rfl ?_
          refine go_virtualP C (as := []) (rest := []) (W := 0) (.long ((32 : Int64) + ((8 : Int64) * ((Int32.ofNat L_756).toInt64)))) (sat_bytes l Z a0 hw a_626 r_754 L_756 _ _ _ F_762 A_765 I_758 (by omega)) E_761 (wd hw 22 rfl) (wd hw 23 rfl) (wd hw 25 rfl) (wd hw 24 rfl) (wd hw 7 rfl) (wd hw 26 rfl) (by decide) pd_4 rfl rfl rfl (by decide) (by decide) rfl rfl (by decide) (by decide) at_263 (pc' := 266) rfl rfl ?_
          refine go_ldc2 C (v := (32 : Int64)) (wd hw 29 rfl) at_266 (pc' := 269) rfl ?_
          refine go_ldc2 C (v := (8 : Int64)) (wd hw 30 rfl) at_269 (pc' := 272) rfl ?_
          refine go_lload C at_272 (pc' := 274) rfl rfl ?_
          refine go_lmul C at_274 (pc' := 275) rfl ?_
          refine go_ladd C at_275 (pc' := 276) rfl ?_
          have hmm := own_min ((2 : Int64) * ((2 : Int64) * ((2 : Int64) * ((Int32.ofNat R).toInt64)))) lim
          have hfin : (Int32.ofNat L_756).toInt64 = o_minL ((2 : Int64) * ((2 : Int64) * ((2 : Int64) * ((Int32.ofNat R).toInt64)))) lim := long_eq (by rw [Int32.toInt_toInt64, own_of (by omega), hmm]; unfold Dd at D_766; omega)
          have hfq : (32 : Int64) + ((8 : Int64) * ((Int32.ofNat L_756).toInt64)) = (32 : Int64) + ((8 : Int64) * (o_minL ((2 : Int64) * ((2 : Int64) * ((2 : Int64) * ((Int32.ofNat R).toInt64)))) lim)) := congrArg (fun z => (32 : Int64) + ((8 : Int64) * z)) hfin
          rw [hfq]
          refine go_lcmp C (((32 : Int64) + ((8 : Int64) * (o_minL ((2 : Int64) * ((2 : Int64) * ((2 : Int64) * ((Int32.ofNat R).toInt64)))) lim))).toInt) (((32 : Int64) + ((8 : Int64) * (o_minL ((2 : Int64) * ((2 : Int64) * ((2 : Int64) * ((Int32.ofNat R).toInt64)))) lim))).toInt) rfl rfl at_276 (pc1 := 277) rfl at_277 (by decide) (pc' := 284) (by decide) (pcN := 280) rfl (fun (c_781 : ¬ (((32 : Int64) + ((8 : Int64) * (o_minL ((2 : Int64) * ((2 : Int64) * ((2 : Int64) * ((Int32.ofNat R).toInt64)))) lim))).toInt) = (((32 : Int64) + ((8 : Int64) * (o_minL ((2 : Int64) * ((2 : Int64) * ((2 : Int64) * ((Int32.ofNat R).toInt64)))) lim))).toInt)) => by omega) (fun (c_781 : (((32 : Int64) + ((8 : Int64) * (o_minL ((2 : Int64) * ((2 : Int64) * ((2 : Int64) * ((Int32.ofNat R).toInt64)))) lim))).toInt) = (((32 : Int64) + ((8 : Int64) * (o_minL ((2 : Int64) * ((2 : Int64) * ((2 : Int64) * ((Int32.ofNat R).toInt64)))) lim))).toInt)) => ?_)
          refine go_iconst C (1 : Int32) at_280 (pc' := 281) rfl (by decide) ?_
          refine go_goto C at_281 (by decide) (pc' := 285) (by decide) ?_
          refine go_ireturnN C (z' := (1 : Int32)) rfl (by simp) rfl at_285 (by decide) (by decide) ?_
          exact ⟨_, rfl, rfl⟩
set_option maxRecDepth 65536 in
set_option maxHeartbeats 40000000 in
theorem comes_1 {Post : Tables → Env → Array Value → State → Outcome → State → Prop} (hpost : ∀ tb e args s v u, (limb_1_1.after args s (.returned v) u = true ∧ limb_1_2.after args s (.returned v) u = true ∧ True) → FrameEnd s (.returned v) u (Jvm.fieldLocs frame_1_writes args s ++ Jvm.arrayLocs frame_1_arrays args s ++ Jvm.staticLocs frame_1_statics s) 24 2176 → Post tb e args s (.returned v) u) :
    ArmFor flags0 classFile x code maxLocals ret World_1 tables_1 room_1 Calls_1 rest_1 Pre_1 Post := by
  intro l hfl _ _ p e ha hc hk s m args below hf hA hF happ hP
  obtain ⟨hcalls, hrest, hpre⟩ := hP
  obtain ⟨-, -, -, hnamed, -, -, -, hat⟩ := (Spec.applies_iff hf).mp happ
  obtain ⟨hg, hn⟩ := and_e (Cond.before_iff.mp (show (Jvm.Cond.and given_1 narrow_1).before args s = true from hpre))
  obtain ⟨k0, g0⟩ := and_e hg
  obtain ⟨k1, g1⟩ := and_e g0
  obtain ⟨k2, g2⟩ := and_e g1
  obtain ⟨k3, g3⟩ := and_e g2
  obtain ⟨w0, w1, w2, w3, rfl⟩ : ∃ w0 w1 w2 w3 : Value, args = #[w0, w1, w2, w3] := by
    have hs : args.size = 4 := by simpa [Cond.value, given_1] using k0
    obtain ⟨L⟩ := args
    match L, hs with
    | [w0, w1, w2, w3], _ => exact ⟨w0, w1, w2, w3, rfl⟩
  have hw := fun d (hd : d ∈ tables_1) => atoms_spec (ws := Jvm.Cond.code x code maxLocals ret :: tables_1) hat d (List.mem_cons_of_mem _ hd)
  obtain ⟨i0, e0⟩ := is_v k1
  obtain ⟨i1, e1⟩ := is_v k2
  obtain ⟨i2, e2⟩ := is_v k3
  obtain ⟨i3, e3⟩ := isL_v g3
  obtain rfl : w0 = (.int i0) := Option.some.inj e0
  obtain rfl : w1 = (.int i1) := Option.some.inj e1
  obtain rfl : w2 = (.int i2) := Option.some.inj e2
  obtain rfl : w3 = (.long i3) := Option.some.inj e3
  obtain ⟨n, o, h1, h2, h3, _, L, rfl, ⟨⟨_, rfl, rfl⟩, N⟩, hq⟩ := law_sat l s _ hw i0 i1 i2 i3 tables_1 p e ha hc hk s m _ below hf ((Spec.applies_iff_loose hf).mp happ).1 ⟨rfl, State.Warmed39.refl s, rfl⟩ trivial
  refine ⟨n, _, h1, h2, h3, hpost _ _ _ _ _ _ ⟨Cond.after_iff.mpr rfl, Cond.after_iff.mpr (eq_i res_at (Term.int_eval (1)) rfl), trivial⟩ ⟨hq.1, hq.2.1, (hq.2.2.sift fun y hy => Or.inr (N y hy)).mono (by decide) (by decide)⟩⟩
theorem main_1_1 : Claimed_1_1 := comes_1 fun _ _ _ _ _ _ h hF => ⟨h.1, hF⟩
theorem main_1_2 : Claimed_1_2 := comes_1 fun _ _ _ _ _ _ h hF => ⟨h.2.1, hF⟩
end Jvm.Pilot.@@N@@
namespace Jvm.Pilot.@@N@@
open Jvm Jvm.ClassFile Sem Op Lib Jvm.Free Jvm.Stand Jvm.Pilot.@@N@@.Jvm.D
/-! MADE BY PROGRAM (witnessworld.py) out of the Statement's table words and the real class files: 13 classes; the members and pool entries that the words name. The judged class is class 1, her method 1. -/
namespace start1
open Jvm.ClassFile
def u (s : String) : CpInfo := .utf8 (stringToUtf16 s)
/-- a pool by its gaps: so many unusable entries, then the entry; so many at the end -/
def gap : Nat → List CpInfo → List CpInfo
  | 0, r => r
  | n + 1, r => .unusable :: gap n r
def poolList (es : List (Nat × CpInfo)) (last : Nat) : List CpInfo := es.foldr (fun e r => gap e.1 (e.2 :: r)) (gap last [])
def pool (es : List (Nat × CpInfo)) (last : Nat) : Array CpInfo := ⟨poolList es last⟩
def fileOf (pool : Array CpInfo) (this : Nat) (attrs : Array Attribute := #[]) (ms : Array MethodInfo := #[]) (fl : Nat := 33) (sup : Nat := 0) (ifs : Array Nat := #[]) (fds : Array FieldInfo := #[]) : ClassFile where
  minorVersion := 0
  majorVersion := 65
  constantPool := pool
  accessFlags := fl
  thisClass := this
  superClass := sup
  interfaces := ifs
  fields := fds
  methods := ms
  attributes := attrs
def plain (name : String) (sup : Option ClassId) : Class where
  name := name
  kind := .ordinary
  loader := none
  accessFlags := 33
  super := sup
  interfaces := #[]
  cf := none
  fields := #[]
  methods := #[]
  instanceTypes := #[]
  staticTypes := #[]
  resolved := #[]
  callSites := []
  init := .initialized
  statics := none
  mirror := none

def pool0 : Array CpInfo := pool [(5, u "<init>"), (0, u "()V"), (1, .class_ 10), (1, u "java/lang/Object")] 113

def k0c0 : Code := { maxStack := 0, maxLocals := 1, code := object_method_1_code, exceptionTable := #[], attributes := #[] }
def k0m0 : Method := { name := "<init>", desc := "()V", sig := { parameters := [], returnType := none }, accessFlags := 1, code := some k0c0 }
/-- java/lang/Object -/
def k0 : Class := { plain "java/lang/Object" none with
  accessFlags := 33
  interfaces := #[]
  cf := some (fileOf pool0 8 #[] #[{ accessFlags := 1, nameIndex := 5, descriptorIndex := 6, attributes := #[] }] 33 0 #[] #[])
  fields := #[]
  methods := #[k0m0]
  instanceTypes := #[]
  staticTypes := #[]
  resolved := Array.replicate 124 none
  statics := none }

def pool1 : Array CpInfo := pool [(2, .class_ 4), (1, u "java/lang/Object"), (0, u "<init>"), (0, u "()V"), (0, .integer 2147483647), (0, .methodref 9 10), (0, .class_ 11), (0, .nameAndType 12 13), (0, u "java/lang/Math"), (0, u "min"), (0, u "(JJ)J"), (0, .class_ 15), (0, u "com/example/throttld/throttld/SlidingLog$Log"), (0, .methodref 14 17), (0, .nameAndType 5 18), (0, u "(I)V"), (0, .methodref 14 20), (0, .nameAndType 21 22), (0, u "bytes"), (0, u "()J"), (0, .long 32), (1, .long 8), (1, .methodref 14 28), (0, .nameAndType 29 30), (0, u "add"), (0, u "(JJ)V"), (0, .long 2), (1, .long 3), (1, .long 4), (1, .long 5), (1, .long 6), (1, .class_ 42), (0, u "com/example/throttld/throttld/SlidingLogBytesPinLaw"), (2, u "law"), (0, u "(IIIJ)Z")] 7

def k1m0 : Method := { name := "<init>", desc := "()V", sig := { parameters := [], returnType := none }, accessFlags := 2, code := none }
def k1c1 : Code := { maxStack := 8, maxLocals := 13, code := code, exceptionTable := #[], attributes := #[] }
def k1m1 : Method := { name := "law", desc := "(IIIJ)Z", sig := { parameters := [.int, .int, .int, .long], returnType := some .boolean }, accessFlags := 9, code := some k1c1 }
/-- com/example/throttld/throttld/SlidingLogBytesPinLaw -/
def k1 : Class := { plain "com/example/throttld/throttld/SlidingLogBytesPinLaw" (some 0) with
  accessFlags := 49
  interfaces := #[]
  cf := some (fileOf pool1 41 #[] #[{ accessFlags := 2, nameIndex := 5, descriptorIndex := 6, attributes := #[] }, { accessFlags := 9, nameIndex := 45, descriptorIndex := 46, attributes := #[] }] 49 2 #[] #[])
  fields := #[]
  methods := #[k1m0, k1m1]
  instanceTypes := #[]
  staticTypes := #[]
  resolved := Array.replicate 54 none
  statics := none }

def pool2 : Array CpInfo := pool [(1, .class_ 2), (0, u "java/lang/Math"), (1, .class_ 6), (1, u "java/lang/Object"), (0, u "<init>"), (0, u "()V"), (89, .class_ 100), (1, u "java/lang/Math$RandomNumberGeneratorHolder"), (20, u "(JJ)J"), (50, u "negativeZeroFloatBits"), (0, u "J"), (2, u "negativeZeroDoubleBits"), (24, u "min"), (43, u "$assertionsDisabled"), (0, u "Z"), (91, u "twoToTheDoubleScaleDown"), (0, u "D"), (4, u "twoToTheDoubleScaleUp"), (9, u "E"), (3, u "PI"), (2, u "TAU"), (2, u "DEGREES_TO_RADIANS"), (0, u "RADIANS_TO_DEGREES")] 94

def k2m0 : Method := { name := "<init>", desc := "()V", sig := { parameters := [], returnType := none }, accessFlags := 2, code := none }
def k2c1 : Code := { maxStack := 4, maxLocals := 4, code := jdk_29_method_70_code, exceptionTable := #[], attributes := #[] }
def k2m1 : Method := { name := "min", desc := "(JJ)J", sig := { parameters := [.long, .long], returnType := some .long }, accessFlags := 9, code := some k2c1 }
/-- java/lang/Math -/
def k2 : Class := { plain "java/lang/Math" (some 0) with
  accessFlags := 49
  interfaces := #[]
  cf := some (fileOf pool2 1 #[.nestMembers #[98]] #[{ accessFlags := 2, nameIndex := 7, descriptorIndex := 8, attributes := #[] }, { accessFlags := 9, nameIndex := 201, descriptorIndex := 121, attributes := #[] }] 49 4 #[] #[{ accessFlags := 25, nameIndex := 354, descriptorIndex := 339, attributes := #[] }, { accessFlags := 25, nameIndex := 358, descriptorIndex := 339, attributes := #[] }, { accessFlags := 25, nameIndex := 361, descriptorIndex := 339, attributes := #[] }, { accessFlags := 26, nameIndex := 364, descriptorIndex := 339, attributes := #[] }, { accessFlags := 26, nameIndex := 365, descriptorIndex := 339, attributes := #[] }, { accessFlags := 26, nameIndex := 172, descriptorIndex := 173, attributes := #[] }, { accessFlags := 26, nameIndex := 176, descriptorIndex := 173, attributes := #[] }, { accessFlags := 8, nameIndex := 344, descriptorIndex := 339, attributes := #[] }, { accessFlags := 8, nameIndex := 338, descriptorIndex := 339, attributes := #[] }, { accessFlags := 4120, nameIndex := 245, descriptorIndex := 246, attributes := #[] }])
  fields := #[{ name := "E", type := .double, accessFlags := 25, slot := 0, constantValue := 0 }, { name := "PI", type := .double, accessFlags := 25, slot := 1, constantValue := 0 }, { name := "TAU", type := .double, accessFlags := 25, slot := 2, constantValue := 0 }, { name := "DEGREES_TO_RADIANS", type := .double, accessFlags := 26, slot := 3, constantValue := 0 }, { name := "RADIANS_TO_DEGREES", type := .double, accessFlags := 26, slot := 4, constantValue := 0 }, { name := "negativeZeroFloatBits", type := .long, accessFlags := 26, slot := 5, constantValue := 0 }, { name := "negativeZeroDoubleBits", type := .long, accessFlags := 26, slot := 6, constantValue := 0 }, { name := "twoToTheDoubleScaleUp", type := .double, accessFlags := 8, slot := 7, constantValue := 0 }, { name := "twoToTheDoubleScaleDown", type := .double, accessFlags := 8, slot := 8, constantValue := 0 }, { name := "$assertionsDisabled", type := .boolean, accessFlags := 4120, slot := 9, constantValue := 0 }]
  methods := #[k2m0, k2m1]
  instanceTypes := #[]
  staticTypes := #[.double, .double, .double, .double, .double, .long, .long, .double, .double, .boolean]
  resolved := Array.replicate 460 none
  statics := none }

def pool3 : Array CpInfo := pool [(1, .methodref 2 3), (0, .class_ 4), (0, .nameAndType 5 6), (0, u "java/lang/Object"), (0, u "<init>"), (0, u "()V"), (1, .class_ 10), (1, u "com/example/throttld/throttld/MemoryStore$Entry"), (0, u "atMs"), (0, u "J"), (0, u "BYTES"), (3, u "key"), (0, u "Ljava/lang/String;"), (0, u "hash"), (0, u "I"), (0, u "next"), (0, u "Lcom/example/throttld/throttld/MemoryStore$Entry;"), (7, .class_ 31), (0, u "com/example/throttld/throttld/MemoryStore")] 2

def k3c0 : Code := { maxStack := 1, maxLocals := 1, code := prog_21_method_1_code, exceptionTable := #[], attributes := #[] }
def k3m0 : Method := { name := "<init>", desc := "()V", sig := { parameters := [], returnType := none }, accessFlags := 0, code := some k3c0 }
/-- com/example/throttld/throttld/MemoryStore$Entry -/
def k3 : Class := { plain "com/example/throttld/throttld/MemoryStore$Entry" (some 0) with
  accessFlags := 1056
  interfaces := #[]
  cf := some (fileOf pool3 8 #[.nestHost 30] #[{ accessFlags := 0, nameIndex := 5, descriptorIndex := 6, attributes := #[] }] 1056 2 #[] #[{ accessFlags := 24, nameIndex := 13, descriptorIndex := 12, attributes := #[] }, { accessFlags := 2, nameIndex := 17, descriptorIndex := 18, attributes := #[] }, { accessFlags := 2, nameIndex := 19, descriptorIndex := 20, attributes := #[] }, { accessFlags := 2, nameIndex := 11, descriptorIndex := 12, attributes := #[] }, { accessFlags := 2, nameIndex := 21, descriptorIndex := 22, attributes := #[] }])
  fields := #[{ name := "BYTES", type := .long, accessFlags := 24, slot := 0, constantValue := 0 }, { name := "key", type := (.object "java/lang/String"), accessFlags := 2, slot := 0, constantValue := 0 }, { name := "hash", type := .int, accessFlags := 2, slot := 1, constantValue := 0 }, { name := "atMs", type := .long, accessFlags := 2, slot := 2, constantValue := 0 }, { name := "next", type := (.object "com/example/throttld/throttld/MemoryStore$Entry"), accessFlags := 2, slot := 3, constantValue := 0 }]
  methods := #[k3m0]
  instanceTypes := #[(.object "java/lang/String"), .int, .long, (.object "com/example/throttld/throttld/MemoryStore$Entry")]
  staticTypes := #[.long]
  resolved := Array.replicate 34 none
  statics := none }

def pool4 : Array CpInfo := pool [(1, .methodref 2 3), (0, .class_ 4), (0, .nameAndType 5 6), (0, u "com/example/throttld/throttld/MemoryStore$Entry"), (0, u "<init>"), (0, u "()V"), (0, .fieldref 8 9), (0, .class_ 10), (0, .nameAndType 11 12), (0, u "com/example/throttld/throttld/SlidingLog$Log"), (0, u "ring"), (0, u "[J"), (0, .long 32), (1, .long 8), (1, .fieldref 8 18), (0, .nameAndType 19 20), (0, u "head"), (0, u "I"), (0, .fieldref 8 22), (0, .nameAndType 23 20), (0, u "count"), (0, .methodref 8 25), (0, .nameAndType 26 27), (0, u "slot"), (0, u "(I)I"), (0, .long 2), (1, .methodref 31 32), (0, .class_ 33), (0, .nameAndType 34 35), (0, u "java/lang/Math"), (0, u "min"), (0, u "(JJ)J"), (0, u "(I)V"), (2, u "bytes"), (0, u "()J"), (3, u "(JJ)V"), (1, u "add"), (4, .class_ 52), (0, u "com/example/throttld/throttld/SlidingLog")] 5

def k4c0 : Code := { maxStack := 2, maxLocals := 2, code := prog_32_method_1_code, exceptionTable := #[], attributes := #[] }
def k4m0 : Method := { name := "<init>", desc := "(I)V", sig := { parameters := [.int], returnType := none }, accessFlags := 0, code := some k4c0 }
def k4c1 : Code := { maxStack := 6, maxLocals := 1, code := prog_32_method_2_code, exceptionTable := #[], attributes := #[] }
def k4m1 : Method := { name := "bytes", desc := "()J", sig := { parameters := [], returnType := some .long }, accessFlags := 0, code := some k4c1 }
def k4c2 : Code := { maxStack := 6, maxLocals := 7, code := prog_32_method_6_code, exceptionTable := #[], attributes := #[] }
def k4m2 : Method := { name := "add", desc := "(JJ)V", sig := { parameters := [.long, .long], returnType := none }, accessFlags := 0, code := some k4c2 }
def k4c3 : Code := { maxStack := 2, maxLocals := 3, code := prog_32_method_7_code, exceptionTable := #[], attributes := #[] }
def k4m3 : Method := { name := "slot", desc := "(I)I", sig := { parameters := [.int], returnType := some .int }, accessFlags := 2, code := some k4c3 }
/-- com/example/throttld/throttld/SlidingLog$Log -/
def k4 : Class := { plain "com/example/throttld/throttld/SlidingLog$Log" (some 3) with
  accessFlags := 48
  interfaces := #[]
  cf := some (fileOf pool4 8 #[.nestHost 51] #[{ accessFlags := 0, nameIndex := 5, descriptorIndex := 36, attributes := #[] }, { accessFlags := 0, nameIndex := 39, descriptorIndex := 40, attributes := #[] }, { accessFlags := 0, nameIndex := 46, descriptorIndex := 44, attributes := #[] }, { accessFlags := 2, nameIndex := 26, descriptorIndex := 27, attributes := #[] }] 48 2 #[] #[{ accessFlags := 2, nameIndex := 11, descriptorIndex := 12, attributes := #[] }, { accessFlags := 2, nameIndex := 19, descriptorIndex := 20, attributes := #[] }, { accessFlags := 2, nameIndex := 23, descriptorIndex := 20, attributes := #[] }])
  fields := #[{ name := "ring", type := (.array .long), accessFlags := 2, slot := 4, constantValue := 0 }, { name := "head", type := .int, accessFlags := 2, slot := 5, constantValue := 0 }, { name := "count", type := .int, accessFlags := 2, slot := 6, constantValue := 0 }]
  methods := #[k4m0, k4m1, k4m2, k4m3]
  instanceTypes := #[(.object "java/lang/String"), .int, .long, (.object "com/example/throttld/throttld/MemoryStore$Entry"), (.array .long), .int, .int]
  staticTypes := #[]
  resolved := Array.replicate 58 none
  statics := none }

def pool5 : Array CpInfo := pool [(1, u "java/lang/Cloneable"), (0, .class_ 1), (0, u "java/lang/Object"), (0, .class_ 3)] 3

/-- java/lang/Cloneable -/
def k5 : Class := { plain "java/lang/Cloneable" (some 0) with
  accessFlags := 1537
  interfaces := #[]
  cf := some (fileOf pool5 2 #[] #[] 1537 4 #[] #[])
  fields := #[]
  methods := #[]
  instanceTypes := #[]
  staticTypes := #[]
  resolved := Array.replicate 8 none
  statics := none }

def pool6 : Array CpInfo := pool [(1, u "java/io/Serializable"), (0, .class_ 1), (0, u "java/lang/Object"), (0, .class_ 3)] 3

/-- java/io/Serializable -/
def k6 : Class := { plain "java/io/Serializable" (some 0) with
  accessFlags := 1537
  interfaces := #[]
  cf := some (fileOf pool6 2 #[] #[] 1537 4 #[] #[])
  fields := #[]
  methods := #[]
  instanceTypes := #[]
  staticTypes := #[]
  resolved := Array.replicate 8 none
  statics := none }

/-- the primitive byte -/
def k7 : Class := { plain "byte" none with kind := .primitive 'B', accessFlags := 0x411 }
/-- [B -/
def k8 : Class := { plain "[B" (some 0) with kind := .array 7 .byte, interfaces := #[5, 6], accessFlags := 1041 }

/-- the primitive int -/
def k9 : Class := { plain "int" none with kind := .primitive 'I', accessFlags := 0x411 }
/-- [I -/
def k10 : Class := { plain "[I" (some 0) with kind := .array 9 .int, interfaces := #[5, 6], accessFlags := 1041 }

/-- the primitive long -/
def k11 : Class := { plain "long" none with kind := .primitive 'J', accessFlags := 0x411 }
/-- [J -/
def k12 : Class := { plain "[J" (some 0) with kind := .array 11 .long, interfaces := #[5, 6], accessFlags := 1041 }

def heap : Heap := #[]
def classes : Array Class := #[k0, k1, k2, k3, k4, k5, k6, k7, k8, k9, k10, k11, k12]
def interned : List (Array UInt16 × Addr) := []
def slotsUsed : Nat := 0
def theMethod : MethodId := ⟨1, 1⟩
def args0 : Array Value := #[.int 3, .int 4, .int 5, .long 8]
def aboutOver (below : List Frame) : State where
  vm := { classes := classes, interned := interned.toArray }
  heap := heap
  slotsUsed := slotsUsed
  threads := #[{ frames := .invoking theMethod args0 :: below }]
def below0 : List Frame := [.native { method := ⟨0, 0⟩, args := #[] }]
def about1 : State := aboutOver below0
def p0 : Program := .bare "" "" ""
def e0 : Env := launch0.env 0 0 0
theorem w_frames : about1.frames = Frame.invoking theMethod args0 :: below0 := rfl
set_option maxRecDepth 65536 in
theorem w_args : argsFit about1.vm theMethod args0 = true := by decide +kernel
set_option maxRecDepth 65536 in
theorem w_heap : heapFits about1 = true := by decide +kernel
set_option maxRecDepth 65536 in
theorem w_runnable : about1.curStatus? = some .runnable := by decide +kernel
set_option maxRecDepth 65536 in
theorem w_alone : about1.alone = true := by decide +kernel
set_option maxRecDepth 65536 in
theorem w_named : about1.methodNamed? x = some theMethod := by decide +kernel
set_option maxRecDepth 65536 in
theorem w_hears : about1.hears theMethod below0 = true := by decide +kernel
set_option maxRecDepth 65536 in
theorem w_ripe : about1.ripe theMethod args0 below0 = true := by decide +kernel
theorem w_running : about1.status = .running := rfl
set_option maxRecDepth 65536 in
theorem w_room : about1.hasRoom e0.platform room_1 = true :=
  launch0.hasRoom_least _ room_1 (by decide +kernel) (by decide +kernel) (by decide +kernel) (by decide +kernel) (by decide +kernel) (by decide +kernel)
theorem allAtoms_all (ts : List Jvm.Cond) (a : Array Jvm.Value) (st : Jvm.State) : (allAtoms ts).before a st = ts.all (fun c => c.before a st) := by
  induction ts with
  | nil => rfl
  | cons c t ih =>
    show (Jvm.Cond.and c (allAtoms t)).before a st = _
    rw [Jvm.Cond.before_and, ih, List.all_cons]
def words1 : List Jvm.Cond := Jvm.Cond.code x code maxLocals ret :: tables_1
/-- a 'code' word, met by the world's own term for the bytes: nothing is compared byte by byte -/
theorem code_word {y : MethodName} {bytes : ByteArray} {mx : Nat} {rt : Option FieldType} {a : Array Value} {s : State} {m : MethodId} {meth : Method} {c : Code} (h1 : s.methodNamed? y = some m) (h2 : s.vm.method? m = some meth) (h3 : meth.code = some c) (h4 : c.code = bytes)
    (h5 : (c.maxLocals == mx && c.exceptionTable.isEmpty && decide (c.maxStack ≤ mostOperands) && decide (meth.sig.returnType = rt) && !meth.locks && decide (parseMethodDescriptor y.desc = some meth.sig)) = true) : (Jvm.Cond.code y bytes mx rt).before a s = true := by
  simp only [Bool.and_eq_true, beq_iff_eq, Bool.not_eq_true', decide_eq_true_eq] at h5
  obtain ⟨⟨⟨⟨⟨g1, g2⟩, g3⟩, g4⟩, g5⟩, g6⟩ := h5
  simp [Cond.before, Cond.holds, Cond.value, h1, h2, h3, h4, g1, g2, g3, g4, g5, g6]
def isCode : Jvm.Cond → Bool
  | .code _ _ _ _ => true
  | _ => false
theorem all_split {L : List Jvm.Cond} {P : Jvm.Cond → Bool} (h1 : L.all (fun c => isCode c || P c) = true) (h2 : ∀ c ∈ L.filter isCode, P c = true) : L.all P = true := by
  refine List.all_eq_true.mpr fun c hc => ?_
  have h := List.all_eq_true.mp h1 c hc
  rcases Bool.eq_false_or_eq_true (isCode c) with hi | hi
  · exact h2 c (List.mem_filter.mpr ⟨hc, hi⟩)
  · simpa [hi] using h
set_option maxRecDepth 65536 in
theorem w_c0 : (Jvm.Cond.code x code maxLocals ret).before args0 about1 = true := code_word (m := ⟨1, 1⟩) (meth := k1m1) (c := k1c1) (by decide +kernel) rfl rfl rfl (by decide +kernel)
set_option maxRecDepth 65536 in
theorem w_c1 : (Jvm.Cond.code ({ cls := "java/lang/Math", name := "min", desc := "(JJ)J" } : Jvm.MethodName) jdk_29_method_70_code (4 : Nat) (Option.some Jvm.ClassFile.FieldType.long)).before args0 about1 = true := code_word (m := ⟨2, 1⟩) (meth := k2m1) (c := k2c1) (by decide +kernel) rfl rfl rfl (by decide +kernel)
set_option maxRecDepth 65536 in
theorem w_c2 : (Jvm.Cond.code ({ cls := "com/example/throttld/throttld/SlidingLog$Log", name := "<init>", desc := "(I)V" } : Jvm.MethodName) prog_32_method_1_code (2 : Nat) (Option.none : Option Jvm.ClassFile.FieldType)).before args0 about1 = true := code_word (m := ⟨4, 0⟩) (meth := k4m0) (c := k4c0) (by decide +kernel) rfl rfl rfl (by decide +kernel)
set_option maxRecDepth 65536 in
theorem w_c3 : (Jvm.Cond.code ({ cls := "com/example/throttld/throttld/MemoryStore$Entry", name := "<init>", desc := "()V" } : Jvm.MethodName) prog_21_method_1_code (1 : Nat) (Option.none : Option Jvm.ClassFile.FieldType)).before args0 about1 = true := code_word (m := ⟨3, 0⟩) (meth := k3m0) (c := k3c0) (by decide +kernel) rfl rfl rfl (by decide +kernel)
set_option maxRecDepth 65536 in
theorem w_c4 : (Jvm.Cond.code ({ cls := "java/lang/Object", name := "<init>", desc := "()V" } : Jvm.MethodName) object_method_1_code (1 : Nat) (Option.none : Option Jvm.ClassFile.FieldType)).before args0 about1 = true := code_word (m := ⟨0, 0⟩) (meth := k0m0) (c := k0c0) (by decide +kernel) rfl rfl rfl (by decide +kernel)
set_option maxRecDepth 65536 in
theorem w_c5 : (Jvm.Cond.code ({ cls := "com/example/throttld/throttld/SlidingLog$Log", name := "bytes", desc := "()J" } : Jvm.MethodName) prog_32_method_2_code (1 : Nat) (Option.some Jvm.ClassFile.FieldType.long)).before args0 about1 = true := code_word (m := ⟨4, 1⟩) (meth := k4m1) (c := k4c1) (by decide +kernel) rfl rfl rfl (by decide +kernel)
set_option maxRecDepth 65536 in
theorem w_c6 : (Jvm.Cond.code ({ cls := "com/example/throttld/throttld/SlidingLog$Log", name := "add", desc := "(JJ)V" } : Jvm.MethodName) prog_32_method_6_code (7 : Nat) (Option.none : Option Jvm.ClassFile.FieldType)).before args0 about1 = true := code_word (m := ⟨4, 2⟩) (meth := k4m2) (c := k4c2) (by decide +kernel) rfl rfl rfl (by decide +kernel)
set_option maxRecDepth 65536 in
theorem w_c7 : (Jvm.Cond.code ({ cls := "com/example/throttld/throttld/SlidingLog$Log", name := "slot", desc := "(I)I" } : Jvm.MethodName) prog_32_method_7_code (3 : Nat) (Option.some Jvm.ClassFile.FieldType.int)).before args0 about1 = true := code_word (m := ⟨4, 3⟩) (meth := k4m3) (c := k4c3) (by decide +kernel) rfl rfl rfl (by decide +kernel)
def codes1 : List Jvm.Cond := [Jvm.Cond.code x code maxLocals ret, Jvm.Cond.code ({ cls := "java/lang/Math", name := "min", desc := "(JJ)J" } : Jvm.MethodName) jdk_29_method_70_code (4 : Nat) (Option.some Jvm.ClassFile.FieldType.long), Jvm.Cond.code ({ cls := "com/example/throttld/throttld/SlidingLog$Log", name := "<init>", desc := "(I)V" } : Jvm.MethodName) prog_32_method_1_code (2 : Nat) (Option.none : Option Jvm.ClassFile.FieldType), Jvm.Cond.code ({ cls := "com/example/throttld/throttld/MemoryStore$Entry", name := "<init>", desc := "()V" } : Jvm.MethodName) prog_21_method_1_code (1 : Nat) (Option.none : Option Jvm.ClassFile.FieldType), Jvm.Cond.code ({ cls := "java/lang/Object", name := "<init>", desc := "()V" } : Jvm.MethodName) object_method_1_code (1 : Nat) (Option.none : Option Jvm.ClassFile.FieldType), Jvm.Cond.code ({ cls := "com/example/throttld/throttld/SlidingLog$Log", name := "bytes", desc := "()J" } : Jvm.MethodName) prog_32_method_2_code (1 : Nat) (Option.some Jvm.ClassFile.FieldType.long), Jvm.Cond.code ({ cls := "com/example/throttld/throttld/SlidingLog$Log", name := "add", desc := "(JJ)V" } : Jvm.MethodName) prog_32_method_6_code (7 : Nat) (Option.none : Option Jvm.ClassFile.FieldType), Jvm.Cond.code ({ cls := "com/example/throttld/throttld/SlidingLog$Log", name := "slot", desc := "(I)I" } : Jvm.MethodName) prog_32_method_7_code (3 : Nat) (Option.some Jvm.ClassFile.FieldType.int)]
set_option maxRecDepth 65536 in
theorem codes_eq : words1.filter isCode = codes1 := rfl
theorem w_codes : ∀ c ∈ words1.filter isCode, c.before args0 about1 = true := by
  rw [codes_eq]
  intro c hc
  simp only [codes1, List.mem_cons, List.not_mem_nil, or_false] at hc
  rcases hc with rfl | rfl | rfl | rfl | rfl | rfl | rfl | rfl
  · exact w_c0
  · exact w_c1
  · exact w_c2
  · exact w_c3
  · exact w_c4
  · exact w_c5
  · exact w_c6
  · exact w_c7
set_option maxRecDepth 65536 in
theorem w_t1 : (words1.take 24).all (fun c => isCode c || c.before args0 about1) = true := by decide +kernel
set_option maxRecDepth 65536 in
theorem w_t2 : ((words1.drop 24).take 24).all (fun c => isCode c || c.before args0 about1) = true := by decide +kernel
set_option maxRecDepth 65536 in
theorem w_t3 : ((words1.drop 24).drop 24).all (fun c => isCode c || c.before args0 about1) = true := by decide +kernel
theorem w_tables : (allAtoms (Jvm.Cond.code x code maxLocals ret :: tables_1)).before args0 about1 = true := by
  rw [allAtoms_all]
  show words1.all (fun c => c.before args0 about1) = true
  refine all_split ?_ w_codes
  rw [← List.take_append_drop 24 words1, List.all_append, w_t1, ← List.take_append_drop 24 (words1.drop 24), List.all_append, w_t2, w_t3]
  rfl
set_option maxRecDepth 65536 in
theorem w_case : (Jvm.Cond.and given_1 narrow_1).before args0 about1 = true := by decide +kernel
theorem w_applies : (headSpec (Jvm.Cond.code x code maxLocals ret :: tables_1) room_1).applies x e0.platform about1 = true :=
  (Spec.applies_iff w_frames).mpr ⟨w_running, w_runnable, w_alone, w_named, w_hears, w_ripe, w_room, w_tables⟩
theorem atStart : AtStart classFile x code maxLocals ret World_1 tables_1 room_1 Calls_1 rest_1 Pre_1 launch0 p0 e0 about1 theMethod args0 below0 :=
  ⟨lists_1, trivial, launch0.admits_env _ _ _, launch0.least_env, fairChoices_fair.cas, fairChoices_fair.clock, w_frames, w_args, w_heap, w_applies, trivial, trivial, w_case⟩
end start1
theorem witness_1 : WitnessClaimed_1 := ⟨start1.p0, start1.e0, start1.about1, start1.theMethod, start1.args0, start1.below0, start1.atStart⟩
end Jvm.Pilot.@@N@@
